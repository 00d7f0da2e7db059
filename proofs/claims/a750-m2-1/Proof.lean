import JvmDerived
import JvmDerived.Pilot.@@N@@Statement
import JvmDerived.Pilot.@@N@@Code
set_option linter.unusedVariables false
set_option linter.unusedSimpArgs false
namespace Jvm.Ow
open Jvm Jvm.ClassFile Sem Op Lib Jvm.Free Jvm.Stand Jvm.LawKit Jvm.RoadKit Bundle
theorem ltA {a b : Nat} (h : a < b) : a < b := h
theorem leA {a b : Nat} (h : a ≤ b) : a ≤ b := h
theorem neA {a b : Nat} (h : a ≠ b) : a ≠ b := h
section Base
variable {p : Program} {l : Launch} {e : Env} {R : Room} {s : State} {m : MethodId} {args : Array Value} {below : List Frame} {meth : Method} {c : Code} {own : String} {Z : State} {a0 : Array Value} {EL : List (String × Nat)} {h0 : Heap} {T : State} {h h' : Heap} {vm vm' : Vm} {cells slots : Nat} {P : Outcome → State → Prop} {g : JFrame}
/-- from t the invocation comes to an end at which P holds -/
def Gets (p : Program) (e : Env) (below : List Frame) (P : Outcome → State → Prop) (t : State) : Prop := ∃ u o, Steps p.tables e below t u ∧ u.status = .running ∧ Ended u below o ∧ P o u
theorem Gets.via {t t' : State} (h : ∀ u, Steps p.tables e below t' u → Steps p.tables e below t u) (k : Gets p e below P t') : Gets p e below P t := by
  obtain ⟨u, o, h1, h2⟩ := k
  exact ⟨u, o, h _ h1, h2⟩
theorem Gets.steps {t t' : State} (h : Steps p.tables e below t t') (k : Gets p e below P t') : Gets p e below P t := k.via fun _ q => h.trans q
/-- where a walk stands: over the start with the tables at hand; what it may have interned; what the literals hold; nothing of the law's start written -/
def Wk (p : Program) (l : Launch) (e : Env) (R : Room) (s : State) (m : MethodId) (args : Array Value) (below : List Frame) (meth : Method) (c : Code) (own : String) (Z : State) (a0 : Array Value) (EL : List (String × Nat)) (h0 : Heap) (T : State) (h : Heap) (vm : Vm) (cells slots : Nat) : Prop :=
  ∃ (locs : List Loc) (k : Nat), Stand p l e R (s.setVm vm) m args below meth c T locs cells slots ∧ T.heap = h ∧ s.Since vm k ∧ k ≤ h.size ∧ Z.Warmed39 vm ∧ vm.findClass own = some m.cls ∧ CHr Z EL s.vm h0 vm h ∧ Fr Z.heap.size locs ∧ Old Z Z.heap.size h ∧ p.tables.exec = Jvm.exec ∧ EW Z a0 EL ∧ s.heap = h0 ∧ meth.locks = false
/-- what an invocation leaves -/
def Out (s : State) (Z : State) (EL : List (String × Nat)) (rm : Room) (Q : Option Value → Heap → Prop) (o : Outcome) (u : State) : Prop :=
  ∃ (v : Option Value) (L : List Loc), o = .returned v ∧ (Q v u.heap ∧ Fr Z.heap.size L ∧ Old Z Z.heap.size u.heap) ∧ CHr Z EL s.vm s.heap u.vm u.heap ∧ ReturnedEndW s o u L rm.cells rm.slots
/-- a contract -/
def Met (l : Launch) (Z : State) (EL : List (String × Nat)) (y : MethodName) (bytes : ByteArray) (maxL : Nat) (ret : Option FieldType) (ws : List Jvm.Cond) (rm : Room) (sf : List Addr) (as : Array Value) (h : Heap) (Q : Option Value → Heap → Prop) : Prop :=
  MetFree l y (head1 (Jvm.Cond.code y bytes maxL ret :: ws) rm) (fun a U => a = as ∧ Z.Warmed39 U.vm ∧ U.heap = h ∧ CHv Z EL U.vm h ∧ ∀ x ∈ sf, Safe Z EL U.vm h x) (fun _ _ _ _ _ => True) (fun _ U o U' => Out U Z EL rm Q o U')
theorem Met.start {y : MethodName} {bytes : ByteArray} {maxL : Nat} {ret : Option FieldType} {ws : List Jvm.Cond} {rm : Room} {sf : List Addr} {as : Array Value} {Q : Option Value → Heap → Prop} (hp : plainName y.cls = true) (hEL : EW Z a0 EL) (hO : Old Z Z.heap.size h) {Ls : Array Slot} (hent : ∀ m, entryFrame m as maxL = mkF m 0 Ls [])
    (body : ∀ p e s m below meth c T vm, Wk p l e rm s m as below meth c y.cls Z a0 EL h T h vm 0 0 → (∀ x ∈ sf, Safe Z EL vm h x) → c.code = bytes → c.maxLocals = maxL → meth.sig.returnType = ret → meth.name = y.name → Gets p e below (Out s Z EL rm Q) (T.setTop (mkF m 0 Ls []))) :
    Met l Z EL y bytes maxL ret ws rm sf as h Q := by
  refine MetFree.of_bodySF (plainFor_of_name hp) hisR ?_
  intro p e s m args below meth c s₁ Bd hml0 hP hK
  obtain ⟨rfl, hZ, hh, hC, hsf⟩ := hP
  have e0 : s₁.heap = h := by rw [← hh, Bd.state]; rfl
  have X0 : Stand p l e rm s m args below meth c s₁ [] 0 0 := Stand.of_body Bd
  have hown : s.vm.findClass y.cls = some m.cls := findClass_of_methodNamed Bd.named
  have W0 : Wk p l e rm s m args below meth c y.cls Z a0 EL h s₁ h s.vm 0 0 :=
    ⟨[], 0, X0, e0, ⟨State.Warmed39.refl s, fun j q hj hq => absurd (Array.getElem?_eq_some_iff.mp hq).1 (Nat.not_lt.mpr hj)⟩, Nat.zero_le _, hZ, hown, CHr.refl hC, Fr.nil _, hO, Bd.exec, hEL, hh, Bd.notSynchronized⟩
  have k := body p e s m below meth c s₁ s.vm W0 hsf Bd.bytes hml0 Bd.returns (name_of_methodNamed Bd.named Bd.method).1
  obtain ⟨u, o, h1, h2, h3, h4⟩ := k
  exact ⟨u, o, castTop (hent m) h1, h2, h3, h4⟩
theorem Wk.at (X : Wk p l e R s m args below meth c own Z a0 EL h0 T h vm cells slots) : At T m c below := by obtain ⟨_, _, X, -⟩ := X; exact X.here
theorem Wk.hx (X : Wk p l e R s m args below meth c own Z a0 EL h0 T h vm cells slots) : p.tables.exec = Jvm.exec := by obtain ⟨_, _, -, -, -, -, -, -, -, -, -, q, -⟩ := X; exact q
theorem Wk.hZ (X : Wk p l e R s m args below meth c own Z a0 EL h0 T h vm cells slots) : Z.Warmed39 vm := by obtain ⟨_, _, -, -, -, -, q, -⟩ := X; exact q
theorem Wk.eT (X : Wk p l e R s m args below meth c own Z a0 EL h0 T h vm cells slots) : T.heap = h := by obtain ⟨_, _, -, q, -⟩ := X; exact q
theorem Wk.old (X : Wk p l e R s m args below meth c own Z a0 EL h0 T h vm cells slots) : Old Z Z.heap.size h := by obtain ⟨_, _, -, -, -, -, -, -, -, -, q, -⟩ := X; exact q
theorem Wk.chv (X : Wk p l e R s m args below meth c own Z a0 EL h0 T h vm cells slots) : CHv Z EL vm h := by obtain ⟨_, _, -, -, -, -, -, -, q, -⟩ := X; exact q.1
theorem Wk.ew (X : Wk p l e R s m args below meth c own Z a0 EL h0 T h vm cells slots) : EW Z a0 EL := by obtain ⟨_, _, -, -, -, -, -, -, -, -, -, -, q, -⟩ := X; exact q
theorem Wk.ge (X : Wk p l e R s m args below meth c own Z a0 EL h0 T h vm cells slots) : Z.heap.size ≤ h.size := X.old.2.1
theorem Wk.sta (X : Wk p l e R s m args below meth c own Z a0 EL h0 T h vm cells slots) {C n d : String} {v : Value} (F : Sta Z Z.heap C n d v) : Sta Z h C n d v := F.ext X.old.2
theorem Wk.more (X : Wk p l e R s m args below meth c own Z a0 EL h0 T h vm cells slots) {cells' slots' : Nat} (q1 : cells ≤ cells') (q2 : slots ≤ slots') : Wk p l e R s m args below meth c own Z a0 EL h0 T h vm cells' slots' := by
  obtain ⟨locs, k, Y, r⟩ := X; exact ⟨locs, k, Y.mono q1 q2, r⟩
/-- a step that leaves heap and base -/
theorem Wk.still (X : Wk p l e R s m args below meth c own Z a0 EL h0 T h vm cells slots) {T' : State} (hY : ∀ locs, Stand p l e R (s.setVm vm) m args below meth c T locs cells slots → Stand p l e R (s.setVm vm) m args below meth c T' locs cells slots) (hT : T'.heap = h) : Wk p l e R s m args below meth c own Z a0 EL h0 T' h vm cells slots := by
  obtain ⟨locs, k, Y, -, r⟩ := X; exact ⟨locs, k, hY _ Y, hT, r⟩
theorem Wk.getF (X : Wk p l e R s m args below meth c own Z a0 EL h0 T h vm cells slots) {R0 O n d host : String} {index : Nat} (w : (Jvm.Cond.fieldLink own index R0 n d).before a0 Z = true ∨ (Jvm.Cond.fieldLinkNest own index R0 n d host).before a0 Z = true) (via : Via Z R0 O n d) {a : Addr} {v : Value} (F : Fld Z h a O n d v)
    (hg : g.method = m) {rest : List Value} (hs : g.stack = .ref a :: rest) (hd : decode c.code g.pc = .ok (.getfield index, 3))
    (k : ∀ T', Wk p l e R s m args below meth c own Z a0 EL h0 T' h vm cells slots → Gets p e below P (T'.setTop { g with pc := g.pc + 3, stack := v :: rest })) : Gets p e below P (T.setTop g) := by
  obtain ⟨locs, j, Y, eT, hS, hk, hZ, hown, hC, N, hO, hx, r⟩ := X
  obtain ⟨T', Y', e', st⟩ := RoadKit.getF Y hx hZ hown w via eT F hg hs hd
  exact (k T' ⟨locs, j, Y', e', hS, hk, hZ, hown, hC, N, hO, hx, r⟩).via st
theorem Wk.getS (X : Wk p l e R s m args below meth c own Z a0 EL h0 T h vm cells slots) {R0 O n d : String} {index : Nat} (w : (Jvm.Cond.fieldLink own index R0 n d).before a0 Z = true) (via : Via Z R0 O n d) {v : Value} (F : Sta Z h O n d v)
    (hg : g.method = m) (hd : decode c.code g.pc = .ok (.getstatic index, 3))
    (k : ∀ T', Wk p l e R s m args below meth c own Z a0 EL h0 T' h vm cells slots → Gets p e below P (T'.setTop { g with pc := g.pc + 3, stack := v :: g.stack })) : Gets p e below P (T.setTop g) := by
  obtain ⟨locs, j, Y, eT, hS, hk, hZ, hown, hC, N, hO, hx, r⟩ := X
  obtain ⟨T', Y', e', st⟩ := RoadKit.getS (host := "") Y hx hZ hown w via eT F hg hd
  exact (k T' ⟨locs, j, Y', e', hS, hk, hZ, hown, hC, N, hO, hx, r⟩).via st
theorem Wk.cast (X : Wk p l e R s m args below meth c own Z a0 EL h0 T h vm cells slots) {K : String} {index : Nat} (w : (Jvm.Cond.classLink own index K).before a0 Z = true) {a : Addr} (F : Ins Z h a K true)
    (hg : g.method = m) {rest : List Value} (hs : g.stack = .ref a :: rest) (hd : decode c.code g.pc = .ok (.checkcast index, 3))
    (k : ∀ T', Wk p l e R s m args below meth c own Z a0 EL h0 T' h vm cells slots → Gets p e below P (T'.setTop { g with pc := g.pc + 3 })) : Gets p e below P (T.setTop g) := by
  obtain ⟨locs, j, Y, eT, hS, hk, hZ, hown, hC, N, hO, hx, r⟩ := X
  obtain ⟨T', Y', e', st⟩ := RoadKit.castY Y hx hZ hown w eT F hg hs hd
  exact (k T' ⟨locs, j, Y', e', hS, hk, hZ, hown, hC, N, hO, hx, r⟩).via st
theorem Wk.inst (X : Wk p l e R s m args below meth c own Z a0 EL h0 T h vm cells slots) {K : String} {index : Nat} (w : (Jvm.Cond.classLink own index K).before a0 Z = true) {a : Addr} (F : Ins Z h a K true)
    (hg : g.method = m) {rest : List Value} (hs : g.stack = .ref a :: rest) (hd : decode c.code g.pc = .ok (.instanceof index, 3))
    (k : ∀ T', Wk p l e R s m args below meth c own Z a0 EL h0 T' h vm cells slots → Gets p e below P (T'.setTop { g with pc := g.pc + 3, stack := .int 1 :: rest })) : Gets p e below P (T.setTop g) := by
  obtain ⟨locs, j, Y, eT, hS, hk, hZ, hown, hC, N, hO, hx, r⟩ := X
  obtain ⟨T', Y', e', st⟩ := RoadKit.instY Y hx hZ hown w eT F hg hs hd
  exact (k T' ⟨locs, j, Y', e', hS, hk, hZ, hown, hC, N, hO, hx, r⟩).via st
theorem Wk.objInit (X : Wk p l e R s m args below meth c own Z a0 EL h0 T h vm cells slots) {idx : Nat} (w1 : (Jvm.Cond.methodLink own idx Lib.objectInit).before a0 Z = true) (w2 : (Jvm.Cond.instanceMethod Lib.objectInit).before a0 Z = true) (w3 : (Jvm.Cond.code Lib.objectInit ⟨#[0xb1]⟩ 1 none).before a0 Z = true)
    (hg : g.method = m) (hsize : g.locals.size = c.maxLocals) {a : Addr} {rest : List Value} (hs : g.stack = .ref a :: rest) (hd : decode c.code g.pc = .ok (.invokespecial idx, 3)) (hf : 1 ≤ R.frames) {W : Nat} (hW : 2 * g.monitorRoom + (rest.map fun v => v.category).sum ≤ W) (hl : W + 12 ≤ R.locals)
    (k : ∀ T', Wk p l e R s m args below meth c own Z a0 EL h0 T' h vm cells slots → Gets p e below P (T'.setTop { g with pc := g.pc + 3, stack := rest })) : Gets p e below P (T.setTop g) := by
  obtain ⟨locs, j, Y, eT, hS, hk, hZ, hown, hC, N, hO, hx, r⟩ := X
  obtain ⟨T', Y', e', st⟩ := RoadKit.initO Y hx hZ hown w1 w2 w3 eT hg hsize hs hd hf hW hl
  exact (k T' ⟨locs, j, Y', e', hS, hk, hZ, hown, hC, N, hO, hx, r⟩).via st
theorem Wk.new (X : Wk p l e R s m args below meth c own Z a0 EL h0 T h vm cells slots) {C : String} {index n : Nat} (w : (Jvm.Cond.classLink own index C).before a0 Z = true) (wi : (Jvm.Cond.instantiable C n).before a0 Z = true) (wz : (Jvm.Cond.initialized C).before a0 Z = true)
    (hg : g.method = m) (hd : decode c.code g.pc = .ok (.new index, 3)) (hc : cells + 1 ≤ R.cells) (hl : slots + n ≤ R.slots)
    (k : ∀ T' h' a, Wk p l e R s m args below meth c own Z a0 EL h0 T' h' vm (cells + 1) (slots + n) → CHr Z EL vm h vm h' → Ext h h' → a = h.size → Exa Z h' a C → Safe Z EL vm h' a → (∀ {O nm d : String} {ty : FieldType}, Laid Z a0 C O nm d → parseFieldDescriptor d = some ty → Fld Z h' a O nm d (defaultValue ty)) → Gets p e below P (T'.setTop { g with pc := g.pc + 3, stack := .ref a :: g.stack })) : Gets p e below P (T.setTop g) := by
  obtain ⟨locs, j, Y, eT, hS, hk, hZ, hown, hC, N, hO, hx, r⟩ := X
  obtain ⟨T', h', Y', e', E, A, D, -, st⟩ := RoadKit.newO Y hx hZ hown w wi wz eT hg hd hc hl
  have C1 : CHr Z EL vm h vm h' := CHr.ext E hC.1
  exact (k T' h' h.size ⟨locs, j, Y', e', hS, Nat.le_trans hk E.1, hZ, hown, hC.trans C1, N, hO.ext E, hx, r⟩ C1 E rfl A (Safe.ext E hC.1 (Safe.new (Nat.le_refl _))) D).via st
theorem Wk.newA (X : Wk p l e R s m args below meth c own Z a0 EL h0 T h vm cells slots) {aty : ArrayType} (w : (Jvm.Cond.arrayClass (newarray.typeOf aty)).before a0 Z = true) (hg : g.method = m) (hd : decode c.code g.pc = .ok (.newarray aty, 2)) {n : Int32} {rest : List Value} (hs : g.stack = .int n :: rest)
    (hn : ¬ n < 0) {cap : Nat} (hcap : n.toNatClampNeg ≤ cap) (hb : cap * 8 ≤ 536870912) (hc : cells + 1 ≤ R.cells) (hl : slots + cap ≤ R.slots)
    (k : ∀ T' h' a kc, Wk p l e R s m args below meth c own Z a0 EL h0 T' h' vm (cells + 1) (slots + cap) → CHr Z EL vm h vm h' → Ext h h' → a = h.size → Safe Z EL vm h' a → Arv Z h' a kc (newarray.typeOf aty) n [] (defaultValue (newarray.typeOf aty)) → Gets p e below P (T'.setTop { g with pc := g.pc + 2, stack := .ref a :: rest })) : Gets p e below P (T.setTop g) := by
  obtain ⟨locs, j, Y, eT, hS, hk, hZ, hown, hC, N, hO, hx, r⟩ := X
  obtain ⟨T', h', kc, Y', e', E, A, st⟩ := RoadKit.newP Y hx hZ w eT hg hd hs hn hcap hb hc hl
  have C1 : CHr Z EL vm h vm h' := CHr.ext E hC.1
  exact (k T' h' h.size kc ⟨locs, j, Y', e', hS, Nat.le_trans hk E.1, hZ, hown, hC.trans C1, N, hO.ext E, hx, r⟩ C1 E rfl (Safe.ext E hC.1 (Safe.new (Nat.le_refl _))) (Arv.new A hn)).via st
theorem Wk.putF (X : Wk p l e R s m args below meth c own Z a0 EL h0 T h vm cells slots) {R0 O n d host C : String} {index kk : Nat} {ty : FieldType} (w : (Jvm.Cond.fieldLink own index R0 n d).before a0 Z = true ∨ (Jvm.Cond.fieldLinkNest own index R0 n d host).before a0 Z = true) (via : Via Z R0 O n d)
    {a : Addr} {v old : Value} (F : Fld Z h a O n d old) (E : Exa Z h a C) (L : (Jvm.Cond.lays C O n d).before a0 Z = true ∨ ((Jvm.Cond.laysFinal C O n d).before a0 Z = true ∧ own = O ∧ meth.name = "<init>")) (wi : (Jvm.Cond.instantiable C kk).before a0 Z = true)
    (hty : parseFieldDescriptor d = some ty) (hn : narrow ty v = v) (hf : fits ty v = true) (hge : Z.heap.size ≤ a) (S : Safe Z EL vm h a) (hg : g.method = m) {rest : List Value} (hs : g.stack = v :: .ref a :: rest) (hd : decode c.code g.pc = .ok (.putfield index, 3))
    (k : ∀ T' h', Wk p l e R s m args below meth c own Z a0 EL h0 T' h' vm cells slots → CHr Z EL vm h vm h' → Wr h h' a (RoadKit.slotOf Z O n d) v → Fld Z h' a O n d v → Exa Z h' a C → Gets p e below P (T'.setTop { g with pc := g.pc + 3, stack := rest })) : Gets p e below P (T.setTop g) := by
  obtain ⟨locs, j, Y, eT, hS, hk, hZ, hown, hC, N, hO, hx, r⟩ := X
  obtain ⟨T', h', Y', e', W, st⟩ := RoadKit.putF Y hx hZ hown w via eT F E L wi hty hn hf hg hs hd
  have C1 : CHr Z EL vm h vm h' := CHr.wr W S hC.1
  exact (k T' h' ⟨_, j, Y', e', hS, Nat.le_trans hk (Nat.le_of_eq W.size.symm), hZ, hown, hC.trans C1, Fr.snoc Y' N hge, hO.wr W hge, hx, r⟩ C1 W (F.same W) (E.wr W)).via st
theorem padN {k : ClassId} {ty : FieldType} {z : Int32} {d : Value} {a : Addr} (F : Arv Z h a k ty z [] d) (n : Nat) : Arv Z h a k ty z (List.replicate n d) d := F.pad fun i => by
  rw [List.getD_eq_getElem?_getD, List.getElem?_replicate]; split <;> simp
theorem Wk.stC (X : Wk p l e R s m args below meth c own Z a0 EL h0 T h vm cells slots) {a : Addr} {kc : ClassId} {n : Int32} {vs : List Value} {dv : Value} (A : Arv Z h a kc .char n vs dv) {j x : Int32} {i : Nat} (hj0 : ¬ j < 0) (hj : j.toNatClampNeg = i) (hi : i < vs.length) (hin : i < n.toNatClampNeg) {v : Int32} (hv : nar .char x = v)
    (hge : Z.heap.size ≤ a) (hg : g.method = m) {rest : List Value} (hs : g.stack = .int x :: .int j :: .ref a :: rest) (hd : decode c.code g.pc = .ok (.castore, 1))
    (k : ∀ T' h', Wk p l e R s m args below meth c own Z a0 EL h0 T' h' vm cells slots → CHr Z EL vm h vm h' → Keep h h' [a] → Arv Z h' a kc .char n (vs.set i (.int v)) dv → Gets p e below P (T'.setTop { g with pc := g.pc + 1, stack := rest })) : Gets p e below P (T.setTop g) := by
  obtain ⟨locs, j', Y, eT, hS, hk, hZ, hown, hC, N, hO, hx, r⟩ := X
  obtain ⟨cl, A1, A2, A3, A4, A5, A6⟩ := A
  obtain ⟨T', h', Y', e', W, st⟩ := RoadKit.stC Y hx hZ eT A1 (j := j) (x := x) (fun q => q.elim hj0 (fun q => by rw [A3, hj] at q; omega)) hg hs hd
  have C1 : CHr Z EL vm h vm h' := CHr.wr W (Safe.arr hZ.alike A1 (by decide)) hC.1
  subst hv
  exact (k T' h' ⟨_, j', Y', e', hS, Nat.le_trans hk (Nat.le_of_eq W.size.symm), hZ, hown, hC.trans C1, Fr.snoc Y' N hge, hO.wr W hge, hx, r⟩ C1 (Keep.of_wr W) (Arv.set A1 A2 A3 A4 A5 A6 (fits_nar_char x) W i hj hi)).via st
theorem Wk.stB (X : Wk p l e R s m args below meth c own Z a0 EL h0 T h vm cells slots) {a : Addr} {kc : ClassId} {n : Int32} {vs : List Value} {dv : Value} (A : Arv Z h a kc .byte n vs dv) {j x : Int32} {i : Nat} (hj0 : ¬ j < 0) (hj : j.toNatClampNeg = i) (hi : i < vs.length) (hin : i < n.toNatClampNeg) {v : Int32} (hv : nar .byte x = v) (S : Safe Z EL vm h a)
    (hge : Z.heap.size ≤ a) (hg : g.method = m) {rest : List Value} (hs : g.stack = .int x :: .int j :: .ref a :: rest) (hd : decode c.code g.pc = .ok (.bastore, 1))
    (k : ∀ T' h', Wk p l e R s m args below meth c own Z a0 EL h0 T' h' vm cells slots → CHr Z EL vm h vm h' → Keep h h' [a] → Arv Z h' a kc .byte n (vs.set i (.int v)) dv → Gets p e below P (T'.setTop { g with pc := g.pc + 1, stack := rest })) : Gets p e below P (T.setTop g) := by
  obtain ⟨locs, j', Y, eT, hS, hk, hZ, hown, hC, N, hO, hx, r⟩ := X
  obtain ⟨cl, A1, A2, A3, A4, A5, A6⟩ := A
  obtain ⟨T', h', Y', e', W, st⟩ := RoadKit.stB Y hx hZ eT A1 (j := j) (x := x) (fun q => q.elim hj0 (fun q => by rw [A3, hj] at q; omega)) hg hs hd
  have C1 : CHr Z EL vm h vm h' := CHr.wr W S hC.1
  subst hv
  exact (k T' h' ⟨_, j', Y', e', hS, Nat.le_trans hk (Nat.le_of_eq W.size.symm), hZ, hown, hC.trans C1, Fr.snoc Y' N hge, hO.wr W hge, hx, r⟩ C1 (Keep.of_wr W) (Arv.set A1 A2 A3 A4 A5 A6 (fits_nar_byte x) W i hj hi)).via st
theorem Wk.alen (X : Wk p l e R s m args below meth c own Z a0 EL h0 T h vm cells slots) {a : Addr} {kc : ClassId} {ty : FieldType} {n : Int32} {vs : List Value} {dv : Value} (A : Arv Z h a kc ty n vs dv)
    (hg : g.method = m) {rest : List Value} (hs : g.stack = .ref a :: rest) (hd : decode c.code g.pc = .ok (.arraylength, 1))
    (k : Gets p e below P (T.setTop { g with pc := g.pc + 1, stack := .int n :: rest })) : Gets p e below P (T.setTop g) := by
  obtain ⟨locs, j', Y, eT, hS, hk, hZ, hown, hC, N, hO, hx, r⟩ := X
  obtain ⟨cl, A1, A2, A3, A4, A5, A6⟩ := A
  refine k.via fun u q => ?_
  refine Y.arraylength hx (by rw [eT]; exact A1.1) (State.isArrayOf_alike hZ.alike A1.2.1) hg hs hd _ ?_
  rw [A3, (back32 A4).1]; exact q
theorem Wk.ldC (X : Wk p l e R s m args below meth c own Z a0 EL h0 T h vm cells slots) {a : Addr} {kc : ClassId} {n : Int32} {vs : List Value} {dv v : Value} (A : Arv Z h a kc .char n vs dv) {j : Int32} {i : Nat} (hj0 : ¬ j < 0) (hj : j.toNatClampNeg = i) (hin : i < n.toNatClampNeg) (hv : vs.getD i dv = v)
    (hg : g.method = m) {rest : List Value} (hs : g.stack = .int j :: .ref a :: rest) (hd : decode c.code g.pc = .ok (.caload, 1))
    (k : Gets p e below P (T.setTop { g with pc := g.pc + 1, stack := v :: rest })) : Gets p e below P (T.setTop g) := by
  obtain ⟨locs, j', Y, eT, hS, hk, hZ, hown, hC, N, hO, hx, r⟩ := X
  obtain ⟨cl, A1, A2, A3, A4, A5, A6⟩ := A
  refine k.via fun u q => ?_
  exact Y.caload hx (j := j) (v := v) (by rw [eT]; exact A1.1) (State.isArrayOf_alike hZ.alike A1.2.1) A1.2.2 (fun q => q.elim hj0 (fun q => by rw [A3, hj] at q; omega)) (by rw [hj, A5 i (by rw [A3]; exact hin), hv]) hg hs hd _ q
theorem Wk.ldB (X : Wk p l e R s m args below meth c own Z a0 EL h0 T h vm cells slots) {a : Addr} {kc : ClassId} {n : Int32} {vs : List Value} {dv v : Value} (A : Arv Z h a kc .byte n vs dv) {j : Int32} {i : Nat} (hj0 : ¬ j < 0) (hj : j.toNatClampNeg = i) (hin : i < n.toNatClampNeg) (hv : vs.getD i dv = v)
    (hg : g.method = m) {rest : List Value} (hs : g.stack = .int j :: .ref a :: rest) (hd : decode c.code g.pc = .ok (.baload, 1))
    (k : Gets p e below P (T.setTop { g with pc := g.pc + 1, stack := v :: rest })) : Gets p e below P (T.setTop g) := by
  obtain ⟨locs, j', Y, eT, hS, hk, hZ, hown, hC, N, hO, hx, r⟩ := X
  obtain ⟨cl, A1, A2, A3, A4, A5, A6⟩ := A
  refine k.via fun u q => ?_
  exact Y.baloadBytes hx (j := j) (v := v) (by rw [eT]; exact A1.1) (State.isArrayOf_alike hZ.alike A1.2.1) A1.2.2 (fun q => q.elim hj0 (fun q => by rw [A3, hj] at q; omega)) (by rw [hj, A5 i (by rw [A3]; exact hin), hv]) hg hs hd _ q
theorem Wk.ldR (X : Wk p l e R s m args below meth c own Z a0 EL h0 T h vm cells slots) {a : Addr} {kc : ClassId} {ty : FieldType} {n : Int32} {vs : List Value} {dv v : Value} (A : Arv Z h a kc ty n vs dv) (hty : ty.isReference = true) {j : Int32} {i : Nat} (hj0 : ¬ j < 0) (hj : j.toNatClampNeg = i) (hin : i < n.toNatClampNeg) (hv : vs.getD i dv = v)
    (hg : g.method = m) {rest : List Value} (hs : g.stack = .int j :: .ref a :: rest) (hd : decode c.code g.pc = .ok (.aaload, 1))
    (k : Gets p e below P (T.setTop { g with pc := g.pc + 1, stack := v :: rest })) : Gets p e below P (T.setTop g) := by
  obtain ⟨locs, j', Y, eT, hS, hk, hZ, hown, hC, N, hO, hx, r⟩ := X
  obtain ⟨cl, A1, A2, A3, A4, A5, A6⟩ := A
  refine k.via fun u q => ?_
  exact Y.aaload hx (j := j) (v := v) (by rw [eT]; exact A1.1) (State.isArrayOf_alike hZ.alike A1.2.1) hty A1.2.2 (fun q => q.elim hj0 (fun q => by rw [A3, hj] at q; omega)) (by rw [hj, A5 i (by rw [A3]; exact hin), hv]) hg hs hd _ q
theorem Wk.ldcI (X : Wk p l e R s m args below meth c own Z a0 EL h0 T h vm cells slots) {index : Nat} {v : Int32} (w : (Jvm.Cond.constant own index v).before a0 Z = true) (hg : g.method = m) (hd : decode c.code g.pc = .ok (.ldc index, 2))
    (k : Gets p e below P (T.setTop { g with pc := g.pc + 2, stack := .int v :: g.stack })) : Gets p e below P (T.setTop g) := by
  obtain ⟨locs, j', Y, eT, hS, hk, hZ, hown, hC, N, hO, hx, r⟩ := X
  exact k.via fun u q => Y.ldcI hx hown (mv (s := s.setVm vm) hZ w) hg hd q
theorem Wk.acmpW (X : Wk p l e R s m args below meth c own Z a0 EL h0 T h vm cells slots) (hx : p.tables.exec = Jvm.exec) (hg : g.method = m) {cd : ACond} {x y : Value} (h1 : x.isRef = true) (h2 : y.isRef = true) {rest : List Value} {o : Int} {pc0 pc' : Nat} {same : Bool} (hpc : g.pc = pc0)
    (hd : decode c.code g.pc = .ok (.if_acmp cd o, 3)) (hs : g.stack = y :: x :: rest) (hq : decide (x = y) = same) (ho : 0 ≤ (pc0 : Int) + o) (hp : pc' = if acV cd same = true then ((pc0 : Int) + o).toNat else pc0 + 3)
    (k : Gets p e below P (T.setTop { g with pc := pc', stack := rest })) : Gets p e below P (T.setTop g) := by
  obtain ⟨locs, j', Y, -⟩ := X
  exact k.via fun u q => RoadKit.acmp Y hx hg h1 h2 hpc hd hs hq ho hp q
/-- ldc of a String constant, what it holds not asked -/
theorem Wk.ldcO (X : Wk p l e R s m args below meth c own Z a0 EL h0 T h vm cells slots) {text : String} {index : Nat} (w : (Jvm.Cond.stringLink own index text).before a0 Z = true) (wS : ∀ a ∈ Bundle.stringAtoms, a.before a0 Z = true)
    (hg : g.method = m) (hd : decode c.code g.pc = .ok (.ldc index, 2)) {n : Nat} (hn : 4 * text.toList.length ≤ n) (hbig : n ≤ 536870912) (hc : cells + 2 ≤ R.cells) (hl : slots + (n + 4) ≤ R.slots)
    (k : ∀ T' h' vm' a, Wk p l e R s m args below meth c own Z a0 EL h0 T' h' vm' (cells + 2) (slots + (n + 4)) → CHr Z EL vm h vm' h' → Ext h h' → Gets p e below P (T'.setTop { g with pc := g.pc + 2, stack := .ref a :: g.stack })) : Gets p e below P (T.setTop g) := by
  obtain ⟨locs, j, Y, eT, hS, hk, hZ, hown, hC, N, hO, hx, hEL, r⟩ := X
  obtain ⟨a, T', h', k1, Y', e', E, hS', hk', hZ', hown', C1, -, st⟩ := RoadKit.ldcOH Y hx hZ hown w wS eT hS hk hEL hC.1 hg hd hn hbig hc hl
  exact (k T' h' T'.vm a ⟨locs, k1, Y', e', hS', hk', hZ', hown', hC.trans C1, N, hO.ext E, hx, hEL, r⟩ C1 E).via st
/-- ldc of a String constant that is read -/
theorem Wk.ldcC (X : Wk p l e R s m args below meth c own Z a0 EL h0 T h vm cells slots) {text : String} {index : Nat} (w : (Jvm.Cond.stringLink own index text).before a0 Z = true) (wS : ∀ a ∈ Bundle.stringAtoms, a.before a0 Z = true) (hmem : (own, index) ∈ EL)
    {vs : List Value} {z : Int32} (ht : (∀ c ∈ text.toList, c.toNat < 256) ∧ text.toList.map (fun c => Value.int (Jvm.Lit.byteI c.toNat.toUInt16)) = vs) (hz : ¬ z < 0) (hvl : z.toNatClampNeg = vs.length)
    (hg : g.method = m) (hd : decode c.code g.pc = .ok (.ldc index, 2)) {n : Nat} (hn : 4 * text.toList.length ≤ n) (hbig : n ≤ 536870912) (hc : cells + 2 ≤ R.cells) (hl : slots + (n + 4) ≤ R.slots)
    (k : ∀ T' h' vm' a b kb, Wk p l e R s m args below meth c own Z a0 EL h0 T' h' vm' (cells + 2) (slots + (n + 4)) → CHr Z EL vm h vm' h' → Ext h h' → Exa Z h' a "java/lang/String" → Fld Z h' a "java/lang/String" "coder" "B" (.int 0) → Fld Z h' a "java/lang/String" "value" "[B" (.ref b) → Arv Z h' b kb .byte z vs (.int 0) → (∀ x, Safe Z EL vm' h' x → x ≠ a ∧ x ≠ b) → Gets p e below P (T'.setTop { g with pc := g.pc + 2, stack := .ref a :: g.stack })) : Gets p e below P (T.setTop g) := by
  obtain ⟨locs, j, Y, eT, hS, hk, hZ, hown, hC, N, hO, hx, hEL, r⟩ := X
  obtain ⟨a, T', h', k1, b, kb, Y', e', E, hS', hk', hZ', hown', q1, q2, q3, q4, -, -, C1, -, q5, st⟩ := RoadKit.ldcCH Y hx hZ hown w wS eT hS hk hEL hmem hC.1 ht hz hvl hg hd hn hbig hc hl
  exact (k T' h' T'.vm a b kb ⟨locs, k1, Y', e', hS', hk', hZ', hown', hC.trans C1, N, hO.ext E, hx, hEL, r⟩ C1 E q1 q2 q3 q4 q5).via st
/-- who pays a call, in one shape -/
def Pay (l : Launch) (R : Room) (p : Program) (e : Env) (below : List Frame) (s : State) (args : Array Value) (y : MethodName) (len W : Nat) (Z : State) (EL : List (String × Nat)) (vm : Vm) (h : Heap) (as : Array Value) (rc rs : Nat) (Q : Option Value → Heap → Prop) : Prop :=
  BackS l R p e below (s.setVm vm) args y len W (fun A a => a = as ∧ A.U.heap = h ∧ A.cells + rc ≤ R.cells ∧ A.slots + rs ≤ R.slots)
    (fun A _ v B => ∃ L, (Q v B.U.heap ∧ Fr Z.heap.size L ∧ Old Z Z.heap.size B.U.heap) ∧ B.locs = A.locs ++ L ∧ B.cells = A.cells + rc ∧ B.slots = A.slots + rs ∧ CHr Z EL vm h B.U.vm B.U.heap)
theorem safe_later {x : Addr} (C : CHr Z EL vm h vm' h) (S : Safe Z EL vm h x) : Safe Z EL vm' h x := by
  by_cases q : x < h.size
  · exact C.safe q S
  · exact Safe.new (Nat.not_lt.mp q)
theorem Wk.payM (X : Wk p l e R s m args below meth c own Z a0 EL h0 T h vm cells slots) {y : MethodName} {bytes : ByteArray} {maxL : Nat} {ret : Option FieldType} {rm : Room} {sf : List Addr} {as : Array Value} {Q : Option Value → Heap → Prop} {len W : Nat} (M : Met l Z EL y bytes maxL ret [] rm sf as h Q) (hsf : ∀ x ∈ sf, Safe Z EL vm h x)
    (wc : (Jvm.Cond.code y bytes maxL ret).before a0 Z = true) (wz : (Jvm.Cond.initialized y.cls).before a0 Z = true) (hf : rm.frames + 1 ≤ R.frames) (hl : W + (maxL + 11) + rm.locals ≤ R.locals) : Pay l R p e below s args y len W Z EL vm h as rm.cells rm.slots Q := by
  have hZ := X.hZ
  have hEL := X.ew
  have H := X.chv
  exact BackS.of_freeW (bytes := bytes) (maxL := maxL) (ret := ret) (E := fun _ first o t L k n => k = rm.cells ∧ n = rm.slots ∧ (∃ v, o = .returned v ∧ (Q v t.heap ∧ Fr Z.heap.size L ∧ Old Z Z.heap.size t.heap)) ∧ CHr Z EL first.vm first.heap t.vm t.heap) M hf hl
    (fun m meth c A a Y hp => have hU : Z.Warmed39 A.U.vm := wtrans (s := s.setVm vm) hZ Y.warmed
      ⟨by show (Jvm.Cond.and _ .tt).before a A.U = true; rw [Cond.before_and, mv hU wc]; rfl, mv hU wc, mv hU wz, hp.2.2.1, hp.2.2.2⟩)
    (fun m meth c A a g mk Y hp => ⟨hp.1, wtrans (s := s.setVm vm) hZ Y.warmed, hp.2.1, (CHv.at Y hZ hEL H).1, fun x hx => safe_later (vm' := A.U.vm) (CHv.at Y hZ hEL H) (hsf x hx)⟩) (fun _ _ _ _ _ _ _ _ _ => trivial)
    (fun _ _ _ _ ⟨v, L, h1, h2, h3, h4⟩ => ⟨L, _, _, h4, rfl, rfl, ⟨v, h1, h2⟩, h3⟩)
    (fun m meth c A a g mk v t L k n Y hp _ _ ⟨e1, e2, ⟨v', e3, e4⟩, e5⟩ => by
      cases e3; subst e1 e2
      refine ⟨L, e4, rfl, rfl, rfl, (CHv.at Y hZ hEL H).trans ?_⟩
      rw [← hp.2.1]; exact e5)
/-- a narrow payer of the library's -/
theorem Wk.payN (X : Wk p l e R s m args below meth c own Z a0 EL h0 T h vm cells slots) {y : MethodName} {as : Array Value} {rc rs : Nat} {Qn : Option Value → Heap → List Loc → Prop} {Q : Option Value → Heap → Prop} {len W : Nat} {ws : List Addr}
    (hK : Back l R p e below (s.setVm vm) args y len W (fun A a => a = as ∧ A.U.heap = h ∧ A.cells + rc ≤ R.cells ∧ A.slots + rs ≤ R.slots) (fun A _ v B => ∃ L, Qn v B.U.heap L ∧ B.locs = A.locs ++ L ∧ B.cells = A.cells + rc ∧ B.slots = A.slots + rs))
    (hq : ∀ v u L, Qn v u L → Fr Z.heap.size L ∧ Keep h u ws ∧ Q v u) (hws : ∀ x ∈ ws, Z.heap.size ≤ x) (hsafe : ∀ x ∈ ws, Safe Z EL vm h x) : Pay l R p e below s args y len W Z EL vm h as rc rs Q := by
  intro m' meth' c' A g' ig mk a Y hg hsize hd hW hn hpre
  obtain ⟨v, B, Y', ⟨L, q1, q2, q3, q4⟩, hsteps⟩ := hK m' meth' c' A g' ig mk a Y hg hsize hd hW hn hpre
  obtain ⟨N, K, q5⟩ := hq _ _ _ q1
  have C1 : CHr Z EL vm h vm B.U.heap := CHr.keep K hsafe X.chv
  have C2 := CHv.at Y' X.hZ X.ew C1.1
  exact ⟨v, B, Y'.retabled Y'.warmed.wide, Y'.warmed.since _, by rw [hpre.2.1]; exact K.1, ⟨L, ⟨q5, N, X.old.keep K hws⟩, q2, q3, q4, C1.trans C2⟩, hsteps⟩
theorem Wk.after (X : Wk p l e R s m args below meth c own Z a0 EL h0 T h vm cells slots) {locs : List Loc} {j : Nat} (hS : s.Since vm j) (hk : j ≤ h.size) (hC : CHr Z EL s.vm h0 vm h) (N : Fr Z.heap.size locs) (hO : Old Z Z.heap.size h) (hown : vm.findClass own = some m.cls)
    {B : Pt} {L : List Loc} {rc rs : Nat} (Y : Stand p l e R ((s.setVm vm).setVm B.U.vm) m args below meth c B.U B.locs B.cells B.slots) (S : (s.setVm vm).Since B.U.vm B.U.heap.size) (hgr : h.size ≤ B.U.heap.size) (q2 : B.locs = locs ++ L) (q3 : B.cells = cells + rc) (q4 : B.slots = slots + rs) (NL : Fr Z.heap.size L) (OL : Old Z Z.heap.size B.U.heap) (C1 : CHr Z EL vm h B.U.vm B.U.heap) :
    Wk p l e R s m args below meth c own Z a0 EL h0 B.U B.U.heap B.U.vm (cells + rc) (slots + rs) := by
  refine ⟨locs ++ L, B.U.heap.size, ?_, rfl, hS.trans S (Nat.le_trans hk hgr), Nat.le_refl _, State.Warmed39.trans (t := s.setVm vm) X.hZ S.1, ?_, hC.trans C1, N.app NL, OL, X.hx, X.ew, ?_⟩
  · rw [← q2, ← q3, ← q4]; exact Y
  · rw [S.1.alike.findClass]; exact hown
  · obtain ⟨_, _, -, -, -, -, -, -, -, -, -, -, -, r⟩ := X; exact r
theorem Wk.callS (X : Wk p l e R s m args below meth c own Z a0 EL h0 T h vm cells slots) {index : Nat} {y : MethodName} {bytes : ByteArray} {maxL : Nat} {ret : Option FieldType} (w1 : (Jvm.Cond.methodLink own index y).before a0 Z = true) (w2 : (Jvm.Cond.static y).before a0 Z = true) (w3 : (Jvm.Cond.initialized y.cls).before a0 Z = true) (w4 : (Jvm.Cond.code y bytes maxL ret).before a0 Z = true)
    (hy : y.cls ≠ "java/lang/invoke/MethodHandle" ∧ y.cls ≠ "java/lang/invoke/VarHandle") {W rc rs : Nat} {as : Array Value} {Q : Option Value → Heap → Prop} (hK : Pay l R p e below s args y 3 W Z EL vm h as rc rs Q)
    (hg : g.method = m) (hsize : g.locals.size = c.maxLocals) {argsL rest : List Value} (hlen : ∀ sig, parseMethodDescriptor y.desc = some sig → argsL.length = sig.parameters.length) (hstack : g.stack = argsL.reverse ++ rest) (has : argsL.toArray = as) (hW : 2 * g.monitorRoom + (rest.map fun v => v.category).sum ≤ W)
    (hdg : decode c.code g.pc = .ok (.invokestatic index, 3)) (hc : cells + rc ≤ R.cells) (hs : slots + rs ≤ R.slots)
    (k : ∀ T' h' vm' v, Wk p l e R s m args below meth c own Z a0 EL h0 T' h' vm' (cells + rc) (slots + rs) → CHr Z EL vm h vm' h' → h.size ≤ h'.size → Q v h' → Gets p e below P (T'.setTop { g with pc := g.pc + 3, stack := v.toList ++ rest })) : Gets p e below P (T.setTop g) := by
  have X' := X
  obtain ⟨locs, j, Y, eT, hS, hk, hZ, hown, hC, N, hO, hx, r⟩ := X
  obtain ⟨v, vm₁, B, hW1, Y', S, hgr, ⟨L, ⟨q1, NL, OL⟩, q2, q3, q4, C1⟩, st⟩ := RoadKit.callSS Y hx hown (mv (s := s.setVm vm) hZ w1) (mv (s := s.setVm vm) hZ w2) (mv (s := s.setVm vm) hZ w3) (mv (s := s.setVm vm) hZ w4) hy hK hg hsize hlen hstack hW hdg (fun vm₁ _ => ⟨has, eT, hc, hs⟩)
  exact (k B.U B.U.heap B.U.vm v (X'.after hS hk hC N hO hown Y' S (eT ▸ hgr) q2 q3 q4 NL OL C1) C1 (eT ▸ hgr) q1).steps st
theorem Wk.callI (X : Wk p l e R s m args below meth c own Z a0 EL h0 T h vm cells slots) {index : Nat} {y : MethodName} {bytes : ByteArray} {maxL : Nat} (hy1 : y.name = "<init>") (w1 : (Jvm.Cond.methodLink own index y).before a0 Z = true) (w2 : (Jvm.Cond.instanceMethod y).before a0 Z = true) (w4 : (Jvm.Cond.code y bytes maxL none).before a0 Z = true)
    (hy : y.cls ≠ "java/lang/invoke/MethodHandle" ∧ y.cls ≠ "java/lang/invoke/VarHandle") {W rc rs : Nat} {as : Array Value} {Q : Option Value → Heap → Prop} (hK : Pay l R p e below s args y 3 W Z EL vm h as rc rs Q)
    (hg : g.method = m) (hsize : g.locals.size = c.maxLocals) {a : Addr} {argsL rest : List Value} (hlen : ∀ sig, parseMethodDescriptor y.desc = some sig → argsL.length = sig.parameters.length) (hstack : g.stack = argsL.reverse ++ .ref a :: rest) (has : (Value.ref a :: argsL).toArray = as) (hW : 2 * g.monitorRoom + (rest.map fun v => v.category).sum ≤ W)
    (hdg : decode c.code g.pc = .ok (.invokespecial index, 3)) (hc : cells + rc ≤ R.cells) (hs : slots + rs ≤ R.slots)
    (k : ∀ T' h' vm' v, Wk p l e R s m args below meth c own Z a0 EL h0 T' h' vm' (cells + rc) (slots + rs) → CHr Z EL vm h vm' h' → h.size ≤ h'.size → Q v h' → Gets p e below P (T'.setTop { g with pc := g.pc + 3, stack := v.toList ++ rest })) : Gets p e below P (T.setTop g) := by
  have X' := X
  obtain ⟨locs, j, Y, eT, hS, hk, hZ, hown, hC, N, hO, hx, r⟩ := X
  obtain ⟨v, vm₁, B, hW1, Y', S, hgr, ⟨L, ⟨q1, NL, OL⟩, q2, q3, q4, C1⟩, st⟩ := Y.specialBackS hx hy1 hown (mv (s := s.setVm vm) hZ w1) (mv (s := s.setVm vm) hZ w2) (mv (s := s.setVm vm) hZ w4) hy hK hg hsize (Steps.refl _) hlen hstack hW hdg (fun vm₁ _ => ⟨has, eT, hc, hs⟩)
  exact (k B.U B.U.heap B.U.vm v (X'.after hS hk hC N hO hown Y' S (eT ▸ hgr) q2 q3 q4 NL OL C1) C1 (eT ▸ hgr) q1).steps st
theorem Wk.callV (X : Wk p l e R s m args below meth c own Z a0 EL h0 T h vm cells slots) {C : String} {index : Nat} {y z : MethodName} (w1 : (Jvm.Cond.methodLink own index y).before a0 Z = true) (w2 : (Jvm.Cond.declares y).before a0 Z = true) (w3 : (Jvm.Cond.selects C y z).before a0 Z = true) (w4 : (Jvm.Cond.instanceMethod z).before a0 Z = true)
    (hnf : ∀ s' : State, Z.Warmed39 s'.vm → NotFace s' y)
    (hy : y.cls ≠ "java/lang/invoke/MethodHandle" ∧ y.cls ≠ "java/lang/invoke/VarHandle") {W rc rs : Nat} {as : Array Value} {Q : Option Value → Heap → Prop} (hK : Pay l R p e below s args z 3 W Z EL vm h as rc rs Q) {b : Addr} (E : Exa Z h b C)
    (hg : g.method = m) (hsize : g.locals.size = c.maxLocals) {argsL rest : List Value} (hlen : ∀ sig, parseMethodDescriptor y.desc = some sig → argsL.length = sig.parameters.length) (hstack : g.stack = argsL.reverse ++ .ref b :: rest) (has : (Value.ref b :: argsL).toArray = as) (hW : 2 * g.monitorRoom + (rest.map fun v => v.category).sum ≤ W)
    (hdg : decode c.code g.pc = .ok (.invokevirtual index, 3)) (hc : cells + rc ≤ R.cells) (hs : slots + rs ≤ R.slots)
    (k : ∀ T' h' vm' v, Wk p l e R s m args below meth c own Z a0 EL h0 T' h' vm' (cells + rc) (slots + rs) → CHr Z EL vm h vm' h' → h.size ≤ h'.size → Q v h' → Gets p e below P (T'.setTop { g with pc := g.pc + 3, stack := v.toList ++ rest })) : Gets p e below P (T.setTop g) := by
  have X' := X
  obtain ⟨locs, j, Y, eT, hS, hk, hZ, hown, hC, N, hO, hx, r⟩ := X
  obtain ⟨cq, kq, qa, qb, qc⟩ := RoadKit.isOf (s := s.setVm vm) hZ eT E
  obtain ⟨v, vm₁, B, hW1, Y', S, hgr, ⟨L, ⟨q1, NL, OL⟩, q2, q3, q4, C1⟩, st⟩ := Y.virtualBackS hx hown (mv (s := s.setVm vm) hZ w1) (mv (s := s.setVm vm) hZ w2) (hnf (s.setVm vm) hZ) (mv (s := s.setVm vm) hZ w3) (mv (s := s.setVm vm) hZ w4) hy hK qa qc hg hsize (Steps.refl _) hlen hstack hW hdg (fun vm₁ _ => ⟨has, eT, hc, hs⟩)
  exact (k B.U B.U.heap B.U.vm v (X'.after hS hk hC N hO hown Y' S (eT ▸ hgr) q2 q3 q4 NL OL C1) C1 (eT ▸ hgr) q1).steps st
theorem nfs {y z : MethodName} {C : String} (hc : y = z) (w : (Jvm.Cond.selects C y z).before a0 Z = true) : ∀ s' : State, Z.Warmed39 s'.vm → NotFace s' y := fun s' hZ => by
  subst hc; exact notFace_of_selects (args := #[]) (mv (s := s') hZ w)
theorem Wk.callF (X : Wk p l e R s m args below meth c own Z a0 EL h0 T h vm cells slots) {C : String} {index count : Nat} {xi y : MethodName} (w1 : (Jvm.Cond.methodLink own index xi).before a0 Z = true) (w2 : (Jvm.Cond.declares xi).before a0 Z = true) (w3 : (Jvm.Cond.interfaceMethod xi.cls xi.cls xi.name xi.desc).before a0 Z = true) (e3 : ((Jvm.Cond.interfaceMethod xi.cls xi.cls xi.name xi.desc).onTables && (Jvm.Cond.interfaceMethod xi.cls xi.cls xi.name xi.desc).keepsFace) = true) (w4 : (Jvm.Cond.selects C xi y).before a0 Z = true) (w5 : (Jvm.Cond.instanceMethod y).before a0 Z = true)
    (w6 : (Jvm.Cond.publicMethod y).before a0 Z = true) (w7 : (Jvm.Cond.unhidden C xi.name xi.desc).before a0 Z = true) (w8 : (Jvm.Cond.castable C xi.cls).before a0 Z = true)
    (hy : xi.cls ≠ "java/lang/invoke/MethodHandle" ∧ xi.cls ≠ "java/lang/invoke/VarHandle") {W rc rs : Nat} {as : Array Value} {Q : Option Value → Heap → Prop} (hK : Pay l R p e below s args y 5 W Z EL vm h as rc rs Q) {b : Addr} (E : Exa Z h b C)
    (hg : g.method = m) (hsize : g.locals.size = c.maxLocals) {argsL rest : List Value} (hlen : ∀ sig, parseMethodDescriptor xi.desc = some sig → argsL.length = sig.parameters.length) (hstack : g.stack = argsL.reverse ++ .ref b :: rest) (has : (Value.ref b :: argsL).toArray = as) (hW : 2 * g.monitorRoom + (rest.map fun v => v.category).sum ≤ W)
    (hdg : decode c.code g.pc = .ok (.invokeinterface index count, 5)) (hc : cells + rc ≤ R.cells) (hs : slots + rs ≤ R.slots)
    (k : ∀ T' h' vm' v, Wk p l e R s m args below meth c own Z a0 EL h0 T' h' vm' (cells + rc) (slots + rs) → CHr Z EL vm h vm' h' → h.size ≤ h'.size → Q v h' → Gets p e below P (T'.setTop { g with pc := g.pc + 5, stack := v.toList ++ rest })) : Gets p e below P (T.setTop g) := by
  have X' := X
  obtain ⟨locs, j, Y, eT, hS, hk, hZ, hown, hC, N, hO, hx, r⟩ := X
  obtain ⟨cq, kq, qa, qb, qc⟩ := RoadKit.isOf (s := s.setVm vm) hZ eT E
  obtain ⟨v, vm₁, B, hW1, Y', S, hgr, ⟨L, ⟨q1, NL, OL⟩, q2, q3, q4, C1⟩, st⟩ := Y.interfaceBackS hx hown (mv (s := s.setVm vm) hZ w1) (mv (s := s.setVm vm) hZ w2) (mv (s := s.setVm vm) hZ w3 e3) (mv (s := s.setVm vm) hZ w4) (mv (s := s.setVm vm) hZ w5) (mv (s := s.setVm vm) hZ w6) (mv (s := s.setVm vm) hZ w7) (mv (s := s.setVm vm) hZ w8) hy hK qa qb qc hg hsize (Steps.refl _) hlen hstack hW hdg (fun vm₁ _ => ⟨has, eT, hc, hs⟩)
  exact (k B.U B.U.heap B.U.vm v (X'.after hS hk hC N hO hown Y' S (eT ▸ hgr) q2 q3 q4 NL OL C1) C1 (eT ▸ hgr) q1).steps st
theorem Wk.done (X : Wk p l e R s m args below meth c own Z a0 EL h0 T h vm cells slots) {Q : Option Value → Heap → Prop} {rm : Room} {v : Option Value} (hv : meth.sig.returnType = none → v = none) (hc : cells ≤ rm.cells) (hs : slots ≤ rm.slots) (q : Q v h)
    (st : ∀ fs, Stand p l e R (s.setVm vm) m args below meth c T [] cells slots ∨ True → (∀ (f : JFrame) (acts : List Action), f.method = m → f.locked = none → f.entered = [] → (doReturn e (T.setTop f) acts v).1 = T.setFrames fs) → Steps p.tables e below (T.setTop g) (T.setFrames fs)) : Gets p e below (Out s Z EL rm Q) (T.setTop g) := by
  obtain ⟨locs, j, Y, eT, hS, hk, hZ, hown, hC, N, hO, hx, hEL, hh, hlk⟩ := X
  obtain ⟨fs, hr, hrun, hended, hq⟩ := Y.leaveW hS (by rw [eT]; exact hk) (v := v) hv
  refine ⟨_, _, st fs (Or.inr trivial) hr, hrun, hended, v, locs, rfl, ⟨?_, N, ?_⟩, ?_, ?_⟩
  · show Q v T.heap; rw [eT]; exact q
  · show Old Z Z.heap.size T.heap; rw [eT]; exact hO
  · show CHr Z EL s.vm s.heap T.vm T.heap
    rw [hh, eT]
    exact hC.trans (CHv.at Y hZ hEL hC.1)
  · obtain ⟨r1, r2, r3, r4⟩ := hq
    exact ⟨r1, r2, r3, r4.mono hc hs⟩
theorem Wk.retV (X : Wk p l e R s m args below meth c own Z a0 EL h0 T h vm cells slots) {Q : Option Value → Heap → Prop} {rm : Room} (hret : meth.sig.returnType = none) {pc : Nat} {Ls : Array Slot} (hd : decode c.code pc = .ok (.return_, 1)) (hc : cells ≤ rm.cells) (hs : slots ≤ rm.slots) (q : Q none h) : Gets p e below (Out s Z EL rm Q) (T.setTop (mkF m pc Ls [])) := by
  have X' := X
  obtain ⟨locs, j, Y, -⟩ := X'
  exact X.done (fun _ => rfl) hc hs q fun fs _ hr => Y.returnOut X.hx hret hd hr
theorem Wk.ret (X : Wk p l e R s m args below meth c own Z a0 EL h0 T h vm cells slots) {Q : Option Value → Heap → Prop} {rm : Room} {t : FieldType} {w : Value} {i : Instr} (hret : meth.sig.returnType = some t) {pc : Nat} {Ls : Array Slot} {rest : List Value} (hn : narrow t w = w)
    (hi : (i = .ireturn ∧ (t = .int ∨ t = .boolean ∨ t = .byte ∨ t = .char ∨ t = .short) ∧ ∃ z, w = .int z) ∨ (i = .lreturn ∧ t = .long ∧ ∃ z, w = .long z) ∨ (i = .dreturn ∧ t = .double ∧ ∃ z, w = .double z) ∨ (i = .freturn ∧ t = .float ∧ ∃ z, w = .float z) ∨ (i = .areturn ∧ t.isReference = true ∧ w.isRef = true))
    (hd : decode c.code pc = .ok (i, 1)) (hc : cells ≤ rm.cells) (hs : slots ≤ rm.slots) (q : Q (some w) h) : Gets p e below (Out s Z EL rm Q) (T.setTop (mkF m pc Ls (w :: rest))) := by
  have X' := X
  obtain ⟨locs, j, Y, -⟩ := X'
  exact X.done (fun z => by rw [hret] at z; cases z) hc hs q fun fs _ hr => RoadKit.retOut Y X.hx hret hn hi hd hr
theorem Wk.retA (X : Wk p l e R s m args below meth c own Z a0 EL h0 T h vm cells slots) {Q : Option Value → Heap → Prop} {rm : Room} {t : FieldType} {w : Value} (hret : meth.sig.returnType = some t) {pc : Nat} {Ls : Array Slot} {rest : List Value} (hn : narrow t w = w) (ht : t.isReference = true) (hw : w.isRef = true)
    (hd : decode c.code pc = .ok (.areturn, 1)) (hc : cells ≤ rm.cells) (hs : slots ≤ rm.slots) (q : Q (some w) h) : Gets p e below (Out s Z EL rm Q) (T.setTop (mkF m pc Ls (w :: rest))) :=
  X.ret hret hn (Or.inr (Or.inr (Or.inr (Or.inr ⟨rfl, ht, hw⟩)))) hd hc hs q
theorem Wk.retI (X : Wk p l e R s m args below meth c own Z a0 EL h0 T h vm cells slots) {Q : Option Value → Heap → Prop} {rm : Room} {t : FieldType} {x : Int32} (hret : meth.sig.returnType = some t) {pc : Nat} {Ls : Array Slot} {rest : List Value} (hn : narrow t (.int x) = .int x) (ht : t = .int ∨ t = .boolean ∨ t = .byte ∨ t = .char ∨ t = .short)
    (hd : decode c.code pc = .ok (.ireturn, 1)) (hc : cells ≤ rm.cells) (hs : slots ≤ rm.slots) (q : Q (some (.int x)) h) : Gets p e below (Out s Z EL rm Q) (T.setTop (mkF m pc Ls (.int x :: rest))) :=
  X.ret hret hn (Or.inl ⟨rfl, ht, x, rfl⟩) hd hc hs q
variable {a b : Addr} {k : ClassId} {cs : List Int32} {ws : List Addr}
/-- a Latin-1 String at a, its bytes at b, spelling cs -/
def Str (Z : State) (h : Heap) (a b : Addr) (k : ClassId) (cs : List Int32) : Prop := Exa Z h a "java/lang/String" ∧ Fld Z h a "java/lang/String" "coder" "B" (.int (0 : Int32)) ∧ Fld Z h a "java/lang/String" "value" "[B" (.ref b) ∧ Arv Z h b k .byte (Int32.ofNat cs.length) ((cs.map fun c => c.toInt8.toInt32).map Value.int) (.int (0 : Int32)) ∧ (∀ c ∈ cs, ¬ c < 0 ∧ ¬ (255 : Int32) < c) ∧ cs.length ≤ 4000
theorem Str.ext (F : Str Z h a b k cs) (E : Ext h h') : Str Z h' a b k cs := ⟨F.1.ext E, F.2.1.ext E, F.2.2.1.ext E, F.2.2.2.1.ext E, F.2.2.2.2⟩
theorem Str.keep (F : Str Z h a b k cs) (K : Keep h h' ws) (q : a ∉ ws) (r : b ∉ ws) : Str Z h' a b k cs := ⟨F.1.keep K, F.2.1.keep K q, F.2.2.1.keep K q, F.2.2.2.1.keep K r, F.2.2.2.2⟩
theorem Str.lt (F : Str Z h a b k cs) : a < h.size := F.1.lt
theorem Str.lb (F : Str Z h a b k cs) : b < h.size := F.2.2.2.1.lt
end Base
section Vals
variable {tb : Tables} [Ours tb] {e : Env} {below : List Frame} {T target : State} {m : MethodId} {c : Code} {g : JFrame}
theorem i2cV (h : At T m c below) (hx : tb.exec = Jvm.exec) (hg : g.method = m) {x v : Int32} {rest : List Value} (hd : decode c.code g.pc = .ok (.i2c, 1)) (hs : g.stack = .int x :: rest) (hv : x.toUInt32.toUInt16.toUInt32.toInt32 = v)
    (hr : Steps tb e below (T.setTop { g with pc := g.pc + 1, stack := .int v :: rest }) target) : Steps tb e below (T.setTop g) target := by subst hv; exact XS.i2c h hx hg hd hs hr
theorem iremV (h : At T m c below) (hx : tb.exec = Jvm.exec) (hg : g.method = m) {x y : Int32} {rest : List Value} (hd : decode c.code g.pc = .ok (.irem, 1)) (hs : g.stack = .int y :: .int x :: rest) (hy : y ≠ 0)
    (hr : Steps tb e below (T.setTop { g with pc := g.pc + 1, stack := .int (x % y) :: rest }) target) : Steps tb e below (T.setTop g) target := by
  have q : x - x / y * y = x % y := irem_eq_mod x y
  exact XS.irem h hx hg hd hs hy (by rw [q]; exact hr)
/-- (char) of an int -/
def i2c (x : Int32) : Int32 := x.toUInt32.toUInt16.toUInt32.toInt32
theorem i2c_in {x : Int32} (h0 : ¬ x < 0) (h1 : ¬ (65535 : Int32) < x) : x.toUInt32.toUInt16.toUInt32.toInt32 = x := by
  have q := c_i2c x
  apply Int32.toInt_inj.mp
  have e0 : (0 : Int32).toInt = 0 := by decide
  have e1 : (65535 : Int32).toInt = 65535 := by decide
  rw [Int32.lt_iff_toInt_lt, e0] at h0
  rw [Int32.lt_iff_toInt_lt, e1] at h1
  omega
theorem m255 (x : Int32) : ¬ (x &&& (255 : Int32)) < 0 ∧ ¬ (255 : Int32) < (x &&& (255 : Int32)) := by
  have q := c_and x (255 : Int32) (by decide)
  have e0 : (0 : Int32).toInt = 0 := by decide
  have e1 : (255 : Int32).toInt = 255 := by decide
  constructor
  · rw [Int32.lt_iff_toInt_lt, e0]; omega
  · rw [Int32.lt_iff_toInt_lt, e1]; rw [e1] at q; omega
theorem lt_of {a b c : Int32} (h : ¬ a < b) (hb : b.toInt ≤ c.toInt) : True := trivial
theorem i2c_m255 (x : Int32) : (x &&& (255 : Int32)).toUInt32.toUInt16.toUInt32.toInt32 = x &&& (255 : Int32) := i2c_in (m255 x).1 fun q => (m255 x).2 (by
  have e1 : (255 : Int32).toInt = 255 := by decide
  have e2 : (65535 : Int32).toInt = 65535 := by decide
  rw [Int32.lt_iff_toInt_lt] at q ⊢; omega)
theorem i2c_i2c (x : Int32) : (i2c x).toUInt32.toUInt16.toUInt32.toInt32 = i2c x := by
  have q := c_i2c x
  have e0 : (0 : Int32).toInt = 0 := by decide
  have e1 : (65535 : Int32).toInt = 65535 := by decide
  refine i2c_in ?_ ?_
  · rw [Int32.lt_iff_toInt_lt, e0]; unfold i2c; omega
  · rw [Int32.lt_iff_toInt_lt, e1]; unfold i2c; omega
theorem nar_b (x : Int32) : nar .byte x.toInt8.toInt32 = x.toInt8.toInt32 := by simp [nar]
theorem allI {P : Int32 → Prop} {y : Int32} {L : List Int32} (q : P y) (r : ∀ x ∈ L, P x) : ∀ x ∈ y :: L, P x := fun x z => (List.mem_cons.mp z).elim (fun u => u ▸ q) (r x)
theorem allN {P : Int32 → Prop} : ∀ x ∈ ([] : List Int32), P x := fun _ q => nomatch q
end Vals
end Jvm.Ow

/- laws to paste: Road.backV, Road.eqW, Road.codOf (cut by pick.py; bodies as the Statement names them) -/
namespace Jvm.Pilot.@@N@@
namespace StrChars
open Jvm Sem ClassFile Op Lib Jvm.Stand Jvm.Free.XT Jvm.Free.ALB Jvm.Free.JM Jvm.Free
open Jvm.Lib.Cold (StaticIs)
/-- a char array whose places are chars -/
def Ch (a : Addr) (A : Cell) (U : State) : Prop := Arr .char a A U ∧ Typed .char A
theorem Ch.mv {a : Addr} {A : Cell} {U U' : State} (h : Ch a A U) (hal : U.vm.Alike U'.vm) (hh : U'.heap = U.heap) : Ch a A U' := ⟨h.1.mv hal hh, h.2⟩
theorem Ch.keep {a : Addr} {A : Cell} {U U' : State} (h : Ch a A U) (hal : U.vm.Alike U'.vm) (hk : U'.heap[a]? = some A) : Ch a A U' := ⟨h.1.keep hal hk, h.2⟩
/-- what place i of a char[]'s cell holds -/
def cv (A : Cell) (i : Nat) : Int32 := match A.slots[i]? with | some (.int x) => x | _ => 0
theorem Ch.get {a : Addr} {A : Cell} {U : State} (h : Ch a A U) {i : Nat} (hi : i < A.slots.size) : A.slots[i]? = some (.int (cv A i)) := by
  have e := Array.getElem?_eq_getElem hi
  have f := h.2 i _ e
  unfold cv; rw [e]
  generalize A.slots[i] = v at f
  cases v <;> simp [fits] at f ⊢
/-- the byte that i2b leaves of a char -/
def lo8 (x : Int32) : Int32 := x.toInt8.toInt32
theorem fits_lo8 (y : Int32) : fits .byte (.int (lo8 y)) = true := by
  have h1 := y.toInt8.le_toInt
  have h2 := y.toInt8.toInt_lt
  simp only [lo8, fits, Bool.and_eq_true, decide_eq_true_eq, Int32.le_iff_toInt_le, Int8.toInt_toInt32, show (-128 : Int32).toInt = -128 from by decide, show (127 : Int32).toInt = 127 from by decide]
  omega
/-- A' is A but that each place j of lo .. hi - 1 holds f j -/
def Laid (A A' : Cell) (lo hi : Nat) (f : Nat → Value) : Prop := A'.cls = A.cls ∧ A'.vm = A.vm ∧ A'.slots.size = A.slots.size ∧ ∀ i, A'.slots[i]? = if lo ≤ i ∧ i < hi then some (f i) else A.slots[i]?
theorem Laid.zero (A : Cell) (lo : Nat) (f : Nat → Value) : Laid A A lo (lo + 0) f := ⟨rfl, rfl, rfl, fun i => by rw [if_neg (by omega)]⟩
theorem Laid.step {A Ak : Cell} {lo k : Nat} {f : Nat → Value} {v : Value} (h : Laid A Ak lo k f) (hlo : lo ≤ k) (hk : k < Ak.slots.size) (hv : v = f k) : Laid A (Ak.setSlot k v) lo (k + 1) f := by
  refine ⟨h.1, h.2.1, by simpa [Cell.setSlot] using h.2.2.1, fun i => ?_⟩
  by_cases e : k = i
  · subst e; rw [Cell.slots_setSlot_self v hk, if_pos (by omega), hv]
  · rw [Cell.slots_setSlot_ne v e, h.2.2.2 i]
    by_cases q : lo ≤ i ∧ i < k
    · rw [if_pos q, if_pos (by omega)]
    · rw [if_neg q, if_neg (by omega)]
def U16 : String := "java/lang/StringUTF16"
namespace Cmp5
def yN : MethodName := ⟨"java/lang/StringUTF16", "compress", "([CI[BII)I"⟩
abbrev yB : ByteArray := jdk_52_method_21_code
theorem d0 : decode yB 0 = .ok (.iconst 0, 1) := by decide +kernel
theorem d1 : decode yB 1 = .ok (.istore 5, 2) := by decide +kernel
theorem d3 : decode yB 3 = .ok (.iload 5, 2) := by decide +kernel
theorem d5 : decode yB 5 = .ok (.iload 4, 2) := by decide +kernel
theorem d7 : decode yB 7 = .ok (.if_icmp (.ge) 37, 3) := by decide +kernel
theorem d10 : decode yB 10 = .ok (.aload_n 0, 1) := by decide +kernel
theorem d11 : decode yB 11 = .ok (.iload_n 1, 1) := by decide +kernel
theorem d12 : decode yB 12 = .ok (.caload, 1) := by decide +kernel
theorem d13 : decode yB 13 = .ok (.istore 6, 2) := by decide +kernel
theorem d15 : decode yB 15 = .ok (.iload 6, 2) := by decide +kernel
theorem d17 : decode yB 17 = .ok (.sipush 255, 3) := by decide +kernel
theorem d20 : decode yB 20 = .ok (.if_icmp (.le) 6, 3) := by decide +kernel
theorem d26 : decode yB 26 = .ok (.aload_n 2, 1) := by decide +kernel
theorem d27 : decode yB 27 = .ok (.iload_n 3, 1) := by decide +kernel
theorem d28 : decode yB 28 = .ok (.iload 6, 2) := by decide +kernel
theorem d30 : decode yB 30 = .ok (.i2b, 1) := by decide +kernel
theorem d31 : decode yB 31 = .ok (.bastore, 1) := by decide +kernel
theorem d32 : decode yB 32 = .ok (.iinc 1 1, 3) := by decide +kernel
theorem d35 : decode yB 35 = .ok (.iinc 3 1, 3) := by decide +kernel
theorem d38 : decode yB 38 = .ok (.iinc 5 1, 3) := by decide +kernel
theorem d41 : decode yB 41 = .ok (.goto (-38), 3) := by decide +kernel
theorem d44 : decode yB 44 = .ok (.iload 4, 2) := by decide +kernel
theorem d46 : decode yB 46 = .ok (.ireturn, 1) := by decide +kernel
def site : List Cond := []
def tab : Cond := tabOf yN yB 7 (some .int) site
def P (b : Addr) (A : Cell) (d : Addr) (B : Cell) (o q len : Nat) (args : Array Value) (s : State) : Prop := args = #[.ref b, .int (Int32.ofNat o), .ref d, .int (Int32.ofNat q), .int (Int32.ofNat len)] ∧ Ch b A s ∧ Arr .byte d B s ∧ b ≠ d ∧ o + len ≤ A.slots.size ∧ q + len ≤ B.slots.size ∧ ∀ i, i < len → ¬ 255 < cv A (o + i)
def E (b : Addr) (A : Cell) (d : Addr) (B : Cell) (o q len : Nat) (r : Option Value) (s u : State) : Prop := r = some (.int (Int32.ofNat len)) ∧ ∃ B', Put d B' s u ∧ Laid B B' q (q + len) (fun j => Value.int (lo8 (cv A (o + (j - q)))))
/-- no char of the range above 255: len; the places written hold each char's low byte -/
theorem law (l : Launch) (b : Addr) (A : Cell) (d : Addr) (B : Cell) (o q len : Nat) : Law l yN 5 5 0 0 yB 7 (some .int) site (P b A d B o q len) (E b A d B o q len) (copyLocs d q len) 0 0 := by
  refine Law.of_walk (plainFor_of_name (by decide +kernel)) (by decide +kernel) (by decide +kernel) (by decide) (fun _ _ h => by rw [h.1]; rfl) (fun _ U U' hal hh h => ⟨h.1, h.2.1.mv hal hh, h.2.2.1.mv hal hh, h.2.2.2⟩) (fun r U U' V V' h1 hal h2 h => ⟨h.1, h.2.elim fun B' q => ⟨B', q.1.mv h1 h2, q.2⟩⟩) ?_
  intro p e s m args below meth c s₁ X0 hexec hbytes hml hret hlk hnm hown hh0 W hP
  obtain ⟨rfl, hA, hB, hne, l1, l2, hp⟩ := hP
  have c1 : Steps p.tables e below (s₁.setTop (entryFrame m #[.ref b, .int (Int32.ofNat o), .ref d, .int (Int32.ofNat q), .int (Int32.ofNat len)] 7)) (s₁.setTop (mkF m 0 #[.val (.ref b), .val (.int (Int32.ofNat o)), .val (.ref d), .val (.int (Int32.ofNat q)), .val (.int (Int32.ofNat len)), .unset, .unset] [])) := entry rfl
  have hA0 := hA.1.mv X0.warmed.alike hh0
  have hB0 := hB.mv X0.warmed.alike hh0
  have a31 := hA.1.2.2.2
  have c2 : Steps p.tables e below (s₁.setTop (entryFrame m #[.ref b, .int (Int32.ofNat o), .ref d, .int (Int32.ofNat q), .int (Int32.ofNat len)] 7)) (s₁.setTop (mkF m 3 #[.val (.ref b), .val (.int (Int32.ofNat o)), .val (.ref d), .val (.int (Int32.ofNat q)), .val (.int (Int32.ofNat len)), .val (.int 0), .unset] [])) := c1.trans (by
    refine iconstV X0.here hexec rfl 0 (hb hbytes d0) (by decide) ?_
    refine XS.istore X0.here hexec rfl (hb hbytes d1) rfl rfl ?_
    exact Steps.refl _)
  have loop : ∀ (r i : Nat), i + r = len → ∀ (z : Slot), (z = .unset ∨ ∃ w, z = .val w ∧ w.category = 1) → ∀ (Tl : State) (Bk : Cell), Stand p l e { frames := 0, locals := 0, cells := 0, slots := 0 } s m #[.ref b, .int (Int32.ofNat o), .ref d, .int (Int32.ofNat q), .int (Int32.ofNat len)] below meth c Tl ([] ++ copyLocs d q i) 0 0 → Put d Bk s₁ Tl → Laid B Bk q (q + i) (fun j => Value.int (lo8 (cv A (o + (j - q))))) →
      Steps p.tables e below (s₁.setTop (entryFrame m #[.ref b, .int (Int32.ofNat o), .ref d, .int (Int32.ofNat q), .int (Int32.ofNat len)] 7)) (Tl.setTop (mkF m 3 #[.val (.ref b), .val (.int (Int32.ofNat (o + i))), .val (.ref d), .val (.int (Int32.ofNat (q + i))), .val (.int (Int32.ofNat len)), .val (.int (Int32.ofNat i)), z] [])) → ∃ (T' : State) (B' : Cell) (z' : Slot), Stand p l e { frames := 0, locals := 0, cells := 0, slots := 0 } s m #[.ref b, .int (Int32.ofNat o), .ref d, .int (Int32.ofNat q), .int (Int32.ofNat len)] below meth c T' ([] ++ copyLocs d q len) 0 0 ∧ Put d B' s₁ T' ∧ Laid B B' q (q + len) (fun j => Value.int (lo8 (cv A (o + (j - q))))) ∧
      Steps p.tables e below (s₁.setTop (entryFrame m #[.ref b, .int (Int32.ofNat o), .ref d, .int (Int32.ofNat q), .int (Int32.ofNat len)] 7)) (T'.setTop (mkF m 3 #[.val (.ref b), .val (.int (Int32.ofNat (o + len))), .val (.ref d), .val (.int (Int32.ofNat (q + len))), .val (.int (Int32.ofNat len)), .val (.int (Int32.ofNat len)), z'] [])) := by
    intro r
    induction r with
    | zero =>
      intro i hi z hz Tl Bk Xl pl fl cl
      have hil : i = len := by omega
      rw [hil] at Xl fl cl
      exact ⟨Tl, Bk, z, Xl, pl, fl, cl⟩
    | succ r ih =>
      intro i hi z hz Tl Bk Xl pl fl cl
      have all := X0.warmed.alike.symm.trans Xl.warmed.alike
      have hAl := hA0.keep all (pl.other hne hA0.1)
      have hBk := hB0.like all pl.1 fl.1 fl.2.1 fl.2.2.1
      have hlt : q + i < Bk.slots.size := by rw [fl.2.2.1]; omega
      have c3 : Steps p.tables e below (s₁.setTop (entryFrame m #[.ref b, .int (Int32.ofNat o), .ref d, .int (Int32.ofNat q), .int (Int32.ofNat len)] 7)) (Tl.setTop (mkF m 12 #[.val (.ref b), .val (.int (Int32.ofNat (o + i))), .val (.ref d), .val (.int (Int32.ofNat (q + i))), .val (.int (Int32.ofNat len)), .val (.int (Int32.ofNat i)), z] [.int (Int32.ofNat (o + i)), .ref b])) := cl.trans (by
        refine XS.iload Xl.here hexec rfl (hb hbytes d3) rfl ?_
        refine XS.iload Xl.here hexec rfl (hb hbytes d5) rfl ?_
        refine XS.icmpNo Xl.here hexec rfl (hb hbytes d7) rfl (ii_ge_f (lt32 (by omega) (by omega))) ?_
        refine XS.aloadN Xl.here hexec rfl (hb hbytes d10) rfl rfl ?_
        refine XS.iloadN Xl.here hexec rfl (hb hbytes d11) rfl ?_
        exact Steps.refl _)
      have c4 : Steps p.tables e below (s₁.setTop (entryFrame m #[.ref b, .int (Int32.ofNat o), .ref d, .int (Int32.ofNat q), .int (Int32.ofNat len)] 7)) (Tl.setTop (mkF m 13 #[.val (.ref b), .val (.int (Int32.ofNat (o + i))), .val (.ref d), .val (.int (Int32.ofNat (q + i))), .val (.int (Int32.ofNat len)), .val (.int (Int32.ofNat i)), z] [.int (cv A (o + i))])) := c3.trans (by
        refine Xl.aget hexec hAl rfl (hA.get (i := o + i) (by omega)) rfl rfl (hb hbytes d12) ?_
        exact Steps.refl _)
      have c5 : Steps p.tables e below (s₁.setTop (entryFrame m #[.ref b, .int (Int32.ofNat o), .ref d, .int (Int32.ofNat q), .int (Int32.ofNat len)] 7)) (Tl.setTop (mkF m 15 #[.val (.ref b), .val (.int (Int32.ofNat (o + i))), .val (.ref d), .val (.int (Int32.ofNat (q + i))), .val (.int (Int32.ofNat len)), .val (.int (Int32.ofNat i)), .val (.int (cv A (o + i)))] [])) := c4.trans (by
        refine XS.istoreS Xl.here hexec rfl (hb hbytes d13) rfl rfl hz ?_
        exact Steps.refl _)
      have c6 : Steps p.tables e below (s₁.setTop (entryFrame m #[.ref b, .int (Int32.ofNat o), .ref d, .int (Int32.ofNat q), .int (Int32.ofNat len)] 7)) (Tl.setTop (mkF m 31 #[.val (.ref b), .val (.int (Int32.ofNat (o + i))), .val (.ref d), .val (.int (Int32.ofNat (q + i))), .val (.int (Int32.ofNat len)), .val (.int (Int32.ofNat i)), .val (.int (cv A (o + i)))] [.int (lo8 (cv A (o + i))), .int (Int32.ofNat (q + i)), .ref d])) := c5.trans (by
        refine XS.iload Xl.here hexec rfl (hb hbytes d15) rfl ?_
        refine sipushV Xl.here hexec rfl 255 (hb hbytes d17) (by decide) ?_
        refine XS.icmpYes Xl.here hexec rfl (pc0 := 20) rfl (hb hbytes d20) rfl (ii_le_t (hp i (by omega))) (by decide) rfl ?_
        refine XS.aloadN Xl.here hexec rfl (hb hbytes d26) rfl rfl ?_
        refine XS.iloadN Xl.here hexec rfl (hb hbytes d27) rfl ?_
        refine XS.iload Xl.here hexec rfl (hb hbytes d28) rfl ?_
        refine i2b Xl.here hexec rfl (hb hbytes d30) rfl ?_
        exact Steps.refl _)
      obtain ⟨T7, X7, p7, st7⟩ := Xl.aput hexec hBk rfl hlt rfl (fits_lo8 (cv A (o + i))) (g := (mkF m 31 #[.val (.ref b), .val (.int (Int32.ofNat (o + i))), .val (.ref d), .val (.int (Int32.ofNat (q + i))), .val (.int (Int32.ofNat len)), .val (.int (Int32.ofNat i)), .val (.int (cv A (o + i)))] [.int (lo8 (cv A (o + i))), .int (Int32.ofNat (q + i)), .ref d])) rfl (rest := []) rfl (hb hbytes d31)
      have c8 : Steps p.tables e below (s₁.setTop (entryFrame m #[.ref b, .int (Int32.ofNat o), .ref d, .int (Int32.ofNat q), .int (Int32.ofNat len)] 7)) (T7.setTop (mkF m 32 #[.val (.ref b), .val (.int (Int32.ofNat (o + i))), .val (.ref d), .val (.int (Int32.ofNat (q + i))), .val (.int (Int32.ofNat len)), .val (.int (Int32.ofNat i)), .val (.int (cv A (o + i)))] [])) := c6.trans (st7 _ (Steps.refl _))
      have c9 : Steps p.tables e below (s₁.setTop (entryFrame m #[.ref b, .int (Int32.ofNat o), .ref d, .int (Int32.ofNat q), .int (Int32.ofNat len)] 7)) (T7.setTop (mkF m 3 #[.val (.ref b), .val (.int (Int32.ofNat (o + i) + 1)), .val (.ref d), .val (.int (Int32.ofNat (q + i) + 1)), .val (.int (Int32.ofNat len)), .val (.int (Int32.ofNat i + 1)), .val (.int (cv A (o + i)))] [])) := c8.trans (by
        refine iincV X7.here hexec rfl 1 (hb hbytes d32) (by decide) rfl rfl ?_
        refine iincV X7.here hexec rfl 1 (hb hbytes d35) (by decide) rfl rfl ?_
        refine iincV X7.here hexec rfl 1 (hb hbytes d38) (by decide) rfl rfl ?_
        refine XS.goto X7.here hexec rfl (pc0 := 41) rfl (hb hbytes d41) (by decide) rfl ?_
        exact Steps.refl _)
      have c10 : Steps p.tables e below (s₁.setTop (entryFrame m #[.ref b, .int (Int32.ofNat o), .ref d, .int (Int32.ofNat q), .int (Int32.ofNat len)] 7)) (T7.setTop (mkF m 3 #[.val (.ref b), .val (.int (Int32.ofNat (o + (i + 1)))), .val (.ref d), .val (.int (Int32.ofNat (q + (i + 1)))), .val (.int (Int32.ofNat len)), .val (.int (Int32.ofNat (i + 1))), .val (.int (cv A (o + i)))] [])) := by
        have := c9
        rw [succ32, succ32, succ32] at this
        exact this
      exact ih (i + 1) (by omega) _ (Or.inr ⟨_, rfl, rfl⟩) T7 _ (by rw [copyLocs_step, ← List.append_assoc]; exact X7) (pl.trans p7) (fl.step (by omega) hlt (by simp)) c10
  obtain ⟨T9, B9, z9, X9, p9, f9, g9⟩ := loop len 0 (by omega) .unset (Or.inl rfl) s₁ B (by simpa [copyLocs] using X0) ⟨hB0.1, fun _ _ => rfl, rfl⟩ (Laid.zero _ _ _) c2
  have c11 : Steps p.tables e below (s₁.setTop (entryFrame m #[.ref b, .int (Int32.ofNat o), .ref d, .int (Int32.ofNat q), .int (Int32.ofNat len)] 7)) (T9.setTop (mkF m 46 #[.val (.ref b), .val (.int (Int32.ofNat (o + len))), .val (.ref d), .val (.int (Int32.ofNat (q + len))), .val (.int (Int32.ofNat len)), .val (.int (Int32.ofNat len)), z9] [.int (Int32.ofNat len)])) := g9.trans (by
    refine XS.iload X9.here hexec rfl (hb hbytes d3) rfl ?_
    refine XS.iload X9.here hexec rfl (hb hbytes d5) rfl ?_
    refine XS.icmpYes X9.here hexec rfl (pc0 := 7) rfl (hb hbytes d7) rfl (ii_ge_t (nlt32 (by omega) (Nat.le_refl _))) (by decide) rfl ?_
    refine XS.iload X9.here hexec rfl (hb hbytes d44) rfl ?_
    exact Steps.refl _)
  exact ⟨T9, some (.int (Int32.ofNat len)), _, _, _, X9, by simp, rfl, rfl, (fun h => by cases h), ⟨rfl, B9, p9.from hh0, f9⟩, fun fs hl => c11.trans (X9.ireturnOut hexec hret rfl (Or.inl rfl) (hb hbytes d46) hl)⟩
end Cmp5
namespace Cmp3
def yN : MethodName := ⟨"java/lang/StringUTF16", "compress", "([CII)[B"⟩
abbrev yB : ByteArray := jdk_52_method_16_code
theorem d0 : decode yB 0 = .ok (.iload_n 2, 1) := by decide +kernel
theorem d1 : decode yB 1 = .ok (.newarray .byte, 2) := by decide +kernel
theorem d3 : decode yB 3 = .ok (.astore_n 3, 1) := by decide +kernel
theorem d4 : decode yB 4 = .ok (.aload_n 0, 1) := by decide +kernel
theorem d5 : decode yB 5 = .ok (.iload_n 1, 1) := by decide +kernel
theorem d6 : decode yB 6 = .ok (.aload_n 3, 1) := by decide +kernel
theorem d7 : decode yB 7 = .ok (.iconst 0, 1) := by decide +kernel
theorem d8 : decode yB 8 = .ok (.iload_n 2, 1) := by decide +kernel
theorem d9 : decode yB 9 = .ok (.invokestatic 115, 3) := by decide +kernel
theorem d12 : decode yB 12 = .ok (.istore 4, 2) := by decide +kernel
theorem d14 : decode yB 14 = .ok (.iload 4, 2) := by decide +kernel
theorem d16 : decode yB 16 = .ok (.iload_n 2, 1) := by decide +kernel
theorem d17 : decode yB 17 = .ok (.if_icmp (.eq) 40, 3) := by decide +kernel
theorem d57 : decode yB 57 = .ok (.aload_n 3, 1) := by decide +kernel
theorem d58 : decode yB 58 = .ok (.areturn, 1) := by decide +kernel
def site : List Cond := [.arrayClass .byte, Cmp5.tab] ++ staticW U16 115 Cmp5.yN
def tab : Cond := tabOf yN yB 6 (some (.array .byte)) site
def P (b : Addr) (A : Cell) (o len : Nat) (args : Array Value) (s : State) : Prop := args = #[.ref b, .int (Int32.ofNat o), .int (Int32.ofNat len)] ∧ Ch b A s ∧ o + len ≤ A.slots.size ∧ len ≤ 536870912 ∧ ∀ i, i < len → ¬ 255 < cv A (o + i)
def E (b : Addr) (A : Cell) (o len : Nat) (r : Option Value) (s u : State) : Prop := NewArr .byte "[B" len (fun j => .int (lo8 (cv A (o + j)))) r s u ∧ u.heap.size = s.heap.size + 1
/-- no char of the range above 255: a new byte[] of their low bytes -/
theorem law (l : Launch) (b : Addr) (A : Cell) (o len : Nat) : Law l yN 3 3 1 18 yB 6 (some (.array .byte)) site (P b A o len) (E b A o len) [] 1 len := by
  refine Law.of_walk (plainFor_of_name (by decide +kernel)) (by decide +kernel) (by decide +kernel) (by decide) (fun _ _ h => by rw [h.1]; rfl) (fun _ U U' hal hh h => ⟨h.1, h.2.1.mv hal hh, h.2.2⟩) (fun r U U' V V' h1 hal h2 h => ⟨NewArr.mv r U U' V V' h1 hal h2 h.1, by rw [h1, h2]; exact h.2⟩) ?_
  intro p e s m args below meth c s₁ X0 hexec hbytes hml hret hlk hnm hown hh0 W hP
  obtain ⟨rfl, hA, l1, l2, hp⟩ := hP
  have a31 := hA.1.2.2.2
  have c1 : Steps p.tables e below (s₁.setTop (entryFrame m #[.ref b, .int (Int32.ofNat o), .int (Int32.ofNat len)] 6)) (s₁.setTop (mkF m 0 #[.val (.ref b), .val (.int (Int32.ofNat o)), .val (.int (Int32.ofNat len)), .unset, .unset, .unset] [])) := entry rfl
  have c2 : Steps p.tables e below (s₁.setTop (entryFrame m #[.ref b, .int (Int32.ofNat o), .int (Int32.ofNat len)] 6)) (s₁.setTop (mkF m 1 #[.val (.ref b), .val (.int (Int32.ofNat o)), .val (.int (Int32.ofNat len)), .unset, .unset, .unset] [.int (Int32.ofNat len)])) := c1.trans (by
    refine XS.iloadN X0.here hexec rfl (hb hbytes d0) rfl ?_
    exact Steps.refl _)
  obtain ⟨T3, B3, X3, ba3, bs3, bv3, bh3, bf3, st3⟩ := X0.anew hexec (atype := .byte) (wk W (.arrayClass .byte)) rfl (by show len * 1 ≤ _; omega) (by omega) (g := (mkF m 1 #[.val (.ref b), .val (.int (Int32.ofNat o)), .val (.int (Int32.ofNat len)), .unset, .unset, .unset] [.int (Int32.ofNat len)])) rfl (hb hbytes d1) (rest := []) rfl (Nat.le_refl _) (by show 0 + len ≤ len; omega)
  rw [hh0] at ba3 st3
  have kp3 : XT.Kept s T3 := (XT.Kept.of_eq hh0).push bh3
  have hA3 := hA.keep X3.warmed.alike (kp3 _ _ hA.1.1)
  have hne : b ≠ s.heap.size := hA.1.ne
  have c4 : Steps p.tables e below (s₁.setTop (entryFrame m #[.ref b, .int (Int32.ofNat o), .int (Int32.ofNat len)] 6)) (T3.setTop (mkF m 3 #[.val (.ref b), .val (.int (Int32.ofNat o)), .val (.int (Int32.ofNat len)), .unset, .unset, .unset] [.ref s.heap.size])) := c2.trans (st3 _ (Steps.refl _))
  have c5 : Steps p.tables e below (s₁.setTop (entryFrame m #[.ref b, .int (Int32.ofNat o), .int (Int32.ofNat len)] 6)) (T3.setTop (mkF m 9 #[.val (.ref b), .val (.int (Int32.ofNat o)), .val (.int (Int32.ofNat len)), .val (.ref s.heap.size), .unset, .unset] [.int (Int32.ofNat len), .int 0, .ref s.heap.size, .int (Int32.ofNat o), .ref b])) := c4.trans (by
    refine XS.astoreN X3.here hexec rfl (hb hbytes d3) rfl rfl rfl ?_
    refine XS.aloadN X3.here hexec rfl (hb hbytes d4) rfl rfl ?_
    refine XS.iloadN X3.here hexec rfl (hb hbytes d5) rfl ?_
    refine XS.aloadN X3.here hexec rfl (hb hbytes d6) rfl rfl ?_
    refine iconstV X3.here hexec rfl 0 (hb hbytes d7) (by decide) ?_
    refine XS.iloadN X3.here hexec rfl (hb hbytes d8) rfl ?_
    exact Steps.refl _)
  obtain ⟨v6, T6, X6, E6, g6⟩ := X3.callS hexec (Cmp5.law l b A s.heap.size B3 o 0 len) hown (wks W (staticW U16 115 Cmp5.yN)) (wk W Cmp5.tab) (W := 0) (Nat.le_of_ble_eq_true rfl) (Nat.le_of_ble_eq_true rfl) (Nat.le_refl _) (by show 0 + len + 0 ≤ len; omega) (g := (mkF m 9 #[.val (.ref b), .val (.int (Int32.ofNat o)), .val (.int (Int32.ofNat len)), .val (.ref s.heap.size), .unset, .unset] [.int (Int32.ofNat len), .int (Int32.ofNat 0), .ref s.heap.size, .int (Int32.ofNat o), .ref b])) rfl (by rw [hml]; rfl) c5 (argsL := [.ref b, .int (Int32.ofNat o), .ref s.heap.size, .int (Int32.ofNat 0), .int (Int32.ofNat len)]) (rest := []) rfl rfl (by show 2 * 0 + 0 ≤ _; decide) (hb hbytes d9) (⟨rfl, hA3, ba3, hne, l1, by rw [bs3]; simp, hp⟩)
  obtain ⟨rfl, B6, p6, f6⟩ := E6
  have c7 : Steps p.tables e below (s₁.setTop (entryFrame m #[.ref b, .int (Int32.ofNat o), .int (Int32.ofNat len)] 6)) (T6.setTop (mkF m 12 #[.val (.ref b), .val (.int (Int32.ofNat o)), .val (.int (Int32.ofNat len)), .val (.ref s.heap.size), .unset, .unset] [.int (Int32.ofNat len)])) := g6
  have c8 : Steps p.tables e below (s₁.setTop (entryFrame m #[.ref b, .int (Int32.ofNat o), .int (Int32.ofNat len)] 6)) (T6.setTop (mkF m 58 #[.val (.ref b), .val (.int (Int32.ofNat o)), .val (.int (Int32.ofNat len)), .val (.ref s.heap.size), .val (.int (Int32.ofNat len)), .unset] [.ref s.heap.size])) := c7.trans (by
    refine XS.istore X6.here hexec rfl (hb hbytes d12) rfl rfl ?_
    refine XS.iload X6.here hexec rfl (hb hbytes d14) rfl ?_
    refine XS.iloadN X6.here hexec rfl (hb hbytes d16) rfl ?_
    refine XS.icmpYes X6.here hexec rfl (pc0 := 17) rfl (hb hbytes d17) rfl (ii_eq_t rfl) (by decide) rfl ?_
    refine XS.aloadN X6.here hexec rfl (hb hbytes d57) rfl rfl ?_
    exact Steps.refl _)
  have X8 := X6.wide (L' := []) (cells' := 1) (slots' := len) (fun x hx hlt => by
    simp only [List.nil_append, copyLocs, List.mem_map, List.mem_range] at hx
    obtain ⟨i, -, rfl⟩ := hx
    exact absurd hlt (Nat.lt_irrefl _)) (Nat.le_refl _) (by omega)
  exact ⟨T6, some (.ref s.heap.size), _, _, _, X8, rfl, rfl, rfl, (fun h => by cases h), ⟨⟨rfl, B6, ba3.like (X3.warmed.alike.symm.trans X6.warmed.alike) p6.1 f6.1 f6.2.1 f6.2.2.1, f6.2.1.trans bv3, by rw [X6.warmed.alike.findClass, f6.1]; exact bf3, by rw [f6.2.2.1, bs3]; simp, fun j hj => by rw [f6.2.2.2 j, if_pos (by omega)]; rfl, kp3.put p6 (Nat.le_refl _)⟩, by rw [p6.2.2, bh3, hh0]; simp⟩, fun fs hl => c8.trans (X8.areturnOut hexec rfl hret rfl (hb hbytes d58) hl)⟩
end Cmp3
namespace CodL
def yN : MethodName := ⟨"java/lang/StringUTF16", "coderFromArrayLen", "([BI)B"⟩
abbrev yB : ByteArray := jdk_52_method_15_code
theorem d0 : decode yB 0 = .ok (.iload_n 1, 1) := by decide +kernel
theorem d1 : decode yB 1 = .ok (.aload_n 0, 1) := by decide +kernel
theorem d2 : decode yB 2 = .ok (.arraylength, 1) := by decide +kernel
theorem d3 : decode yB 3 = .ok (.isub, 1) := by decide +kernel
theorem d4 : decode yB 4 = .ok (.bipush 31, 2) := by decide +kernel
theorem d6 : decode yB 6 = .ok (.iushr, 1) := by decide +kernel
theorem d7 : decode yB 7 = .ok (.i2b, 1) := by decide +kernel
theorem d8 : decode yB 8 = .ok (.ireturn, 1) := by decide +kernel
def site : List Cond := []
def tab : Cond := tabOf yN yB 2 (some .byte) site
def P (d : Addr) (B : Cell) (args : Array Value) (s : State) : Prop := args = #[.ref d, .int (Int32.ofNat B.slots.size)] ∧ Arr .byte d B s
def E (r : Option Value) (s u : State) : Prop := XT.PureE (some (.int 0)) r s u
/-- an array as long as the number of chars: LATIN1 -/
theorem law (l : Launch) (d : Addr) (B : Cell) : Law l yN 2 2 0 0 yB 2 (some .byte) site (P d B) E [] 0 0 := by
  refine Law.of_walk (plainFor_of_name (by decide +kernel)) (by decide +kernel) (by decide +kernel) (by decide) (fun _ _ h => by rw [h.1]; rfl) (fun _ U U' hal hh h => ⟨h.1, h.2.mv hal hh⟩) (fun r U U' V V' h1 hal h2 h => XT.PureE.mv r U U' V V' h1 hal h2 h) ?_
  intro p e s m args below meth c s₁ X0 hexec hbytes hml hret hlk hnm hown hh0 W hP
  obtain ⟨rfl, hB⟩ := hP
  have hB0 := hB.mv X0.warmed.alike hh0
  have c1 : Steps p.tables e below (s₁.setTop (entryFrame m #[.ref d, .int (Int32.ofNat B.slots.size)] 2)) (s₁.setTop (mkF m 0 #[.val (.ref d), .val (.int (Int32.ofNat B.slots.size))] [])) := entry rfl
  have c2 : Steps p.tables e below (s₁.setTop (entryFrame m #[.ref d, .int (Int32.ofNat B.slots.size)] 2)) (s₁.setTop (mkF m 2 #[.val (.ref d), .val (.int (Int32.ofNat B.slots.size))] [.ref d, .int (Int32.ofNat B.slots.size)])) := c1.trans (by
    refine XS.iloadN X0.here hexec rfl (hb hbytes d0) rfl ?_
    refine XS.aloadN X0.here hexec rfl (hb hbytes d1) rfl rfl ?_
    exact Steps.refl _)
  have c3 : Steps p.tables e below (s₁.setTop (entryFrame m #[.ref d, .int (Int32.ofNat B.slots.size)] 2)) (s₁.setTop (mkF m 8 #[.val (.ref d), .val (.int (Int32.ofNat B.slots.size))] [.int (lo8 (ushr (Int32.ofNat B.slots.size - Int32.ofNat B.slots.size) 31))])) := c2.trans (by
    refine X0.alen hexec hB0 rfl rfl (hb hbytes d2) ?_
    refine XS.isub X0.here hexec rfl (hb hbytes d3) rfl ?_
    refine bipushV X0.here hexec rfl 31 (hb hbytes d4) (by decide) ?_
    refine iushr X0.here hexec rfl (hb hbytes d6) rfl ?_
    refine i2b X0.here hexec rfl (hb hbytes d7) rfl ?_
    exact Steps.refl _)
  have e0 : lo8 (ushr (Int32.ofNat B.slots.size - Int32.ofNat B.slots.size) 31) = 0 := by rw [Int32.sub_self]; decide
  rw [e0] at c3
  exact ⟨s₁, some (.int 0), _, _, _, X0, rfl, rfl, rfl, (fun h => by cases h), ⟨rfl, hh0⟩, fun fs hl => c3.trans (X0.ireturnOut hexec hret rfl (Or.inr (Or.inr (Or.inl rfl))) (hb hbytes d8) hl)⟩
end CodL
/-- the String at a is Latin-1 over a new byte[] (the heap's one new cell): the low bytes of the len chars of A from o on; every cell but a is kept -/
def Got (a : Addr) (D : Cell) (fV fC : Field) (A : Cell) (o len : Nat) (r : Option Value) (s u : State) : Prop := r = none ∧ ∃ D' V : Cell, Blank "java/lang/String" a D' u ∧ Same D D' [fV.slot, fC.slot] ∧ D'.slots[fV.slot]? = some (.ref s.heap.size) ∧ D'.slots[fC.slot]? = some (.int 0) ∧ Arr .byte s.heap.size V u ∧ V.vm = .none ∧ u.vm.findClass "[B" = some V.cls ∧ V.slots.size = len ∧ (∀ j, j < len → V.slots[j]? = some (.int (lo8 (cv A (o + j))))) ∧ (∀ (y : Addr) (c : Cell), y ≠ a → s.heap[y]? = some c → u.heap[y]? = some c) ∧ u.heap.size = s.heap.size + 1
theorem Got.mv {a : Addr} {D A : Cell} {fV fC : Field} {o len : Nat} : ∀ r (U U' V V' : State), U'.heap = U.heap → V.vm.Alike V'.vm → V'.heap = V.heap → Got a D fV fC A o len r U V → Got a D fV fC A o len r U' V' :=
  fun r U U' V V' h1 hal h2 ⟨e0, D', X, a1, a2, a3, a4, a5, a6, a7, a8, a9, a10, a11⟩ => ⟨e0, D', X, a1.mv hal h2, a2, by rw [h1]; exact a3, a4, by rw [h1]; exact a5.mv hal h2, a6, by rw [hal.findClass]; exact a7, a8, a9, by rw [h1, h2]; exact a10, by rw [h1, h2]; exact a11⟩
namespace New4
def yN : MethodName := ⟨"java/lang/String", "<init>", "([CIILjava/lang/Void;)V"⟩
abbrev yB : ByteArray := jdk_42_method_149_code
theorem d0 : decode yB 0 = .ok (.aload_n 0, 1) := by decide +kernel
theorem d1 : decode yB 1 = .ok (.invokespecial 1, 3) := by decide +kernel
theorem d4 : decode yB 4 = .ok (.iload_n 3, 1) := by decide +kernel
theorem d5 : decode yB 5 = .ok (.ifCond (.ne) 22, 3) := by decide +kernel
theorem d27 : decode yB 27 = .ok (.getstatic 38, 3) := by decide +kernel
theorem d30 : decode yB 30 = .ok (.ifCond (.eq) 28, 3) := by decide +kernel
theorem d33 : decode yB 33 = .ok (.aload_n 1, 1) := by decide +kernel
theorem d34 : decode yB 34 = .ok (.iload_n 2, 1) := by decide +kernel
theorem d35 : decode yB 35 = .ok (.iload_n 3, 1) := by decide +kernel
theorem d36 : decode yB 36 = .ok (.invokestatic 177, 3) := by decide +kernel
theorem d39 : decode yB 39 = .ok (.astore 5, 2) := by decide +kernel
theorem d41 : decode yB 41 = .ok (.aload_n 0, 1) := by decide +kernel
theorem d42 : decode yB 42 = .ok (.aload 5, 2) := by decide +kernel
theorem d44 : decode yB 44 = .ok (.iload_n 3, 1) := by decide +kernel
theorem d45 : decode yB 45 = .ok (.invokestatic 47, 3) := by decide +kernel
theorem d48 : decode yB 48 = .ok (.putfield 15, 3) := by decide +kernel
theorem d51 : decode yB 51 = .ok (.aload_n 0, 1) := by decide +kernel
theorem d52 : decode yB 52 = .ok (.aload 5, 2) := by decide +kernel
theorem d54 : decode yB 54 = .ok (.putfield 9, 3) := by decide +kernel
theorem d57 : decode yB 57 = .ok (.return_, 1) := by decide +kernel
def site : List Cond := [.fieldLink "java/lang/String" 38 "java/lang/String" "COMPACT_STRINGS" "Z", Cmp3.tab, CodL.tab, .laysFinal "java/lang/String" "java/lang/String" "value" "[B", .fieldLink "java/lang/String" 9 "java/lang/String" "value" "[B", .laysFinal "java/lang/String" "java/lang/String" "coder" "B", .fieldLink "java/lang/String" 15 "java/lang/String" "coder" "B"] ++ objW "java/lang/String" 1 ++ staticW "java/lang/String" 177 Cmp3.yN ++ staticW "java/lang/String" 47 CodL.yN
def tab : Cond := tabOf yN yB 6 none site
def P (a : Addr) (D : Cell) (fV fC : Field) (b : Addr) (A : Cell) (z : Int32) (o len : Nat) (args : Array Value) (s : State) : Prop := args = #[.ref a, .ref b, .int (Int32.ofNat o), .int (Int32.ofNat len), .null] ∧ Blank "java/lang/String" a D s ∧ Found "java/lang/String" "value" "[B" fV s ∧ Found "java/lang/String" "coder" "B" fC s ∧ Ch b A s ∧ StaticIs s "java/lang/String" "COMPACT_STRINGS" "Z" (.int z) ∧ ¬ z = 0 ∧ 0 < len ∧ o + len ≤ A.slots.size ∧ len ≤ 536870912 ∧ ∀ i, i < len → ¬ 255 < cv A (o + i)
def E (a : Addr) (D : Cell) (fV fC : Field) (A : Cell) (o len : Nat) (r : Option Value) (s u : State) : Prop := Got a D fV fC A o len r s u
/-- len > 0, no char of the range above 255: a Latin-1 String of their low bytes -/
theorem law (l : Launch) (a : Addr) (D : Cell) (fV fC : Field) (b : Addr) (A : Cell) (z : Int32) (o len : Nat) : Law l yN 5 4 2 35 yB 6 none site (P a D fV fC b A z o len) (E a D fV fC A o len) [⟨a, fC.slot⟩, ⟨a, fV.slot⟩] 1 len := by
  refine Law.of_walk (plainFor_of_name (by decide +kernel)) (by decide +kernel) (by decide +kernel) (by decide) (fun _ _ h => by rw [h.1]; rfl) (fun _ U U' hal hh h => ⟨h.1, h.2.1.mv hal hh, h.2.2.1.al hal, h.2.2.2.1.al hal, h.2.2.2.2.1.mv hal hh, h.2.2.2.2.2.1.there hal hh, h.2.2.2.2.2.2⟩) (fun r U U' V V' h1 hal h2 h => Got.mv r U U' V V' h1 hal h2 h) ?_
  intro p e s m args below meth c s₁ X0 hexec hbytes hml hret hlk hnm hown hh0 W hP
  obtain ⟨rfl, hB, f1, f2, hA, s1, hz, l0, l1, l2, hp⟩ := hP
  have a31 := hA.1.2.2.2
  have c1 : Steps p.tables e below (s₁.setTop (entryFrame m #[.ref a, .ref b, .int (Int32.ofNat o), .int (Int32.ofNat len), .null] 6)) (s₁.setTop (mkF m 0 #[.val (.ref a), .val (.ref b), .val (.int (Int32.ofNat o)), .val (.int (Int32.ofNat len)), .val .null, .unset] [])) := entry rfl
  have c2 : Steps p.tables e below (s₁.setTop (entryFrame m #[.ref a, .ref b, .int (Int32.ofNat o), .int (Int32.ofNat len), .null] 6)) (s₁.setTop (mkF m 1 #[.val (.ref a), .val (.ref b), .val (.int (Int32.ofNat o)), .val (.int (Int32.ofNat len)), .val .null, .unset] [.ref a])) := c1.trans (by
    refine XS.aloadN X0.here hexec rfl (hb hbytes d0) rfl rfl ?_
    exact Steps.refl _)
  obtain ⟨T3, X3, q3, st3⟩ := X0.oinit hexec hown (wks W (objW "java/lang/String" 1)) (g := (mkF m 1 #[.val (.ref a), .val (.ref b), .val (.int (Int32.ofNat o)), .val (.int (Int32.ofNat len)), .val .null, .unset] [.ref a])) rfl (by rw [hml]; rfl) (rest := []) rfl (hb hbytes d1) (W := 0) (by show 2 * 0 + 0 ≤ _; decide) (Nat.le_of_ble_eq_true rfl) (Nat.le_of_ble_eq_true rfl)
  have hh3 := q3.trans hh0
  have c4 : Steps p.tables e below (s₁.setTop (entryFrame m #[.ref a, .ref b, .int (Int32.ofNat o), .int (Int32.ofNat len), .null] 6)) (T3.setTop (mkF m 27 #[.val (.ref a), .val (.ref b), .val (.int (Int32.ofNat o)), .val (.int (Int32.ofNat len)), .val .null, .unset] [])) := (c2.trans (st3 _ (Steps.refl _))).trans (by
    refine XS.iloadN X3.here hexec rfl (hb hbytes d4) rfl ?_
    refine XS.ifYes X3.here hexec rfl (pc0 := 5) rfl (hb hbytes d5) rfl (i0_ne_t (nz32 (by omega) l0)) (by decide) rfl ?_
    exact Steps.refl _)
  obtain ⟨T5, X5, q5, st5⟩ := X3.sget hexec hown (wk W (.fieldLink "java/lang/String" 38 "java/lang/String" "COMPACT_STRINGS" "Z")) s1 (fun _ _ h => by rw [hh3]; exact h) (g := (mkF m 27 #[.val (.ref a), .val (.ref b), .val (.int (Int32.ofNat o)), .val (.int (Int32.ofNat len)), .val .null, .unset] [])) rfl (hb hbytes d27)
  have hh5 := q5.trans hh3
  have c6 : Steps p.tables e below (s₁.setTop (entryFrame m #[.ref a, .ref b, .int (Int32.ofNat o), .int (Int32.ofNat len), .null] 6)) (T5.setTop (mkF m 30 #[.val (.ref a), .val (.ref b), .val (.int (Int32.ofNat o)), .val (.int (Int32.ofNat len)), .val .null, .unset] [.int z])) := c4.trans (st5 _ (Steps.refl _))
  have c7 : Steps p.tables e below (s₁.setTop (entryFrame m #[.ref a, .ref b, .int (Int32.ofNat o), .int (Int32.ofNat len), .null] 6)) (T5.setTop (mkF m 36 #[.val (.ref a), .val (.ref b), .val (.int (Int32.ofNat o)), .val (.int (Int32.ofNat len)), .val .null, .unset] [.int (Int32.ofNat len), .int (Int32.ofNat o), .ref b])) := c6.trans (by
    refine XS.ifNo X5.here hexec rfl (hb hbytes d30) rfl (i0_eq_f hz) ?_
    refine XS.aloadN X5.here hexec rfl (hb hbytes d33) rfl rfl ?_
    refine XS.iloadN X5.here hexec rfl (hb hbytes d34) rfl ?_
    refine XS.iloadN X5.here hexec rfl (hb hbytes d35) rfl ?_
    exact Steps.refl _)
  obtain ⟨v8, T8, X8, E8, g8⟩ := X5.callS hexec (Cmp3.law l b A o len) hown (wks W (staticW "java/lang/String" 177 Cmp3.yN)) (wk W Cmp3.tab) (W := 0) (Nat.le_of_ble_eq_true rfl) (Nat.le_of_ble_eq_true rfl) (Nat.le_refl _) (by show 0 + len ≤ len; omega) (g := (mkF m 36 #[.val (.ref a), .val (.ref b), .val (.int (Int32.ofNat o)), .val (.int (Int32.ofNat len)), .val .null, .unset] [.int (Int32.ofNat len), .int (Int32.ofNat o), .ref b])) rfl (by rw [hml]; rfl) c7 (argsL := [.ref b, .int (Int32.ofNat o), .int (Int32.ofNat len)]) (rest := []) rfl rfl (by show 2 * 0 + 0 ≤ _; decide) (hb hbytes d36) (⟨rfl, hA.mv X5.warmed.alike hh5, l1, l2, hp⟩)
  obtain ⟨e8, z8⟩ := E8
  obtain ⟨rfl, N, n1, n2, n3, n4, n5, n6⟩ := NewArr.mv _ T5 s _ _ hh5.symm (Vm.Alike.refl _) rfl e8
  rw [hh5] at z8
  have hB1 := hB.keep X8.warmed.alike (n6 _ _ hB.1)
  have hne : s.heap.size ≠ a := (Nat.ne_of_lt (Array.getElem?_eq_some_iff.mp hB.1).1).symm
  have c9 : Steps p.tables e below (s₁.setTop (entryFrame m #[.ref a, .ref b, .int (Int32.ofNat o), .int (Int32.ofNat len), .null] 6)) (T8.setTop (mkF m 39 #[.val (.ref a), .val (.ref b), .val (.int (Int32.ofNat o)), .val (.int (Int32.ofNat len)), .val .null, .unset] [.ref s.heap.size])) := g8
  have c10 : Steps p.tables e below (s₁.setTop (entryFrame m #[.ref a, .ref b, .int (Int32.ofNat o), .int (Int32.ofNat len), .null] 6)) (T8.setTop (mkF m 45 #[.val (.ref a), .val (.ref b), .val (.int (Int32.ofNat o)), .val (.int (Int32.ofNat len)), .val .null, .val (.ref s.heap.size)] [.int (Int32.ofNat N.slots.size), .ref s.heap.size, .ref a])) := by
    have hc : Steps p.tables e below (s₁.setTop (entryFrame m #[.ref a, .ref b, .int (Int32.ofNat o), .int (Int32.ofNat len), .null] 6)) (T8.setTop (mkF m 45 #[.val (.ref a), .val (.ref b), .val (.int (Int32.ofNat o)), .val (.int (Int32.ofNat len)), .val .null, .val (.ref s.heap.size)] [.int (Int32.ofNat len), .ref s.heap.size, .ref a])) := c9.trans (by
      refine XS.astore X8.here hexec rfl (hb hbytes d39) rfl rfl rfl ?_
      refine XS.aloadN X8.here hexec rfl (hb hbytes d41) rfl rfl ?_
      refine XS.aload X8.here hexec rfl (hb hbytes d42) rfl rfl ?_
      refine XS.iloadN X8.here hexec rfl (hb hbytes d44) rfl ?_
      exact Steps.refl _)
    rw [n4]; exact hc
  obtain ⟨v11, T11, X11, E11, g11⟩ := X8.callS hexec (CodL.law l s.heap.size N) hown (wks W (staticW "java/lang/String" 47 CodL.yN)) (wk W CodL.tab) (W := 1) (Nat.le_of_ble_eq_true rfl) (Nat.le_of_ble_eq_true rfl) (Nat.le_refl _) (by show 0 + len + 0 ≤ len; omega) (g := (mkF m 45 #[.val (.ref a), .val (.ref b), .val (.int (Int32.ofNat o)), .val (.int (Int32.ofNat len)), .val .null, .val (.ref s.heap.size)] [.int (Int32.ofNat N.slots.size), .ref s.heap.size, .ref a])) rfl (by rw [hml]; rfl) c10 (argsL := [.ref s.heap.size, .int (Int32.ofNat N.slots.size)]) (rest := [.ref a]) rfl rfl (by show 2 * 0 + (1 + 0) ≤ _; decide) (hb hbytes d45) (⟨rfl, n1⟩)
  obtain ⟨rfl, q11⟩ := E11
  have hB11 := hB1.mv (X8.warmed.alike.symm.trans X11.warmed.alike) q11
  have c12 : Steps p.tables e below (s₁.setTop (entryFrame m #[.ref a, .ref b, .int (Int32.ofNat o), .int (Int32.ofNat len), .null] 6)) (T11.setTop (mkF m 48 #[.val (.ref a), .val (.ref b), .val (.int (Int32.ofNat o)), .val (.int (Int32.ofNat len)), .val .null, .val (.ref s.heap.size)] [.int 0, .ref a])) := g11
  obtain ⟨T13, X13, p13, bl13, sl13, st13⟩ := X11.finit hexec hown (wk W (.fieldLink "java/lang/String" 15 "java/lang/String" "coder" "B")) (Or.inr ⟨_, (wk W (.laysFinal "java/lang/String" "java/lang/String" "coder" "B"))⟩) (Or.inl ⟨rfl, hnm⟩) f2 (Or.inl rfl) hB11 (t := .byte) (by decide +kernel) rfl (g := (mkF m 48 #[.val (.ref a), .val (.ref b), .val (.int (Int32.ofNat o)), .val (.int (Int32.ofNat len)), .val .null, .val (.ref s.heap.size)] [.int 0, .ref a])) rfl (rest := []) rfl (hb hbytes d48)
  have c14 : Steps p.tables e below (s₁.setTop (entryFrame m #[.ref a, .ref b, .int (Int32.ofNat o), .int (Int32.ofNat len), .null] 6)) (T13.setTop (mkF m 54 #[.val (.ref a), .val (.ref b), .val (.int (Int32.ofNat o)), .val (.int (Int32.ofNat len)), .val .null, .val (.ref s.heap.size)] [.ref s.heap.size, .ref a])) := (c12.trans (st13 _ (Steps.refl _))).trans (by
    refine XS.aloadN X13.here hexec rfl (hb hbytes d51) rfl rfl ?_
    refine XS.aload X13.here hexec rfl (hb hbytes d52) rfl rfl ?_
    exact Steps.refl _)
  obtain ⟨T15, X15, p15, bl15, sl15, st15⟩ := X13.finit hexec hown (wk W (.fieldLink "java/lang/String" 9 "java/lang/String" "value" "[B")) (Or.inr ⟨_, (wk W (.laysFinal "java/lang/String" "java/lang/String" "value" "[B"))⟩) (Or.inl ⟨rfl, hnm⟩) f1 (Or.inl rfl) bl13 (t := (.array .byte)) (by decide +kernel) rfl (g := (mkF m 54 #[.val (.ref a), .val (.ref b), .val (.int (Int32.ofNat o)), .val (.int (Int32.ofNat len)), .val .null, .val (.ref s.heap.size)] [.ref s.heap.size, .ref a])) rfl (rest := []) rfl (hb hbytes d54)
  have c16 : Steps p.tables e below (s₁.setTop (entryFrame m #[.ref a, .ref b, .int (Int32.ofNat o), .int (Int32.ofNat len), .null] 6)) (T15.setTop (mkF m 57 #[.val (.ref a), .val (.ref b), .val (.int (Int32.ofNat o)), .val (.int (Int32.ofNat len)), .val .null, .val (.ref s.heap.size)] [])) := c14.trans (st15 _ (Steps.refl _))
  have ap := apart (Or.inr ⟨_, (wk W (.laysFinal "java/lang/String" "java/lang/String" "value" "[B"))⟩) (Or.inr ⟨_, (wk W (.laysFinal "java/lang/String" "java/lang/String" "coder" "B"))⟩) f1 f2 (t₁ := .array .byte) (t₂ := .byte) (by decide +kernel) (by decide +kernel) (by decide)
  have al := X8.warmed.alike.symm.trans X15.warmed.alike
  have n7 : T11.heap[s.heap.size]? = some N := by rw [q11]; exact n1.1
  exact ⟨T15, none, _, _, _, X15, by simp, rfl, by omega, (fun _ => rfl), ⟨rfl, _, N, bl15, ((Same.refl D _).set _ (by simp)).set _ (by simp), sl15, (Cell.slots_setSlot_ne _ ap).trans sl13, n1.keep al (p15.other hne (p13.other hne n7)), n2, by rw [al.findClass]; exact n3, n4, n5, fun y c h1 h2 => p15.other h1 (p13.other h1 (by rw [q11]; exact n6 y c h2)), by rw [p15.2.2, p13.2.2, q11]; exact z8⟩, fun fs hl => c16.trans (X15.returnOut hexec hret (hb hbytes d57) hl)⟩
end New4
namespace New1
def yN : MethodName := ⟨"java/lang/String", "<init>", "([C)V"⟩
abbrev yB : ByteArray := jdk_42_method_3_code
theorem d0 : decode yB 0 = .ok (.aload_n 0, 1) := by decide +kernel
theorem d1 : decode yB 1 = .ok (.aload_n 1, 1) := by decide +kernel
theorem d2 : decode yB 2 = .ok (.iconst 0, 1) := by decide +kernel
theorem d3 : decode yB 3 = .ok (.aload_n 1, 1) := by decide +kernel
theorem d4 : decode yB 4 = .ok (.arraylength, 1) := by decide +kernel
theorem d5 : decode yB 5 = .ok (.aconst_null, 1) := by decide +kernel
theorem d6 : decode yB 6 = .ok (.invokespecial 27, 3) := by decide +kernel
theorem d9 : decode yB 9 = .ok (.return_, 1) := by decide +kernel
def site : List Cond := [New4.tab] ++ initW "java/lang/String" 27 New4.yN
def tab : Cond := tabOf yN yB 2 none site
def P (a : Addr) (D : Cell) (fV fC : Field) (b : Addr) (A : Cell) (z : Int32) (args : Array Value) (s : State) : Prop := args = #[.ref a, .ref b] ∧ Blank "java/lang/String" a D s ∧ Found "java/lang/String" "value" "[B" fV s ∧ Found "java/lang/String" "coder" "B" fC s ∧ Ch b A s ∧ StaticIs s "java/lang/String" "COMPACT_STRINGS" "Z" (.int z) ∧ ¬ z = 0 ∧ 0 < A.slots.size ∧ A.slots.size ≤ 536870912 ∧ ∀ i, i < A.slots.size → ¬ 255 < cv A i
def E (a : Addr) (D : Cell) (fV fC : Field) (A : Cell) (r : Option Value) (s u : State) : Prop := Got a D fV fC A 0 A.slots.size r s u
/-- new String(chars), not empty, no char above 255: a Latin-1 String of their low bytes -/
theorem law (l : Launch) (a : Addr) (D : Cell) (fV fC : Field) (b : Addr) (A : Cell) (z : Int32) : Law l yN 2 1 3 52 yB 2 none site (P a D fV fC b A z) (E a D fV fC A) [⟨a, fC.slot⟩, ⟨a, fV.slot⟩] 1 A.slots.size := by
  refine Law.of_walk (plainFor_of_name (by decide +kernel)) (by decide +kernel) (by decide +kernel) (by decide) (fun _ _ h => by rw [h.1]; rfl) (fun _ U U' hal hh h => ⟨h.1, h.2.1.mv hal hh, h.2.2.1.al hal, h.2.2.2.1.al hal, h.2.2.2.2.1.mv hal hh, h.2.2.2.2.2.1.there hal hh, h.2.2.2.2.2.2⟩) (fun r U U' V V' h1 hal h2 h => Got.mv r U U' V V' h1 hal h2 h) ?_
  intro p e s m args below meth c s₁ X0 hexec hbytes hml hret hlk hnm hown hh0 W hP
  obtain ⟨rfl, hB, f1, f2, hA, s1, hz, l0, l2, hp⟩ := hP
  have c1 : Steps p.tables e below (s₁.setTop (entryFrame m #[.ref a, .ref b] 2)) (s₁.setTop (mkF m 0 #[.val (.ref a), .val (.ref b)] [])) := entry rfl
  have c2 : Steps p.tables e below (s₁.setTop (entryFrame m #[.ref a, .ref b] 2)) (s₁.setTop (mkF m 6 #[.val (.ref a), .val (.ref b)] [.null, .int (Int32.ofNat A.slots.size), .int 0, .ref b, .ref a])) := c1.trans (by
    refine XS.aloadN X0.here hexec rfl (hb hbytes d0) rfl rfl ?_
    refine XS.aloadN X0.here hexec rfl (hb hbytes d1) rfl rfl ?_
    refine iconstV X0.here hexec rfl 0 (hb hbytes d2) (by decide) ?_
    refine XS.aloadN X0.here hexec rfl (hb hbytes d3) rfl rfl ?_
    refine X0.alen hexec (hA.1.mv X0.warmed.alike hh0) rfl rfl (hb hbytes d4) ?_
    refine XS.aconstNull X0.here hexec rfl (hb hbytes d5) ?_
    exact Steps.refl _)
  obtain ⟨v3, T3, X3, E3, g3⟩ := X0.callN hexec (New4.law l a D fV fC b A z 0 A.slots.size) rfl hown (wks W (initW "java/lang/String" 27 New4.yN)) (W New4.tab (by simp only [site, List.mem_cons, List.mem_append, true_or, or_true])) (W := 0) (Nat.le_of_ble_eq_true rfl) (Nat.le_of_ble_eq_true rfl) (Nat.le_refl _) (by show 0 + A.slots.size ≤ A.slots.size; omega) (g := (mkF m 6 #[.val (.ref a), .val (.ref b)] [.null, .int (Int32.ofNat A.slots.size), .int (Int32.ofNat 0), .ref b, .ref a])) rfl (by rw [hml]; rfl) c2 (argsL := [.ref b, .int (Int32.ofNat 0), .int (Int32.ofNat A.slots.size), .null]) (rest := []) rfl rfl (by show 2 * 0 + 0 ≤ _; decide) (hb hbytes d6) (⟨rfl, hB.mv X0.warmed.alike hh0, f1.al X0.warmed.alike, f2.al X0.warmed.alike, hA.mv X0.warmed.alike hh0, s1.there X0.warmed.alike hh0, hz, l0, by omega, l2, fun i hi => by rw [Nat.zero_add]; exact hp i hi⟩)
  have e0 := Got.mv _ s₁ s _ _ hh0.symm (Vm.Alike.refl _) rfl E3
  obtain rfl := e0.1
  have c4 : Steps p.tables e below (s₁.setTop (entryFrame m #[.ref a, .ref b] 2)) (T3.setTop (mkF m 9 #[.val (.ref a), .val (.ref b)] [])) := g3
  exact ⟨T3, none, _, _, _, X3, by simp, rfl, by omega, (fun _ => rfl), e0, fun fs hl => c4.trans (X3.returnOut hexec hret (hb hbytes d9) hl)⟩
theorem pays {l : Launch} {R : Room} {p : Program} {e : Env} {below : List Frame} {s : State} {sargs : Array Value} {len W : Nat} (a : Addr) (D : Cell) (fV fC : Field) (b : Addr) (A : Cell) (z : Int32) (htab : tab.before sargs s = true) (hfr : 4 ≤ R.frames) (hlo : W + 65 ≤ R.locals) :
    Back l R p e below s sargs yN len W (fun A₁ a₁ => A₁.cells + 1 ≤ R.cells ∧ A₁.slots + A.slots.size ≤ R.slots ∧ P a D fV fC b A z a₁ A₁.U) (fun A₁ _ v₁ B₁ => E a D fV fC A v₁ A₁.U B₁.U ∧ B₁.locs = A₁.locs ++ [⟨a, fC.slot⟩, ⟨a, fV.slot⟩] ∧ B₁.cells = A₁.cells + 1 ∧ B₁.slots = A₁.slots + A.slots.size) :=
  (law l a D fV fC b A z).pays htab hfr (by omega)
end New1
/-- the byte, read back as charAt reads it, is the char -/
theorem lo8_mask {x : Int32} (h0 : ¬ x < 0) (h1 : ¬ 255 < x) : lo8 x &&& 255 = x := by
  have t : ∀ k : Fin 256, lo8 (Int32.ofNat k.val) &&& 255 = Int32.ofNat k.val := by decide +kernel
  rw [Int32.lt_iff_toInt_lt] at h0 h1
  have e0 : (0 : Int32).toInt = 0 := rfl
  have e1 : (255 : Int32).toInt = 255 := rfl
  obtain ⟨k, hk⟩ : ∃ k : Nat, x.toInt = k := ⟨x.toInt.toNat, by omega⟩
  have hx : x = Int32.ofNat k := Int32.toInt_inj.mp (by rw [hk, Int32.toInt_ofNat_small (by omega)])
  rw [hx]
  exact t ⟨k, by omega⟩
end StrChars
namespace StrChars.Road
open Jvm Sem ClassFile Op Lib Jvm.Stand Jvm.Free Jvm.Free.XT
open Jvm.Lib.Cold (StaticIs)
abbrev ST : String := "java/lang/String"
/-- every table word that New1's law asks, flat -/
abbrev words : List Jvm.Cond := [.code New1.yN New1.yB 2 none, .initialized ST, .methodLink ST 27 New4.yN, .instanceMethod New4.yN,
  .code New4.yN New4.yB 6 none, .fieldLink ST 38 ST "COMPACT_STRINGS" "Z", .laysFinal ST ST "value" "[B", .fieldLink ST 9 ST "value" "[B", .laysFinal ST ST "coder" "B", .fieldLink ST 15 ST "coder" "B",
  .methodLink ST 1 Lib.objectInit, .instanceMethod Lib.objectInit, .code Lib.objectInit ⟨#[0xb1]⟩ 1 none, .methodLink ST 177 Cmp3.yN, .static Cmp3.yN, .methodLink ST 47 CodL.yN, .static CodL.yN,
  .code Cmp3.yN Cmp3.yB 6 (some (.array .byte)), .initialized U16, .arrayClass .byte, .methodLink U16 115 Cmp5.yN, .static Cmp5.yN, .code Cmp5.yN Cmp5.yB 7 (some .int), .code CodL.yN CodL.yB 2 (some .byte)]
theorem tab_of {a : Array Value} {s : State} (h : ∀ w ∈ words, w.before a s = true) : New1.tab.before a s = true := by
  have h5 : Cmp5.tab.before a s = true := unparts (wk h (.code Cmp5.yN Cmp5.yB 7 (some .int))) (wks h (.initialized Cmp5.yN.cls :: Cmp5.site))
  have hc : CodL.tab.before a s = true := unparts (wk h (.code CodL.yN CodL.yB 2 (some .byte))) (wks h (.initialized CodL.yN.cls :: CodL.site))
  have q5 : ∀ w ∈ Cmp5.tab :: words, w.before a s = true := fun w hw => (List.mem_cons.mp hw).elim (fun e => e ▸ h5) (h w)
  have h3 : Cmp3.tab.before a s = true := unparts (wk q5 (.code Cmp3.yN Cmp3.yB 6 (some (.array .byte)))) (wks q5 (.initialized Cmp3.yN.cls :: Cmp3.site))
  have q3 : ∀ w ∈ Cmp3.tab :: CodL.tab :: words, w.before a s = true := fun w hw => (List.mem_cons.mp hw).elim (fun e => e ▸ h3) fun hw => (List.mem_cons.mp hw).elim (fun e => e ▸ hc) (h w)
  have h4 : New4.tab.before a s = true := unparts (wk q3 (.code New4.yN New4.yB 6 none)) (wks q3 (.initialized New4.yN.cls :: New4.site))
  have q4 : ∀ w ∈ New4.tab :: words, w.before a s = true := fun w hw => (List.mem_cons.mp hw).elim (fun e => e ▸ h4) (h w)
  exact unparts (wk q4 (.code New1.yN New1.yB 2 none)) (wks q4 (.initialized New1.yN.cls :: New1.site))
/-- the words ride from the start Z to the walk's own state -/
theorem moved {Z s : State} {a0 args : Array Value} (hZ : Z.Warmed39 s.vm) (hw : ∀ d ∈ words, d.before a0 Z = true) : ∀ d ∈ words, d.before args s = true := fun d hd => by
  have q := hw d hd
  have t : ∀ d ∈ words, d = .arrayClass .byte ∨ (d.onTables && d.keepsFace) = true := by decide +kernel
  rcases t d hd with rfl | t
  · exact RoadKit.mvA hZ q
  · exact RoadKit.mv hZ q t
/-- WHAT COMES BACK, over the tables of the start Z: h the heap at the call, h' behind it -/
def Q (Z : State) (x : Addr) (A : Cell) (h : Heap) (v : Option Value) (h' : Heap) (L : List Loc) : Prop := v = none ∧ (∀ y ∈ L, y.base = x) ∧ RoadKit.Keep h h' [x] ∧ h'.size = h.size + 1 ∧ RoadKit.Exa Z h' x ST ∧ RoadKit.Fld Z h' x ST "value" "[B" (.ref h.size) ∧ RoadKit.Fld Z h' x ST "coder" "B" (.int 0) ∧
  (∃ V : Cell, RoadKit.Arr Z h' h.size V .byte ∧ V.vm = .none ∧ Z.vm.findClass "[B" = some V.cls ∧ V.slots.size = A.slots.size ∧ ∀ j, j < A.slots.size → V.slots[j]? = some (.int (lo8 (cv A j)))) ∧
  ∀ (O n d : String) (w : Value), RoadKit.Fld Z h x O n d w → RoadKit.slotOf Z O n d ≠ RoadKit.slotOf Z ST "value" "[B" → RoadKit.slotOf Z O n d ≠ RoadKit.slotOf Z ST "coder" "B" → RoadKit.Fld Z h' x O n d w
/-- **new String(chars) AT A CALL, IN THE ROAD'S FORM**: for specialBack behind newO: x the fresh String, b the char[] with the cell A -/
theorem back {p : Program} {l : Launch} {e : Env} {R : Room} {s : State} {args : Array Value} {below : List Frame} {len W : Nat} {Z : State} {a0 : Array Value} {h : Heap} (hZ : Z.Warmed39 s.vm) (hw : ∀ d ∈ words, d.before a0 Z = true) {kI : Nat} (wi : (Jvm.Cond.instantiable ST kI).before a0 Z = true)
    {x b : Addr} {A : Cell} {z : Int32} {v0 c0 : Value} (E : RoadKit.Exa Z h x ST) (V : RoadKit.Fld Z h x ST "value" "[B" v0) (C : RoadKit.Fld Z h x ST "coder" "B" c0) (K : RoadKit.Arr Z h b A .char) (hty : Typed .char A) (S : RoadKit.Sta Z h ST "COMPACT_STRINGS" "Z" (.int z)) (hz : ¬ z = 0)
    (l0 : 0 < A.slots.size) (l2 : A.slots.size ≤ 536870912) (hp : ∀ i, i < A.slots.size → ¬ 255 < cv A i) (hfr : 4 ≤ R.frames) (hlo : W + 65 ≤ R.locals) :
    Back l R p e below s args New1.yN len W (fun P a => a = #[.ref x, .ref b] ∧ P.U.heap = h ∧ P.cells + 1 ≤ R.cells ∧ P.slots + A.slots.size ≤ R.slots)
      (fun P _ v B => ∃ L, Q Z x A h v B.U.heap L ∧ B.locs = P.locs ++ L ∧ B.cells = P.cells + 1 ∧ B.slots = P.slots + A.slots.size) := by
  intro m meth c P g ig mk a X hg hsize hdg hW hn hp'
  obtain ⟨rfl, rfl, r1, r2⟩ := hp'
  have al : Z.vm.Alike P.U.vm := hZ.alike.trans X.warmed.alike
  obtain ⟨D, cfV, kV, iV, fV, hD, gV, stV, knV, obV, asV, slV⟩ := id V
  obtain ⟨D', cfC, kC, iC, fC, hD', gC, stC, -, -, asC, slC⟩ := id C
  cases hD.symm.trans hD'
  obtain ⟨D2, kD, e1, e2, e3, e4, e5⟩ := id E
  cases hD.symm.trans e1
  obtain ⟨c2, k2, i1, i2, i3, -⟩ := Cond.instantiable_spec wi
  cases e2.symm.trans i1
  cases e3.symm.trans i2
  obtain ⟨kU, u1, u2⟩ := al.2.2 _ _ e3
  have hB : Blank ST x D P.U := ⟨hD, ⟨knV, fun q hq => by rw [hq] at obV; cases obV⟩, by rw [al.findClass]; exact e2, kU, u1, by rw [u2]; exact i3, by rw [u2]; exact e5 i3⟩
  have F1 : Found ST "value" "[B" fV P.U := ⟨SBG.found_only al ⟨cfV, kV, iV, gV⟩, stV⟩
  have F2 : Found ST "coder" "B" fC P.U := ⟨SBG.found_only al ⟨cfC, kC, iC, gC⟩, stC⟩
  have hA : Ch b A P.U := ⟨⟨K.1, State.isArrayOf_alike al K.2.1, K.2.2, by omega⟩, hty⟩
  have hS : StaticIs P.U ST "COMPACT_STRINGS" "Z" (.int z) := by
    obtain ⟨cfS, iS, kS, fS, st, cS, t1, t2, t3, t4, t5, t6, t7⟩ := S
    exact StaticIs.there (s := { Z with heap := P.U.heap }) ⟨cfS, iS, kS, fS, st, cS, t1, t2, t3, t4, t5, (fun q => by rw [q] at t6; cases t6), t7⟩ al rfl
  obtain ⟨v, B, X', ⟨⟨hv, E', V', q1, q2, q3, q4, q5, q6, q7, q8, q9, q10, q11⟩, hl, hc, hs⟩, st⟩ := New1.pays x D fV fC b A z (tab_of (moved hZ hw)) hfr hlo m meth c P g ig mk _ X hg hsize hdg hW hn ⟨r1, r2, rfl, hB, F1, F2, hA, hS, hz, l0, l2, hp⟩
  have al' : Z.vm.Alike B.U.vm := hZ.alike.trans X'.warmed.alike
  have hsz : E'.slots.size = D.slots.size := by
    obtain ⟨-, -, -, kB, w1, w2, w3⟩ := q1
    obtain ⟨kB', y1, y2⟩ := al'.2.2 _ _ e3
    rw [q2.2.1] at w1
    cases w1.symm.trans y1
    rw [w3, e5 i3, y2]
  refine ⟨v, B, X', ⟨_, ⟨hv, ?_, ⟨by omega, fun y cy hy hn' => q10 y cy (by simpa using hn') hy, fun y cy hy => ?_⟩, q11, ⟨E', _, q1.1, by rw [q2.2.1]; exact e2, by rw [q2.2.1]; exact e3, by rw [q2.1]; exact obV, fun _ => by rw [hsz]; exact e5 i3⟩,
    ⟨E', cfV, kV, iV, fV, q1.1, gV, stV, by rw [q2.1]; exact knV, by rw [q2.1]; exact obV, by rw [q2.2.1]; exact asV, q3⟩, ⟨E', cfC, kC, iC, fC, q1.1, gC, stC, by rw [q2.1]; exact knV, by rw [q2.1]; exact obV, by rw [q2.2.1]; exact asC, q4⟩,
    ⟨V', ⟨q5.1, State.isArrayOf_alike al'.symm q5.2.1, q5.2.2.1⟩, q6, by rw [← al'.findClass]; exact q7, q8, fun j hj => by have := q9 j hj; rwa [Nat.zero_add] at this⟩, fun O n d w F n1 n2 => ?_⟩, hl, hc, hs⟩, st⟩
  · intro y hy
    simp only [List.mem_cons, List.not_mem_nil, or_false] at hy
    rcases hy with rfl | rfl <;> rfl
  · by_cases q : y = x
    · subst q
      cases hD.symm.trans hy
      exact ⟨E', q1.1, q2.2.1, q2.1, hsz⟩
    · exact ⟨cy, q10 y cy q hy, rfl, rfl, rfl⟩
  · obtain ⟨D3, cf, k, i, f, g1, g2, g3, g4, g5, g6, g7⟩ := F
    cases hD.symm.trans g1
    simp only [RoadKit.slotOf, g2, gV, gC, Option.map_some, Option.getD_some] at n1 n2
    exact ⟨E', cf, k, i, f, q1.1, g2, g3, by rw [q2.1]; exact g4, by rw [q2.1]; exact g5, by rw [q2.2.1]; exact g6, by rw [q2.2.2 f.slot (by simp [n1, n2])]; exact g7⟩
end StrChars.Road
namespace StrChars.Road
open Jvm Sem ClassFile Op Lib Jvm.Stand Jvm.Free Jvm.Free.XT
/-- WHAT COMES BACK, the byte[] as a list of values -/
def QA (Z : State) (x : Addr) (zn : Int32) (cs : List Int32) (h : Heap) (v : Option Value) (h' : Heap) (L : List Loc) : Prop := v = none ∧ (∀ y ∈ L, y.base = x) ∧ RoadKit.Keep h h' [x] ∧ h'.size = h.size + 1 ∧ RoadKit.Exa Z h' x ST ∧ RoadKit.Fld Z h' x ST "value" "[B" (.ref h.size) ∧ RoadKit.Fld Z h' x ST "coder" "B" (.int 0) ∧
  (∃ kb, Z.vm.findClass "[B" = some kb ∧ RoadKit.Arv Z h' h.size kb .byte zn (cs.map fun c => .int (lo8 c)) (.int 0)) ∧
  ∀ (O n d : String) (w : Value), RoadKit.Fld Z h x O n d w → RoadKit.slotOf Z O n d ≠ RoadKit.slotOf Z ST "value" "[B" → RoadKit.slotOf Z O n d ≠ RoadKit.slotOf Z ST "coder" "B" → RoadKit.Fld Z h' x O n d w
/-- **new String(chars) AT A CALL, THE ARRAYS AS LISTS**: the char[] at b holds cs, not empty, no char above 255 -/
theorem backArv {p : Program} {l : Launch} {e : Env} {R : Room} {s : State} {args : Array Value} {below : List Frame} {len W : Nat} {Z : State} {a0 : Array Value} {h : Heap} (hZ : Z.Warmed39 s.vm) (hw : ∀ d ∈ words, d.before a0 Z = true) {kI : Nat} (wi : (Jvm.Cond.instantiable ST kI).before a0 Z = true)
    {x b : Addr} {k : ClassId} {zn z : Int32} {cs : List Int32} {dv v0 c0 : Value} (E : RoadKit.Exa Z h x ST) (V : RoadKit.Fld Z h x ST "value" "[B" v0) (C : RoadKit.Fld Z h x ST "coder" "B" c0) (K : RoadKit.Arv Z h b k .char zn (cs.map Value.int) dv) (S : RoadKit.Sta Z h ST "COMPACT_STRINGS" "Z" (.int z)) (hz : ¬ z = 0)
    (hlen : zn.toNatClampNeg = cs.length) (h0 : 0 < cs.length) (hbig : cs.length ≤ 536870912) (hall : ∀ c ∈ cs, ¬ 255 < c) (hfr : 4 ≤ R.frames) (hlo : W + 65 ≤ R.locals) :
    Back l R p e below s args New1.yN len W (fun P a => a = #[.ref x, .ref b] ∧ P.U.heap = h ∧ P.cells + 1 ≤ R.cells ∧ P.slots + cs.length ≤ R.slots)
      (fun P _ v B => ∃ L, QA Z x zn cs h v B.U.heap L ∧ B.locs = P.locs ++ L ∧ B.cells = P.cells + 1 ∧ B.slots = P.slots + cs.length) := by
  obtain ⟨A, K1, K2, K3, K4, K5, K6⟩ := K
  have e : A.slots.size = cs.length := K3.trans hlen
  have hat : ∀ (i : Nat) (hi : i < cs.length), A.slots[i]? = some (.int cs[i]) := fun i hi => by rw [K5 i (by omega)]; simp [List.getD_eq_getElem?_getD, hi]
  have hcv : ∀ (i : Nat) (hi : i < cs.length), cv A i = cs[i] := fun i hi => by unfold cv; rw [hat i hi]
  have hty : Typed .char A := fun i v hv => by
    have hi : i < A.slots.size := (Array.getElem?_eq_some_iff.mp hv).1
    have q := K5 i hi
    rw [hv] at q
    rw [Option.some.inj q]
    exact K6 i hi
  refine Back.mono (back hZ hw wi E V C K1 hty S hz (by omega) (by omega) (fun i hi => by rw [hcv i (by omega)]; exact hall _ (List.getElem_mem _)) hfr hlo) (fun P a hp => ⟨hp.1, hp.2.1, hp.2.2.1, by rw [e]; exact hp.2.2.2⟩) (fun P a v B hp hq => ?_)
  obtain ⟨L, ⟨q1, q2, q3, q4, q5, q6, q7, ⟨V', v1, v2, v3, v4, v5⟩, q9⟩, hl, hc, hs⟩ := hq
  refine ⟨L, ⟨q1, q2, q3, q4, q5, q6, q7, ⟨V'.cls, v3, V', v1, rfl, by rw [v4, e, hlen], K4, fun i hi => ?_, fun i hi => ?_⟩, q9⟩, hl, hc, by rw [hs, e]⟩
  · have hi' : i < cs.length := by omega
    rw [v5 i (by omega), hcv i hi']; simp [List.getD_eq_getElem?_getD, hi']
  · have hi' : i < cs.length := by omega
    simp only [List.getD_eq_getElem?_getD, List.getElem?_map, List.getElem?_eq_getElem hi', Option.map_some, Option.getD_some]
    exact fits_lo8 _
end StrChars.Road
namespace StrChars.Road
open Jvm Sem ClassFile Op Lib Jvm.Stand Jvm.Free Jvm.Free.XT
/-- WHAT COMES BACK, in the writer's own shape -/
def QV (Z : State) (x : Addr) (N : Int32) (bs : List Int32) (h : Heap) (n0 : Nat) (v : Option Value) (h' : Heap) (L : List Loc) : Prop := v = none ∧ RoadKit.Fr n0 L ∧ RoadKit.Keep h h' [x] ∧ RoadKit.Exa Z h' x ST ∧ RoadKit.Fld Z h' x ST "coder" "B" (.int 0) ∧
  ∃ (t : Addr) (kb : ClassId), n0 ≤ t ∧ h.size ≤ t ∧ ¬ t = x ∧ RoadKit.Fld Z h' x ST "value" "[B" (.ref t) ∧ RoadKit.Arv Z h' t kb .byte N (bs.map Value.int) (.int 0)
/-- **new String(chars) AT A CALL, FOR THE WRITER**: a char[] of n known ints, each 0 to 255 -/
theorem backV {p : Program} {l : Launch} {e : Env} {R : Room} {s : State} {args : Array Value} {below : List Frame} {len W : Nat} {Z : State} {a0 : Array Value} {h : Heap} (hZ : Z.Warmed39 s.vm) (hw : ∀ d ∈ words, d.before a0 Z = true) {kI : Nat} (wi : (Jvm.Cond.instantiable ST kI).before a0 Z = true)
    {x b : Addr} {kC : ClassId} {cs bs : List Int32} {d v0 c0 : Value} {z N : Int32} {n n0 : Nat} (hx0 : n0 ≤ x) (hh0 : n0 ≤ h.size) (E : RoadKit.Exa Z h x ST) (V : RoadKit.Fld Z h x ST "value" "[B" v0) (C : RoadKit.Fld Z h x ST "coder" "B" c0) (K : RoadKit.Arv Z h b kC .char N (cs.map Value.int) d) (S : RoadKit.Sta Z h ST "COMPACT_STRINGS" "Z" (.int z)) (hz : ¬ z = 0)
    (hn : cs.length = n) (hN : N = Int32.ofNat n) (l0 : 0 < n) (l2 : n ≤ 4000) (hp : ∀ c ∈ cs, ¬ c < 0 ∧ ¬ (255 : Int32) < c) (hb : bs = cs.map (fun c => c.toInt8.toInt32)) (hfr : 4 ≤ R.frames) (hlo : W + 65 ≤ R.locals) :
    Back l R p e below s args (⟨"java/lang/String", "<init>", "([C)V"⟩ : MethodName) len W (fun P a => a = #[.ref x, .ref b] ∧ P.U.heap = h ∧ P.cells + 1 ≤ R.cells ∧ P.slots + n ≤ R.slots)
      (fun P _ v B => ∃ L, QV Z x N bs h n0 v B.U.heap L ∧ B.locs = P.locs ++ L ∧ B.cells = P.cells + 1 ∧ B.slots = P.slots + n) := by
  subst hn hN hb
  refine Back.mono (backArv hZ hw wi E V C K S hz (n32 (by omega)) l0 (by omega) (fun c hc => (hp c hc).2) hfr hlo) (fun P a hp => hp) (fun P a v B hp hq => ?_)
  obtain ⟨L, ⟨q1, q2, q3, q4, q5, q6, q7, ⟨kb, v1, v2⟩, q9⟩, hl, hc, hs⟩ := hq
  exact ⟨L, ⟨q1, fun y hy => by rw [q2 y hy]; exact hx0, q3, q5, q7, h.size, kb, hh0, Nat.le_refl _, Nat.ne_of_gt E.lt, q6, by rw [List.map_map]; exact v2⟩, hl, hc, hs⟩
end StrChars.Road
namespace StrChars
open Jvm Sem ClassFile Op Lib Jvm.Stand Jvm.Free.XT Jvm.Free.ALB Jvm.Free.JM Jvm.Free
open Jvm.Lib.Cold (StaticIs)
def hi8 (x : Int32) : Int32 := lo8 (x >>> ((8 : Int32) &&& 31))
/-- what StringUTF16.getChar makes of two bytes -/
def pairCh (u v : Int32) : Int32 := (((u &&& 255) <<< ((0 : Int32) &&& 31)) ||| ((v &&& 255) <<< ((8 : Int32) &&& 31))).toUInt32.toUInt16.toUInt32.toInt32
theorem lo8_and (x : Int32) : (lo8 x &&& 255).toBitVec.toNat = x.toBitVec.toNat % 256 := by
  have h : (lo8 x).toBitVec = (x.toBitVec.signExtend 8).signExtend 32 := by rw [lo8, Int8.toBitVec_toInt32, Int32.toBitVec_toInt8]
  rw [Int32.toBitVec_and, BitVec.toNat_and, h]
  have e : ((x.toBitVec.signExtend 8).signExtend 32).toNat % 256 = x.toBitVec.toNat % 256 := by
    rw [BitVec.toNat_signExtend]
    have hlt := x.toBitVec.isLt
    simp only [BitVec.toNat_setWidth, BitVec.toNat_signExtend]
    split <;> split <;> omega
  rw [← e]
  exact Nat.and_two_pow_sub_one_eq_mod _ 8
theorem pair_says {c : Int32} (h0 : ¬ c < 0) (h1 : ¬ 65535 < c) : pairCh (lo8 c) (hi8 c) = c := by
  rw [Int32.lt_iff_toInt_lt] at h0 h1
  have e0 : (0 : Int32).toInt = 0 := rfl
  have e1 : (65535 : Int32).toInt = 65535 := rfl
  have hc : c.toInt = c.toBitVec.toNat := by
    have := c.toBitVec.isLt
    have e : c.toInt = c.toBitVec.toInt := rfl
    rw [e] at h0 h1
    rw [e]
    rw [BitVec.toInt_eq_toNat_cond] at h0 h1 ⊢
    split at h0 <;> split <;> omega
  have hn : c.toBitVec.toNat < 65536 := by omega
  have a1 := lo8_and c
  have a2 : (hi8 c &&& 255).toBitVec.toNat = c.toBitVec.toNat / 256 := by
    rw [hi8, lo8_and]
    have e : ((8 : Int32) &&& 31) = 8 := by decide
    rw [e, Int32.toBitVec_shiftRight]
    have e2 : ((8 : Int32).toBitVec.smod 32) = 8#32 := by decide
    rw [e2, BitVec.sshiftRight_eq', BitVec.toNat_sshiftRight_of_msb_false (by rw [BitVec.msb_eq_false_iff_two_mul_lt]; omega)]
    show c.toBitVec.toNat >>> 8 % 256 = _
    rw [Nat.shiftRight_eq_div_pow]
    omega
  unfold pairCh
  apply Int32.toBitVec_inj.mp
  apply BitVec.eq_of_toNat_eq
  have f0 : ((0 : Int32) &&& 31) = 0 := by decide
  have f8 : ((8 : Int32) &&& 31) = 8 := by decide
  rw [f0, f8]
  have g : (((lo8 c &&& 255) <<< (0 : Int32)) ||| ((hi8 c &&& 255) <<< (8 : Int32))).toBitVec.toNat = c.toBitVec.toNat := by
    rw [Int32.toBitVec_or, Int32.toBitVec_shiftLeft, Int32.toBitVec_shiftLeft]
    have s0 : ((0 : Int32).toBitVec.smod 32) = 0#32 := by decide
    have s8 : ((8 : Int32).toBitVec.smod 32) = 8#32 := by decide
    rw [s0, s8, BitVec.toNat_or]
    simp only [BitVec.shiftLeft_eq', BitVec.toNat_shiftLeft, a1, a2]
    show (c.toBitVec.toNat % 256) <<< 0 % 2 ^ 32 ||| (c.toBitVec.toNat / 256) <<< 8 % 2 ^ 32 = _
    rw [Nat.shiftLeft_zero, Nat.mod_eq_of_lt (show c.toBitVec.toNat % 256 < 2 ^ 32 by omega), Nat.mod_eq_of_lt (show (c.toBitVec.toNat / 256) <<< 8 < 2 ^ 32 by rw [Nat.shiftLeft_eq]; omega), Nat.or_comm, ← Nat.shiftLeft_add_eq_or_of_lt (by omega), Nat.shiftLeft_eq]
    omega
  show BitVec.toNat (((((lo8 c &&& 255) <<< (0 : Int32)) ||| ((hi8 c &&& 255) <<< (8 : Int32))).toBitVec.setWidth 16).setWidth 32) = _
  rw [BitVec.toNat_setWidth, BitVec.toNat_setWidth, g]
  omega
end StrChars
namespace StrChars
open Jvm Sem ClassFile Op Lib Jvm.Stand Jvm.Free.XT Jvm.Free.ALB Jvm.Free.JM Jvm.Free
open Jvm.Lib.Cold (StaticIs)
/-- the array's cell V codes the n chars f 0 .. f (n - 1) by the coder cd, as the JDK does: coder 1 just where some char is above 255 -/
def Cod (cd : Int32) (n : Nat) (f : Nat → Int32) (V : Cell) : Prop := (cd = 0 ∧ V.slots.size = n ∧ ∀ j, j < n → V.slots[j]? = some (.int (lo8 (f j))) ∧ ¬ 255 < f j) ∨ (cd = 1 ∧ V.slots.size = 2 * n ∧ (∀ j, j < n → V.slots[2 * j]? = some (.int (lo8 (f j))) ∧ V.slots[2 * j + 1]? = some (.int (hi8 (f j)))) ∧ ∃ j, j < n ∧ 255 < f j)
/-- **x is a String of the n chars f 0 .. f (n - 1)**, Latin-1 or UTF-16; its array at t has the cell V -/
def Txt (x t : Addr) (V : Cell) (cd : Int32) (n : Nat) (f : Nat → Int32) (U : State) : Prop := Exact "java/lang/String" x U ∧ Has x "java/lang/String" "value" "[B" (.ref t) U ∧ Has x "java/lang/String" "coder" "B" (.int cd) U ∧ XT.Arr .byte t V U ∧ Cod cd n f V ∧ ∀ j, j < n → ¬ f j < 0 ∧ ¬ 65535 < f j
theorem Txt.mv {x t : Addr} {V : Cell} {cd : Int32} {n : Nat} {f : Nat → Int32} {U U' : State} (h : Txt x t V cd n f U) (hal : U.vm.Alike U'.vm) (hh : U'.heap = U.heap) : Txt x t V cd n f U' := ⟨h.1.mv hal hh, h.2.1.mv hal hh, h.2.2.1.mv hal hh, h.2.2.2.1.mv hal hh, h.2.2.2.2⟩
end StrChars
namespace StrChars.Road
open Jvm Sem ClassFile Op Lib Jvm.Stand Jvm.Free Jvm.Free.XT
open Jvm.Lib.Cold (StaticIs)
theorem consq {a : Array Value} {s : State} {c : Jvm.Cond} {L : List Jvm.Cond} (h0 : c.before a s = true) (h : ∀ w ∈ L, w.before a s = true) : ∀ w ∈ c :: L, w.before a s = true := fun w hw => (List.mem_cons.mp hw).elim (fun e => e ▸ h0) (h w)
/-- the bytes of the chars cs, low before high -/
def wideBytes : List Int32 → List Value
  | [] => []
  | c :: cs => .int (lo8 c) :: .int (hi8 c) :: wideBytes cs
theorem wide_lo (d : Value) : ∀ (cs : List Int32) (j : Nat), j < cs.length → (wideBytes cs).getD (2 * j) d = .int (lo8 (cs.getD j 0))
  | [], j, h => absurd h (Nat.not_lt_zero j)
  | c :: cs, 0, _ => rfl
  | c :: cs, j + 1, h => by
    have q := wide_lo d cs j (by simpa using h)
    rw [show 2 * (j + 1) = 2 * j + 1 + 1 from by omega]
    simpa [wideBytes] using q
theorem wide_hi (d : Value) : ∀ (cs : List Int32) (j : Nat), j < cs.length → (wideBytes cs).getD (2 * j + 1) d = .int (hi8 (cs.getD j 0))
  | [], j, h => absurd h (Nat.not_lt_zero j)
  | c :: cs, 0, _ => rfl
  | c :: cs, j + 1, h => by
    have q := wide_hi d cs j (by simpa using h)
    rw [show 2 * (j + 1) + 1 = 2 * j + 1 + 1 + 1 from by omega]
    simpa [wideBytes] using q
theorem low_at (d : Value) (cs : List Int32) (j : Nat) (h : j < cs.length) : (cs.map fun c => Value.int (lo8 c)).getD j d = .int (lo8 (cs.getD j 0)) := by
  simp [List.getD_eq_getElem?_getD, h]
/-- an array of N2 bytes vs codes the chars cs by the coder cd -/
def CodA (cs : List Int32) (cd N2 : Int32) (vs : List Value) : Prop := (cd = 0 ∧ N2 = Int32.ofNat cs.length ∧ vs = (cs.map fun c => Value.int (lo8 c)) ∧ ∀ c ∈ cs, ¬ 255 < c) ∨ (cd = 1 ∧ N2 = Int32.ofNat (2 * cs.length) ∧ vs = wideBytes cs ∧ ∃ c ∈ cs, 255 < c)
theorem CodA.cod {cs : List Int32} {cd N2 : Int32} {vs : List Value} {V : Cell} (h : CodA cs cd N2 vs) (hn : 2 * cs.length < 2 ^ 31) (hs : V.slots.size = N2.toNatClampNeg) (hv : RoadKit.Has V vs (.int 0)) : Cod cd cs.length (fun j => cs.getD j 0) V := by
  rcases h with ⟨rfl, rfl, rfl, h⟩ | ⟨rfl, rfl, rfl, c, hc, hw⟩
  · rw [n32 (by omega)] at hs
    exact Or.inl ⟨rfl, hs, fun j hj => ⟨by rw [hv j (by omega), low_at _ _ _ hj], by
      have e : cs.getD j 0 = cs[j] := by simp [List.getD_eq_getElem?_getD, hj]
      show ¬ 255 < cs.getD j 0
      rw [e]; exact h _ (List.getElem_mem _)⟩⟩
  · rw [n32 (by omega)] at hs
    obtain ⟨j, hj, rfl⟩ := List.getElem_of_mem hc
    exact Or.inr ⟨rfl, hs, fun j hj => ⟨by rw [hv _ (by omega), wide_lo _ _ _ hj], by rw [hv _ (by omega), wide_hi _ _ _ hj]⟩, j, hj, by
      have e : cs.getD j 0 = cs[j] := by simp [List.getD_eq_getElem?_getD, hj]
      show 255 < cs.getD j 0
      rw [e]; exact hw⟩
/-- an object of exactly java/lang/String, its two fields found: as the laws ask it -/
theorem strObj {Z U : State} {a0 : Array Value} {kI : Nat} (wi : (Jvm.Cond.instantiable ST kI).before a0 Z = true) (al : Z.vm.Alike U.vm) {x : Addr} {v0 c0 : Value} (E : RoadKit.Exa Z U.heap x ST) (V : RoadKit.Fld Z U.heap x ST "value" "[B" v0) (C : RoadKit.Fld Z U.heap x ST "coder" "B" c0) :
    ∃ (D : Cell) (fV fC : Field), Blank ST x D U ∧ Found ST "value" "[B" fV U ∧ Found ST "coder" "B" fC U ∧ D.slots[fV.slot]? = some v0 ∧ D.slots[fC.slot]? = some c0 ∧ RoadKit.slotOf Z ST "value" "[B" = fV.slot ∧ RoadKit.slotOf Z ST "coder" "B" = fC.slot := by
  obtain ⟨D, cfV, kV, iV, fV, hD, gV, stV, knV, obV, asV, slV⟩ := V
  obtain ⟨D', cfC, kC, iC, fC, hD', gC, stC, -, -, asC, slC⟩ := C
  cases hD.symm.trans hD'
  obtain ⟨D2, kD, e1, e2, e3, e4, e5⟩ := E
  cases hD.symm.trans e1
  obtain ⟨c2, k2, i1, i2, i3, -⟩ := Cond.instantiable_spec wi
  cases e2.symm.trans i1
  cases e3.symm.trans i2
  obtain ⟨kU, u1, u2⟩ := al.2.2 _ _ e3
  exact ⟨D, fV, fC, ⟨hD, ⟨knV, fun q hq => by rw [hq] at obV; cases obV⟩, by rw [al.findClass]; exact e2, kU, u1, by rw [u2]; exact i3, by rw [u2]; exact e5 i3⟩, ⟨SBG.found_only al ⟨cfV, kV, iV, gV⟩, stV⟩, ⟨SBG.found_only al ⟨cfC, kC, iC, gC⟩, stC⟩, slV, slC, by simp [RoadKit.slotOf, gV], by simp [RoadKit.slotOf, gC]⟩
theorem sta_is {Z U : State} (al : Z.vm.Alike U.vm) {C n d : String} {v : Value} (S : RoadKit.Sta Z U.heap C n d v) : StaticIs U C n d v := by
  obtain ⟨cfS, iS, kS, fS, st, cS, t1, t2, t3, t4, t5, t6, t7⟩ := S
  exact StaticIs.there (s := { Z with heap := U.heap }) ⟨cfS, iS, kS, fS, st, cS, t1, t2, t3, t4, t5, (fun q => by rw [q] at t6; cases t6), t7⟩ al rfl
end StrChars.Road
namespace StrChars
open Jvm Sem ClassFile Op Lib Jvm.Stand Jvm.Free.XT Jvm.Free.ALB Jvm.Free.JM Jvm.Free
open Jvm.Lib.Cold (StaticIs)
/-- what place i of a byte[]'s cell holds -/
def yv (A : Cell) (i : Nat) : Int32 := match A.slots[i]? with | some (.int x) => x | _ => 0
theorem yv_get {a : Addr} {A : Cell} {U : State} (h : XT.Arr .byte a A U) (ht : Typed .byte A) {i : Nat} (hi : i < A.slots.size) : A.slots[i]? = some (.int (yv A i)) := by
  have e := Array.getElem?_eq_getElem hi
  have f := ht i _ e
  unfold yv; rw [e]
  generalize A.slots[i] = v at f
  cases v <;> simp [fits] at f ⊢
/-- the two arrays are equal, place for place -/
def EqC (A B : Cell) : Prop := A.slots.size = B.slots.size ∧ ∀ i, i < A.slots.size → yv A i = yv B i
/-- a boolean that says whether p -/
def Says01 (q : Prop) (r : Option Value) (s u : State) : Prop := ∃ v : Int32, r = some (.int v) ∧ u.heap = s.heap ∧ ((v = 1 ∧ q) ∨ (v = 0 ∧ ¬ q))
theorem Says01.mv {q : Prop} : ∀ r (U U' V V' : State), U'.heap = U.heap → V.vm.Alike V'.vm → V'.heap = V.heap → Says01 q r U V → Says01 q r U' V' :=
  fun r U U' V V' h1 _ h2 ⟨v, a, b, c⟩ => ⟨v, a, by rw [h1, h2]; exact b, c⟩
namespace LEq
def yN : MethodName := ⟨"java/lang/StringLatin1", "equals", "([B[B)Z"⟩
abbrev yB : ByteArray := jdk_43_method_13_code
theorem d0 : decode yB 0 = .ok (.aload_n 0, 1) := by decide +kernel
theorem d1 : decode yB 1 = .ok (.arraylength, 1) := by decide +kernel
theorem d2 : decode yB 2 = .ok (.aload_n 1, 1) := by decide +kernel
theorem d3 : decode yB 3 = .ok (.arraylength, 1) := by decide +kernel
theorem d4 : decode yB 4 = .ok (.if_icmp (.ne) 30, 3) := by decide +kernel
theorem d7 : decode yB 7 = .ok (.iconst 0, 1) := by decide +kernel
theorem d8 : decode yB 8 = .ok (.istore_n 2, 1) := by decide +kernel
theorem d9 : decode yB 9 = .ok (.iload_n 2, 1) := by decide +kernel
theorem d10 : decode yB 10 = .ok (.aload_n 0, 1) := by decide +kernel
theorem d11 : decode yB 11 = .ok (.arraylength, 1) := by decide +kernel
theorem d12 : decode yB 12 = .ok (.if_icmp (.ge) 20, 3) := by decide +kernel
theorem d15 : decode yB 15 = .ok (.aload_n 0, 1) := by decide +kernel
theorem d16 : decode yB 16 = .ok (.iload_n 2, 1) := by decide +kernel
theorem d17 : decode yB 17 = .ok (.baload, 1) := by decide +kernel
theorem d18 : decode yB 18 = .ok (.aload_n 1, 1) := by decide +kernel
theorem d19 : decode yB 19 = .ok (.iload_n 2, 1) := by decide +kernel
theorem d20 : decode yB 20 = .ok (.baload, 1) := by decide +kernel
theorem d21 : decode yB 21 = .ok (.if_icmp (.eq) 5, 3) := by decide +kernel
theorem d24 : decode yB 24 = .ok (.iconst 0, 1) := by decide +kernel
theorem d25 : decode yB 25 = .ok (.ireturn, 1) := by decide +kernel
theorem d26 : decode yB 26 = .ok (.iinc 2 1, 3) := by decide +kernel
theorem d29 : decode yB 29 = .ok (.goto (-20), 3) := by decide +kernel
theorem d32 : decode yB 32 = .ok (.iconst 1, 1) := by decide +kernel
theorem d33 : decode yB 33 = .ok (.ireturn, 1) := by decide +kernel
theorem d34 : decode yB 34 = .ok (.iconst 0, 1) := by decide +kernel
theorem d35 : decode yB 35 = .ok (.ireturn, 1) := by decide +kernel
def site : List Cond := []
def tab : Cond := tabOf yN yB 3 (some .boolean) site
def P (a : Addr) (A : Cell) (b : Addr) (B : Cell) (args : Array Value) (s : State) : Prop := args = #[.ref a, .ref b] ∧ XT.Arr .byte a A s ∧ Typed .byte A ∧ XT.Arr .byte b B s ∧ Typed .byte B
/-- whether two byte[] are equal, place for place -/
theorem law (l : Launch) (a : Addr) (A : Cell) (b : Addr) (B : Cell) : Law l yN 2 2 0 0 yB 3 (some .boolean) site (P a A b B) (Says01 (EqC A B)) [] 0 0 := by
  refine Law.of_walk (plainFor_of_name (by decide +kernel)) (by decide +kernel) (by decide +kernel) (by decide) (fun _ _ h => by rw [h.1]; rfl) (fun _ U U' hal hh h => ⟨h.1, h.2.1.mv hal hh, h.2.2.1, h.2.2.2.1.mv hal hh, h.2.2.2.2⟩) (fun r U U' V V' h1 hal h2 h => Says01.mv r U U' V V' h1 hal h2 h) ?_
  intro p e s m args below meth c s₁ X0 hexec hbytes hml hret hlk hnm hown hh0 W hP
  obtain ⟨rfl, hA, tA, hB, tB⟩ := hP
  have a31 := hA.2.2.2
  have b31 := hB.2.2.2
  have hA0 := hA.mv X0.warmed.alike hh0
  have hB0 := hB.mv X0.warmed.alike hh0
  have c1 : Steps p.tables e below (s₁.setTop (entryFrame m #[.ref a, .ref b] 3)) (s₁.setTop (mkF m 0 #[.val (.ref a), .val (.ref b), .unset] [])) := entry rfl
  have c2 : Steps p.tables e below (s₁.setTop (entryFrame m #[.ref a, .ref b] 3)) (s₁.setTop (mkF m 4 #[.val (.ref a), .val (.ref b), .unset] [.int (Int32.ofNat B.slots.size), .int (Int32.ofNat A.slots.size)])) := c1.trans (by
    refine XS.aloadN X0.here hexec rfl (hb hbytes d0) rfl rfl ?_
    refine X0.alen hexec hA0 rfl rfl (hb hbytes d1) ?_
    refine XS.aloadN X0.here hexec rfl (hb hbytes d2) rfl rfl ?_
    refine X0.alen hexec hB0 rfl rfl (hb hbytes d3) ?_
    exact Steps.refl _)
  by_cases hs : A.slots.size = B.slots.size
  · have c3 : Steps p.tables e below (s₁.setTop (entryFrame m #[.ref a, .ref b] 3)) (s₁.setTop (mkF m 9 #[.val (.ref a), .val (.ref b), .val (.int 0)] [])) := c2.trans (by
      refine XS.icmpNo X0.here hexec rfl (hb hbytes d4) rfl (ii_ne_f (by rw [hs])) ?_
      refine iconstV X0.here hexec rfl 0 (hb hbytes d7) (by decide) ?_
      refine XS.istoreN X0.here hexec rfl (hb hbytes d8) rfl rfl ?_
      exact Steps.refl _)
    have loop : ∀ (r i : Nat), i + r = A.slots.size → (∀ j, j < i → yv A j = yv B j) → Steps p.tables e below (s₁.setTop (entryFrame m #[.ref a, .ref b] 3)) (s₁.setTop (mkF m 9 #[.val (.ref a), .val (.ref b), .val (.int (Int32.ofNat i))] [])) → ∃ (pc : Nat) (Ls : Array Slot) (v : Int32), (pc = 25 ∨ pc = 33) ∧ ((v = 1 ∧ EqC A B) ∨ (v = 0 ∧ ¬ EqC A B)) ∧ Steps p.tables e below (s₁.setTop (entryFrame m #[.ref a, .ref b] 3)) (s₁.setTop (mkF m pc Ls [.int v])) := by
      intro r
      induction r with
      | zero =>
        intro i hi he cl
        exact ⟨33, _, 1, Or.inr rfl, Or.inl ⟨rfl, hs, fun j hj => he j (by omega)⟩, cl.trans (by
          refine XS.iloadN X0.here hexec rfl (hb hbytes d9) rfl ?_
          refine XS.aloadN X0.here hexec rfl (hb hbytes d10) rfl rfl ?_
          refine X0.alen hexec hA0 rfl rfl (hb hbytes d11) ?_
          refine XS.icmpYes X0.here hexec rfl (pc0 := 12) rfl (hb hbytes d12) rfl (ii_ge_t (nlt32 (by omega) (by omega))) (by decide) rfl ?_
          refine iconstV X0.here hexec rfl 1 (hb hbytes d32) (by decide) ?_
          exact Steps.refl _)⟩
      | succ r ih =>
        intro i hi he cl
        have c4 : Steps p.tables e below (s₁.setTop (entryFrame m #[.ref a, .ref b] 3)) (s₁.setTop (mkF m 21 #[.val (.ref a), .val (.ref b), .val (.int (Int32.ofNat i))] [.int (yv B i), .int (yv A i)])) := cl.trans (by
          refine XS.iloadN X0.here hexec rfl (hb hbytes d9) rfl ?_
          refine XS.aloadN X0.here hexec rfl (hb hbytes d10) rfl rfl ?_
          refine X0.alen hexec hA0 rfl rfl (hb hbytes d11) ?_
          refine XS.icmpNo X0.here hexec rfl (hb hbytes d12) rfl (ii_ge_f (lt32 (by omega) (by omega))) ?_
          refine XS.aloadN X0.here hexec rfl (hb hbytes d15) rfl rfl ?_
          refine XS.iloadN X0.here hexec rfl (hb hbytes d16) rfl ?_
          refine X0.aget hexec hA0 rfl (yv_get hA tA (i := i) (by omega)) rfl rfl (hb hbytes d17) ?_
          refine XS.aloadN X0.here hexec rfl (hb hbytes d18) rfl rfl ?_
          refine XS.iloadN X0.here hexec rfl (hb hbytes d19) rfl ?_
          refine X0.aget hexec hB0 rfl (yv_get hB tB (i := i) (by omega)) rfl rfl (hb hbytes d20) ?_
          exact Steps.refl _)
        by_cases hv : yv A i = yv B i
        · have c5 : Steps p.tables e below (s₁.setTop (entryFrame m #[.ref a, .ref b] 3)) (s₁.setTop (mkF m 9 #[.val (.ref a), .val (.ref b), .val (.int (Int32.ofNat i + 1))] [])) := c4.trans (by
            refine XS.icmpYes X0.here hexec rfl (pc0 := 21) rfl (hb hbytes d21) rfl (ii_eq_t hv) (by decide) rfl ?_
            refine iincV X0.here hexec rfl 1 (hb hbytes d26) (by decide) rfl rfl ?_
            refine XS.goto X0.here hexec rfl (pc0 := 29) rfl (hb hbytes d29) (by decide) rfl ?_
            exact Steps.refl _)
          rw [succ32] at c5
          exact ih (i + 1) (by omega) (fun j hj => by
            by_cases e : j = i
            · rw [e]; exact hv
            · exact he j (by omega)) c5
        · exact ⟨25, _, 0, Or.inl rfl, Or.inr ⟨rfl, fun q => hv (q.2 i (by omega))⟩, c4.trans (by
            refine XS.icmpNo X0.here hexec rfl (hb hbytes d21) rfl (ii_eq_f hv) ?_
            refine iconstV X0.here hexec rfl 0 (hb hbytes d24) (by decide) ?_
            exact Steps.refl _)⟩
    obtain ⟨pc, Ls, v, hpc, hv, cz⟩ := loop A.slots.size 0 (by omega) (fun j hj => absurd hj (Nat.not_lt_zero j)) c3
    have nv : narrow .boolean (.int v) = .int v := by rcases hv with ⟨rfl, -⟩ | ⟨rfl, -⟩ <;> rfl
    rcases hpc with rfl | rfl
    · exact ⟨s₁, some (.int v), _, _, _, X0, rfl, rfl, rfl, (fun h => by cases h), ⟨v, rfl, hh0, hv⟩, fun fs hl => cz.trans (X0.ireturnOut hexec hret nv (Or.inr (Or.inl rfl)) (hb hbytes d25) hl)⟩
    · exact ⟨s₁, some (.int v), _, _, _, X0, rfl, rfl, rfl, (fun h => by cases h), ⟨v, rfl, hh0, hv⟩, fun fs hl => cz.trans (X0.ireturnOut hexec hret nv (Or.inr (Or.inl rfl)) (hb hbytes d33) hl)⟩
  · have c3 : Steps p.tables e below (s₁.setTop (entryFrame m #[.ref a, .ref b] 3)) (s₁.setTop (mkF m 35 #[.val (.ref a), .val (.ref b), .unset] [.int 0])) := c2.trans (by
      refine XS.icmpYes X0.here hexec rfl (pc0 := 4) rfl (hb hbytes d4) rfl (ii_ne_t (ne32 a31 b31 hs)) (by decide) rfl ?_
      refine iconstV X0.here hexec rfl 0 (hb hbytes d34) (by decide) ?_
      exact Steps.refl _)
    exact ⟨s₁, some (.int 0), _, _, _, X0, rfl, rfl, rfl, (fun h => by cases h), ⟨0, rfl, hh0, Or.inr ⟨rfl, fun q => hs q.1⟩⟩, fun fs hl => c3.trans (X0.ireturnOut hexec hret rfl (Or.inr (Or.inl rfl)) (hb hbytes d35) hl)⟩
end LEq
theorem Cod.ty {cd : Int32} {n : Nat} {f : Nat → Int32} {V : Cell} (h : Cod cd n f V) : Typed .byte V := fun i v hv => by
  have hi : i < V.slots.size := (Array.getElem?_eq_some_iff.mp hv).1
  rcases h with ⟨-, k1, k2⟩ | ⟨-, k1, k2, -⟩
  · rw [(k2 i (by omega)).1] at hv; cases hv; exact fits_lo8 _
  · rcases Nat.mod_two_eq_zero_or_one i with e | e
    · obtain ⟨j, rfl⟩ : ∃ j, i = 2 * j := ⟨i / 2, by omega⟩
      rw [(k2 j (by omega)).1] at hv; cases hv; exact fits_lo8 _
    · obtain ⟨j, rfl⟩ : ∃ j, i = 2 * j + 1 := ⟨i / 2, by omega⟩
      rw [(k2 j (by omega)).2] at hv; cases hv; exact fits_lo8 _
/-- the same text -/
def SameT (n : Nat) (f : Nat → Int32) (k : Nat) (g : Nat → Int32) : Prop := n = k ∧ ∀ j, j < n → f j = g j
theorem lo8_inj {x y : Int32} (h0 : ¬ x < 0) (h1 : ¬ 255 < x) (k0 : ¬ y < 0) (k1 : ¬ 255 < y) (h : lo8 x = lo8 y) : x = y := by
  rw [← lo8_mask h0 h1, ← lo8_mask k0 k1, h]
/-- arrays coded by one coder are equal just where the texts are -/
theorem Cod.eqv {cd : Int32} {n k : Nat} {f g : Nat → Int32} {V V' : Cell} (h : Cod cd n f V) (h' : Cod cd k g V') (hf : ∀ j, j < n → ¬ f j < 0 ∧ ¬ 65535 < f j) (hg : ∀ j, j < k → ¬ g j < 0 ∧ ¬ 65535 < g j) : EqC V V' ↔ SameT n f k g := by
  have yvv : ∀ {W : Cell} {i : Nat} {x : Int32}, W.slots[i]? = some (.int x) → yv W i = x := fun q => by unfold yv; rw [q]
  rcases h with ⟨rfl, k1, k2⟩ | ⟨rfl, k1, k2, -⟩
  · rcases h' with ⟨-, m1, m2⟩ | ⟨e, -⟩
    · constructor
      · rintro ⟨e1, e2⟩
        refine ⟨by omega, fun j hj => ?_⟩
        have q := e2 j (by omega)
        rw [yvv (k2 j hj).1, yvv (m2 j (by omega)).1] at q
        exact lo8_inj (hf j hj).1 (k2 j hj).2 (hg j (by omega)).1 (m2 j (by omega)).2 q
      · rintro ⟨rfl, e2⟩
        refine ⟨by omega, fun j hj => ?_⟩
        rw [yvv (k2 j (by omega)).1, yvv (m2 j (by omega)).1, e2 j (by omega)]
    · exact absurd e (by decide)
  · rcases h' with ⟨e, -⟩ | ⟨-, m1, m2, -⟩
    · exact absurd e (by decide)
    · constructor
      · rintro ⟨e1, e2⟩
        refine ⟨by omega, fun j hj => ?_⟩
        have q1 := e2 (2 * j) (by omega)
        have q2 := e2 (2 * j + 1) (by omega)
        rw [yvv (k2 j hj).1, yvv (m2 j (by omega)).1] at q1
        rw [yvv (k2 j hj).2, yvv (m2 j (by omega)).2] at q2
        rw [← pair_says (hf j hj).1 (hf j hj).2, ← pair_says (hg j (by omega)).1 (hg j (by omega)).2, q1, q2]
      · rintro ⟨rfl, e2⟩
        refine ⟨by omega, fun i hi => ?_⟩
        rcases Nat.mod_two_eq_zero_or_one i with e | e
        · obtain ⟨j, rfl⟩ : ∃ j, i = 2 * j := ⟨i / 2, by omega⟩
          rw [yvv (k2 j (by omega)).1, yvv (m2 j (by omega)).1, e2 j (by omega)]
        · obtain ⟨j, rfl⟩ : ∃ j, i = 2 * j + 1 := ⟨i / 2, by omega⟩
          rw [yvv (k2 j (by omega)).2, yvv (m2 j (by omega)).2, e2 j (by omega)]
/-- two codings differ: so do the texts -/
theorem Cod.dif {cd cd' : Int32} {n k : Nat} {f g : Nat → Int32} {V V' : Cell} (h : Cod cd n f V) (h' : Cod cd' k g V') (hne : ¬ cd = cd') : ¬ SameT n f k g := by
  rintro ⟨rfl, e⟩
  rcases h with ⟨rfl, -, k2⟩ | ⟨rfl, -, -, j, hj, hw⟩
  · rcases h' with ⟨rfl, -⟩ | ⟨-, -, -, j, hj, hw⟩
    · exact hne rfl
    · exact (k2 j hj).2 (by rw [e j hj]; exact hw)
  · rcases h' with ⟨-, -, m2⟩ | ⟨rfl, -⟩
    · exact (m2 j hj).2 (by rw [← e j hj]; exact hw)
    · exact hne rfl
/-- an object of exactly C is an instance of C -/
theorem cinst {p : Program} {l : Launch} {e : Env} {R : Room} {s : State} {m : MethodId} {args : Array Value} {below : List Frame} {meth : Method} {c : Code} {T : State} {locs : List Loc} {cells slots : Nat} (X : Stand p l e R s m args below meth c T locs cells slots) (hexec : p.tables.exec = Jvm.exec) {own C : String} {index : Nat} (hown : s.vm.findClass own = some m.cls) (hlink : (Cond.classLink own index C).before args s = true) {a : Addr} (hE : Exact C a T)
    {g : JFrame} (hg : g.method = m) {rest : List Value} (hstack : g.stack = .ref a :: rest) (hdg : decode c.code g.pc = .ok (.instanceof index, 3)) :
    ∃ T', Stand p l e R s m args below meth c T' locs cells slots ∧ T'.heap = T.heap ∧ ∀ target, Steps p.tables e below (T'.setTop { g with pc := g.pc + 3, stack := .int 1 :: rest }) target → Steps p.tables e below (T.setTop g) target := by
  obtain ⟨cB, h1, D, h2, h3, h4⟩ := hE
  have h1' : s.vm.findClass C = some cB := by rw [← X.warmed.alike.findClass]; exact h1
  obtain ⟨vm', X', st⟩ := X.instanceofYes hexec hown hlink h2 h4 h1' (by rw [h3]; exact Jvm.Free.SB.assignable_self _ _) hg hstack hdg
  exact ⟨_, X', rfl, st⟩
theorem cself {p : Program} {l : Launch} {e : Env} {R : Room} {s : State} {m : MethodId} {args : Array Value} {below : List Frame} {meth : Method} {c : Code} {T : State} {locs : List Loc} {cells slots : Nat} (X : Stand p l e R s m args below meth c T locs cells slots) (hexec : p.tables.exec = Jvm.exec) {own C : String} {index : Nat} (hown : s.vm.findClass own = some m.cls) (hlink : (Cond.classLink own index C).before args s = true) {a : Addr} (hE : Exact C a T)
    {g : JFrame} (hg : g.method = m) {rest : List Value} (hstack : g.stack = .ref a :: rest) (hdg : decode c.code g.pc = .ok (.checkcast index, 3)) :
    ∃ T', Stand p l e R s m args below meth c T' locs cells slots ∧ T'.heap = T.heap ∧ ∀ target, Steps p.tables e below (T'.setTop { g with pc := g.pc + 3, stack := .ref a :: rest }) target → Steps p.tables e below (T.setTop g) target := by
  obtain ⟨cB, h1, D, h2, h3, h4⟩ := hE
  have h1' : s.vm.findClass C = some cB := by rw [← X.warmed.alike.findClass]; exact h1
  obtain ⟨vm', X', st⟩ := X.checkcastYes hexec hown hlink h2 h4 h1' (by rw [h3]; exact Jvm.Free.SB.assignable_self _ _) hg hstack hdg
  exact ⟨_, X', rfl, fun t h => st t (by rw [← hstack] at h; exact h)⟩
namespace SEq
def yN : MethodName := ⟨"java/lang/String", "equals", "(Ljava/lang/Object;)Z"⟩
abbrev yB : ByteArray := jdk_42_method_66_code
theorem d0 : decode yB 0 = .ok (.aload_n 0, 1) := by decide +kernel
theorem d1 : decode yB 1 = .ok (.aload_n 1, 1) := by decide +kernel
theorem d2 : decode yB 2 = .ok (.if_acmp (.ne) 5, 3) := by decide +kernel
theorem d5 : decode yB 5 = .ok (.iconst 1, 1) := by decide +kernel
theorem d6 : decode yB 6 = .ok (.ireturn, 1) := by decide +kernel
theorem d7 : decode yB 7 = .ok (.aload_n 1, 1) := by decide +kernel
theorem d8 : decode yB 8 = .ok (.instanceof 10, 3) := by decide +kernel
theorem d11 : decode yB 11 = .ok (.ifCond (.eq) 43, 3) := by decide +kernel
theorem d14 : decode yB 14 = .ok (.aload_n 1, 1) := by decide +kernel
theorem d15 : decode yB 15 = .ok (.checkcast 10, 3) := by decide +kernel
theorem d18 : decode yB 18 = .ok (.astore_n 2, 1) := by decide +kernel
theorem d19 : decode yB 19 = .ok (.getstatic 38, 3) := by decide +kernel
theorem d22 : decode yB 22 = .ok (.ifCond (.eq) 14, 3) := by decide +kernel
theorem d25 : decode yB 25 = .ok (.aload_n 0, 1) := by decide +kernel
theorem d26 : decode yB 26 = .ok (.getfield 15, 3) := by decide +kernel
theorem d29 : decode yB 29 = .ok (.aload_n 2, 1) := by decide +kernel
theorem d30 : decode yB 30 = .ok (.getfield 15, 3) := by decide +kernel
theorem d33 : decode yB 33 = .ok (.if_icmp (.ne) 21, 3) := by decide +kernel
theorem d36 : decode yB 36 = .ok (.aload_n 0, 1) := by decide +kernel
theorem d37 : decode yB 37 = .ok (.getfield 9, 3) := by decide +kernel
theorem d40 : decode yB 40 = .ok (.aload_n 2, 1) := by decide +kernel
theorem d41 : decode yB 41 = .ok (.getfield 9, 3) := by decide +kernel
theorem d44 : decode yB 44 = .ok (.invokestatic 541, 3) := by decide +kernel
theorem d47 : decode yB 47 = .ok (.ifCond (.eq) 7, 3) := by decide +kernel
theorem d50 : decode yB 50 = .ok (.iconst 1, 1) := by decide +kernel
theorem d51 : decode yB 51 = .ok (.goto 4, 3) := by decide +kernel
theorem d54 : decode yB 54 = .ok (.iconst 0, 1) := by decide +kernel
theorem d55 : decode yB 55 = .ok (.ireturn, 1) := by decide +kernel
def site : List Cond := [.classLink "java/lang/String" 10 "java/lang/String", .fieldLink "java/lang/String" 38 "java/lang/String" "COMPACT_STRINGS" "Z", .fieldLink "java/lang/String" 15 "java/lang/String" "coder" "B", .fieldLink "java/lang/String" 9 "java/lang/String" "value" "[B", LEq.tab] ++ staticW "java/lang/String" 541 LEq.yN
def tab : Cond := tabOf yN yB 3 (some .boolean) site
def P (x t : Addr) (V : Cell) (cd : Int32) (n : Nat) (f : Nat → Int32) (y t' : Addr) (V' : Cell) (cd' : Int32) (k : Nat) (g : Nat → Int32) (z : Int32) (args : Array Value) (s : State) : Prop := args = #[.ref x, .ref y] ∧ Txt x t V cd n f s ∧ Txt y t' V' cd' k g s ∧ StaticIs s "java/lang/String" "COMPACT_STRINGS" "Z" (.int z) ∧ ¬ z = 0
/-- equals(Object) of two Strings: whether the texts are the same -/
theorem law (l : Launch) (x t : Addr) (V : Cell) (cd : Int32) (n : Nat) (f : Nat → Int32) (y t' : Addr) (V' : Cell) (cd' : Int32) (k : Nat) (g : Nat → Int32) (z : Int32) : Law l yN 2 1 1 14 yB 3 (some .boolean) site (P x t V cd n f y t' V' cd' k g z) (Says01 (SameT n f k g)) [] 0 0 := by
  refine Law.of_walk (plainFor_of_name (by decide +kernel)) (by decide +kernel) (by decide +kernel) (by decide) (fun _ _ h => by rw [h.1]; rfl) (fun _ U U' hal hh h => ⟨h.1, h.2.1.mv hal hh, h.2.2.1.mv hal hh, h.2.2.2.1.there hal hh, h.2.2.2.2⟩) (fun r U U' V V' h1 hal h2 h => Says01.mv r U U' V V' h1 hal h2 h) ?_
  intro p e s m args below meth c s₁ X0 hexec hbytes hml hret hlk hnm hown hh0 W hP
  obtain ⟨rfl, hx, hy, s1, hz⟩ := hP
  have c1 : Steps p.tables e below (s₁.setTop (entryFrame m #[.ref x, .ref y] 3)) (s₁.setTop (mkF m 2 #[.val (.ref x), .val (.ref y), .unset] [.ref y, .ref x])) := Steps.trans (entry rfl) (by
    show Steps p.tables e below (s₁.setTop (mkF m 0 #[.val (.ref x), .val (.ref y), .unset] [])) _
    refine XS.aloadN X0.here hexec rfl (hb hbytes d0) rfl rfl ?_
    refine XS.aloadN X0.here hexec rfl (hb hbytes d1) rfl rfl ?_
    exact Steps.refl _)
  by_cases hxy : x = y
  · have c2 : Steps p.tables e below (s₁.setTop (entryFrame m #[.ref x, .ref y] 3)) (s₁.setTop (mkF m 6 #[.val (.ref x), .val (.ref y), .unset] [.int 1])) := c1.trans (by
      refine acmpNo X0.here hexec rfl (hb hbytes d2) rfl rfl rfl (by simp [acmp, hxy]) ?_
      refine iconstV X0.here hexec rfl 1 (hb hbytes d5) (by decide) ?_
      exact Steps.refl _)
    subst hxy
    have ec : cd = cd' := by
      obtain ⟨D, fd, a1, a2, a3⟩ := hx.2.2.1
      obtain ⟨D', fd', b1, b2, b3⟩ := hy.2.2.1
      cases a1.symm.trans b1
      obtain ⟨q1, q2, q3, q4⟩ := a2.1
      obtain ⟨r1, r2, r3, r4⟩ := b2.1
      cases q4.symm.trans r4
      cases a3.symm.trans b3; rfl
    have et : t = t' := by
      obtain ⟨D, fd, a1, a2, a3⟩ := hx.2.1
      obtain ⟨D', fd', b1, b2, b3⟩ := hy.2.1
      cases a1.symm.trans b1
      obtain ⟨q1, q2, q3, q4⟩ := a2.1
      obtain ⟨r1, r2, r3, r4⟩ := b2.1
      cases q4.symm.trans r4
      cases a3.symm.trans b3; rfl
    subst ec et
    have ev : V = V' := by cases hx.2.2.2.1.1.symm.trans hy.2.2.2.1.1; rfl
    subst ev
    have hs : SameT n f k g := (Cod.eqv hx.2.2.2.2.1 hy.2.2.2.2.1 hx.2.2.2.2.2 hy.2.2.2.2.2).mp ⟨rfl, fun _ _ => rfl⟩
    exact ⟨s₁, some (.int 1), _, _, _, X0, rfl, rfl, rfl, (fun h => by cases h), ⟨1, rfl, hh0, Or.inl ⟨rfl, hs⟩⟩, fun fs hl => c2.trans (X0.ireturnOut hexec hret rfl (Or.inr (Or.inl rfl)) (hb hbytes d6) hl)⟩
  · have c2 : Steps p.tables e below (s₁.setTop (entryFrame m #[.ref x, .ref y] 3)) (s₁.setTop (mkF m 8 #[.val (.ref x), .val (.ref y), .unset] [.ref y])) := c1.trans (by
      refine acmpYes X0.here hexec rfl (pc0 := 2) rfl (hb hbytes d2) rfl rfl rfl (by simp [acmp, hxy]) (by decide) rfl ?_
      refine XS.aloadN X0.here hexec rfl (hb hbytes d7) rfl rfl ?_
      exact Steps.refl _)
    obtain ⟨T3, X3, q3, st3⟩ := cinst X0 hexec hown (wk W (.classLink "java/lang/String" 10 "java/lang/String")) (hy.mv X0.warmed.alike hh0).1 (g := (mkF m 8 #[.val (.ref x), .val (.ref y), .unset] [.ref y])) rfl (rest := []) rfl (hb hbytes d8)
    have hh3 := q3.trans hh0
    have c4 : Steps p.tables e below (s₁.setTop (entryFrame m #[.ref x, .ref y] 3)) (T3.setTop (mkF m 15 #[.val (.ref x), .val (.ref y), .unset] [.ref y])) := (c2.trans (st3 _ (Steps.refl _))).trans (by
      refine XS.ifNo X3.here hexec rfl (hb hbytes d11) rfl (i0_eq_f (by decide)) ?_
      refine XS.aloadN X3.here hexec rfl (hb hbytes d14) rfl rfl ?_
      exact Steps.refl _)
    obtain ⟨T5, X5, q5, st5⟩ := cself X3 hexec hown (wk W (.classLink "java/lang/String" 10 "java/lang/String")) (hy.mv X3.warmed.alike hh3).1 (g := (mkF m 15 #[.val (.ref x), .val (.ref y), .unset] [.ref y])) rfl (rest := []) rfl (hb hbytes d15)
    have hh5 := q5.trans hh3
    have c6 : Steps p.tables e below (s₁.setTop (entryFrame m #[.ref x, .ref y] 3)) (T5.setTop (mkF m 19 #[.val (.ref x), .val (.ref y), .val (.ref y)] [])) := (c4.trans (st5 _ (Steps.refl _))).trans (by
      refine XS.astoreN X5.here hexec rfl (hb hbytes d18) rfl rfl rfl ?_
      exact Steps.refl _)
    obtain ⟨T7, X7, q7, st7⟩ := X5.sget hexec hown (wk W (.fieldLink "java/lang/String" 38 "java/lang/String" "COMPACT_STRINGS" "Z")) s1 (fun _ _ h => by rw [hh5]; exact h) (g := (mkF m 19 #[.val (.ref x), .val (.ref y), .val (.ref y)] [])) rfl (hb hbytes d19)
    have hh7 := q7.trans hh5
    have c8 : Steps p.tables e below (s₁.setTop (entryFrame m #[.ref x, .ref y] 3)) (T7.setTop (mkF m 26 #[.val (.ref x), .val (.ref y), .val (.ref y)] [.ref x])) := (c6.trans (st7 _ (Steps.refl _))).trans (by
      refine XS.ifNo X7.here hexec rfl (hb hbytes d22) rfl (i0_eq_f hz) ?_
      refine XS.aloadN X7.here hexec rfl (hb hbytes d25) rfl rfl ?_
      exact Steps.refl _)
    obtain ⟨T9, X9, q9, st9⟩ := X7.hget hexec hown (wk W (.fieldLink "java/lang/String" 15 "java/lang/String" "coder" "B")) (hx.mv X7.warmed.alike hh7).2.2.1 (g := (mkF m 26 #[.val (.ref x), .val (.ref y), .val (.ref y)] [.ref x])) rfl (rest := []) rfl (hb hbytes d26)
    have hh9 := q9.trans hh7
    have c10 : Steps p.tables e below (s₁.setTop (entryFrame m #[.ref x, .ref y] 3)) (T9.setTop (mkF m 30 #[.val (.ref x), .val (.ref y), .val (.ref y)] [.ref y, .int cd])) := (c8.trans (st9 _ (Steps.refl _))).trans (by
      refine XS.aloadN X9.here hexec rfl (hb hbytes d29) rfl rfl ?_
      exact Steps.refl _)
    obtain ⟨T11, X11, q11, st11⟩ := X9.hget hexec hown (wk W (.fieldLink "java/lang/String" 15 "java/lang/String" "coder" "B")) (hy.mv X9.warmed.alike hh9).2.2.1 (g := (mkF m 30 #[.val (.ref x), .val (.ref y), .val (.ref y)] [.ref y, .int cd])) rfl (rest := [.int cd]) rfl (hb hbytes d30)
    have hh11 := q11.trans hh9
    have c12 : Steps p.tables e below (s₁.setTop (entryFrame m #[.ref x, .ref y] 3)) (T11.setTop (mkF m 33 #[.val (.ref x), .val (.ref y), .val (.ref y)] [.int cd', .int cd])) := c10.trans (st11 _ (Steps.refl _))
    by_cases hcd : cd = cd'
    · subst hcd
      have c13 : Steps p.tables e below (s₁.setTop (entryFrame m #[.ref x, .ref y] 3)) (T11.setTop (mkF m 37 #[.val (.ref x), .val (.ref y), .val (.ref y)] [.ref x])) := c12.trans (by
        refine XS.icmpNo X11.here hexec rfl (hb hbytes d33) rfl (ii_ne_f rfl) ?_
        refine XS.aloadN X11.here hexec rfl (hb hbytes d36) rfl rfl ?_
        exact Steps.refl _)
      obtain ⟨T14, X14, q14, st14⟩ := X11.hget hexec hown (wk W (.fieldLink "java/lang/String" 9 "java/lang/String" "value" "[B")) (hx.mv X11.warmed.alike hh11).2.1 (g := (mkF m 37 #[.val (.ref x), .val (.ref y), .val (.ref y)] [.ref x])) rfl (rest := []) rfl (hb hbytes d37)
      have hh14 := q14.trans hh11
      have c15 : Steps p.tables e below (s₁.setTop (entryFrame m #[.ref x, .ref y] 3)) (T14.setTop (mkF m 41 #[.val (.ref x), .val (.ref y), .val (.ref y)] [.ref y, .ref t])) := (c13.trans (st14 _ (Steps.refl _))).trans (by
        refine XS.aloadN X14.here hexec rfl (hb hbytes d40) rfl rfl ?_
        exact Steps.refl _)
      obtain ⟨T16, X16, q16, st16⟩ := X14.hget hexec hown (wk W (.fieldLink "java/lang/String" 9 "java/lang/String" "value" "[B")) (hy.mv X14.warmed.alike hh14).2.1 (g := (mkF m 41 #[.val (.ref x), .val (.ref y), .val (.ref y)] [.ref y, .ref t])) rfl (rest := [.ref t]) rfl (hb hbytes d41)
      have hh16 := q16.trans hh14
      have c17 : Steps p.tables e below (s₁.setTop (entryFrame m #[.ref x, .ref y] 3)) (T16.setTop (mkF m 44 #[.val (.ref x), .val (.ref y), .val (.ref y)] [.ref t', .ref t])) := c15.trans (st16 _ (Steps.refl _))
      obtain ⟨v18, T18, X18, E18, g18⟩ := X16.callS hexec (LEq.law l t V t' V') hown (wks W (staticW "java/lang/String" 541 LEq.yN)) (wk W LEq.tab) (W := 0) (Nat.le_of_ble_eq_true rfl) (Nat.le_of_ble_eq_true rfl) (Nat.le_refl _) (Nat.le_refl _) (g := (mkF m 44 #[.val (.ref x), .val (.ref y), .val (.ref y)] [.ref t', .ref t])) rfl (by rw [hml]; rfl) c17 (argsL := [.ref t, .ref t']) (rest := []) rfl rfl (by show 2 * 0 + 0 ≤ _; decide) (hb hbytes d44) (⟨rfl, hx.2.2.2.1.mv X16.warmed.alike hh16, hx.2.2.2.2.1.ty, hy.2.2.2.1.mv X16.warmed.alike hh16, hy.2.2.2.2.1.ty⟩)
      obtain ⟨v, rfl, q18, hv⟩ := E18
      have iff := Cod.eqv hx.2.2.2.2.1 hy.2.2.2.2.1 hx.2.2.2.2.2 hy.2.2.2.2.2
      rcases hv with ⟨rfl, he⟩ | ⟨rfl, he⟩
      · have c19 : Steps p.tables e below (s₁.setTop (entryFrame m #[.ref x, .ref y] 3)) (T18.setTop (mkF m 55 #[.val (.ref x), .val (.ref y), .val (.ref y)] [.int 1])) := Steps.trans g18 (by
          refine XS.ifNo X18.here hexec rfl (hb hbytes d47) rfl (i0_eq_f (by decide)) ?_
          refine iconstV X18.here hexec rfl 1 (hb hbytes d50) (by decide) ?_
          refine XS.goto X18.here hexec rfl (pc0 := 51) rfl (hb hbytes d51) (by decide) rfl ?_
          exact Steps.refl _)
        exact ⟨T18, some (.int 1), _, _, _, X18, rfl, rfl, rfl, (fun h => by cases h), ⟨1, rfl, q18.trans hh16, Or.inl ⟨rfl, iff.mp he⟩⟩, fun fs hl => c19.trans (X18.ireturnOut hexec hret rfl (Or.inr (Or.inl rfl)) (hb hbytes d55) hl)⟩
      · have c19 : Steps p.tables e below (s₁.setTop (entryFrame m #[.ref x, .ref y] 3)) (T18.setTop (mkF m 55 #[.val (.ref x), .val (.ref y), .val (.ref y)] [.int 0])) := Steps.trans g18 (by
          refine XS.ifYes X18.here hexec rfl (pc0 := 47) rfl (hb hbytes d47) rfl (i0_eq_t rfl) (by decide) rfl ?_
          refine iconstV X18.here hexec rfl 0 (hb hbytes d54) (by decide) ?_
          exact Steps.refl _)
        exact ⟨T18, some (.int 0), _, _, _, X18, rfl, rfl, rfl, (fun h => by cases h), ⟨0, rfl, q18.trans hh16, Or.inr ⟨rfl, fun q => he (iff.mpr q)⟩⟩, fun fs hl => c19.trans (X18.ireturnOut hexec hret rfl (Or.inr (Or.inl rfl)) (hb hbytes d55) hl)⟩
    · have c13 : Steps p.tables e below (s₁.setTop (entryFrame m #[.ref x, .ref y] 3)) (T11.setTop (mkF m 55 #[.val (.ref x), .val (.ref y), .val (.ref y)] [.int 0])) := c12.trans (by
        refine XS.icmpYes X11.here hexec rfl (pc0 := 33) rfl (hb hbytes d33) rfl (ii_ne_t hcd) (by decide) rfl ?_
        refine iconstV X11.here hexec rfl 0 (hb hbytes d54) (by decide) ?_
        exact Steps.refl _)
      exact ⟨T11, some (.int 0), _, _, _, X11, rfl, rfl, rfl, (fun h => by cases h), ⟨0, rfl, hh11, Or.inr ⟨rfl, Cod.dif hx.2.2.2.2.1 hy.2.2.2.2.1 hcd⟩⟩, fun fs hl => c13.trans (X11.ireturnOut hexec hret rfl (Or.inr (Or.inl rfl)) (hb hbytes d55) hl)⟩
theorem pays {l : Launch} {R : Room} {p : Program} {e : Env} {below : List Frame} {s : State} {sargs : Array Value} {len W : Nat} (x t : Addr) (V : Cell) (cd : Int32) (n : Nat) (f : Nat → Int32) (y t' : Addr) (V' : Cell) (cd' : Int32) (k : Nat) (g : Nat → Int32) (z : Int32) (htab : tab.before sargs s = true) (hfr : 2 ≤ R.frames) (hlo : W + 28 ≤ R.locals) :
    Back l R p e below s sargs yN len W (fun A₁ a₁ => A₁.cells + 0 ≤ R.cells ∧ A₁.slots + 0 ≤ R.slots ∧ P x t V cd n f y t' V' cd' k g z a₁ A₁.U) (fun A₁ _ v₁ B₁ => Says01 (SameT n f k g) v₁ A₁.U B₁.U ∧ B₁.locs = A₁.locs ++ [] ∧ B₁.cells = A₁.cells + 0 ∧ B₁.slots = A₁.slots + 0) :=
  (law l x t V cd n f y t' V' cd' k g z).pays htab hfr (by omega)
end SEq
end StrChars
namespace StrChars.Road
open Jvm Sem ClassFile Op Lib Jvm.Stand Jvm.Free Jvm.Free.XT
open Jvm.Lib.Cold (StaticIs)
/-- the words of String.equals(Object) -/
abbrev wordsEq : List Jvm.Cond := [.code SEq.yN SEq.yB 3 (some .boolean), .initialized ST, .classLink ST 10 ST, .fieldLink ST 38 ST "COMPACT_STRINGS" "Z", .fieldLink ST 15 ST "coder" "B", .fieldLink ST 9 ST "value" "[B", .methodLink ST 541 LEq.yN, .static LEq.yN, .code LEq.yN LEq.yB 3 (some .boolean), .initialized "java/lang/StringLatin1"]
theorem tabEq_of {a : Array Value} {s : State} (h : ∀ w ∈ wordsEq, w.before a s = true) : SEq.tab.before a s = true := by
  have hl : LEq.tab.before a s = true := unparts (wk h (.code LEq.yN LEq.yB 3 (some .boolean))) (wks h (.initialized LEq.yN.cls :: LEq.site))
  have q := consq hl h
  exact unparts (wk q (.code SEq.yN SEq.yB 3 (some .boolean))) (wks q (.initialized SEq.yN.cls :: SEq.site))
theorem movedEq {Z s : State} {a0 args : Array Value} (hZ : Z.Warmed39 s.vm) (hw : ∀ d ∈ wordsEq, d.before a0 Z = true) : ∀ d ∈ wordsEq, d.before args s = true := fun d hd => by
  have t : ∀ d ∈ wordsEq, (d.onTables && d.keepsFace) = true := by decide +kernel
  exact RoadKit.mv hZ (hw d hd) (t d hd)
/-- the road's facts of a String, as the laws ask it -/
theorem txt_of {Z U : State} {a0 : Array Value} {kI : Nat} (wi : (Jvm.Cond.instantiable ST kI).before a0 Z = true) (al : Z.vm.Alike U.vm) {x t : Addr} {kb : ClassId} {cs : List Int32} {cd N2 : Int32} {vs : List Value} (E : RoadKit.Exa Z U.heap x ST) (V : RoadKit.Fld Z U.heap x ST "value" "[B" (.ref t)) (C : RoadKit.Fld Z U.heap x ST "coder" "B" (.int cd)) (K : RoadKit.Arv Z U.heap t kb .byte N2 vs (.int 0)) (hc : CodA cs cd N2 vs) (hb : ∀ c ∈ cs, ¬ c < 0 ∧ ¬ (65535 : Int32) < c) (l2 : cs.length ≤ 4000) :
    ∃ A, Txt x t A cd cs.length (fun j => cs.getD j 0) U := by
  obtain ⟨A, K1, K2, K3, K4, K5, K6⟩ := K
  have hcod := hc.cod (by omega) K3 K5
  obtain ⟨D, fV, fC, hB, F1, F2, g1, g2, -, -⟩ := strObj wi al E V C
  exact ⟨A, ⟨_, hB.2.2.1, D, hB.1, rfl, by cases q : D.vm <;> first | rfl | exact absurd q (hB.2.1.2 _)⟩, Has.of hB F1 g1, Has.of hB F2 g2, ⟨K1.1, State.isArrayOf_alike al K1.2.1, K1.2.2, by rcases hcod with ⟨-, q, -⟩ | ⟨-, q, -⟩ <;> omega⟩, hcod, fun j hj => by
    have e : cs.getD j 0 = cs[j] := by simp [List.getD_eq_getElem?_getD, hj]
    show ¬ cs.getD j 0 < 0 ∧ ¬ 65535 < cs.getD j 0
    rw [e]; exact hb _ (List.getElem_mem _)⟩
theorem same_list (cs ds : List Int32) : SameT cs.length (fun j => cs.getD j 0) ds.length (fun j => ds.getD j 0) ↔ cs = ds := by
  constructor
  · rintro ⟨e, q⟩
    refine List.ext_getElem e fun j h1 h2 => ?_
    have := q j h1
    simpa [List.getD_eq_getElem?_getD, h1, h2] using this
  · rintro rfl
    exact ⟨rfl, fun _ _ => rfl⟩
/-- **equals(Object) OF TWO SUCH STRINGS**: 1 just where the chars are the same -/
theorem eqW {p : Program} {l : Launch} {e : Env} {R : Room} {s : State} {args : Array Value} {below : List Frame} {len W : Nat} {Z : State} {a0 : Array Value} {h : Heap} (hZ : Z.Warmed39 s.vm) (hw : ∀ d ∈ wordsEq, d.before a0 Z = true) {kI : Nat} (wi : (Jvm.Cond.instantiable ST kI).before a0 Z = true)
    {x t : Addr} {kb : ClassId} {cs : List Int32} {cd N2 : Int32} {vs : List Value} (E : RoadKit.Exa Z h x ST) (V : RoadKit.Fld Z h x ST "value" "[B" (.ref t)) (C : RoadKit.Fld Z h x ST "coder" "B" (.int cd)) (K : RoadKit.Arv Z h t kb .byte N2 vs (.int 0)) (hc : CodA cs cd N2 vs) (hb : ∀ c ∈ cs, ¬ c < 0 ∧ ¬ (65535 : Int32) < c) (l2 : cs.length ≤ 4000)
    {y t' : Addr} {kb' : ClassId} {ds : List Int32} {cd' N2' : Int32} {vs' : List Value} (E' : RoadKit.Exa Z h y ST) (V' : RoadKit.Fld Z h y ST "value" "[B" (.ref t')) (C' : RoadKit.Fld Z h y ST "coder" "B" (.int cd')) (K' : RoadKit.Arv Z h t' kb' .byte N2' vs' (.int 0)) (hc' : CodA ds cd' N2' vs') (hb' : ∀ c ∈ ds, ¬ c < 0 ∧ ¬ (65535 : Int32) < c) (l2' : ds.length ≤ 4000)
    {z : Int32} (S : RoadKit.Sta Z h ST "COMPACT_STRINGS" "Z" (.int z)) (hz : ¬ z = 0) (hfr : 2 ≤ R.frames) (hlo : W + 28 ≤ R.locals) :
    Back l R p e below s args (⟨"java/lang/String", "equals", "(Ljava/lang/Object;)Z"⟩ : MethodName) len W (fun P a => a = #[.ref x, .ref y] ∧ P.U.heap = h ∧ P.cells + 0 ≤ R.cells ∧ P.slots + 0 ≤ R.slots)
      (fun P _ v B => ∃ L, (((v = some (.int 1) ∧ cs = ds) ∨ (v = some (.int 0) ∧ ¬ cs = ds)) ∧ L = [] ∧ B.U.heap = h) ∧ B.locs = P.locs ++ L ∧ B.cells = P.cells + 0 ∧ B.slots = P.slots + 0) := by
  intro m meth c P g ig mk a X hg hsize hdg hW hn hp'
  obtain ⟨rfl, rfl, r1, r2⟩ := hp'
  have al : Z.vm.Alike P.U.vm := hZ.alike.trans X.warmed.alike
  obtain ⟨A, hx⟩ := txt_of wi al E V C K hc hb l2
  obtain ⟨A', hy⟩ := txt_of wi al E' V' C' K' hc' hb' l2'
  obtain ⟨v, B, X', ⟨⟨w, hv, hh, hq⟩, hl, hk, hs⟩, st⟩ := SEq.pays x t A cd cs.length (fun j => cs.getD j 0) y t' A' cd' ds.length (fun j => ds.getD j 0) z (tabEq_of (movedEq hZ hw)) hfr hlo m meth c P g ig mk _ X hg hsize hdg hW hn ⟨r1, r2, rfl, hx, hy, sta_is al S, hz⟩
  refine ⟨v, B, X', ⟨[], ⟨?_, rfl, hh⟩, hl, hk, hs⟩, st⟩
  rcases hq with ⟨rfl, q⟩ | ⟨rfl, q⟩
  · exact Or.inl ⟨hv, (same_list cs ds).mp q⟩
  · exact Or.inr ⟨hv, fun e => q ((same_list cs ds).mpr e)⟩
end StrChars.Road
namespace StrChars.Road
open Jvm Sem ClassFile Op Lib Jvm.Stand Jvm.Free Jvm.Free.XT
open Jvm.Lib.Cold (StaticIs)
/-- what backV says of its String, as the contracts of this text ask it: cs's low bytes, coder 0 -/
theorem codOf {cs : List Int32} {n : Nat} (hn : cs.length = n) (hb : ∀ c ∈ cs, ¬ 255 < c) : CodA cs 0 (Int32.ofNat n) ((cs.map lo8).map Value.int) := Or.inl ⟨rfl, by rw [hn], by simp [List.map_map, Function.comp_def], hb⟩
end StrChars.Road
end Jvm.Pilot.@@N@@

namespace Jvm.Pilot.@@N@@
open Jvm Jvm.ClassFile Sem Op Lib Jvm.Free Jvm.Stand Jvm.LawKit Jvm.RoadKit Bundle Jvm.Ow Jvm.Pilot.@@N@@.Jvm.D
theorem wSt {a0 : Array Value} {Z : State} (hw : ∀ d ∈ tables_1, d.before a0 Z = true) : ∀ d ∈ Bundle.stringAtoms, d.before a0 Z = true := fun d hd => hw d ((by decide +kernel : ∀ d ∈ Bundle.stringAtoms, d ∈ tables_1) d hd)
theorem nref {t : FieldType} {w : Value} (h : w.isRef = true) : narrow t w = w := by cases w <;> first | (cases t <;> rfl) | cases h
theorem fref {C : String} {w : Value} (h : w.isRef = true) : fits (.object C) w = true := by cases w <;> first | rfl | cases h

theorem wCh {a0 : Array Value} {Z : State} (hw : ∀ d ∈ tables_1, d.before a0 Z = true) : ∀ d ∈ StrChars.Road.words, d.before a0 Z = true := fun d hd => hw d ((by decide +kernel : ∀ d ∈ StrChars.Road.words, d ∈ tables_1) d hd)
/-- what new String(chars) leaves -/
def QStr (Z : State) (x : Addr) (N : Int32) (cs : List Int32) (h : Heap) (v : Option Value) (u : Heap) : Prop := ∃ (t : Addr) (kb : ClassId), v = none ∧ Keep h u [x] ∧ Exa Z u x "java/lang/String" ∧ Fld Z u x "java/lang/String" "coder" "B" (.int (0 : Int32)) ∧ Fld Z u x "java/lang/String" "value" "[B" (.ref t) ∧ Arv Z u t kb .byte N ((cs.map fun c => c.toInt8.toInt32).map Value.int) (.int (0 : Int32)) ∧ h.size ≤ t
theorem payStr {p : Program} {l : Launch} {e : Env} {R : Room} {s : State} {m : MethodId} {args : Array Value} {below : List Frame} {meth : Method} {c : Code} {own : String} {Z : State} {a0 : Array Value} {EL : List (String × Nat)} {h0 : Heap} {T : State} {h : Heap} {vm : Vm} {cells slots : Nat} (X : Wk p l e R s m args below meth c own Z a0 EL h0 T h vm cells slots) {len W : Nat} (hw : ∀ d ∈ tables_1, d.before a0 Z = true) (wi : (Jvm.Cond.instantiable "java/lang/String" 4).before a0 Z = true)
    {x b : Addr} {kC : ClassId} (cs : List Int32) {d v0 c0 : Value} {z N : Int32} (n : Nat) (hx0 : Z.heap.size ≤ x) (E : Exa Z h x "java/lang/String") (V : Fld Z h x "java/lang/String" "value" "[B" v0) (C : Fld Z h x "java/lang/String" "coder" "B" c0) (K : Arv Z h b kC .char N (cs.map Value.int) d) (S : Sta Z Z.heap "java/lang/String" "COMPACT_STRINGS" "Z" (.int z)) (hz : ¬ z = 0)
    (hn : cs.length = n) (hN : N = Int32.ofNat n) (l0 : 0 < n) (l2 : n ≤ 4000) (hp : ∀ c ∈ cs, ¬ c < 0 ∧ ¬ (255 : Int32) < c) (hfr : 4 ≤ R.frames) (hlo : W + 65 ≤ R.locals) (sf : Safe Z EL vm h x) :
    Pay l R p e below s args (⟨"java/lang/String", "<init>", "([C)V"⟩ : MethodName) len W Z EL vm h #[.ref x, .ref b] 1 n (QStr Z x N cs h) :=
  X.payN (ws := [x]) (StrChars.Road.backV (s := s.setVm vm) (n0 := Z.heap.size) X.hZ (wCh hw) wi hx0 X.ge E V C K (X.sta S) hz hn hN l0 l2 hp rfl hfr hlo)
    (fun v u L q => by obtain ⟨q1, q2, q3, q4, q5, t, kb, q6, q7, q8, q9, q10⟩ := q; exact ⟨q2, q3, t, kb, q1, q3, q4, q5, q9, q10, q7⟩) (allS hx0 all0) (sfS sf sf0)

theorem wide_of {cs : List Int32} (H : ∀ c ∈ cs, ¬ c < 0 ∧ ¬ (255 : Int32) < c) : ∀ c ∈ cs, ¬ c < 0 ∧ ¬ (65535 : Int32) < c := fun c hc => ⟨(H c hc).1, fun q => (H c hc).2 (by
  have e1 : (255 : Int32).toInt = 255 := by decide
  have e2 : (65535 : Int32).toInt = 65535 := by decide
  rw [Int32.lt_iff_toInt_lt] at q ⊢; omega)⟩
theorem cod_of {Z : State} {h : Heap} {a b : Addr} {k : ClassId} {cs : List Int32} (F : Str Z h a b k cs) : StrChars.Road.CodA cs 0 (Int32.ofNat cs.length) ((cs.map fun c => c.toInt8.toInt32).map Value.int) := StrChars.Road.codOf rfl fun c hc => (F.2.2.2.2.1 c hc).2

theorem wEq {a0 : Array Value} {Z : State} (hw : ∀ d ∈ tables_1, d.before a0 Z = true) : ∀ d ∈ StrChars.Road.wordsEq, d.before a0 Z = true := fun d hd => hw d ((by decide +kernel : ∀ d ∈ StrChars.Road.wordsEq, d ∈ tables_1) d hd)
theorem payEq {p : Program} {l : Launch} {e : Env} {R : Room} {s : State} {m : MethodId} {args : Array Value} {below : List Frame} {meth : Method} {c : Code} {own : String} {Z : State} {a0 : Array Value} {EL : List (String × Nat)} {h0 : Heap} {T : State} {h : Heap} {vm : Vm} {cells slots : Nat} (X : Wk p l e R s m args below meth c own Z a0 EL h0 T h vm cells slots) {len W : Nat} (hw : ∀ d ∈ tables_1, d.before a0 Z = true) (wi : (Jvm.Cond.instantiable "java/lang/String" 4).before a0 Z = true) {x t : Addr} {kb : ClassId} {cs : List Int32} (S1 : Str Z h x t kb cs) {y t' : Addr} {kb' : ClassId} {ds : List Int32} (S2 : Str Z h y t' kb' ds) {z : Int32} (S : Sta Z Z.heap "java/lang/String" "COMPACT_STRINGS" "Z" (.int z)) (hz : ¬ z = 0) (hfr : 2 ≤ R.frames) (hlo : W + 28 ≤ R.locals) :
    Pay l R p e below s args (⟨"java/lang/String", "equals", "(Ljava/lang/Object;)Z"⟩ : MethodName) len W Z EL vm h #[.ref x, .ref y] 0 0 (fun v u => v = some (.int (if cs = ds then 1 else 0)) ∧ u = h) :=
  X.payN (ws := []) (Qn := fun v u L => ((v = some (.int 1) ∧ cs = ds) ∨ (v = some (.int 0) ∧ ¬ cs = ds)) ∧ L = [] ∧ u = h) (StrChars.Road.eqW (s := s.setVm vm) X.hZ (wEq hw) wi S1.1 S1.2.2.1 S1.2.1 S1.2.2.2.1 (cod_of S1) (wide_of S1.2.2.2.2.1) S1.2.2.2.2.2 S2.1 S2.2.2.1 S2.2.1 S2.2.2.2.1 (cod_of S2) (wide_of S2.2.2.2.2.1) S2.2.2.2.2.2 (X.sta S) hz hfr hlo)
    (fun v u L q => by
      obtain ⟨q1, rfl, rfl⟩ := q
      refine ⟨Fr.nil _, Keep.refl _ _, ?_, rfl⟩
      rcases q1 with ⟨rfl, q⟩ | ⟨rfl, q⟩
      · rw [if_pos q]
      · rw [if_neg q]) all0 sf0

def mk2 (n x y : Int32) : List Int32 := if n = 0 then [] else if n = 1 then [x] else [x, y]
theorem nar_in {x : Int32} (h : ¬ x < 0 ∧ ¬ (255 : Int32) < x) : nar .char x = x := i2c_in h.1 fun q => h.2 (by
  have e1 : (255 : Int32).toInt = 255 := by decide
  have e2 : (65535 : Int32).toInt = 65535 := by decide
  rw [Int32.lt_iff_toInt_lt] at q ⊢; omega)
def T3 (n : Int32) : Prop := n = 0 ∨ n = 1 ∨ n = 2
theorem t3_of {n : Int32} (h0 : 0 ≤ n.toInt) (h1 : n.toInt < 3) : T3 n := by
  have e0 : (0 : Int32).toInt = 0 := by decide
  have e1 : (1 : Int32).toInt = 1 := by decide
  have e2 : (2 : Int32).toInt = 2 := by decide
  unfold T3
  simp only [← Int32.toInt_inj, e0, e1, e2]; omega
theorem rem3 (x : Int32) : T3 ((x &&& (2147483647 : Int32)) % (3 : Int32)) := by
  have q := c_and x (2147483647 : Int32) (by decide)
  have r := (c_irem (x &&& (2147483647 : Int32)) (3 : Int32) 3 (by decide)).1 q.1
  exact t3_of (by omega) (by omega)
theorem rem3u (x : Int32) : T3 (Jvm.Free.XT.ushr x (5 : Int32) % (3 : Int32)) := by
  have q := c_iushr x (5 : Int32) 5 (by decide) (by decide)
  have q' : (Jvm.Free.XT.ushr x (5 : Int32)).toInt = (x.toInt % 4294967296) / (2 ^ 5 : Nat) := q
  have r := (c_irem (Jvm.Free.XT.ushr x (5 : Int32)) (3 : Int32) 3 (by decide)).1 (by rw [q']; omega)
  exact t3_of (by omega) (by omega)
theorem mk2_iff {n k x y u v : Int32} (hn : T3 n) (hk : T3 k) : mk2 n x y = mk2 k u v ↔ n = k ∧ (n < 1 ∨ x = u) ∧ (n < 2 ∨ y = v) := by
  rcases hn with rfl | rfl | rfl <;> rcases hk with rfl | rfl | rfl <;> simp [mk2] <;> decide

theorem w0 {a0 : Array Value} {Z : State} (hw : ∀ d ∈ tables_1, d.before a0 Z = true) : ((Jvm.Cond.fieldLink "com/example/carve/carve/model/TokenIsPinLaw" (7 : Nat) "com/example/carve/carve/model/Token$Kind" "WORD" "Lcom/example/carve/carve/model/Token$Kind;") : Jvm.Cond).before a0 Z = true := hw _ (List.mem_of_getElem? (i := 0) rfl)
theorem w1 {a0 : Array Value} {Z : State} (hw : ∀ d ∈ tables_1, d.before a0 Z = true) : ((Jvm.Cond.initialized "com/example/carve/carve/model/Token$Kind") : Jvm.Cond).before a0 Z = true := hw _ (List.mem_of_getElem? (i := 1) rfl)
theorem w2 {a0 : Array Value} {Z : State} (hw : ∀ d ∈ tables_1, d.before a0 Z = true) : ((Jvm.Cond.laysStatic "com/example/carve/carve/model/Token$Kind" "WORD" "Lcom/example/carve/carve/model/Token$Kind;") : Jvm.Cond).before a0 Z = true := hw _ (List.mem_of_getElem? (i := 2) rfl)
theorem w3 {a0 : Array Value} {Z : State} (hw : ∀ d ∈ tables_1, d.before a0 Z = true) : ((Jvm.Cond.constant "com/example/carve/carve/model/TokenIsPinLaw" (22 : Nat) (2147483647 : Int32)) : Jvm.Cond).before a0 Z = true := hw _ (List.mem_of_getElem? (i := 3) rfl)
theorem w4 {a0 : Array Value} {Z : State} (hw : ∀ d ∈ tables_1, d.before a0 Z = true) : ((Jvm.Cond.methodLink "com/example/carve/carve/model/TokenIsPinLaw" (23 : Nat) ({ cls := "com/example/carve/carve/model/TokenIsPinLaw", name := "make", desc := "(ICC)Ljava/lang/String;" } : Jvm.MethodName)) : Jvm.Cond).before a0 Z = true := hw _ (List.mem_of_getElem? (i := 4) rfl)
theorem w5 {a0 : Array Value} {Z : State} (hw : ∀ d ∈ tables_1, d.before a0 Z = true) : ((Jvm.Cond.static ({ cls := "com/example/carve/carve/model/TokenIsPinLaw", name := "make", desc := "(ICC)Ljava/lang/String;" } : Jvm.MethodName)) : Jvm.Cond).before a0 Z = true := hw _ (List.mem_of_getElem? (i := 5) rfl)
theorem w6 {a0 : Array Value} {Z : State} (hw : ∀ d ∈ tables_1, d.before a0 Z = true) : ((Jvm.Cond.initialized "com/example/carve/carve/model/TokenIsPinLaw") : Jvm.Cond).before a0 Z = true := hw _ (List.mem_of_getElem? (i := 6) rfl)
theorem w7 {a0 : Array Value} {Z : State} (hw : ∀ d ∈ tables_1, d.before a0 Z = true) : ((Jvm.Cond.code ({ cls := "com/example/carve/carve/model/TokenIsPinLaw", name := "make", desc := "(ICC)Ljava/lang/String;" } : Jvm.MethodName) method_3_code (4 : Nat) (Option.some (Jvm.ClassFile.FieldType.object "java/lang/String"))) : Jvm.Cond).before a0 Z = true := hw _ (List.mem_of_getElem? (i := 7) rfl)
theorem w8 {a0 : Array Value} {Z : State} (hw : ∀ d ∈ tables_1, d.before a0 Z = true) : ((Jvm.Cond.classLink "com/example/carve/carve/model/TokenIsPinLaw" (43 : Nat) "java/lang/String") : Jvm.Cond).before a0 Z = true := hw _ (List.mem_of_getElem? (i := 8) rfl)
theorem w9 {a0 : Array Value} {Z : State} (hw : ∀ d ∈ tables_1, d.before a0 Z = true) : ((Jvm.Cond.instantiable "java/lang/String" (4 : Nat)) : Jvm.Cond).before a0 Z = true := hw _ (List.mem_of_getElem? (i := 9) rfl)
theorem w10 {a0 : Array Value} {Z : State} (hw : ∀ d ∈ tables_1, d.before a0 Z = true) : ((Jvm.Cond.initialized "java/lang/String") : Jvm.Cond).before a0 Z = true := hw _ (List.mem_of_getElem? (i := 10) rfl)
theorem w11 {a0 : Array Value} {Z : State} (hw : ∀ d ∈ tables_1, d.before a0 Z = true) : ((Jvm.Cond.arrayClass Jvm.ClassFile.FieldType.char) : Jvm.Cond).before a0 Z = true := hw _ (List.mem_of_getElem? (i := 11) rfl)
theorem w12 {a0 : Array Value} {Z : State} (hw : ∀ d ∈ tables_1, d.before a0 Z = true) : ((Jvm.Cond.methodLink "com/example/carve/carve/model/TokenIsPinLaw" (45 : Nat) ({ cls := "java/lang/String", name := "<init>", desc := "([C)V" } : Jvm.MethodName)) : Jvm.Cond).before a0 Z = true := hw _ (List.mem_of_getElem? (i := 12) rfl)
theorem w13 {a0 : Array Value} {Z : State} (hw : ∀ d ∈ tables_1, d.before a0 Z = true) : ((Jvm.Cond.instanceMethod ({ cls := "java/lang/String", name := "<init>", desc := "([C)V" } : Jvm.MethodName)) : Jvm.Cond).before a0 Z = true := hw _ (List.mem_of_getElem? (i := 13) rfl)
theorem w14 {a0 : Array Value} {Z : State} (hw : ∀ d ∈ tables_1, d.before a0 Z = true) : ((Jvm.Cond.code ({ cls := "java/lang/String", name := "<init>", desc := "([C)V" } : Jvm.MethodName) jdk_42_method_3_code (2 : Nat) (Option.none : Option Jvm.ClassFile.FieldType)) : Jvm.Cond).before a0 Z = true := hw _ (List.mem_of_getElem? (i := 14) rfl)
theorem w15 {a0 : Array Value} {Z : State} (hw : ∀ d ∈ tables_1, d.before a0 Z = true) : ((Jvm.Cond.methodLink "java/lang/String" (27 : Nat) ({ cls := "java/lang/String", name := "<init>", desc := "([CIILjava/lang/Void;)V" } : Jvm.MethodName)) : Jvm.Cond).before a0 Z = true := hw _ (List.mem_of_getElem? (i := 15) rfl)
theorem w16 {a0 : Array Value} {Z : State} (hw : ∀ d ∈ tables_1, d.before a0 Z = true) : ((Jvm.Cond.instanceMethod ({ cls := "java/lang/String", name := "<init>", desc := "([CIILjava/lang/Void;)V" } : Jvm.MethodName)) : Jvm.Cond).before a0 Z = true := hw _ (List.mem_of_getElem? (i := 16) rfl)
theorem w18 {a0 : Array Value} {Z : State} (hw : ∀ d ∈ tables_1, d.before a0 Z = true) : ((Jvm.Cond.code ({ cls := "java/lang/String", name := "<init>", desc := "([CIILjava/lang/Void;)V" } : Jvm.MethodName) jdk_42_method_149_code (6 : Nat) (Option.none : Option Jvm.ClassFile.FieldType)) : Jvm.Cond).before a0 Z = true := hw _ (List.mem_of_getElem? (i := 18) rfl)
theorem w19 {a0 : Array Value} {Z : State} (hw : ∀ d ∈ tables_1, d.before a0 Z = true) : ((Jvm.Cond.methodLink "java/lang/String" (1 : Nat) ({ cls := "java/lang/Object", name := "<init>", desc := "()V" } : Jvm.MethodName)) : Jvm.Cond).before a0 Z = true := hw _ (List.mem_of_getElem? (i := 19) rfl)
theorem w20 {a0 : Array Value} {Z : State} (hw : ∀ d ∈ tables_1, d.before a0 Z = true) : ((Jvm.Cond.instanceMethod ({ cls := "java/lang/Object", name := "<init>", desc := "()V" } : Jvm.MethodName)) : Jvm.Cond).before a0 Z = true := hw _ (List.mem_of_getElem? (i := 20) rfl)
theorem w21 {a0 : Array Value} {Z : State} (hw : ∀ d ∈ tables_1, d.before a0 Z = true) : ((Jvm.Cond.code ({ cls := "java/lang/Object", name := "<init>", desc := "()V" } : Jvm.MethodName) object_method_1_code (1 : Nat) (Option.none : Option Jvm.ClassFile.FieldType)) : Jvm.Cond).before a0 Z = true := hw _ (List.mem_of_getElem? (i := 21) rfl)
theorem w22 {a0 : Array Value} {Z : State} (hw : ∀ d ∈ tables_1, d.before a0 Z = true) : ((Jvm.Cond.stringLink "java/lang/String" (7 : Nat) "") : Jvm.Cond).before a0 Z = true := hw _ (List.mem_of_getElem? (i := 22) rfl)
theorem w23 {a0 : Array Value} {Z : State} (hw : ∀ d ∈ tables_1, d.before a0 Z = true) : ((Jvm.Cond.arrayClass Jvm.ClassFile.FieldType.byte) : Jvm.Cond).before a0 Z = true := hw _ (List.mem_of_getElem? (i := 23) rfl)
theorem w24 {a0 : Array Value} {Z : State} (hw : ∀ d ∈ tables_1, d.before a0 Z = true) : ((Jvm.Cond.laysFinal "java/lang/String" "java/lang/String" "value" "[B") : Jvm.Cond).before a0 Z = true := hw _ (List.mem_of_getElem? (i := 24) rfl)
theorem w25 {a0 : Array Value} {Z : State} (hw : ∀ d ∈ tables_1, d.before a0 Z = true) : ((Jvm.Cond.laysFinal "java/lang/String" "java/lang/String" "coder" "B") : Jvm.Cond).before a0 Z = true := hw _ (List.mem_of_getElem? (i := 25) rfl)
theorem w28 {a0 : Array Value} {Z : State} (hw : ∀ d ∈ tables_1, d.before a0 Z = true) : ((Jvm.Cond.fieldLink "java/lang/String" (9 : Nat) "java/lang/String" "value" "[B") : Jvm.Cond).before a0 Z = true := hw _ (List.mem_of_getElem? (i := 28) rfl)
theorem w29 {a0 : Array Value} {Z : State} (hw : ∀ d ∈ tables_1, d.before a0 Z = true) : ((Jvm.Cond.fieldLink "java/lang/String" (15 : Nat) "java/lang/String" "coder" "B") : Jvm.Cond).before a0 Z = true := hw _ (List.mem_of_getElem? (i := 29) rfl)
theorem w30 {a0 : Array Value} {Z : State} (hw : ∀ d ∈ tables_1, d.before a0 Z = true) : ((Jvm.Cond.classLink "com/example/carve/carve/model/TokenIsPinLaw" (29 : Nat) "com/example/carve/carve/model/Token") : Jvm.Cond).before a0 Z = true := hw _ (List.mem_of_getElem? (i := 30) rfl)
theorem w31 {a0 : Array Value} {Z : State} (hw : ∀ d ∈ tables_1, d.before a0 Z = true) : ((Jvm.Cond.instantiable "com/example/carve/carve/model/Token" (3 : Nat)) : Jvm.Cond).before a0 Z = true := hw _ (List.mem_of_getElem? (i := 31) rfl)
theorem w32 {a0 : Array Value} {Z : State} (hw : ∀ d ∈ tables_1, d.before a0 Z = true) : ((Jvm.Cond.initialized "com/example/carve/carve/model/Token") : Jvm.Cond).before a0 Z = true := hw _ (List.mem_of_getElem? (i := 32) rfl)
theorem w33 {a0 : Array Value} {Z : State} (hw : ∀ d ∈ tables_1, d.before a0 Z = true) : ((Jvm.Cond.classLink "com/example/carve/carve/model/TokenIsPinLaw" (31 : Nat) "com/example/carve/carve/model/Position") : Jvm.Cond).before a0 Z = true := hw _ (List.mem_of_getElem? (i := 33) rfl)
theorem w34 {a0 : Array Value} {Z : State} (hw : ∀ d ∈ tables_1, d.before a0 Z = true) : ((Jvm.Cond.instantiable "com/example/carve/carve/model/Position" (2 : Nat)) : Jvm.Cond).before a0 Z = true := hw _ (List.mem_of_getElem? (i := 34) rfl)
theorem w35 {a0 : Array Value} {Z : State} (hw : ∀ d ∈ tables_1, d.before a0 Z = true) : ((Jvm.Cond.initialized "com/example/carve/carve/model/Position") : Jvm.Cond).before a0 Z = true := hw _ (List.mem_of_getElem? (i := 35) rfl)
theorem w36 {a0 : Array Value} {Z : State} (hw : ∀ d ∈ tables_1, d.before a0 Z = true) : ((Jvm.Cond.methodLink "com/example/carve/carve/model/TokenIsPinLaw" (33 : Nat) ({ cls := "com/example/carve/carve/model/Position", name := "<init>", desc := "(II)V" } : Jvm.MethodName)) : Jvm.Cond).before a0 Z = true := hw _ (List.mem_of_getElem? (i := 36) rfl)
theorem w37 {a0 : Array Value} {Z : State} (hw : ∀ d ∈ tables_1, d.before a0 Z = true) : ((Jvm.Cond.instanceMethod ({ cls := "com/example/carve/carve/model/Position", name := "<init>", desc := "(II)V" } : Jvm.MethodName)) : Jvm.Cond).before a0 Z = true := hw _ (List.mem_of_getElem? (i := 37) rfl)
theorem w38 {a0 : Array Value} {Z : State} (hw : ∀ d ∈ tables_1, d.before a0 Z = true) : ((Jvm.Cond.code ({ cls := "com/example/carve/carve/model/Position", name := "<init>", desc := "(II)V" } : Jvm.MethodName) prog_53_method_1_code (3 : Nat) (Option.none : Option Jvm.ClassFile.FieldType)) : Jvm.Cond).before a0 Z = true := hw _ (List.mem_of_getElem? (i := 38) rfl)
theorem w39 {a0 : Array Value} {Z : State} (hw : ∀ d ∈ tables_1, d.before a0 Z = true) : ((Jvm.Cond.methodLink "com/example/carve/carve/model/Position" (1 : Nat) ({ cls := "java/lang/Record", name := "<init>", desc := "()V" } : Jvm.MethodName)) : Jvm.Cond).before a0 Z = true := hw _ (List.mem_of_getElem? (i := 39) rfl)
theorem w40 {a0 : Array Value} {Z : State} (hw : ∀ d ∈ tables_1, d.before a0 Z = true) : ((Jvm.Cond.instanceMethod ({ cls := "java/lang/Record", name := "<init>", desc := "()V" } : Jvm.MethodName)) : Jvm.Cond).before a0 Z = true := hw _ (List.mem_of_getElem? (i := 40) rfl)
theorem w42 {a0 : Array Value} {Z : State} (hw : ∀ d ∈ tables_1, d.before a0 Z = true) : ((Jvm.Cond.initialized "java/lang/Record") : Jvm.Cond).before a0 Z = true := hw _ (List.mem_of_getElem? (i := 42) rfl)
theorem w43 {a0 : Array Value} {Z : State} (hw : ∀ d ∈ tables_1, d.before a0 Z = true) : ((Jvm.Cond.code ({ cls := "java/lang/Record", name := "<init>", desc := "()V" } : Jvm.MethodName) jdk_30_method_1_code (1 : Nat) (Option.none : Option Jvm.ClassFile.FieldType)) : Jvm.Cond).before a0 Z = true := hw _ (List.mem_of_getElem? (i := 43) rfl)
theorem w44 {a0 : Array Value} {Z : State} (hw : ∀ d ∈ tables_1, d.before a0 Z = true) : ((Jvm.Cond.methodLink "java/lang/Record" (1 : Nat) ({ cls := "java/lang/Object", name := "<init>", desc := "()V" } : Jvm.MethodName)) : Jvm.Cond).before a0 Z = true := hw _ (List.mem_of_getElem? (i := 44) rfl)
theorem w45 {a0 : Array Value} {Z : State} (hw : ∀ d ∈ tables_1, d.before a0 Z = true) : ((Jvm.Cond.fieldLink "com/example/carve/carve/model/Position" (7 : Nat) "com/example/carve/carve/model/Position" "line" "I") : Jvm.Cond).before a0 Z = true := hw _ (List.mem_of_getElem? (i := 45) rfl)
theorem w46 {a0 : Array Value} {Z : State} (hw : ∀ d ∈ tables_1, d.before a0 Z = true) : ((Jvm.Cond.laysFinal "com/example/carve/carve/model/Position" "com/example/carve/carve/model/Position" "line" "I") : Jvm.Cond).before a0 Z = true := hw _ (List.mem_of_getElem? (i := 46) rfl)
theorem w47 {a0 : Array Value} {Z : State} (hw : ∀ d ∈ tables_1, d.before a0 Z = true) : ((Jvm.Cond.fieldLink "com/example/carve/carve/model/Position" (13 : Nat) "com/example/carve/carve/model/Position" "column" "I") : Jvm.Cond).before a0 Z = true := hw _ (List.mem_of_getElem? (i := 47) rfl)
theorem w48 {a0 : Array Value} {Z : State} (hw : ∀ d ∈ tables_1, d.before a0 Z = true) : ((Jvm.Cond.laysFinal "com/example/carve/carve/model/Position" "com/example/carve/carve/model/Position" "column" "I") : Jvm.Cond).before a0 Z = true := hw _ (List.mem_of_getElem? (i := 48) rfl)
theorem w49 {a0 : Array Value} {Z : State} (hw : ∀ d ∈ tables_1, d.before a0 Z = true) : ((Jvm.Cond.methodLink "com/example/carve/carve/model/TokenIsPinLaw" (36 : Nat) ({ cls := "com/example/carve/carve/model/Token", name := "<init>", desc := "(Lcom/example/carve/carve/model/Token$Kind;Ljava/lang/String;Lcom/example/carve/carve/model/Position;)V" } : Jvm.MethodName)) : Jvm.Cond).before a0 Z = true := hw _ (List.mem_of_getElem? (i := 49) rfl)
theorem w50 {a0 : Array Value} {Z : State} (hw : ∀ d ∈ tables_1, d.before a0 Z = true) : ((Jvm.Cond.instanceMethod ({ cls := "com/example/carve/carve/model/Token", name := "<init>", desc := "(Lcom/example/carve/carve/model/Token$Kind;Ljava/lang/String;Lcom/example/carve/carve/model/Position;)V" } : Jvm.MethodName)) : Jvm.Cond).before a0 Z = true := hw _ (List.mem_of_getElem? (i := 50) rfl)
theorem w51 {a0 : Array Value} {Z : State} (hw : ∀ d ∈ tables_1, d.before a0 Z = true) : ((Jvm.Cond.code ({ cls := "com/example/carve/carve/model/Token", name := "<init>", desc := "(Lcom/example/carve/carve/model/Token$Kind;Ljava/lang/String;Lcom/example/carve/carve/model/Position;)V" } : Jvm.MethodName) prog_63_method_1_code (4 : Nat) (Option.none : Option Jvm.ClassFile.FieldType)) : Jvm.Cond).before a0 Z = true := hw _ (List.mem_of_getElem? (i := 51) rfl)
theorem w52 {a0 : Array Value} {Z : State} (hw : ∀ d ∈ tables_1, d.before a0 Z = true) : ((Jvm.Cond.methodLink "com/example/carve/carve/model/Token" (1 : Nat) ({ cls := "java/lang/Record", name := "<init>", desc := "()V" } : Jvm.MethodName)) : Jvm.Cond).before a0 Z = true := hw _ (List.mem_of_getElem? (i := 52) rfl)
theorem w53 {a0 : Array Value} {Z : State} (hw : ∀ d ∈ tables_1, d.before a0 Z = true) : ((Jvm.Cond.fieldLink "com/example/carve/carve/model/Token" (7 : Nat) "com/example/carve/carve/model/Token" "kind" "Lcom/example/carve/carve/model/Token$Kind;") : Jvm.Cond).before a0 Z = true := hw _ (List.mem_of_getElem? (i := 53) rfl)
theorem w54 {a0 : Array Value} {Z : State} (hw : ∀ d ∈ tables_1, d.before a0 Z = true) : ((Jvm.Cond.laysFinal "com/example/carve/carve/model/Token" "com/example/carve/carve/model/Token" "kind" "Lcom/example/carve/carve/model/Token$Kind;") : Jvm.Cond).before a0 Z = true := hw _ (List.mem_of_getElem? (i := 54) rfl)
theorem w55 {a0 : Array Value} {Z : State} (hw : ∀ d ∈ tables_1, d.before a0 Z = true) : ((Jvm.Cond.fieldLink "com/example/carve/carve/model/Token" (13 : Nat) "com/example/carve/carve/model/Token" "text" "Ljava/lang/String;") : Jvm.Cond).before a0 Z = true := hw _ (List.mem_of_getElem? (i := 55) rfl)
theorem w56 {a0 : Array Value} {Z : State} (hw : ∀ d ∈ tables_1, d.before a0 Z = true) : ((Jvm.Cond.laysFinal "com/example/carve/carve/model/Token" "com/example/carve/carve/model/Token" "text" "Ljava/lang/String;") : Jvm.Cond).before a0 Z = true := hw _ (List.mem_of_getElem? (i := 56) rfl)
theorem w57 {a0 : Array Value} {Z : State} (hw : ∀ d ∈ tables_1, d.before a0 Z = true) : ((Jvm.Cond.fieldLink "com/example/carve/carve/model/Token" (17 : Nat) "com/example/carve/carve/model/Token" "at" "Lcom/example/carve/carve/model/Position;") : Jvm.Cond).before a0 Z = true := hw _ (List.mem_of_getElem? (i := 57) rfl)
theorem w58 {a0 : Array Value} {Z : State} (hw : ∀ d ∈ tables_1, d.before a0 Z = true) : ((Jvm.Cond.laysFinal "com/example/carve/carve/model/Token" "com/example/carve/carve/model/Token" "at" "Lcom/example/carve/carve/model/Position;") : Jvm.Cond).before a0 Z = true := hw _ (List.mem_of_getElem? (i := 58) rfl)
theorem w59 {a0 : Array Value} {Z : State} (hw : ∀ d ∈ tables_1, d.before a0 Z = true) : ((Jvm.Cond.methodLink "com/example/carve/carve/model/TokenIsPinLaw" (39 : Nat) ({ cls := "com/example/carve/carve/model/Token", name := "is", desc := "(Ljava/lang/String;)Z" } : Jvm.MethodName)) : Jvm.Cond).before a0 Z = true := hw _ (List.mem_of_getElem? (i := 59) rfl)
theorem w60 {a0 : Array Value} {Z : State} (hw : ∀ d ∈ tables_1, d.before a0 Z = true) : ((Jvm.Cond.declares ({ cls := "com/example/carve/carve/model/Token", name := "is", desc := "(Ljava/lang/String;)Z" } : Jvm.MethodName)) : Jvm.Cond).before a0 Z = true := hw _ (List.mem_of_getElem? (i := 60) rfl)
theorem w61 {a0 : Array Value} {Z : State} (hw : ∀ d ∈ tables_1, d.before a0 Z = true) : ((Jvm.Cond.instanceMethod ({ cls := "com/example/carve/carve/model/Token", name := "is", desc := "(Ljava/lang/String;)Z" } : Jvm.MethodName)) : Jvm.Cond).before a0 Z = true := hw _ (List.mem_of_getElem? (i := 61) rfl)
theorem w62 {a0 : Array Value} {Z : State} (hw : ∀ d ∈ tables_1, d.before a0 Z = true) : ((Jvm.Cond.selects "com/example/carve/carve/model/Token" ({ cls := "com/example/carve/carve/model/Token", name := "is", desc := "(Ljava/lang/String;)Z" } : Jvm.MethodName) ({ cls := "com/example/carve/carve/model/Token", name := "is", desc := "(Ljava/lang/String;)Z" } : Jvm.MethodName)) : Jvm.Cond).before a0 Z = true := hw _ (List.mem_of_getElem? (i := 62) rfl)
theorem w63 {a0 : Array Value} {Z : State} (hw : ∀ d ∈ tables_1, d.before a0 Z = true) : ((Jvm.Cond.code ({ cls := "com/example/carve/carve/model/Token", name := "is", desc := "(Ljava/lang/String;)Z" } : Jvm.MethodName) prog_63_method_2_code (2 : Nat) (Option.some Jvm.ClassFile.FieldType.boolean)) : Jvm.Cond).before a0 Z = true := hw _ (List.mem_of_getElem? (i := 63) rfl)
theorem w64 {a0 : Array Value} {Z : State} (hw : ∀ d ∈ tables_1, d.before a0 Z = true) : ((Jvm.Cond.fieldLink "com/example/carve/carve/model/Token" (21 : Nat) "com/example/carve/carve/model/Token$Kind" "WORD" "Lcom/example/carve/carve/model/Token$Kind;") : Jvm.Cond).before a0 Z = true := hw _ (List.mem_of_getElem? (i := 64) rfl)
theorem w65 {a0 : Array Value} {Z : State} (hw : ∀ d ∈ tables_1, d.before a0 Z = true) : ((Jvm.Cond.methodLink "com/example/carve/carve/model/Token" (29 : Nat) ({ cls := "java/lang/String", name := "equals", desc := "(Ljava/lang/Object;)Z" } : Jvm.MethodName)) : Jvm.Cond).before a0 Z = true := hw _ (List.mem_of_getElem? (i := 65) rfl)
theorem w66 {a0 : Array Value} {Z : State} (hw : ∀ d ∈ tables_1, d.before a0 Z = true) : ((Jvm.Cond.declares ({ cls := "java/lang/String", name := "equals", desc := "(Ljava/lang/Object;)Z" } : Jvm.MethodName)) : Jvm.Cond).before a0 Z = true := hw _ (List.mem_of_getElem? (i := 66) rfl)
theorem w67 {a0 : Array Value} {Z : State} (hw : ∀ d ∈ tables_1, d.before a0 Z = true) : ((Jvm.Cond.instanceMethod ({ cls := "java/lang/String", name := "equals", desc := "(Ljava/lang/Object;)Z" } : Jvm.MethodName)) : Jvm.Cond).before a0 Z = true := hw _ (List.mem_of_getElem? (i := 67) rfl)
theorem w68 {a0 : Array Value} {Z : State} (hw : ∀ d ∈ tables_1, d.before a0 Z = true) : ((Jvm.Cond.selects "java/lang/String" ({ cls := "java/lang/String", name := "equals", desc := "(Ljava/lang/Object;)Z" } : Jvm.MethodName) ({ cls := "java/lang/String", name := "equals", desc := "(Ljava/lang/Object;)Z" } : Jvm.MethodName)) : Jvm.Cond).before a0 Z = true := hw _ (List.mem_of_getElem? (i := 68) rfl)
theorem w70 {a0 : Array Value} {Z : State} (hw : ∀ d ∈ tables_1, d.before a0 Z = true) : ((Jvm.Cond.classLink "java/lang/String" (10 : Nat) "java/lang/String") : Jvm.Cond).before a0 Z = true := hw _ (List.mem_of_getElem? (i := 70) rfl)
theorem w71 {a0 : Array Value} {Z : State} (hw : ∀ d ∈ tables_1, d.before a0 Z = true) : ((Jvm.Cond.fieldLink "java/lang/String" (38 : Nat) "java/lang/String" "COMPACT_STRINGS" "Z") : Jvm.Cond).before a0 Z = true := hw _ (List.mem_of_getElem? (i := 71) rfl)
theorem w74 {a0 : Array Value} {Z : State} (hw : ∀ d ∈ tables_1, d.before a0 Z = true) : ((Jvm.Cond.initialized "java/lang/StringLatin1") : Jvm.Cond).before a0 Z = true := hw _ (List.mem_of_getElem? (i := 74) rfl)
theorem w86 {a0 : Array Value} {Z : State} (hw : ∀ d ∈ tables_1, d.before a0 Z = true) : ((Jvm.Cond.fieldLink "com/example/carve/carve/model/TokenIsPinLaw" (13 : Nat) "com/example/carve/carve/model/Token$Kind" "SYMBOL" "Lcom/example/carve/carve/model/Token$Kind;") : Jvm.Cond).before a0 Z = true := hw _ (List.mem_of_getElem? (i := 86) rfl)
theorem w87 {a0 : Array Value} {Z : State} (hw : ∀ d ∈ tables_1, d.before a0 Z = true) : ((Jvm.Cond.laysStatic "com/example/carve/carve/model/Token$Kind" "SYMBOL" "Lcom/example/carve/carve/model/Token$Kind;") : Jvm.Cond).before a0 Z = true := hw _ (List.mem_of_getElem? (i := 87) rfl)
theorem w88 {a0 : Array Value} {Z : State} (hw : ∀ d ∈ tables_1, d.before a0 Z = true) : ((Jvm.Cond.fieldLink "com/example/carve/carve/model/Token" (26 : Nat) "com/example/carve/carve/model/Token$Kind" "SYMBOL" "Lcom/example/carve/carve/model/Token$Kind;") : Jvm.Cond).before a0 Z = true := hw _ (List.mem_of_getElem? (i := 88) rfl)
theorem w89 {a0 : Array Value} {Z : State} (hw : ∀ d ∈ tables_1, d.before a0 Z = true) : ((Jvm.Cond.methodLink "com/example/carve/carve/model/TokenIsPinLaw" (48 : Nat) ({ cls := "java/lang/String", name := "valueOf", desc := "(C)Ljava/lang/String;" } : Jvm.MethodName)) : Jvm.Cond).before a0 Z = true := hw _ (List.mem_of_getElem? (i := 89) rfl)
theorem w90 {a0 : Array Value} {Z : State} (hw : ∀ d ∈ tables_1, d.before a0 Z = true) : ((Jvm.Cond.static ({ cls := "java/lang/String", name := "valueOf", desc := "(C)Ljava/lang/String;" } : Jvm.MethodName)) : Jvm.Cond).before a0 Z = true := hw _ (List.mem_of_getElem? (i := 90) rfl)
theorem w91 {a0 : Array Value} {Z : State} (hw : ∀ d ∈ tables_1, d.before a0 Z = true) : ((Jvm.Cond.code ({ cls := "java/lang/String", name := "valueOf", desc := "(C)Ljava/lang/String;" } : Jvm.MethodName) jdk_42_method_139_code (1 : Nat) (Option.some (Jvm.ClassFile.FieldType.object "java/lang/String"))) : Jvm.Cond).before a0 Z = true := hw _ (List.mem_of_getElem? (i := 91) rfl)
theorem w92 {a0 : Array Value} {Z : State} (hw : ∀ d ∈ tables_1, d.before a0 Z = true) : ((Jvm.Cond.methodLink "java/lang/String" (1015 : Nat) ({ cls := "java/lang/StringLatin1", name := "canEncode", desc := "(C)Z" } : Jvm.MethodName)) : Jvm.Cond).before a0 Z = true := hw _ (List.mem_of_getElem? (i := 92) rfl)
theorem w93 {a0 : Array Value} {Z : State} (hw : ∀ d ∈ tables_1, d.before a0 Z = true) : ((Jvm.Cond.static ({ cls := "java/lang/StringLatin1", name := "canEncode", desc := "(C)Z" } : Jvm.MethodName)) : Jvm.Cond).before a0 Z = true := hw _ (List.mem_of_getElem? (i := 93) rfl)
theorem w94 {a0 : Array Value} {Z : State} (hw : ∀ d ∈ tables_1, d.before a0 Z = true) : ((Jvm.Cond.code ({ cls := "java/lang/StringLatin1", name := "canEncode", desc := "(C)Z" } : Jvm.MethodName) jdk_43_method_3_code (1 : Nat) (Option.some Jvm.ClassFile.FieldType.boolean)) : Jvm.Cond).before a0 Z = true := hw _ (List.mem_of_getElem? (i := 94) rfl)
theorem w95 {a0 : Array Value} {Z : State} (hw : ∀ d ∈ tables_1, d.before a0 Z = true) : ((Jvm.Cond.methodLink "java/lang/String" (1018 : Nat) ({ cls := "java/lang/StringLatin1", name := "toBytes", desc := "(C)[B" } : Jvm.MethodName)) : Jvm.Cond).before a0 Z = true := hw _ (List.mem_of_getElem? (i := 95) rfl)
theorem w96 {a0 : Array Value} {Z : State} (hw : ∀ d ∈ tables_1, d.before a0 Z = true) : ((Jvm.Cond.static ({ cls := "java/lang/StringLatin1", name := "toBytes", desc := "(C)[B" } : Jvm.MethodName)) : Jvm.Cond).before a0 Z = true := hw _ (List.mem_of_getElem? (i := 96) rfl)
theorem w97 {a0 : Array Value} {Z : State} (hw : ∀ d ∈ tables_1, d.before a0 Z = true) : ((Jvm.Cond.code ({ cls := "java/lang/StringLatin1", name := "toBytes", desc := "(C)[B" } : Jvm.MethodName) jdk_43_method_46_code (1 : Nat) (Option.some (Jvm.ClassFile.FieldType.array Jvm.ClassFile.FieldType.byte))) : Jvm.Cond).before a0 Z = true := hw _ (List.mem_of_getElem? (i := 97) rfl)
theorem w98 {a0 : Array Value} {Z : State} (hw : ∀ d ∈ tables_1, d.before a0 Z = true) : ((Jvm.Cond.methodLink "java/lang/String" (209 : Nat) ({ cls := "java/lang/String", name := "<init>", desc := "([BB)V" } : Jvm.MethodName)) : Jvm.Cond).before a0 Z = true := hw _ (List.mem_of_getElem? (i := 98) rfl)
theorem w99 {a0 : Array Value} {Z : State} (hw : ∀ d ∈ tables_1, d.before a0 Z = true) : ((Jvm.Cond.instanceMethod ({ cls := "java/lang/String", name := "<init>", desc := "([BB)V" } : Jvm.MethodName)) : Jvm.Cond).before a0 Z = true := hw _ (List.mem_of_getElem? (i := 99) rfl)
theorem w100 {a0 : Array Value} {Z : State} (hw : ∀ d ∈ tables_1, d.before a0 Z = true) : ((Jvm.Cond.code ({ cls := "java/lang/String", name := "<init>", desc := "([BB)V" } : Jvm.MethodName) jdk_42_method_151_code (3 : Nat) (Option.none : Option Jvm.ClassFile.FieldType)) : Jvm.Cond).before a0 Z = true := hw _ (List.mem_of_getElem? (i := 100) rfl)
theorem w101 {a0 : Array Value} {Z : State} (hw : ∀ d ∈ tables_1, d.before a0 Z = true) : ((Jvm.Cond.fieldLink "com/example/carve/carve/model/TokenIsPinLaw" (19 : Nat) "com/example/carve/carve/model/Token$Kind" "END" "Lcom/example/carve/carve/model/Token$Kind;") : Jvm.Cond).before a0 Z = true := hw _ (List.mem_of_getElem? (i := 101) rfl)
theorem w102 {a0 : Array Value} {Z : State} (hw : ∀ d ∈ tables_1, d.before a0 Z = true) : ((Jvm.Cond.laysStatic "com/example/carve/carve/model/Token$Kind" "END" "Lcom/example/carve/carve/model/Token$Kind;") : Jvm.Cond).before a0 Z = true := hw _ (List.mem_of_getElem? (i := 102) rfl)
theorem w103 {a0 : Array Value} {Z : State} (hw : ∀ d ∈ tables_1, d.before a0 Z = true) : ((Jvm.Cond.fieldLink "com/example/carve/carve/model/TokenIsPinLaw" (16 : Nat) "com/example/carve/carve/model/Token$Kind" "INVALID" "Lcom/example/carve/carve/model/Token$Kind;") : Jvm.Cond).before a0 Z = true := hw _ (List.mem_of_getElem? (i := 103) rfl)
theorem w104 {a0 : Array Value} {Z : State} (hw : ∀ d ∈ tables_1, d.before a0 Z = true) : ((Jvm.Cond.laysStatic "com/example/carve/carve/model/Token$Kind" "INVALID" "Lcom/example/carve/carve/model/Token$Kind;") : Jvm.Cond).before a0 Z = true := hw _ (List.mem_of_getElem? (i := 104) rfl)
theorem d0_0 : decode method_3_code 0 = .ok (.iload_n 0, 1) := by decide +kernel
theorem d0_1 : decode method_3_code 1 = .ok (.ifCond .ne 14, 3) := by decide +kernel
theorem d0_4 : decode method_3_code 4 = .ok (.new 43, 3) := by decide +kernel
theorem d0_7 : decode method_3_code 7 = .ok (.dup, 1) := by decide +kernel
theorem d0_8 : decode method_3_code 8 = .ok (.iconst 0, 1) := by decide +kernel
theorem d0_9 : decode method_3_code 9 = .ok (.newarray .char, 2) := by decide +kernel
theorem d0_11 : decode method_3_code 11 = .ok (.invokespecial 45, 3) := by decide +kernel
theorem d0_14 : decode method_3_code 14 = .ok (.areturn, 1) := by decide +kernel
theorem d0_15 : decode method_3_code 15 = .ok (.iload_n 0, 1) := by decide +kernel
theorem d0_16 : decode method_3_code 16 = .ok (.iconst 1, 1) := by decide +kernel
theorem d0_17 : decode method_3_code 17 = .ok (.if_icmp .ne 8, 3) := by decide +kernel
theorem d0_20 : decode method_3_code 20 = .ok (.iload_n 1, 1) := by decide +kernel
theorem d0_21 : decode method_3_code 21 = .ok (.invokestatic 48, 3) := by decide +kernel
theorem d0_24 : decode method_3_code 24 = .ok (.areturn, 1) := by decide +kernel
theorem d0_25 : decode method_3_code 25 = .ok (.iconst 2, 1) := by decide +kernel
theorem d0_26 : decode method_3_code 26 = .ok (.newarray .char, 2) := by decide +kernel
theorem d0_28 : decode method_3_code 28 = .ok (.dup, 1) := by decide +kernel
theorem d0_29 : decode method_3_code 29 = .ok (.iconst 0, 1) := by decide +kernel
theorem d0_30 : decode method_3_code 30 = .ok (.iload_n 1, 1) := by decide +kernel
theorem d0_31 : decode method_3_code 31 = .ok (.castore, 1) := by decide +kernel
theorem d0_32 : decode method_3_code 32 = .ok (.dup, 1) := by decide +kernel
theorem d0_33 : decode method_3_code 33 = .ok (.iconst 1, 1) := by decide +kernel
theorem d0_34 : decode method_3_code 34 = .ok (.iload_n 2, 1) := by decide +kernel
theorem d0_35 : decode method_3_code 35 = .ok (.castore, 1) := by decide +kernel
theorem d0_36 : decode method_3_code 36 = .ok (.astore_n 3, 1) := by decide +kernel
theorem d0_37 : decode method_3_code 37 = .ok (.new 43, 3) := by decide +kernel
theorem d0_40 : decode method_3_code 40 = .ok (.dup, 1) := by decide +kernel
theorem d0_41 : decode method_3_code 41 = .ok (.aload_n 3, 1) := by decide +kernel
theorem d0_42 : decode method_3_code 42 = .ok (.invokespecial 45, 3) := by decide +kernel
theorem d0_45 : decode method_3_code 45 = .ok (.areturn, 1) := by decide +kernel
theorem d1_0 : decode jdk_42_method_3_code 0 = .ok (.aload_n 0, 1) := by decide +kernel
theorem d1_1 : decode jdk_42_method_3_code 1 = .ok (.aload_n 1, 1) := by decide +kernel
theorem d1_2 : decode jdk_42_method_3_code 2 = .ok (.iconst 0, 1) := by decide +kernel
theorem d1_3 : decode jdk_42_method_3_code 3 = .ok (.aload_n 1, 1) := by decide +kernel
theorem d1_4 : decode jdk_42_method_3_code 4 = .ok (.arraylength, 1) := by decide +kernel
theorem d1_5 : decode jdk_42_method_3_code 5 = .ok (.aconst_null, 1) := by decide +kernel
theorem d1_6 : decode jdk_42_method_3_code 6 = .ok (.invokespecial 27, 3) := by decide +kernel
theorem d1_9 : decode jdk_42_method_3_code 9 = .ok (.return_, 1) := by decide +kernel
theorem d2_0 : decode jdk_42_method_149_code 0 = .ok (.aload_n 0, 1) := by decide +kernel
theorem d2_1 : decode jdk_42_method_149_code 1 = .ok (.invokespecial 1, 3) := by decide +kernel
theorem d2_4 : decode jdk_42_method_149_code 4 = .ok (.iload_n 3, 1) := by decide +kernel
theorem d2_5 : decode jdk_42_method_149_code 5 = .ok (.ifCond .ne 22, 3) := by decide +kernel
theorem d2_8 : decode jdk_42_method_149_code 8 = .ok (.aload_n 0, 1) := by decide +kernel
theorem d2_9 : decode jdk_42_method_149_code 9 = .ok (.ldc 7, 2) := by decide +kernel
theorem d2_11 : decode jdk_42_method_149_code 11 = .ok (.getfield 9, 3) := by decide +kernel
theorem d2_14 : decode jdk_42_method_149_code 14 = .ok (.putfield 9, 3) := by decide +kernel
theorem d2_17 : decode jdk_42_method_149_code 17 = .ok (.aload_n 0, 1) := by decide +kernel
theorem d2_18 : decode jdk_42_method_149_code 18 = .ok (.ldc 7, 2) := by decide +kernel
theorem d2_20 : decode jdk_42_method_149_code 20 = .ok (.getfield 15, 3) := by decide +kernel
theorem d2_23 : decode jdk_42_method_149_code 23 = .ok (.putfield 15, 3) := by decide +kernel
theorem d2_26 : decode jdk_42_method_149_code 26 = .ok (.return_, 1) := by decide +kernel
theorem d4_0 : decode prog_53_method_1_code 0 = .ok (.aload_n 0, 1) := by decide +kernel
theorem d4_1 : decode prog_53_method_1_code 1 = .ok (.invokespecial 1, 3) := by decide +kernel
theorem d4_4 : decode prog_53_method_1_code 4 = .ok (.aload_n 0, 1) := by decide +kernel
theorem d4_5 : decode prog_53_method_1_code 5 = .ok (.iload_n 1, 1) := by decide +kernel
theorem d4_6 : decode prog_53_method_1_code 6 = .ok (.putfield 7, 3) := by decide +kernel
theorem d4_9 : decode prog_53_method_1_code 9 = .ok (.aload_n 0, 1) := by decide +kernel
theorem d4_10 : decode prog_53_method_1_code 10 = .ok (.iload_n 2, 1) := by decide +kernel
theorem d4_11 : decode prog_53_method_1_code 11 = .ok (.putfield 13, 3) := by decide +kernel
theorem d4_14 : decode prog_53_method_1_code 14 = .ok (.return_, 1) := by decide +kernel
theorem d5_0 : decode jdk_30_method_1_code 0 = .ok (.aload_n 0, 1) := by decide +kernel
theorem d5_1 : decode jdk_30_method_1_code 1 = .ok (.invokespecial 1, 3) := by decide +kernel
theorem d5_4 : decode jdk_30_method_1_code 4 = .ok (.return_, 1) := by decide +kernel
theorem d6_0 : decode prog_63_method_1_code 0 = .ok (.aload_n 0, 1) := by decide +kernel
theorem d6_1 : decode prog_63_method_1_code 1 = .ok (.invokespecial 1, 3) := by decide +kernel
theorem d6_4 : decode prog_63_method_1_code 4 = .ok (.aload_n 0, 1) := by decide +kernel
theorem d6_5 : decode prog_63_method_1_code 5 = .ok (.aload_n 1, 1) := by decide +kernel
theorem d6_6 : decode prog_63_method_1_code 6 = .ok (.putfield 7, 3) := by decide +kernel
theorem d6_9 : decode prog_63_method_1_code 9 = .ok (.aload_n 0, 1) := by decide +kernel
theorem d6_10 : decode prog_63_method_1_code 10 = .ok (.aload_n 2, 1) := by decide +kernel
theorem d6_11 : decode prog_63_method_1_code 11 = .ok (.putfield 13, 3) := by decide +kernel
theorem d6_14 : decode prog_63_method_1_code 14 = .ok (.aload_n 0, 1) := by decide +kernel
theorem d6_15 : decode prog_63_method_1_code 15 = .ok (.aload_n 3, 1) := by decide +kernel
theorem d6_16 : decode prog_63_method_1_code 16 = .ok (.putfield 17, 3) := by decide +kernel
theorem d6_19 : decode prog_63_method_1_code 19 = .ok (.return_, 1) := by decide +kernel
theorem d7_0 : decode prog_63_method_2_code 0 = .ok (.aload_n 0, 1) := by decide +kernel
theorem d7_1 : decode prog_63_method_2_code 1 = .ok (.getfield 7, 3) := by decide +kernel
theorem d7_4 : decode prog_63_method_2_code 4 = .ok (.getstatic 21, 3) := by decide +kernel
theorem d7_7 : decode prog_63_method_2_code 7 = .ok (.if_acmp .eq 13, 3) := by decide +kernel
theorem d7_10 : decode prog_63_method_2_code 10 = .ok (.aload_n 0, 1) := by decide +kernel
theorem d7_11 : decode prog_63_method_2_code 11 = .ok (.getfield 7, 3) := by decide +kernel
theorem d7_14 : decode prog_63_method_2_code 14 = .ok (.getstatic 26, 3) := by decide +kernel
theorem d7_17 : decode prog_63_method_2_code 17 = .ok (.if_acmp .ne 18, 3) := by decide +kernel
theorem d7_20 : decode prog_63_method_2_code 20 = .ok (.aload_n 0, 1) := by decide +kernel
theorem d7_21 : decode prog_63_method_2_code 21 = .ok (.getfield 13, 3) := by decide +kernel
theorem d7_24 : decode prog_63_method_2_code 24 = .ok (.aload_n 1, 1) := by decide +kernel
theorem d7_25 : decode prog_63_method_2_code 25 = .ok (.invokevirtual 29, 3) := by decide +kernel
theorem d7_28 : decode prog_63_method_2_code 28 = .ok (.ifCond .eq 7, 3) := by decide +kernel
theorem d7_31 : decode prog_63_method_2_code 31 = .ok (.iconst 1, 1) := by decide +kernel
theorem d7_32 : decode prog_63_method_2_code 32 = .ok (.goto 4, 3) := by decide +kernel
theorem d7_35 : decode prog_63_method_2_code 35 = .ok (.iconst 0, 1) := by decide +kernel
theorem d7_36 : decode prog_63_method_2_code 36 = .ok (.ireturn, 1) := by decide +kernel
theorem d13_0 : decode jdk_42_method_139_code 0 = .ok (.getstatic 38, 3) := by decide +kernel
theorem d13_3 : decode jdk_42_method_139_code 3 = .ok (.ifCond .eq 23, 3) := by decide +kernel
theorem d13_6 : decode jdk_42_method_139_code 6 = .ok (.iload_n 0, 1) := by decide +kernel
theorem d13_7 : decode jdk_42_method_139_code 7 = .ok (.invokestatic 1015, 3) := by decide +kernel
theorem d13_10 : decode jdk_42_method_139_code 10 = .ok (.ifCond .eq 16, 3) := by decide +kernel
theorem d13_13 : decode jdk_42_method_139_code 13 = .ok (.new 10, 3) := by decide +kernel
theorem d13_16 : decode jdk_42_method_139_code 16 = .ok (.dup, 1) := by decide +kernel
theorem d13_17 : decode jdk_42_method_139_code 17 = .ok (.iload_n 0, 1) := by decide +kernel
theorem d13_18 : decode jdk_42_method_139_code 18 = .ok (.invokestatic 1018, 3) := by decide +kernel
theorem d13_21 : decode jdk_42_method_139_code 21 = .ok (.iconst 0, 1) := by decide +kernel
theorem d13_22 : decode jdk_42_method_139_code 22 = .ok (.invokespecial 209, 3) := by decide +kernel
theorem d13_25 : decode jdk_42_method_139_code 25 = .ok (.areturn, 1) := by decide +kernel
theorem d14_0 : decode jdk_43_method_3_code 0 = .ok (.iload_n 0, 1) := by decide +kernel
theorem d14_1 : decode jdk_43_method_3_code 1 = .ok (.sipush 255, 3) := by decide +kernel
theorem d14_4 : decode jdk_43_method_3_code 4 = .ok (.if_icmp .gt 7, 3) := by decide +kernel
theorem d14_7 : decode jdk_43_method_3_code 7 = .ok (.iconst 1, 1) := by decide +kernel
theorem d14_8 : decode jdk_43_method_3_code 8 = .ok (.goto 4, 3) := by decide +kernel
theorem d14_12 : decode jdk_43_method_3_code 12 = .ok (.ireturn, 1) := by decide +kernel
theorem d15_0 : decode jdk_43_method_46_code 0 = .ok (.iconst 1, 1) := by decide +kernel
theorem d15_1 : decode jdk_43_method_46_code 1 = .ok (.newarray .byte, 2) := by decide +kernel
theorem d15_3 : decode jdk_43_method_46_code 3 = .ok (.dup, 1) := by decide +kernel
theorem d15_4 : decode jdk_43_method_46_code 4 = .ok (.iconst 0, 1) := by decide +kernel
theorem d15_5 : decode jdk_43_method_46_code 5 = .ok (.iload_n 0, 1) := by decide +kernel
theorem d15_6 : decode jdk_43_method_46_code 6 = .ok (.i2b, 1) := by decide +kernel
theorem d15_7 : decode jdk_43_method_46_code 7 = .ok (.bastore, 1) := by decide +kernel
theorem d15_8 : decode jdk_43_method_46_code 8 = .ok (.areturn, 1) := by decide +kernel
theorem d16_0 : decode jdk_42_method_151_code 0 = .ok (.aload_n 0, 1) := by decide +kernel
theorem d16_1 : decode jdk_42_method_151_code 1 = .ok (.invokespecial 1, 3) := by decide +kernel
theorem d16_4 : decode jdk_42_method_151_code 4 = .ok (.aload_n 0, 1) := by decide +kernel
theorem d16_5 : decode jdk_42_method_151_code 5 = .ok (.aload_n 1, 1) := by decide +kernel
theorem d16_6 : decode jdk_42_method_151_code 6 = .ok (.putfield 9, 3) := by decide +kernel
theorem d16_9 : decode jdk_42_method_151_code 9 = .ok (.aload_n 0, 1) := by decide +kernel
theorem d16_10 : decode jdk_42_method_151_code 10 = .ok (.iload_n 2, 1) := by decide +kernel
theorem d16_11 : decode jdk_42_method_151_code 11 = .ok (.putfield 15, 3) := by decide +kernel
theorem d16_14 : decode jdk_42_method_151_code 14 = .ok (.return_, 1) := by decide +kernel
theorem pn0 : plainName "com/example/carve/carve/model/TokenIsPinLaw" = true := by first | (simp [plainName, overriddenIn]; done) | decide +kernel
theorem pn1 : plainName "java/lang/String" = true := by first | (simp [plainName, overriddenIn]; done) | decide +kernel
theorem pn2 : plainName "java/lang/String" = true := by first | (simp [plainName, overriddenIn]; done) | decide +kernel
theorem pn4 : plainName "com/example/carve/carve/model/Position" = true := by first | (simp [plainName, overriddenIn]; done) | decide +kernel
theorem pn5 : plainName "java/lang/Record" = true := by first | (simp [plainName, overriddenIn]; done) | decide +kernel
theorem pn6 : plainName "com/example/carve/carve/model/Token" = true := by first | (simp [plainName, overriddenIn]; done) | decide +kernel
theorem pn7 : plainName "com/example/carve/carve/model/Token" = true := by first | (simp [plainName, overriddenIn]; done) | decide +kernel
theorem pn13 : plainName "java/lang/String" = true := by first | (simp [plainName, overriddenIn]; done) | decide +kernel
theorem pn14 : plainName "java/lang/StringLatin1" = true := by first | (simp [plainName, overriddenIn]; done) | decide +kernel
theorem pn15 : plainName "java/lang/StringLatin1" = true := by first | (simp [plainName, overriddenIn]; done) | decide +kernel
theorem pn16 : plainName "java/lang/String" = true := by first | (simp [plainName, overriddenIn]; done) | decide +kernel
theorem pn17 : plainName "com/example/carve/carve/model/TokenIsPinLaw" = true := by first | (simp [plainName, overriddenIn]; done) | decide +kernel
theorem pd0 : parseMethodDescriptor "([CIILjava/lang/Void;)V" = some ⟨[(.array .char), .int, .int, (.object "java/lang/Void")], none⟩ := by decide +kernel
theorem pd1 : parseMethodDescriptor "(C)Z" = some ⟨[.char], some .boolean⟩ := by decide +kernel
theorem pd2 : parseMethodDescriptor "(C)[B" = some ⟨[.char], some (.array .byte)⟩ := by decide +kernel
theorem pd3 : parseMethodDescriptor "([BB)V" = some ⟨[(.array .byte), .byte], none⟩ := by decide +kernel
theorem pd4 : parseMethodDescriptor "([C)V" = some ⟨[(.array .char)], none⟩ := by decide +kernel
theorem pd5 : parseMethodDescriptor "(C)Ljava/lang/String;" = some ⟨[.char], some (.object "java/lang/String")⟩ := by decide +kernel
theorem pd6 : parseMethodDescriptor "()V" = some ⟨[], none⟩ := by decide +kernel
theorem pd7 : parseMethodDescriptor "(Ljava/lang/Object;)Z" = some ⟨[(.object "java/lang/Object")], some .boolean⟩ := by decide +kernel
theorem pd8 : parseMethodDescriptor "(ICC)Ljava/lang/String;" = some ⟨[.int, .char, .char], some (.object "java/lang/String")⟩ := by decide +kernel
theorem pd9 : parseMethodDescriptor "(II)V" = some ⟨[.int, .int], none⟩ := by decide +kernel
theorem pd10 : parseMethodDescriptor "(Lcom/example/carve/carve/model/Token$Kind;Ljava/lang/String;Lcom/example/carve/carve/model/Position;)V" = some ⟨[(.object "com/example/carve/carve/model/Token$Kind"), (.object "java/lang/String"), (.object "com/example/carve/carve/model/Position")], none⟩ := by decide +kernel
theorem pd11 : parseMethodDescriptor "(Ljava/lang/String;)Z" = some ⟨[(.object "java/lang/String")], some .boolean⟩ := by decide +kernel
abbrev RrmE4 : Room := { frames := 1, cells := 4, slots := 10, locals := 12 }
def QrmE4 (Z : State) (kW : Addr) (kS : Addr) (x : Addr) (b : Addr) (h0 : Heap) (v : Option Value) (h : Heap) : Prop := ∃ (t : Addr) (kb : ClassId), v = none ∧ Keep h0 h [x] ∧ Str Z h x t kb []
set_option maxRecDepth 65536 in
set_option maxHeartbeats 40000000 in
theorem rmE4 (l : Launch) (Z : State) (a0 : Array Value) (hw : ∀ d ∈ tables_1, d.before a0 Z = true) (hEL : EW Z a0 consts_1) (zc : Int32) (O2 : Sta Z Z.heap "java/lang/String" "COMPACT_STRINGS" "Z" (.int zc)) (P5 : ¬ zc = 0) (kW kS kI kE : Addr) (OW : Sta Z Z.heap "com/example/carve/carve/model/Token$Kind" "WORD" "Lcom/example/carve/carve/model/Token$Kind;" (.ref kW)) (OS : Sta Z Z.heap "com/example/carve/carve/model/Token$Kind" "SYMBOL" "Lcom/example/carve/carve/model/Token$Kind;" (.ref kS)) (OI : Sta Z Z.heap "com/example/carve/carve/model/Token$Kind" "INVALID" "Lcom/example/carve/carve/model/Token$Kind;" (.ref kI)) (OE : Sta Z Z.heap "com/example/carve/carve/model/Token$Kind" "END" "Lcom/example/carve/carve/model/Token$Kind;" (.ref kE)) (dk : kI ≠ kW ∧ kI ≠ kS ∧ kE ≠ kW ∧ kE ≠ kS) (x : Addr) (b : Addr) (h0 : Heap) (O0 : Old Z Z.heap.size h0) (P0 : Exa Z h0 x "java/lang/String") (P1 : Fld Z h0 x "java/lang/String" "coder" "B" (.int (0 : Int32))) (P2 : Fld Z h0 x "java/lang/String" "value" "[B" .null) (P3 : Z.heap.size ≤ x) : Met l Z consts_1 (⟨"java/lang/String", "<init>", "([CIILjava/lang/Void;)V"⟩ : MethodName) jdk_42_method_149_code 6 (none) [] RrmE4 [x] #[(.ref x), (.ref b), (.int (0 : Int32)), (.int (0 : Int32)), .null] h0 (QrmE4 Z kW kS x b h0) := by
  refine Met.start (a0 := a0) (Ls := #[.val (.ref x), .val (.ref b), .val (.int (0 : Int32)), .val (.int (0 : Int32)), .val .null, .unset]) pn2 hEL O0 (fun m => by first | (simp [entryFrame, mkF, argsToLocals, Value.category]; done) | rfl) ?_
  intro p e s m below meth cc T0 vm0 X0 sf0_ hby hml hret hnm
  have hx := X0.hx
  have zz := X0.ge
  have A0 := X0.at
  have l1 := ltA P0.lt
  have l2 := ltA P1.lt
  have l3 := ltA P2.lt
  have s4 := sf0_ x (List.mem_of_getElem? (i := 0) rfl)
  show Gets p e below _ (T0.setTop (mkF m 0 #[.val (.ref x), .val (.ref b), .val (.int (0 : Int32)), .val (.int (0 : Int32)), .val .null, .unset] []))
  refine Gets.via (fun _ k => (XS.aloadN A0 hx rfl (hb hby d2_0) rfl rfl k)) ?_
  show Gets p e below _ (T0.setTop (mkF m 1 #[.val (.ref x), .val (.ref b), .val (.int (0 : Int32)), .val (.int (0 : Int32)), .val .null, .unset] [(.ref x)]))
  refine X0.objInit (w19 hw) (w20 hw) (w21 hw) rfl (by rw [hml]; rfl) rfl (hb hby d2_1) (by decide) (W := 0) (by show 2 * 0 + _ ≤ _; exact Nat.le_of_eq rfl) (by decide) fun T5 X5 => ?_
  have A6 := X5.at
  show Gets p e below _ (T5.setTop (mkF m 4 #[.val (.ref x), .val (.ref b), .val (.int (0 : Int32)), .val (.int (0 : Int32)), .val .null, .unset] []))
  refine Gets.via (fun _ k => (XS.iloadN A6 hx rfl (hb hby d2_4) rfl (XS.ifNo A6 hx rfl (hb hby d2_5) rfl (Jvm.Free.XT.i0_ne_f (by decide)) k))) ?_
  show Gets p e below _ (T5.setTop (mkF m 8 #[.val (.ref x), .val (.ref b), .val (.int (0 : Int32)), .val (.int (0 : Int32)), .val .null, .unset] []))
  refine Gets.via (fun _ k => (XS.aloadN A6 hx rfl (hb hby d2_8) rfl rfl k)) ?_
  show Gets p e below _ (T5.setTop (mkF m 9 #[.val (.ref x), .val (.ref b), .val (.int (0 : Int32)), .val (.int (0 : Int32)), .val .null, .unset] [(.ref x)]))
  refine X5.ldcC (w22 hw) (wSt hw) (by decide) (vs := []) (z := (0 : Int32)) ⟨by decide, by decide⟩ (by decide) (by decide) rfl (hb hby d2_9) (n := 1) (by decide) (by decide) (by decide) (by decide) fun T7 h7 vm7 a7 b7 k7 X7 C7 E7 Z7 Fc7 Fv7 V7 q7 => ?_
  have z7 := E7.1
  have l7 := ltA Z7.lt
  have lb7 := ltA V7.lt
  have A8 := X7.at
  have f9 := C7.safe (x := x) (ltA (by omega)) s4
  have ne10 := neA (q7 x f9).1
  have nf10 := neA (q7 x f9).2
  show Gets p e below _ (T7.setTop (mkF m 11 #[.val (.ref x), .val (.ref b), .val (.int (0 : Int32)), .val (.int (0 : Int32)), .val .null, .unset] [(.ref a7), (.ref x)]))
  refine X7.getF (host := "") (Or.inl (w28 hw)) Via.refl Fv7 rfl rfl (hb hby d2_11) fun T11 X11 => ?_
  have A12 := X11.at
  show Gets p e below _ (T11.setTop (mkF m 14 #[.val (.ref x), .val (.ref b), .val (.int (0 : Int32)), .val (.int (0 : Int32)), .val .null, .unset] [(.ref b7), (.ref x)]))
  have f14 : Fld Z h7 x "java/lang/String" "value" "[B" .null := P2.ext E7
  have f15 : Exa Z h7 x "java/lang/String" := P0.ext E7
  refine X11.putF (host := "") (Or.inl (w28 hw)) Via.refl f14 f15 (Or.inr ⟨(w24 hw), rfl, hnm⟩) (w9 hw) (ty := (.array .byte)) (by decide) rfl rfl (leA (by omega)) f9 rfl rfl (hb hby d2_14) fun T13 h13 X13 C13 W13 F13 Z13 => ?_
  have z13 := W13.size
  have A16 := X13.at
  show Gets p e below _ (T13.setTop (mkF m 17 #[.val (.ref x), .val (.ref b), .val (.int (0 : Int32)), .val (.int (0 : Int32)), .val .null, .unset] []))
  refine Gets.via (fun _ k => (XS.aloadN A16 hx rfl (hb hby d2_17) rfl rfl k)) ?_
  show Gets p e below _ (T13.setTop (mkF m 18 #[.val (.ref x), .val (.ref b), .val (.int (0 : Int32)), .val (.int (0 : Int32)), .val .null, .unset] [(.ref x)]))
  refine X13.ldcC (w22 hw) (wSt hw) (by decide) (vs := []) (z := (0 : Int32)) ⟨by decide, by decide⟩ (by decide) (by decide) rfl (hb hby d2_18) (n := 1) (by decide) (by decide) (by decide) (by decide) fun T17 h17 vm17 a17 b17 k17 X17 C17 E17 Z17 Fc17 Fv17 V17 q17 => ?_
  have z17 := E17.1
  have l17 := ltA Z17.lt
  have lb17 := ltA V17.lt
  have A18 := X17.at
  have f19 := C13.safe (x := x) (ltA (by omega)) f9
  have f20 := C17.safe (x := x) (ltA (by omega)) f19
  have ne21 := neA (q17 x f20).1
  have nf21 := neA (q17 x f20).2
  show Gets p e below _ (T17.setTop (mkF m 20 #[.val (.ref x), .val (.ref b), .val (.int (0 : Int32)), .val (.int (0 : Int32)), .val .null, .unset] [(.ref a17), (.ref x)]))
  refine X17.getF (host := "") (Or.inl (w29 hw)) Via.refl Fc17 rfl rfl (hb hby d2_20) fun T22 X22 => ?_
  have A23 := X22.at
  show Gets p e below _ (T22.setTop (mkF m 23 #[.val (.ref x), .val (.ref b), .val (.int (0 : Int32)), .val (.int (0 : Int32)), .val .null, .unset] [(.int (0 : Int32)), (.ref x)]))
  have f25 : Fld Z h7 x "java/lang/String" "coder" "B" (.int (0 : Int32)) := P1.ext E7
  have f26 : Fld Z h13 x "java/lang/String" "coder" "B" (.int (0 : Int32)) := f25.other W13 (Or.inr (slot_ne (t := .byte) (t' := (.array .byte)) (Or.inr (w25 hw)) (Or.inr (w24 hw)) (by decide) (by decide) (by decide)))
  have f27 : Fld Z h17 x "java/lang/String" "coder" "B" (.int (0 : Int32)) := f26.ext E17
  have f28 : Exa Z h17 x "java/lang/String" := Z13.ext E17
  refine X22.putF (host := "") (Or.inl (w29 hw)) Via.refl f27 f28 (Or.inr ⟨(w25 hw), rfl, hnm⟩) (w9 hw) (ty := .byte) (by decide) (by decide) (by decide) (leA (by omega)) f20 rfl rfl (hb hby d2_23) fun T24 h24 X24 C24 W24 F24 Z24 => ?_
  have z24 := W24.size
  have A29 := X24.at
  show Gets p e below _ (T24.setTop (mkF m 26 #[.val (.ref x), .val (.ref b), .val (.int (0 : Int32)), .val (.int (0 : Int32)), .val .null, .unset] []))
  have f30 : Fld Z h17 x "java/lang/String" "value" "[B" (.ref b7) := F13.ext E17
  have f31 : Fld Z h24 x "java/lang/String" "value" "[B" (.ref b7) := f30.other W24 (Or.inr (slot_ne (t := (.array .byte)) (t' := .byte) (Or.inr (w24 hw)) (Or.inr (w25 hw)) (by decide) (by decide) (by decide)))
  have f32 : Arv Z h13 b7 k7 .byte (0 : Int32) [] (.int (0 : Int32)) := V7.other W13 (neA (by omega))
  have f33 : Arv Z h17 b7 k7 .byte (0 : Int32) [] (.int (0 : Int32)) := f32.ext E17
  have f34 : Arv Z h24 b7 k7 .byte (0 : Int32) [] (.int (0 : Int32)) := f33.other W24 (neA (by omega))
  have f35 : Str Z h24 x b7 k7 [] := ⟨Z24, F24, f31, f34, allN, Nat.le_of_ble_eq_true rfl⟩
  exact X24.retV hret (hb hby d2_26) (by decide) (by decide) ⟨b7, k7, rfl, (((((Keep.refl h0 [x]).ext E7).wr W13 (Or.inl (List.mem_of_getElem? (i := 0) rfl))).ext E17).wr W24 (Or.inl (List.mem_of_getElem? (i := 0) rfl))), f35⟩
abbrev RrmE1 : Room := { frames := 2, cells := 4, slots := 10, locals := 29 }
def QrmE1 (Z : State) (kW : Addr) (kS : Addr) (x : Addr) (b : Addr) (kc : ClassId) (h0 : Heap) (v : Option Value) (h : Heap) : Prop := ∃ (t : Addr) (kb : ClassId), v = none ∧ Keep h0 h [x] ∧ Str Z h x t kb []
set_option maxRecDepth 65536 in
set_option maxHeartbeats 40000000 in
theorem rmE1 (l : Launch) (Z : State) (a0 : Array Value) (hw : ∀ d ∈ tables_1, d.before a0 Z = true) (hEL : EW Z a0 consts_1) (zc : Int32) (O2 : Sta Z Z.heap "java/lang/String" "COMPACT_STRINGS" "Z" (.int zc)) (P5 : ¬ zc = 0) (kW kS kI kE : Addr) (OW : Sta Z Z.heap "com/example/carve/carve/model/Token$Kind" "WORD" "Lcom/example/carve/carve/model/Token$Kind;" (.ref kW)) (OS : Sta Z Z.heap "com/example/carve/carve/model/Token$Kind" "SYMBOL" "Lcom/example/carve/carve/model/Token$Kind;" (.ref kS)) (OI : Sta Z Z.heap "com/example/carve/carve/model/Token$Kind" "INVALID" "Lcom/example/carve/carve/model/Token$Kind;" (.ref kI)) (OE : Sta Z Z.heap "com/example/carve/carve/model/Token$Kind" "END" "Lcom/example/carve/carve/model/Token$Kind;" (.ref kE)) (dk : kI ≠ kW ∧ kI ≠ kS ∧ kE ≠ kW ∧ kE ≠ kS) (x : Addr) (b : Addr) (kc : ClassId) (h0 : Heap) (O0 : Old Z Z.heap.size h0) (P0 : Exa Z h0 x "java/lang/String") (P1 : Fld Z h0 x "java/lang/String" "coder" "B" (.int (0 : Int32))) (P2 : Fld Z h0 x "java/lang/String" "value" "[B" .null) (P3 : Z.heap.size ≤ x) (P4 : Arv Z h0 b kc .char (0 : Int32) [] (.int (0 : Int32))) : Met l Z consts_1 (⟨"java/lang/String", "<init>", "([C)V"⟩ : MethodName) jdk_42_method_3_code 2 (none) [] RrmE1 [x] #[(.ref x), (.ref b)] h0 (QrmE1 Z kW kS x b kc h0) := by
  refine Met.start (a0 := a0) (Ls := #[.val (.ref x), .val (.ref b)]) pn1 hEL O0 (fun m => by first | (simp [entryFrame, mkF, argsToLocals, Value.category]; done) | rfl) ?_
  intro p e s m below meth cc T0 vm0 X0 sf0_ hby hml hret hnm
  have hx := X0.hx
  have zz := X0.ge
  have A0 := X0.at
  have l1 := ltA P0.lt
  have l2 := ltA P1.lt
  have l3 := ltA P2.lt
  have l4 := ltA P4.lt
  have s5 := sf0_ x (List.mem_of_getElem? (i := 0) rfl)
  show Gets p e below _ (T0.setTop (mkF m 0 #[.val (.ref x), .val (.ref b)] []))
  refine Gets.via (fun _ k => (XS.aloadN A0 hx rfl (hb hby d1_0) rfl rfl (XS.aloadN A0 hx rfl (hb hby d1_1) rfl rfl (XS.iconst A0 hx rfl (hb hby d1_2) (XS.aloadN A0 hx rfl (hb hby d1_3) rfl rfl k))))) ?_
  show Gets p e below _ (T0.setTop (mkF m 4 #[.val (.ref x), .val (.ref b)] [(.ref b), (.int (0 : Int32)), (.ref b), (.ref x)]))
  refine X0.alen P4 rfl rfl (hb hby d1_4) ?_
  show Gets p e below _ (T0.setTop (mkF m 5 #[.val (.ref x), .val (.ref b)] [(.int (0 : Int32)), (.int (0 : Int32)), (.ref b), (.ref x)]))
  refine Gets.via (fun _ k => (XS.aconstNull A0 hx rfl (hb hby d1_5) k)) ?_
  show Gets p e below _ (T0.setTop (mkF m 6 #[.val (.ref x), .val (.ref b)] [.null, (.int (0 : Int32)), (.int (0 : Int32)), (.ref b), (.ref x)]))
  refine X0.callI (y := (⟨"java/lang/String", "<init>", "([CIILjava/lang/Void;)V"⟩ : MethodName)) (W := 0) rfl (w15 hw) (w16 hw) (w18 hw) (by decide) (X0.payM (sf := [x]) (rmE4 l Z a0 hw hEL zc O2 P5 kW kS kI kE OW OS OI OE dk x b h0 X0.old P0 P1 P2 P3) (sfS s5 sf0) (w18 hw) (w10 hw) (by decide) (by decide)) rfl (by rw [hml]; rfl) (a := x) (argsL := [(.ref b), (.int (0 : Int32)), (.int (0 : Int32)), .null]) (rest := []) (lenOf pd0 rfl) rfl rfl (by show 2 * 0 + _ ≤ _; exact Nat.le_of_eq rfl) (hb hby d1_6) (by decide) (by decide) fun T6 h6 vm6 v6 X6 C6 z6 q6 => ?_
  obtain ⟨t6, kb6, rfl, K6, g6_0⟩ := q6
  have l7 := ltA g6_0.lt
  have l8 := ltA g6_0.lb
  have A9 := X6.at
  show Gets p e below _ (T6.setTop (mkF m 9 #[.val (.ref x), .val (.ref b)] []))
  exact X6.retV hret (hb hby d1_9) (by decide) (by decide) ⟨t6, kb6, rfl, ((Keep.refl h0 [x]).trans K6 (allS (Or.inl (List.mem_of_getElem? (i := 0) rfl)) all0)), g6_0⟩
abbrev Rrm14 : Room := { frames := 0, cells := 0, slots := 0, locals := 0 }
def Qrm14 (Z : State) (kW : Addr) (kS : Addr) (c : Int32) (h0 : Heap) (v : Option Value) (h : Heap) : Prop := v = some (.int (1 : Int32)) ∧ h = h0
set_option maxRecDepth 65536 in
set_option maxHeartbeats 40000000 in
theorem rm14 (l : Launch) (Z : State) (a0 : Array Value) (hw : ∀ d ∈ tables_1, d.before a0 Z = true) (hEL : EW Z a0 consts_1) (zc : Int32) (O2 : Sta Z Z.heap "java/lang/String" "COMPACT_STRINGS" "Z" (.int zc)) (P5 : ¬ zc = 0) (kW kS kI kE : Addr) (OW : Sta Z Z.heap "com/example/carve/carve/model/Token$Kind" "WORD" "Lcom/example/carve/carve/model/Token$Kind;" (.ref kW)) (OS : Sta Z Z.heap "com/example/carve/carve/model/Token$Kind" "SYMBOL" "Lcom/example/carve/carve/model/Token$Kind;" (.ref kS)) (OI : Sta Z Z.heap "com/example/carve/carve/model/Token$Kind" "INVALID" "Lcom/example/carve/carve/model/Token$Kind;" (.ref kI)) (OE : Sta Z Z.heap "com/example/carve/carve/model/Token$Kind" "END" "Lcom/example/carve/carve/model/Token$Kind;" (.ref kE)) (dk : kI ≠ kW ∧ kI ≠ kS ∧ kE ≠ kW ∧ kE ≠ kS) (c : Int32) (h0 : Heap) (O0 : Old Z Z.heap.size h0) (P0 : ¬ c < 0 ∧ ¬ (255 : Int32) < c) : Met l Z consts_1 (⟨"java/lang/StringLatin1", "canEncode", "(C)Z"⟩ : MethodName) jdk_43_method_3_code 1 (some .boolean) [] Rrm14 [] #[(.int c)] h0 (Qrm14 Z kW kS c h0) := by
  refine Met.start (a0 := a0) (Ls := #[.val (.int c)]) pn14 hEL O0 (fun m => by first | (simp [entryFrame, mkF, argsToLocals, Value.category]; done) | rfl) ?_
  intro p e s m below meth cc T0 vm0 X0 sf0_ hby hml hret hnm
  have hx := X0.hx
  have zz := X0.ge
  have A0 := X0.at
  show Gets p e below _ (T0.setTop (mkF m 0 #[.val (.int c)] []))
  refine Gets.via (fun _ k => (XS.iloadN A0 hx rfl (hb hby d14_0) rfl (XS.sipush A0 hx rfl (hb hby d14_1) (XS.icmpNo A0 hx rfl (hb hby d14_4) rfl (Jvm.Free.XT.ii_gt_f P0.2) k)))) ?_
  show Gets p e below _ (T0.setTop (mkF m 7 #[.val (.int c)] []))
  refine Gets.via (fun _ k => (XS.iconst A0 hx rfl (hb hby d14_7) (XS.goto A0 hx rfl (pc0 := 8) (pc' := 12) rfl (hb hby d14_8) (by decide) (by decide) k))) ?_
  show Gets p e below _ (T0.setTop (mkF m 12 #[.val (.int c)] [(.int (1 : Int32))]))
  exact X0.retI hret (by decide) (by simp) (hb hby d14_12) (by decide) (by decide) ⟨rfl, rfl⟩
abbrev Rrm15 : Room := { frames := 0, cells := 1, slots := 1, locals := 0 }
def Qrm15 (Z : State) (kW : Addr) (kS : Addr) (c : Int32) (h0 : Heap) (v : Option Value) (h : Heap) : Prop := ∃ (t : Addr) (kb : ClassId), v = some (.ref t) ∧ Keep h0 h [] ∧ Arv Z h t kb .byte (1 : Int32) [(.int (c.toInt8.toInt32))] (.int (0 : Int32)) ∧ h0.size ≤ t
set_option maxRecDepth 65536 in
set_option maxHeartbeats 40000000 in
theorem rm15 (l : Launch) (Z : State) (a0 : Array Value) (hw : ∀ d ∈ tables_1, d.before a0 Z = true) (hEL : EW Z a0 consts_1) (zc : Int32) (O2 : Sta Z Z.heap "java/lang/String" "COMPACT_STRINGS" "Z" (.int zc)) (P5 : ¬ zc = 0) (kW kS kI kE : Addr) (OW : Sta Z Z.heap "com/example/carve/carve/model/Token$Kind" "WORD" "Lcom/example/carve/carve/model/Token$Kind;" (.ref kW)) (OS : Sta Z Z.heap "com/example/carve/carve/model/Token$Kind" "SYMBOL" "Lcom/example/carve/carve/model/Token$Kind;" (.ref kS)) (OI : Sta Z Z.heap "com/example/carve/carve/model/Token$Kind" "INVALID" "Lcom/example/carve/carve/model/Token$Kind;" (.ref kI)) (OE : Sta Z Z.heap "com/example/carve/carve/model/Token$Kind" "END" "Lcom/example/carve/carve/model/Token$Kind;" (.ref kE)) (dk : kI ≠ kW ∧ kI ≠ kS ∧ kE ≠ kW ∧ kE ≠ kS) (c : Int32) (h0 : Heap) (O0 : Old Z Z.heap.size h0)  : Met l Z consts_1 (⟨"java/lang/StringLatin1", "toBytes", "(C)[B"⟩ : MethodName) jdk_43_method_46_code 1 (some (.array .byte)) [] Rrm15 [] #[(.int c)] h0 (Qrm15 Z kW kS c h0) := by
  refine Met.start (a0 := a0) (Ls := #[.val (.int c)]) pn15 hEL O0 (fun m => by first | (simp [entryFrame, mkF, argsToLocals, Value.category]; done) | rfl) ?_
  intro p e s m below meth cc T0 vm0 X0 sf0_ hby hml hret hnm
  have hx := X0.hx
  have zz := X0.ge
  have A0 := X0.at
  show Gets p e below _ (T0.setTop (mkF m 0 #[.val (.int c)] []))
  refine Gets.via (fun _ k => (XS.iconst A0 hx rfl (hb hby d15_0) k)) ?_
  show Gets p e below _ (T0.setTop (mkF m 1 #[.val (.int c)] [(.int (1 : Int32))]))
  refine X0.newA (aty := .byte) (w23 hw) rfl (hb hby d15_1) rfl (by decide) (cap := 1) (by decide) (by decide) (by decide) (by decide) fun T1 h1 a1 k1 X1 C1 E1 g1 S1 V1 => ?_
  have z1 := E1.1
  have l1 := ltA V1.lt
  have V1_ : Arv Z h1 a1 k1 .byte (1 : Int32) [(.int (0 : Int32))] (.int (0 : Int32)) := padN V1 1
  have A2 := X1.at
  show Gets p e below _ (T1.setTop (mkF m 3 #[.val (.int c)] [(.ref a1)]))
  refine Gets.via (fun _ k => (XS.dup A2 hx rfl (hb hby d15_3) rfl rfl (XS.iconst A2 hx rfl (hb hby d15_4) (XS.iloadN A2 hx rfl (hb hby d15_5) rfl (XS.i2b A2 hx rfl (hb hby d15_6) rfl k))))) ?_
  show Gets p e below _ (T1.setTop (mkF m 7 #[.val (.int c)] [(.int (c.toInt8.toInt32)), (.int (0 : Int32)), (.ref a1), (.ref a1)]))
  refine X1.stB V1_ (i := 0) (by decide) (by decide) (Nat.le_of_ble_eq_true rfl) (by decide) (v := (c.toInt8.toInt32)) (nar_b _) S1 (leA (by omega)) rfl rfl (hb hby d15_7) fun T3 h3 X3 C3 K3 V3 => ?_
  have z3 := K3.1
  have V3_ : Arv Z h3 a1 k1 .byte (1 : Int32) [(.int (c.toInt8.toInt32))] (.int (0 : Int32)) := V3
  have A4 := X3.at
  show Gets p e below _ (T3.setTop (mkF m 8 #[.val (.int c)] [(.ref a1)]))
  exact X3.retA hret rfl rfl rfl (hb hby d15_8) (by decide) (by decide) ⟨a1, k1, rfl, (((Keep.refl h0 []).ext E1).trans K3 (allS (Or.inr (leA (by omega))) all0)), V3_, (leA (by omega))⟩
abbrev Rrm16 : Room := { frames := 1, cells := 0, slots := 0, locals := 12 }
def Qrm16 (Z : State) (kW : Addr) (kS : Addr) (x : Addr) (t : Addr) (h0 : Heap) (v : Option Value) (h : Heap) : Prop := v = none ∧ Keep h0 h [x] ∧ Exa Z h x "java/lang/String" ∧ Fld Z h x "java/lang/String" "coder" "B" (.int (0 : Int32)) ∧ Fld Z h x "java/lang/String" "value" "[B" (.ref t)
set_option maxRecDepth 65536 in
set_option maxHeartbeats 40000000 in
theorem rm16 (l : Launch) (Z : State) (a0 : Array Value) (hw : ∀ d ∈ tables_1, d.before a0 Z = true) (hEL : EW Z a0 consts_1) (zc : Int32) (O2 : Sta Z Z.heap "java/lang/String" "COMPACT_STRINGS" "Z" (.int zc)) (P5 : ¬ zc = 0) (kW kS kI kE : Addr) (OW : Sta Z Z.heap "com/example/carve/carve/model/Token$Kind" "WORD" "Lcom/example/carve/carve/model/Token$Kind;" (.ref kW)) (OS : Sta Z Z.heap "com/example/carve/carve/model/Token$Kind" "SYMBOL" "Lcom/example/carve/carve/model/Token$Kind;" (.ref kS)) (OI : Sta Z Z.heap "com/example/carve/carve/model/Token$Kind" "INVALID" "Lcom/example/carve/carve/model/Token$Kind;" (.ref kI)) (OE : Sta Z Z.heap "com/example/carve/carve/model/Token$Kind" "END" "Lcom/example/carve/carve/model/Token$Kind;" (.ref kE)) (dk : kI ≠ kW ∧ kI ≠ kS ∧ kE ≠ kW ∧ kE ≠ kS) (x : Addr) (t : Addr) (h0 : Heap) (O0 : Old Z Z.heap.size h0) (P0 : Exa Z h0 x "java/lang/String") (P1 : Fld Z h0 x "java/lang/String" "coder" "B" (.int (0 : Int32))) (P2 : Fld Z h0 x "java/lang/String" "value" "[B" .null) (P3 : Z.heap.size ≤ x) : Met l Z consts_1 (⟨"java/lang/String", "<init>", "([BB)V"⟩ : MethodName) jdk_42_method_151_code 3 (none) [] Rrm16 [x] #[(.ref x), (.ref t), (.int (0 : Int32))] h0 (Qrm16 Z kW kS x t h0) := by
  refine Met.start (a0 := a0) (Ls := #[.val (.ref x), .val (.ref t), .val (.int (0 : Int32))]) pn16 hEL O0 (fun m => by first | (simp [entryFrame, mkF, argsToLocals, Value.category]; done) | rfl) ?_
  intro p e s m below meth cc T0 vm0 X0 sf0_ hby hml hret hnm
  have hx := X0.hx
  have zz := X0.ge
  have A0 := X0.at
  have l1 := ltA P0.lt
  have l2 := ltA P1.lt
  have l3 := ltA P2.lt
  have s4 := sf0_ x (List.mem_of_getElem? (i := 0) rfl)
  show Gets p e below _ (T0.setTop (mkF m 0 #[.val (.ref x), .val (.ref t), .val (.int (0 : Int32))] []))
  refine Gets.via (fun _ k => (XS.aloadN A0 hx rfl (hb hby d16_0) rfl rfl k)) ?_
  show Gets p e below _ (T0.setTop (mkF m 1 #[.val (.ref x), .val (.ref t), .val (.int (0 : Int32))] [(.ref x)]))
  refine X0.objInit (w19 hw) (w20 hw) (w21 hw) rfl (by rw [hml]; rfl) rfl (hb hby d16_1) (by decide) (W := 0) (by show 2 * 0 + _ ≤ _; exact Nat.le_of_eq rfl) (by decide) fun T5 X5 => ?_
  have A6 := X5.at
  show Gets p e below _ (T5.setTop (mkF m 4 #[.val (.ref x), .val (.ref t), .val (.int (0 : Int32))] []))
  refine Gets.via (fun _ k => (XS.aloadN A6 hx rfl (hb hby d16_4) rfl rfl (XS.aloadN A6 hx rfl (hb hby d16_5) rfl rfl k))) ?_
  show Gets p e below _ (T5.setTop (mkF m 6 #[.val (.ref x), .val (.ref t), .val (.int (0 : Int32))] [(.ref t), (.ref x)]))
  refine X5.putF (host := "") (Or.inl (w28 hw)) Via.refl P2 P0 (Or.inr ⟨(w24 hw), rfl, hnm⟩) (w9 hw) (ty := (.array .byte)) (by decide) rfl rfl (leA (by omega)) s4 rfl rfl (hb hby d16_6) fun T7 h7 X7 C7 W7 F7 Z7 => ?_
  have z7 := W7.size
  have A8 := X7.at
  show Gets p e below _ (T7.setTop (mkF m 9 #[.val (.ref x), .val (.ref t), .val (.int (0 : Int32))] []))
  refine Gets.via (fun _ k => (XS.aloadN A8 hx rfl (hb hby d16_9) rfl rfl (XS.iloadN A8 hx rfl (hb hby d16_10) rfl k))) ?_
  show Gets p e below _ (T7.setTop (mkF m 11 #[.val (.ref x), .val (.ref t), .val (.int (0 : Int32))] [(.int (0 : Int32)), (.ref x)]))
  have f10 : Fld Z h7 x "java/lang/String" "coder" "B" (.int (0 : Int32)) := P1.other W7 (Or.inr (slot_ne (t := .byte) (t' := (.array .byte)) (Or.inr (w25 hw)) (Or.inr (w24 hw)) (by decide) (by decide) (by decide)))
  have f11 := C7.safe (x := x) (ltA (by omega)) s4
  refine X7.putF (host := "") (Or.inl (w29 hw)) Via.refl f10 Z7 (Or.inr ⟨(w25 hw), rfl, hnm⟩) (w9 hw) (ty := .byte) (by decide) (by decide) (by decide) (leA (by omega)) f11 rfl rfl (hb hby d16_11) fun T9 h9 X9 C9 W9 F9 Z9 => ?_
  have z9 := W9.size
  have A12 := X9.at
  show Gets p e below _ (T9.setTop (mkF m 14 #[.val (.ref x), .val (.ref t), .val (.int (0 : Int32))] []))
  have f13 : Fld Z h9 x "java/lang/String" "value" "[B" (.ref t) := F7.other W9 (Or.inr (slot_ne (t := (.array .byte)) (t' := .byte) (Or.inr (w24 hw)) (Or.inr (w25 hw)) (by decide) (by decide) (by decide)))
  exact X9.retV hret (hb hby d16_14) (by decide) (by decide) ⟨rfl, (((Keep.refl h0 [x]).wr W7 (Or.inl (List.mem_of_getElem? (i := 0) rfl))).wr W9 (Or.inl (List.mem_of_getElem? (i := 0) rfl))), Z9, F9, f13⟩
abbrev Rrm13 : Room := { frames := 2, cells := 2, slots := 5, locals := 27 }
def Qrm13 (Z : State) (kW : Addr) (kS : Addr) (c : Int32) (h0 : Heap) (v : Option Value) (h : Heap) : Prop := ∃ (a : Addr) (t : Addr) (kb : ClassId), v = some (.ref a) ∧ Keep h0 h [] ∧ Str Z h a t kb [c] ∧ h0.size ≤ a ∧ h0.size ≤ t
set_option maxRecDepth 65536 in
set_option maxHeartbeats 40000000 in
theorem rm13 (l : Launch) (Z : State) (a0 : Array Value) (hw : ∀ d ∈ tables_1, d.before a0 Z = true) (hEL : EW Z a0 consts_1) (zc : Int32) (O2 : Sta Z Z.heap "java/lang/String" "COMPACT_STRINGS" "Z" (.int zc)) (P5 : ¬ zc = 0) (kW kS kI kE : Addr) (OW : Sta Z Z.heap "com/example/carve/carve/model/Token$Kind" "WORD" "Lcom/example/carve/carve/model/Token$Kind;" (.ref kW)) (OS : Sta Z Z.heap "com/example/carve/carve/model/Token$Kind" "SYMBOL" "Lcom/example/carve/carve/model/Token$Kind;" (.ref kS)) (OI : Sta Z Z.heap "com/example/carve/carve/model/Token$Kind" "INVALID" "Lcom/example/carve/carve/model/Token$Kind;" (.ref kI)) (OE : Sta Z Z.heap "com/example/carve/carve/model/Token$Kind" "END" "Lcom/example/carve/carve/model/Token$Kind;" (.ref kE)) (dk : kI ≠ kW ∧ kI ≠ kS ∧ kE ≠ kW ∧ kE ≠ kS) (c : Int32) (h0 : Heap) (O0 : Old Z Z.heap.size h0) (P0 : ¬ c < 0 ∧ ¬ (255 : Int32) < c) : Met l Z consts_1 (⟨"java/lang/String", "valueOf", "(C)Ljava/lang/String;"⟩ : MethodName) jdk_42_method_139_code 1 (some (.object "java/lang/String")) [] Rrm13 [] #[(.int c)] h0 (Qrm13 Z kW kS c h0) := by
  refine Met.start (a0 := a0) (Ls := #[.val (.int c)]) pn13 hEL O0 (fun m => by first | (simp [entryFrame, mkF, argsToLocals, Value.category]; done) | rfl) ?_
  intro p e s m below meth cc T0 vm0 X0 sf0_ hby hml hret hnm
  have hx := X0.hx
  have zz := X0.ge
  have A0 := X0.at
  show Gets p e below _ (T0.setTop (mkF m 0 #[.val (.int c)] []))
  refine X0.getS (w71 hw) Via.refl (X0.sta O2) rfl (hb hby d13_0) fun T1 X1 => ?_
  have A2 := X1.at
  show Gets p e below _ (T1.setTop (mkF m 3 #[.val (.int c)] [(.int zc)]))
  refine Gets.via (fun _ k => (XS.ifNo A2 hx rfl (hb hby d13_3) rfl (Jvm.Free.XT.i0_eq_f P5) k)) ?_
  show Gets p e below _ (T1.setTop (mkF m 6 #[.val (.int c)] []))
  refine Gets.via (fun _ k => (XS.iloadN A2 hx rfl (hb hby d13_6) rfl k)) ?_
  show Gets p e below _ (T1.setTop (mkF m 7 #[.val (.int c)] [(.int c)]))
  refine X1.callS (y := (⟨"java/lang/StringLatin1", "canEncode", "(C)Z"⟩ : MethodName)) (W := 0) (w92 hw) (w93 hw) (w74 hw) (w94 hw) (by decide) (X1.payM (sf := []) (rm14 l Z a0 hw hEL zc O2 P5 kW kS kI kE OW OS OI OE dk c h0 X1.old P0) sf0 (w94 hw) (w74 hw) (by decide) (by decide)) rfl (by rw [hml]; rfl) (argsL := [(.int c)]) (rest := []) (lenOf pd1 rfl) rfl rfl (by show 2 * 0 + _ ≤ _; exact Nat.le_of_eq rfl) (hb hby d13_7) (by decide) (by decide) fun T3 h3 vm3 v3 X3 C3 z3 q3 => ?_
  obtain ⟨rfl, K3⟩ := q3
  rw [K3] at X3 C3
  have A4 := X3.at
  show Gets p e below _ (T3.setTop (mkF m 10 #[.val (.int c)] [(.int (1 : Int32))]))
  refine Gets.via (fun _ k => (XS.ifNo A4 hx rfl (hb hby d13_10) rfl (Jvm.Free.XT.i0_eq_f (by decide)) k)) ?_
  show Gets p e below _ (T3.setTop (mkF m 13 #[.val (.int c)] []))
  refine X3.new (w70 hw) (w9 hw) (w10 hw) rfl (hb hby d13_13) (by decide) (by decide) fun T5 h5 a5 X5 C5 E5 g5 Z5 S5 D5 => ?_
  have z5 := E5.1
  have l5 := ltA Z5.lt
  have A6 := X5.at
  show Gets p e below _ (T5.setTop (mkF m 16 #[.val (.int c)] [(.ref a5)]))
  refine Gets.via (fun _ k => (XS.dup A6 hx rfl (hb hby d13_16) rfl rfl (XS.iloadN A6 hx rfl (hb hby d13_17) rfl k))) ?_
  show Gets p e below _ (T5.setTop (mkF m 18 #[.val (.int c)] [(.int c), (.ref a5), (.ref a5)]))
  refine X5.callS (y := (⟨"java/lang/StringLatin1", "toBytes", "(C)[B"⟩ : MethodName)) (W := 2) (w95 hw) (w96 hw) (w74 hw) (w97 hw) (by decide) (X5.payM (sf := []) (rm15 l Z a0 hw hEL zc O2 P5 kW kS kI kE OW OS OI OE dk c h5 X5.old ) sf0 (w97 hw) (w74 hw) (by decide) (by decide)) rfl (by rw [hml]; rfl) (argsL := [(.int c)]) (rest := [(.ref a5), (.ref a5)]) (lenOf pd2 rfl) rfl rfl (by show 2 * 0 + _ ≤ _; exact Nat.le_of_eq rfl) (hb hby d13_18) (by decide) (by decide) fun T7 h7 vm7 v7 X7 C7 z7 q7 => ?_
  obtain ⟨t7, kb7, rfl, K7, g7_0, g7_1⟩ := q7
  have l8 := ltA g7_0.lt
  have A9 := X7.at
  show Gets p e below _ (T7.setTop (mkF m 21 #[.val (.int c)] [(.ref t7), (.ref a5), (.ref a5)]))
  refine Gets.via (fun _ k => (XS.iconst A9 hx rfl (hb hby d13_21) k)) ?_
  show Gets p e below _ (T7.setTop (mkF m 22 #[.val (.int c)] [(.int (0 : Int32)), (.ref t7), (.ref a5), (.ref a5)]))
  have f10 : Exa Z h7 a5 "java/lang/String" := Z5.keep K7
  have f11 : Fld Z h7 a5 "java/lang/String" "coder" "B" (.int (0 : Int32)) := (D5 (Or.inr (w25 hw)) (ty := .byte) (by decide) : Fld Z h5 a5 "java/lang/String" "coder" "B" (.int (0 : Int32))).keep K7 nin0
  have f12 : Fld Z h7 a5 "java/lang/String" "value" "[B" .null := (D5 (Or.inr (w24 hw)) (ty := (.array .byte)) (by decide) : Fld Z h5 a5 "java/lang/String" "value" "[B" .null).keep K7 nin0
  have f13 := C7.safe (x := a5) (ltA (by omega)) S5
  refine X7.callI (y := (⟨"java/lang/String", "<init>", "([BB)V"⟩ : MethodName)) (W := 1) rfl (w98 hw) (w99 hw) (w100 hw) (by decide) (X7.payM (sf := [a5]) (rm16 l Z a0 hw hEL zc O2 P5 kW kS kI kE OW OS OI OE dk a5 t7 h7 X7.old f10 f11 f12 (leA (by omega))) (sfS f13 sf0) (w100 hw) (w10 hw) (by decide) (by decide)) rfl (by rw [hml]; rfl) (a := a5) (argsL := [(.ref t7), (.int (0 : Int32))]) (rest := [(.ref a5)]) (lenOf pd3 rfl) rfl rfl (by show 2 * 0 + _ ≤ _; exact Nat.le_of_eq rfl) (hb hby d13_22) (by decide) (by decide) fun T14 h14 vm14 v14 X14 C14 z14 q14 => ?_
  obtain ⟨rfl, K14, g14_0, g14_1, g14_2⟩ := q14
  have l15 := ltA g14_0.lt
  have l16 := ltA g14_1.lt
  have l17 := ltA g14_2.lt
  have A18 := X14.at
  show Gets p e below _ (T14.setTop (mkF m 25 #[.val (.int c)] [(.ref a5)]))
  have f19 : Arv Z h14 t7 kb7 .byte (1 : Int32) [(.int (c.toInt8.toInt32))] (.int (0 : Int32)) := g7_0.keep K14 (ninS (neA (by omega)) nin0)
  have f20 : Str Z h14 a5 t7 kb7 [c] := ⟨g14_0, g14_1, g14_2, f19, (allI P0 allN), Nat.le_of_ble_eq_true rfl⟩
  exact X14.retA hret rfl rfl rfl (hb hby d13_25) (by decide) (by decide) ⟨a5, t7, kb7, rfl, ((((Keep.refl h0 []).ext E5).trans K7 all0).trans K14 (allS (Or.inr (leA (by omega))) all0)), f20, (leA (by omega)), (leA (by omega))⟩
abbrev Rrm0 : Room := { frames := 4, cells := 6, slots := 14, locals := 66 }
def Qrm0 (Z : State) (kW : Addr) (kS : Addr) (n : Int32) (u : Int32) (w : Int32) (h0 : Heap) (v : Option Value) (h : Heap) : Prop := ∃ (a : Addr) (b : Addr) (kb : ClassId) (cs : List Int32), v = some (.ref a) ∧ Keep h0 h [] ∧ Str Z h a b kb cs ∧ h0.size ≤ a ∧ cs = mk2 n u w
set_option maxRecDepth 65536 in
set_option maxHeartbeats 40000000 in
theorem rm0 (l : Launch) (Z : State) (a0 : Array Value) (hw : ∀ d ∈ tables_1, d.before a0 Z = true) (hEL : EW Z a0 consts_1) (zc : Int32) (O2 : Sta Z Z.heap "java/lang/String" "COMPACT_STRINGS" "Z" (.int zc)) (P5 : ¬ zc = 0) (kW kS kI kE : Addr) (OW : Sta Z Z.heap "com/example/carve/carve/model/Token$Kind" "WORD" "Lcom/example/carve/carve/model/Token$Kind;" (.ref kW)) (OS : Sta Z Z.heap "com/example/carve/carve/model/Token$Kind" "SYMBOL" "Lcom/example/carve/carve/model/Token$Kind;" (.ref kS)) (OI : Sta Z Z.heap "com/example/carve/carve/model/Token$Kind" "INVALID" "Lcom/example/carve/carve/model/Token$Kind;" (.ref kI)) (OE : Sta Z Z.heap "com/example/carve/carve/model/Token$Kind" "END" "Lcom/example/carve/carve/model/Token$Kind;" (.ref kE)) (dk : kI ≠ kW ∧ kI ≠ kS ∧ kE ≠ kW ∧ kE ≠ kS) (n : Int32) (u : Int32) (w : Int32) (h0 : Heap) (O0 : Old Z Z.heap.size h0) (P0 : ¬ u < 0 ∧ ¬ (255 : Int32) < u) (P1 : ¬ w < 0 ∧ ¬ (255 : Int32) < w) : Met l Z consts_1 (⟨"com/example/carve/carve/model/TokenIsPinLaw", "make", "(ICC)Ljava/lang/String;"⟩ : MethodName) method_3_code 4 (some (.object "java/lang/String")) [] Rrm0 [] #[(.int n), (.int u), (.int w)] h0 (Qrm0 Z kW kS n u w h0) := by
  refine Met.start (a0 := a0) (Ls := #[.val (.int n), .val (.int u), .val (.int w), .unset]) pn0 hEL O0 (fun m => by first | (simp [entryFrame, mkF, argsToLocals, Value.category]; done) | rfl) ?_
  intro p e s m below meth cc T0 vm0 X0 sf0_ hby hml hret hnm
  have hx := X0.hx
  have zz := X0.ge
  have A0 := X0.at
  show Gets p e below _ (T0.setTop (mkF m 0 #[.val (.int n), .val (.int u), .val (.int w), .unset] []))
  refine Gets.via (fun _ k => (XS.iloadN A0 hx rfl (hb hby d0_0) rfl k)) ?_
  show Gets p e below _ (T0.setTop (mkF m 1 #[.val (.int n), .val (.int u), .val (.int w), .unset] [(.int n)]))
  by_cases b1 : n = (0 : Int32)
  · refine Gets.via (fun _ k => (XS.ifNo A0 hx rfl (hb hby d0_1) rfl (Jvm.Free.XT.i0_ne_f b1) k)) ?_
    show Gets p e below _ (T0.setTop (mkF m 4 #[.val (.int n), .val (.int u), .val (.int w), .unset] []))
    refine X0.new (w8 hw) (w9 hw) (w10 hw) rfl (hb hby d0_4) (by decide) (by decide) fun T1 h1 a1 X1 C1 E1 g1 Z1 S1 D1 => ?_
    have z1 := E1.1
    have l1 := ltA Z1.lt
    have A2 := X1.at
    show Gets p e below _ (T1.setTop (mkF m 7 #[.val (.int n), .val (.int u), .val (.int w), .unset] [(.ref a1)]))
    refine Gets.via (fun _ k => (XS.dup A2 hx rfl (hb hby d0_7) rfl rfl (XS.iconst A2 hx rfl (hb hby d0_8) k))) ?_
    show Gets p e below _ (T1.setTop (mkF m 9 #[.val (.int n), .val (.int u), .val (.int w), .unset] [(.int (0 : Int32)), (.ref a1), (.ref a1)]))
    refine X1.newA (aty := .char) (w11 hw) rfl (hb hby d0_9) rfl (by decide) (cap := 0) (by decide) (by decide) (by decide) (by decide) fun T3 h3 a3 k3 X3 C3 E3 g3 S3 V3 => ?_
    have z3 := E3.1
    have l3 := ltA V3.lt
    have V3_ : Arv Z h3 a3 k3 .char (0 : Int32) [] (.int (0 : Int32)) := padN V3 0
    have A4 := X3.at
    show Gets p e below _ (T3.setTop (mkF m 11 #[.val (.int n), .val (.int u), .val (.int w), .unset] [(.ref a3), (.ref a1), (.ref a1)]))
    have f5 : Exa Z h3 a1 "java/lang/String" := Z1.ext E3
    have f6 : Fld Z h3 a1 "java/lang/String" "coder" "B" (.int (0 : Int32)) := (D1 (Or.inr (w25 hw)) (ty := .byte) (by decide) : Fld Z h1 a1 "java/lang/String" "coder" "B" (.int (0 : Int32))).ext E3
    have f7 : Fld Z h3 a1 "java/lang/String" "value" "[B" .null := (D1 (Or.inr (w24 hw)) (ty := (.array .byte)) (by decide) : Fld Z h1 a1 "java/lang/String" "value" "[B" .null).ext E3
    have f8 := C3.safe (x := a1) (ltA (by omega)) S1
    refine X3.callI (y := (⟨"java/lang/String", "<init>", "([C)V"⟩ : MethodName)) (W := 1) rfl (w12 hw) (w13 hw) (w14 hw) (by decide) (X3.payM (sf := [a1]) (rmE1 l Z a0 hw hEL zc O2 P5 kW kS kI kE OW OS OI OE dk a1 a3 k3 h3 X3.old f5 f6 f7 (leA (by omega)) V3_) (sfS f8 sf0) (w14 hw) (w10 hw) (by decide) (by decide)) rfl (by rw [hml]; rfl) (a := a1) (argsL := [(.ref a3)]) (rest := [(.ref a1)]) (lenOf pd4 rfl) rfl rfl (by show 2 * 0 + _ ≤ _; exact Nat.le_of_eq rfl) (hb hby d0_11) (by decide) (by decide) fun T9 h9 vm9 v9 X9 C9 z9 q9 => ?_
    obtain ⟨t9, kb9, rfl, K9, g9_0⟩ := q9
    have l10 := ltA g9_0.lt
    have l11 := ltA g9_0.lb
    have A12 := X9.at
    show Gets p e below _ (T9.setTop (mkF m 14 #[.val (.int n), .val (.int u), .val (.int w), .unset] [(.ref a1)]))
    exact X9.retA hret rfl rfl rfl (hb hby d0_14) (by decide) (by decide) ⟨a1, t9, kb9, [], rfl, ((((Keep.refl h0 []).ext E1).ext E3).trans K9 (allS (Or.inr (leA (by omega))) all0)), g9_0, (leA (by omega)), (by simp [mk2, *])⟩
  · refine Gets.via (fun _ k => (XS.ifYes A0 hx rfl (pc0 := 1) (pc' := 15) rfl (hb hby d0_1) rfl (Jvm.Free.XT.i0_ne_t b1) (by decide) (by decide) k)) ?_
    show Gets p e below _ (T0.setTop (mkF m 15 #[.val (.int n), .val (.int u), .val (.int w), .unset] []))
    refine Gets.via (fun _ k => (XS.iloadN A0 hx rfl (hb hby d0_15) rfl (XS.iconst A0 hx rfl (hb hby d0_16) k))) ?_
    show Gets p e below _ (T0.setTop (mkF m 17 #[.val (.int n), .val (.int u), .val (.int w), .unset] [(.int (1 : Int32)), (.int n)]))
    by_cases b17 : n = (1 : Int32)
    · refine Gets.via (fun _ k => (XS.icmpNo A0 hx rfl (hb hby d0_17) rfl (Jvm.Free.XT.ii_ne_f b17) k)) ?_
      show Gets p e below _ (T0.setTop (mkF m 20 #[.val (.int n), .val (.int u), .val (.int w), .unset] []))
      refine Gets.via (fun _ k => (XS.iloadN A0 hx rfl (hb hby d0_20) rfl k)) ?_
      show Gets p e below _ (T0.setTop (mkF m 21 #[.val (.int n), .val (.int u), .val (.int w), .unset] [(.int u)]))
      refine X0.callS (y := (⟨"java/lang/String", "valueOf", "(C)Ljava/lang/String;"⟩ : MethodName)) (W := 0) (w89 hw) (w90 hw) (w10 hw) (w91 hw) (by decide) (X0.payM (sf := []) (rm13 l Z a0 hw hEL zc O2 P5 kW kS kI kE OW OS OI OE dk u h0 X0.old P0) sf0 (w91 hw) (w10 hw) (by decide) (by decide)) rfl (by rw [hml]; rfl) (argsL := [(.int u)]) (rest := []) (lenOf pd5 rfl) rfl rfl (by show 2 * 0 + _ ≤ _; exact Nat.le_of_eq rfl) (hb hby d0_21) (by decide) (by decide) fun T13 h13 vm13 v13 X13 C13 z13 q13 => ?_
      obtain ⟨a13, t13, kb13, rfl, K13, g13_0, g13_1, g13_2⟩ := q13
      have l14 := ltA g13_0.lt
      have l15 := ltA g13_0.lb
      have A16 := X13.at
      show Gets p e below _ (T13.setTop (mkF m 24 #[.val (.int n), .val (.int u), .val (.int w), .unset] [(.ref a13)]))
      exact X13.retA hret rfl rfl rfl (hb hby d0_24) (by decide) (by decide) ⟨a13, t13, kb13, [u], rfl, ((Keep.refl h0 []).trans K13 all0), g13_0, g13_1, (by simp [mk2, *])⟩
    · refine Gets.via (fun _ k => (XS.icmpYes A0 hx rfl (pc0 := 17) (pc' := 25) rfl (hb hby d0_17) rfl (Jvm.Free.XT.ii_ne_t b17) (by decide) (by decide) k)) ?_
      show Gets p e below _ (T0.setTop (mkF m 25 #[.val (.int n), .val (.int u), .val (.int w), .unset] []))
      refine Gets.via (fun _ k => (XS.iconst A0 hx rfl (hb hby d0_25) k)) ?_
      show Gets p e below _ (T0.setTop (mkF m 26 #[.val (.int n), .val (.int u), .val (.int w), .unset] [(.int (2 : Int32))]))
      refine X0.newA (aty := .char) (w11 hw) rfl (hb hby d0_26) rfl (by decide) (cap := 2) (by decide) (by decide) (by decide) (by decide) fun T17 h17 a17 k17 X17 C17 E17 g17 S17 V17 => ?_
      have z17 := E17.1
      have l17 := ltA V17.lt
      have V17_ : Arv Z h17 a17 k17 .char (2 : Int32) [(.int (0 : Int32)), (.int (0 : Int32))] (.int (0 : Int32)) := padN V17 2
      have A18 := X17.at
      show Gets p e below _ (T17.setTop (mkF m 28 #[.val (.int n), .val (.int u), .val (.int w), .unset] [(.ref a17)]))
      refine Gets.via (fun _ k => (XS.dup A18 hx rfl (hb hby d0_28) rfl rfl (XS.iconst A18 hx rfl (hb hby d0_29) (XS.iloadN A18 hx rfl (hb hby d0_30) rfl k)))) ?_
      show Gets p e below _ (T17.setTop (mkF m 31 #[.val (.int n), .val (.int u), .val (.int w), .unset] [(.int u), (.int (0 : Int32)), (.ref a17), (.ref a17)]))
      refine X17.stC V17_ (i := 0) (by decide) (by decide) (Nat.le_of_ble_eq_true rfl) (by decide) (v := u) (nar_in P0) (leA (by omega)) rfl rfl (hb hby d0_31) fun T19 h19 X19 C19 K19 V19 => ?_
      have z19 := K19.1
      have V19_ : Arv Z h19 a17 k17 .char (2 : Int32) [(.int u), (.int (0 : Int32))] (.int (0 : Int32)) := V19
      have A20 := X19.at
      show Gets p e below _ (T19.setTop (mkF m 32 #[.val (.int n), .val (.int u), .val (.int w), .unset] [(.ref a17)]))
      refine Gets.via (fun _ k => (XS.dup A20 hx rfl (hb hby d0_32) rfl rfl (XS.iconst A20 hx rfl (hb hby d0_33) (XS.iloadN A20 hx rfl (hb hby d0_34) rfl k)))) ?_
      show Gets p e below _ (T19.setTop (mkF m 35 #[.val (.int n), .val (.int u), .val (.int w), .unset] [(.int w), (.int (1 : Int32)), (.ref a17), (.ref a17)]))
      refine X19.stC V19_ (i := 1) (by decide) (by decide) (Nat.le_of_ble_eq_true rfl) (by decide) (v := w) (nar_in P1) (leA (by omega)) rfl rfl (hb hby d0_35) fun T21 h21 X21 C21 K21 V21 => ?_
      have z21 := K21.1
      have V21_ : Arv Z h21 a17 k17 .char (2 : Int32) [(.int u), (.int w)] (.int (0 : Int32)) := V21
      have A22 := X21.at
      show Gets p e below _ (T21.setTop (mkF m 36 #[.val (.int n), .val (.int u), .val (.int w), .unset] [(.ref a17)]))
      refine Gets.via (fun _ k => (XS.astoreN A22 hx rfl (hb hby d0_36) rfl rfl (l' := #[.val (.int n), .val (.int u), .val (.int w), .val (.ref a17)]) rfl k)) ?_
      show Gets p e below _ (T21.setTop (mkF m 37 #[.val (.int n), .val (.int u), .val (.int w), .val (.ref a17)] []))
      refine X21.new (w8 hw) (w9 hw) (w10 hw) rfl (hb hby d0_37) (by decide) (by decide) fun T23 h23 a23 X23 C23 E23 g23 Z23 S23 D23 => ?_
      have z23 := E23.1
      have l23 := ltA Z23.lt
      have A24 := X23.at
      show Gets p e below _ (T23.setTop (mkF m 40 #[.val (.int n), .val (.int u), .val (.int w), .val (.ref a17)] [(.ref a23)]))
      refine Gets.via (fun _ k => (XS.dup A24 hx rfl (hb hby d0_40) rfl rfl (XS.aloadN A24 hx rfl (hb hby d0_41) rfl rfl k))) ?_
      show Gets p e below _ (T23.setTop (mkF m 42 #[.val (.int n), .val (.int u), .val (.int w), .val (.ref a17)] [(.ref a17), (.ref a23), (.ref a23)]))
      have f25 : Arv Z h23 a17 k17 .char (2 : Int32) [(.int u), (.int w)] (.int (0 : Int32)) := V21_.ext E23
      refine X23.callI (y := (⟨"java/lang/String", "<init>", "([C)V"⟩ : MethodName)) (W := 1) rfl (w12 hw) (w13 hw) (w14 hw) (by decide) (payStr X23 hw (w9 hw) [u, w] 2 (leA (by omega)) Z23 (D23 (Or.inr (w24 hw)) (ty := (.array .byte)) (by decide) : Fld Z h23 a23 "java/lang/String" "value" "[B" .null) (D23 (Or.inr (w25 hw)) (ty := .byte) (by decide) : Fld Z h23 a23 "java/lang/String" "coder" "B" (.int (0 : Int32))) f25 O2 P5 rfl rfl (by decide) (by decide) (allI P0 (allI P1 allN)) (by decide) (by decide) S23) rfl (by rw [hml]; rfl) (a := a23) (argsL := [(.ref a17)]) (rest := [(.ref a23)]) (lenOf pd4 rfl) rfl rfl (by show 2 * 0 + _ ≤ _; exact Nat.le_of_eq rfl) (hb hby d0_42) (by decide) (by decide) fun T26 h26 vm26 v26 X26 C26 z26 q26 => ?_
      obtain ⟨t26, kb26, rfl, K26, g26_0, g26_1, g26_2, g26_3, g26_4⟩ := q26
      have g26_5 : Str Z h26 a23 t26 kb26 [u, w] := ⟨g26_0, g26_1, g26_2, g26_3, (allI P0 (allI P1 allN)), Nat.le_of_ble_eq_true rfl⟩
      have l27 := ltA g26_5.lt
      have l28 := ltA g26_5.lb
      have A29 := X26.at
      show Gets p e below _ (T26.setTop (mkF m 45 #[.val (.int n), .val (.int u), .val (.int w), .val (.ref a17)] [(.ref a23)]))
      exact X26.retA hret rfl rfl rfl (hb hby d0_45) (by decide) (by decide) ⟨a23, t26, kb26, [u, w], rfl, ((((((Keep.refl h0 []).ext E17).trans K19 (allS (Or.inr (leA (by omega))) all0)).trans K21 (allS (Or.inr (leA (by omega))) all0)).ext E23).trans K26 (allS (Or.inr (leA (by omega))) all0)), g26_5, (leA (by omega)), (by simp [mk2, *])⟩
abbrev Rrm5 : Room := { frames := 1, cells := 0, slots := 0, locals := 12 }
def Qrm5 (Z : State) (kW : Addr) (kS : Addr) (x : Addr) (h0 : Heap) (v : Option Value) (h : Heap) : Prop := v = none ∧ h = h0
set_option maxRecDepth 65536 in
set_option maxHeartbeats 40000000 in
theorem rm5 (l : Launch) (Z : State) (a0 : Array Value) (hw : ∀ d ∈ tables_1, d.before a0 Z = true) (hEL : EW Z a0 consts_1) (zc : Int32) (O2 : Sta Z Z.heap "java/lang/String" "COMPACT_STRINGS" "Z" (.int zc)) (P5 : ¬ zc = 0) (kW kS kI kE : Addr) (OW : Sta Z Z.heap "com/example/carve/carve/model/Token$Kind" "WORD" "Lcom/example/carve/carve/model/Token$Kind;" (.ref kW)) (OS : Sta Z Z.heap "com/example/carve/carve/model/Token$Kind" "SYMBOL" "Lcom/example/carve/carve/model/Token$Kind;" (.ref kS)) (OI : Sta Z Z.heap "com/example/carve/carve/model/Token$Kind" "INVALID" "Lcom/example/carve/carve/model/Token$Kind;" (.ref kI)) (OE : Sta Z Z.heap "com/example/carve/carve/model/Token$Kind" "END" "Lcom/example/carve/carve/model/Token$Kind;" (.ref kE)) (dk : kI ≠ kW ∧ kI ≠ kS ∧ kE ≠ kW ∧ kE ≠ kS) (x : Addr) (h0 : Heap) (O0 : Old Z Z.heap.size h0)  : Met l Z consts_1 (⟨"java/lang/Record", "<init>", "()V"⟩ : MethodName) jdk_30_method_1_code 1 (none) [] Rrm5 [] #[(.ref x)] h0 (Qrm5 Z kW kS x h0) := by
  refine Met.start (a0 := a0) (Ls := #[.val (.ref x)]) pn5 hEL O0 (fun m => by first | (simp [entryFrame, mkF, argsToLocals, Value.category]; done) | rfl) ?_
  intro p e s m below meth cc T0 vm0 X0 sf0_ hby hml hret hnm
  have hx := X0.hx
  have zz := X0.ge
  have A0 := X0.at
  show Gets p e below _ (T0.setTop (mkF m 0 #[.val (.ref x)] []))
  refine Gets.via (fun _ k => (XS.aloadN A0 hx rfl (hb hby d5_0) rfl rfl k)) ?_
  show Gets p e below _ (T0.setTop (mkF m 1 #[.val (.ref x)] [(.ref x)]))
  refine X0.objInit (w44 hw) (w20 hw) (w21 hw) rfl (by rw [hml]; rfl) rfl (hb hby d5_1) (by decide) (W := 0) (by show 2 * 0 + _ ≤ _; exact Nat.le_of_eq rfl) (by decide) fun T1 X1 => ?_
  have A2 := X1.at
  show Gets p e below _ (T1.setTop (mkF m 4 #[.val (.ref x)] []))
  exact X1.retV hret (hb hby d5_4) (by decide) (by decide) ⟨rfl, rfl⟩
abbrev Rrm4 : Room := { frames := 2, cells := 0, slots := 0, locals := 24 }
def Qrm4 (Z : State) (kW : Addr) (kS : Addr) (x : Addr) (i : Int32) (j : Int32) (h0 : Heap) (v : Option Value) (h : Heap) : Prop := v = none ∧ Keep h0 h [x] ∧ Exa Z h x "com/example/carve/carve/model/Position"
set_option maxRecDepth 65536 in
set_option maxHeartbeats 40000000 in
theorem rm4 (l : Launch) (Z : State) (a0 : Array Value) (hw : ∀ d ∈ tables_1, d.before a0 Z = true) (hEL : EW Z a0 consts_1) (zc : Int32) (O2 : Sta Z Z.heap "java/lang/String" "COMPACT_STRINGS" "Z" (.int zc)) (P5 : ¬ zc = 0) (kW kS kI kE : Addr) (OW : Sta Z Z.heap "com/example/carve/carve/model/Token$Kind" "WORD" "Lcom/example/carve/carve/model/Token$Kind;" (.ref kW)) (OS : Sta Z Z.heap "com/example/carve/carve/model/Token$Kind" "SYMBOL" "Lcom/example/carve/carve/model/Token$Kind;" (.ref kS)) (OI : Sta Z Z.heap "com/example/carve/carve/model/Token$Kind" "INVALID" "Lcom/example/carve/carve/model/Token$Kind;" (.ref kI)) (OE : Sta Z Z.heap "com/example/carve/carve/model/Token$Kind" "END" "Lcom/example/carve/carve/model/Token$Kind;" (.ref kE)) (dk : kI ≠ kW ∧ kI ≠ kS ∧ kE ≠ kW ∧ kE ≠ kS) (x : Addr) (i : Int32) (j : Int32) (h0 : Heap) (O0 : Old Z Z.heap.size h0) (P0 : Exa Z h0 x "com/example/carve/carve/model/Position") (P1 : Fld Z h0 x "com/example/carve/carve/model/Position" "line" "I" (.int (0 : Int32))) (P2 : Fld Z h0 x "com/example/carve/carve/model/Position" "column" "I" (.int (0 : Int32))) (P3 : Z.heap.size ≤ x) : Met l Z consts_1 (⟨"com/example/carve/carve/model/Position", "<init>", "(II)V"⟩ : MethodName) prog_53_method_1_code 3 (none) [] Rrm4 [] #[(.ref x), (.int i), (.int j)] h0 (Qrm4 Z kW kS x i j h0) := by
  refine Met.start (a0 := a0) (Ls := #[.val (.ref x), .val (.int i), .val (.int j)]) pn4 hEL O0 (fun m => by first | (simp [entryFrame, mkF, argsToLocals, Value.category]; done) | rfl) ?_
  intro p e s m below meth cc T0 vm0 X0 sf0_ hby hml hret hnm
  have hx := X0.hx
  have zz := X0.ge
  have A0 := X0.at
  have l1 := ltA P0.lt
  have l2 := ltA P1.lt
  have l3 := ltA P2.lt
  show Gets p e below _ (T0.setTop (mkF m 0 #[.val (.ref x), .val (.int i), .val (.int j)] []))
  refine Gets.via (fun _ k => (XS.aloadN A0 hx rfl (hb hby d4_0) rfl rfl k)) ?_
  show Gets p e below _ (T0.setTop (mkF m 1 #[.val (.ref x), .val (.int i), .val (.int j)] [(.ref x)]))
  refine X0.callI (y := (⟨"java/lang/Record", "<init>", "()V"⟩ : MethodName)) (W := 0) rfl (w39 hw) (w40 hw) (w43 hw) (by decide) (X0.payM (sf := []) (rm5 l Z a0 hw hEL zc O2 P5 kW kS kI kE OW OS OI OE dk x h0 X0.old ) sf0 (w43 hw) (w42 hw) (by decide) (by decide)) rfl (by rw [hml]; rfl) (a := x) (argsL := []) (rest := []) (lenOf pd6 rfl) rfl rfl (by show 2 * 0 + _ ≤ _; exact Nat.le_of_eq rfl) (hb hby d4_1) (by decide) (by decide) fun T4 h4 vm4 v4 X4 C4 z4 q4 => ?_
  obtain ⟨rfl, K4⟩ := q4
  rw [K4] at X4 C4
  have A5 := X4.at
  show Gets p e below _ (T4.setTop (mkF m 4 #[.val (.ref x), .val (.int i), .val (.int j)] []))
  refine Gets.via (fun _ k => (XS.aloadN A5 hx rfl (hb hby d4_4) rfl rfl (XS.iloadN A5 hx rfl (hb hby d4_5) rfl k))) ?_
  show Gets p e below _ (T4.setTop (mkF m 6 #[.val (.ref x), .val (.int i), .val (.int j)] [(.int i), (.ref x)]))
  refine X4.putF (host := "") (Or.inl (w45 hw)) Via.refl P1 P0 (Or.inr ⟨(w46 hw), rfl, hnm⟩) (w34 hw) (ty := .int) (by decide) rfl rfl (leA (by omega)) (Safe.exa X4.hZ.alike P0 (by decide) (by decide)) rfl rfl (hb hby d4_6) fun T6 h6 X6 C6 W6 F6 Z6 => ?_
  have z6 := W6.size
  have A7 := X6.at
  show Gets p e below _ (T6.setTop (mkF m 9 #[.val (.ref x), .val (.int i), .val (.int j)] []))
  refine Gets.via (fun _ k => (XS.aloadN A7 hx rfl (hb hby d4_9) rfl rfl (XS.iloadN A7 hx rfl (hb hby d4_10) rfl k))) ?_
  show Gets p e below _ (T6.setTop (mkF m 11 #[.val (.ref x), .val (.int i), .val (.int j)] [(.int j), (.ref x)]))
  have f9 : Fld Z h6 x "com/example/carve/carve/model/Position" "column" "I" (.int (0 : Int32)) := P2.other W6 (Or.inr (slot_ne (t := .int) (t' := .int) (Or.inr (w48 hw)) (Or.inr (w46 hw)) (by decide) (by decide) (by decide)))
  refine X6.putF (host := "") (Or.inl (w47 hw)) Via.refl f9 Z6 (Or.inr ⟨(w48 hw), rfl, hnm⟩) (w34 hw) (ty := .int) (by decide) rfl rfl (leA (by omega)) (Safe.exa X6.hZ.alike Z6 (by decide) (by decide)) rfl rfl (hb hby d4_11) fun T8 h8 X8 C8 W8 F8 Z8 => ?_
  have z8 := W8.size
  have A10 := X8.at
  show Gets p e below _ (T8.setTop (mkF m 14 #[.val (.ref x), .val (.int i), .val (.int j)] []))
  exact X8.retV hret (hb hby d4_14) (by decide) (by decide) ⟨rfl, (((Keep.refl h0 [x]).wr W6 (Or.inl (List.mem_of_getElem? (i := 0) rfl))).wr W8 (Or.inl (List.mem_of_getElem? (i := 0) rfl))), Z8⟩
abbrev Rrm6 : Room := { frames := 2, cells := 0, slots := 0, locals := 24 }
def Qrm6 (Z : State) (kW : Addr) (kS : Addr) (x : Addr) (kd : Addr) (t : Addr) (q : Addr) (h0 : Heap) (v : Option Value) (h : Heap) : Prop := v = none ∧ Keep h0 h [x] ∧ Exa Z h x "com/example/carve/carve/model/Token" ∧ Fld Z h x "com/example/carve/carve/model/Token" "kind" "Lcom/example/carve/carve/model/Token$Kind;" (.ref kd) ∧ Fld Z h x "com/example/carve/carve/model/Token" "text" "Ljava/lang/String;" (.ref t)
set_option maxRecDepth 65536 in
set_option maxHeartbeats 40000000 in
theorem rm6 (l : Launch) (Z : State) (a0 : Array Value) (hw : ∀ d ∈ tables_1, d.before a0 Z = true) (hEL : EW Z a0 consts_1) (zc : Int32) (O2 : Sta Z Z.heap "java/lang/String" "COMPACT_STRINGS" "Z" (.int zc)) (P5 : ¬ zc = 0) (kW kS kI kE : Addr) (OW : Sta Z Z.heap "com/example/carve/carve/model/Token$Kind" "WORD" "Lcom/example/carve/carve/model/Token$Kind;" (.ref kW)) (OS : Sta Z Z.heap "com/example/carve/carve/model/Token$Kind" "SYMBOL" "Lcom/example/carve/carve/model/Token$Kind;" (.ref kS)) (OI : Sta Z Z.heap "com/example/carve/carve/model/Token$Kind" "INVALID" "Lcom/example/carve/carve/model/Token$Kind;" (.ref kI)) (OE : Sta Z Z.heap "com/example/carve/carve/model/Token$Kind" "END" "Lcom/example/carve/carve/model/Token$Kind;" (.ref kE)) (dk : kI ≠ kW ∧ kI ≠ kS ∧ kE ≠ kW ∧ kE ≠ kS) (x : Addr) (kd : Addr) (t : Addr) (q : Addr) (h0 : Heap) (O0 : Old Z Z.heap.size h0) (P0 : Exa Z h0 x "com/example/carve/carve/model/Token") (P1 : Fld Z h0 x "com/example/carve/carve/model/Token" "kind" "Lcom/example/carve/carve/model/Token$Kind;" .null) (P2 : Fld Z h0 x "com/example/carve/carve/model/Token" "text" "Ljava/lang/String;" .null) (P3 : Fld Z h0 x "com/example/carve/carve/model/Token" "at" "Lcom/example/carve/carve/model/Position;" .null) (P4 : Z.heap.size ≤ x) : Met l Z consts_1 (⟨"com/example/carve/carve/model/Token", "<init>", "(Lcom/example/carve/carve/model/Token$Kind;Ljava/lang/String;Lcom/example/carve/carve/model/Position;)V"⟩ : MethodName) prog_63_method_1_code 4 (none) [] Rrm6 [] #[(.ref x), (.ref kd), (.ref t), (.ref q)] h0 (Qrm6 Z kW kS x kd t q h0) := by
  refine Met.start (a0 := a0) (Ls := #[.val (.ref x), .val (.ref kd), .val (.ref t), .val (.ref q)]) pn6 hEL O0 (fun m => by first | (simp [entryFrame, mkF, argsToLocals, Value.category]; done) | rfl) ?_
  intro p e s m below meth cc T0 vm0 X0 sf0_ hby hml hret hnm
  have hx := X0.hx
  have zz := X0.ge
  have A0 := X0.at
  have l1 := ltA P0.lt
  have l2 := ltA P1.lt
  have l3 := ltA P2.lt
  have l4 := ltA P3.lt
  show Gets p e below _ (T0.setTop (mkF m 0 #[.val (.ref x), .val (.ref kd), .val (.ref t), .val (.ref q)] []))
  refine Gets.via (fun _ k => (XS.aloadN A0 hx rfl (hb hby d6_0) rfl rfl k)) ?_
  show Gets p e below _ (T0.setTop (mkF m 1 #[.val (.ref x), .val (.ref kd), .val (.ref t), .val (.ref q)] [(.ref x)]))
  refine X0.callI (y := (⟨"java/lang/Record", "<init>", "()V"⟩ : MethodName)) (W := 0) rfl (w52 hw) (w40 hw) (w43 hw) (by decide) (X0.payM (sf := []) (rm5 l Z a0 hw hEL zc O2 P5 kW kS kI kE OW OS OI OE dk x h0 X0.old ) sf0 (w43 hw) (w42 hw) (by decide) (by decide)) rfl (by rw [hml]; rfl) (a := x) (argsL := []) (rest := []) (lenOf pd6 rfl) rfl rfl (by show 2 * 0 + _ ≤ _; exact Nat.le_of_eq rfl) (hb hby d6_1) (by decide) (by decide) fun T5 h5 vm5 v5 X5 C5 z5 q5 => ?_
  obtain ⟨rfl, K5⟩ := q5
  rw [K5] at X5 C5
  have A6 := X5.at
  show Gets p e below _ (T5.setTop (mkF m 4 #[.val (.ref x), .val (.ref kd), .val (.ref t), .val (.ref q)] []))
  refine Gets.via (fun _ k => (XS.aloadN A6 hx rfl (hb hby d6_4) rfl rfl (XS.aloadN A6 hx rfl (hb hby d6_5) rfl rfl k))) ?_
  show Gets p e below _ (T5.setTop (mkF m 6 #[.val (.ref x), .val (.ref kd), .val (.ref t), .val (.ref q)] [(.ref kd), (.ref x)]))
  refine X5.putF (host := "") (Or.inl (w53 hw)) Via.refl P1 P0 (Or.inr ⟨(w54 hw), rfl, hnm⟩) (w31 hw) (ty := (.object "com/example/carve/carve/model/Token$Kind")) (by decide) rfl rfl (leA (by omega)) (Safe.exa X5.hZ.alike P0 (by decide) (by decide)) rfl rfl (hb hby d6_6) fun T7 h7 X7 C7 W7 F7 Z7 => ?_
  have z7 := W7.size
  have A8 := X7.at
  show Gets p e below _ (T7.setTop (mkF m 9 #[.val (.ref x), .val (.ref kd), .val (.ref t), .val (.ref q)] []))
  refine Gets.via (fun _ k => (XS.aloadN A8 hx rfl (hb hby d6_9) rfl rfl (XS.aloadN A8 hx rfl (hb hby d6_10) rfl rfl k))) ?_
  show Gets p e below _ (T7.setTop (mkF m 11 #[.val (.ref x), .val (.ref kd), .val (.ref t), .val (.ref q)] [(.ref t), (.ref x)]))
  have f10 : Fld Z h7 x "com/example/carve/carve/model/Token" "text" "Ljava/lang/String;" .null := P2.other W7 (Or.inr (slot_ne (t := (.object "java/lang/String")) (t' := (.object "com/example/carve/carve/model/Token$Kind")) (Or.inr (w56 hw)) (Or.inr (w54 hw)) (by decide) (by decide) (by decide)))
  refine X7.putF (host := "") (Or.inl (w55 hw)) Via.refl f10 Z7 (Or.inr ⟨(w56 hw), rfl, hnm⟩) (w31 hw) (ty := (.object "java/lang/String")) (by decide) rfl rfl (leA (by omega)) (Safe.exa X7.hZ.alike Z7 (by decide) (by decide)) rfl rfl (hb hby d6_11) fun T9 h9 X9 C9 W9 F9 Z9 => ?_
  have z9 := W9.size
  have A11 := X9.at
  show Gets p e below _ (T9.setTop (mkF m 14 #[.val (.ref x), .val (.ref kd), .val (.ref t), .val (.ref q)] []))
  refine Gets.via (fun _ k => (XS.aloadN A11 hx rfl (hb hby d6_14) rfl rfl (XS.aloadN A11 hx rfl (hb hby d6_15) rfl rfl k))) ?_
  show Gets p e below _ (T9.setTop (mkF m 16 #[.val (.ref x), .val (.ref kd), .val (.ref t), .val (.ref q)] [(.ref q), (.ref x)]))
  have f13 : Fld Z h7 x "com/example/carve/carve/model/Token" "at" "Lcom/example/carve/carve/model/Position;" .null := P3.other W7 (Or.inr (slot_ne (t := (.object "com/example/carve/carve/model/Position")) (t' := (.object "com/example/carve/carve/model/Token$Kind")) (Or.inr (w58 hw)) (Or.inr (w54 hw)) (by decide) (by decide) (by decide)))
  have f14 : Fld Z h9 x "com/example/carve/carve/model/Token" "at" "Lcom/example/carve/carve/model/Position;" .null := f13.other W9 (Or.inr (slot_ne (t := (.object "com/example/carve/carve/model/Position")) (t' := (.object "java/lang/String")) (Or.inr (w58 hw)) (Or.inr (w56 hw)) (by decide) (by decide) (by decide)))
  refine X9.putF (host := "") (Or.inl (w57 hw)) Via.refl f14 Z9 (Or.inr ⟨(w58 hw), rfl, hnm⟩) (w31 hw) (ty := (.object "com/example/carve/carve/model/Position")) (by decide) rfl rfl (leA (by omega)) (Safe.exa X9.hZ.alike Z9 (by decide) (by decide)) rfl rfl (hb hby d6_16) fun T12 h12 X12 C12 W12 F12 Z12 => ?_
  have z12 := W12.size
  have A15 := X12.at
  show Gets p e below _ (T12.setTop (mkF m 19 #[.val (.ref x), .val (.ref kd), .val (.ref t), .val (.ref q)] []))
  have f16 : Fld Z h9 x "com/example/carve/carve/model/Token" "kind" "Lcom/example/carve/carve/model/Token$Kind;" (.ref kd) := F7.other W9 (Or.inr (slot_ne (t := (.object "com/example/carve/carve/model/Token$Kind")) (t' := (.object "java/lang/String")) (Or.inr (w54 hw)) (Or.inr (w56 hw)) (by decide) (by decide) (by decide)))
  have f17 : Fld Z h12 x "com/example/carve/carve/model/Token" "kind" "Lcom/example/carve/carve/model/Token$Kind;" (.ref kd) := f16.other W12 (Or.inr (slot_ne (t := (.object "com/example/carve/carve/model/Token$Kind")) (t' := (.object "com/example/carve/carve/model/Position")) (Or.inr (w54 hw)) (Or.inr (w58 hw)) (by decide) (by decide) (by decide)))
  have f18 : Fld Z h12 x "com/example/carve/carve/model/Token" "text" "Ljava/lang/String;" (.ref t) := F9.other W12 (Or.inr (slot_ne (t := (.object "java/lang/String")) (t' := (.object "com/example/carve/carve/model/Position")) (Or.inr (w56 hw)) (Or.inr (w58 hw)) (by decide) (by decide) (by decide)))
  exact X12.retV hret (hb hby d6_19) (by decide) (by decide) ⟨rfl, ((((Keep.refl h0 [x]).wr W7 (Or.inl (List.mem_of_getElem? (i := 0) rfl))).wr W9 (Or.inl (List.mem_of_getElem? (i := 0) rfl))).wr W12 (Or.inl (List.mem_of_getElem? (i := 0) rfl))), Z12, f17, f18⟩
abbrev Rrm7 : Room := { frames := 2, cells := 0, slots := 0, locals := 28 }
def Qrm7 (Z : State) (kW : Addr) (kS : Addr) (x : Addr) (wd : Addr) (kd : Addr) (t : Addr) (b : Addr) (kb : ClassId) (cs : List Int32) (d : Addr) (kd2 : ClassId) (ds : List Int32) (h0 : Heap) (v : Option Value) (h : Heap) : Prop := ∃ (r : Int32), v = some (.int r) ∧ h = h0 ∧ r = if (kd = kW ∨ kd = kS) ∧ cs = ds then 1 else 0
set_option maxRecDepth 65536 in
set_option maxHeartbeats 40000000 in
theorem rm7 (l : Launch) (Z : State) (a0 : Array Value) (hw : ∀ d ∈ tables_1, d.before a0 Z = true) (hEL : EW Z a0 consts_1) (zc : Int32) (O2 : Sta Z Z.heap "java/lang/String" "COMPACT_STRINGS" "Z" (.int zc)) (P5 : ¬ zc = 0) (kW kS kI kE : Addr) (OW : Sta Z Z.heap "com/example/carve/carve/model/Token$Kind" "WORD" "Lcom/example/carve/carve/model/Token$Kind;" (.ref kW)) (OS : Sta Z Z.heap "com/example/carve/carve/model/Token$Kind" "SYMBOL" "Lcom/example/carve/carve/model/Token$Kind;" (.ref kS)) (OI : Sta Z Z.heap "com/example/carve/carve/model/Token$Kind" "INVALID" "Lcom/example/carve/carve/model/Token$Kind;" (.ref kI)) (OE : Sta Z Z.heap "com/example/carve/carve/model/Token$Kind" "END" "Lcom/example/carve/carve/model/Token$Kind;" (.ref kE)) (dk : kI ≠ kW ∧ kI ≠ kS ∧ kE ≠ kW ∧ kE ≠ kS) (x : Addr) (wd : Addr) (kd : Addr) (t : Addr) (b : Addr) (kb : ClassId) (cs : List Int32) (d : Addr) (kd2 : ClassId) (ds : List Int32) (h0 : Heap) (O0 : Old Z Z.heap.size h0) (P0 : Fld Z h0 x "com/example/carve/carve/model/Token" "kind" "Lcom/example/carve/carve/model/Token$Kind;" (.ref kd)) (P1 : Fld Z h0 x "com/example/carve/carve/model/Token" "text" "Ljava/lang/String;" (.ref t)) (P2 : Str Z h0 t b kb cs) (P3 : Str Z h0 wd d kd2 ds) : Met l Z consts_1 (⟨"com/example/carve/carve/model/Token", "is", "(Ljava/lang/String;)Z"⟩ : MethodName) prog_63_method_2_code 2 (some .boolean) [] Rrm7 [] #[(.ref x), (.ref wd)] h0 (Qrm7 Z kW kS x wd kd t b kb cs d kd2 ds h0) := by
  refine Met.start (a0 := a0) (Ls := #[.val (.ref x), .val (.ref wd)]) pn7 hEL O0 (fun m => by first | (simp [entryFrame, mkF, argsToLocals, Value.category]; done) | rfl) ?_
  intro p e s m below meth cc T0 vm0 X0 sf0_ hby hml hret hnm
  have hx := X0.hx
  have zz := X0.ge
  have A0 := X0.at
  have l1 := ltA P0.lt
  have l2 := ltA P1.lt
  have l3 := ltA P2.lt
  have l4 := ltA P2.lb
  have l5 := ltA P3.lt
  have l6 := ltA P3.lb
  show Gets p e below _ (T0.setTop (mkF m 0 #[.val (.ref x), .val (.ref wd)] []))
  refine Gets.via (fun _ k => (XS.aloadN A0 hx rfl (hb hby d7_0) rfl rfl k)) ?_
  show Gets p e below _ (T0.setTop (mkF m 1 #[.val (.ref x), .val (.ref wd)] [(.ref x)]))
  refine X0.getF (host := "") (Or.inl (w53 hw)) Via.refl P0 rfl rfl (hb hby d7_1) fun T7 X7 => ?_
  have A8 := X7.at
  show Gets p e below _ (T7.setTop (mkF m 4 #[.val (.ref x), .val (.ref wd)] [(.ref kd)]))
  refine X7.getS (w64 hw) Via.refl (X7.sta OW) rfl (hb hby d7_4) fun T9 X9 => ?_
  have A10 := X9.at
  show Gets p e below _ (T9.setTop (mkF m 7 #[.val (.ref x), .val (.ref wd)] [(.ref kW), (.ref kd)]))
  by_cases b7 : kd = kW
  · refine X9.acmpW hx rfl rfl rfl (pc0 := 7) (pc' := 20) (same := true) rfl (hb hby d7_7) rfl (decide_eq_true (congrArg Value.ref b7)) (by decide) (by decide) ?_
    show Gets p e below _ (T9.setTop (mkF m 20 #[.val (.ref x), .val (.ref wd)] []))
    refine Gets.via (fun _ k => (XS.aloadN A10 hx rfl (hb hby d7_20) rfl rfl k)) ?_
    show Gets p e below _ (T9.setTop (mkF m 21 #[.val (.ref x), .val (.ref wd)] [(.ref x)]))
    refine X9.getF (host := "") (Or.inl (w55 hw)) Via.refl P1 rfl rfl (hb hby d7_21) fun T11 X11 => ?_
    have A12 := X11.at
    show Gets p e below _ (T11.setTop (mkF m 24 #[.val (.ref x), .val (.ref wd)] [(.ref t)]))
    refine Gets.via (fun _ k => (XS.aloadN A12 hx rfl (hb hby d7_24) rfl rfl k)) ?_
    show Gets p e below _ (T11.setTop (mkF m 25 #[.val (.ref x), .val (.ref wd)] [(.ref wd), (.ref t)]))
    refine X11.callV (y := (⟨"java/lang/String", "equals", "(Ljava/lang/Object;)Z"⟩ : MethodName)) (z := (⟨"java/lang/String", "equals", "(Ljava/lang/Object;)Z"⟩ : MethodName)) (W := 0) (w65 hw) (w66 hw) (w68 hw) (w67 hw) (nfs rfl (w68 hw)) (by decide) (payEq X11 hw (w9 hw) P2 P3 O2 P5 (by decide) (by decide)) P2.1 rfl (by rw [hml]; rfl) (argsL := [(.ref wd)]) (rest := []) (lenOf pd7 rfl) rfl rfl (by show 2 * 0 + _ ≤ _; exact Nat.le_of_eq rfl) (hb hby d7_25) (by decide) (by decide) fun T13 h13 vm13 v13 X13 C13 z13 q13 => ?_
    obtain ⟨rfl, K13⟩ := q13
    rw [K13] at X13 C13
    have A14 := X13.at
    show Gets p e below _ (T13.setTop (mkF m 28 #[.val (.ref x), .val (.ref wd)] [(.int (if cs = ds then 1 else 0))]))
    by_cases b28 : (if cs = ds then 1 else 0) = (0 : Int32)
    · refine Gets.via (fun _ k => (XS.ifYes A14 hx rfl (pc0 := 28) (pc' := 35) rfl (hb hby d7_28) rfl (Jvm.Free.XT.i0_eq_t b28) (by decide) (by decide) k)) ?_
      show Gets p e below _ (T13.setTop (mkF m 35 #[.val (.ref x), .val (.ref wd)] []))
      refine Gets.via (fun _ k => (XS.iconst A14 hx rfl (hb hby d7_35) k)) ?_
      show Gets p e below _ (T13.setTop (mkF m 36 #[.val (.ref x), .val (.ref wd)] [(.int (0 : Int32))]))
      exact X13.retI hret (by decide) (by simp) (hb hby d7_36) (by decide) (by decide) ⟨(0 : Int32), rfl, rfl, (by simp_all)⟩
    · refine Gets.via (fun _ k => (XS.ifNo A14 hx rfl (hb hby d7_28) rfl (Jvm.Free.XT.i0_eq_f b28) k)) ?_
      show Gets p e below _ (T13.setTop (mkF m 31 #[.val (.ref x), .val (.ref wd)] []))
      refine Gets.via (fun _ k => (XS.iconst A14 hx rfl (hb hby d7_31) (XS.goto A14 hx rfl (pc0 := 32) (pc' := 36) rfl (hb hby d7_32) (by decide) (by decide) k))) ?_
      show Gets p e below _ (T13.setTop (mkF m 36 #[.val (.ref x), .val (.ref wd)] [(.int (1 : Int32))]))
      exact X13.retI hret (by decide) (by simp) (hb hby d7_36) (by decide) (by decide) ⟨(1 : Int32), rfl, rfl, (by simp_all)⟩
  · refine X9.acmpW hx rfl rfl rfl (pc0 := 7) (pc' := 10) (same := false) rfl (hb hby d7_7) rfl (decide_eq_false fun q => b7 (Value.ref.inj q)) (by decide) (by decide) ?_
    show Gets p e below _ (T9.setTop (mkF m 10 #[.val (.ref x), .val (.ref wd)] []))
    refine Gets.via (fun _ k => (XS.aloadN A10 hx rfl (hb hby d7_10) rfl rfl k)) ?_
    show Gets p e below _ (T9.setTop (mkF m 11 #[.val (.ref x), .val (.ref wd)] [(.ref x)]))
    refine X9.getF (host := "") (Or.inl (w53 hw)) Via.refl P0 rfl rfl (hb hby d7_11) fun T15 X15 => ?_
    have A16 := X15.at
    show Gets p e below _ (T15.setTop (mkF m 14 #[.val (.ref x), .val (.ref wd)] [(.ref kd)]))
    refine X15.getS (w88 hw) Via.refl (X15.sta OS) rfl (hb hby d7_14) fun T17 X17 => ?_
    have A18 := X17.at
    show Gets p e below _ (T17.setTop (mkF m 17 #[.val (.ref x), .val (.ref wd)] [(.ref kS), (.ref kd)]))
    by_cases b17 : kd = kS
    · refine X17.acmpW hx rfl rfl rfl (pc0 := 17) (pc' := 20) (same := true) rfl (hb hby d7_17) rfl (decide_eq_true (congrArg Value.ref b17)) (by decide) (by decide) ?_
      show Gets p e below _ (T17.setTop (mkF m 20 #[.val (.ref x), .val (.ref wd)] []))
      refine Gets.via (fun _ k => (XS.aloadN A18 hx rfl (hb hby d7_20) rfl rfl k)) ?_
      show Gets p e below _ (T17.setTop (mkF m 21 #[.val (.ref x), .val (.ref wd)] [(.ref x)]))
      refine X17.getF (host := "") (Or.inl (w55 hw)) Via.refl P1 rfl rfl (hb hby d7_21) fun T19 X19 => ?_
      have A20 := X19.at
      show Gets p e below _ (T19.setTop (mkF m 24 #[.val (.ref x), .val (.ref wd)] [(.ref t)]))
      refine Gets.via (fun _ k => (XS.aloadN A20 hx rfl (hb hby d7_24) rfl rfl k)) ?_
      show Gets p e below _ (T19.setTop (mkF m 25 #[.val (.ref x), .val (.ref wd)] [(.ref wd), (.ref t)]))
      refine X19.callV (y := (⟨"java/lang/String", "equals", "(Ljava/lang/Object;)Z"⟩ : MethodName)) (z := (⟨"java/lang/String", "equals", "(Ljava/lang/Object;)Z"⟩ : MethodName)) (W := 0) (w65 hw) (w66 hw) (w68 hw) (w67 hw) (nfs rfl (w68 hw)) (by decide) (payEq X19 hw (w9 hw) P2 P3 O2 P5 (by decide) (by decide)) P2.1 rfl (by rw [hml]; rfl) (argsL := [(.ref wd)]) (rest := []) (lenOf pd7 rfl) rfl rfl (by show 2 * 0 + _ ≤ _; exact Nat.le_of_eq rfl) (hb hby d7_25) (by decide) (by decide) fun T21 h21 vm21 v21 X21 C21 z21 q21 => ?_
      obtain ⟨rfl, K21⟩ := q21
      rw [K21] at X21 C21
      have A22 := X21.at
      show Gets p e below _ (T21.setTop (mkF m 28 #[.val (.ref x), .val (.ref wd)] [(.int (if cs = ds then 1 else 0))]))
      by_cases b28 : (if cs = ds then 1 else 0) = (0 : Int32)
      · refine Gets.via (fun _ k => (XS.ifYes A22 hx rfl (pc0 := 28) (pc' := 35) rfl (hb hby d7_28) rfl (Jvm.Free.XT.i0_eq_t b28) (by decide) (by decide) k)) ?_
        show Gets p e below _ (T21.setTop (mkF m 35 #[.val (.ref x), .val (.ref wd)] []))
        refine Gets.via (fun _ k => (XS.iconst A22 hx rfl (hb hby d7_35) k)) ?_
        show Gets p e below _ (T21.setTop (mkF m 36 #[.val (.ref x), .val (.ref wd)] [(.int (0 : Int32))]))
        exact X21.retI hret (by decide) (by simp) (hb hby d7_36) (by decide) (by decide) ⟨(0 : Int32), rfl, rfl, (by simp_all)⟩
      · refine Gets.via (fun _ k => (XS.ifNo A22 hx rfl (hb hby d7_28) rfl (Jvm.Free.XT.i0_eq_f b28) k)) ?_
        show Gets p e below _ (T21.setTop (mkF m 31 #[.val (.ref x), .val (.ref wd)] []))
        refine Gets.via (fun _ k => (XS.iconst A22 hx rfl (hb hby d7_31) (XS.goto A22 hx rfl (pc0 := 32) (pc' := 36) rfl (hb hby d7_32) (by decide) (by decide) k))) ?_
        show Gets p e below _ (T21.setTop (mkF m 36 #[.val (.ref x), .val (.ref wd)] [(.int (1 : Int32))]))
        exact X21.retI hret (by decide) (by simp) (hb hby d7_36) (by decide) (by decide) ⟨(1 : Int32), rfl, rfl, (by simp_all)⟩
    · refine X17.acmpW hx rfl rfl rfl (pc0 := 17) (pc' := 35) (same := false) rfl (hb hby d7_17) rfl (decide_eq_false fun q => b17 (Value.ref.inj q)) (by decide) (by decide) ?_
      show Gets p e below _ (T17.setTop (mkF m 35 #[.val (.ref x), .val (.ref wd)] []))
      refine Gets.via (fun _ k => (XS.iconst A18 hx rfl (hb hby d7_35) k)) ?_
      show Gets p e below _ (T17.setTop (mkF m 36 #[.val (.ref x), .val (.ref wd)] [(.int (0 : Int32))]))
      exact X17.retI hret (by decide) (by simp) (hb hby d7_36) (by decide) (by decide) ⟨(0 : Int32), rfl, rfl, (by simp_all)⟩
abbrev RrmLaw : Room := room_1
def QrmLaw (Z : State) (kW : Addr) (kS : Addr) (p0 : Int32) (p1 : Int32) (p2 : Int32) (p3 : Int32) (p4 : Int32) (p5 : Int32) (h0 : Heap) (v : Option Value) (h : Heap) : Prop := v = some (.int (1 : Int32)) ∧ Keep h0 h []
set_option maxRecDepth 65536 in
set_option maxHeartbeats 40000000 in
theorem rmLaw (l : Launch) (Z : State) (a0 : Array Value) (hw : ∀ d ∈ tables_1, d.before a0 Z = true) (hEL : EW Z a0 consts_1) (zc : Int32) (O2 : Sta Z Z.heap "java/lang/String" "COMPACT_STRINGS" "Z" (.int zc)) (P5 : ¬ zc = 0) (kW kS kI kE : Addr) (OW : Sta Z Z.heap "com/example/carve/carve/model/Token$Kind" "WORD" "Lcom/example/carve/carve/model/Token$Kind;" (.ref kW)) (OS : Sta Z Z.heap "com/example/carve/carve/model/Token$Kind" "SYMBOL" "Lcom/example/carve/carve/model/Token$Kind;" (.ref kS)) (OI : Sta Z Z.heap "com/example/carve/carve/model/Token$Kind" "INVALID" "Lcom/example/carve/carve/model/Token$Kind;" (.ref kI)) (OE : Sta Z Z.heap "com/example/carve/carve/model/Token$Kind" "END" "Lcom/example/carve/carve/model/Token$Kind;" (.ref kE)) (dk : kI ≠ kW ∧ kI ≠ kS ∧ kE ≠ kW ∧ kE ≠ kS) (p0 : Int32) (p1 : Int32) (p2 : Int32) (p3 : Int32) (p4 : Int32) (p5 : Int32) (h0 : Heap) (O0 : Old Z Z.heap.size h0)  : Met l Z consts_1 x code maxLocals ret tables_1 RrmLaw [] #[(.int p0), (.int p1), (.int p2), (.int p3), (.int p4), (.int p5)] h0 (QrmLaw Z kW kS p0 p1 p2 p3 p4 p5 h0) := by
  refine Met.start (a0 := a0) (Ls := #[.val (.int p0), .val (.int p1), .val (.int p2), .val (.int p3), .val (.int p4), .val (.int p5), .unset, .unset, .unset, .unset, .unset, .unset, .unset, .unset, .unset, .unset, .unset, .unset]) pn17 hEL O0 (fun m => by first | (simp [entryFrame, mkF, argsToLocals, Value.category, maxLocals]; done) | rfl) ?_
  intro p e s m below meth cc T0 vm0 X0 sf0_ hby hml hret hnm
  have hx := X0.hx
  have zz := X0.ge
  have A0 := X0.at
  show Gets p e below _ (T0.setTop (mkF m 0 #[.val (.int p0), .val (.int p1), .val (.int p2), .val (.int p3), .val (.int p4), .val (.int p5), .unset, .unset, .unset, .unset, .unset, .unset, .unset, .unset, .unset, .unset, .unset, .unset] []))
  refine Gets.via (fun _ k => (XS.iloadN A0 hx rfl (hb hby at_0) rfl (XS.iconst A0 hx rfl (hb hby at_1) (XS.iand A0 hx rfl (hb hby at_2) rfl (XS.istore A0 hx rfl (hb hby at_3) rfl (l' := #[.val (.int p0), .val (.int p1), .val (.int p2), .val (.int p3), .val (.int p4), .val (.int p5), .val (.int (p0 &&& (3 : Int32))), .unset, .unset, .unset, .unset, .unset, .unset, .unset, .unset, .unset, .unset, .unset]) rfl (XS.iload A0 hx rfl (hb hby at_5) rfl k)))))) ?_
  show Gets p e below _ (T0.setTop (mkF m 7 #[.val (.int p0), .val (.int p1), .val (.int p2), .val (.int p3), .val (.int p4), .val (.int p5), .val (.int (p0 &&& (3 : Int32))), .unset, .unset, .unset, .unset, .unset, .unset, .unset, .unset, .unset, .unset, .unset] [(.int (p0 &&& (3 : Int32)))]))
  have j51 : ∀ (T1 : State) (X1 : Wk p l e RrmLaw s m #[(.int p0), (.int p1), (.int p2), (.int p3), (.int p4), (.int p5)] below meth cc x.cls Z a0 consts_1 h0 T1 h0 vm0 0 0) (kd : Addr) (hk : ((p0 &&& (3 : Int32)) = 0 ∨ (p0 &&& (3 : Int32)) = 1) ↔ (kd = kW ∨ kd = kS)), Gets p e below (Jvm.Ow.Out s Z consts_1 RrmLaw (QrmLaw Z kW kS p0 p1 p2 p3 p4 p5 h0)) (T1.setTop (mkF m 51 #[.val (.int p0), .val (.int p1), .val (.int p2), .val (.int p3), .val (.int p4), .val (.int p5), .val (.int (p0 &&& (3 : Int32))), .val (.ref kd), .unset, .unset, .unset, .unset, .unset, .unset, .unset, .unset, .unset, .unset] [])) := by
    intro T1 X1 kd hk
    have A2 := X1.at
    refine Gets.via (fun _ k => (XS.iload A2 hx rfl (hb hby at_51) rfl k)) ?_
    show Gets p e below _ (T1.setTop (mkF m 53 #[.val (.int p0), .val (.int p1), .val (.int p2), .val (.int p3), .val (.int p4), .val (.int p5), .val (.int (p0 &&& (3 : Int32))), .val (.ref kd), .unset, .unset, .unset, .unset, .unset, .unset, .unset, .unset, .unset, .unset] [(.int p5)]))
    refine X1.ldcI (w3 hw) rfl (hb hby at_53) ?_
    show Gets p e below _ (T1.setTop (mkF m 55 #[.val (.int p0), .val (.int p1), .val (.int p2), .val (.int p3), .val (.int p4), .val (.int p5), .val (.int (p0 &&& (3 : Int32))), .val (.ref kd), .unset, .unset, .unset, .unset, .unset, .unset, .unset, .unset, .unset, .unset] [(.int (2147483647 : Int32)), (.int p5)]))
    refine Gets.via (fun _ k => (XS.iand A2 hx rfl (hb hby at_55) rfl (XS.iconst A2 hx rfl (hb hby at_56) (iremV A2 hx rfl (hb hby at_57) rfl (by decide) (XS.istore A2 hx rfl (hb hby at_58) rfl (l' := #[.val (.int p0), .val (.int p1), .val (.int p2), .val (.int p3), .val (.int p4), .val (.int p5), .val (.int (p0 &&& (3 : Int32))), .val (.ref kd), .val (.int ((p5 &&& (2147483647 : Int32)) % (3 : Int32))), .unset, .unset, .unset, .unset, .unset, .unset, .unset, .unset, .unset]) rfl (XS.iload A2 hx rfl (hb hby at_60) rfl (XS.bipush A2 hx rfl (hb hby at_62) k))))))) ?_
    show Gets p e below _ (T1.setTop (mkF m 64 #[.val (.int p0), .val (.int p1), .val (.int p2), .val (.int p3), .val (.int p4), .val (.int p5), .val (.int (p0 &&& (3 : Int32))), .val (.ref kd), .val (.int ((p5 &&& (2147483647 : Int32)) % (3 : Int32))), .unset, .unset, .unset, .unset, .unset, .unset, .unset, .unset, .unset] [(.int (16 : Int32)), (.int p5)]))
    refine Gets.via (fun _ k => (XS.iand A2 hx rfl (hb hby at_64) rfl k)) ?_
    show Gets p e below _ (T1.setTop (mkF m 65 #[.val (.int p0), .val (.int p1), .val (.int p2), .val (.int p3), .val (.int p4), .val (.int p5), .val (.int (p0 &&& (3 : Int32))), .val (.ref kd), .val (.int ((p5 &&& (2147483647 : Int32)) % (3 : Int32))), .unset, .unset, .unset, .unset, .unset, .unset, .unset, .unset, .unset] [(.int (p5 &&& (16 : Int32)))]))
    have j79 : ∀ (T4 : State) (X4 : Wk p l e RrmLaw s m #[(.int p0), (.int p1), (.int p2), (.int p3), (.int p4), (.int p5)] below meth cc x.cls Z a0 consts_1 h0 T4 h0 vm0 0 0), Gets p e below (Jvm.Ow.Out s Z consts_1 RrmLaw (QrmLaw Z kW kS p0 p1 p2 p3 p4 p5 h0)) (T4.setTop (mkF m 79 #[.val (.int p0), .val (.int p1), .val (.int p2), .val (.int p3), .val (.int p4), .val (.int p5), .val (.int (p0 &&& (3 : Int32))), .val (.ref kd), .val (.int ((p5 &&& (2147483647 : Int32)) % (3 : Int32))), .unset, .unset, .unset, .unset, .unset, .unset, .unset, .unset, .unset] [(.int (if (p5 &&& (16 : Int32)) = (0 : Int32) then ((Jvm.Free.XT.ushr p5 (5 : Int32)) % (3 : Int32)) else ((p5 &&& (2147483647 : Int32)) % (3 : Int32))))])) := by
      intro T4 X4 
      have A5 := X4.at
      refine Gets.via (fun _ k => (XS.istore A5 hx rfl (hb hby at_79) rfl (l' := #[.val (.int p0), .val (.int p1), .val (.int p2), .val (.int p3), .val (.int p4), .val (.int p5), .val (.int (p0 &&& (3 : Int32))), .val (.ref kd), .val (.int ((p5 &&& (2147483647 : Int32)) % (3 : Int32))), .val (.int (if (p5 &&& (16 : Int32)) = (0 : Int32) then ((Jvm.Free.XT.ushr p5 (5 : Int32)) % (3 : Int32)) else ((p5 &&& (2147483647 : Int32)) % (3 : Int32)))), .unset, .unset, .unset, .unset, .unset, .unset, .unset, .unset]) rfl (XS.iloadN A5 hx rfl (hb hby at_81) rfl (XS.sipush A5 hx rfl (hb hby at_82) (XS.iand A5 hx rfl (hb hby at_85) rfl (i2cV A5 hx rfl (hb hby at_86) rfl (v := (p1 &&& (255 : Int32))) (i2c_m255 _) (XS.istore A5 hx rfl (hb hby at_87) rfl (l' := #[.val (.int p0), .val (.int p1), .val (.int p2), .val (.int p3), .val (.int p4), .val (.int p5), .val (.int (p0 &&& (3 : Int32))), .val (.ref kd), .val (.int ((p5 &&& (2147483647 : Int32)) % (3 : Int32))), .val (.int (if (p5 &&& (16 : Int32)) = (0 : Int32) then ((Jvm.Free.XT.ushr p5 (5 : Int32)) % (3 : Int32)) else ((p5 &&& (2147483647 : Int32)) % (3 : Int32)))), .val (.int (p1 &&& (255 : Int32))), .unset, .unset, .unset, .unset, .unset, .unset, .unset]) rfl k))))))) ?_
      show Gets p e below _ (T4.setTop (mkF m 89 #[.val (.int p0), .val (.int p1), .val (.int p2), .val (.int p3), .val (.int p4), .val (.int p5), .val (.int (p0 &&& (3 : Int32))), .val (.ref kd), .val (.int ((p5 &&& (2147483647 : Int32)) % (3 : Int32))), .val (.int (if (p5 &&& (16 : Int32)) = (0 : Int32) then ((Jvm.Free.XT.ushr p5 (5 : Int32)) % (3 : Int32)) else ((p5 &&& (2147483647 : Int32)) % (3 : Int32)))), .val (.int (p1 &&& (255 : Int32))), .unset, .unset, .unset, .unset, .unset, .unset, .unset] []))
      refine Gets.via (fun _ k => (XS.iloadN A5 hx rfl (hb hby at_89) rfl (XS.sipush A5 hx rfl (hb hby at_90) (XS.iand A5 hx rfl (hb hby at_93) rfl (i2cV A5 hx rfl (hb hby at_94) rfl (v := (p2 &&& (255 : Int32))) (i2c_m255 _) (XS.istore A5 hx rfl (hb hby at_95) rfl (l' := #[.val (.int p0), .val (.int p1), .val (.int p2), .val (.int p3), .val (.int p4), .val (.int p5), .val (.int (p0 &&& (3 : Int32))), .val (.ref kd), .val (.int ((p5 &&& (2147483647 : Int32)) % (3 : Int32))), .val (.int (if (p5 &&& (16 : Int32)) = (0 : Int32) then ((Jvm.Free.XT.ushr p5 (5 : Int32)) % (3 : Int32)) else ((p5 &&& (2147483647 : Int32)) % (3 : Int32)))), .val (.int (p1 &&& (255 : Int32))), .val (.int (p2 &&& (255 : Int32))), .unset, .unset, .unset, .unset, .unset, .unset]) rfl (XS.iloadN A5 hx rfl (hb hby at_97) rfl k))))))) ?_
      show Gets p e below _ (T4.setTop (mkF m 98 #[.val (.int p0), .val (.int p1), .val (.int p2), .val (.int p3), .val (.int p4), .val (.int p5), .val (.int (p0 &&& (3 : Int32))), .val (.ref kd), .val (.int ((p5 &&& (2147483647 : Int32)) % (3 : Int32))), .val (.int (if (p5 &&& (16 : Int32)) = (0 : Int32) then ((Jvm.Free.XT.ushr p5 (5 : Int32)) % (3 : Int32)) else ((p5 &&& (2147483647 : Int32)) % (3 : Int32)))), .val (.int (p1 &&& (255 : Int32))), .val (.int (p2 &&& (255 : Int32))), .unset, .unset, .unset, .unset, .unset, .unset] [(.int p3)]))
      refine Gets.via (fun _ k => (XS.iconst A5 hx rfl (hb hby at_98) (XS.iand A5 hx rfl (hb hby at_99) rfl k))) ?_
      show Gets p e below _ (T4.setTop (mkF m 100 #[.val (.int p0), .val (.int p1), .val (.int p2), .val (.int p3), .val (.int p4), .val (.int p5), .val (.int (p0 &&& (3 : Int32))), .val (.ref kd), .val (.int ((p5 &&& (2147483647 : Int32)) % (3 : Int32))), .val (.int (if (p5 &&& (16 : Int32)) = (0 : Int32) then ((Jvm.Free.XT.ushr p5 (5 : Int32)) % (3 : Int32)) else ((p5 &&& (2147483647 : Int32)) % (3 : Int32)))), .val (.int (p1 &&& (255 : Int32))), .val (.int (p2 &&& (255 : Int32))), .unset, .unset, .unset, .unset, .unset, .unset] [(.int (p3 &&& (1 : Int32)))]))
      have j116 : ∀ (T6 : State) (X6 : Wk p l e RrmLaw s m #[(.int p0), (.int p1), (.int p2), (.int p3), (.int p4), (.int p5)] below meth cc x.cls Z a0 consts_1 h0 T6 h0 vm0 0 0), Gets p e below (Jvm.Ow.Out s Z consts_1 RrmLaw (QrmLaw Z kW kS p0 p1 p2 p3 p4 p5 h0)) (T6.setTop (mkF m 116 #[.val (.int p0), .val (.int p1), .val (.int p2), .val (.int p3), .val (.int p4), .val (.int p5), .val (.int (p0 &&& (3 : Int32))), .val (.ref kd), .val (.int ((p5 &&& (2147483647 : Int32)) % (3 : Int32))), .val (.int (if (p5 &&& (16 : Int32)) = (0 : Int32) then ((Jvm.Free.XT.ushr p5 (5 : Int32)) % (3 : Int32)) else ((p5 &&& (2147483647 : Int32)) % (3 : Int32)))), .val (.int (p1 &&& (255 : Int32))), .val (.int (p2 &&& (255 : Int32))), .unset, .unset, .unset, .unset, .unset, .unset] [(.int (if (p3 &&& (1 : Int32)) = (0 : Int32) then ((Jvm.Free.XT.ushr p3 (1 : Int32)) &&& (255 : Int32)) else (p1 &&& (255 : Int32))))])) := by
        intro T6 X6 
        have A7 := X6.at
        refine Gets.via (fun _ k => (XS.istore A7 hx rfl (hb hby at_116) rfl (l' := #[.val (.int p0), .val (.int p1), .val (.int p2), .val (.int p3), .val (.int p4), .val (.int p5), .val (.int (p0 &&& (3 : Int32))), .val (.ref kd), .val (.int ((p5 &&& (2147483647 : Int32)) % (3 : Int32))), .val (.int (if (p5 &&& (16 : Int32)) = (0 : Int32) then ((Jvm.Free.XT.ushr p5 (5 : Int32)) % (3 : Int32)) else ((p5 &&& (2147483647 : Int32)) % (3 : Int32)))), .val (.int (p1 &&& (255 : Int32))), .val (.int (p2 &&& (255 : Int32))), .val (.int (if (p3 &&& (1 : Int32)) = (0 : Int32) then ((Jvm.Free.XT.ushr p3 (1 : Int32)) &&& (255 : Int32)) else (p1 &&& (255 : Int32)))), .unset, .unset, .unset, .unset, .unset]) rfl (XS.iload A7 hx rfl (hb hby at_118) rfl (XS.iconst A7 hx rfl (hb hby at_120) (XS.iand A7 hx rfl (hb hby at_121) rfl k))))) ?_
        show Gets p e below _ (T6.setTop (mkF m 122 #[.val (.int p0), .val (.int p1), .val (.int p2), .val (.int p3), .val (.int p4), .val (.int p5), .val (.int (p0 &&& (3 : Int32))), .val (.ref kd), .val (.int ((p5 &&& (2147483647 : Int32)) % (3 : Int32))), .val (.int (if (p5 &&& (16 : Int32)) = (0 : Int32) then ((Jvm.Free.XT.ushr p5 (5 : Int32)) % (3 : Int32)) else ((p5 &&& (2147483647 : Int32)) % (3 : Int32)))), .val (.int (p1 &&& (255 : Int32))), .val (.int (p2 &&& (255 : Int32))), .val (.int (if (p3 &&& (1 : Int32)) = (0 : Int32) then ((Jvm.Free.XT.ushr p3 (1 : Int32)) &&& (255 : Int32)) else (p1 &&& (255 : Int32)))), .unset, .unset, .unset, .unset, .unset] [(.int (p4 &&& (1 : Int32)))]))
        have j139 : ∀ (T8 : State) (X8 : Wk p l e RrmLaw s m #[(.int p0), (.int p1), (.int p2), (.int p3), (.int p4), (.int p5)] below meth cc x.cls Z a0 consts_1 h0 T8 h0 vm0 0 0), Gets p e below (Jvm.Ow.Out s Z consts_1 RrmLaw (QrmLaw Z kW kS p0 p1 p2 p3 p4 p5 h0)) (T8.setTop (mkF m 139 #[.val (.int p0), .val (.int p1), .val (.int p2), .val (.int p3), .val (.int p4), .val (.int p5), .val (.int (p0 &&& (3 : Int32))), .val (.ref kd), .val (.int ((p5 &&& (2147483647 : Int32)) % (3 : Int32))), .val (.int (if (p5 &&& (16 : Int32)) = (0 : Int32) then ((Jvm.Free.XT.ushr p5 (5 : Int32)) % (3 : Int32)) else ((p5 &&& (2147483647 : Int32)) % (3 : Int32)))), .val (.int (p1 &&& (255 : Int32))), .val (.int (p2 &&& (255 : Int32))), .val (.int (if (p3 &&& (1 : Int32)) = (0 : Int32) then ((Jvm.Free.XT.ushr p3 (1 : Int32)) &&& (255 : Int32)) else (p1 &&& (255 : Int32)))), .unset, .unset, .unset, .unset, .unset] [(.int (if (p4 &&& (1 : Int32)) = (0 : Int32) then ((Jvm.Free.XT.ushr p4 (1 : Int32)) &&& (255 : Int32)) else (p2 &&& (255 : Int32))))])) := by
          intro T8 X8 
          have A9 := X8.at
          refine Gets.via (fun _ k => (XS.istore A9 hx rfl (hb hby at_139) rfl (l' := #[.val (.int p0), .val (.int p1), .val (.int p2), .val (.int p3), .val (.int p4), .val (.int p5), .val (.int (p0 &&& (3 : Int32))), .val (.ref kd), .val (.int ((p5 &&& (2147483647 : Int32)) % (3 : Int32))), .val (.int (if (p5 &&& (16 : Int32)) = (0 : Int32) then ((Jvm.Free.XT.ushr p5 (5 : Int32)) % (3 : Int32)) else ((p5 &&& (2147483647 : Int32)) % (3 : Int32)))), .val (.int (p1 &&& (255 : Int32))), .val (.int (p2 &&& (255 : Int32))), .val (.int (if (p3 &&& (1 : Int32)) = (0 : Int32) then ((Jvm.Free.XT.ushr p3 (1 : Int32)) &&& (255 : Int32)) else (p1 &&& (255 : Int32)))), .val (.int (if (p4 &&& (1 : Int32)) = (0 : Int32) then ((Jvm.Free.XT.ushr p4 (1 : Int32)) &&& (255 : Int32)) else (p2 &&& (255 : Int32)))), .unset, .unset, .unset, .unset]) rfl (XS.iload A9 hx rfl (hb hby at_141) rfl (XS.iload A9 hx rfl (hb hby at_143) rfl (XS.iload A9 hx rfl (hb hby at_145) rfl k))))) ?_
          show Gets p e below _ (T8.setTop (mkF m 147 #[.val (.int p0), .val (.int p1), .val (.int p2), .val (.int p3), .val (.int p4), .val (.int p5), .val (.int (p0 &&& (3 : Int32))), .val (.ref kd), .val (.int ((p5 &&& (2147483647 : Int32)) % (3 : Int32))), .val (.int (if (p5 &&& (16 : Int32)) = (0 : Int32) then ((Jvm.Free.XT.ushr p5 (5 : Int32)) % (3 : Int32)) else ((p5 &&& (2147483647 : Int32)) % (3 : Int32)))), .val (.int (p1 &&& (255 : Int32))), .val (.int (p2 &&& (255 : Int32))), .val (.int (if (p3 &&& (1 : Int32)) = (0 : Int32) then ((Jvm.Free.XT.ushr p3 (1 : Int32)) &&& (255 : Int32)) else (p1 &&& (255 : Int32)))), .val (.int (if (p4 &&& (1 : Int32)) = (0 : Int32) then ((Jvm.Free.XT.ushr p4 (1 : Int32)) &&& (255 : Int32)) else (p2 &&& (255 : Int32)))), .unset, .unset, .unset, .unset] [(.int (p2 &&& (255 : Int32))), (.int (p1 &&& (255 : Int32))), (.int ((p5 &&& (2147483647 : Int32)) % (3 : Int32)))]))
          refine X8.callS (y := (⟨"com/example/carve/carve/model/TokenIsPinLaw", "make", "(ICC)Ljava/lang/String;"⟩ : MethodName)) (W := 0) (w4 hw) (w5 hw) (w6 hw) (w7 hw) (by decide) (X8.payM (sf := []) (rm0 l Z a0 hw hEL zc O2 P5 kW kS kI kE OW OS OI OE dk ((p5 &&& (2147483647 : Int32)) % (3 : Int32)) (p1 &&& (255 : Int32)) (p2 &&& (255 : Int32)) h0 X8.old (m255 _) (m255 _)) sf0 (w7 hw) (w6 hw) (by decide) (by decide)) rfl (by rw [hml]; rfl) (argsL := [(.int ((p5 &&& (2147483647 : Int32)) % (3 : Int32))), (.int (p1 &&& (255 : Int32))), (.int (p2 &&& (255 : Int32)))]) (rest := []) (lenOf pd8 rfl) rfl rfl (by show 2 * 0 + _ ≤ _; exact Nat.le_of_eq rfl) (hb hby at_147) (by decide) (by decide) fun T10 h10 vm10 v10 X10 C10 z10 q10 => ?_
          obtain ⟨a10, b10, kb10, cs10, rfl, K10, g10_0, g10_1, g10_2⟩ := q10
          have l11 := ltA g10_0.lt
          have l12 := ltA g10_0.lb
          have A13 := X10.at
          show Gets p e below _ (T10.setTop (mkF m 150 #[.val (.int p0), .val (.int p1), .val (.int p2), .val (.int p3), .val (.int p4), .val (.int p5), .val (.int (p0 &&& (3 : Int32))), .val (.ref kd), .val (.int ((p5 &&& (2147483647 : Int32)) % (3 : Int32))), .val (.int (if (p5 &&& (16 : Int32)) = (0 : Int32) then ((Jvm.Free.XT.ushr p5 (5 : Int32)) % (3 : Int32)) else ((p5 &&& (2147483647 : Int32)) % (3 : Int32)))), .val (.int (p1 &&& (255 : Int32))), .val (.int (p2 &&& (255 : Int32))), .val (.int (if (p3 &&& (1 : Int32)) = (0 : Int32) then ((Jvm.Free.XT.ushr p3 (1 : Int32)) &&& (255 : Int32)) else (p1 &&& (255 : Int32)))), .val (.int (if (p4 &&& (1 : Int32)) = (0 : Int32) then ((Jvm.Free.XT.ushr p4 (1 : Int32)) &&& (255 : Int32)) else (p2 &&& (255 : Int32)))), .unset, .unset, .unset, .unset] [(.ref a10)]))
          refine Gets.via (fun _ k => (XS.astore A13 hx rfl (hb hby at_150) rfl rfl (l' := #[.val (.int p0), .val (.int p1), .val (.int p2), .val (.int p3), .val (.int p4), .val (.int p5), .val (.int (p0 &&& (3 : Int32))), .val (.ref kd), .val (.int ((p5 &&& (2147483647 : Int32)) % (3 : Int32))), .val (.int (if (p5 &&& (16 : Int32)) = (0 : Int32) then ((Jvm.Free.XT.ushr p5 (5 : Int32)) % (3 : Int32)) else ((p5 &&& (2147483647 : Int32)) % (3 : Int32)))), .val (.int (p1 &&& (255 : Int32))), .val (.int (p2 &&& (255 : Int32))), .val (.int (if (p3 &&& (1 : Int32)) = (0 : Int32) then ((Jvm.Free.XT.ushr p3 (1 : Int32)) &&& (255 : Int32)) else (p1 &&& (255 : Int32)))), .val (.int (if (p4 &&& (1 : Int32)) = (0 : Int32) then ((Jvm.Free.XT.ushr p4 (1 : Int32)) &&& (255 : Int32)) else (p2 &&& (255 : Int32)))), .val (.ref a10), .unset, .unset, .unset]) rfl (XS.iload A13 hx rfl (hb hby at_152) rfl (XS.iload A13 hx rfl (hb hby at_154) rfl (XS.iload A13 hx rfl (hb hby at_156) rfl k))))) ?_
          show Gets p e below _ (T10.setTop (mkF m 158 #[.val (.int p0), .val (.int p1), .val (.int p2), .val (.int p3), .val (.int p4), .val (.int p5), .val (.int (p0 &&& (3 : Int32))), .val (.ref kd), .val (.int ((p5 &&& (2147483647 : Int32)) % (3 : Int32))), .val (.int (if (p5 &&& (16 : Int32)) = (0 : Int32) then ((Jvm.Free.XT.ushr p5 (5 : Int32)) % (3 : Int32)) else ((p5 &&& (2147483647 : Int32)) % (3 : Int32)))), .val (.int (p1 &&& (255 : Int32))), .val (.int (p2 &&& (255 : Int32))), .val (.int (if (p3 &&& (1 : Int32)) = (0 : Int32) then ((Jvm.Free.XT.ushr p3 (1 : Int32)) &&& (255 : Int32)) else (p1 &&& (255 : Int32)))), .val (.int (if (p4 &&& (1 : Int32)) = (0 : Int32) then ((Jvm.Free.XT.ushr p4 (1 : Int32)) &&& (255 : Int32)) else (p2 &&& (255 : Int32)))), .val (.ref a10), .unset, .unset, .unset] [(.int (if (p4 &&& (1 : Int32)) = (0 : Int32) then ((Jvm.Free.XT.ushr p4 (1 : Int32)) &&& (255 : Int32)) else (p2 &&& (255 : Int32)))), (.int (if (p3 &&& (1 : Int32)) = (0 : Int32) then ((Jvm.Free.XT.ushr p3 (1 : Int32)) &&& (255 : Int32)) else (p1 &&& (255 : Int32)))), (.int (if (p5 &&& (16 : Int32)) = (0 : Int32) then ((Jvm.Free.XT.ushr p5 (5 : Int32)) % (3 : Int32)) else ((p5 &&& (2147483647 : Int32)) % (3 : Int32))))]))
          refine X10.callS (y := (⟨"com/example/carve/carve/model/TokenIsPinLaw", "make", "(ICC)Ljava/lang/String;"⟩ : MethodName)) (W := 0) (w4 hw) (w5 hw) (w6 hw) (w7 hw) (by decide) (X10.payM (sf := []) (rm0 l Z a0 hw hEL zc O2 P5 kW kS kI kE OW OS OI OE dk (if (p5 &&& (16 : Int32)) = (0 : Int32) then ((Jvm.Free.XT.ushr p5 (5 : Int32)) % (3 : Int32)) else ((p5 &&& (2147483647 : Int32)) % (3 : Int32))) (if (p3 &&& (1 : Int32)) = (0 : Int32) then ((Jvm.Free.XT.ushr p3 (1 : Int32)) &&& (255 : Int32)) else (p1 &&& (255 : Int32))) (if (p4 &&& (1 : Int32)) = (0 : Int32) then ((Jvm.Free.XT.ushr p4 (1 : Int32)) &&& (255 : Int32)) else (p2 &&& (255 : Int32))) h10 X10.old (by split <;> exact m255 _) (by split <;> exact m255 _)) sf0 (w7 hw) (w6 hw) (by decide) (by decide)) rfl (by rw [hml]; rfl) (argsL := [(.int (if (p5 &&& (16 : Int32)) = (0 : Int32) then ((Jvm.Free.XT.ushr p5 (5 : Int32)) % (3 : Int32)) else ((p5 &&& (2147483647 : Int32)) % (3 : Int32)))), (.int (if (p3 &&& (1 : Int32)) = (0 : Int32) then ((Jvm.Free.XT.ushr p3 (1 : Int32)) &&& (255 : Int32)) else (p1 &&& (255 : Int32)))), (.int (if (p4 &&& (1 : Int32)) = (0 : Int32) then ((Jvm.Free.XT.ushr p4 (1 : Int32)) &&& (255 : Int32)) else (p2 &&& (255 : Int32))))]) (rest := []) (lenOf pd8 rfl) rfl rfl (by show 2 * 0 + _ ≤ _; exact Nat.le_of_eq rfl) (hb hby at_158) (by decide) (by decide) fun T14 h14 vm14 v14 X14 C14 z14 q14 => ?_
          obtain ⟨a14, b14, kb14, cs14, rfl, K14, g14_0, g14_1, g14_2⟩ := q14
          have l15 := ltA g14_0.lt
          have l16 := ltA g14_0.lb
          have A17 := X14.at
          show Gets p e below _ (T14.setTop (mkF m 161 #[.val (.int p0), .val (.int p1), .val (.int p2), .val (.int p3), .val (.int p4), .val (.int p5), .val (.int (p0 &&& (3 : Int32))), .val (.ref kd), .val (.int ((p5 &&& (2147483647 : Int32)) % (3 : Int32))), .val (.int (if (p5 &&& (16 : Int32)) = (0 : Int32) then ((Jvm.Free.XT.ushr p5 (5 : Int32)) % (3 : Int32)) else ((p5 &&& (2147483647 : Int32)) % (3 : Int32)))), .val (.int (p1 &&& (255 : Int32))), .val (.int (p2 &&& (255 : Int32))), .val (.int (if (p3 &&& (1 : Int32)) = (0 : Int32) then ((Jvm.Free.XT.ushr p3 (1 : Int32)) &&& (255 : Int32)) else (p1 &&& (255 : Int32)))), .val (.int (if (p4 &&& (1 : Int32)) = (0 : Int32) then ((Jvm.Free.XT.ushr p4 (1 : Int32)) &&& (255 : Int32)) else (p2 &&& (255 : Int32)))), .val (.ref a10), .unset, .unset, .unset] [(.ref a14)]))
          refine Gets.via (fun _ k => (XS.astore A17 hx rfl (hb hby at_161) rfl rfl (l' := #[.val (.int p0), .val (.int p1), .val (.int p2), .val (.int p3), .val (.int p4), .val (.int p5), .val (.int (p0 &&& (3 : Int32))), .val (.ref kd), .val (.int ((p5 &&& (2147483647 : Int32)) % (3 : Int32))), .val (.int (if (p5 &&& (16 : Int32)) = (0 : Int32) then ((Jvm.Free.XT.ushr p5 (5 : Int32)) % (3 : Int32)) else ((p5 &&& (2147483647 : Int32)) % (3 : Int32)))), .val (.int (p1 &&& (255 : Int32))), .val (.int (p2 &&& (255 : Int32))), .val (.int (if (p3 &&& (1 : Int32)) = (0 : Int32) then ((Jvm.Free.XT.ushr p3 (1 : Int32)) &&& (255 : Int32)) else (p1 &&& (255 : Int32)))), .val (.int (if (p4 &&& (1 : Int32)) = (0 : Int32) then ((Jvm.Free.XT.ushr p4 (1 : Int32)) &&& (255 : Int32)) else (p2 &&& (255 : Int32)))), .val (.ref a10), .val (.ref a14), .unset, .unset]) rfl k)) ?_
          show Gets p e below _ (T14.setTop (mkF m 163 #[.val (.int p0), .val (.int p1), .val (.int p2), .val (.int p3), .val (.int p4), .val (.int p5), .val (.int (p0 &&& (3 : Int32))), .val (.ref kd), .val (.int ((p5 &&& (2147483647 : Int32)) % (3 : Int32))), .val (.int (if (p5 &&& (16 : Int32)) = (0 : Int32) then ((Jvm.Free.XT.ushr p5 (5 : Int32)) % (3 : Int32)) else ((p5 &&& (2147483647 : Int32)) % (3 : Int32)))), .val (.int (p1 &&& (255 : Int32))), .val (.int (p2 &&& (255 : Int32))), .val (.int (if (p3 &&& (1 : Int32)) = (0 : Int32) then ((Jvm.Free.XT.ushr p3 (1 : Int32)) &&& (255 : Int32)) else (p1 &&& (255 : Int32)))), .val (.int (if (p4 &&& (1 : Int32)) = (0 : Int32) then ((Jvm.Free.XT.ushr p4 (1 : Int32)) &&& (255 : Int32)) else (p2 &&& (255 : Int32)))), .val (.ref a10), .val (.ref a14), .unset, .unset] []))
          refine X14.new (w30 hw) (w31 hw) (w32 hw) rfl (hb hby at_163) (by decide) (by decide) fun T18 h18 a18 X18 C18 E18 g18 Z18 S18 D18 => ?_
          have z18 := E18.1
          have l18 := ltA Z18.lt
          have A19 := X18.at
          show Gets p e below _ (T18.setTop (mkF m 166 #[.val (.int p0), .val (.int p1), .val (.int p2), .val (.int p3), .val (.int p4), .val (.int p5), .val (.int (p0 &&& (3 : Int32))), .val (.ref kd), .val (.int ((p5 &&& (2147483647 : Int32)) % (3 : Int32))), .val (.int (if (p5 &&& (16 : Int32)) = (0 : Int32) then ((Jvm.Free.XT.ushr p5 (5 : Int32)) % (3 : Int32)) else ((p5 &&& (2147483647 : Int32)) % (3 : Int32)))), .val (.int (p1 &&& (255 : Int32))), .val (.int (p2 &&& (255 : Int32))), .val (.int (if (p3 &&& (1 : Int32)) = (0 : Int32) then ((Jvm.Free.XT.ushr p3 (1 : Int32)) &&& (255 : Int32)) else (p1 &&& (255 : Int32)))), .val (.int (if (p4 &&& (1 : Int32)) = (0 : Int32) then ((Jvm.Free.XT.ushr p4 (1 : Int32)) &&& (255 : Int32)) else (p2 &&& (255 : Int32)))), .val (.ref a10), .val (.ref a14), .unset, .unset] [(.ref a18)]))
          refine Gets.via (fun _ k => (XS.dup A19 hx rfl (hb hby at_166) rfl rfl (XS.aload A19 hx rfl (hb hby at_167) rfl rfl (XS.aload A19 hx rfl (hb hby at_169) rfl rfl k)))) ?_
          show Gets p e below _ (T18.setTop (mkF m 171 #[.val (.int p0), .val (.int p1), .val (.int p2), .val (.int p3), .val (.int p4), .val (.int p5), .val (.int (p0 &&& (3 : Int32))), .val (.ref kd), .val (.int ((p5 &&& (2147483647 : Int32)) % (3 : Int32))), .val (.int (if (p5 &&& (16 : Int32)) = (0 : Int32) then ((Jvm.Free.XT.ushr p5 (5 : Int32)) % (3 : Int32)) else ((p5 &&& (2147483647 : Int32)) % (3 : Int32)))), .val (.int (p1 &&& (255 : Int32))), .val (.int (p2 &&& (255 : Int32))), .val (.int (if (p3 &&& (1 : Int32)) = (0 : Int32) then ((Jvm.Free.XT.ushr p3 (1 : Int32)) &&& (255 : Int32)) else (p1 &&& (255 : Int32)))), .val (.int (if (p4 &&& (1 : Int32)) = (0 : Int32) then ((Jvm.Free.XT.ushr p4 (1 : Int32)) &&& (255 : Int32)) else (p2 &&& (255 : Int32)))), .val (.ref a10), .val (.ref a14), .unset, .unset] [(.ref a10), (.ref kd), (.ref a18), (.ref a18)]))
          refine X18.new (w33 hw) (w34 hw) (w35 hw) rfl (hb hby at_171) (by decide) (by decide) fun T20 h20 a20 X20 C20 E20 g20 Z20 S20 D20 => ?_
          have z20 := E20.1
          have l20 := ltA Z20.lt
          have A21 := X20.at
          show Gets p e below _ (T20.setTop (mkF m 174 #[.val (.int p0), .val (.int p1), .val (.int p2), .val (.int p3), .val (.int p4), .val (.int p5), .val (.int (p0 &&& (3 : Int32))), .val (.ref kd), .val (.int ((p5 &&& (2147483647 : Int32)) % (3 : Int32))), .val (.int (if (p5 &&& (16 : Int32)) = (0 : Int32) then ((Jvm.Free.XT.ushr p5 (5 : Int32)) % (3 : Int32)) else ((p5 &&& (2147483647 : Int32)) % (3 : Int32)))), .val (.int (p1 &&& (255 : Int32))), .val (.int (p2 &&& (255 : Int32))), .val (.int (if (p3 &&& (1 : Int32)) = (0 : Int32) then ((Jvm.Free.XT.ushr p3 (1 : Int32)) &&& (255 : Int32)) else (p1 &&& (255 : Int32)))), .val (.int (if (p4 &&& (1 : Int32)) = (0 : Int32) then ((Jvm.Free.XT.ushr p4 (1 : Int32)) &&& (255 : Int32)) else (p2 &&& (255 : Int32)))), .val (.ref a10), .val (.ref a14), .unset, .unset] [(.ref a20), (.ref a10), (.ref kd), (.ref a18), (.ref a18)]))
          refine Gets.via (fun _ k => (XS.dup A21 hx rfl (hb hby at_174) rfl rfl (XS.iloadN A21 hx rfl (hb hby at_175) rfl (XS.iload A21 hx rfl (hb hby at_176) rfl k)))) ?_
          show Gets p e below _ (T20.setTop (mkF m 178 #[.val (.int p0), .val (.int p1), .val (.int p2), .val (.int p3), .val (.int p4), .val (.int p5), .val (.int (p0 &&& (3 : Int32))), .val (.ref kd), .val (.int ((p5 &&& (2147483647 : Int32)) % (3 : Int32))), .val (.int (if (p5 &&& (16 : Int32)) = (0 : Int32) then ((Jvm.Free.XT.ushr p5 (5 : Int32)) % (3 : Int32)) else ((p5 &&& (2147483647 : Int32)) % (3 : Int32)))), .val (.int (p1 &&& (255 : Int32))), .val (.int (p2 &&& (255 : Int32))), .val (.int (if (p3 &&& (1 : Int32)) = (0 : Int32) then ((Jvm.Free.XT.ushr p3 (1 : Int32)) &&& (255 : Int32)) else (p1 &&& (255 : Int32)))), .val (.int (if (p4 &&& (1 : Int32)) = (0 : Int32) then ((Jvm.Free.XT.ushr p4 (1 : Int32)) &&& (255 : Int32)) else (p2 &&& (255 : Int32)))), .val (.ref a10), .val (.ref a14), .unset, .unset] [(.int p5), (.int p0), (.ref a20), (.ref a20), (.ref a10), (.ref kd), (.ref a18), (.ref a18)]))
          refine X20.callI (y := (⟨"com/example/carve/carve/model/Position", "<init>", "(II)V"⟩ : MethodName)) (W := 5) rfl (w36 hw) (w37 hw) (w38 hw) (by decide) (X20.payM (sf := []) (rm4 l Z a0 hw hEL zc O2 P5 kW kS kI kE OW OS OI OE dk a20 p0 p5 h20 X20.old Z20 (D20 (Or.inr (w46 hw)) (ty := .int) (by decide) : Fld Z h20 a20 "com/example/carve/carve/model/Position" "line" "I" (.int (0 : Int32))) (D20 (Or.inr (w48 hw)) (ty := .int) (by decide) : Fld Z h20 a20 "com/example/carve/carve/model/Position" "column" "I" (.int (0 : Int32))) (leA (by omega))) sf0 (w38 hw) (w35 hw) (by decide) (by decide)) rfl (by rw [hml]; rfl) (a := a20) (argsL := [(.int p0), (.int p5)]) (rest := [(.ref a20), (.ref a10), (.ref kd), (.ref a18), (.ref a18)]) (lenOf pd9 rfl) rfl rfl (by show 2 * 0 + _ ≤ _; exact Nat.le_of_eq rfl) (hb hby at_178) (by decide) (by decide) fun T22 h22 vm22 v22 X22 C22 z22 q22 => ?_
          obtain ⟨rfl, K22, g22_0⟩ := q22
          have l23 := ltA g22_0.lt
          have A24 := X22.at
          show Gets p e below _ (T22.setTop (mkF m 181 #[.val (.int p0), .val (.int p1), .val (.int p2), .val (.int p3), .val (.int p4), .val (.int p5), .val (.int (p0 &&& (3 : Int32))), .val (.ref kd), .val (.int ((p5 &&& (2147483647 : Int32)) % (3 : Int32))), .val (.int (if (p5 &&& (16 : Int32)) = (0 : Int32) then ((Jvm.Free.XT.ushr p5 (5 : Int32)) % (3 : Int32)) else ((p5 &&& (2147483647 : Int32)) % (3 : Int32)))), .val (.int (p1 &&& (255 : Int32))), .val (.int (p2 &&& (255 : Int32))), .val (.int (if (p3 &&& (1 : Int32)) = (0 : Int32) then ((Jvm.Free.XT.ushr p3 (1 : Int32)) &&& (255 : Int32)) else (p1 &&& (255 : Int32)))), .val (.int (if (p4 &&& (1 : Int32)) = (0 : Int32) then ((Jvm.Free.XT.ushr p4 (1 : Int32)) &&& (255 : Int32)) else (p2 &&& (255 : Int32)))), .val (.ref a10), .val (.ref a14), .unset, .unset] [(.ref a20), (.ref a10), (.ref kd), (.ref a18), (.ref a18)]))
          have f25 : Exa Z h20 a18 "com/example/carve/carve/model/Token" := Z18.ext E20
          have f26 : Exa Z h22 a18 "com/example/carve/carve/model/Token" := f25.keep K22
          have f27 : Fld Z h20 a18 "com/example/carve/carve/model/Token" "kind" "Lcom/example/carve/carve/model/Token$Kind;" .null := (D18 (Or.inr (w54 hw)) (ty := (.object "com/example/carve/carve/model/Token$Kind")) (by decide) : Fld Z h18 a18 "com/example/carve/carve/model/Token" "kind" "Lcom/example/carve/carve/model/Token$Kind;" .null).ext E20
          have f28 : Fld Z h22 a18 "com/example/carve/carve/model/Token" "kind" "Lcom/example/carve/carve/model/Token$Kind;" .null := f27.keep K22 (ninS (neA (by omega)) nin0)
          have f29 : Fld Z h20 a18 "com/example/carve/carve/model/Token" "text" "Ljava/lang/String;" .null := (D18 (Or.inr (w56 hw)) (ty := (.object "java/lang/String")) (by decide) : Fld Z h18 a18 "com/example/carve/carve/model/Token" "text" "Ljava/lang/String;" .null).ext E20
          have f30 : Fld Z h22 a18 "com/example/carve/carve/model/Token" "text" "Ljava/lang/String;" .null := f29.keep K22 (ninS (neA (by omega)) nin0)
          have f31 : Fld Z h20 a18 "com/example/carve/carve/model/Token" "at" "Lcom/example/carve/carve/model/Position;" .null := (D18 (Or.inr (w58 hw)) (ty := (.object "com/example/carve/carve/model/Position")) (by decide) : Fld Z h18 a18 "com/example/carve/carve/model/Token" "at" "Lcom/example/carve/carve/model/Position;" .null).ext E20
          have f32 : Fld Z h22 a18 "com/example/carve/carve/model/Token" "at" "Lcom/example/carve/carve/model/Position;" .null := f31.keep K22 (ninS (neA (by omega)) nin0)
          refine X22.callI (y := (⟨"com/example/carve/carve/model/Token", "<init>", "(Lcom/example/carve/carve/model/Token$Kind;Ljava/lang/String;Lcom/example/carve/carve/model/Position;)V"⟩ : MethodName)) (W := 1) rfl (w49 hw) (w50 hw) (w51 hw) (by decide) (X22.payM (sf := []) (rm6 l Z a0 hw hEL zc O2 P5 kW kS kI kE OW OS OI OE dk a18 kd a10 a20 h22 X22.old f26 f28 f30 f32 (leA (by omega))) sf0 (w51 hw) (w32 hw) (by decide) (by decide)) rfl (by rw [hml]; rfl) (a := a18) (argsL := [(.ref kd), (.ref a10), (.ref a20)]) (rest := [(.ref a18)]) (lenOf pd10 rfl) rfl rfl (by show 2 * 0 + _ ≤ _; exact Nat.le_of_eq rfl) (hb hby at_181) (by decide) (by decide) fun T33 h33 vm33 v33 X33 C33 z33 q33 => ?_
          obtain ⟨rfl, K33, g33_0, g33_1, g33_2⟩ := q33
          have l34 := ltA g33_0.lt
          have l35 := ltA g33_1.lt
          have l36 := ltA g33_2.lt
          have A37 := X33.at
          show Gets p e below _ (T33.setTop (mkF m 184 #[.val (.int p0), .val (.int p1), .val (.int p2), .val (.int p3), .val (.int p4), .val (.int p5), .val (.int (p0 &&& (3 : Int32))), .val (.ref kd), .val (.int ((p5 &&& (2147483647 : Int32)) % (3 : Int32))), .val (.int (if (p5 &&& (16 : Int32)) = (0 : Int32) then ((Jvm.Free.XT.ushr p5 (5 : Int32)) % (3 : Int32)) else ((p5 &&& (2147483647 : Int32)) % (3 : Int32)))), .val (.int (p1 &&& (255 : Int32))), .val (.int (p2 &&& (255 : Int32))), .val (.int (if (p3 &&& (1 : Int32)) = (0 : Int32) then ((Jvm.Free.XT.ushr p3 (1 : Int32)) &&& (255 : Int32)) else (p1 &&& (255 : Int32)))), .val (.int (if (p4 &&& (1 : Int32)) = (0 : Int32) then ((Jvm.Free.XT.ushr p4 (1 : Int32)) &&& (255 : Int32)) else (p2 &&& (255 : Int32)))), .val (.ref a10), .val (.ref a14), .unset, .unset] [(.ref a18)]))
          refine Gets.via (fun _ k => (XS.astore A37 hx rfl (hb hby at_184) rfl rfl (l' := #[.val (.int p0), .val (.int p1), .val (.int p2), .val (.int p3), .val (.int p4), .val (.int p5), .val (.int (p0 &&& (3 : Int32))), .val (.ref kd), .val (.int ((p5 &&& (2147483647 : Int32)) % (3 : Int32))), .val (.int (if (p5 &&& (16 : Int32)) = (0 : Int32) then ((Jvm.Free.XT.ushr p5 (5 : Int32)) % (3 : Int32)) else ((p5 &&& (2147483647 : Int32)) % (3 : Int32)))), .val (.int (p1 &&& (255 : Int32))), .val (.int (p2 &&& (255 : Int32))), .val (.int (if (p3 &&& (1 : Int32)) = (0 : Int32) then ((Jvm.Free.XT.ushr p3 (1 : Int32)) &&& (255 : Int32)) else (p1 &&& (255 : Int32)))), .val (.int (if (p4 &&& (1 : Int32)) = (0 : Int32) then ((Jvm.Free.XT.ushr p4 (1 : Int32)) &&& (255 : Int32)) else (p2 &&& (255 : Int32)))), .val (.ref a10), .val (.ref a14), .val (.ref a18), .unset]) rfl k)) ?_
          show Gets p e below _ (T33.setTop (mkF m 186 #[.val (.int p0), .val (.int p1), .val (.int p2), .val (.int p3), .val (.int p4), .val (.int p5), .val (.int (p0 &&& (3 : Int32))), .val (.ref kd), .val (.int ((p5 &&& (2147483647 : Int32)) % (3 : Int32))), .val (.int (if (p5 &&& (16 : Int32)) = (0 : Int32) then ((Jvm.Free.XT.ushr p5 (5 : Int32)) % (3 : Int32)) else ((p5 &&& (2147483647 : Int32)) % (3 : Int32)))), .val (.int (p1 &&& (255 : Int32))), .val (.int (p2 &&& (255 : Int32))), .val (.int (if (p3 &&& (1 : Int32)) = (0 : Int32) then ((Jvm.Free.XT.ushr p3 (1 : Int32)) &&& (255 : Int32)) else (p1 &&& (255 : Int32)))), .val (.int (if (p4 &&& (1 : Int32)) = (0 : Int32) then ((Jvm.Free.XT.ushr p4 (1 : Int32)) &&& (255 : Int32)) else (p2 &&& (255 : Int32)))), .val (.ref a10), .val (.ref a14), .val (.ref a18), .unset] []))
          have f38 : Str Z h14 a10 b10 kb10 cs10 := g10_0.keep K14 nin0 nin0
          have f39 : Str Z h18 a10 b10 kb10 cs10 := f38.ext E18
          have f40 : Str Z h20 a10 b10 kb10 cs10 := f39.ext E20
          have f41 : Str Z h22 a10 b10 kb10 cs10 := f40.keep K22 (ninS (neA (by omega)) nin0) (ninS (neA (by omega)) nin0)
          have f42 : Str Z h33 a10 b10 kb10 cs10 := f41.keep K33 (ninS (neA (by omega)) nin0) (ninS (neA (by omega)) nin0)
          have f43 : Str Z h18 a14 b14 kb14 cs14 := g14_0.ext E18
          have f44 : Str Z h20 a14 b14 kb14 cs14 := f43.ext E20
          have f45 : Str Z h22 a14 b14 kb14 cs14 := f44.keep K22 (ninS (neA (by omega)) nin0) (ninS (neA (by omega)) nin0)
          have f46 : Str Z h33 a14 b14 kb14 cs14 := f45.keep K33 (ninS (neA (by omega)) nin0) (ninS (neA (by omega)) nin0)
          have hiff : cs10 = cs14 ↔ ((p5 &&& (2147483647 : Int32)) % (3 : Int32)) = (if (p5 &&& (16 : Int32)) = (0 : Int32) then ((Jvm.Free.XT.ushr p5 (5 : Int32)) % (3 : Int32)) else ((p5 &&& (2147483647 : Int32)) % (3 : Int32))) ∧ (((p5 &&& (2147483647 : Int32)) % (3 : Int32)) < 1 ∨ (p1 &&& (255 : Int32)) = (if (p3 &&& (1 : Int32)) = (0 : Int32) then ((Jvm.Free.XT.ushr p3 (1 : Int32)) &&& (255 : Int32)) else (p1 &&& (255 : Int32)))) ∧ (((p5 &&& (2147483647 : Int32)) % (3 : Int32)) < 2 ∨ (p2 &&& (255 : Int32)) = (if (p4 &&& (1 : Int32)) = (0 : Int32) then ((Jvm.Free.XT.ushr p4 (1 : Int32)) &&& (255 : Int32)) else (p2 &&& (255 : Int32)))) := by rw [g10_2, g14_2]; exact mk2_iff (rem3 _) (by split; exact rem3u _; exact rem3 _)
          have j235 : ∀ (T47 : State) (X47 : Wk p l e RrmLaw s m #[(.int p0), (.int p1), (.int p2), (.int p3), (.int p4), (.int p5)] below meth cc x.cls Z a0 consts_1 h0 T47 h33 vm33 14 33) (ex : Int32) (hex : ex = 1 ∧ (((p0 &&& (3 : Int32)) = 0 ∨ (p0 &&& (3 : Int32)) = 1) ∧ cs10 = cs14) ∨ ex = 0 ∧ ¬ (((p0 &&& (3 : Int32)) = 0 ∨ (p0 &&& (3 : Int32)) = 1) ∧ cs10 = cs14)), Gets p e below (Jvm.Ow.Out s Z consts_1 RrmLaw (QrmLaw Z kW kS p0 p1 p2 p3 p4 p5 h0)) (T47.setTop (mkF m 235 #[.val (.int p0), .val (.int p1), .val (.int p2), .val (.int p3), .val (.int p4), .val (.int p5), .val (.int (p0 &&& (3 : Int32))), .val (.ref kd), .val (.int ((p5 &&& (2147483647 : Int32)) % (3 : Int32))), .val (.int (if (p5 &&& (16 : Int32)) = (0 : Int32) then ((Jvm.Free.XT.ushr p5 (5 : Int32)) % (3 : Int32)) else ((p5 &&& (2147483647 : Int32)) % (3 : Int32)))), .val (.int (p1 &&& (255 : Int32))), .val (.int (p2 &&& (255 : Int32))), .val (.int (if (p3 &&& (1 : Int32)) = (0 : Int32) then ((Jvm.Free.XT.ushr p3 (1 : Int32)) &&& (255 : Int32)) else (p1 &&& (255 : Int32)))), .val (.int (if (p4 &&& (1 : Int32)) = (0 : Int32) then ((Jvm.Free.XT.ushr p4 (1 : Int32)) &&& (255 : Int32)) else (p2 &&& (255 : Int32)))), .val (.ref a10), .val (.ref a14), .val (.ref a18), .unset] [(.int ex)])) := by
            intro T47 X47 ex hex
            have A48 := X47.at
            refine Gets.via (fun _ k => (XS.istore A48 hx rfl (hb hby at_235) rfl (l' := #[.val (.int p0), .val (.int p1), .val (.int p2), .val (.int p3), .val (.int p4), .val (.int p5), .val (.int (p0 &&& (3 : Int32))), .val (.ref kd), .val (.int ((p5 &&& (2147483647 : Int32)) % (3 : Int32))), .val (.int (if (p5 &&& (16 : Int32)) = (0 : Int32) then ((Jvm.Free.XT.ushr p5 (5 : Int32)) % (3 : Int32)) else ((p5 &&& (2147483647 : Int32)) % (3 : Int32)))), .val (.int (p1 &&& (255 : Int32))), .val (.int (p2 &&& (255 : Int32))), .val (.int (if (p3 &&& (1 : Int32)) = (0 : Int32) then ((Jvm.Free.XT.ushr p3 (1 : Int32)) &&& (255 : Int32)) else (p1 &&& (255 : Int32)))), .val (.int (if (p4 &&& (1 : Int32)) = (0 : Int32) then ((Jvm.Free.XT.ushr p4 (1 : Int32)) &&& (255 : Int32)) else (p2 &&& (255 : Int32)))), .val (.ref a10), .val (.ref a14), .val (.ref a18), .val (.int ex)]) rfl (XS.aload A48 hx rfl (hb hby at_237) rfl rfl (XS.aload A48 hx rfl (hb hby at_239) rfl rfl k)))) ?_
            show Gets p e below _ (T47.setTop (mkF m 241 #[.val (.int p0), .val (.int p1), .val (.int p2), .val (.int p3), .val (.int p4), .val (.int p5), .val (.int (p0 &&& (3 : Int32))), .val (.ref kd), .val (.int ((p5 &&& (2147483647 : Int32)) % (3 : Int32))), .val (.int (if (p5 &&& (16 : Int32)) = (0 : Int32) then ((Jvm.Free.XT.ushr p5 (5 : Int32)) % (3 : Int32)) else ((p5 &&& (2147483647 : Int32)) % (3 : Int32)))), .val (.int (p1 &&& (255 : Int32))), .val (.int (p2 &&& (255 : Int32))), .val (.int (if (p3 &&& (1 : Int32)) = (0 : Int32) then ((Jvm.Free.XT.ushr p3 (1 : Int32)) &&& (255 : Int32)) else (p1 &&& (255 : Int32)))), .val (.int (if (p4 &&& (1 : Int32)) = (0 : Int32) then ((Jvm.Free.XT.ushr p4 (1 : Int32)) &&& (255 : Int32)) else (p2 &&& (255 : Int32)))), .val (.ref a10), .val (.ref a14), .val (.ref a18), .val (.int ex)] [(.ref a14), (.ref a18)]))
            refine X47.callV (y := (⟨"com/example/carve/carve/model/Token", "is", "(Ljava/lang/String;)Z"⟩ : MethodName)) (z := (⟨"com/example/carve/carve/model/Token", "is", "(Ljava/lang/String;)Z"⟩ : MethodName)) (W := 0) (w59 hw) (w60 hw) (w62 hw) (w61 hw) (nfs rfl (w62 hw)) (by decide) (X47.payM (sf := []) (rm7 l Z a0 hw hEL zc O2 P5 kW kS kI kE OW OS OI OE dk a18 a14 kd a10 b10 kb10 cs10 b14 kb14 cs14 h33 X47.old g33_1 g33_2 f42 f46) sf0 (w63 hw) (w32 hw) (by decide) (by decide)) g33_0 rfl (by rw [hml]; rfl) (argsL := [(.ref a14)]) (rest := []) (lenOf pd11 rfl) rfl rfl (by show 2 * 0 + _ ≤ _; exact Nat.le_of_eq rfl) (hb hby at_241) (by decide) (by decide) fun T49 h49 vm49 v49 X49 C49 z49 q49 => ?_
            obtain ⟨r49, rfl, K49, g49_0⟩ := q49
            rw [K49] at X49 C49
            have A50 := X49.at
            show Gets p e below _ (T49.setTop (mkF m 244 #[.val (.int p0), .val (.int p1), .val (.int p2), .val (.int p3), .val (.int p4), .val (.int p5), .val (.int (p0 &&& (3 : Int32))), .val (.ref kd), .val (.int ((p5 &&& (2147483647 : Int32)) % (3 : Int32))), .val (.int (if (p5 &&& (16 : Int32)) = (0 : Int32) then ((Jvm.Free.XT.ushr p5 (5 : Int32)) % (3 : Int32)) else ((p5 &&& (2147483647 : Int32)) % (3 : Int32)))), .val (.int (p1 &&& (255 : Int32))), .val (.int (p2 &&& (255 : Int32))), .val (.int (if (p3 &&& (1 : Int32)) = (0 : Int32) then ((Jvm.Free.XT.ushr p3 (1 : Int32)) &&& (255 : Int32)) else (p1 &&& (255 : Int32)))), .val (.int (if (p4 &&& (1 : Int32)) = (0 : Int32) then ((Jvm.Free.XT.ushr p4 (1 : Int32)) &&& (255 : Int32)) else (p2 &&& (255 : Int32)))), .val (.ref a10), .val (.ref a14), .val (.ref a18), .val (.int ex)] [(.int r49)]))
            refine Gets.via (fun _ k => (XS.iload A50 hx rfl (hb hby at_244) rfl k)) ?_
            show Gets p e below _ (T49.setTop (mkF m 246 #[.val (.int p0), .val (.int p1), .val (.int p2), .val (.int p3), .val (.int p4), .val (.int p5), .val (.int (p0 &&& (3 : Int32))), .val (.ref kd), .val (.int ((p5 &&& (2147483647 : Int32)) % (3 : Int32))), .val (.int (if (p5 &&& (16 : Int32)) = (0 : Int32) then ((Jvm.Free.XT.ushr p5 (5 : Int32)) % (3 : Int32)) else ((p5 &&& (2147483647 : Int32)) % (3 : Int32)))), .val (.int (p1 &&& (255 : Int32))), .val (.int (p2 &&& (255 : Int32))), .val (.int (if (p3 &&& (1 : Int32)) = (0 : Int32) then ((Jvm.Free.XT.ushr p3 (1 : Int32)) &&& (255 : Int32)) else (p1 &&& (255 : Int32)))), .val (.int (if (p4 &&& (1 : Int32)) = (0 : Int32) then ((Jvm.Free.XT.ushr p4 (1 : Int32)) &&& (255 : Int32)) else (p2 &&& (255 : Int32)))), .val (.ref a10), .val (.ref a14), .val (.ref a18), .val (.int ex)] [(.int ex), (.int r49)]))
            have hfin : r49 = ex := by
              rcases hex with ⟨rfl, q⟩ | ⟨rfl, q⟩
              · rw [g49_0, if_pos ⟨hk.mp q.1, q.2⟩]
              · rw [g49_0, if_neg fun r => q ⟨hk.mpr r.1, r.2⟩]
            refine Gets.via (fun _ k => (XS.icmpNo A50 hx rfl (hb hby at_246) rfl (Jvm.Free.XT.ii_ne_f hfin) k)) ?_
            show Gets p e below _ (T49.setTop (mkF m 249 #[.val (.int p0), .val (.int p1), .val (.int p2), .val (.int p3), .val (.int p4), .val (.int p5), .val (.int (p0 &&& (3 : Int32))), .val (.ref kd), .val (.int ((p5 &&& (2147483647 : Int32)) % (3 : Int32))), .val (.int (if (p5 &&& (16 : Int32)) = (0 : Int32) then ((Jvm.Free.XT.ushr p5 (5 : Int32)) % (3 : Int32)) else ((p5 &&& (2147483647 : Int32)) % (3 : Int32)))), .val (.int (p1 &&& (255 : Int32))), .val (.int (p2 &&& (255 : Int32))), .val (.int (if (p3 &&& (1 : Int32)) = (0 : Int32) then ((Jvm.Free.XT.ushr p3 (1 : Int32)) &&& (255 : Int32)) else (p1 &&& (255 : Int32)))), .val (.int (if (p4 &&& (1 : Int32)) = (0 : Int32) then ((Jvm.Free.XT.ushr p4 (1 : Int32)) &&& (255 : Int32)) else (p2 &&& (255 : Int32)))), .val (.ref a10), .val (.ref a14), .val (.ref a18), .val (.int ex)] []))
            refine Gets.via (fun _ k => (XS.iconst A50 hx rfl (hb hby at_249) (XS.goto A50 hx rfl (pc0 := 250) (pc' := 254) rfl (hb hby at_250) (by decide) (by decide) k))) ?_
            show Gets p e below _ (T49.setTop (mkF m 254 #[.val (.int p0), .val (.int p1), .val (.int p2), .val (.int p3), .val (.int p4), .val (.int p5), .val (.int (p0 &&& (3 : Int32))), .val (.ref kd), .val (.int ((p5 &&& (2147483647 : Int32)) % (3 : Int32))), .val (.int (if (p5 &&& (16 : Int32)) = (0 : Int32) then ((Jvm.Free.XT.ushr p5 (5 : Int32)) % (3 : Int32)) else ((p5 &&& (2147483647 : Int32)) % (3 : Int32)))), .val (.int (p1 &&& (255 : Int32))), .val (.int (p2 &&& (255 : Int32))), .val (.int (if (p3 &&& (1 : Int32)) = (0 : Int32) then ((Jvm.Free.XT.ushr p3 (1 : Int32)) &&& (255 : Int32)) else (p1 &&& (255 : Int32)))), .val (.int (if (p4 &&& (1 : Int32)) = (0 : Int32) then ((Jvm.Free.XT.ushr p4 (1 : Int32)) &&& (255 : Int32)) else (p2 &&& (255 : Int32)))), .val (.ref a10), .val (.ref a14), .val (.ref a18), .val (.int ex)] [(.int (1 : Int32))]))
            exact X49.retI hret (by decide) (by simp) (hb hby at_254) (by decide) (by decide) ⟨rfl, (((((((Keep.refl h0 []).trans K10 all0).trans K14 all0).ext E18).ext E20).trans K22 (allS (Or.inr (leA (by omega))) all0)).trans K33 (allS (Or.inr (leA (by omega))) all0))⟩
          refine Gets.via (fun _ k => (XS.iload A37 hx rfl (hb hby at_186) rfl k)) ?_
          show Gets p e below _ (T33.setTop (mkF m 188 #[.val (.int p0), .val (.int p1), .val (.int p2), .val (.int p3), .val (.int p4), .val (.int p5), .val (.int (p0 &&& (3 : Int32))), .val (.ref kd), .val (.int ((p5 &&& (2147483647 : Int32)) % (3 : Int32))), .val (.int (if (p5 &&& (16 : Int32)) = (0 : Int32) then ((Jvm.Free.XT.ushr p5 (5 : Int32)) % (3 : Int32)) else ((p5 &&& (2147483647 : Int32)) % (3 : Int32)))), .val (.int (p1 &&& (255 : Int32))), .val (.int (p2 &&& (255 : Int32))), .val (.int (if (p3 &&& (1 : Int32)) = (0 : Int32) then ((Jvm.Free.XT.ushr p3 (1 : Int32)) &&& (255 : Int32)) else (p1 &&& (255 : Int32)))), .val (.int (if (p4 &&& (1 : Int32)) = (0 : Int32) then ((Jvm.Free.XT.ushr p4 (1 : Int32)) &&& (255 : Int32)) else (p2 &&& (255 : Int32)))), .val (.ref a10), .val (.ref a14), .val (.ref a18), .unset] [(.int (p0 &&& (3 : Int32)))]))
          by_cases b188 : (p0 &&& (3 : Int32)) = (0 : Int32)
          · refine Gets.via (fun _ k => (XS.ifYes A37 hx rfl (pc0 := 188) (pc' := 197) rfl (hb hby at_188) rfl (Jvm.Free.XT.i0_eq_t b188) (by decide) (by decide) k)) ?_
            show Gets p e below _ (T33.setTop (mkF m 197 #[.val (.int p0), .val (.int p1), .val (.int p2), .val (.int p3), .val (.int p4), .val (.int p5), .val (.int (p0 &&& (3 : Int32))), .val (.ref kd), .val (.int ((p5 &&& (2147483647 : Int32)) % (3 : Int32))), .val (.int (if (p5 &&& (16 : Int32)) = (0 : Int32) then ((Jvm.Free.XT.ushr p5 (5 : Int32)) % (3 : Int32)) else ((p5 &&& (2147483647 : Int32)) % (3 : Int32)))), .val (.int (p1 &&& (255 : Int32))), .val (.int (p2 &&& (255 : Int32))), .val (.int (if (p3 &&& (1 : Int32)) = (0 : Int32) then ((Jvm.Free.XT.ushr p3 (1 : Int32)) &&& (255 : Int32)) else (p1 &&& (255 : Int32)))), .val (.int (if (p4 &&& (1 : Int32)) = (0 : Int32) then ((Jvm.Free.XT.ushr p4 (1 : Int32)) &&& (255 : Int32)) else (p2 &&& (255 : Int32)))), .val (.ref a10), .val (.ref a14), .val (.ref a18), .unset] []))
            refine Gets.via (fun _ k => (XS.iload A37 hx rfl (hb hby at_197) rfl (XS.iload A37 hx rfl (hb hby at_199) rfl k))) ?_
            show Gets p e below _ (T33.setTop (mkF m 201 #[.val (.int p0), .val (.int p1), .val (.int p2), .val (.int p3), .val (.int p4), .val (.int p5), .val (.int (p0 &&& (3 : Int32))), .val (.ref kd), .val (.int ((p5 &&& (2147483647 : Int32)) % (3 : Int32))), .val (.int (if (p5 &&& (16 : Int32)) = (0 : Int32) then ((Jvm.Free.XT.ushr p5 (5 : Int32)) % (3 : Int32)) else ((p5 &&& (2147483647 : Int32)) % (3 : Int32)))), .val (.int (p1 &&& (255 : Int32))), .val (.int (p2 &&& (255 : Int32))), .val (.int (if (p3 &&& (1 : Int32)) = (0 : Int32) then ((Jvm.Free.XT.ushr p3 (1 : Int32)) &&& (255 : Int32)) else (p1 &&& (255 : Int32)))), .val (.int (if (p4 &&& (1 : Int32)) = (0 : Int32) then ((Jvm.Free.XT.ushr p4 (1 : Int32)) &&& (255 : Int32)) else (p2 &&& (255 : Int32)))), .val (.ref a10), .val (.ref a14), .val (.ref a18), .unset] [(.int (if (p5 &&& (16 : Int32)) = (0 : Int32) then ((Jvm.Free.XT.ushr p5 (5 : Int32)) % (3 : Int32)) else ((p5 &&& (2147483647 : Int32)) % (3 : Int32)))), (.int ((p5 &&& (2147483647 : Int32)) % (3 : Int32)))]))
            by_cases b201 : ((p5 &&& (2147483647 : Int32)) % (3 : Int32)) = (if (p5 &&& (16 : Int32)) = (0 : Int32) then ((Jvm.Free.XT.ushr p5 (5 : Int32)) % (3 : Int32)) else ((p5 &&& (2147483647 : Int32)) % (3 : Int32)))
            · refine Gets.via (fun _ k => (XS.icmpNo A37 hx rfl (hb hby at_201) rfl (Jvm.Free.XT.ii_ne_f b201) k)) ?_
              show Gets p e below _ (T33.setTop (mkF m 204 #[.val (.int p0), .val (.int p1), .val (.int p2), .val (.int p3), .val (.int p4), .val (.int p5), .val (.int (p0 &&& (3 : Int32))), .val (.ref kd), .val (.int ((p5 &&& (2147483647 : Int32)) % (3 : Int32))), .val (.int (if (p5 &&& (16 : Int32)) = (0 : Int32) then ((Jvm.Free.XT.ushr p5 (5 : Int32)) % (3 : Int32)) else ((p5 &&& (2147483647 : Int32)) % (3 : Int32)))), .val (.int (p1 &&& (255 : Int32))), .val (.int (p2 &&& (255 : Int32))), .val (.int (if (p3 &&& (1 : Int32)) = (0 : Int32) then ((Jvm.Free.XT.ushr p3 (1 : Int32)) &&& (255 : Int32)) else (p1 &&& (255 : Int32)))), .val (.int (if (p4 &&& (1 : Int32)) = (0 : Int32) then ((Jvm.Free.XT.ushr p4 (1 : Int32)) &&& (255 : Int32)) else (p2 &&& (255 : Int32)))), .val (.ref a10), .val (.ref a14), .val (.ref a18), .unset] []))
              refine Gets.via (fun _ k => (XS.iload A37 hx rfl (hb hby at_204) rfl (XS.iconst A37 hx rfl (hb hby at_206) k))) ?_
              show Gets p e below _ (T33.setTop (mkF m 207 #[.val (.int p0), .val (.int p1), .val (.int p2), .val (.int p3), .val (.int p4), .val (.int p5), .val (.int (p0 &&& (3 : Int32))), .val (.ref kd), .val (.int ((p5 &&& (2147483647 : Int32)) % (3 : Int32))), .val (.int (if (p5 &&& (16 : Int32)) = (0 : Int32) then ((Jvm.Free.XT.ushr p5 (5 : Int32)) % (3 : Int32)) else ((p5 &&& (2147483647 : Int32)) % (3 : Int32)))), .val (.int (p1 &&& (255 : Int32))), .val (.int (p2 &&& (255 : Int32))), .val (.int (if (p3 &&& (1 : Int32)) = (0 : Int32) then ((Jvm.Free.XT.ushr p3 (1 : Int32)) &&& (255 : Int32)) else (p1 &&& (255 : Int32)))), .val (.int (if (p4 &&& (1 : Int32)) = (0 : Int32) then ((Jvm.Free.XT.ushr p4 (1 : Int32)) &&& (255 : Int32)) else (p2 &&& (255 : Int32)))), .val (.ref a10), .val (.ref a14), .val (.ref a18), .unset] [(.int (1 : Int32)), (.int ((p5 &&& (2147483647 : Int32)) % (3 : Int32)))]))
              by_cases b207 : ((p5 &&& (2147483647 : Int32)) % (3 : Int32)) < (1 : Int32)
              · refine Gets.via (fun _ k => (XS.icmpYes A37 hx rfl (pc0 := 207) (pc' := 217) rfl (hb hby at_207) rfl (Jvm.Free.XT.ii_lt_t b207) (by decide) (by decide) k)) ?_
                show Gets p e below _ (T33.setTop (mkF m 217 #[.val (.int p0), .val (.int p1), .val (.int p2), .val (.int p3), .val (.int p4), .val (.int p5), .val (.int (p0 &&& (3 : Int32))), .val (.ref kd), .val (.int ((p5 &&& (2147483647 : Int32)) % (3 : Int32))), .val (.int (if (p5 &&& (16 : Int32)) = (0 : Int32) then ((Jvm.Free.XT.ushr p5 (5 : Int32)) % (3 : Int32)) else ((p5 &&& (2147483647 : Int32)) % (3 : Int32)))), .val (.int (p1 &&& (255 : Int32))), .val (.int (p2 &&& (255 : Int32))), .val (.int (if (p3 &&& (1 : Int32)) = (0 : Int32) then ((Jvm.Free.XT.ushr p3 (1 : Int32)) &&& (255 : Int32)) else (p1 &&& (255 : Int32)))), .val (.int (if (p4 &&& (1 : Int32)) = (0 : Int32) then ((Jvm.Free.XT.ushr p4 (1 : Int32)) &&& (255 : Int32)) else (p2 &&& (255 : Int32)))), .val (.ref a10), .val (.ref a14), .val (.ref a18), .unset] []))
                refine Gets.via (fun _ k => (XS.iload A37 hx rfl (hb hby at_217) rfl (XS.iconst A37 hx rfl (hb hby at_219) k))) ?_
                show Gets p e below _ (T33.setTop (mkF m 220 #[.val (.int p0), .val (.int p1), .val (.int p2), .val (.int p3), .val (.int p4), .val (.int p5), .val (.int (p0 &&& (3 : Int32))), .val (.ref kd), .val (.int ((p5 &&& (2147483647 : Int32)) % (3 : Int32))), .val (.int (if (p5 &&& (16 : Int32)) = (0 : Int32) then ((Jvm.Free.XT.ushr p5 (5 : Int32)) % (3 : Int32)) else ((p5 &&& (2147483647 : Int32)) % (3 : Int32)))), .val (.int (p1 &&& (255 : Int32))), .val (.int (p2 &&& (255 : Int32))), .val (.int (if (p3 &&& (1 : Int32)) = (0 : Int32) then ((Jvm.Free.XT.ushr p3 (1 : Int32)) &&& (255 : Int32)) else (p1 &&& (255 : Int32)))), .val (.int (if (p4 &&& (1 : Int32)) = (0 : Int32) then ((Jvm.Free.XT.ushr p4 (1 : Int32)) &&& (255 : Int32)) else (p2 &&& (255 : Int32)))), .val (.ref a10), .val (.ref a14), .val (.ref a18), .unset] [(.int (2 : Int32)), (.int ((p5 &&& (2147483647 : Int32)) % (3 : Int32)))]))
                by_cases b220 : ((p5 &&& (2147483647 : Int32)) % (3 : Int32)) < (2 : Int32)
                · refine Gets.via (fun _ k => (XS.icmpYes A37 hx rfl (pc0 := 220) (pc' := 230) rfl (hb hby at_220) rfl (Jvm.Free.XT.ii_lt_t b220) (by decide) (by decide) k)) ?_
                  show Gets p e below _ (T33.setTop (mkF m 230 #[.val (.int p0), .val (.int p1), .val (.int p2), .val (.int p3), .val (.int p4), .val (.int p5), .val (.int (p0 &&& (3 : Int32))), .val (.ref kd), .val (.int ((p5 &&& (2147483647 : Int32)) % (3 : Int32))), .val (.int (if (p5 &&& (16 : Int32)) = (0 : Int32) then ((Jvm.Free.XT.ushr p5 (5 : Int32)) % (3 : Int32)) else ((p5 &&& (2147483647 : Int32)) % (3 : Int32)))), .val (.int (p1 &&& (255 : Int32))), .val (.int (p2 &&& (255 : Int32))), .val (.int (if (p3 &&& (1 : Int32)) = (0 : Int32) then ((Jvm.Free.XT.ushr p3 (1 : Int32)) &&& (255 : Int32)) else (p1 &&& (255 : Int32)))), .val (.int (if (p4 &&& (1 : Int32)) = (0 : Int32) then ((Jvm.Free.XT.ushr p4 (1 : Int32)) &&& (255 : Int32)) else (p2 &&& (255 : Int32)))), .val (.ref a10), .val (.ref a14), .val (.ref a18), .unset] []))
                  refine Gets.via (fun _ k => (XS.iconst A37 hx rfl (hb hby at_230) (XS.goto A37 hx rfl (pc0 := 231) (pc' := 235) rfl (hb hby at_231) (by decide) (by decide) k))) ?_
                  show Gets p e below _ (T33.setTop (mkF m 235 #[.val (.int p0), .val (.int p1), .val (.int p2), .val (.int p3), .val (.int p4), .val (.int p5), .val (.int (p0 &&& (3 : Int32))), .val (.ref kd), .val (.int ((p5 &&& (2147483647 : Int32)) % (3 : Int32))), .val (.int (if (p5 &&& (16 : Int32)) = (0 : Int32) then ((Jvm.Free.XT.ushr p5 (5 : Int32)) % (3 : Int32)) else ((p5 &&& (2147483647 : Int32)) % (3 : Int32)))), .val (.int (p1 &&& (255 : Int32))), .val (.int (p2 &&& (255 : Int32))), .val (.int (if (p3 &&& (1 : Int32)) = (0 : Int32) then ((Jvm.Free.XT.ushr p3 (1 : Int32)) &&& (255 : Int32)) else (p1 &&& (255 : Int32)))), .val (.int (if (p4 &&& (1 : Int32)) = (0 : Int32) then ((Jvm.Free.XT.ushr p4 (1 : Int32)) &&& (255 : Int32)) else (p2 &&& (255 : Int32)))), .val (.ref a10), .val (.ref a14), .val (.ref a18), .unset] [(.int (1 : Int32))]))
                  exact j235 T33 X33 (1 : Int32) (Or.inl ⟨rfl, Or.inl b188, hiff.mpr ⟨b201, Or.inl b207, Or.inl b220⟩⟩)
                · refine Gets.via (fun _ k => (XS.icmpNo A37 hx rfl (hb hby at_220) rfl (Jvm.Free.XT.ii_lt_f b220) k)) ?_
                  show Gets p e below _ (T33.setTop (mkF m 223 #[.val (.int p0), .val (.int p1), .val (.int p2), .val (.int p3), .val (.int p4), .val (.int p5), .val (.int (p0 &&& (3 : Int32))), .val (.ref kd), .val (.int ((p5 &&& (2147483647 : Int32)) % (3 : Int32))), .val (.int (if (p5 &&& (16 : Int32)) = (0 : Int32) then ((Jvm.Free.XT.ushr p5 (5 : Int32)) % (3 : Int32)) else ((p5 &&& (2147483647 : Int32)) % (3 : Int32)))), .val (.int (p1 &&& (255 : Int32))), .val (.int (p2 &&& (255 : Int32))), .val (.int (if (p3 &&& (1 : Int32)) = (0 : Int32) then ((Jvm.Free.XT.ushr p3 (1 : Int32)) &&& (255 : Int32)) else (p1 &&& (255 : Int32)))), .val (.int (if (p4 &&& (1 : Int32)) = (0 : Int32) then ((Jvm.Free.XT.ushr p4 (1 : Int32)) &&& (255 : Int32)) else (p2 &&& (255 : Int32)))), .val (.ref a10), .val (.ref a14), .val (.ref a18), .unset] []))
                  refine Gets.via (fun _ k => (XS.iload A37 hx rfl (hb hby at_223) rfl (XS.iload A37 hx rfl (hb hby at_225) rfl k))) ?_
                  show Gets p e below _ (T33.setTop (mkF m 227 #[.val (.int p0), .val (.int p1), .val (.int p2), .val (.int p3), .val (.int p4), .val (.int p5), .val (.int (p0 &&& (3 : Int32))), .val (.ref kd), .val (.int ((p5 &&& (2147483647 : Int32)) % (3 : Int32))), .val (.int (if (p5 &&& (16 : Int32)) = (0 : Int32) then ((Jvm.Free.XT.ushr p5 (5 : Int32)) % (3 : Int32)) else ((p5 &&& (2147483647 : Int32)) % (3 : Int32)))), .val (.int (p1 &&& (255 : Int32))), .val (.int (p2 &&& (255 : Int32))), .val (.int (if (p3 &&& (1 : Int32)) = (0 : Int32) then ((Jvm.Free.XT.ushr p3 (1 : Int32)) &&& (255 : Int32)) else (p1 &&& (255 : Int32)))), .val (.int (if (p4 &&& (1 : Int32)) = (0 : Int32) then ((Jvm.Free.XT.ushr p4 (1 : Int32)) &&& (255 : Int32)) else (p2 &&& (255 : Int32)))), .val (.ref a10), .val (.ref a14), .val (.ref a18), .unset] [(.int (if (p4 &&& (1 : Int32)) = (0 : Int32) then ((Jvm.Free.XT.ushr p4 (1 : Int32)) &&& (255 : Int32)) else (p2 &&& (255 : Int32)))), (.int (p2 &&& (255 : Int32)))]))
                  by_cases b227 : (p2 &&& (255 : Int32)) = (if (p4 &&& (1 : Int32)) = (0 : Int32) then ((Jvm.Free.XT.ushr p4 (1 : Int32)) &&& (255 : Int32)) else (p2 &&& (255 : Int32)))
                  · refine Gets.via (fun _ k => (XS.icmpNo A37 hx rfl (hb hby at_227) rfl (Jvm.Free.XT.ii_ne_f b227) k)) ?_
                    show Gets p e below _ (T33.setTop (mkF m 230 #[.val (.int p0), .val (.int p1), .val (.int p2), .val (.int p3), .val (.int p4), .val (.int p5), .val (.int (p0 &&& (3 : Int32))), .val (.ref kd), .val (.int ((p5 &&& (2147483647 : Int32)) % (3 : Int32))), .val (.int (if (p5 &&& (16 : Int32)) = (0 : Int32) then ((Jvm.Free.XT.ushr p5 (5 : Int32)) % (3 : Int32)) else ((p5 &&& (2147483647 : Int32)) % (3 : Int32)))), .val (.int (p1 &&& (255 : Int32))), .val (.int (p2 &&& (255 : Int32))), .val (.int (if (p3 &&& (1 : Int32)) = (0 : Int32) then ((Jvm.Free.XT.ushr p3 (1 : Int32)) &&& (255 : Int32)) else (p1 &&& (255 : Int32)))), .val (.int (if (p4 &&& (1 : Int32)) = (0 : Int32) then ((Jvm.Free.XT.ushr p4 (1 : Int32)) &&& (255 : Int32)) else (p2 &&& (255 : Int32)))), .val (.ref a10), .val (.ref a14), .val (.ref a18), .unset] []))
                    refine Gets.via (fun _ k => (XS.iconst A37 hx rfl (hb hby at_230) (XS.goto A37 hx rfl (pc0 := 231) (pc' := 235) rfl (hb hby at_231) (by decide) (by decide) k))) ?_
                    show Gets p e below _ (T33.setTop (mkF m 235 #[.val (.int p0), .val (.int p1), .val (.int p2), .val (.int p3), .val (.int p4), .val (.int p5), .val (.int (p0 &&& (3 : Int32))), .val (.ref kd), .val (.int ((p5 &&& (2147483647 : Int32)) % (3 : Int32))), .val (.int (if (p5 &&& (16 : Int32)) = (0 : Int32) then ((Jvm.Free.XT.ushr p5 (5 : Int32)) % (3 : Int32)) else ((p5 &&& (2147483647 : Int32)) % (3 : Int32)))), .val (.int (p1 &&& (255 : Int32))), .val (.int (p2 &&& (255 : Int32))), .val (.int (if (p3 &&& (1 : Int32)) = (0 : Int32) then ((Jvm.Free.XT.ushr p3 (1 : Int32)) &&& (255 : Int32)) else (p1 &&& (255 : Int32)))), .val (.int (if (p4 &&& (1 : Int32)) = (0 : Int32) then ((Jvm.Free.XT.ushr p4 (1 : Int32)) &&& (255 : Int32)) else (p2 &&& (255 : Int32)))), .val (.ref a10), .val (.ref a14), .val (.ref a18), .unset] [(.int (1 : Int32))]))
                    exact j235 T33 X33 (1 : Int32) (Or.inl ⟨rfl, Or.inl b188, hiff.mpr ⟨b201, Or.inl b207, Or.inr b227⟩⟩)
                  · refine Gets.via (fun _ k => (XS.icmpYes A37 hx rfl (pc0 := 227) (pc' := 234) rfl (hb hby at_227) rfl (Jvm.Free.XT.ii_ne_t b227) (by decide) (by decide) k)) ?_
                    show Gets p e below _ (T33.setTop (mkF m 234 #[.val (.int p0), .val (.int p1), .val (.int p2), .val (.int p3), .val (.int p4), .val (.int p5), .val (.int (p0 &&& (3 : Int32))), .val (.ref kd), .val (.int ((p5 &&& (2147483647 : Int32)) % (3 : Int32))), .val (.int (if (p5 &&& (16 : Int32)) = (0 : Int32) then ((Jvm.Free.XT.ushr p5 (5 : Int32)) % (3 : Int32)) else ((p5 &&& (2147483647 : Int32)) % (3 : Int32)))), .val (.int (p1 &&& (255 : Int32))), .val (.int (p2 &&& (255 : Int32))), .val (.int (if (p3 &&& (1 : Int32)) = (0 : Int32) then ((Jvm.Free.XT.ushr p3 (1 : Int32)) &&& (255 : Int32)) else (p1 &&& (255 : Int32)))), .val (.int (if (p4 &&& (1 : Int32)) = (0 : Int32) then ((Jvm.Free.XT.ushr p4 (1 : Int32)) &&& (255 : Int32)) else (p2 &&& (255 : Int32)))), .val (.ref a10), .val (.ref a14), .val (.ref a18), .unset] []))
                    refine Gets.via (fun _ k => (XS.iconst A37 hx rfl (hb hby at_234) k)) ?_
                    show Gets p e below _ (T33.setTop (mkF m 235 #[.val (.int p0), .val (.int p1), .val (.int p2), .val (.int p3), .val (.int p4), .val (.int p5), .val (.int (p0 &&& (3 : Int32))), .val (.ref kd), .val (.int ((p5 &&& (2147483647 : Int32)) % (3 : Int32))), .val (.int (if (p5 &&& (16 : Int32)) = (0 : Int32) then ((Jvm.Free.XT.ushr p5 (5 : Int32)) % (3 : Int32)) else ((p5 &&& (2147483647 : Int32)) % (3 : Int32)))), .val (.int (p1 &&& (255 : Int32))), .val (.int (p2 &&& (255 : Int32))), .val (.int (if (p3 &&& (1 : Int32)) = (0 : Int32) then ((Jvm.Free.XT.ushr p3 (1 : Int32)) &&& (255 : Int32)) else (p1 &&& (255 : Int32)))), .val (.int (if (p4 &&& (1 : Int32)) = (0 : Int32) then ((Jvm.Free.XT.ushr p4 (1 : Int32)) &&& (255 : Int32)) else (p2 &&& (255 : Int32)))), .val (.ref a10), .val (.ref a14), .val (.ref a18), .unset] [(.int (0 : Int32))]))
                    exact j235 T33 X33 (0 : Int32) (Or.inr ⟨rfl, fun q => (hiff.mp q.2).2.2.elim b220 b227⟩)
              · refine Gets.via (fun _ k => (XS.icmpNo A37 hx rfl (hb hby at_207) rfl (Jvm.Free.XT.ii_lt_f b207) k)) ?_
                show Gets p e below _ (T33.setTop (mkF m 210 #[.val (.int p0), .val (.int p1), .val (.int p2), .val (.int p3), .val (.int p4), .val (.int p5), .val (.int (p0 &&& (3 : Int32))), .val (.ref kd), .val (.int ((p5 &&& (2147483647 : Int32)) % (3 : Int32))), .val (.int (if (p5 &&& (16 : Int32)) = (0 : Int32) then ((Jvm.Free.XT.ushr p5 (5 : Int32)) % (3 : Int32)) else ((p5 &&& (2147483647 : Int32)) % (3 : Int32)))), .val (.int (p1 &&& (255 : Int32))), .val (.int (p2 &&& (255 : Int32))), .val (.int (if (p3 &&& (1 : Int32)) = (0 : Int32) then ((Jvm.Free.XT.ushr p3 (1 : Int32)) &&& (255 : Int32)) else (p1 &&& (255 : Int32)))), .val (.int (if (p4 &&& (1 : Int32)) = (0 : Int32) then ((Jvm.Free.XT.ushr p4 (1 : Int32)) &&& (255 : Int32)) else (p2 &&& (255 : Int32)))), .val (.ref a10), .val (.ref a14), .val (.ref a18), .unset] []))
                refine Gets.via (fun _ k => (XS.iload A37 hx rfl (hb hby at_210) rfl (XS.iload A37 hx rfl (hb hby at_212) rfl k))) ?_
                show Gets p e below _ (T33.setTop (mkF m 214 #[.val (.int p0), .val (.int p1), .val (.int p2), .val (.int p3), .val (.int p4), .val (.int p5), .val (.int (p0 &&& (3 : Int32))), .val (.ref kd), .val (.int ((p5 &&& (2147483647 : Int32)) % (3 : Int32))), .val (.int (if (p5 &&& (16 : Int32)) = (0 : Int32) then ((Jvm.Free.XT.ushr p5 (5 : Int32)) % (3 : Int32)) else ((p5 &&& (2147483647 : Int32)) % (3 : Int32)))), .val (.int (p1 &&& (255 : Int32))), .val (.int (p2 &&& (255 : Int32))), .val (.int (if (p3 &&& (1 : Int32)) = (0 : Int32) then ((Jvm.Free.XT.ushr p3 (1 : Int32)) &&& (255 : Int32)) else (p1 &&& (255 : Int32)))), .val (.int (if (p4 &&& (1 : Int32)) = (0 : Int32) then ((Jvm.Free.XT.ushr p4 (1 : Int32)) &&& (255 : Int32)) else (p2 &&& (255 : Int32)))), .val (.ref a10), .val (.ref a14), .val (.ref a18), .unset] [(.int (if (p3 &&& (1 : Int32)) = (0 : Int32) then ((Jvm.Free.XT.ushr p3 (1 : Int32)) &&& (255 : Int32)) else (p1 &&& (255 : Int32)))), (.int (p1 &&& (255 : Int32)))]))
                by_cases b214 : (p1 &&& (255 : Int32)) = (if (p3 &&& (1 : Int32)) = (0 : Int32) then ((Jvm.Free.XT.ushr p3 (1 : Int32)) &&& (255 : Int32)) else (p1 &&& (255 : Int32)))
                · refine Gets.via (fun _ k => (XS.icmpNo A37 hx rfl (hb hby at_214) rfl (Jvm.Free.XT.ii_ne_f b214) k)) ?_
                  show Gets p e below _ (T33.setTop (mkF m 217 #[.val (.int p0), .val (.int p1), .val (.int p2), .val (.int p3), .val (.int p4), .val (.int p5), .val (.int (p0 &&& (3 : Int32))), .val (.ref kd), .val (.int ((p5 &&& (2147483647 : Int32)) % (3 : Int32))), .val (.int (if (p5 &&& (16 : Int32)) = (0 : Int32) then ((Jvm.Free.XT.ushr p5 (5 : Int32)) % (3 : Int32)) else ((p5 &&& (2147483647 : Int32)) % (3 : Int32)))), .val (.int (p1 &&& (255 : Int32))), .val (.int (p2 &&& (255 : Int32))), .val (.int (if (p3 &&& (1 : Int32)) = (0 : Int32) then ((Jvm.Free.XT.ushr p3 (1 : Int32)) &&& (255 : Int32)) else (p1 &&& (255 : Int32)))), .val (.int (if (p4 &&& (1 : Int32)) = (0 : Int32) then ((Jvm.Free.XT.ushr p4 (1 : Int32)) &&& (255 : Int32)) else (p2 &&& (255 : Int32)))), .val (.ref a10), .val (.ref a14), .val (.ref a18), .unset] []))
                  refine Gets.via (fun _ k => (XS.iload A37 hx rfl (hb hby at_217) rfl (XS.iconst A37 hx rfl (hb hby at_219) k))) ?_
                  show Gets p e below _ (T33.setTop (mkF m 220 #[.val (.int p0), .val (.int p1), .val (.int p2), .val (.int p3), .val (.int p4), .val (.int p5), .val (.int (p0 &&& (3 : Int32))), .val (.ref kd), .val (.int ((p5 &&& (2147483647 : Int32)) % (3 : Int32))), .val (.int (if (p5 &&& (16 : Int32)) = (0 : Int32) then ((Jvm.Free.XT.ushr p5 (5 : Int32)) % (3 : Int32)) else ((p5 &&& (2147483647 : Int32)) % (3 : Int32)))), .val (.int (p1 &&& (255 : Int32))), .val (.int (p2 &&& (255 : Int32))), .val (.int (if (p3 &&& (1 : Int32)) = (0 : Int32) then ((Jvm.Free.XT.ushr p3 (1 : Int32)) &&& (255 : Int32)) else (p1 &&& (255 : Int32)))), .val (.int (if (p4 &&& (1 : Int32)) = (0 : Int32) then ((Jvm.Free.XT.ushr p4 (1 : Int32)) &&& (255 : Int32)) else (p2 &&& (255 : Int32)))), .val (.ref a10), .val (.ref a14), .val (.ref a18), .unset] [(.int (2 : Int32)), (.int ((p5 &&& (2147483647 : Int32)) % (3 : Int32)))]))
                  by_cases b220 : ((p5 &&& (2147483647 : Int32)) % (3 : Int32)) < (2 : Int32)
                  · refine Gets.via (fun _ k => (XS.icmpYes A37 hx rfl (pc0 := 220) (pc' := 230) rfl (hb hby at_220) rfl (Jvm.Free.XT.ii_lt_t b220) (by decide) (by decide) k)) ?_
                    show Gets p e below _ (T33.setTop (mkF m 230 #[.val (.int p0), .val (.int p1), .val (.int p2), .val (.int p3), .val (.int p4), .val (.int p5), .val (.int (p0 &&& (3 : Int32))), .val (.ref kd), .val (.int ((p5 &&& (2147483647 : Int32)) % (3 : Int32))), .val (.int (if (p5 &&& (16 : Int32)) = (0 : Int32) then ((Jvm.Free.XT.ushr p5 (5 : Int32)) % (3 : Int32)) else ((p5 &&& (2147483647 : Int32)) % (3 : Int32)))), .val (.int (p1 &&& (255 : Int32))), .val (.int (p2 &&& (255 : Int32))), .val (.int (if (p3 &&& (1 : Int32)) = (0 : Int32) then ((Jvm.Free.XT.ushr p3 (1 : Int32)) &&& (255 : Int32)) else (p1 &&& (255 : Int32)))), .val (.int (if (p4 &&& (1 : Int32)) = (0 : Int32) then ((Jvm.Free.XT.ushr p4 (1 : Int32)) &&& (255 : Int32)) else (p2 &&& (255 : Int32)))), .val (.ref a10), .val (.ref a14), .val (.ref a18), .unset] []))
                    refine Gets.via (fun _ k => (XS.iconst A37 hx rfl (hb hby at_230) (XS.goto A37 hx rfl (pc0 := 231) (pc' := 235) rfl (hb hby at_231) (by decide) (by decide) k))) ?_
                    show Gets p e below _ (T33.setTop (mkF m 235 #[.val (.int p0), .val (.int p1), .val (.int p2), .val (.int p3), .val (.int p4), .val (.int p5), .val (.int (p0 &&& (3 : Int32))), .val (.ref kd), .val (.int ((p5 &&& (2147483647 : Int32)) % (3 : Int32))), .val (.int (if (p5 &&& (16 : Int32)) = (0 : Int32) then ((Jvm.Free.XT.ushr p5 (5 : Int32)) % (3 : Int32)) else ((p5 &&& (2147483647 : Int32)) % (3 : Int32)))), .val (.int (p1 &&& (255 : Int32))), .val (.int (p2 &&& (255 : Int32))), .val (.int (if (p3 &&& (1 : Int32)) = (0 : Int32) then ((Jvm.Free.XT.ushr p3 (1 : Int32)) &&& (255 : Int32)) else (p1 &&& (255 : Int32)))), .val (.int (if (p4 &&& (1 : Int32)) = (0 : Int32) then ((Jvm.Free.XT.ushr p4 (1 : Int32)) &&& (255 : Int32)) else (p2 &&& (255 : Int32)))), .val (.ref a10), .val (.ref a14), .val (.ref a18), .unset] [(.int (1 : Int32))]))
                    exact j235 T33 X33 (1 : Int32) (Or.inl ⟨rfl, Or.inl b188, hiff.mpr ⟨b201, Or.inr b214, Or.inl b220⟩⟩)
                  · refine Gets.via (fun _ k => (XS.icmpNo A37 hx rfl (hb hby at_220) rfl (Jvm.Free.XT.ii_lt_f b220) k)) ?_
                    show Gets p e below _ (T33.setTop (mkF m 223 #[.val (.int p0), .val (.int p1), .val (.int p2), .val (.int p3), .val (.int p4), .val (.int p5), .val (.int (p0 &&& (3 : Int32))), .val (.ref kd), .val (.int ((p5 &&& (2147483647 : Int32)) % (3 : Int32))), .val (.int (if (p5 &&& (16 : Int32)) = (0 : Int32) then ((Jvm.Free.XT.ushr p5 (5 : Int32)) % (3 : Int32)) else ((p5 &&& (2147483647 : Int32)) % (3 : Int32)))), .val (.int (p1 &&& (255 : Int32))), .val (.int (p2 &&& (255 : Int32))), .val (.int (if (p3 &&& (1 : Int32)) = (0 : Int32) then ((Jvm.Free.XT.ushr p3 (1 : Int32)) &&& (255 : Int32)) else (p1 &&& (255 : Int32)))), .val (.int (if (p4 &&& (1 : Int32)) = (0 : Int32) then ((Jvm.Free.XT.ushr p4 (1 : Int32)) &&& (255 : Int32)) else (p2 &&& (255 : Int32)))), .val (.ref a10), .val (.ref a14), .val (.ref a18), .unset] []))
                    refine Gets.via (fun _ k => (XS.iload A37 hx rfl (hb hby at_223) rfl (XS.iload A37 hx rfl (hb hby at_225) rfl k))) ?_
                    show Gets p e below _ (T33.setTop (mkF m 227 #[.val (.int p0), .val (.int p1), .val (.int p2), .val (.int p3), .val (.int p4), .val (.int p5), .val (.int (p0 &&& (3 : Int32))), .val (.ref kd), .val (.int ((p5 &&& (2147483647 : Int32)) % (3 : Int32))), .val (.int (if (p5 &&& (16 : Int32)) = (0 : Int32) then ((Jvm.Free.XT.ushr p5 (5 : Int32)) % (3 : Int32)) else ((p5 &&& (2147483647 : Int32)) % (3 : Int32)))), .val (.int (p1 &&& (255 : Int32))), .val (.int (p2 &&& (255 : Int32))), .val (.int (if (p3 &&& (1 : Int32)) = (0 : Int32) then ((Jvm.Free.XT.ushr p3 (1 : Int32)) &&& (255 : Int32)) else (p1 &&& (255 : Int32)))), .val (.int (if (p4 &&& (1 : Int32)) = (0 : Int32) then ((Jvm.Free.XT.ushr p4 (1 : Int32)) &&& (255 : Int32)) else (p2 &&& (255 : Int32)))), .val (.ref a10), .val (.ref a14), .val (.ref a18), .unset] [(.int (if (p4 &&& (1 : Int32)) = (0 : Int32) then ((Jvm.Free.XT.ushr p4 (1 : Int32)) &&& (255 : Int32)) else (p2 &&& (255 : Int32)))), (.int (p2 &&& (255 : Int32)))]))
                    by_cases b227 : (p2 &&& (255 : Int32)) = (if (p4 &&& (1 : Int32)) = (0 : Int32) then ((Jvm.Free.XT.ushr p4 (1 : Int32)) &&& (255 : Int32)) else (p2 &&& (255 : Int32)))
                    · refine Gets.via (fun _ k => (XS.icmpNo A37 hx rfl (hb hby at_227) rfl (Jvm.Free.XT.ii_ne_f b227) k)) ?_
                      show Gets p e below _ (T33.setTop (mkF m 230 #[.val (.int p0), .val (.int p1), .val (.int p2), .val (.int p3), .val (.int p4), .val (.int p5), .val (.int (p0 &&& (3 : Int32))), .val (.ref kd), .val (.int ((p5 &&& (2147483647 : Int32)) % (3 : Int32))), .val (.int (if (p5 &&& (16 : Int32)) = (0 : Int32) then ((Jvm.Free.XT.ushr p5 (5 : Int32)) % (3 : Int32)) else ((p5 &&& (2147483647 : Int32)) % (3 : Int32)))), .val (.int (p1 &&& (255 : Int32))), .val (.int (p2 &&& (255 : Int32))), .val (.int (if (p3 &&& (1 : Int32)) = (0 : Int32) then ((Jvm.Free.XT.ushr p3 (1 : Int32)) &&& (255 : Int32)) else (p1 &&& (255 : Int32)))), .val (.int (if (p4 &&& (1 : Int32)) = (0 : Int32) then ((Jvm.Free.XT.ushr p4 (1 : Int32)) &&& (255 : Int32)) else (p2 &&& (255 : Int32)))), .val (.ref a10), .val (.ref a14), .val (.ref a18), .unset] []))
                      refine Gets.via (fun _ k => (XS.iconst A37 hx rfl (hb hby at_230) (XS.goto A37 hx rfl (pc0 := 231) (pc' := 235) rfl (hb hby at_231) (by decide) (by decide) k))) ?_
                      show Gets p e below _ (T33.setTop (mkF m 235 #[.val (.int p0), .val (.int p1), .val (.int p2), .val (.int p3), .val (.int p4), .val (.int p5), .val (.int (p0 &&& (3 : Int32))), .val (.ref kd), .val (.int ((p5 &&& (2147483647 : Int32)) % (3 : Int32))), .val (.int (if (p5 &&& (16 : Int32)) = (0 : Int32) then ((Jvm.Free.XT.ushr p5 (5 : Int32)) % (3 : Int32)) else ((p5 &&& (2147483647 : Int32)) % (3 : Int32)))), .val (.int (p1 &&& (255 : Int32))), .val (.int (p2 &&& (255 : Int32))), .val (.int (if (p3 &&& (1 : Int32)) = (0 : Int32) then ((Jvm.Free.XT.ushr p3 (1 : Int32)) &&& (255 : Int32)) else (p1 &&& (255 : Int32)))), .val (.int (if (p4 &&& (1 : Int32)) = (0 : Int32) then ((Jvm.Free.XT.ushr p4 (1 : Int32)) &&& (255 : Int32)) else (p2 &&& (255 : Int32)))), .val (.ref a10), .val (.ref a14), .val (.ref a18), .unset] [(.int (1 : Int32))]))
                      exact j235 T33 X33 (1 : Int32) (Or.inl ⟨rfl, Or.inl b188, hiff.mpr ⟨b201, Or.inr b214, Or.inr b227⟩⟩)
                    · refine Gets.via (fun _ k => (XS.icmpYes A37 hx rfl (pc0 := 227) (pc' := 234) rfl (hb hby at_227) rfl (Jvm.Free.XT.ii_ne_t b227) (by decide) (by decide) k)) ?_
                      show Gets p e below _ (T33.setTop (mkF m 234 #[.val (.int p0), .val (.int p1), .val (.int p2), .val (.int p3), .val (.int p4), .val (.int p5), .val (.int (p0 &&& (3 : Int32))), .val (.ref kd), .val (.int ((p5 &&& (2147483647 : Int32)) % (3 : Int32))), .val (.int (if (p5 &&& (16 : Int32)) = (0 : Int32) then ((Jvm.Free.XT.ushr p5 (5 : Int32)) % (3 : Int32)) else ((p5 &&& (2147483647 : Int32)) % (3 : Int32)))), .val (.int (p1 &&& (255 : Int32))), .val (.int (p2 &&& (255 : Int32))), .val (.int (if (p3 &&& (1 : Int32)) = (0 : Int32) then ((Jvm.Free.XT.ushr p3 (1 : Int32)) &&& (255 : Int32)) else (p1 &&& (255 : Int32)))), .val (.int (if (p4 &&& (1 : Int32)) = (0 : Int32) then ((Jvm.Free.XT.ushr p4 (1 : Int32)) &&& (255 : Int32)) else (p2 &&& (255 : Int32)))), .val (.ref a10), .val (.ref a14), .val (.ref a18), .unset] []))
                      refine Gets.via (fun _ k => (XS.iconst A37 hx rfl (hb hby at_234) k)) ?_
                      show Gets p e below _ (T33.setTop (mkF m 235 #[.val (.int p0), .val (.int p1), .val (.int p2), .val (.int p3), .val (.int p4), .val (.int p5), .val (.int (p0 &&& (3 : Int32))), .val (.ref kd), .val (.int ((p5 &&& (2147483647 : Int32)) % (3 : Int32))), .val (.int (if (p5 &&& (16 : Int32)) = (0 : Int32) then ((Jvm.Free.XT.ushr p5 (5 : Int32)) % (3 : Int32)) else ((p5 &&& (2147483647 : Int32)) % (3 : Int32)))), .val (.int (p1 &&& (255 : Int32))), .val (.int (p2 &&& (255 : Int32))), .val (.int (if (p3 &&& (1 : Int32)) = (0 : Int32) then ((Jvm.Free.XT.ushr p3 (1 : Int32)) &&& (255 : Int32)) else (p1 &&& (255 : Int32)))), .val (.int (if (p4 &&& (1 : Int32)) = (0 : Int32) then ((Jvm.Free.XT.ushr p4 (1 : Int32)) &&& (255 : Int32)) else (p2 &&& (255 : Int32)))), .val (.ref a10), .val (.ref a14), .val (.ref a18), .unset] [(.int (0 : Int32))]))
                      exact j235 T33 X33 (0 : Int32) (Or.inr ⟨rfl, fun q => (hiff.mp q.2).2.2.elim b220 b227⟩)
                · refine Gets.via (fun _ k => (XS.icmpYes A37 hx rfl (pc0 := 214) (pc' := 234) rfl (hb hby at_214) rfl (Jvm.Free.XT.ii_ne_t b214) (by decide) (by decide) k)) ?_
                  show Gets p e below _ (T33.setTop (mkF m 234 #[.val (.int p0), .val (.int p1), .val (.int p2), .val (.int p3), .val (.int p4), .val (.int p5), .val (.int (p0 &&& (3 : Int32))), .val (.ref kd), .val (.int ((p5 &&& (2147483647 : Int32)) % (3 : Int32))), .val (.int (if (p5 &&& (16 : Int32)) = (0 : Int32) then ((Jvm.Free.XT.ushr p5 (5 : Int32)) % (3 : Int32)) else ((p5 &&& (2147483647 : Int32)) % (3 : Int32)))), .val (.int (p1 &&& (255 : Int32))), .val (.int (p2 &&& (255 : Int32))), .val (.int (if (p3 &&& (1 : Int32)) = (0 : Int32) then ((Jvm.Free.XT.ushr p3 (1 : Int32)) &&& (255 : Int32)) else (p1 &&& (255 : Int32)))), .val (.int (if (p4 &&& (1 : Int32)) = (0 : Int32) then ((Jvm.Free.XT.ushr p4 (1 : Int32)) &&& (255 : Int32)) else (p2 &&& (255 : Int32)))), .val (.ref a10), .val (.ref a14), .val (.ref a18), .unset] []))
                  refine Gets.via (fun _ k => (XS.iconst A37 hx rfl (hb hby at_234) k)) ?_
                  show Gets p e below _ (T33.setTop (mkF m 235 #[.val (.int p0), .val (.int p1), .val (.int p2), .val (.int p3), .val (.int p4), .val (.int p5), .val (.int (p0 &&& (3 : Int32))), .val (.ref kd), .val (.int ((p5 &&& (2147483647 : Int32)) % (3 : Int32))), .val (.int (if (p5 &&& (16 : Int32)) = (0 : Int32) then ((Jvm.Free.XT.ushr p5 (5 : Int32)) % (3 : Int32)) else ((p5 &&& (2147483647 : Int32)) % (3 : Int32)))), .val (.int (p1 &&& (255 : Int32))), .val (.int (p2 &&& (255 : Int32))), .val (.int (if (p3 &&& (1 : Int32)) = (0 : Int32) then ((Jvm.Free.XT.ushr p3 (1 : Int32)) &&& (255 : Int32)) else (p1 &&& (255 : Int32)))), .val (.int (if (p4 &&& (1 : Int32)) = (0 : Int32) then ((Jvm.Free.XT.ushr p4 (1 : Int32)) &&& (255 : Int32)) else (p2 &&& (255 : Int32)))), .val (.ref a10), .val (.ref a14), .val (.ref a18), .unset] [(.int (0 : Int32))]))
                  exact j235 T33 X33 (0 : Int32) (Or.inr ⟨rfl, fun q => (hiff.mp q.2).2.1.elim b207 b214⟩)
            · refine Gets.via (fun _ k => (XS.icmpYes A37 hx rfl (pc0 := 201) (pc' := 234) rfl (hb hby at_201) rfl (Jvm.Free.XT.ii_ne_t b201) (by decide) (by decide) k)) ?_
              show Gets p e below _ (T33.setTop (mkF m 234 #[.val (.int p0), .val (.int p1), .val (.int p2), .val (.int p3), .val (.int p4), .val (.int p5), .val (.int (p0 &&& (3 : Int32))), .val (.ref kd), .val (.int ((p5 &&& (2147483647 : Int32)) % (3 : Int32))), .val (.int (if (p5 &&& (16 : Int32)) = (0 : Int32) then ((Jvm.Free.XT.ushr p5 (5 : Int32)) % (3 : Int32)) else ((p5 &&& (2147483647 : Int32)) % (3 : Int32)))), .val (.int (p1 &&& (255 : Int32))), .val (.int (p2 &&& (255 : Int32))), .val (.int (if (p3 &&& (1 : Int32)) = (0 : Int32) then ((Jvm.Free.XT.ushr p3 (1 : Int32)) &&& (255 : Int32)) else (p1 &&& (255 : Int32)))), .val (.int (if (p4 &&& (1 : Int32)) = (0 : Int32) then ((Jvm.Free.XT.ushr p4 (1 : Int32)) &&& (255 : Int32)) else (p2 &&& (255 : Int32)))), .val (.ref a10), .val (.ref a14), .val (.ref a18), .unset] []))
              refine Gets.via (fun _ k => (XS.iconst A37 hx rfl (hb hby at_234) k)) ?_
              show Gets p e below _ (T33.setTop (mkF m 235 #[.val (.int p0), .val (.int p1), .val (.int p2), .val (.int p3), .val (.int p4), .val (.int p5), .val (.int (p0 &&& (3 : Int32))), .val (.ref kd), .val (.int ((p5 &&& (2147483647 : Int32)) % (3 : Int32))), .val (.int (if (p5 &&& (16 : Int32)) = (0 : Int32) then ((Jvm.Free.XT.ushr p5 (5 : Int32)) % (3 : Int32)) else ((p5 &&& (2147483647 : Int32)) % (3 : Int32)))), .val (.int (p1 &&& (255 : Int32))), .val (.int (p2 &&& (255 : Int32))), .val (.int (if (p3 &&& (1 : Int32)) = (0 : Int32) then ((Jvm.Free.XT.ushr p3 (1 : Int32)) &&& (255 : Int32)) else (p1 &&& (255 : Int32)))), .val (.int (if (p4 &&& (1 : Int32)) = (0 : Int32) then ((Jvm.Free.XT.ushr p4 (1 : Int32)) &&& (255 : Int32)) else (p2 &&& (255 : Int32)))), .val (.ref a10), .val (.ref a14), .val (.ref a18), .unset] [(.int (0 : Int32))]))
              exact j235 T33 X33 (0 : Int32) (Or.inr ⟨rfl, fun q => b201 (hiff.mp q.2).1⟩)
          · refine Gets.via (fun _ k => (XS.ifNo A37 hx rfl (hb hby at_188) rfl (Jvm.Free.XT.i0_eq_f b188) k)) ?_
            show Gets p e below _ (T33.setTop (mkF m 191 #[.val (.int p0), .val (.int p1), .val (.int p2), .val (.int p3), .val (.int p4), .val (.int p5), .val (.int (p0 &&& (3 : Int32))), .val (.ref kd), .val (.int ((p5 &&& (2147483647 : Int32)) % (3 : Int32))), .val (.int (if (p5 &&& (16 : Int32)) = (0 : Int32) then ((Jvm.Free.XT.ushr p5 (5 : Int32)) % (3 : Int32)) else ((p5 &&& (2147483647 : Int32)) % (3 : Int32)))), .val (.int (p1 &&& (255 : Int32))), .val (.int (p2 &&& (255 : Int32))), .val (.int (if (p3 &&& (1 : Int32)) = (0 : Int32) then ((Jvm.Free.XT.ushr p3 (1 : Int32)) &&& (255 : Int32)) else (p1 &&& (255 : Int32)))), .val (.int (if (p4 &&& (1 : Int32)) = (0 : Int32) then ((Jvm.Free.XT.ushr p4 (1 : Int32)) &&& (255 : Int32)) else (p2 &&& (255 : Int32)))), .val (.ref a10), .val (.ref a14), .val (.ref a18), .unset] []))
            refine Gets.via (fun _ k => (XS.iload A37 hx rfl (hb hby at_191) rfl (XS.iconst A37 hx rfl (hb hby at_193) k))) ?_
            show Gets p e below _ (T33.setTop (mkF m 194 #[.val (.int p0), .val (.int p1), .val (.int p2), .val (.int p3), .val (.int p4), .val (.int p5), .val (.int (p0 &&& (3 : Int32))), .val (.ref kd), .val (.int ((p5 &&& (2147483647 : Int32)) % (3 : Int32))), .val (.int (if (p5 &&& (16 : Int32)) = (0 : Int32) then ((Jvm.Free.XT.ushr p5 (5 : Int32)) % (3 : Int32)) else ((p5 &&& (2147483647 : Int32)) % (3 : Int32)))), .val (.int (p1 &&& (255 : Int32))), .val (.int (p2 &&& (255 : Int32))), .val (.int (if (p3 &&& (1 : Int32)) = (0 : Int32) then ((Jvm.Free.XT.ushr p3 (1 : Int32)) &&& (255 : Int32)) else (p1 &&& (255 : Int32)))), .val (.int (if (p4 &&& (1 : Int32)) = (0 : Int32) then ((Jvm.Free.XT.ushr p4 (1 : Int32)) &&& (255 : Int32)) else (p2 &&& (255 : Int32)))), .val (.ref a10), .val (.ref a14), .val (.ref a18), .unset] [(.int (1 : Int32)), (.int (p0 &&& (3 : Int32)))]))
            by_cases b194 : (p0 &&& (3 : Int32)) = (1 : Int32)
            · refine Gets.via (fun _ k => (XS.icmpNo A37 hx rfl (hb hby at_194) rfl (Jvm.Free.XT.ii_ne_f b194) k)) ?_
              show Gets p e below _ (T33.setTop (mkF m 197 #[.val (.int p0), .val (.int p1), .val (.int p2), .val (.int p3), .val (.int p4), .val (.int p5), .val (.int (p0 &&& (3 : Int32))), .val (.ref kd), .val (.int ((p5 &&& (2147483647 : Int32)) % (3 : Int32))), .val (.int (if (p5 &&& (16 : Int32)) = (0 : Int32) then ((Jvm.Free.XT.ushr p5 (5 : Int32)) % (3 : Int32)) else ((p5 &&& (2147483647 : Int32)) % (3 : Int32)))), .val (.int (p1 &&& (255 : Int32))), .val (.int (p2 &&& (255 : Int32))), .val (.int (if (p3 &&& (1 : Int32)) = (0 : Int32) then ((Jvm.Free.XT.ushr p3 (1 : Int32)) &&& (255 : Int32)) else (p1 &&& (255 : Int32)))), .val (.int (if (p4 &&& (1 : Int32)) = (0 : Int32) then ((Jvm.Free.XT.ushr p4 (1 : Int32)) &&& (255 : Int32)) else (p2 &&& (255 : Int32)))), .val (.ref a10), .val (.ref a14), .val (.ref a18), .unset] []))
              refine Gets.via (fun _ k => (XS.iload A37 hx rfl (hb hby at_197) rfl (XS.iload A37 hx rfl (hb hby at_199) rfl k))) ?_
              show Gets p e below _ (T33.setTop (mkF m 201 #[.val (.int p0), .val (.int p1), .val (.int p2), .val (.int p3), .val (.int p4), .val (.int p5), .val (.int (p0 &&& (3 : Int32))), .val (.ref kd), .val (.int ((p5 &&& (2147483647 : Int32)) % (3 : Int32))), .val (.int (if (p5 &&& (16 : Int32)) = (0 : Int32) then ((Jvm.Free.XT.ushr p5 (5 : Int32)) % (3 : Int32)) else ((p5 &&& (2147483647 : Int32)) % (3 : Int32)))), .val (.int (p1 &&& (255 : Int32))), .val (.int (p2 &&& (255 : Int32))), .val (.int (if (p3 &&& (1 : Int32)) = (0 : Int32) then ((Jvm.Free.XT.ushr p3 (1 : Int32)) &&& (255 : Int32)) else (p1 &&& (255 : Int32)))), .val (.int (if (p4 &&& (1 : Int32)) = (0 : Int32) then ((Jvm.Free.XT.ushr p4 (1 : Int32)) &&& (255 : Int32)) else (p2 &&& (255 : Int32)))), .val (.ref a10), .val (.ref a14), .val (.ref a18), .unset] [(.int (if (p5 &&& (16 : Int32)) = (0 : Int32) then ((Jvm.Free.XT.ushr p5 (5 : Int32)) % (3 : Int32)) else ((p5 &&& (2147483647 : Int32)) % (3 : Int32)))), (.int ((p5 &&& (2147483647 : Int32)) % (3 : Int32)))]))
              by_cases b201 : ((p5 &&& (2147483647 : Int32)) % (3 : Int32)) = (if (p5 &&& (16 : Int32)) = (0 : Int32) then ((Jvm.Free.XT.ushr p5 (5 : Int32)) % (3 : Int32)) else ((p5 &&& (2147483647 : Int32)) % (3 : Int32)))
              · refine Gets.via (fun _ k => (XS.icmpNo A37 hx rfl (hb hby at_201) rfl (Jvm.Free.XT.ii_ne_f b201) k)) ?_
                show Gets p e below _ (T33.setTop (mkF m 204 #[.val (.int p0), .val (.int p1), .val (.int p2), .val (.int p3), .val (.int p4), .val (.int p5), .val (.int (p0 &&& (3 : Int32))), .val (.ref kd), .val (.int ((p5 &&& (2147483647 : Int32)) % (3 : Int32))), .val (.int (if (p5 &&& (16 : Int32)) = (0 : Int32) then ((Jvm.Free.XT.ushr p5 (5 : Int32)) % (3 : Int32)) else ((p5 &&& (2147483647 : Int32)) % (3 : Int32)))), .val (.int (p1 &&& (255 : Int32))), .val (.int (p2 &&& (255 : Int32))), .val (.int (if (p3 &&& (1 : Int32)) = (0 : Int32) then ((Jvm.Free.XT.ushr p3 (1 : Int32)) &&& (255 : Int32)) else (p1 &&& (255 : Int32)))), .val (.int (if (p4 &&& (1 : Int32)) = (0 : Int32) then ((Jvm.Free.XT.ushr p4 (1 : Int32)) &&& (255 : Int32)) else (p2 &&& (255 : Int32)))), .val (.ref a10), .val (.ref a14), .val (.ref a18), .unset] []))
                refine Gets.via (fun _ k => (XS.iload A37 hx rfl (hb hby at_204) rfl (XS.iconst A37 hx rfl (hb hby at_206) k))) ?_
                show Gets p e below _ (T33.setTop (mkF m 207 #[.val (.int p0), .val (.int p1), .val (.int p2), .val (.int p3), .val (.int p4), .val (.int p5), .val (.int (p0 &&& (3 : Int32))), .val (.ref kd), .val (.int ((p5 &&& (2147483647 : Int32)) % (3 : Int32))), .val (.int (if (p5 &&& (16 : Int32)) = (0 : Int32) then ((Jvm.Free.XT.ushr p5 (5 : Int32)) % (3 : Int32)) else ((p5 &&& (2147483647 : Int32)) % (3 : Int32)))), .val (.int (p1 &&& (255 : Int32))), .val (.int (p2 &&& (255 : Int32))), .val (.int (if (p3 &&& (1 : Int32)) = (0 : Int32) then ((Jvm.Free.XT.ushr p3 (1 : Int32)) &&& (255 : Int32)) else (p1 &&& (255 : Int32)))), .val (.int (if (p4 &&& (1 : Int32)) = (0 : Int32) then ((Jvm.Free.XT.ushr p4 (1 : Int32)) &&& (255 : Int32)) else (p2 &&& (255 : Int32)))), .val (.ref a10), .val (.ref a14), .val (.ref a18), .unset] [(.int (1 : Int32)), (.int ((p5 &&& (2147483647 : Int32)) % (3 : Int32)))]))
                by_cases b207 : ((p5 &&& (2147483647 : Int32)) % (3 : Int32)) < (1 : Int32)
                · refine Gets.via (fun _ k => (XS.icmpYes A37 hx rfl (pc0 := 207) (pc' := 217) rfl (hb hby at_207) rfl (Jvm.Free.XT.ii_lt_t b207) (by decide) (by decide) k)) ?_
                  show Gets p e below _ (T33.setTop (mkF m 217 #[.val (.int p0), .val (.int p1), .val (.int p2), .val (.int p3), .val (.int p4), .val (.int p5), .val (.int (p0 &&& (3 : Int32))), .val (.ref kd), .val (.int ((p5 &&& (2147483647 : Int32)) % (3 : Int32))), .val (.int (if (p5 &&& (16 : Int32)) = (0 : Int32) then ((Jvm.Free.XT.ushr p5 (5 : Int32)) % (3 : Int32)) else ((p5 &&& (2147483647 : Int32)) % (3 : Int32)))), .val (.int (p1 &&& (255 : Int32))), .val (.int (p2 &&& (255 : Int32))), .val (.int (if (p3 &&& (1 : Int32)) = (0 : Int32) then ((Jvm.Free.XT.ushr p3 (1 : Int32)) &&& (255 : Int32)) else (p1 &&& (255 : Int32)))), .val (.int (if (p4 &&& (1 : Int32)) = (0 : Int32) then ((Jvm.Free.XT.ushr p4 (1 : Int32)) &&& (255 : Int32)) else (p2 &&& (255 : Int32)))), .val (.ref a10), .val (.ref a14), .val (.ref a18), .unset] []))
                  refine Gets.via (fun _ k => (XS.iload A37 hx rfl (hb hby at_217) rfl (XS.iconst A37 hx rfl (hb hby at_219) k))) ?_
                  show Gets p e below _ (T33.setTop (mkF m 220 #[.val (.int p0), .val (.int p1), .val (.int p2), .val (.int p3), .val (.int p4), .val (.int p5), .val (.int (p0 &&& (3 : Int32))), .val (.ref kd), .val (.int ((p5 &&& (2147483647 : Int32)) % (3 : Int32))), .val (.int (if (p5 &&& (16 : Int32)) = (0 : Int32) then ((Jvm.Free.XT.ushr p5 (5 : Int32)) % (3 : Int32)) else ((p5 &&& (2147483647 : Int32)) % (3 : Int32)))), .val (.int (p1 &&& (255 : Int32))), .val (.int (p2 &&& (255 : Int32))), .val (.int (if (p3 &&& (1 : Int32)) = (0 : Int32) then ((Jvm.Free.XT.ushr p3 (1 : Int32)) &&& (255 : Int32)) else (p1 &&& (255 : Int32)))), .val (.int (if (p4 &&& (1 : Int32)) = (0 : Int32) then ((Jvm.Free.XT.ushr p4 (1 : Int32)) &&& (255 : Int32)) else (p2 &&& (255 : Int32)))), .val (.ref a10), .val (.ref a14), .val (.ref a18), .unset] [(.int (2 : Int32)), (.int ((p5 &&& (2147483647 : Int32)) % (3 : Int32)))]))
                  by_cases b220 : ((p5 &&& (2147483647 : Int32)) % (3 : Int32)) < (2 : Int32)
                  · refine Gets.via (fun _ k => (XS.icmpYes A37 hx rfl (pc0 := 220) (pc' := 230) rfl (hb hby at_220) rfl (Jvm.Free.XT.ii_lt_t b220) (by decide) (by decide) k)) ?_
                    show Gets p e below _ (T33.setTop (mkF m 230 #[.val (.int p0), .val (.int p1), .val (.int p2), .val (.int p3), .val (.int p4), .val (.int p5), .val (.int (p0 &&& (3 : Int32))), .val (.ref kd), .val (.int ((p5 &&& (2147483647 : Int32)) % (3 : Int32))), .val (.int (if (p5 &&& (16 : Int32)) = (0 : Int32) then ((Jvm.Free.XT.ushr p5 (5 : Int32)) % (3 : Int32)) else ((p5 &&& (2147483647 : Int32)) % (3 : Int32)))), .val (.int (p1 &&& (255 : Int32))), .val (.int (p2 &&& (255 : Int32))), .val (.int (if (p3 &&& (1 : Int32)) = (0 : Int32) then ((Jvm.Free.XT.ushr p3 (1 : Int32)) &&& (255 : Int32)) else (p1 &&& (255 : Int32)))), .val (.int (if (p4 &&& (1 : Int32)) = (0 : Int32) then ((Jvm.Free.XT.ushr p4 (1 : Int32)) &&& (255 : Int32)) else (p2 &&& (255 : Int32)))), .val (.ref a10), .val (.ref a14), .val (.ref a18), .unset] []))
                    refine Gets.via (fun _ k => (XS.iconst A37 hx rfl (hb hby at_230) (XS.goto A37 hx rfl (pc0 := 231) (pc' := 235) rfl (hb hby at_231) (by decide) (by decide) k))) ?_
                    show Gets p e below _ (T33.setTop (mkF m 235 #[.val (.int p0), .val (.int p1), .val (.int p2), .val (.int p3), .val (.int p4), .val (.int p5), .val (.int (p0 &&& (3 : Int32))), .val (.ref kd), .val (.int ((p5 &&& (2147483647 : Int32)) % (3 : Int32))), .val (.int (if (p5 &&& (16 : Int32)) = (0 : Int32) then ((Jvm.Free.XT.ushr p5 (5 : Int32)) % (3 : Int32)) else ((p5 &&& (2147483647 : Int32)) % (3 : Int32)))), .val (.int (p1 &&& (255 : Int32))), .val (.int (p2 &&& (255 : Int32))), .val (.int (if (p3 &&& (1 : Int32)) = (0 : Int32) then ((Jvm.Free.XT.ushr p3 (1 : Int32)) &&& (255 : Int32)) else (p1 &&& (255 : Int32)))), .val (.int (if (p4 &&& (1 : Int32)) = (0 : Int32) then ((Jvm.Free.XT.ushr p4 (1 : Int32)) &&& (255 : Int32)) else (p2 &&& (255 : Int32)))), .val (.ref a10), .val (.ref a14), .val (.ref a18), .unset] [(.int (1 : Int32))]))
                    exact j235 T33 X33 (1 : Int32) (Or.inl ⟨rfl, Or.inr b194, hiff.mpr ⟨b201, Or.inl b207, Or.inl b220⟩⟩)
                  · refine Gets.via (fun _ k => (XS.icmpNo A37 hx rfl (hb hby at_220) rfl (Jvm.Free.XT.ii_lt_f b220) k)) ?_
                    show Gets p e below _ (T33.setTop (mkF m 223 #[.val (.int p0), .val (.int p1), .val (.int p2), .val (.int p3), .val (.int p4), .val (.int p5), .val (.int (p0 &&& (3 : Int32))), .val (.ref kd), .val (.int ((p5 &&& (2147483647 : Int32)) % (3 : Int32))), .val (.int (if (p5 &&& (16 : Int32)) = (0 : Int32) then ((Jvm.Free.XT.ushr p5 (5 : Int32)) % (3 : Int32)) else ((p5 &&& (2147483647 : Int32)) % (3 : Int32)))), .val (.int (p1 &&& (255 : Int32))), .val (.int (p2 &&& (255 : Int32))), .val (.int (if (p3 &&& (1 : Int32)) = (0 : Int32) then ((Jvm.Free.XT.ushr p3 (1 : Int32)) &&& (255 : Int32)) else (p1 &&& (255 : Int32)))), .val (.int (if (p4 &&& (1 : Int32)) = (0 : Int32) then ((Jvm.Free.XT.ushr p4 (1 : Int32)) &&& (255 : Int32)) else (p2 &&& (255 : Int32)))), .val (.ref a10), .val (.ref a14), .val (.ref a18), .unset] []))
                    refine Gets.via (fun _ k => (XS.iload A37 hx rfl (hb hby at_223) rfl (XS.iload A37 hx rfl (hb hby at_225) rfl k))) ?_
                    show Gets p e below _ (T33.setTop (mkF m 227 #[.val (.int p0), .val (.int p1), .val (.int p2), .val (.int p3), .val (.int p4), .val (.int p5), .val (.int (p0 &&& (3 : Int32))), .val (.ref kd), .val (.int ((p5 &&& (2147483647 : Int32)) % (3 : Int32))), .val (.int (if (p5 &&& (16 : Int32)) = (0 : Int32) then ((Jvm.Free.XT.ushr p5 (5 : Int32)) % (3 : Int32)) else ((p5 &&& (2147483647 : Int32)) % (3 : Int32)))), .val (.int (p1 &&& (255 : Int32))), .val (.int (p2 &&& (255 : Int32))), .val (.int (if (p3 &&& (1 : Int32)) = (0 : Int32) then ((Jvm.Free.XT.ushr p3 (1 : Int32)) &&& (255 : Int32)) else (p1 &&& (255 : Int32)))), .val (.int (if (p4 &&& (1 : Int32)) = (0 : Int32) then ((Jvm.Free.XT.ushr p4 (1 : Int32)) &&& (255 : Int32)) else (p2 &&& (255 : Int32)))), .val (.ref a10), .val (.ref a14), .val (.ref a18), .unset] [(.int (if (p4 &&& (1 : Int32)) = (0 : Int32) then ((Jvm.Free.XT.ushr p4 (1 : Int32)) &&& (255 : Int32)) else (p2 &&& (255 : Int32)))), (.int (p2 &&& (255 : Int32)))]))
                    by_cases b227 : (p2 &&& (255 : Int32)) = (if (p4 &&& (1 : Int32)) = (0 : Int32) then ((Jvm.Free.XT.ushr p4 (1 : Int32)) &&& (255 : Int32)) else (p2 &&& (255 : Int32)))
                    · refine Gets.via (fun _ k => (XS.icmpNo A37 hx rfl (hb hby at_227) rfl (Jvm.Free.XT.ii_ne_f b227) k)) ?_
                      show Gets p e below _ (T33.setTop (mkF m 230 #[.val (.int p0), .val (.int p1), .val (.int p2), .val (.int p3), .val (.int p4), .val (.int p5), .val (.int (p0 &&& (3 : Int32))), .val (.ref kd), .val (.int ((p5 &&& (2147483647 : Int32)) % (3 : Int32))), .val (.int (if (p5 &&& (16 : Int32)) = (0 : Int32) then ((Jvm.Free.XT.ushr p5 (5 : Int32)) % (3 : Int32)) else ((p5 &&& (2147483647 : Int32)) % (3 : Int32)))), .val (.int (p1 &&& (255 : Int32))), .val (.int (p2 &&& (255 : Int32))), .val (.int (if (p3 &&& (1 : Int32)) = (0 : Int32) then ((Jvm.Free.XT.ushr p3 (1 : Int32)) &&& (255 : Int32)) else (p1 &&& (255 : Int32)))), .val (.int (if (p4 &&& (1 : Int32)) = (0 : Int32) then ((Jvm.Free.XT.ushr p4 (1 : Int32)) &&& (255 : Int32)) else (p2 &&& (255 : Int32)))), .val (.ref a10), .val (.ref a14), .val (.ref a18), .unset] []))
                      refine Gets.via (fun _ k => (XS.iconst A37 hx rfl (hb hby at_230) (XS.goto A37 hx rfl (pc0 := 231) (pc' := 235) rfl (hb hby at_231) (by decide) (by decide) k))) ?_
                      show Gets p e below _ (T33.setTop (mkF m 235 #[.val (.int p0), .val (.int p1), .val (.int p2), .val (.int p3), .val (.int p4), .val (.int p5), .val (.int (p0 &&& (3 : Int32))), .val (.ref kd), .val (.int ((p5 &&& (2147483647 : Int32)) % (3 : Int32))), .val (.int (if (p5 &&& (16 : Int32)) = (0 : Int32) then ((Jvm.Free.XT.ushr p5 (5 : Int32)) % (3 : Int32)) else ((p5 &&& (2147483647 : Int32)) % (3 : Int32)))), .val (.int (p1 &&& (255 : Int32))), .val (.int (p2 &&& (255 : Int32))), .val (.int (if (p3 &&& (1 : Int32)) = (0 : Int32) then ((Jvm.Free.XT.ushr p3 (1 : Int32)) &&& (255 : Int32)) else (p1 &&& (255 : Int32)))), .val (.int (if (p4 &&& (1 : Int32)) = (0 : Int32) then ((Jvm.Free.XT.ushr p4 (1 : Int32)) &&& (255 : Int32)) else (p2 &&& (255 : Int32)))), .val (.ref a10), .val (.ref a14), .val (.ref a18), .unset] [(.int (1 : Int32))]))
                      exact j235 T33 X33 (1 : Int32) (Or.inl ⟨rfl, Or.inr b194, hiff.mpr ⟨b201, Or.inl b207, Or.inr b227⟩⟩)
                    · refine Gets.via (fun _ k => (XS.icmpYes A37 hx rfl (pc0 := 227) (pc' := 234) rfl (hb hby at_227) rfl (Jvm.Free.XT.ii_ne_t b227) (by decide) (by decide) k)) ?_
                      show Gets p e below _ (T33.setTop (mkF m 234 #[.val (.int p0), .val (.int p1), .val (.int p2), .val (.int p3), .val (.int p4), .val (.int p5), .val (.int (p0 &&& (3 : Int32))), .val (.ref kd), .val (.int ((p5 &&& (2147483647 : Int32)) % (3 : Int32))), .val (.int (if (p5 &&& (16 : Int32)) = (0 : Int32) then ((Jvm.Free.XT.ushr p5 (5 : Int32)) % (3 : Int32)) else ((p5 &&& (2147483647 : Int32)) % (3 : Int32)))), .val (.int (p1 &&& (255 : Int32))), .val (.int (p2 &&& (255 : Int32))), .val (.int (if (p3 &&& (1 : Int32)) = (0 : Int32) then ((Jvm.Free.XT.ushr p3 (1 : Int32)) &&& (255 : Int32)) else (p1 &&& (255 : Int32)))), .val (.int (if (p4 &&& (1 : Int32)) = (0 : Int32) then ((Jvm.Free.XT.ushr p4 (1 : Int32)) &&& (255 : Int32)) else (p2 &&& (255 : Int32)))), .val (.ref a10), .val (.ref a14), .val (.ref a18), .unset] []))
                      refine Gets.via (fun _ k => (XS.iconst A37 hx rfl (hb hby at_234) k)) ?_
                      show Gets p e below _ (T33.setTop (mkF m 235 #[.val (.int p0), .val (.int p1), .val (.int p2), .val (.int p3), .val (.int p4), .val (.int p5), .val (.int (p0 &&& (3 : Int32))), .val (.ref kd), .val (.int ((p5 &&& (2147483647 : Int32)) % (3 : Int32))), .val (.int (if (p5 &&& (16 : Int32)) = (0 : Int32) then ((Jvm.Free.XT.ushr p5 (5 : Int32)) % (3 : Int32)) else ((p5 &&& (2147483647 : Int32)) % (3 : Int32)))), .val (.int (p1 &&& (255 : Int32))), .val (.int (p2 &&& (255 : Int32))), .val (.int (if (p3 &&& (1 : Int32)) = (0 : Int32) then ((Jvm.Free.XT.ushr p3 (1 : Int32)) &&& (255 : Int32)) else (p1 &&& (255 : Int32)))), .val (.int (if (p4 &&& (1 : Int32)) = (0 : Int32) then ((Jvm.Free.XT.ushr p4 (1 : Int32)) &&& (255 : Int32)) else (p2 &&& (255 : Int32)))), .val (.ref a10), .val (.ref a14), .val (.ref a18), .unset] [(.int (0 : Int32))]))
                      exact j235 T33 X33 (0 : Int32) (Or.inr ⟨rfl, fun q => (hiff.mp q.2).2.2.elim b220 b227⟩)
                · refine Gets.via (fun _ k => (XS.icmpNo A37 hx rfl (hb hby at_207) rfl (Jvm.Free.XT.ii_lt_f b207) k)) ?_
                  show Gets p e below _ (T33.setTop (mkF m 210 #[.val (.int p0), .val (.int p1), .val (.int p2), .val (.int p3), .val (.int p4), .val (.int p5), .val (.int (p0 &&& (3 : Int32))), .val (.ref kd), .val (.int ((p5 &&& (2147483647 : Int32)) % (3 : Int32))), .val (.int (if (p5 &&& (16 : Int32)) = (0 : Int32) then ((Jvm.Free.XT.ushr p5 (5 : Int32)) % (3 : Int32)) else ((p5 &&& (2147483647 : Int32)) % (3 : Int32)))), .val (.int (p1 &&& (255 : Int32))), .val (.int (p2 &&& (255 : Int32))), .val (.int (if (p3 &&& (1 : Int32)) = (0 : Int32) then ((Jvm.Free.XT.ushr p3 (1 : Int32)) &&& (255 : Int32)) else (p1 &&& (255 : Int32)))), .val (.int (if (p4 &&& (1 : Int32)) = (0 : Int32) then ((Jvm.Free.XT.ushr p4 (1 : Int32)) &&& (255 : Int32)) else (p2 &&& (255 : Int32)))), .val (.ref a10), .val (.ref a14), .val (.ref a18), .unset] []))
                  refine Gets.via (fun _ k => (XS.iload A37 hx rfl (hb hby at_210) rfl (XS.iload A37 hx rfl (hb hby at_212) rfl k))) ?_
                  show Gets p e below _ (T33.setTop (mkF m 214 #[.val (.int p0), .val (.int p1), .val (.int p2), .val (.int p3), .val (.int p4), .val (.int p5), .val (.int (p0 &&& (3 : Int32))), .val (.ref kd), .val (.int ((p5 &&& (2147483647 : Int32)) % (3 : Int32))), .val (.int (if (p5 &&& (16 : Int32)) = (0 : Int32) then ((Jvm.Free.XT.ushr p5 (5 : Int32)) % (3 : Int32)) else ((p5 &&& (2147483647 : Int32)) % (3 : Int32)))), .val (.int (p1 &&& (255 : Int32))), .val (.int (p2 &&& (255 : Int32))), .val (.int (if (p3 &&& (1 : Int32)) = (0 : Int32) then ((Jvm.Free.XT.ushr p3 (1 : Int32)) &&& (255 : Int32)) else (p1 &&& (255 : Int32)))), .val (.int (if (p4 &&& (1 : Int32)) = (0 : Int32) then ((Jvm.Free.XT.ushr p4 (1 : Int32)) &&& (255 : Int32)) else (p2 &&& (255 : Int32)))), .val (.ref a10), .val (.ref a14), .val (.ref a18), .unset] [(.int (if (p3 &&& (1 : Int32)) = (0 : Int32) then ((Jvm.Free.XT.ushr p3 (1 : Int32)) &&& (255 : Int32)) else (p1 &&& (255 : Int32)))), (.int (p1 &&& (255 : Int32)))]))
                  by_cases b214 : (p1 &&& (255 : Int32)) = (if (p3 &&& (1 : Int32)) = (0 : Int32) then ((Jvm.Free.XT.ushr p3 (1 : Int32)) &&& (255 : Int32)) else (p1 &&& (255 : Int32)))
                  · refine Gets.via (fun _ k => (XS.icmpNo A37 hx rfl (hb hby at_214) rfl (Jvm.Free.XT.ii_ne_f b214) k)) ?_
                    show Gets p e below _ (T33.setTop (mkF m 217 #[.val (.int p0), .val (.int p1), .val (.int p2), .val (.int p3), .val (.int p4), .val (.int p5), .val (.int (p0 &&& (3 : Int32))), .val (.ref kd), .val (.int ((p5 &&& (2147483647 : Int32)) % (3 : Int32))), .val (.int (if (p5 &&& (16 : Int32)) = (0 : Int32) then ((Jvm.Free.XT.ushr p5 (5 : Int32)) % (3 : Int32)) else ((p5 &&& (2147483647 : Int32)) % (3 : Int32)))), .val (.int (p1 &&& (255 : Int32))), .val (.int (p2 &&& (255 : Int32))), .val (.int (if (p3 &&& (1 : Int32)) = (0 : Int32) then ((Jvm.Free.XT.ushr p3 (1 : Int32)) &&& (255 : Int32)) else (p1 &&& (255 : Int32)))), .val (.int (if (p4 &&& (1 : Int32)) = (0 : Int32) then ((Jvm.Free.XT.ushr p4 (1 : Int32)) &&& (255 : Int32)) else (p2 &&& (255 : Int32)))), .val (.ref a10), .val (.ref a14), .val (.ref a18), .unset] []))
                    refine Gets.via (fun _ k => (XS.iload A37 hx rfl (hb hby at_217) rfl (XS.iconst A37 hx rfl (hb hby at_219) k))) ?_
                    show Gets p e below _ (T33.setTop (mkF m 220 #[.val (.int p0), .val (.int p1), .val (.int p2), .val (.int p3), .val (.int p4), .val (.int p5), .val (.int (p0 &&& (3 : Int32))), .val (.ref kd), .val (.int ((p5 &&& (2147483647 : Int32)) % (3 : Int32))), .val (.int (if (p5 &&& (16 : Int32)) = (0 : Int32) then ((Jvm.Free.XT.ushr p5 (5 : Int32)) % (3 : Int32)) else ((p5 &&& (2147483647 : Int32)) % (3 : Int32)))), .val (.int (p1 &&& (255 : Int32))), .val (.int (p2 &&& (255 : Int32))), .val (.int (if (p3 &&& (1 : Int32)) = (0 : Int32) then ((Jvm.Free.XT.ushr p3 (1 : Int32)) &&& (255 : Int32)) else (p1 &&& (255 : Int32)))), .val (.int (if (p4 &&& (1 : Int32)) = (0 : Int32) then ((Jvm.Free.XT.ushr p4 (1 : Int32)) &&& (255 : Int32)) else (p2 &&& (255 : Int32)))), .val (.ref a10), .val (.ref a14), .val (.ref a18), .unset] [(.int (2 : Int32)), (.int ((p5 &&& (2147483647 : Int32)) % (3 : Int32)))]))
                    by_cases b220 : ((p5 &&& (2147483647 : Int32)) % (3 : Int32)) < (2 : Int32)
                    · refine Gets.via (fun _ k => (XS.icmpYes A37 hx rfl (pc0 := 220) (pc' := 230) rfl (hb hby at_220) rfl (Jvm.Free.XT.ii_lt_t b220) (by decide) (by decide) k)) ?_
                      show Gets p e below _ (T33.setTop (mkF m 230 #[.val (.int p0), .val (.int p1), .val (.int p2), .val (.int p3), .val (.int p4), .val (.int p5), .val (.int (p0 &&& (3 : Int32))), .val (.ref kd), .val (.int ((p5 &&& (2147483647 : Int32)) % (3 : Int32))), .val (.int (if (p5 &&& (16 : Int32)) = (0 : Int32) then ((Jvm.Free.XT.ushr p5 (5 : Int32)) % (3 : Int32)) else ((p5 &&& (2147483647 : Int32)) % (3 : Int32)))), .val (.int (p1 &&& (255 : Int32))), .val (.int (p2 &&& (255 : Int32))), .val (.int (if (p3 &&& (1 : Int32)) = (0 : Int32) then ((Jvm.Free.XT.ushr p3 (1 : Int32)) &&& (255 : Int32)) else (p1 &&& (255 : Int32)))), .val (.int (if (p4 &&& (1 : Int32)) = (0 : Int32) then ((Jvm.Free.XT.ushr p4 (1 : Int32)) &&& (255 : Int32)) else (p2 &&& (255 : Int32)))), .val (.ref a10), .val (.ref a14), .val (.ref a18), .unset] []))
                      refine Gets.via (fun _ k => (XS.iconst A37 hx rfl (hb hby at_230) (XS.goto A37 hx rfl (pc0 := 231) (pc' := 235) rfl (hb hby at_231) (by decide) (by decide) k))) ?_
                      show Gets p e below _ (T33.setTop (mkF m 235 #[.val (.int p0), .val (.int p1), .val (.int p2), .val (.int p3), .val (.int p4), .val (.int p5), .val (.int (p0 &&& (3 : Int32))), .val (.ref kd), .val (.int ((p5 &&& (2147483647 : Int32)) % (3 : Int32))), .val (.int (if (p5 &&& (16 : Int32)) = (0 : Int32) then ((Jvm.Free.XT.ushr p5 (5 : Int32)) % (3 : Int32)) else ((p5 &&& (2147483647 : Int32)) % (3 : Int32)))), .val (.int (p1 &&& (255 : Int32))), .val (.int (p2 &&& (255 : Int32))), .val (.int (if (p3 &&& (1 : Int32)) = (0 : Int32) then ((Jvm.Free.XT.ushr p3 (1 : Int32)) &&& (255 : Int32)) else (p1 &&& (255 : Int32)))), .val (.int (if (p4 &&& (1 : Int32)) = (0 : Int32) then ((Jvm.Free.XT.ushr p4 (1 : Int32)) &&& (255 : Int32)) else (p2 &&& (255 : Int32)))), .val (.ref a10), .val (.ref a14), .val (.ref a18), .unset] [(.int (1 : Int32))]))
                      exact j235 T33 X33 (1 : Int32) (Or.inl ⟨rfl, Or.inr b194, hiff.mpr ⟨b201, Or.inr b214, Or.inl b220⟩⟩)
                    · refine Gets.via (fun _ k => (XS.icmpNo A37 hx rfl (hb hby at_220) rfl (Jvm.Free.XT.ii_lt_f b220) k)) ?_
                      show Gets p e below _ (T33.setTop (mkF m 223 #[.val (.int p0), .val (.int p1), .val (.int p2), .val (.int p3), .val (.int p4), .val (.int p5), .val (.int (p0 &&& (3 : Int32))), .val (.ref kd), .val (.int ((p5 &&& (2147483647 : Int32)) % (3 : Int32))), .val (.int (if (p5 &&& (16 : Int32)) = (0 : Int32) then ((Jvm.Free.XT.ushr p5 (5 : Int32)) % (3 : Int32)) else ((p5 &&& (2147483647 : Int32)) % (3 : Int32)))), .val (.int (p1 &&& (255 : Int32))), .val (.int (p2 &&& (255 : Int32))), .val (.int (if (p3 &&& (1 : Int32)) = (0 : Int32) then ((Jvm.Free.XT.ushr p3 (1 : Int32)) &&& (255 : Int32)) else (p1 &&& (255 : Int32)))), .val (.int (if (p4 &&& (1 : Int32)) = (0 : Int32) then ((Jvm.Free.XT.ushr p4 (1 : Int32)) &&& (255 : Int32)) else (p2 &&& (255 : Int32)))), .val (.ref a10), .val (.ref a14), .val (.ref a18), .unset] []))
                      refine Gets.via (fun _ k => (XS.iload A37 hx rfl (hb hby at_223) rfl (XS.iload A37 hx rfl (hb hby at_225) rfl k))) ?_
                      show Gets p e below _ (T33.setTop (mkF m 227 #[.val (.int p0), .val (.int p1), .val (.int p2), .val (.int p3), .val (.int p4), .val (.int p5), .val (.int (p0 &&& (3 : Int32))), .val (.ref kd), .val (.int ((p5 &&& (2147483647 : Int32)) % (3 : Int32))), .val (.int (if (p5 &&& (16 : Int32)) = (0 : Int32) then ((Jvm.Free.XT.ushr p5 (5 : Int32)) % (3 : Int32)) else ((p5 &&& (2147483647 : Int32)) % (3 : Int32)))), .val (.int (p1 &&& (255 : Int32))), .val (.int (p2 &&& (255 : Int32))), .val (.int (if (p3 &&& (1 : Int32)) = (0 : Int32) then ((Jvm.Free.XT.ushr p3 (1 : Int32)) &&& (255 : Int32)) else (p1 &&& (255 : Int32)))), .val (.int (if (p4 &&& (1 : Int32)) = (0 : Int32) then ((Jvm.Free.XT.ushr p4 (1 : Int32)) &&& (255 : Int32)) else (p2 &&& (255 : Int32)))), .val (.ref a10), .val (.ref a14), .val (.ref a18), .unset] [(.int (if (p4 &&& (1 : Int32)) = (0 : Int32) then ((Jvm.Free.XT.ushr p4 (1 : Int32)) &&& (255 : Int32)) else (p2 &&& (255 : Int32)))), (.int (p2 &&& (255 : Int32)))]))
                      by_cases b227 : (p2 &&& (255 : Int32)) = (if (p4 &&& (1 : Int32)) = (0 : Int32) then ((Jvm.Free.XT.ushr p4 (1 : Int32)) &&& (255 : Int32)) else (p2 &&& (255 : Int32)))
                      · refine Gets.via (fun _ k => (XS.icmpNo A37 hx rfl (hb hby at_227) rfl (Jvm.Free.XT.ii_ne_f b227) k)) ?_
                        show Gets p e below _ (T33.setTop (mkF m 230 #[.val (.int p0), .val (.int p1), .val (.int p2), .val (.int p3), .val (.int p4), .val (.int p5), .val (.int (p0 &&& (3 : Int32))), .val (.ref kd), .val (.int ((p5 &&& (2147483647 : Int32)) % (3 : Int32))), .val (.int (if (p5 &&& (16 : Int32)) = (0 : Int32) then ((Jvm.Free.XT.ushr p5 (5 : Int32)) % (3 : Int32)) else ((p5 &&& (2147483647 : Int32)) % (3 : Int32)))), .val (.int (p1 &&& (255 : Int32))), .val (.int (p2 &&& (255 : Int32))), .val (.int (if (p3 &&& (1 : Int32)) = (0 : Int32) then ((Jvm.Free.XT.ushr p3 (1 : Int32)) &&& (255 : Int32)) else (p1 &&& (255 : Int32)))), .val (.int (if (p4 &&& (1 : Int32)) = (0 : Int32) then ((Jvm.Free.XT.ushr p4 (1 : Int32)) &&& (255 : Int32)) else (p2 &&& (255 : Int32)))), .val (.ref a10), .val (.ref a14), .val (.ref a18), .unset] []))
                        refine Gets.via (fun _ k => (XS.iconst A37 hx rfl (hb hby at_230) (XS.goto A37 hx rfl (pc0 := 231) (pc' := 235) rfl (hb hby at_231) (by decide) (by decide) k))) ?_
                        show Gets p e below _ (T33.setTop (mkF m 235 #[.val (.int p0), .val (.int p1), .val (.int p2), .val (.int p3), .val (.int p4), .val (.int p5), .val (.int (p0 &&& (3 : Int32))), .val (.ref kd), .val (.int ((p5 &&& (2147483647 : Int32)) % (3 : Int32))), .val (.int (if (p5 &&& (16 : Int32)) = (0 : Int32) then ((Jvm.Free.XT.ushr p5 (5 : Int32)) % (3 : Int32)) else ((p5 &&& (2147483647 : Int32)) % (3 : Int32)))), .val (.int (p1 &&& (255 : Int32))), .val (.int (p2 &&& (255 : Int32))), .val (.int (if (p3 &&& (1 : Int32)) = (0 : Int32) then ((Jvm.Free.XT.ushr p3 (1 : Int32)) &&& (255 : Int32)) else (p1 &&& (255 : Int32)))), .val (.int (if (p4 &&& (1 : Int32)) = (0 : Int32) then ((Jvm.Free.XT.ushr p4 (1 : Int32)) &&& (255 : Int32)) else (p2 &&& (255 : Int32)))), .val (.ref a10), .val (.ref a14), .val (.ref a18), .unset] [(.int (1 : Int32))]))
                        exact j235 T33 X33 (1 : Int32) (Or.inl ⟨rfl, Or.inr b194, hiff.mpr ⟨b201, Or.inr b214, Or.inr b227⟩⟩)
                      · refine Gets.via (fun _ k => (XS.icmpYes A37 hx rfl (pc0 := 227) (pc' := 234) rfl (hb hby at_227) rfl (Jvm.Free.XT.ii_ne_t b227) (by decide) (by decide) k)) ?_
                        show Gets p e below _ (T33.setTop (mkF m 234 #[.val (.int p0), .val (.int p1), .val (.int p2), .val (.int p3), .val (.int p4), .val (.int p5), .val (.int (p0 &&& (3 : Int32))), .val (.ref kd), .val (.int ((p5 &&& (2147483647 : Int32)) % (3 : Int32))), .val (.int (if (p5 &&& (16 : Int32)) = (0 : Int32) then ((Jvm.Free.XT.ushr p5 (5 : Int32)) % (3 : Int32)) else ((p5 &&& (2147483647 : Int32)) % (3 : Int32)))), .val (.int (p1 &&& (255 : Int32))), .val (.int (p2 &&& (255 : Int32))), .val (.int (if (p3 &&& (1 : Int32)) = (0 : Int32) then ((Jvm.Free.XT.ushr p3 (1 : Int32)) &&& (255 : Int32)) else (p1 &&& (255 : Int32)))), .val (.int (if (p4 &&& (1 : Int32)) = (0 : Int32) then ((Jvm.Free.XT.ushr p4 (1 : Int32)) &&& (255 : Int32)) else (p2 &&& (255 : Int32)))), .val (.ref a10), .val (.ref a14), .val (.ref a18), .unset] []))
                        refine Gets.via (fun _ k => (XS.iconst A37 hx rfl (hb hby at_234) k)) ?_
                        show Gets p e below _ (T33.setTop (mkF m 235 #[.val (.int p0), .val (.int p1), .val (.int p2), .val (.int p3), .val (.int p4), .val (.int p5), .val (.int (p0 &&& (3 : Int32))), .val (.ref kd), .val (.int ((p5 &&& (2147483647 : Int32)) % (3 : Int32))), .val (.int (if (p5 &&& (16 : Int32)) = (0 : Int32) then ((Jvm.Free.XT.ushr p5 (5 : Int32)) % (3 : Int32)) else ((p5 &&& (2147483647 : Int32)) % (3 : Int32)))), .val (.int (p1 &&& (255 : Int32))), .val (.int (p2 &&& (255 : Int32))), .val (.int (if (p3 &&& (1 : Int32)) = (0 : Int32) then ((Jvm.Free.XT.ushr p3 (1 : Int32)) &&& (255 : Int32)) else (p1 &&& (255 : Int32)))), .val (.int (if (p4 &&& (1 : Int32)) = (0 : Int32) then ((Jvm.Free.XT.ushr p4 (1 : Int32)) &&& (255 : Int32)) else (p2 &&& (255 : Int32)))), .val (.ref a10), .val (.ref a14), .val (.ref a18), .unset] [(.int (0 : Int32))]))
                        exact j235 T33 X33 (0 : Int32) (Or.inr ⟨rfl, fun q => (hiff.mp q.2).2.2.elim b220 b227⟩)
                  · refine Gets.via (fun _ k => (XS.icmpYes A37 hx rfl (pc0 := 214) (pc' := 234) rfl (hb hby at_214) rfl (Jvm.Free.XT.ii_ne_t b214) (by decide) (by decide) k)) ?_
                    show Gets p e below _ (T33.setTop (mkF m 234 #[.val (.int p0), .val (.int p1), .val (.int p2), .val (.int p3), .val (.int p4), .val (.int p5), .val (.int (p0 &&& (3 : Int32))), .val (.ref kd), .val (.int ((p5 &&& (2147483647 : Int32)) % (3 : Int32))), .val (.int (if (p5 &&& (16 : Int32)) = (0 : Int32) then ((Jvm.Free.XT.ushr p5 (5 : Int32)) % (3 : Int32)) else ((p5 &&& (2147483647 : Int32)) % (3 : Int32)))), .val (.int (p1 &&& (255 : Int32))), .val (.int (p2 &&& (255 : Int32))), .val (.int (if (p3 &&& (1 : Int32)) = (0 : Int32) then ((Jvm.Free.XT.ushr p3 (1 : Int32)) &&& (255 : Int32)) else (p1 &&& (255 : Int32)))), .val (.int (if (p4 &&& (1 : Int32)) = (0 : Int32) then ((Jvm.Free.XT.ushr p4 (1 : Int32)) &&& (255 : Int32)) else (p2 &&& (255 : Int32)))), .val (.ref a10), .val (.ref a14), .val (.ref a18), .unset] []))
                    refine Gets.via (fun _ k => (XS.iconst A37 hx rfl (hb hby at_234) k)) ?_
                    show Gets p e below _ (T33.setTop (mkF m 235 #[.val (.int p0), .val (.int p1), .val (.int p2), .val (.int p3), .val (.int p4), .val (.int p5), .val (.int (p0 &&& (3 : Int32))), .val (.ref kd), .val (.int ((p5 &&& (2147483647 : Int32)) % (3 : Int32))), .val (.int (if (p5 &&& (16 : Int32)) = (0 : Int32) then ((Jvm.Free.XT.ushr p5 (5 : Int32)) % (3 : Int32)) else ((p5 &&& (2147483647 : Int32)) % (3 : Int32)))), .val (.int (p1 &&& (255 : Int32))), .val (.int (p2 &&& (255 : Int32))), .val (.int (if (p3 &&& (1 : Int32)) = (0 : Int32) then ((Jvm.Free.XT.ushr p3 (1 : Int32)) &&& (255 : Int32)) else (p1 &&& (255 : Int32)))), .val (.int (if (p4 &&& (1 : Int32)) = (0 : Int32) then ((Jvm.Free.XT.ushr p4 (1 : Int32)) &&& (255 : Int32)) else (p2 &&& (255 : Int32)))), .val (.ref a10), .val (.ref a14), .val (.ref a18), .unset] [(.int (0 : Int32))]))
                    exact j235 T33 X33 (0 : Int32) (Or.inr ⟨rfl, fun q => (hiff.mp q.2).2.1.elim b207 b214⟩)
              · refine Gets.via (fun _ k => (XS.icmpYes A37 hx rfl (pc0 := 201) (pc' := 234) rfl (hb hby at_201) rfl (Jvm.Free.XT.ii_ne_t b201) (by decide) (by decide) k)) ?_
                show Gets p e below _ (T33.setTop (mkF m 234 #[.val (.int p0), .val (.int p1), .val (.int p2), .val (.int p3), .val (.int p4), .val (.int p5), .val (.int (p0 &&& (3 : Int32))), .val (.ref kd), .val (.int ((p5 &&& (2147483647 : Int32)) % (3 : Int32))), .val (.int (if (p5 &&& (16 : Int32)) = (0 : Int32) then ((Jvm.Free.XT.ushr p5 (5 : Int32)) % (3 : Int32)) else ((p5 &&& (2147483647 : Int32)) % (3 : Int32)))), .val (.int (p1 &&& (255 : Int32))), .val (.int (p2 &&& (255 : Int32))), .val (.int (if (p3 &&& (1 : Int32)) = (0 : Int32) then ((Jvm.Free.XT.ushr p3 (1 : Int32)) &&& (255 : Int32)) else (p1 &&& (255 : Int32)))), .val (.int (if (p4 &&& (1 : Int32)) = (0 : Int32) then ((Jvm.Free.XT.ushr p4 (1 : Int32)) &&& (255 : Int32)) else (p2 &&& (255 : Int32)))), .val (.ref a10), .val (.ref a14), .val (.ref a18), .unset] []))
                refine Gets.via (fun _ k => (XS.iconst A37 hx rfl (hb hby at_234) k)) ?_
                show Gets p e below _ (T33.setTop (mkF m 235 #[.val (.int p0), .val (.int p1), .val (.int p2), .val (.int p3), .val (.int p4), .val (.int p5), .val (.int (p0 &&& (3 : Int32))), .val (.ref kd), .val (.int ((p5 &&& (2147483647 : Int32)) % (3 : Int32))), .val (.int (if (p5 &&& (16 : Int32)) = (0 : Int32) then ((Jvm.Free.XT.ushr p5 (5 : Int32)) % (3 : Int32)) else ((p5 &&& (2147483647 : Int32)) % (3 : Int32)))), .val (.int (p1 &&& (255 : Int32))), .val (.int (p2 &&& (255 : Int32))), .val (.int (if (p3 &&& (1 : Int32)) = (0 : Int32) then ((Jvm.Free.XT.ushr p3 (1 : Int32)) &&& (255 : Int32)) else (p1 &&& (255 : Int32)))), .val (.int (if (p4 &&& (1 : Int32)) = (0 : Int32) then ((Jvm.Free.XT.ushr p4 (1 : Int32)) &&& (255 : Int32)) else (p2 &&& (255 : Int32)))), .val (.ref a10), .val (.ref a14), .val (.ref a18), .unset] [(.int (0 : Int32))]))
                exact j235 T33 X33 (0 : Int32) (Or.inr ⟨rfl, fun q => b201 (hiff.mp q.2).1⟩)
            · refine Gets.via (fun _ k => (XS.icmpYes A37 hx rfl (pc0 := 194) (pc' := 234) rfl (hb hby at_194) rfl (Jvm.Free.XT.ii_ne_t b194) (by decide) (by decide) k)) ?_
              show Gets p e below _ (T33.setTop (mkF m 234 #[.val (.int p0), .val (.int p1), .val (.int p2), .val (.int p3), .val (.int p4), .val (.int p5), .val (.int (p0 &&& (3 : Int32))), .val (.ref kd), .val (.int ((p5 &&& (2147483647 : Int32)) % (3 : Int32))), .val (.int (if (p5 &&& (16 : Int32)) = (0 : Int32) then ((Jvm.Free.XT.ushr p5 (5 : Int32)) % (3 : Int32)) else ((p5 &&& (2147483647 : Int32)) % (3 : Int32)))), .val (.int (p1 &&& (255 : Int32))), .val (.int (p2 &&& (255 : Int32))), .val (.int (if (p3 &&& (1 : Int32)) = (0 : Int32) then ((Jvm.Free.XT.ushr p3 (1 : Int32)) &&& (255 : Int32)) else (p1 &&& (255 : Int32)))), .val (.int (if (p4 &&& (1 : Int32)) = (0 : Int32) then ((Jvm.Free.XT.ushr p4 (1 : Int32)) &&& (255 : Int32)) else (p2 &&& (255 : Int32)))), .val (.ref a10), .val (.ref a14), .val (.ref a18), .unset] []))
              refine Gets.via (fun _ k => (XS.iconst A37 hx rfl (hb hby at_234) k)) ?_
              show Gets p e below _ (T33.setTop (mkF m 235 #[.val (.int p0), .val (.int p1), .val (.int p2), .val (.int p3), .val (.int p4), .val (.int p5), .val (.int (p0 &&& (3 : Int32))), .val (.ref kd), .val (.int ((p5 &&& (2147483647 : Int32)) % (3 : Int32))), .val (.int (if (p5 &&& (16 : Int32)) = (0 : Int32) then ((Jvm.Free.XT.ushr p5 (5 : Int32)) % (3 : Int32)) else ((p5 &&& (2147483647 : Int32)) % (3 : Int32)))), .val (.int (p1 &&& (255 : Int32))), .val (.int (p2 &&& (255 : Int32))), .val (.int (if (p3 &&& (1 : Int32)) = (0 : Int32) then ((Jvm.Free.XT.ushr p3 (1 : Int32)) &&& (255 : Int32)) else (p1 &&& (255 : Int32)))), .val (.int (if (p4 &&& (1 : Int32)) = (0 : Int32) then ((Jvm.Free.XT.ushr p4 (1 : Int32)) &&& (255 : Int32)) else (p2 &&& (255 : Int32)))), .val (.ref a10), .val (.ref a14), .val (.ref a18), .unset] [(.int (0 : Int32))]))
              exact j235 T33 X33 (0 : Int32) (Or.inr ⟨rfl, fun q => q.1.elim b188 b194⟩)
        by_cases b122 : (p4 &&& (1 : Int32)) = (0 : Int32)
        · refine Gets.via (fun _ k => (XS.ifYes A7 hx rfl (pc0 := 122) (pc' := 130) rfl (hb hby at_122) rfl (Jvm.Free.XT.i0_eq_t b122) (by decide) (by decide) k)) ?_
          show Gets p e below _ (T6.setTop (mkF m 130 #[.val (.int p0), .val (.int p1), .val (.int p2), .val (.int p3), .val (.int p4), .val (.int p5), .val (.int (p0 &&& (3 : Int32))), .val (.ref kd), .val (.int ((p5 &&& (2147483647 : Int32)) % (3 : Int32))), .val (.int (if (p5 &&& (16 : Int32)) = (0 : Int32) then ((Jvm.Free.XT.ushr p5 (5 : Int32)) % (3 : Int32)) else ((p5 &&& (2147483647 : Int32)) % (3 : Int32)))), .val (.int (p1 &&& (255 : Int32))), .val (.int (p2 &&& (255 : Int32))), .val (.int (if (p3 &&& (1 : Int32)) = (0 : Int32) then ((Jvm.Free.XT.ushr p3 (1 : Int32)) &&& (255 : Int32)) else (p1 &&& (255 : Int32)))), .unset, .unset, .unset, .unset, .unset] []))
          refine Gets.via (fun _ k => (XS.iload A7 hx rfl (hb hby at_130) rfl (XS.iconst A7 hx rfl (hb hby at_132) (XS.iushr A7 hx rfl (hb hby at_133) rfl (XS.sipush A7 hx rfl (hb hby at_134) (XS.iand A7 hx rfl (hb hby at_137) rfl (i2cV A7 hx rfl (hb hby at_138) rfl (v := ((Jvm.Free.XT.ushr p4 (1 : Int32)) &&& (255 : Int32))) (i2c_m255 _) k))))))) ?_
          show Gets p e below _ (T6.setTop (mkF m 139 #[.val (.int p0), .val (.int p1), .val (.int p2), .val (.int p3), .val (.int p4), .val (.int p5), .val (.int (p0 &&& (3 : Int32))), .val (.ref kd), .val (.int ((p5 &&& (2147483647 : Int32)) % (3 : Int32))), .val (.int (if (p5 &&& (16 : Int32)) = (0 : Int32) then ((Jvm.Free.XT.ushr p5 (5 : Int32)) % (3 : Int32)) else ((p5 &&& (2147483647 : Int32)) % (3 : Int32)))), .val (.int (p1 &&& (255 : Int32))), .val (.int (p2 &&& (255 : Int32))), .val (.int (if (p3 &&& (1 : Int32)) = (0 : Int32) then ((Jvm.Free.XT.ushr p3 (1 : Int32)) &&& (255 : Int32)) else (p1 &&& (255 : Int32)))), .unset, .unset, .unset, .unset, .unset] [(.int ((Jvm.Free.XT.ushr p4 (1 : Int32)) &&& (255 : Int32)))]))
          have q := j139 T6 X6
          rw [if_pos b122] at q
          exact q
        · refine Gets.via (fun _ k => (XS.ifNo A7 hx rfl (hb hby at_122) rfl (Jvm.Free.XT.i0_eq_f b122) k)) ?_
          show Gets p e below _ (T6.setTop (mkF m 125 #[.val (.int p0), .val (.int p1), .val (.int p2), .val (.int p3), .val (.int p4), .val (.int p5), .val (.int (p0 &&& (3 : Int32))), .val (.ref kd), .val (.int ((p5 &&& (2147483647 : Int32)) % (3 : Int32))), .val (.int (if (p5 &&& (16 : Int32)) = (0 : Int32) then ((Jvm.Free.XT.ushr p5 (5 : Int32)) % (3 : Int32)) else ((p5 &&& (2147483647 : Int32)) % (3 : Int32)))), .val (.int (p1 &&& (255 : Int32))), .val (.int (p2 &&& (255 : Int32))), .val (.int (if (p3 &&& (1 : Int32)) = (0 : Int32) then ((Jvm.Free.XT.ushr p3 (1 : Int32)) &&& (255 : Int32)) else (p1 &&& (255 : Int32)))), .unset, .unset, .unset, .unset, .unset] []))
          refine Gets.via (fun _ k => (XS.iload A7 hx rfl (hb hby at_125) rfl (XS.goto A7 hx rfl (pc0 := 127) (pc' := 139) rfl (hb hby at_127) (by decide) (by decide) k))) ?_
          show Gets p e below _ (T6.setTop (mkF m 139 #[.val (.int p0), .val (.int p1), .val (.int p2), .val (.int p3), .val (.int p4), .val (.int p5), .val (.int (p0 &&& (3 : Int32))), .val (.ref kd), .val (.int ((p5 &&& (2147483647 : Int32)) % (3 : Int32))), .val (.int (if (p5 &&& (16 : Int32)) = (0 : Int32) then ((Jvm.Free.XT.ushr p5 (5 : Int32)) % (3 : Int32)) else ((p5 &&& (2147483647 : Int32)) % (3 : Int32)))), .val (.int (p1 &&& (255 : Int32))), .val (.int (p2 &&& (255 : Int32))), .val (.int (if (p3 &&& (1 : Int32)) = (0 : Int32) then ((Jvm.Free.XT.ushr p3 (1 : Int32)) &&& (255 : Int32)) else (p1 &&& (255 : Int32)))), .unset, .unset, .unset, .unset, .unset] [(.int (p2 &&& (255 : Int32)))]))
          have q := j139 T6 X6
          rw [if_neg b122] at q
          exact q
      by_cases b100 : (p3 &&& (1 : Int32)) = (0 : Int32)
      · refine Gets.via (fun _ k => (XS.ifYes A5 hx rfl (pc0 := 100) (pc' := 108) rfl (hb hby at_100) rfl (Jvm.Free.XT.i0_eq_t b100) (by decide) (by decide) k)) ?_
        show Gets p e below _ (T4.setTop (mkF m 108 #[.val (.int p0), .val (.int p1), .val (.int p2), .val (.int p3), .val (.int p4), .val (.int p5), .val (.int (p0 &&& (3 : Int32))), .val (.ref kd), .val (.int ((p5 &&& (2147483647 : Int32)) % (3 : Int32))), .val (.int (if (p5 &&& (16 : Int32)) = (0 : Int32) then ((Jvm.Free.XT.ushr p5 (5 : Int32)) % (3 : Int32)) else ((p5 &&& (2147483647 : Int32)) % (3 : Int32)))), .val (.int (p1 &&& (255 : Int32))), .val (.int (p2 &&& (255 : Int32))), .unset, .unset, .unset, .unset, .unset, .unset] []))
        refine Gets.via (fun _ k => (XS.iloadN A5 hx rfl (hb hby at_108) rfl (XS.iconst A5 hx rfl (hb hby at_109) (XS.iushr A5 hx rfl (hb hby at_110) rfl (XS.sipush A5 hx rfl (hb hby at_111) (XS.iand A5 hx rfl (hb hby at_114) rfl (i2cV A5 hx rfl (hb hby at_115) rfl (v := ((Jvm.Free.XT.ushr p3 (1 : Int32)) &&& (255 : Int32))) (i2c_m255 _) k))))))) ?_
        show Gets p e below _ (T4.setTop (mkF m 116 #[.val (.int p0), .val (.int p1), .val (.int p2), .val (.int p3), .val (.int p4), .val (.int p5), .val (.int (p0 &&& (3 : Int32))), .val (.ref kd), .val (.int ((p5 &&& (2147483647 : Int32)) % (3 : Int32))), .val (.int (if (p5 &&& (16 : Int32)) = (0 : Int32) then ((Jvm.Free.XT.ushr p5 (5 : Int32)) % (3 : Int32)) else ((p5 &&& (2147483647 : Int32)) % (3 : Int32)))), .val (.int (p1 &&& (255 : Int32))), .val (.int (p2 &&& (255 : Int32))), .unset, .unset, .unset, .unset, .unset, .unset] [(.int ((Jvm.Free.XT.ushr p3 (1 : Int32)) &&& (255 : Int32)))]))
        have q := j116 T4 X4
        rw [if_pos b100] at q
        exact q
      · refine Gets.via (fun _ k => (XS.ifNo A5 hx rfl (hb hby at_100) rfl (Jvm.Free.XT.i0_eq_f b100) k)) ?_
        show Gets p e below _ (T4.setTop (mkF m 103 #[.val (.int p0), .val (.int p1), .val (.int p2), .val (.int p3), .val (.int p4), .val (.int p5), .val (.int (p0 &&& (3 : Int32))), .val (.ref kd), .val (.int ((p5 &&& (2147483647 : Int32)) % (3 : Int32))), .val (.int (if (p5 &&& (16 : Int32)) = (0 : Int32) then ((Jvm.Free.XT.ushr p5 (5 : Int32)) % (3 : Int32)) else ((p5 &&& (2147483647 : Int32)) % (3 : Int32)))), .val (.int (p1 &&& (255 : Int32))), .val (.int (p2 &&& (255 : Int32))), .unset, .unset, .unset, .unset, .unset, .unset] []))
        refine Gets.via (fun _ k => (XS.iload A5 hx rfl (hb hby at_103) rfl (XS.goto A5 hx rfl (pc0 := 105) (pc' := 116) rfl (hb hby at_105) (by decide) (by decide) k))) ?_
        show Gets p e below _ (T4.setTop (mkF m 116 #[.val (.int p0), .val (.int p1), .val (.int p2), .val (.int p3), .val (.int p4), .val (.int p5), .val (.int (p0 &&& (3 : Int32))), .val (.ref kd), .val (.int ((p5 &&& (2147483647 : Int32)) % (3 : Int32))), .val (.int (if (p5 &&& (16 : Int32)) = (0 : Int32) then ((Jvm.Free.XT.ushr p5 (5 : Int32)) % (3 : Int32)) else ((p5 &&& (2147483647 : Int32)) % (3 : Int32)))), .val (.int (p1 &&& (255 : Int32))), .val (.int (p2 &&& (255 : Int32))), .unset, .unset, .unset, .unset, .unset, .unset] [(.int (p1 &&& (255 : Int32)))]))
        have q := j116 T4 X4
        rw [if_neg b100] at q
        exact q
    by_cases b65 : (p5 &&& (16 : Int32)) = (0 : Int32)
    · refine Gets.via (fun _ k => (XS.ifYes A2 hx rfl (pc0 := 65) (pc' := 73) rfl (hb hby at_65) rfl (Jvm.Free.XT.i0_eq_t b65) (by decide) (by decide) k)) ?_
      show Gets p e below _ (T1.setTop (mkF m 73 #[.val (.int p0), .val (.int p1), .val (.int p2), .val (.int p3), .val (.int p4), .val (.int p5), .val (.int (p0 &&& (3 : Int32))), .val (.ref kd), .val (.int ((p5 &&& (2147483647 : Int32)) % (3 : Int32))), .unset, .unset, .unset, .unset, .unset, .unset, .unset, .unset, .unset] []))
      refine Gets.via (fun _ k => (XS.iload A2 hx rfl (hb hby at_73) rfl (XS.iconst A2 hx rfl (hb hby at_75) (XS.iushr A2 hx rfl (hb hby at_76) rfl (XS.iconst A2 hx rfl (hb hby at_77) (iremV A2 hx rfl (hb hby at_78) rfl (by decide) k)))))) ?_
      show Gets p e below _ (T1.setTop (mkF m 79 #[.val (.int p0), .val (.int p1), .val (.int p2), .val (.int p3), .val (.int p4), .val (.int p5), .val (.int (p0 &&& (3 : Int32))), .val (.ref kd), .val (.int ((p5 &&& (2147483647 : Int32)) % (3 : Int32))), .unset, .unset, .unset, .unset, .unset, .unset, .unset, .unset, .unset] [(.int ((Jvm.Free.XT.ushr p5 (5 : Int32)) % (3 : Int32)))]))
      have q := j79 T1 X1
      rw [if_pos b65] at q
      exact q
    · refine Gets.via (fun _ k => (XS.ifNo A2 hx rfl (hb hby at_65) rfl (Jvm.Free.XT.i0_eq_f b65) k)) ?_
      show Gets p e below _ (T1.setTop (mkF m 68 #[.val (.int p0), .val (.int p1), .val (.int p2), .val (.int p3), .val (.int p4), .val (.int p5), .val (.int (p0 &&& (3 : Int32))), .val (.ref kd), .val (.int ((p5 &&& (2147483647 : Int32)) % (3 : Int32))), .unset, .unset, .unset, .unset, .unset, .unset, .unset, .unset, .unset] []))
      refine Gets.via (fun _ k => (XS.iload A2 hx rfl (hb hby at_68) rfl (XS.goto A2 hx rfl (pc0 := 70) (pc' := 79) rfl (hb hby at_70) (by decide) (by decide) k))) ?_
      show Gets p e below _ (T1.setTop (mkF m 79 #[.val (.int p0), .val (.int p1), .val (.int p2), .val (.int p3), .val (.int p4), .val (.int p5), .val (.int (p0 &&& (3 : Int32))), .val (.ref kd), .val (.int ((p5 &&& (2147483647 : Int32)) % (3 : Int32))), .unset, .unset, .unset, .unset, .unset, .unset, .unset, .unset, .unset] [(.int ((p5 &&& (2147483647 : Int32)) % (3 : Int32)))]))
      have q := j79 T1 X1
      rw [if_neg b65] at q
      exact q
  by_cases b7 : (p0 &&& (3 : Int32)) = (0 : Int32)
  · refine Gets.via (fun _ k => (XS.ifNo A0 hx rfl (hb hby at_7) rfl (Jvm.Free.XT.i0_ne_f b7) k)) ?_
    show Gets p e below _ (T0.setTop (mkF m 10 #[.val (.int p0), .val (.int p1), .val (.int p2), .val (.int p3), .val (.int p4), .val (.int p5), .val (.int (p0 &&& (3 : Int32))), .unset, .unset, .unset, .unset, .unset, .unset, .unset, .unset, .unset, .unset, .unset] []))
    refine X0.getS (w0 hw) Via.refl (X0.sta OW) rfl (hb hby at_10) fun T51 X51 => ?_
    have A52 := X51.at
    show Gets p e below _ (T51.setTop (mkF m 13 #[.val (.int p0), .val (.int p1), .val (.int p2), .val (.int p3), .val (.int p4), .val (.int p5), .val (.int (p0 &&& (3 : Int32))), .unset, .unset, .unset, .unset, .unset, .unset, .unset, .unset, .unset, .unset, .unset] [(.ref kW)]))
    refine Gets.via (fun _ k => (XS.astore A52 hx rfl (hb hby at_13) rfl rfl (l' := #[.val (.int p0), .val (.int p1), .val (.int p2), .val (.int p3), .val (.int p4), .val (.int p5), .val (.int (p0 &&& (3 : Int32))), .val (.ref kW), .unset, .unset, .unset, .unset, .unset, .unset, .unset, .unset, .unset, .unset]) rfl (XS.goto A52 hx rfl (pc0 := 15) (pc' := 51) rfl (hb hby at_15) (by decide) (by decide) k))) ?_
    show Gets p e below _ (T51.setTop (mkF m 51 #[.val (.int p0), .val (.int p1), .val (.int p2), .val (.int p3), .val (.int p4), .val (.int p5), .val (.int (p0 &&& (3 : Int32))), .val (.ref kW), .unset, .unset, .unset, .unset, .unset, .unset, .unset, .unset, .unset, .unset] []))
    exact j51 T51 X51 kW ⟨fun _ => Or.inl rfl, fun _ => Or.inl b7⟩
  · refine Gets.via (fun _ k => (XS.ifYes A0 hx rfl (pc0 := 7) (pc' := 18) rfl (hb hby at_7) rfl (Jvm.Free.XT.i0_ne_t b7) (by decide) (by decide) k)) ?_
    show Gets p e below _ (T0.setTop (mkF m 18 #[.val (.int p0), .val (.int p1), .val (.int p2), .val (.int p3), .val (.int p4), .val (.int p5), .val (.int (p0 &&& (3 : Int32))), .unset, .unset, .unset, .unset, .unset, .unset, .unset, .unset, .unset, .unset, .unset] []))
    refine Gets.via (fun _ k => (XS.iload A0 hx rfl (hb hby at_18) rfl (XS.iconst A0 hx rfl (hb hby at_20) k))) ?_
    show Gets p e below _ (T0.setTop (mkF m 21 #[.val (.int p0), .val (.int p1), .val (.int p2), .val (.int p3), .val (.int p4), .val (.int p5), .val (.int (p0 &&& (3 : Int32))), .unset, .unset, .unset, .unset, .unset, .unset, .unset, .unset, .unset, .unset, .unset] [(.int (1 : Int32)), (.int (p0 &&& (3 : Int32)))]))
    by_cases b21 : (p0 &&& (3 : Int32)) = (1 : Int32)
    · refine Gets.via (fun _ k => (XS.icmpNo A0 hx rfl (hb hby at_21) rfl (Jvm.Free.XT.ii_ne_f b21) k)) ?_
      show Gets p e below _ (T0.setTop (mkF m 24 #[.val (.int p0), .val (.int p1), .val (.int p2), .val (.int p3), .val (.int p4), .val (.int p5), .val (.int (p0 &&& (3 : Int32))), .unset, .unset, .unset, .unset, .unset, .unset, .unset, .unset, .unset, .unset, .unset] []))
      refine X0.getS (w86 hw) Via.refl (X0.sta OS) rfl (hb hby at_24) fun T53 X53 => ?_
      have A54 := X53.at
      show Gets p e below _ (T53.setTop (mkF m 27 #[.val (.int p0), .val (.int p1), .val (.int p2), .val (.int p3), .val (.int p4), .val (.int p5), .val (.int (p0 &&& (3 : Int32))), .unset, .unset, .unset, .unset, .unset, .unset, .unset, .unset, .unset, .unset, .unset] [(.ref kS)]))
      refine Gets.via (fun _ k => (XS.astore A54 hx rfl (hb hby at_27) rfl rfl (l' := #[.val (.int p0), .val (.int p1), .val (.int p2), .val (.int p3), .val (.int p4), .val (.int p5), .val (.int (p0 &&& (3 : Int32))), .val (.ref kS), .unset, .unset, .unset, .unset, .unset, .unset, .unset, .unset, .unset, .unset]) rfl (XS.goto A54 hx rfl (pc0 := 29) (pc' := 51) rfl (hb hby at_29) (by decide) (by decide) k))) ?_
      show Gets p e below _ (T53.setTop (mkF m 51 #[.val (.int p0), .val (.int p1), .val (.int p2), .val (.int p3), .val (.int p4), .val (.int p5), .val (.int (p0 &&& (3 : Int32))), .val (.ref kS), .unset, .unset, .unset, .unset, .unset, .unset, .unset, .unset, .unset, .unset] []))
      exact j51 T53 X53 kS ⟨fun _ => Or.inr rfl, fun _ => Or.inr b21⟩
    · refine Gets.via (fun _ k => (XS.icmpYes A0 hx rfl (pc0 := 21) (pc' := 32) rfl (hb hby at_21) rfl (Jvm.Free.XT.ii_ne_t b21) (by decide) (by decide) k)) ?_
      show Gets p e below _ (T0.setTop (mkF m 32 #[.val (.int p0), .val (.int p1), .val (.int p2), .val (.int p3), .val (.int p4), .val (.int p5), .val (.int (p0 &&& (3 : Int32))), .unset, .unset, .unset, .unset, .unset, .unset, .unset, .unset, .unset, .unset, .unset] []))
      refine Gets.via (fun _ k => (XS.iload A0 hx rfl (hb hby at_32) rfl (XS.iconst A0 hx rfl (hb hby at_34) k))) ?_
      show Gets p e below _ (T0.setTop (mkF m 35 #[.val (.int p0), .val (.int p1), .val (.int p2), .val (.int p3), .val (.int p4), .val (.int p5), .val (.int (p0 &&& (3 : Int32))), .unset, .unset, .unset, .unset, .unset, .unset, .unset, .unset, .unset, .unset, .unset] [(.int (2 : Int32)), (.int (p0 &&& (3 : Int32)))]))
      by_cases b35 : (p0 &&& (3 : Int32)) = (2 : Int32)
      · refine Gets.via (fun _ k => (XS.icmpNo A0 hx rfl (hb hby at_35) rfl (Jvm.Free.XT.ii_ne_f b35) k)) ?_
        show Gets p e below _ (T0.setTop (mkF m 38 #[.val (.int p0), .val (.int p1), .val (.int p2), .val (.int p3), .val (.int p4), .val (.int p5), .val (.int (p0 &&& (3 : Int32))), .unset, .unset, .unset, .unset, .unset, .unset, .unset, .unset, .unset, .unset, .unset] []))
        refine X0.getS (w103 hw) Via.refl (X0.sta OI) rfl (hb hby at_38) fun T55 X55 => ?_
        have A56 := X55.at
        show Gets p e below _ (T55.setTop (mkF m 41 #[.val (.int p0), .val (.int p1), .val (.int p2), .val (.int p3), .val (.int p4), .val (.int p5), .val (.int (p0 &&& (3 : Int32))), .unset, .unset, .unset, .unset, .unset, .unset, .unset, .unset, .unset, .unset, .unset] [(.ref kI)]))
        refine Gets.via (fun _ k => (XS.astore A56 hx rfl (hb hby at_41) rfl rfl (l' := #[.val (.int p0), .val (.int p1), .val (.int p2), .val (.int p3), .val (.int p4), .val (.int p5), .val (.int (p0 &&& (3 : Int32))), .val (.ref kI), .unset, .unset, .unset, .unset, .unset, .unset, .unset, .unset, .unset, .unset]) rfl (XS.goto A56 hx rfl (pc0 := 43) (pc' := 51) rfl (hb hby at_43) (by decide) (by decide) k))) ?_
        show Gets p e below _ (T55.setTop (mkF m 51 #[.val (.int p0), .val (.int p1), .val (.int p2), .val (.int p3), .val (.int p4), .val (.int p5), .val (.int (p0 &&& (3 : Int32))), .val (.ref kI), .unset, .unset, .unset, .unset, .unset, .unset, .unset, .unset, .unset, .unset] []))
        exact j51 T55 X55 kI ⟨fun q => (q.elim b7 b21).elim, fun q => (q.elim dk.1 dk.2.1).elim⟩
      · refine Gets.via (fun _ k => (XS.icmpYes A0 hx rfl (pc0 := 35) (pc' := 46) rfl (hb hby at_35) rfl (Jvm.Free.XT.ii_ne_t b35) (by decide) (by decide) k)) ?_
        show Gets p e below _ (T0.setTop (mkF m 46 #[.val (.int p0), .val (.int p1), .val (.int p2), .val (.int p3), .val (.int p4), .val (.int p5), .val (.int (p0 &&& (3 : Int32))), .unset, .unset, .unset, .unset, .unset, .unset, .unset, .unset, .unset, .unset, .unset] []))
        refine X0.getS (w101 hw) Via.refl (X0.sta OE) rfl (hb hby at_46) fun T57 X57 => ?_
        have A58 := X57.at
        show Gets p e below _ (T57.setTop (mkF m 49 #[.val (.int p0), .val (.int p1), .val (.int p2), .val (.int p3), .val (.int p4), .val (.int p5), .val (.int (p0 &&& (3 : Int32))), .unset, .unset, .unset, .unset, .unset, .unset, .unset, .unset, .unset, .unset, .unset] [(.ref kE)]))
        refine Gets.via (fun _ k => (XS.astore A58 hx rfl (hb hby at_49) rfl rfl (l' := #[.val (.int p0), .val (.int p1), .val (.int p2), .val (.int p3), .val (.int p4), .val (.int p5), .val (.int (p0 &&& (3 : Int32))), .val (.ref kE), .unset, .unset, .unset, .unset, .unset, .unset, .unset, .unset, .unset, .unset]) rfl k)) ?_
        show Gets p e below _ (T57.setTop (mkF m 51 #[.val (.int p0), .val (.int p1), .val (.int p2), .val (.int p3), .val (.int p4), .val (.int p5), .val (.int (p0 &&& (3 : Int32))), .val (.ref kE), .unset, .unset, .unset, .unset, .unset, .unset, .unset, .unset, .unset, .unset] []))
        exact j51 T57 X57 kE ⟨fun q => (q.elim b7 b21).elim, fun q => (q.elim dk.2.2.1 dk.2.2.2).elim⟩
set_option maxRecDepth 65536 in
set_option maxHeartbeats 40000000 in
theorem comes_1 {Post : Tables → Env → Array Value → State → Outcome → State → Prop} (hpost : ∀ tb e args s v u, (limb_1_1.after args s (.returned v) u = true ∧ limb_1_2.after args s (.returned v) u = true ∧ True) → FramedW s (.returned v) u (Jvm.fieldLocs frame_1_writes args s ++ Jvm.arrayLocs frame_1_arrays args s ++ Jvm.staticLocs frame_1_statics s) 32 1152 → Post tb e args s (.returned v) u) :
    ArmFor flags0 classFile x code maxLocals ret World_1 tables_1 room_1 Calls_1 rest_1 Pre_1 Post := by
  intro l hfl _ _ p e ha hc hk s m args below hf hA hF happ hP
  obtain ⟨hcalls, hrest, hpre⟩ := hP
  obtain ⟨-, -, -, hnamed, -, -, -, hat⟩ := (Spec.applies_iff hf).mp happ
  obtain ⟨hg, hn⟩ := and_e (Cond.before_iff.mp (show (Jvm.Cond.and given_1 narrow_1).before args s = true from hpre))
  obtain ⟨h1, h2⟩ := and_e hg
  obtain ⟨w0, w1, w2, w3, w4, w5, rfl⟩ : ∃ w0 w1 w2 w3 w4 w5 : Value, args = #[w0, w1, w2, w3, w4, w5] := by
    have hs : args.size = 6 := by simpa [Cond.value, given_1] using h1
    obtain ⟨L⟩ := args
    match L, hs with
    | [w0, w1, w2, w3, w4, w5], _ => exact ⟨w0, w1, w2, w3, w4, w5, rfl⟩
  have hw := fun d (hd : d ∈ tables_1) => atoms_spec (ws := Jvm.Cond.code x code maxLocals ret :: tables_1) hat d (List.mem_cons_of_mem _ hd)
  obtain ⟨u0, r0⟩ := and_e h2
  obtain ⟨i0, e0⟩ := is_v u0
  obtain rfl : w0 = (.int i0) := Option.some.inj e0
  obtain ⟨u1, r1⟩ := and_e r0
  obtain ⟨i1, e1⟩ := is_v u1
  obtain rfl : w1 = (.int i1) := Option.some.inj e1
  obtain ⟨u2, r2⟩ := and_e r1
  obtain ⟨i2, e2⟩ := is_v u2
  obtain rfl : w2 = (.int i2) := Option.some.inj e2
  obtain ⟨u3, r3⟩ := and_e r2
  obtain ⟨i3, e3⟩ := is_v u3
  obtain rfl : w3 = (.int i3) := Option.some.inj e3
  obtain ⟨u4, r4⟩ := and_e r3
  obtain ⟨i4, e4⟩ := is_v u4
  obtain rfl : w4 = (.int i4) := Option.some.inj e4
  obtain ⟨i5, e5⟩ := is_v r4
  obtain rfl : w5 = (.int i5) := Option.some.inj e5
  obtain ⟨hst, hown0⟩ := atoms_of _ (rest_1_c_eq ▸ (show rest_1_c.before _ s = true from hrest))
  obtain ⟨zc, ez⟩ := is_v (Cond.before_iff.mp (hst _ (List.mem_of_getElem? (i := 1) rfl)))
  have O2 : Sta s s.heap "java/lang/String" "COMPACT_STRINGS" "Z" (.int zc) := Sta.start ez (Or.inl (hst _ (List.mem_of_getElem? (i := 0) rfl)))
  have P5 : ¬ zc = 0 := gotF (Cond.eq_ints ez (Term.int_eval (0))) (not_v (Cond.before_iff.mp (hst _ (List.mem_of_getElem? (i := 2) rfl))))
  have hEL : EW s _ consts_1 := (EW.cons (w22 hw) (by decide) EW.nil)
  have hCH : CHv s consts_1 s.vm s.heap := CHv.start hEL hcalls.1 (hst _ (List.mem_of_getElem? (i := 2) rfl)) (w23 hw) (w9 hw)
  obtain ⟨n1, hn⟩ := and_e hn
  obtain ⟨n2, hn⟩ := and_e hn
  obtain ⟨n3, hn⟩ := and_e hn
  obtain ⟨n4, hn⟩ := and_e hn
  obtain ⟨n5, hn⟩ := and_e hn
  obtain ⟨n6, hn⟩ := and_e hn
  obtain ⟨n7, n8⟩ := and_e hn
  obtain ⟨kW, vW⟩ := exa_v n1
  have OW : Sta s s.heap "com/example/carve/carve/model/Token$Kind" "WORD" "Lcom/example/carve/carve/model/Token$Kind;" (.ref kW) := Sta.start vW (Or.inr ⟨(w1 hw), (w2 hw)⟩)
  have fW : s.fieldOf? kW "java/lang/Enum" "ordinal" "I" = some (.int 0) := (fld_at vW).symm.trans (Cond.eq_int (Cond.before_iff.mpr n4) rfl)
  obtain ⟨kS, vS⟩ := exa_v n2
  have OS : Sta s s.heap "com/example/carve/carve/model/Token$Kind" "SYMBOL" "Lcom/example/carve/carve/model/Token$Kind;" (.ref kS) := Sta.start vS (Or.inr ⟨(w1 hw), (w87 hw)⟩)
  have fS : s.fieldOf? kS "java/lang/Enum" "ordinal" "I" = some (.int 1) := (fld_at vS).symm.trans (Cond.eq_int (Cond.before_iff.mpr n3) rfl)
  obtain ⟨kI, vI⟩ := exa_v n7
  have OI : Sta s s.heap "com/example/carve/carve/model/Token$Kind" "INVALID" "Lcom/example/carve/carve/model/Token$Kind;" (.ref kI) := Sta.start vI (Or.inr ⟨(w1 hw), (w104 hw)⟩)
  have fI : s.fieldOf? kI "java/lang/Enum" "ordinal" "I" = some (.int 2) := (fld_at vI).symm.trans (Cond.eq_int (Cond.before_iff.mpr n8) rfl)
  obtain ⟨kE, vE⟩ := exa_v n5
  have OE : Sta s s.heap "com/example/carve/carve/model/Token$Kind" "END" "Lcom/example/carve/carve/model/Token$Kind;" (.ref kE) := Sta.start vE (Or.inr ⟨(w1 hw), (w102 hw)⟩)
  have fE : s.fieldOf? kE "java/lang/Enum" "ordinal" "I" = some (.int 3) := (fld_at vE).symm.trans (Cond.eq_int (Cond.before_iff.mpr n6) rfl)
  have dk : kI ≠ kW ∧ kI ≠ kS ∧ kE ≠ kW ∧ kE ≠ kS := by
    refine ⟨fun q => ?_, fun q => ?_, fun q => ?_, fun q => ?_⟩
    · rw [q, fW] at fI; exact absurd fI (by decide)
    · rw [q, fS] at fI; exact absurd fI (by decide)
    · rw [q, fW] at fE; exact absurd fE (by decide)
    · rw [q, fS] at fE; exact absurd fE (by decide)
  obtain ⟨n, o, h1, h2, h3, v, L, rfl, ⟨⟨rfl, -⟩, N, -⟩, -, hq⟩ := rmLaw l s _ hw hEL zc O2 P5 kW kS kI kE OW OS OI OE dk i0 i1 i2 i3 i4 i5 s.heap (Old.start s) p e ha hc hk s m _ below hf ((Spec.applies_iff_loose hf).mp happ).1 ⟨rfl, State.Warmed39.refl s, rfl, hCH, fun _ q => nomatch q⟩ trivial
  refine ⟨n, _, h1, h2, h3, hpost _ _ _ _ _ _ ⟨Cond.after_iff.mpr rfl, Cond.after_iff.mpr (eq_i res_at (Term.int_eval (1)) rfl), trivial⟩ ⟨hq.1, hq.2.1, hq.2.2.1, (hq.2.2.2.sift fun y hy => Or.inr (N y hy)).mono (by decide) (by decide)⟩⟩
theorem main_1_1 : Claimed_1_1 := comes_1 fun _ _ _ _ _ _ h hF => ⟨h.1, hF⟩
theorem main_1_2 : Claimed_1_2 := comes_1 fun _ _ _ _ _ _ h hF => ⟨h.2.1, hF⟩
end Jvm.Pilot.@@N@@
namespace Jvm.Pilot.@@N@@
open Jvm Jvm.ClassFile Sem Op Lib Jvm.Free Jvm.Stand Jvm.Pilot.@@N@@.Jvm.D
/-! MADE BY PROGRAM (witnessworld.py) out of the Statement's table words and the real class files: 24 classes; the members and pool entries that the words name. The judged class is class 1, her method 1. -/
namespace start1
open Jvm.ClassFile
def u (s : String) : CpInfo := .utf8 (stringToUtf16 s)
/-- a pool by its gaps: so many unusable entries, then the entry; so many at the end -/
def gap : Nat → List CpInfo → List CpInfo
  | 0, r => r
  | n + 1, r => .unusable :: gap n r
def poolList (es : List (Nat × CpInfo)) (last : Nat) : List CpInfo := es.foldr (fun e r => gap e.1 (e.2 :: r)) (gap last [])
def pool (es : List (Nat × CpInfo)) (last : Nat) : Array CpInfo := ⟨poolList es last⟩
def fileOf (pool : Array CpInfo) (this : Nat) (attrs : Array Attribute := #[]) (ms : Array MethodInfo := #[]) (fl : Nat := 33) (sup : Nat := 0) (ifs : Array Nat := #[]) (fds : Array FieldInfo := #[]) : ClassFile where
  minorVersion := 0
  majorVersion := 65
  constantPool := pool
  accessFlags := fl
  thisClass := this
  superClass := sup
  interfaces := ifs
  fields := fds
  methods := ms
  attributes := attrs
def plain (name : String) (sup : Option ClassId) : Class where
  name := name
  kind := .ordinary
  loader := none
  accessFlags := 33
  super := sup
  interfaces := #[]
  cf := none
  fields := #[]
  methods := #[]
  instanceTypes := #[]
  staticTypes := #[]
  resolved := #[]
  callSites := []
  init := .initialized
  statics := none
  mirror := none

def pool0 : Array CpInfo := pool [(5, u "<init>"), (0, u "()V"), (1, .class_ 10), (1, u "java/lang/Object")] 113

def k0c0 : Code := { maxStack := 0, maxLocals := 1, code := object_method_1_code, exceptionTable := #[], attributes := #[] }
def k0m0 : Method := { name := "<init>", desc := "()V", sig := { parameters := [], returnType := none }, accessFlags := 1, code := some k0c0 }
/-- java/lang/Object -/
def k0 : Class := { plain "java/lang/Object" none with
  accessFlags := 33
  interfaces := #[]
  cf := some (fileOf pool0 8 #[] #[{ accessFlags := 1, nameIndex := 5, descriptorIndex := 6, attributes := #[] }] 33 0 #[] #[])
  fields := #[]
  methods := #[k0m0]
  instanceTypes := #[]
  staticTypes := #[]
  resolved := Array.replicate 124 none
  statics := none }

def pool1 : Array CpInfo := pool [(2, .class_ 4), (1, u "java/lang/Object"), (0, u "<init>"), (0, u "()V"), (0, .fieldref 8 9), (0, .class_ 10), (0, .nameAndType 11 12), (0, u "com/example/carve/carve/model/Token$Kind"), (0, u "WORD"), (0, u "Lcom/example/carve/carve/model/Token$Kind;"), (0, .fieldref 8 14), (0, .nameAndType 15 12), (0, u "SYMBOL"), (0, .fieldref 8 17), (0, .nameAndType 18 12), (0, u "INVALID"), (0, .fieldref 8 20), (0, .nameAndType 21 12), (0, u "END"), (0, .integer 2147483647), (0, .methodref 24 25), (0, .class_ 26), (0, .nameAndType 27 28), (0, u "com/example/carve/carve/model/TokenIsPinLaw"), (0, u "make"), (0, u "(ICC)Ljava/lang/String;"), (0, .class_ 30), (0, u "com/example/carve/carve/model/Token"), (0, .class_ 32), (0, u "com/example/carve/carve/model/Position"), (0, .methodref 31 34), (0, .nameAndType 5 35), (0, u "(II)V"), (0, .methodref 29 37), (0, .nameAndType 5 38), (0, u "(Lcom/example/carve/carve/model/Token$Kind;Ljava/lang/String;Lcom/example/carve/carve/model/Position;)V"), (0, .methodref 29 40), (0, .nameAndType 41 42), (0, u "is"), (0, u "(Ljava/lang/String;)Z"), (0, .class_ 44), (0, u "java/lang/String"), (0, .methodref 43 46), (0, .nameAndType 5 47), (0, u "([C)V"), (0, .methodref 43 49), (0, .nameAndType 50 51), (0, u "valueOf"), (0, u "(C)Ljava/lang/String;"), (2, u "law"), (0, u "(IIIIII)Z")] 5

def k1m0 : Method := { name := "<init>", desc := "()V", sig := { parameters := [], returnType := none }, accessFlags := 1, code := none }
def k1c1 : Code := { maxStack := 8, maxLocals := 18, code := code, exceptionTable := #[], attributes := #[] }
def k1m1 : Method := { name := "law", desc := "(IIIIII)Z", sig := { parameters := [.int, .int, .int, .int, .int, .int], returnType := some .boolean }, accessFlags := 9, code := some k1c1 }
def k1c2 : Code := { maxStack := 4, maxLocals := 4, code := method_3_code, exceptionTable := #[], attributes := #[] }
def k1m2 : Method := { name := "make", desc := "(ICC)Ljava/lang/String;", sig := { parameters := [.int, .char, .char], returnType := some (.object "java/lang/String") }, accessFlags := 10, code := some k1c2 }
/-- com/example/carve/carve/model/TokenIsPinLaw -/
def k1 : Class := { plain "com/example/carve/carve/model/TokenIsPinLaw" (some 0) with
  accessFlags := 49
  interfaces := #[]
  cf := some (fileOf pool1 24 #[] #[{ accessFlags := 1, nameIndex := 5, descriptorIndex := 6, attributes := #[] }, { accessFlags := 9, nameIndex := 54, descriptorIndex := 55, attributes := #[] }, { accessFlags := 10, nameIndex := 27, descriptorIndex := 28, attributes := #[] }] 49 2 #[] #[])
  fields := #[]
  methods := #[k1m0, k1m1, k1m2]
  instanceTypes := #[]
  staticTypes := #[]
  resolved := Array.replicate 61 none
  statics := none }

def pool2 : Array CpInfo := pool [(1, .class_ 2), (0, u "java/lang/constant/Constable"), (0, .class_ 4), (0, u "java/lang/Object")] 6

/-- java/lang/constant/Constable -/
def k2 : Class := { plain "java/lang/constant/Constable" (some 0) with
  accessFlags := 1537
  interfaces := #[]
  cf := some (fileOf pool2 1 #[] #[] 1537 3 #[] #[])
  fields := #[]
  methods := #[]
  instanceTypes := #[]
  staticTypes := #[]
  resolved := Array.replicate 11 none
  statics := none }

def pool3 : Array CpInfo := pool [(1, .class_ 2), (0, u "java/lang/Comparable"), (0, .class_ 4), (0, u "java/lang/Object")] 7

/-- java/lang/Comparable -/
def k3 : Class := { plain "java/lang/Comparable" (some 0) with
  accessFlags := 1537
  interfaces := #[]
  cf := some (fileOf pool3 1 #[] #[] 1537 3 #[] #[])
  fields := #[]
  methods := #[]
  instanceTypes := #[]
  staticTypes := #[]
  resolved := Array.replicate 12 none
  statics := none }

def pool4 : Array CpInfo := pool [(1, .class_ 2), (0, u "java/io/Serializable"), (0, .class_ 4), (0, u "java/lang/Object")] 2

/-- java/io/Serializable -/
def k4 : Class := { plain "java/io/Serializable" (some 0) with
  accessFlags := 1537
  interfaces := #[]
  cf := some (fileOf pool4 1 #[] #[] 1537 3 #[] #[])
  fields := #[]
  methods := #[]
  instanceTypes := #[]
  staticTypes := #[]
  resolved := Array.replicate 7 none
  statics := none }

def pool5 : Array CpInfo := pool [(2, .class_ 4), (1, u "java/lang/Enum"), (0, u "name"), (0, u "Ljava/lang/String;"), (2, u "ordinal"), (0, u "I"), (1, .class_ 14), (1, u "java/lang/Object"), (4, u "hash"), (86, .class_ 108), (1, u "java/lang/Enum$EnumDesc"), (2, .class_ 112), (0, u "java/lang/constant/Constable"), (0, .class_ 114), (0, u "java/lang/Comparable"), (0, .class_ 116), (0, u "java/io/Serializable")] 87

/-- java/lang/Enum -/
def k5 : Class := { plain "java/lang/Enum" (some 0) with
  accessFlags := 1057
  interfaces := #[2, 3, 4]
  cf := some (fileOf pool5 2 #[.nestMembers #[106]] #[] 1057 12 #[111, 113, 115] #[{ accessFlags := 18, nameIndex := 5, descriptorIndex := 6, attributes := #[] }, { accessFlags := 18, nameIndex := 9, descriptorIndex := 10, attributes := #[] }, { accessFlags := 2, nameIndex := 19, descriptorIndex := 10, attributes := #[] }])
  fields := #[{ name := "name", type := (.object "java/lang/String"), accessFlags := 18, slot := 0, constantValue := 0 }, { name := "ordinal", type := .int, accessFlags := 18, slot := 1, constantValue := 0 }, { name := "hash", type := .int, accessFlags := 2, slot := 2, constantValue := 0 }]
  methods := #[]
  instanceTypes := #[(.object "java/lang/String"), .int, .int]
  staticTypes := #[]
  resolved := Array.replicate 204 none
  statics := none }

def pool6 : Array CpInfo := pool [(1, .class_ 2), (0, u "com/example/carve/carve/model/Token$Kind"), (2, u "WORD"), (0, u "Lcom/example/carve/carve/model/Token$Kind;"), (2, u "SYMBOL"), (2, u "INVALID"), (2, u "END"), (2, u "$VALUES"), (0, u "[Lcom/example/carve/carve/model/Token$Kind;"), (6, .class_ 28), (1, u "java/lang/Enum"), (27, .class_ 57), (0, u "com/example/carve/carve/model/Token")] 2

/-- com/example/carve/carve/model/Token$Kind -/
def k6 : Class := { plain "com/example/carve/carve/model/Token$Kind" (some 5) with
  accessFlags := 16432
  interfaces := #[]
  cf := some (fileOf pool6 1 #[.nestHost 56] #[] 16432 26 #[] #[{ accessFlags := 16409, nameIndex := 5, descriptorIndex := 6, attributes := #[] }, { accessFlags := 16409, nameIndex := 9, descriptorIndex := 6, attributes := #[] }, { accessFlags := 16409, nameIndex := 12, descriptorIndex := 6, attributes := #[] }, { accessFlags := 16409, nameIndex := 15, descriptorIndex := 6, attributes := #[] }, { accessFlags := 4122, nameIndex := 18, descriptorIndex := 19, attributes := #[] }])
  fields := #[{ name := "WORD", type := (.object "com/example/carve/carve/model/Token$Kind"), accessFlags := 16409, slot := 0, constantValue := 0 }, { name := "SYMBOL", type := (.object "com/example/carve/carve/model/Token$Kind"), accessFlags := 16409, slot := 1, constantValue := 0 }, { name := "INVALID", type := (.object "com/example/carve/carve/model/Token$Kind"), accessFlags := 16409, slot := 2, constantValue := 0 }, { name := "END", type := (.object "com/example/carve/carve/model/Token$Kind"), accessFlags := 16409, slot := 3, constantValue := 0 }, { name := "$VALUES", type := (.array (.object "com/example/carve/carve/model/Token$Kind")), accessFlags := 4122, slot := 4, constantValue := 0 }]
  methods := #[]
  instanceTypes := #[(.object "java/lang/String"), .int, .int]
  staticTypes := #[(.object "com/example/carve/carve/model/Token$Kind"), (.object "com/example/carve/carve/model/Token$Kind"), (.object "com/example/carve/carve/model/Token$Kind"), (.object "com/example/carve/carve/model/Token$Kind"), (.array (.object "com/example/carve/carve/model/Token$Kind"))]
  resolved := Array.replicate 60 none
  statics := some 0 }

def pool7 : Array CpInfo := pool [(2, .class_ 4), (1, u "java/lang/CharSequence"), (42, .class_ 48), (0, u "java/lang/CharSequence$1CodePointIterator"), (10, .class_ 60), (0, u "java/lang/CharSequence$1CharIterator"), (5, .class_ 67), (0, u "java/lang/Object")] 63

/-- java/lang/CharSequence -/
def k7 : Class := { plain "java/lang/CharSequence" (some 0) with
  accessFlags := 1537
  interfaces := #[]
  cf := some (fileOf pool7 2 #[.nestMembers #[47, 59]] #[] 1537 66 #[] #[])
  fields := #[]
  methods := #[]
  instanceTypes := #[]
  staticTypes := #[]
  resolved := Array.replicate 131 none
  statics := none }

def pool8 : Array CpInfo := pool [(1, .class_ 2), (0, u "java/lang/constant/ConstantDesc"), (0, .class_ 4), (0, u "java/lang/Object")] 32

/-- java/lang/constant/ConstantDesc -/
def k8 : Class := { plain "java/lang/constant/ConstantDesc" (some 0) with
  accessFlags := 1537
  interfaces := #[]
  cf := some (fileOf pool8 1 #[] #[] 1537 3 #[] #[])
  fields := #[]
  methods := #[]
  instanceTypes := #[]
  staticTypes := #[]
  resolved := Array.replicate 37 none
  statics := none }

def pool9 : Array CpInfo := pool [(1, .methodref 2 3), (0, .class_ 4), (0, .nameAndType 5 6), (0, u "java/lang/Object"), (0, u "<init>"), (0, u "()V"), (0, .string 8), (0, u ""), (0, .fieldref 10 11), (0, .class_ 12), (0, .nameAndType 13 14), (0, u "java/lang/String"), (0, u "value"), (0, u "[B"), (0, .fieldref 10 16), (0, .nameAndType 17 18), (0, u "coder"), (0, u "B"), (2, u "hash"), (0, u "I"), (2, u "hashIsZero"), (0, u "Z"), (0, .methodref 10 28), (0, .nameAndType 5 29), (0, u "([CIILjava/lang/Void;)V"), (8, .fieldref 10 39), (0, .nameAndType 40 26), (0, u "COMPACT_STRINGS"), (1, .class_ 44), (1, u "java/lang/StringUTF16"), (0, u "compress"), (1, .methodref 42 48), (0, .nameAndType 49 50), (0, u "coderFromArrayLen"), (0, u "([BI)B"), (2, u "toBytes"), (53, .class_ 109), (1, u "java/lang/StringLatin1"), (67, .methodref 42 178), (0, .nameAndType 45 179), (0, u "([CII)[B"), (29, .methodref 10 210), (0, .nameAndType 5 211), (0, u "([BB)V"), (157, u "(C)Z"), (171, .methodref 107 542), (0, .nameAndType 543 544), (0, u "equals"), (0, u "([B[B)Z"), (28, u "(Ljava/lang/Object;)Z"), (1, .class_ 576), (0, u "java/lang/CharSequence"), (22, u "CASE_INSENSITIVE_ORDER"), (0, u "Ljava/util/Comparator;"), (181, u "valueOf"), (0, u "(C)Ljava/lang/String;"), (226, u "([C)V"), (4, .methodref 107 1016), (0, .nameAndType 1017 369), (0, u "canEncode"), (0, .methodref 107 1019), (0, .nameAndType 53 1020), (0, u "(C)[B"), (80, u "serialPersistentFields"), (0, u "[Ljava/io/ObjectStreamField;"), (0, .class_ 1104), (0, u "java/lang/String$CaseInsensitiveComparator"), (1, .class_ 1107), (0, u "java/io/Serializable"), (0, .class_ 1109), (0, u "java/lang/Comparable"), (0, .class_ 1111), (0, u "java/lang/constant/Constable"), (0, .class_ 1113), (0, u "java/lang/constant/ConstantDesc"), (2, u "serialVersionUID"), (0, u "J"), (3, u "REPL"), (0, u "C"), (2, u "LATIN1"), (1, u "UTF16")] 323

def k9m0 : Method := { name := "<init>", desc := "()V", sig := { parameters := [], returnType := none }, accessFlags := 1, code := none }
def k9c1 : Code := { maxStack := 5, maxLocals := 2, code := jdk_42_method_3_code, exceptionTable := #[], attributes := #[] }
def k9m1 : Method := { name := "<init>", desc := "([C)V", sig := { parameters := [(.array .char)], returnType := none }, accessFlags := 1, code := some k9c1 }
def k9c2 : Code := { maxStack := 2, maxLocals := 3, code := jdk_42_method_66_code, exceptionTable := #[], attributes := #[] }
def k9m2 : Method := { name := "equals", desc := "(Ljava/lang/Object;)Z", sig := { parameters := [(.object "java/lang/Object")], returnType := some .boolean }, accessFlags := 1, code := some k9c2 }
def k9c3 : Code := { maxStack := 4, maxLocals := 1, code := jdk_42_method_139_code, exceptionTable := #[], attributes := #[] }
def k9m3 : Method := { name := "valueOf", desc := "(C)Ljava/lang/String;", sig := { parameters := [.char], returnType := some (.object "java/lang/String") }, accessFlags := 9, code := some k9c3 }
def k9c4 : Code := { maxStack := 4, maxLocals := 6, code := jdk_42_method_149_code, exceptionTable := #[], attributes := #[] }
def k9m4 : Method := { name := "<init>", desc := "([CIILjava/lang/Void;)V", sig := { parameters := [(.array .char), .int, .int, (.object "java/lang/Void")], returnType := none }, accessFlags := 2, code := some k9c4 }
def k9c5 : Code := { maxStack := 2, maxLocals := 3, code := jdk_42_method_151_code, exceptionTable := #[], attributes := #[] }
def k9m5 : Method := { name := "<init>", desc := "([BB)V", sig := { parameters := [(.array .byte), .byte], returnType := none }, accessFlags := 0, code := some k9c5 }
/-- java/lang/String -/
def k9 : Class := { plain "java/lang/String" (some 0) with
  accessFlags := 49
  interfaces := #[4, 3, 7, 2, 8]
  cf := some (fileOf pool9 10 #[.nestMembers #[1103]] #[{ accessFlags := 1, nameIndex := 5, descriptorIndex := 6, attributes := #[] }, { accessFlags := 1, nameIndex := 5, descriptorIndex := 1010, attributes := #[] }, { accessFlags := 1, nameIndex := 543, descriptorIndex := 573, attributes := #[] }, { accessFlags := 9, nameIndex := 782, descriptorIndex := 783, attributes := #[] }, { accessFlags := 2, nameIndex := 5, descriptorIndex := 29, attributes := #[] }, { accessFlags := 0, nameIndex := 5, descriptorIndex := 211, attributes := #[] }] 49 2 #[1106, 1108, 575, 1110, 1112] #[{ accessFlags := 18, nameIndex := 13, descriptorIndex := 14, attributes := #[] }, { accessFlags := 18, nameIndex := 17, descriptorIndex := 18, attributes := #[] }, { accessFlags := 2, nameIndex := 21, descriptorIndex := 22, attributes := #[] }, { accessFlags := 2, nameIndex := 25, descriptorIndex := 26, attributes := #[] }, { accessFlags := 26, nameIndex := 1116, descriptorIndex := 1117, attributes := #[] }, { accessFlags := 24, nameIndex := 40, descriptorIndex := 26, attributes := #[] }, { accessFlags := 26, nameIndex := 1101, descriptorIndex := 1102, attributes := #[] }, { accessFlags := 26, nameIndex := 1121, descriptorIndex := 1122, attributes := #[] }, { accessFlags := 25, nameIndex := 599, descriptorIndex := 600, attributes := #[] }, { accessFlags := 24, nameIndex := 1125, descriptorIndex := 18, attributes := #[] }, { accessFlags := 24, nameIndex := 1127, descriptorIndex := 18, attributes := #[] }])
  fields := #[{ name := "value", type := (.array .byte), accessFlags := 18, slot := 0, constantValue := 0 }, { name := "coder", type := .byte, accessFlags := 18, slot := 1, constantValue := 0 }, { name := "hash", type := .int, accessFlags := 2, slot := 2, constantValue := 0 }, { name := "hashIsZero", type := .boolean, accessFlags := 2, slot := 3, constantValue := 0 }, { name := "serialVersionUID", type := .long, accessFlags := 26, slot := 0, constantValue := 0 }, { name := "COMPACT_STRINGS", type := .boolean, accessFlags := 24, slot := 1, constantValue := 0 }, { name := "serialPersistentFields", type := (.array (.object "java/io/ObjectStreamField")), accessFlags := 26, slot := 2, constantValue := 0 }, { name := "REPL", type := .char, accessFlags := 26, slot := 3, constantValue := 0 }, { name := "CASE_INSENSITIVE_ORDER", type := (.object "java/util/Comparator"), accessFlags := 25, slot := 4, constantValue := 0 }, { name := "LATIN1", type := .byte, accessFlags := 24, slot := 5, constantValue := 0 }, { name := "UTF16", type := .byte, accessFlags := 24, slot := 6, constantValue := 0 }]
  methods := #[k9m0, k9m1, k9m2, k9m3, k9m4, k9m5]
  instanceTypes := #[(.array .byte), .byte, .int, .boolean]
  staticTypes := #[.long, .boolean, (.array (.object "java/io/ObjectStreamField")), .char, (.object "java/util/Comparator"), .byte, .byte]
  resolved := Array.replicate 1451 none
  statics := some 1 }

def pool10 : Array CpInfo := pool [(1, .methodref 2 3), (0, .class_ 4), (0, .nameAndType 5 6), (0, u "java/lang/Object"), (0, u "<init>"), (0, u "()V"), (0, .class_ 8), (0, u "java/lang/Record")] 13

def k10c0 : Code := { maxStack := 1, maxLocals := 1, code := jdk_30_method_1_code, exceptionTable := #[], attributes := #[] }
def k10m0 : Method := { name := "<init>", desc := "()V", sig := { parameters := [], returnType := none }, accessFlags := 4, code := some k10c0 }
/-- java/lang/Record -/
def k10 : Class := { plain "java/lang/Record" (some 0) with
  accessFlags := 1057
  interfaces := #[]
  cf := some (fileOf pool10 7 #[] #[{ accessFlags := 4, nameIndex := 5, descriptorIndex := 6, attributes := #[] }] 1057 2 #[] #[])
  fields := #[]
  methods := #[k10m0]
  instanceTypes := #[]
  staticTypes := #[]
  resolved := Array.replicate 22 none
  statics := none }

def pool11 : Array CpInfo := pool [(1, .methodref 2 3), (0, .class_ 4), (0, .nameAndType 5 6), (0, u "java/lang/Record"), (0, u "<init>"), (0, u "()V"), (0, .fieldref 8 9), (0, .class_ 10), (0, .nameAndType 11 12), (0, u "com/example/carve/carve/model/Token"), (0, u "kind"), (0, u "Lcom/example/carve/carve/model/Token$Kind;"), (0, .fieldref 8 14), (0, .nameAndType 15 16), (0, u "text"), (0, u "Ljava/lang/String;"), (0, .fieldref 8 18), (0, .nameAndType 19 20), (0, u "at"), (0, u "Lcom/example/carve/carve/model/Position;"), (0, .fieldref 22 23), (0, .class_ 24), (0, .nameAndType 25 12), (0, u "com/example/carve/carve/model/Token$Kind"), (0, u "WORD"), (0, .fieldref 22 27), (0, .nameAndType 28 12), (0, u "SYMBOL"), (0, .methodref 30 31), (0, .class_ 32), (0, .nameAndType 33 34), (0, u "java/lang/String"), (0, u "equals"), (0, u "(Ljava/lang/Object;)Z"), (56, u "(Lcom/example/carve/carve/model/Token$Kind;Ljava/lang/String;Lcom/example/carve/carve/model/Position;)V"), (3, u "is"), (0, u "(Ljava/lang/String;)Z")] 38

def k11c0 : Code := { maxStack := 2, maxLocals := 4, code := prog_63_method_1_code, exceptionTable := #[], attributes := #[] }
def k11m0 : Method := { name := "<init>", desc := "(Lcom/example/carve/carve/model/Token$Kind;Ljava/lang/String;Lcom/example/carve/carve/model/Position;)V", sig := { parameters := [(.object "com/example/carve/carve/model/Token$Kind"), (.object "java/lang/String"), (.object "com/example/carve/carve/model/Position")], returnType := none }, accessFlags := 0, code := some k11c0 }
def k11c1 : Code := { maxStack := 2, maxLocals := 2, code := prog_63_method_2_code, exceptionTable := #[], attributes := #[] }
def k11m1 : Method := { name := "is", desc := "(Ljava/lang/String;)Z", sig := { parameters := [(.object "java/lang/String")], returnType := some .boolean }, accessFlags := 0, code := some k11c1 }
/-- com/example/carve/carve/model/Token -/
def k11 : Class := { plain "com/example/carve/carve/model/Token" (some 10) with
  accessFlags := 48
  interfaces := #[]
  cf := some (fileOf pool11 8 #[.nestMembers #[22]] #[{ accessFlags := 0, nameIndex := 5, descriptorIndex := 91, attributes := #[] }, { accessFlags := 0, nameIndex := 95, descriptorIndex := 96, attributes := #[] }] 48 2 #[] #[{ accessFlags := 18, nameIndex := 11, descriptorIndex := 12, attributes := #[] }, { accessFlags := 18, nameIndex := 15, descriptorIndex := 16, attributes := #[] }, { accessFlags := 18, nameIndex := 19, descriptorIndex := 20, attributes := #[] }])
  fields := #[{ name := "kind", type := (.object "com/example/carve/carve/model/Token$Kind"), accessFlags := 18, slot := 0, constantValue := 0 }, { name := "text", type := (.object "java/lang/String"), accessFlags := 18, slot := 1, constantValue := 0 }, { name := "at", type := (.object "com/example/carve/carve/model/Position"), accessFlags := 18, slot := 2, constantValue := 0 }]
  methods := #[k11m0, k11m1]
  instanceTypes := #[(.object "com/example/carve/carve/model/Token$Kind"), (.object "java/lang/String"), (.object "com/example/carve/carve/model/Position")]
  staticTypes := #[]
  resolved := Array.replicate 135 none
  statics := none }

def pool12 : Array CpInfo := pool [(1, .methodref 2 3), (0, .class_ 4), (0, .nameAndType 5 6), (0, u "java/lang/Record"), (0, u "<init>"), (0, u "()V"), (0, .fieldref 8 9), (0, .class_ 10), (0, .nameAndType 11 12), (0, u "com/example/carve/carve/model/Position"), (0, u "line"), (0, u "I"), (0, .fieldref 8 14), (0, .nameAndType 15 12), (0, u "column"), (12, u "(II)V")] 27

def k12c0 : Code := { maxStack := 2, maxLocals := 3, code := prog_53_method_1_code, exceptionTable := #[], attributes := #[] }
def k12m0 : Method := { name := "<init>", desc := "(II)V", sig := { parameters := [.int, .int], returnType := none }, accessFlags := 1, code := some k12c0 }
/-- com/example/carve/carve/model/Position -/
def k12 : Class := { plain "com/example/carve/carve/model/Position" (some 10) with
  accessFlags := 49
  interfaces := #[]
  cf := some (fileOf pool12 8 #[] #[{ accessFlags := 1, nameIndex := 5, descriptorIndex := 28, attributes := #[] }] 49 2 #[] #[{ accessFlags := 18, nameIndex := 11, descriptorIndex := 12, attributes := #[] }, { accessFlags := 18, nameIndex := 15, descriptorIndex := 12, attributes := #[] }])
  fields := #[{ name := "line", type := .int, accessFlags := 18, slot := 0, constantValue := 0 }, { name := "column", type := .int, accessFlags := 18, slot := 1, constantValue := 0 }]
  methods := #[k12m0]
  instanceTypes := #[.int, .int]
  staticTypes := #[]
  resolved := Array.replicate 56 none
  statics := none }

def pool13 : Array CpInfo := pool [(4, .class_ 6), (1, u "java/lang/Object"), (0, u "<init>"), (0, u "()V"), (5, .class_ 16), (1, u "java/lang/StringLatin1"), (73, u "canEncode"), (14, u "(C)Z"), (15, u "$assertionsDisabled"), (0, u "Z"), (98, .class_ 223), (1, u "java/lang/StringLatin1$LinesSpliterator"), (57, u "equals"), (0, u "([B[B)Z"), (97, u "toBytes"), (1, u "(C)[B"), (7, .class_ 391), (0, u "java/lang/StringLatin1$CharsSpliterator")] 3

def k13m0 : Method := { name := "<init>", desc := "()V", sig := { parameters := [], returnType := none }, accessFlags := 0, code := none }
def k13c1 : Code := { maxStack := 2, maxLocals := 1, code := jdk_43_method_3_code, exceptionTable := #[], attributes := #[] }
def k13m1 : Method := { name := "canEncode", desc := "(C)Z", sig := { parameters := [.char], returnType := some .boolean }, accessFlags := 9, code := some k13c1 }
def k13c2 : Code := { maxStack := 3, maxLocals := 3, code := jdk_43_method_13_code, exceptionTable := #[], attributes := #[] }
def k13m2 : Method := { name := "equals", desc := "([B[B)Z", sig := { parameters := [(.array .byte), (.array .byte)], returnType := some .boolean }, accessFlags := 9, code := some k13c2 }
def k13c3 : Code := { maxStack := 4, maxLocals := 1, code := jdk_43_method_46_code, exceptionTable := #[], attributes := #[] }
def k13m3 : Method := { name := "toBytes", desc := "(C)[B", sig := { parameters := [.char], returnType := some (.array .byte) }, accessFlags := 9, code := some k13c3 }
/-- java/lang/StringLatin1 -/
def k13 : Class := { plain "java/lang/StringLatin1" (some 0) with
  accessFlags := 48
  interfaces := #[]
  cf := some (fileOf pool13 14 #[.nestMembers #[390, 221]] #[{ accessFlags := 0, nameIndex := 7, descriptorIndex := 8, attributes := #[] }, { accessFlags := 9, nameIndex := 90, descriptorIndex := 105, attributes := #[] }, { accessFlags := 9, nameIndex := 281, descriptorIndex := 282, attributes := #[] }, { accessFlags := 9, nameIndex := 380, descriptorIndex := 382, attributes := #[] }] 48 4 #[] #[{ accessFlags := 4120, nameIndex := 121, descriptorIndex := 122, attributes := #[] }])
  fields := #[{ name := "$assertionsDisabled", type := .boolean, accessFlags := 4120, slot := 0, constantValue := 0 }]
  methods := #[k13m0, k13m1, k13m2, k13m3]
  instanceTypes := #[]
  staticTypes := #[.boolean]
  resolved := Array.replicate 395 none
  statics := none }

def pool14 : Array CpInfo := pool [(6, .class_ 8), (1, u "java/lang/Object"), (0, u "<init>"), (0, u "()V"), (1, .class_ 14), (1, u "java/lang/StringUTF16"), (31, u "$assertionsDisabled"), (0, u "Z"), (13, u "HI_BYTE_SHIFT"), (0, u "I"), (2, u "LO_BYTE_SHIFT"), (49, .methodref 12 116), (0, .nameAndType 117 118), (0, u "compress"), (0, u "([CI[BII)I"), (3, u "([CII)[B"), (138, u "coderFromArrayLen"), (0, u "([BI)B"), (106, .class_ 371), (1, u "java/lang/StringUTF16$LinesSpliterator"), (58, u "MAX_LENGTH"), (196, .class_ 628), (0, u "java/lang/StringUTF16$CodePointsSpliterator"), (0, .class_ 630), (0, u "java/lang/StringUTF16$CharsSpliterator")] 4

def k14m0 : Method := { name := "<init>", desc := "()V", sig := { parameters := [], returnType := none }, accessFlags := 0, code := none }
def k14c1 : Code := { maxStack := 2, maxLocals := 2, code := jdk_52_method_15_code, exceptionTable := #[], attributes := #[] }
def k14m1 : Method := { name := "coderFromArrayLen", desc := "([BI)B", sig := { parameters := [(.array .byte), .int], returnType := some .byte }, accessFlags := 8, code := some k14c1 }
def k14c2 : Code := { maxStack := 5, maxLocals := 6, code := jdk_52_method_16_code, exceptionTable := #[], attributes := #[] }
def k14m2 : Method := { name := "compress", desc := "([CII)[B", sig := { parameters := [(.array .char), .int, .int], returnType := some (.array .byte) }, accessFlags := 9, code := some k14c2 }
def k14c3 : Code := { maxStack := 3, maxLocals := 7, code := jdk_52_method_21_code, exceptionTable := #[], attributes := #[] }
def k14m3 : Method := { name := "compress", desc := "([CI[BII)I", sig := { parameters := [(.array .char), .int, (.array .byte), .int, .int], returnType := some .int }, accessFlags := 9, code := some k14c3 }
/-- java/lang/StringUTF16 -/
def k14 : Class := { plain "java/lang/StringUTF16" (some 0) with
  accessFlags := 48
  interfaces := #[]
  cf := some (fileOf pool14 12 #[.nestMembers #[627, 629, 369]] #[{ accessFlags := 0, nameIndex := 9, descriptorIndex := 10, attributes := #[] }, { accessFlags := 8, nameIndex := 261, descriptorIndex := 262, attributes := #[] }, { accessFlags := 9, nameIndex := 117, descriptorIndex := 122, attributes := #[] }, { accessFlags := 9, nameIndex := 117, descriptorIndex := 118, attributes := #[] }] 48 6 #[] #[{ accessFlags := 26, nameIndex := 61, descriptorIndex := 62, attributes := #[] }, { accessFlags := 26, nameIndex := 65, descriptorIndex := 62, attributes := #[] }, { accessFlags := 24, nameIndex := 430, descriptorIndex := 62, attributes := #[] }, { accessFlags := 4120, nameIndex := 46, descriptorIndex := 47, attributes := #[] }])
  fields := #[{ name := "HI_BYTE_SHIFT", type := .int, accessFlags := 26, slot := 0, constantValue := 0 }, { name := "LO_BYTE_SHIFT", type := .int, accessFlags := 26, slot := 1, constantValue := 0 }, { name := "MAX_LENGTH", type := .int, accessFlags := 24, slot := 2, constantValue := 0 }, { name := "$assertionsDisabled", type := .boolean, accessFlags := 4120, slot := 3, constantValue := 0 }]
  methods := #[k14m0, k14m1, k14m2, k14m3]
  instanceTypes := #[]
  staticTypes := #[.int, .int, .int, .boolean]
  resolved := Array.replicate 635 none
  statics := none }

def pool15 : Array CpInfo := pool [(2, .class_ 4), (1, u "java/lang/Object"), (0, u "<init>"), (0, u "()V"), (17, .class_ 26), (1, u "jdk/internal/util/Preconditions"), (28, .class_ 56), (0, u "jdk/internal/util/Preconditions$4"), (57, .class_ 115), (0, u "jdk/internal/util/Preconditions$1"), (7, u "SIOOBE_FORMATTER"), (0, u "Ljava/util/function/BiFunction;"), (0, .class_ 126), (0, u "jdk/internal/util/Preconditions$2"), (3, u "AIOOBE_FORMATTER"), (0, .class_ 132), (0, u "jdk/internal/util/Preconditions$3"), (3, u "IOOBE_FORMATTER")] 57

def k15m0 : Method := { name := "<init>", desc := "()V", sig := { parameters := [], returnType := none }, accessFlags := 1, code := none }
/-- jdk/internal/util/Preconditions -/
def k15 : Class := { plain "jdk/internal/util/Preconditions" (some 0) with
  accessFlags := 33
  interfaces := #[]
  cf := some (fileOf pool15 24 #[.nestMembers #[55, 131, 125, 114]] #[{ accessFlags := 1, nameIndex := 5, descriptorIndex := 6, attributes := #[] }] 33 2 #[] #[{ accessFlags := 25, nameIndex := 123, descriptorIndex := 124, attributes := #[] }, { accessFlags := 25, nameIndex := 130, descriptorIndex := 124, attributes := #[] }, { accessFlags := 25, nameIndex := 136, descriptorIndex := 124, attributes := #[] }])
  fields := #[{ name := "SIOOBE_FORMATTER", type := (.object "java/util/function/BiFunction"), accessFlags := 25, slot := 0, constantValue := 0 }, { name := "AIOOBE_FORMATTER", type := (.object "java/util/function/BiFunction"), accessFlags := 25, slot := 1, constantValue := 0 }, { name := "IOOBE_FORMATTER", type := (.object "java/util/function/BiFunction"), accessFlags := 25, slot := 2, constantValue := 0 }]
  methods := #[k15m0]
  instanceTypes := #[]
  staticTypes := #[(.object "java/util/function/BiFunction"), (.object "java/util/function/BiFunction"), (.object "java/util/function/BiFunction")]
  resolved := Array.replicate 194 none
  statics := some 2 }

def pool16 : Array CpInfo := pool [(9, u "<init>"), (6, .class_ 18), (1, u "java/lang/Object"), (0, u "()V"), (1, .class_ 23), (1, u "jdk/internal/util/ArraysSupport"), (0, u "LOG2_ARRAY_LONG_INDEX_SCALE"), (0, u "I"), (2, u "U"), (0, u "Ljdk/internal/misc/Unsafe;"), (8, u "BIG_ENDIAN"), (0, u "Z"), (8, u "LOG2_BYTE_BIT_SIZE"), (4, u "LOG2_ARRAY_INT_INDEX_SCALE"), (54, u "JLA"), (0, u "Ljdk/internal/access/JavaLangAccess;"), (11, u "LOG2_ARRAY_BOOLEAN_INDEX_SCALE"), (9, u "LOG2_ARRAY_BYTE_INDEX_SCALE"), (5, u "LOG2_ARRAY_CHAR_INDEX_SCALE"), (5, u "LOG2_ARRAY_SHORT_INDEX_SCALE"), (18, u "LOG2_ARRAY_FLOAT_INDEX_SCALE"), (24, u "LOG2_ARRAY_DOUBLE_INDEX_SCALE"), (89, u "T_BOOLEAN"), (2, u "T_CHAR"), (1, u "T_FLOAT"), (1, u "T_DOUBLE"), (1, u "T_BYTE"), (1, u "T_SHORT"), (1, u "T_INT"), (1, u "T_LONG"), (1, u "SOFT_MAX_ARRAY_LENGTH")] 83

def k16m0 : Method := { name := "<init>", desc := "()V", sig := { parameters := [], returnType := none }, accessFlags := 2, code := none }
/-- jdk/internal/util/ArraysSupport -/
def k16 : Class := { plain "jdk/internal/util/ArraysSupport" (some 0) with
  accessFlags := 33
  interfaces := #[]
  cf := some (fileOf pool16 21 #[] #[{ accessFlags := 2, nameIndex := 9, descriptorIndex := 19, attributes := #[] }] 33 16 #[] #[{ accessFlags := 24, nameIndex := 28, descriptorIndex := 29, attributes := #[] }, { accessFlags := 26, nameIndex := 38, descriptorIndex := 39, attributes := #[] }, { accessFlags := 25, nameIndex := 121, descriptorIndex := 25, attributes := #[] }, { accessFlags := 25, nameIndex := 131, descriptorIndex := 25, attributes := #[] }, { accessFlags := 25, nameIndex := 137, descriptorIndex := 25, attributes := #[] }, { accessFlags := 25, nameIndex := 143, descriptorIndex := 25, attributes := #[] }, { accessFlags := 25, nameIndex := 53, descriptorIndex := 25, attributes := #[] }, { accessFlags := 25, nameIndex := 24, descriptorIndex := 25, attributes := #[] }, { accessFlags := 25, nameIndex := 162, descriptorIndex := 25, attributes := #[] }, { accessFlags := 25, nameIndex := 187, descriptorIndex := 25, attributes := #[] }, { accessFlags := 26, nameIndex := 48, descriptorIndex := 25, attributes := #[] }, { accessFlags := 25, nameIndex := 277, descriptorIndex := 25, attributes := #[] }, { accessFlags := 25, nameIndex := 280, descriptorIndex := 25, attributes := #[] }, { accessFlags := 25, nameIndex := 282, descriptorIndex := 25, attributes := #[] }, { accessFlags := 25, nameIndex := 284, descriptorIndex := 25, attributes := #[] }, { accessFlags := 25, nameIndex := 286, descriptorIndex := 25, attributes := #[] }, { accessFlags := 25, nameIndex := 288, descriptorIndex := 25, attributes := #[] }, { accessFlags := 25, nameIndex := 290, descriptorIndex := 25, attributes := #[] }, { accessFlags := 25, nameIndex := 292, descriptorIndex := 25, attributes := #[] }, { accessFlags := 26, nameIndex := 108, descriptorIndex := 109, attributes := #[] }, { accessFlags := 25, nameIndex := 294, descriptorIndex := 25, attributes := #[] }])
  fields := #[{ name := "U", type := (.object "jdk/internal/misc/Unsafe"), accessFlags := 24, slot := 0, constantValue := 0 }, { name := "BIG_ENDIAN", type := .boolean, accessFlags := 26, slot := 1, constantValue := 0 }, { name := "LOG2_ARRAY_BOOLEAN_INDEX_SCALE", type := .int, accessFlags := 25, slot := 2, constantValue := 0 }, { name := "LOG2_ARRAY_BYTE_INDEX_SCALE", type := .int, accessFlags := 25, slot := 3, constantValue := 0 }, { name := "LOG2_ARRAY_CHAR_INDEX_SCALE", type := .int, accessFlags := 25, slot := 4, constantValue := 0 }, { name := "LOG2_ARRAY_SHORT_INDEX_SCALE", type := .int, accessFlags := 25, slot := 5, constantValue := 0 }, { name := "LOG2_ARRAY_INT_INDEX_SCALE", type := .int, accessFlags := 25, slot := 6, constantValue := 0 }, { name := "LOG2_ARRAY_LONG_INDEX_SCALE", type := .int, accessFlags := 25, slot := 7, constantValue := 0 }, { name := "LOG2_ARRAY_FLOAT_INDEX_SCALE", type := .int, accessFlags := 25, slot := 8, constantValue := 0 }, { name := "LOG2_ARRAY_DOUBLE_INDEX_SCALE", type := .int, accessFlags := 25, slot := 9, constantValue := 0 }, { name := "LOG2_BYTE_BIT_SIZE", type := .int, accessFlags := 26, slot := 10, constantValue := 0 }, { name := "T_BOOLEAN", type := .int, accessFlags := 25, slot := 11, constantValue := 0 }, { name := "T_CHAR", type := .int, accessFlags := 25, slot := 12, constantValue := 0 }, { name := "T_FLOAT", type := .int, accessFlags := 25, slot := 13, constantValue := 0 }, { name := "T_DOUBLE", type := .int, accessFlags := 25, slot := 14, constantValue := 0 }, { name := "T_BYTE", type := .int, accessFlags := 25, slot := 15, constantValue := 0 }, { name := "T_SHORT", type := .int, accessFlags := 25, slot := 16, constantValue := 0 }, { name := "T_INT", type := .int, accessFlags := 25, slot := 17, constantValue := 0 }, { name := "T_LONG", type := .int, accessFlags := 25, slot := 18, constantValue := 0 }, { name := "JLA", type := (.object "jdk/internal/access/JavaLangAccess"), accessFlags := 26, slot := 19, constantValue := 0 }, { name := "SOFT_MAX_ARRAY_LENGTH", type := .int, accessFlags := 25, slot := 20, constantValue := 0 }]
  methods := #[k16m0]
  instanceTypes := #[]
  staticTypes := #[(.object "jdk/internal/misc/Unsafe"), .boolean, .int, .int, .int, .int, .int, .int, .int, .int, .int, .int, .int, .int, .int, .int, .int, .int, .int, (.object "jdk/internal/access/JavaLangAccess"), .int]
  resolved := Array.replicate 378 none
  statics := none }

def pool17 : Array CpInfo := pool [(1, u "java/lang/Cloneable"), (0, .class_ 1), (0, u "java/lang/Object"), (0, .class_ 3)] 3

/-- java/lang/Cloneable -/
def k17 : Class := { plain "java/lang/Cloneable" (some 0) with
  accessFlags := 1537
  interfaces := #[]
  cf := some (fileOf pool17 2 #[] #[] 1537 4 #[] #[])
  fields := #[]
  methods := #[]
  instanceTypes := #[]
  staticTypes := #[]
  resolved := Array.replicate 8 none
  statics := none }

/-- the primitive byte -/
def k18 : Class := { plain "byte" none with kind := .primitive 'B', accessFlags := 0x411 }
/-- [B -/
def k19 : Class := { plain "[B" (some 0) with kind := .array 18 .byte, interfaces := #[17, 4], accessFlags := 1041 }

/-- the primitive char -/
def k20 : Class := { plain "char" none with kind := .primitive 'C', accessFlags := 0x411 }
/-- [C -/
def k21 : Class := { plain "[C" (some 0) with kind := .array 20 .char, interfaces := #[17, 4], accessFlags := 1041 }

/-- the primitive int -/
def k22 : Class := { plain "int" none with kind := .primitive 'I', accessFlags := 0x411 }
/-- [I -/
def k23 : Class := { plain "[I" (some 0) with kind := .array 22 .int, interfaces := #[17, 4], accessFlags := 1041 }

def heap : Heap := #[{ cls := 6, slots := #[.ref 3, .ref 4, .ref 5, .ref 6, .null], vm := .statics 6 },
  { cls := 9, slots := #[.long 0, .int 1, .null, .int 0, .null, .int 0, .int 0], vm := .statics 9 },
  { cls := 15, slots := #[.null, .null, .null], vm := .statics 15 },
  { cls := 6, slots := #[.null, .int 0, .int 0], vm := .none },
  { cls := 6, slots := #[.null, .int 1, .int 0], vm := .none },
  { cls := 6, slots := #[.null, .int 2, .int 0], vm := .none },
  { cls := 6, slots := #[.null, .int 3, .int 0], vm := .none }]
def classes : Array Class := #[k0, k1, k2, k3, k4, k5, k6, k7, k8, k9, k10, k11, k12, k13, k14, k15, k16, k17, k18, k19, k20, k21, k22, k23]
def interned : List (Array UInt16 × Addr) := []
def slotsUsed : Nat := 27
def theMethod : MethodId := ⟨1, 1⟩
def args0 : Array Value := #[.int 5, .int 5, .int 5, .int 5, .int 5, .int 5]
def aboutOver (below : List Frame) : State where
  vm := { classes := classes, interned := interned.toArray }
  heap := heap
  slotsUsed := slotsUsed
  threads := #[{ frames := .invoking theMethod args0 :: below }]
def below0 : List Frame := [.native { method := ⟨0, 0⟩, args := #[] }]
def about1 : State := aboutOver below0
def p0 : Program := .bare "" "" ""
def e0 : Env := launch0.env 0 0 0
theorem w_frames : about1.frames = Frame.invoking theMethod args0 :: below0 := rfl
set_option maxRecDepth 65536 in
theorem w_args : argsFit about1.vm theMethod args0 = true := by decide +kernel
set_option maxRecDepth 65536 in
theorem w_heap : heapFits about1 = true := by decide +kernel
set_option maxRecDepth 65536 in
theorem w_runnable : about1.curStatus? = some .runnable := by decide +kernel
set_option maxRecDepth 65536 in
theorem w_alone : about1.alone = true := by decide +kernel
set_option maxRecDepth 65536 in
theorem w_named : about1.methodNamed? x = some theMethod := by decide +kernel
set_option maxRecDepth 65536 in
theorem w_hears : about1.hears theMethod below0 = true := by decide +kernel
set_option maxRecDepth 65536 in
theorem w_ripe : about1.ripe theMethod args0 below0 = true := by decide +kernel
theorem w_running : about1.status = .running := rfl
set_option maxRecDepth 65536 in
theorem w_room : about1.hasRoom e0.platform room_1 = true :=
  launch0.hasRoom_least _ room_1 (by decide +kernel) (by decide +kernel) (by decide +kernel) (by decide +kernel) (by decide +kernel) (by decide +kernel)
theorem allAtoms_all (ts : List Jvm.Cond) (a : Array Jvm.Value) (st : Jvm.State) : (allAtoms ts).before a st = ts.all (fun c => c.before a st) := by
  induction ts with
  | nil => rfl
  | cons c t ih =>
    show (Jvm.Cond.and c (allAtoms t)).before a st = _
    rw [Jvm.Cond.before_and, ih, List.all_cons]
def words1 : List Jvm.Cond := Jvm.Cond.code x code maxLocals ret :: tables_1
/-- a 'code' word, met by the world's own term for the bytes: nothing is compared byte by byte -/
theorem code_word {y : MethodName} {bytes : ByteArray} {mx : Nat} {rt : Option FieldType} {a : Array Value} {s : State} {m : MethodId} {meth : Method} {c : Code} (h1 : s.methodNamed? y = some m) (h2 : s.vm.method? m = some meth) (h3 : meth.code = some c) (h4 : c.code = bytes)
    (h5 : (c.maxLocals == mx && c.exceptionTable.isEmpty && decide (c.maxStack ≤ mostOperands) && decide (meth.sig.returnType = rt) && !meth.locks && decide (parseMethodDescriptor y.desc = some meth.sig)) = true) : (Jvm.Cond.code y bytes mx rt).before a s = true := by
  simp only [Bool.and_eq_true, beq_iff_eq, Bool.not_eq_true', decide_eq_true_eq] at h5
  obtain ⟨⟨⟨⟨⟨g1, g2⟩, g3⟩, g4⟩, g5⟩, g6⟩ := h5
  simp [Cond.before, Cond.holds, Cond.value, h1, h2, h3, h4, g1, g2, g3, g4, g5, g6]
def isCode : Jvm.Cond → Bool
  | .code _ _ _ _ => true
  | _ => false
theorem all_split {L : List Jvm.Cond} {P : Jvm.Cond → Bool} (h1 : L.all (fun c => isCode c || P c) = true) (h2 : ∀ c ∈ L.filter isCode, P c = true) : L.all P = true := by
  refine List.all_eq_true.mpr fun c hc => ?_
  have h := List.all_eq_true.mp h1 c hc
  rcases Bool.eq_false_or_eq_true (isCode c) with hi | hi
  · exact h2 c (List.mem_filter.mpr ⟨hc, hi⟩)
  · simpa [hi] using h
set_option maxRecDepth 65536 in
theorem w_c0 : (Jvm.Cond.code x code maxLocals ret).before args0 about1 = true := code_word (m := ⟨1, 1⟩) (meth := k1m1) (c := k1c1) (by decide +kernel) rfl rfl rfl (by decide +kernel)
set_option maxRecDepth 65536 in
theorem w_c1 : (Jvm.Cond.code ({ cls := "com/example/carve/carve/model/TokenIsPinLaw", name := "make", desc := "(ICC)Ljava/lang/String;" } : Jvm.MethodName) method_3_code (4 : Nat) (Option.some (Jvm.ClassFile.FieldType.object "java/lang/String"))).before args0 about1 = true := code_word (m := ⟨1, 2⟩) (meth := k1m2) (c := k1c2) (by decide +kernel) rfl rfl rfl (by decide +kernel)
set_option maxRecDepth 65536 in
theorem w_c2 : (Jvm.Cond.code ({ cls := "java/lang/String", name := "<init>", desc := "([C)V" } : Jvm.MethodName) jdk_42_method_3_code (2 : Nat) (Option.none : Option Jvm.ClassFile.FieldType)).before args0 about1 = true := code_word (m := ⟨9, 1⟩) (meth := k9m1) (c := k9c1) (by decide +kernel) rfl rfl rfl (by decide +kernel)
set_option maxRecDepth 65536 in
theorem w_c3 : (Jvm.Cond.code ({ cls := "java/lang/String", name := "<init>", desc := "([CIILjava/lang/Void;)V" } : Jvm.MethodName) jdk_42_method_149_code (6 : Nat) (Option.none : Option Jvm.ClassFile.FieldType)).before args0 about1 = true := code_word (m := ⟨9, 4⟩) (meth := k9m4) (c := k9c4) (by decide +kernel) rfl rfl rfl (by decide +kernel)
set_option maxRecDepth 65536 in
theorem w_c4 : (Jvm.Cond.code ({ cls := "java/lang/Object", name := "<init>", desc := "()V" } : Jvm.MethodName) object_method_1_code (1 : Nat) (Option.none : Option Jvm.ClassFile.FieldType)).before args0 about1 = true := code_word (m := ⟨0, 0⟩) (meth := k0m0) (c := k0c0) (by decide +kernel) rfl rfl rfl (by decide +kernel)
set_option maxRecDepth 65536 in
theorem w_c5 : (Jvm.Cond.code ({ cls := "com/example/carve/carve/model/Position", name := "<init>", desc := "(II)V" } : Jvm.MethodName) prog_53_method_1_code (3 : Nat) (Option.none : Option Jvm.ClassFile.FieldType)).before args0 about1 = true := code_word (m := ⟨12, 0⟩) (meth := k12m0) (c := k12c0) (by decide +kernel) rfl rfl rfl (by decide +kernel)
set_option maxRecDepth 65536 in
theorem w_c6 : (Jvm.Cond.code ({ cls := "java/lang/Record", name := "<init>", desc := "()V" } : Jvm.MethodName) jdk_30_method_1_code (1 : Nat) (Option.none : Option Jvm.ClassFile.FieldType)).before args0 about1 = true := code_word (m := ⟨10, 0⟩) (meth := k10m0) (c := k10c0) (by decide +kernel) rfl rfl rfl (by decide +kernel)
set_option maxRecDepth 65536 in
theorem w_c7 : (Jvm.Cond.code ({ cls := "com/example/carve/carve/model/Token", name := "<init>", desc := "(Lcom/example/carve/carve/model/Token$Kind;Ljava/lang/String;Lcom/example/carve/carve/model/Position;)V" } : Jvm.MethodName) prog_63_method_1_code (4 : Nat) (Option.none : Option Jvm.ClassFile.FieldType)).before args0 about1 = true := code_word (m := ⟨11, 0⟩) (meth := k11m0) (c := k11c0) (by decide +kernel) rfl rfl rfl (by decide +kernel)
set_option maxRecDepth 65536 in
theorem w_c8 : (Jvm.Cond.code ({ cls := "com/example/carve/carve/model/Token", name := "is", desc := "(Ljava/lang/String;)Z" } : Jvm.MethodName) prog_63_method_2_code (2 : Nat) (Option.some Jvm.ClassFile.FieldType.boolean)).before args0 about1 = true := code_word (m := ⟨11, 1⟩) (meth := k11m1) (c := k11c1) (by decide +kernel) rfl rfl rfl (by decide +kernel)
set_option maxRecDepth 65536 in
theorem w_c9 : (Jvm.Cond.code ({ cls := "java/lang/String", name := "equals", desc := "(Ljava/lang/Object;)Z" } : Jvm.MethodName) jdk_42_method_66_code (3 : Nat) (Option.some Jvm.ClassFile.FieldType.boolean)).before args0 about1 = true := code_word (m := ⟨9, 2⟩) (meth := k9m2) (c := k9c2) (by decide +kernel) rfl rfl rfl (by decide +kernel)
set_option maxRecDepth 65536 in
theorem w_c10 : (Jvm.Cond.code ({ cls := "java/lang/StringLatin1", name := "equals", desc := "([B[B)Z" } : Jvm.MethodName) jdk_43_method_13_code (3 : Nat) (Option.some Jvm.ClassFile.FieldType.boolean)).before args0 about1 = true := code_word (m := ⟨13, 2⟩) (meth := k13m2) (c := k13c2) (by decide +kernel) rfl rfl rfl (by decide +kernel)
set_option maxRecDepth 65536 in
theorem w_c11 : (Jvm.Cond.code ({ cls := "java/lang/StringUTF16", name := "compress", desc := "([CII)[B" } : Jvm.MethodName) jdk_52_method_16_code (6 : Nat) (Option.some (Jvm.ClassFile.FieldType.array Jvm.ClassFile.FieldType.byte))).before args0 about1 = true := code_word (m := ⟨14, 2⟩) (meth := k14m2) (c := k14c2) (by decide +kernel) rfl rfl rfl (by decide +kernel)
set_option maxRecDepth 65536 in
theorem w_c12 : (Jvm.Cond.code ({ cls := "java/lang/StringUTF16", name := "compress", desc := "([CI[BII)I" } : Jvm.MethodName) jdk_52_method_21_code (7 : Nat) (Option.some Jvm.ClassFile.FieldType.int)).before args0 about1 = true := code_word (m := ⟨14, 3⟩) (meth := k14m3) (c := k14c3) (by decide +kernel) rfl rfl rfl (by decide +kernel)
set_option maxRecDepth 65536 in
theorem w_c13 : (Jvm.Cond.code ({ cls := "java/lang/StringUTF16", name := "coderFromArrayLen", desc := "([BI)B" } : Jvm.MethodName) jdk_52_method_15_code (2 : Nat) (Option.some Jvm.ClassFile.FieldType.byte)).before args0 about1 = true := code_word (m := ⟨14, 1⟩) (meth := k14m1) (c := k14c1) (by decide +kernel) rfl rfl rfl (by decide +kernel)
set_option maxRecDepth 65536 in
theorem w_c14 : (Jvm.Cond.code ({ cls := "java/lang/String", name := "valueOf", desc := "(C)Ljava/lang/String;" } : Jvm.MethodName) jdk_42_method_139_code (1 : Nat) (Option.some (Jvm.ClassFile.FieldType.object "java/lang/String"))).before args0 about1 = true := code_word (m := ⟨9, 3⟩) (meth := k9m3) (c := k9c3) (by decide +kernel) rfl rfl rfl (by decide +kernel)
set_option maxRecDepth 65536 in
theorem w_c15 : (Jvm.Cond.code ({ cls := "java/lang/StringLatin1", name := "canEncode", desc := "(C)Z" } : Jvm.MethodName) jdk_43_method_3_code (1 : Nat) (Option.some Jvm.ClassFile.FieldType.boolean)).before args0 about1 = true := code_word (m := ⟨13, 1⟩) (meth := k13m1) (c := k13c1) (by decide +kernel) rfl rfl rfl (by decide +kernel)
set_option maxRecDepth 65536 in
theorem w_c16 : (Jvm.Cond.code ({ cls := "java/lang/StringLatin1", name := "toBytes", desc := "(C)[B" } : Jvm.MethodName) jdk_43_method_46_code (1 : Nat) (Option.some (Jvm.ClassFile.FieldType.array Jvm.ClassFile.FieldType.byte))).before args0 about1 = true := code_word (m := ⟨13, 3⟩) (meth := k13m3) (c := k13c3) (by decide +kernel) rfl rfl rfl (by decide +kernel)
set_option maxRecDepth 65536 in
theorem w_c17 : (Jvm.Cond.code ({ cls := "java/lang/String", name := "<init>", desc := "([BB)V" } : Jvm.MethodName) jdk_42_method_151_code (3 : Nat) (Option.none : Option Jvm.ClassFile.FieldType)).before args0 about1 = true := code_word (m := ⟨9, 5⟩) (meth := k9m5) (c := k9c5) (by decide +kernel) rfl rfl rfl (by decide +kernel)
def codes1 : List Jvm.Cond := [Jvm.Cond.code x code maxLocals ret, Jvm.Cond.code ({ cls := "com/example/carve/carve/model/TokenIsPinLaw", name := "make", desc := "(ICC)Ljava/lang/String;" } : Jvm.MethodName) method_3_code (4 : Nat) (Option.some (Jvm.ClassFile.FieldType.object "java/lang/String")), Jvm.Cond.code ({ cls := "java/lang/String", name := "<init>", desc := "([C)V" } : Jvm.MethodName) jdk_42_method_3_code (2 : Nat) (Option.none : Option Jvm.ClassFile.FieldType), Jvm.Cond.code ({ cls := "java/lang/String", name := "<init>", desc := "([CIILjava/lang/Void;)V" } : Jvm.MethodName) jdk_42_method_149_code (6 : Nat) (Option.none : Option Jvm.ClassFile.FieldType), Jvm.Cond.code ({ cls := "java/lang/Object", name := "<init>", desc := "()V" } : Jvm.MethodName) object_method_1_code (1 : Nat) (Option.none : Option Jvm.ClassFile.FieldType), Jvm.Cond.code ({ cls := "com/example/carve/carve/model/Position", name := "<init>", desc := "(II)V" } : Jvm.MethodName) prog_53_method_1_code (3 : Nat) (Option.none : Option Jvm.ClassFile.FieldType), Jvm.Cond.code ({ cls := "java/lang/Record", name := "<init>", desc := "()V" } : Jvm.MethodName) jdk_30_method_1_code (1 : Nat) (Option.none : Option Jvm.ClassFile.FieldType), Jvm.Cond.code ({ cls := "com/example/carve/carve/model/Token", name := "<init>", desc := "(Lcom/example/carve/carve/model/Token$Kind;Ljava/lang/String;Lcom/example/carve/carve/model/Position;)V" } : Jvm.MethodName) prog_63_method_1_code (4 : Nat) (Option.none : Option Jvm.ClassFile.FieldType), Jvm.Cond.code ({ cls := "com/example/carve/carve/model/Token", name := "is", desc := "(Ljava/lang/String;)Z" } : Jvm.MethodName) prog_63_method_2_code (2 : Nat) (Option.some Jvm.ClassFile.FieldType.boolean), Jvm.Cond.code ({ cls := "java/lang/String", name := "equals", desc := "(Ljava/lang/Object;)Z" } : Jvm.MethodName) jdk_42_method_66_code (3 : Nat) (Option.some Jvm.ClassFile.FieldType.boolean), Jvm.Cond.code ({ cls := "java/lang/StringLatin1", name := "equals", desc := "([B[B)Z" } : Jvm.MethodName) jdk_43_method_13_code (3 : Nat) (Option.some Jvm.ClassFile.FieldType.boolean), Jvm.Cond.code ({ cls := "java/lang/StringUTF16", name := "compress", desc := "([CII)[B" } : Jvm.MethodName) jdk_52_method_16_code (6 : Nat) (Option.some (Jvm.ClassFile.FieldType.array Jvm.ClassFile.FieldType.byte)), Jvm.Cond.code ({ cls := "java/lang/StringUTF16", name := "compress", desc := "([CI[BII)I" } : Jvm.MethodName) jdk_52_method_21_code (7 : Nat) (Option.some Jvm.ClassFile.FieldType.int), Jvm.Cond.code ({ cls := "java/lang/StringUTF16", name := "coderFromArrayLen", desc := "([BI)B" } : Jvm.MethodName) jdk_52_method_15_code (2 : Nat) (Option.some Jvm.ClassFile.FieldType.byte), Jvm.Cond.code ({ cls := "java/lang/String", name := "valueOf", desc := "(C)Ljava/lang/String;" } : Jvm.MethodName) jdk_42_method_139_code (1 : Nat) (Option.some (Jvm.ClassFile.FieldType.object "java/lang/String")), Jvm.Cond.code ({ cls := "java/lang/StringLatin1", name := "canEncode", desc := "(C)Z" } : Jvm.MethodName) jdk_43_method_3_code (1 : Nat) (Option.some Jvm.ClassFile.FieldType.boolean), Jvm.Cond.code ({ cls := "java/lang/StringLatin1", name := "toBytes", desc := "(C)[B" } : Jvm.MethodName) jdk_43_method_46_code (1 : Nat) (Option.some (Jvm.ClassFile.FieldType.array Jvm.ClassFile.FieldType.byte)), Jvm.Cond.code ({ cls := "java/lang/String", name := "<init>", desc := "([BB)V" } : Jvm.MethodName) jdk_42_method_151_code (3 : Nat) (Option.none : Option Jvm.ClassFile.FieldType)]
set_option maxRecDepth 65536 in
theorem codes_eq : words1.filter isCode = codes1 := rfl
theorem w_codes : ∀ c ∈ words1.filter isCode, c.before args0 about1 = true := by
  rw [codes_eq]
  intro c hc
  simp only [codes1, List.mem_cons, List.not_mem_nil, or_false] at hc
  rcases hc with rfl | rfl | rfl | rfl | rfl | rfl | rfl | rfl | rfl | rfl | rfl | rfl | rfl | rfl | rfl | rfl | rfl | rfl
  · exact w_c0
  · exact w_c1
  · exact w_c2
  · exact w_c3
  · exact w_c4
  · exact w_c5
  · exact w_c6
  · exact w_c7
  · exact w_c8
  · exact w_c9
  · exact w_c10
  · exact w_c11
  · exact w_c12
  · exact w_c13
  · exact w_c14
  · exact w_c15
  · exact w_c16
  · exact w_c17
set_option maxRecDepth 65536 in
theorem w_t1 : (words1.take 24).all (fun c => isCode c || c.before args0 about1) = true := by decide +kernel
set_option maxRecDepth 65536 in
theorem w_t2 : ((words1.drop 24).take 24).all (fun c => isCode c || c.before args0 about1) = true := by decide +kernel
set_option maxRecDepth 65536 in
theorem w_t3 : (((words1.drop 24).drop 24).take 24).all (fun c => isCode c || c.before args0 about1) = true := by decide +kernel
set_option maxRecDepth 65536 in
theorem w_t4 : ((((words1.drop 24).drop 24).drop 24).take 24).all (fun c => isCode c || c.before args0 about1) = true := by decide +kernel
set_option maxRecDepth 65536 in
theorem w_t5 : ((((words1.drop 24).drop 24).drop 24).drop 24).all (fun c => isCode c || c.before args0 about1) = true := by decide +kernel
theorem w_tables : (allAtoms (Jvm.Cond.code x code maxLocals ret :: tables_1)).before args0 about1 = true := by
  rw [allAtoms_all]
  show words1.all (fun c => c.before args0 about1) = true
  refine all_split ?_ w_codes
  rw [← List.take_append_drop 24 words1, List.all_append, w_t1, ← List.take_append_drop 24 (words1.drop 24), List.all_append, w_t2, ← List.take_append_drop 24 ((words1.drop 24).drop 24), List.all_append, w_t3, ← List.take_append_drop 24 (((words1.drop 24).drop 24).drop 24), List.all_append, w_t4, w_t5]
  rfl
set_option maxRecDepth 65536 in
theorem w_rest : rest_1_c.before args0 about1 = true := by decide +kernel
set_option maxRecDepth 65536 in
theorem w_case : (Jvm.Cond.and given_1 narrow_1).before args0 about1 = true := by decide +kernel
set_option maxRecDepth 65536 in
theorem w_consts : constsHeld consts_1 about1 := Jvm.Lit.constsHeldB_iff.mp (by decide +kernel)
theorem w_applies : (headSpec (Jvm.Cond.code x code maxLocals ret :: tables_1) room_1).applies x e0.platform about1 = true :=
  (Spec.applies_iff w_frames).mpr ⟨w_running, w_runnable, w_alone, w_named, w_hears, w_ripe, w_room, w_tables⟩
theorem atStart : AtStart classFile x code maxLocals ret World_1 tables_1 room_1 Calls_1 rest_1 Pre_1 launch0 p0 e0 about1 theMethod args0 below0 :=
  ⟨lists_1, trivial, launch0.admits_env _ _ _, launch0.least_env, fairChoices_fair.cas, fairChoices_fair.clock, w_frames, w_args, w_heap, w_applies, ⟨w_consts, trivial⟩, w_rest, w_case⟩
end start1
theorem witness_1 : WitnessClaimed_1 := ⟨start1.p0, start1.e0, start1.about1, start1.theMethod, start1.args0, start1.below0, start1.atStart⟩
end Jvm.Pilot.@@N@@
