import JvmDerived
import JvmDerived.Pilot.@@N@@Statement
import JvmDerived.Pilot.@@N@@Code
set_option linter.unusedVariables false
set_option linter.unusedSimpArgs false
namespace Jvm.Ow
open Jvm Jvm.ClassFile Sem Op Lib Jvm.Free Jvm.Stand Jvm.LawKit Jvm.RoadKit Bundle
theorem ltA {a b : Nat} (h : a < b) : a < b := h
theorem leA {a b : Nat} (h : a ≤ b) : a ≤ b := h
theorem neA {a b : Nat} (h : a ≠ b) : a ≠ b := h
section Base
variable {p : Program} {l : Launch} {e : Env} {R : Room} {s : State} {m : MethodId} {args : Array Value} {below : List Frame} {meth : Method} {c : Code} {own : String} {Z : State} {a0 : Array Value} {EL : List (String × Nat)} {h0 : Heap} {T : State} {h h' : Heap} {vm vm' : Vm} {cells slots : Nat} {P : Outcome → State → Prop} {g : JFrame}
/-- from t the invocation comes to an end at which P holds -/
def Gets (p : Program) (e : Env) (below : List Frame) (P : Outcome → State → Prop) (t : State) : Prop := ∃ u o, Steps p.tables e below t u ∧ u.status = .running ∧ Ended u below o ∧ P o u
theorem Gets.via {t t' : State} (h : ∀ u, Steps p.tables e below t' u → Steps p.tables e below t u) (k : Gets p e below P t') : Gets p e below P t := by
  obtain ⟨u, o, h1, h2⟩ := k
  exact ⟨u, o, h _ h1, h2⟩
theorem Gets.steps {t t' : State} (h : Steps p.tables e below t t') (k : Gets p e below P t') : Gets p e below P t := k.via fun _ q => h.trans q
/-- where a walk stands: over the start with the tables at hand; what it may have interned; what the literals hold; nothing of the law's start written -/
def Wk (p : Program) (l : Launch) (e : Env) (R : Room) (s : State) (m : MethodId) (args : Array Value) (below : List Frame) (meth : Method) (c : Code) (own : String) (Z : State) (a0 : Array Value) (EL : List (String × Nat)) (h0 : Heap) (T : State) (h : Heap) (vm : Vm) (cells slots : Nat) : Prop :=
  ∃ (locs : List Loc) (k : Nat), Stand p l e R (s.setVm vm) m args below meth c T locs cells slots ∧ T.heap = h ∧ s.Since vm k ∧ k ≤ h.size ∧ Z.Warmed39 vm ∧ vm.findClass own = some m.cls ∧ CHr Z EL s.vm h0 vm h ∧ Fr Z.heap.size locs ∧ Old Z Z.heap.size h ∧ p.tables.exec = Jvm.exec ∧ EW Z a0 EL ∧ s.heap = h0 ∧ meth.locks = false
/-- what an invocation leaves -/
def Out (s : State) (Z : State) (EL : List (String × Nat)) (rm : Room) (Q : Option Value → Heap → Prop) (o : Outcome) (u : State) : Prop :=
  ∃ (v : Option Value) (L : List Loc), o = .returned v ∧ (Q v u.heap ∧ Fr Z.heap.size L ∧ Old Z Z.heap.size u.heap) ∧ CHr Z EL s.vm s.heap u.vm u.heap ∧ ReturnedEndW s o u L rm.cells rm.slots
/-- a contract -/
def Met (l : Launch) (Z : State) (EL : List (String × Nat)) (y : MethodName) (bytes : ByteArray) (maxL : Nat) (ret : Option FieldType) (ws : List Jvm.Cond) (rm : Room) (sf : List Addr) (as : Array Value) (h : Heap) (Q : Option Value → Heap → Prop) : Prop :=
  MetFree l y (head1 (Jvm.Cond.code y bytes maxL ret :: ws) rm) (fun a U => a = as ∧ Z.Warmed39 U.vm ∧ U.heap = h ∧ CHv Z EL U.vm h ∧ ∀ x ∈ sf, Safe Z EL U.vm h x) (fun _ _ _ _ _ => True) (fun _ U o U' => Out U Z EL rm Q o U')
theorem Met.start {y : MethodName} {bytes : ByteArray} {maxL : Nat} {ret : Option FieldType} {ws : List Jvm.Cond} {rm : Room} {sf : List Addr} {as : Array Value} {Q : Option Value → Heap → Prop} (hp : plainFor y = true) (hEL : EW Z a0 EL) (hO : Old Z Z.heap.size h) {Ls : Array Slot} (hent : ∀ m, entryFrame m as maxL = mkF m 0 Ls [])
    (body : ∀ p e s m below meth c T vm, Wk p l e rm s m as below meth c y.cls Z a0 EL h T h vm 0 0 → (∀ x ∈ sf, Safe Z EL vm h x) → c.code = bytes → c.maxLocals = maxL → meth.sig.returnType = ret → meth.name = y.name → Gets p e below (Out s Z EL rm Q) (T.setTop (mkF m 0 Ls []))) :
    Met l Z EL y bytes maxL ret ws rm sf as h Q := by
  refine MetFree.of_bodySF hp hisR ?_
  intro p e s m args below meth c s₁ Bd hml0 hP hK
  obtain ⟨rfl, hZ, hh, hC, hsf⟩ := hP
  have e0 : s₁.heap = h := by rw [← hh, Bd.state]; rfl
  have X0 : Stand p l e rm s m args below meth c s₁ [] 0 0 := Stand.of_body Bd
  have hown : s.vm.findClass y.cls = some m.cls := findClass_of_methodNamed Bd.named
  have W0 : Wk p l e rm s m args below meth c y.cls Z a0 EL h s₁ h s.vm 0 0 :=
    ⟨[], 0, X0, e0, ⟨State.Warmed39.refl s, fun j q hj hq => absurd (Array.getElem?_eq_some_iff.mp hq).1 (Nat.not_lt.mpr hj)⟩, Nat.zero_le _, hZ, hown, CHr.refl hC, Fr.nil _, hO, Bd.exec, hEL, hh, Bd.notSynchronized⟩
  have k := body p e s m below meth c s₁ s.vm W0 hsf Bd.bytes hml0 Bd.returns (name_of_methodNamed Bd.named Bd.method).1
  obtain ⟨u, o, h1, h2, h3, h4⟩ := k
  exact ⟨u, o, castTop (hent m) h1, h2, h3, h4⟩
theorem Wk.at (X : Wk p l e R s m args below meth c own Z a0 EL h0 T h vm cells slots) : At T m c below := by obtain ⟨_, _, X, -⟩ := X; exact X.here
theorem Wk.hx (X : Wk p l e R s m args below meth c own Z a0 EL h0 T h vm cells slots) : p.tables.exec = Jvm.exec := by obtain ⟨_, _, -, -, -, -, -, -, -, -, -, q, -⟩ := X; exact q
theorem Wk.hZ (X : Wk p l e R s m args below meth c own Z a0 EL h0 T h vm cells slots) : Z.Warmed39 vm := by obtain ⟨_, _, -, -, -, -, q, -⟩ := X; exact q
theorem Wk.eT (X : Wk p l e R s m args below meth c own Z a0 EL h0 T h vm cells slots) : T.heap = h := by obtain ⟨_, _, -, q, -⟩ := X; exact q
theorem Wk.old (X : Wk p l e R s m args below meth c own Z a0 EL h0 T h vm cells slots) : Old Z Z.heap.size h := by obtain ⟨_, _, -, -, -, -, -, -, -, -, q, -⟩ := X; exact q
theorem Wk.chv (X : Wk p l e R s m args below meth c own Z a0 EL h0 T h vm cells slots) : CHv Z EL vm h := by obtain ⟨_, _, -, -, -, -, -, -, q, -⟩ := X; exact q.1
theorem Wk.ew (X : Wk p l e R s m args below meth c own Z a0 EL h0 T h vm cells slots) : EW Z a0 EL := by obtain ⟨_, _, -, -, -, -, -, -, -, -, -, -, q, -⟩ := X; exact q
theorem Wk.ge (X : Wk p l e R s m args below meth c own Z a0 EL h0 T h vm cells slots) : Z.heap.size ≤ h.size := X.old.2.1
theorem Wk.sta (X : Wk p l e R s m args below meth c own Z a0 EL h0 T h vm cells slots) {C n d : String} {v : Value} (F : Sta Z Z.heap C n d v) : Sta Z h C n d v := F.ext X.old.2
theorem Wk.more (X : Wk p l e R s m args below meth c own Z a0 EL h0 T h vm cells slots) {cells' slots' : Nat} (q1 : cells ≤ cells') (q2 : slots ≤ slots') : Wk p l e R s m args below meth c own Z a0 EL h0 T h vm cells' slots' := by
  obtain ⟨locs, k, Y, r⟩ := X; exact ⟨locs, k, Y.mono q1 q2, r⟩
/-- a step that leaves heap and base -/
theorem Wk.still (X : Wk p l e R s m args below meth c own Z a0 EL h0 T h vm cells slots) {T' : State} (hY : ∀ locs, Stand p l e R (s.setVm vm) m args below meth c T locs cells slots → Stand p l e R (s.setVm vm) m args below meth c T' locs cells slots) (hT : T'.heap = h) : Wk p l e R s m args below meth c own Z a0 EL h0 T' h vm cells slots := by
  obtain ⟨locs, k, Y, -, r⟩ := X; exact ⟨locs, k, hY _ Y, hT, r⟩
theorem Wk.getF (X : Wk p l e R s m args below meth c own Z a0 EL h0 T h vm cells slots) {R0 O n d host : String} {index : Nat} (w : (Jvm.Cond.fieldLink own index R0 n d).before a0 Z = true ∨ (Jvm.Cond.fieldLinkNest own index R0 n d host).before a0 Z = true) (via : Via Z R0 O n d) {a : Addr} {v : Value} (F : Fld Z h a O n d v)
    (hg : g.method = m) {rest : List Value} (hs : g.stack = .ref a :: rest) (hd : decode c.code g.pc = .ok (.getfield index, 3))
    (k : ∀ T', Wk p l e R s m args below meth c own Z a0 EL h0 T' h vm cells slots → Gets p e below P (T'.setTop { g with pc := g.pc + 3, stack := v :: rest })) : Gets p e below P (T.setTop g) := by
  obtain ⟨locs, j, Y, eT, hS, hk, hZ, hown, hC, N, hO, hx, r⟩ := X
  obtain ⟨T', Y', e', st⟩ := RoadKit.getF Y hx hZ hown w via eT F hg hs hd
  exact (k T' ⟨locs, j, Y', e', hS, hk, hZ, hown, hC, N, hO, hx, r⟩).via st
theorem Wk.getS (X : Wk p l e R s m args below meth c own Z a0 EL h0 T h vm cells slots) {R0 O n d host : String} {index : Nat} (w : (Jvm.Cond.fieldLink own index R0 n d).before a0 Z = true ∨ (Jvm.Cond.fieldLinkNest own index R0 n d host).before a0 Z = true) (via : Via Z R0 O n d) {v : Value} (F : Sta Z h O n d v)
    (hg : g.method = m) (hd : decode c.code g.pc = .ok (.getstatic index, 3))
    (k : ∀ T', Wk p l e R s m args below meth c own Z a0 EL h0 T' h vm cells slots → Gets p e below P (T'.setTop { g with pc := g.pc + 3, stack := v :: g.stack })) : Gets p e below P (T.setTop g) := by
  obtain ⟨locs, j, Y, eT, hS, hk, hZ, hown, hC, N, hO, hx, r⟩ := X
  obtain ⟨T', Y', e', st⟩ := RoadKit.getS2 Y hx hZ hown w via eT F hg hd
  exact (k T' ⟨locs, j, Y', e', hS, hk, hZ, hown, hC, N, hO, hx, r⟩).via st
theorem Wk.cast (X : Wk p l e R s m args below meth c own Z a0 EL h0 T h vm cells slots) {K : String} {index : Nat} (w : (Jvm.Cond.classLink own index K).before a0 Z = true) {a : Addr} (F : Ins Z h a K true)
    (hg : g.method = m) {rest : List Value} (hs : g.stack = .ref a :: rest) (hd : decode c.code g.pc = .ok (.checkcast index, 3))
    (k : ∀ T', Wk p l e R s m args below meth c own Z a0 EL h0 T' h vm cells slots → Gets p e below P (T'.setTop { g with pc := g.pc + 3 })) : Gets p e below P (T.setTop g) := by
  obtain ⟨locs, j, Y, eT, hS, hk, hZ, hown, hC, N, hO, hx, r⟩ := X
  obtain ⟨T', Y', e', st⟩ := RoadKit.castY Y hx hZ hown w eT F hg hs hd
  exact (k T' ⟨locs, j, Y', e', hS, hk, hZ, hown, hC, N, hO, hx, r⟩).via st
theorem Wk.inst (X : Wk p l e R s m args below meth c own Z a0 EL h0 T h vm cells slots) {K : String} {index : Nat} (w : (Jvm.Cond.classLink own index K).before a0 Z = true) {a : Addr} (F : Ins Z h a K true)
    (hg : g.method = m) {rest : List Value} (hs : g.stack = .ref a :: rest) (hd : decode c.code g.pc = .ok (.instanceof index, 3))
    (k : ∀ T', Wk p l e R s m args below meth c own Z a0 EL h0 T' h vm cells slots → Gets p e below P (T'.setTop { g with pc := g.pc + 3, stack := .int 1 :: rest })) : Gets p e below P (T.setTop g) := by
  obtain ⟨locs, j, Y, eT, hS, hk, hZ, hown, hC, N, hO, hx, r⟩ := X
  obtain ⟨T', Y', e', st⟩ := RoadKit.instY Y hx hZ hown w eT F hg hs hd
  exact (k T' ⟨locs, j, Y', e', hS, hk, hZ, hown, hC, N, hO, hx, r⟩).via st
theorem Wk.objInit (X : Wk p l e R s m args below meth c own Z a0 EL h0 T h vm cells slots) {idx : Nat} (w1 : (Jvm.Cond.methodLink own idx Lib.objectInit).before a0 Z = true) (w2 : (Jvm.Cond.instanceMethod Lib.objectInit).before a0 Z = true) (w3 : (Jvm.Cond.code Lib.objectInit ⟨#[0xb1]⟩ 1 none).before a0 Z = true)
    (hg : g.method = m) (hsize : g.locals.size = c.maxLocals) {a : Addr} {rest : List Value} (hs : g.stack = .ref a :: rest) (hd : decode c.code g.pc = .ok (.invokespecial idx, 3)) (hf : 1 ≤ R.frames) {W : Nat} (hW : 2 * g.monitorRoom + (rest.map fun v => v.category).sum ≤ W) (hl : W + 12 ≤ R.locals)
    (k : ∀ T', Wk p l e R s m args below meth c own Z a0 EL h0 T' h vm cells slots → Gets p e below P (T'.setTop { g with pc := g.pc + 3, stack := rest })) : Gets p e below P (T.setTop g) := by
  obtain ⟨locs, j, Y, eT, hS, hk, hZ, hown, hC, N, hO, hx, r⟩ := X
  obtain ⟨T', Y', e', st⟩ := RoadKit.initO Y hx hZ hown w1 w2 w3 eT hg hsize hs hd hf hW hl
  exact (k T' ⟨locs, j, Y', e', hS, hk, hZ, hown, hC, N, hO, hx, r⟩).via st
theorem Wk.new (X : Wk p l e R s m args below meth c own Z a0 EL h0 T h vm cells slots) {C : String} {index n : Nat} (w : (Jvm.Cond.classLink own index C).before a0 Z = true) (wi : (Jvm.Cond.instantiable C n).before a0 Z = true) (wz : (Jvm.Cond.initialized C).before a0 Z = true)
    (hg : g.method = m) (hd : decode c.code g.pc = .ok (.new index, 3)) (hc : cells + 1 ≤ R.cells) (hl : slots + n ≤ R.slots)
    (k : ∀ T' h' a, Wk p l e R s m args below meth c own Z a0 EL h0 T' h' vm (cells + 1) (slots + n) → CHr Z EL vm h vm h' → Ext h h' → a = h.size → Exa Z h' a C → Safe Z EL vm h' a → (∀ {O nm d : String} {ty : FieldType}, Laid Z a0 C O nm d → parseFieldDescriptor d = some ty → Fld Z h' a O nm d (defaultValue ty)) → Gets p e below P (T'.setTop { g with pc := g.pc + 3, stack := .ref a :: g.stack })) : Gets p e below P (T.setTop g) := by
  obtain ⟨locs, j, Y, eT, hS, hk, hZ, hown, hC, N, hO, hx, r⟩ := X
  obtain ⟨T', h', Y', e', E, A, D, -, st⟩ := RoadKit.newO Y hx hZ hown w wi wz eT hg hd hc hl
  have C1 : CHr Z EL vm h vm h' := CHr.ext E hC.1
  exact (k T' h' h.size ⟨locs, j, Y', e', hS, Nat.le_trans hk E.1, hZ, hown, hC.trans C1, N, hO.ext E, hx, r⟩ C1 E rfl A (Safe.ext E hC.1 (Safe.new (Nat.le_refl _))) D).via st
theorem Wk.newA (X : Wk p l e R s m args below meth c own Z a0 EL h0 T h vm cells slots) {aty : ArrayType} (w : (Jvm.Cond.arrayClass (newarray.typeOf aty)).before a0 Z = true) (hg : g.method = m) (hd : decode c.code g.pc = .ok (.newarray aty, 2)) {n : Int32} {rest : List Value} (hs : g.stack = .int n :: rest)
    (hn : ¬ n < 0) {cap : Nat} (hcap : n.toNatClampNeg ≤ cap) (hb : cap * 8 ≤ 536870912) (hc : cells + 1 ≤ R.cells) (hl : slots + cap ≤ R.slots)
    (k : ∀ T' h' a kc, Wk p l e R s m args below meth c own Z a0 EL h0 T' h' vm (cells + 1) (slots + cap) → CHr Z EL vm h vm h' → Ext h h' → a = h.size → Safe Z EL vm h' a → Arv Z h' a kc (newarray.typeOf aty) n [] (defaultValue (newarray.typeOf aty)) → Gets p e below P (T'.setTop { g with pc := g.pc + 2, stack := .ref a :: rest })) : Gets p e below P (T.setTop g) := by
  obtain ⟨locs, j, Y, eT, hS, hk, hZ, hown, hC, N, hO, hx, r⟩ := X
  obtain ⟨T', h', kc, Y', e', E, A, st⟩ := RoadKit.newP Y hx hZ w eT hg hd hs hn hcap hb hc hl
  have C1 : CHr Z EL vm h vm h' := CHr.ext E hC.1
  exact (k T' h' h.size kc ⟨locs, j, Y', e', hS, Nat.le_trans hk E.1, hZ, hown, hC.trans C1, N, hO.ext E, hx, r⟩ C1 E rfl (Safe.ext E hC.1 (Safe.new (Nat.le_refl _))) (Arv.new A hn)).via st
theorem Wk.putF (X : Wk p l e R s m args below meth c own Z a0 EL h0 T h vm cells slots) {R0 O n d host C : String} {index kk : Nat} {ty : FieldType} (w : (Jvm.Cond.fieldLink own index R0 n d).before a0 Z = true ∨ (Jvm.Cond.fieldLinkNest own index R0 n d host).before a0 Z = true) (via : Via Z R0 O n d)
    {a : Addr} {v old : Value} (F : Fld Z h a O n d old) (E : Exa Z h a C) (L : (Jvm.Cond.lays C O n d).before a0 Z = true ∨ ((Jvm.Cond.laysFinal C O n d).before a0 Z = true ∧ own = O ∧ meth.name = "<init>")) (wi : (Jvm.Cond.instantiable C kk).before a0 Z = true)
    (hty : parseFieldDescriptor d = some ty) (hn : narrow ty v = v) (hf : fits ty v = true) (hge : Z.heap.size ≤ a) (S : Safe Z EL vm h a) (hg : g.method = m) {rest : List Value} (hs : g.stack = v :: .ref a :: rest) (hd : decode c.code g.pc = .ok (.putfield index, 3))
    (k : ∀ T' h', Wk p l e R s m args below meth c own Z a0 EL h0 T' h' vm cells slots → CHr Z EL vm h vm h' → Wr h h' a (RoadKit.slotOf Z O n d) v → Fld Z h' a O n d v → Exa Z h' a C → Gets p e below P (T'.setTop { g with pc := g.pc + 3, stack := rest })) : Gets p e below P (T.setTop g) := by
  obtain ⟨locs, j, Y, eT, hS, hk, hZ, hown, hC, N, hO, hx, r⟩ := X
  obtain ⟨T', h', Y', e', W, st⟩ := RoadKit.putF Y hx hZ hown w via eT F E L wi hty hn hf hg hs hd
  have C1 : CHr Z EL vm h vm h' := CHr.wr W S hC.1
  exact (k T' h' ⟨_, j, Y', e', hS, Nat.le_trans hk (Nat.le_of_eq W.size.symm), hZ, hown, hC.trans C1, Fr.snoc Y' N hge, hO.wr W hge, hx, r⟩ C1 W (F.same W) (E.wr W)).via st
theorem padN {k : ClassId} {ty : FieldType} {z : Int32} {d : Value} {a : Addr} (F : Arv Z h a k ty z [] d) (n : Nat) : Arv Z h a k ty z (List.replicate n d) d := F.pad fun i => by
  rw [List.getD_eq_getElem?_getD, List.getElem?_replicate]; split <;> simp
theorem Wk.stC (X : Wk p l e R s m args below meth c own Z a0 EL h0 T h vm cells slots) {a : Addr} {kc : ClassId} {n : Int32} {vs : List Value} {dv : Value} (A : Arv Z h a kc .char n vs dv) {j x : Int32} {i : Nat} (hj0 : ¬ j < 0) (hj : j.toNatClampNeg = i) (hi : i < vs.length) (hin : i < n.toNatClampNeg) {v : Int32} (hv : nar .char x = v)
    (hge : Z.heap.size ≤ a) (hg : g.method = m) {rest : List Value} (hs : g.stack = .int x :: .int j :: .ref a :: rest) (hd : decode c.code g.pc = .ok (.castore, 1))
    (k : ∀ T' h', Wk p l e R s m args below meth c own Z a0 EL h0 T' h' vm cells slots → CHr Z EL vm h vm h' → Keep h h' [a] → Arv Z h' a kc .char n (vs.set i (.int v)) dv → Gets p e below P (T'.setTop { g with pc := g.pc + 1, stack := rest })) : Gets p e below P (T.setTop g) := by
  obtain ⟨locs, j', Y, eT, hS, hk, hZ, hown, hC, N, hO, hx, r⟩ := X
  obtain ⟨cl, A1, A2, A3, A4, A5, A6⟩ := A
  obtain ⟨T', h', Y', e', W, st⟩ := RoadKit.stC Y hx hZ eT A1 (j := j) (x := x) (fun q => q.elim hj0 (fun q => by rw [A3, hj] at q; omega)) hg hs hd
  have C1 : CHr Z EL vm h vm h' := CHr.wr W (Safe.arr hZ.alike A1 (by decide)) hC.1
  subst hv
  exact (k T' h' ⟨_, j', Y', e', hS, Nat.le_trans hk (Nat.le_of_eq W.size.symm), hZ, hown, hC.trans C1, Fr.snoc Y' N hge, hO.wr W hge, hx, r⟩ C1 (Keep.of_wr W) (Arv.set A1 A2 A3 A4 A5 A6 (fits_nar_char x) W i hj hi)).via st
theorem Wk.stB (X : Wk p l e R s m args below meth c own Z a0 EL h0 T h vm cells slots) {a : Addr} {kc : ClassId} {n : Int32} {vs : List Value} {dv : Value} (A : Arv Z h a kc .byte n vs dv) {j x : Int32} {i : Nat} (hj0 : ¬ j < 0) (hj : j.toNatClampNeg = i) (hi : i < vs.length) (hin : i < n.toNatClampNeg) {v : Int32} (hv : nar .byte x = v) (S : Safe Z EL vm h a)
    (hge : Z.heap.size ≤ a) (hg : g.method = m) {rest : List Value} (hs : g.stack = .int x :: .int j :: .ref a :: rest) (hd : decode c.code g.pc = .ok (.bastore, 1))
    (k : ∀ T' h', Wk p l e R s m args below meth c own Z a0 EL h0 T' h' vm cells slots → CHr Z EL vm h vm h' → Keep h h' [a] → Arv Z h' a kc .byte n (vs.set i (.int v)) dv → Gets p e below P (T'.setTop { g with pc := g.pc + 1, stack := rest })) : Gets p e below P (T.setTop g) := by
  obtain ⟨locs, j', Y, eT, hS, hk, hZ, hown, hC, N, hO, hx, r⟩ := X
  obtain ⟨cl, A1, A2, A3, A4, A5, A6⟩ := A
  obtain ⟨T', h', Y', e', W, st⟩ := RoadKit.stB Y hx hZ eT A1 (j := j) (x := x) (fun q => q.elim hj0 (fun q => by rw [A3, hj] at q; omega)) hg hs hd
  have C1 : CHr Z EL vm h vm h' := CHr.wr W S hC.1
  subst hv
  exact (k T' h' ⟨_, j', Y', e', hS, Nat.le_trans hk (Nat.le_of_eq W.size.symm), hZ, hown, hC.trans C1, Fr.snoc Y' N hge, hO.wr W hge, hx, r⟩ C1 (Keep.of_wr W) (Arv.set A1 A2 A3 A4 A5 A6 (fits_nar_byte x) W i hj hi)).via st
theorem Wk.alen (X : Wk p l e R s m args below meth c own Z a0 EL h0 T h vm cells slots) {a : Addr} {kc : ClassId} {ty : FieldType} {n : Int32} {vs : List Value} {dv : Value} (A : Arv Z h a kc ty n vs dv)
    (hg : g.method = m) {rest : List Value} (hs : g.stack = .ref a :: rest) (hd : decode c.code g.pc = .ok (.arraylength, 1))
    (k : Gets p e below P (T.setTop { g with pc := g.pc + 1, stack := .int n :: rest })) : Gets p e below P (T.setTop g) := by
  obtain ⟨locs, j', Y, eT, hS, hk, hZ, hown, hC, N, hO, hx, r⟩ := X
  obtain ⟨cl, A1, A2, A3, A4, A5, A6⟩ := A
  refine k.via fun u q => ?_
  refine Y.arraylength hx (by rw [eT]; exact A1.1) (State.isArrayOf_alike hZ.alike A1.2.1) hg hs hd _ ?_
  rw [A3, (back32 A4).1]; exact q
theorem Wk.ldC (X : Wk p l e R s m args below meth c own Z a0 EL h0 T h vm cells slots) {a : Addr} {kc : ClassId} {n : Int32} {vs : List Value} {dv v : Value} (A : Arv Z h a kc .char n vs dv) {j : Int32} {i : Nat} (hj0 : ¬ j < 0) (hj : j.toNatClampNeg = i) (hin : i < n.toNatClampNeg) (hv : vs.getD i dv = v)
    (hg : g.method = m) {rest : List Value} (hs : g.stack = .int j :: .ref a :: rest) (hd : decode c.code g.pc = .ok (.caload, 1))
    (k : Gets p e below P (T.setTop { g with pc := g.pc + 1, stack := v :: rest })) : Gets p e below P (T.setTop g) := by
  obtain ⟨locs, j', Y, eT, hS, hk, hZ, hown, hC, N, hO, hx, r⟩ := X
  obtain ⟨cl, A1, A2, A3, A4, A5, A6⟩ := A
  refine k.via fun u q => ?_
  exact Y.caload hx (j := j) (v := v) (by rw [eT]; exact A1.1) (State.isArrayOf_alike hZ.alike A1.2.1) A1.2.2 (fun q => q.elim hj0 (fun q => by rw [A3, hj] at q; omega)) (by rw [hj, A5 i (by rw [A3]; exact hin), hv]) hg hs hd _ q
theorem Wk.ldB (X : Wk p l e R s m args below meth c own Z a0 EL h0 T h vm cells slots) {a : Addr} {kc : ClassId} {n : Int32} {vs : List Value} {dv v : Value} (A : Arv Z h a kc .byte n vs dv) {j : Int32} {i : Nat} (hj0 : ¬ j < 0) (hj : j.toNatClampNeg = i) (hin : i < n.toNatClampNeg) (hv : vs.getD i dv = v)
    (hg : g.method = m) {rest : List Value} (hs : g.stack = .int j :: .ref a :: rest) (hd : decode c.code g.pc = .ok (.baload, 1))
    (k : Gets p e below P (T.setTop { g with pc := g.pc + 1, stack := v :: rest })) : Gets p e below P (T.setTop g) := by
  obtain ⟨locs, j', Y, eT, hS, hk, hZ, hown, hC, N, hO, hx, r⟩ := X
  obtain ⟨cl, A1, A2, A3, A4, A5, A6⟩ := A
  refine k.via fun u q => ?_
  exact Y.baloadBytes hx (j := j) (v := v) (by rw [eT]; exact A1.1) (State.isArrayOf_alike hZ.alike A1.2.1) A1.2.2 (fun q => q.elim hj0 (fun q => by rw [A3, hj] at q; omega)) (by rw [hj, A5 i (by rw [A3]; exact hin), hv]) hg hs hd _ q
theorem Wk.ldR (X : Wk p l e R s m args below meth c own Z a0 EL h0 T h vm cells slots) {a : Addr} {kc : ClassId} {ty : FieldType} {n : Int32} {vs : List Value} {dv v : Value} (A : Arv Z h a kc ty n vs dv) (hty : ty.isReference = true) {j : Int32} {i : Nat} (hj0 : ¬ j < 0) (hj : j.toNatClampNeg = i) (hin : i < n.toNatClampNeg) (hv : vs.getD i dv = v)
    (hg : g.method = m) {rest : List Value} (hs : g.stack = .int j :: .ref a :: rest) (hd : decode c.code g.pc = .ok (.aaload, 1))
    (k : Gets p e below P (T.setTop { g with pc := g.pc + 1, stack := v :: rest })) : Gets p e below P (T.setTop g) := by
  obtain ⟨locs, j', Y, eT, hS, hk, hZ, hown, hC, N, hO, hx, r⟩ := X
  obtain ⟨cl, A1, A2, A3, A4, A5, A6⟩ := A
  refine k.via fun u q => ?_
  exact Y.aaload hx (j := j) (v := v) (by rw [eT]; exact A1.1) (State.isArrayOf_alike hZ.alike A1.2.1) hty A1.2.2 (fun q => q.elim hj0 (fun q => by rw [A3, hj] at q; omega)) (by rw [hj, A5 i (by rw [A3]; exact hin), hv]) hg hs hd _ q
theorem Wk.ldcI (X : Wk p l e R s m args below meth c own Z a0 EL h0 T h vm cells slots) {index : Nat} {v : Int32} (w : (Jvm.Cond.constant own index v).before a0 Z = true) (hg : g.method = m) (hd : decode c.code g.pc = .ok (.ldc index, 2))
    (k : Gets p e below P (T.setTop { g with pc := g.pc + 2, stack := .int v :: g.stack })) : Gets p e below P (T.setTop g) := by
  obtain ⟨locs, j', Y, eT, hS, hk, hZ, hown, hC, N, hO, hx, r⟩ := X
  exact k.via fun u q => Y.ldcI hx hown (mv (s := s.setVm vm) hZ w) hg hd q
theorem Wk.acmpW (X : Wk p l e R s m args below meth c own Z a0 EL h0 T h vm cells slots) (hx : p.tables.exec = Jvm.exec) (hg : g.method = m) {cd : ACond} {x y : Value} (h1 : x.isRef = true) (h2 : y.isRef = true) {rest : List Value} {o : Int} {pc0 pc' : Nat} {same : Bool} (hpc : g.pc = pc0)
    (hd : decode c.code g.pc = .ok (.if_acmp cd o, 3)) (hs : g.stack = y :: x :: rest) (hq : decide (x = y) = same) (ho : 0 ≤ (pc0 : Int) + o) (hp : pc' = if acV cd same = true then ((pc0 : Int) + o).toNat else pc0 + 3)
    (k : Gets p e below P (T.setTop { g with pc := pc', stack := rest })) : Gets p e below P (T.setTop g) := by
  obtain ⟨locs, j', Y, -⟩ := X
  exact k.via fun u q => RoadKit.acmp Y hx hg h1 h2 hpc hd hs hq ho hp q
theorem plainS {K : String} {x y : MethodName} (w : (Jvm.Cond.selects K x y).before a0 Z = true) (hy : y.cls = K) : ∃ t kt, Z.vm.findClass K = some t ∧ Z.vm.classes[t]? = some kt ∧ kt.isInterface = false := by
  obtain ⟨c2, r2, m2, q1, q2, q3, q4, kP, hkP, hkPi⟩ := Cond.selects_spec w
  exact ⟨m2.cls, kP, hy ▸ findClass_of_methodNamed q3, hkP, hkPi⟩
theorem plainI {K : String} {n : Nat} (w : (Jvm.Cond.instantiable K n).before a0 Z = true) : ∃ t kt, Z.vm.findClass K = some t ∧ Z.vm.classes[t]? = some kt ∧ kt.isInterface = false := by
  obtain ⟨c, k, h1, h2, -, h3, -⟩ := Cond.instantiable_spec w
  exact ⟨c, k, h1, h2, by simp at h3; exact h3.1⟩
theorem ns_root {O K : String} (w : (Jvm.Cond.noSuperclass O).before a0 Z = true) (hk : ∃ t kt, Z.vm.findClass K = some t ∧ Z.vm.classes[t]? = some kt ∧ kt.isInterface = false) (hn : O ≠ K) : NS Z O K := by
  obtain ⟨c, k, h1, h2, h3, -, -⟩ := Cond.noSuperclass_spec w
  obtain ⟨t, kt, g1, -⟩ := hk
  have ne := ids_ne h1 g1 hn
  refine ⟨c, t, h1, g1, fun fuel => ?_⟩
  cases fuel with
  | zero => rfl
  | succ f => simp [Vm.isSubclassAux, ne, h2, h3]
theorem ns_no {C S K : String} (w : (Jvm.Cond.superclass C S).before a0 Z = true) (hk : ∃ t kt, Z.vm.findClass K = some t ∧ Z.vm.classes[t]? = some kt ∧ kt.isInterface = false) (n : NS Z C K) (hn : C ≠ K) : ∃ c t, Z.vm.findClass C = some c ∧ Z.vm.findClass K = some t ∧ Z.vm.assignable c t = false := by
  obtain ⟨c, t, h0, g0, n3⟩ := n
  obtain ⟨p, k, kp, h1, h2, h3, h4, h5, -, h7⟩ := Cond.superclass_spec h0 w
  obtain ⟨t', kt, g1, g2, g3⟩ := hk
  cases g0.symm.trans g1
  have ne := ids_ne h0 g0 hn
  refine ⟨c, t, h0, g0, ?_⟩
  show Z.vm.assignableAux (255 + 1) c t = false
  cases hk : kt.kind <;> simp [Vm.assignableAux, ne, h2, g2, h5, hk, g3, Vm.isSubclass, n3]
theorem Wk.instNo (X : Wk p l e R s m args below meth c own Z a0 EL h0 T h vm cells slots) {K C : String} {index : Nat} (w : (Jvm.Cond.classLink own index K).before a0 Z = true) {a : Addr} (E : Exa Z h a C) (F : ∃ c t, Z.vm.findClass C = some c ∧ Z.vm.findClass K = some t ∧ Z.vm.assignable c t = false)
    (hg : g.method = m) {rest : List Value} (hs : g.stack = .ref a :: rest) (hd : decode c.code g.pc = .ok (.instanceof index, 3))
    (k : ∀ T', Wk p l e R s m args below meth c own Z a0 EL h0 T' h vm cells slots → Gets p e below P (T'.setTop { g with pc := g.pc + 3, stack := .int 0 :: rest })) : Gets p e below P (T.setTop g) := by
  obtain ⟨locs, j, Y, eT, hS, hk, hZ, hown, hC, N, hO, hx, r⟩ := X
  obtain ⟨T', Y', e', st⟩ := RoadKit.instNo Y hx hZ hown w eT E F hg hs hd
  exact (k T' ⟨locs, j, Y', e', hS, hk, hZ, hown, hC, N, hO, hx, r⟩).via st
theorem Wk.getC (X : Wk p l e R s m args below meth c own Z a0 EL h0 T h vm cells slots) {C : String} {index : Nat}
    (w1 : (Jvm.Cond.methodLink own index ⟨"java/lang/Object", "getClass", "()Ljava/lang/Class;"⟩).before a0 Z = true) (w2 : (Jvm.Cond.declares ⟨"java/lang/Object", "getClass", "()Ljava/lang/Class;"⟩).before a0 Z = true) (w3 : (Jvm.Cond.noSuperclass "java/lang/Object").before a0 Z = true) (w4 : (Jvm.Cond.selects C ⟨"java/lang/Object", "getClass", "()Ljava/lang/Class;"⟩ ⟨"java/lang/Object", "getClass", "()Ljava/lang/Class;"⟩).before a0 Z = true)
    (w5 : (Jvm.Cond.instanceMethod ⟨"java/lang/Object", "getClass", "()Ljava/lang/Class;"⟩).before a0 Z = true) (w6 : (Jvm.Cond.native ⟨"java/lang/Object", "getClass", "()Ljava/lang/Class;"⟩).before a0 Z = true) {a : Addr} (E : Exa Z h a C) {mr : Addr} (M : Mir Z C mr)
    (hg : g.method = m) (hsize : g.locals.size = c.maxLocals) {rest : List Value} (hs : g.stack = .ref a :: rest) (hd : decode c.code g.pc = .ok (.invokevirtual index, 3)) (hf : 1 ≤ R.frames) {W : Nat} (hW : 2 * g.monitorRoom + (rest.map fun v => v.category).sum ≤ W) (hl : W + (nativeFrameWords "java/lang/Object" "getClass" 1 + 11) ≤ R.locals)
    (k : ∀ T', Wk p l e R s m args below meth c own Z a0 EL h0 T' h vm cells slots → Gets p e below P (T'.setTop { g with pc := g.pc + 3, stack := .ref mr :: rest })) : Gets p e below P (T.setTop g) := by
  obtain ⟨locs, j, Y, eT, hS, hk, hZ, hown, hC, N, hO, hx, r⟩ := X
  obtain ⟨T', Y', e', st⟩ := RoadKit.gcls Y hx hZ hown w1 w2 w3 w4 w5 w6 eT E M hg hsize hs hd hf hW hl
  exact (k T' ⟨locs, j, Y', e', hS, hk, hZ, hown, hC, N, hO, hx, r⟩).via st
theorem mir_eval {C : String} {mr : Addr} (hal : Z.vm.Alike s.vm) (M : Mir Z C mr) : (Term.mirror C).eval args s none [] s = some (.ref mr) := by
  obtain ⟨cc, kc, m1, m2, m3, -⟩ := M
  obtain ⟨k', q1, q2⟩ := hal.2.2 _ _ m2
  have q3 : s.vm.findClass C = some cc := by rw [hal.findClass]; exact m1
  have q4 : k'.mirror = some mr := by rw [q2]; exact m3
  simp [Term.eval, q3, q1, q4]
theorem Wk.ldcM (X : Wk p l e R s m args below meth c own Z a0 EL h0 T h vm cells slots) {C : String} {index : Nat} (w : (Jvm.Cond.classLink own index C).before a0 Z = true) {mr : Addr} (M : Mir Z C mr) (hg : g.method = m) (hd : decode c.code g.pc = .ok (.ldc index, 2))
    (k : ∀ T', Wk p l e R s m args below meth c own Z a0 EL h0 T' h vm cells slots → Gets p e below P (T'.setTop { g with pc := g.pc + 2, stack := .ref mr :: g.stack })) : Gets p e below P (T.setTop g) := by
  obtain ⟨locs, j, Y, eT, hS, hk, hZ, hown, hC, N, hO, hx, r⟩ := X
  obtain ⟨vm', Y', st⟩ := Y.ldcMirror hx hown (mv (s := s.setVm vm) hZ w) (mir_eval (s := s.setVm vm) hZ.alike M) hg hd
  exact (k _ ⟨locs, j, Y', eT, hS, hk, hZ, hown, hC, N, hO, hx, r⟩).via st
theorem Wk.newR (X : Wk p l e R s m args below meth c own Z a0 EL h0 T h vm cells slots) {C : String} {index : Nat} (w1 : (Jvm.Cond.classLink own index C).before a0 Z = true) (w2 : (Jvm.Cond.arrayOver (.object C)).before a0 Z = true) (hg : g.method = m) (hd : decode c.code g.pc = .ok (.anewarray index, 3)) {n : Int32} {rest : List Value} (hs : g.stack = .int n :: rest)
    (hn : ¬ n < 0) {cap : Nat} (hcap : n.toNatClampNeg ≤ cap) (hb : cap * 8 ≤ 536870912) (hc : cells + 1 ≤ R.cells) (hl : slots + cap ≤ R.slots) {ad : String} (had : "[" ++ (FieldType.object C).toString = ad)
    (k : ∀ T' h' a kc, Wk p l e R s m args below meth c own Z a0 EL h0 T' h' vm (cells + 1) (slots + cap) → CHr Z EL vm h vm h' → Ext h h' → a = h.size → Exa Z h' a ad → Ovr Z kc C → Arv Z h' a kc (.object C) n [] .null → Gets p e below P (T'.setTop { g with pc := g.pc + 3, stack := .ref a :: rest })) : Gets p e below P (T.setTop g) := by
  obtain ⟨locs, j, Y, eT, hS, hk, hZ, hown, hC, N, hO, hx, r⟩ := X
  obtain ⟨T', h', kc, Y', e', E, A, Ea, Ov, st⟩ := RoadKit.newRE Y hx hZ hown w1 w2 eT hg hd hs hn hcap hb hc hl had
  have C1 : CHr Z EL vm h vm h' := CHr.ext E hC.1
  exact (k T' h' h.size kc ⟨locs, j, Y', e', hS, Nat.le_trans hk E.1, hZ, hown, hC.trans C1, N, hO.ext E, hx, r⟩ C1 E rfl Ea Ov (Arv.new A hn)).via st
theorem stoV {a y : Addr} {kc : ClassId} {ty : FieldType} {n : Int32} {vs : List Value} {dv : Value} {C : String} (A : Arv Z h a kc ty n vs dv) (O : Ovr Z kc C) (I : Ins Z h y C true) : Sto Z h a (.ref y) := by
  obtain ⟨cl, A1, A2, -⟩ := A; exact Sto.ofV A1 A2 O I
theorem Wk.stR (X : Wk p l e R s m args below meth c own Z a0 EL h0 T h vm cells slots) {a : Addr} {kc : ClassId} {C : String} {n : Int32} {vs : List Value} {dv : Value} (A : Arv Z h a kc (.object C) n vs dv) {v : Value} (F : Sto Z h a v) (hvr : fits (.object C) v = true) {j : Int32} {i : Nat} (hj0 : ¬ j < 0) (hj : j.toNatClampNeg = i) (hi : i < vs.length) (hin : i < n.toNatClampNeg)
    (hge : Z.heap.size ≤ a) (hg : g.method = m) {rest : List Value} (hs : g.stack = v :: .int j :: .ref a :: rest) (hd : decode c.code g.pc = .ok (.aastore, 1))
    (k : ∀ T' h', Wk p l e R s m args below meth c own Z a0 EL h0 T' h' vm cells slots → CHr Z EL vm h vm h' → Keep h h' [a] → Arv Z h' a kc (.object C) n (vs.set i v) dv → Gets p e below P (T'.setTop { g with pc := g.pc + 1, stack := rest })) : Gets p e below P (T.setTop g) := by
  obtain ⟨locs, j', Y, eT, hS, hk, hZ, hown, hC, N, hO, hx, r⟩ := X
  obtain ⟨cl, A1, A2, A3, A4, A5, A6⟩ := A
  obtain ⟨T', h', Y', e', W, st⟩ := RoadKit.stR Y hx hZ eT A1 (j := j) (fun q => q.elim hj0 (fun q => by rw [A3, hj] at q; omega)) rfl F hg hs hd
  have C1 : CHr Z EL vm h vm h' := CHr.wr W (Safe.arr hZ.alike A1 (by simp)) hC.1
  exact (k T' h' ⟨_, j', Y', e', hS, Nat.le_trans hk (Nat.le_of_eq W.size.symm), hZ, hown, hC.trans C1, Fr.snoc Y' N hge, hO.wr W hge, hx, r⟩ C1 (Keep.of_wr W) (Arv.set A1 A2 A3 A4 A5 A6 hvr W i hj hi)).via st
theorem Wk.copy (X : Wk p l e R s m args below meth c own Z a0 EL h0 T h vm cells slots) {index : Nat}
    (w1 : (Jvm.Cond.methodLink own index Jvm.Stand.acN).before a0 Z = true) (w2 : (Jvm.Cond.native Jvm.Stand.acN).before a0 Z = true) (w3 : (Jvm.Cond.static Jvm.Stand.acN).before a0 Z = true) (w4 : (Jvm.Cond.initialized "java/lang/System").before a0 Z = true)
    {a b : Addr} {k k' : ClassId} {ty ty' : FieldType} {z z' sp dp nn : Int32} {vs vd us : List Value} {dv dd : Value} (A : Arv Z h a k ty z vs dv) (B : Arv Z h b k' ty' z' vd dd) (hty : (ty = ty' ∧ refKind ty = false) ∨ (refKind ty = true ∧ refKind ty' = true ∧ StoL Z h b us))
    (h1 : ¬ sp < 0) (h2 : ¬ dp < 0) (h3 : ¬ nn < 0) (h4 : sp.toNatClampNeg + nn.toNatClampNeg ≤ z.toNatClampNeg) (h5 : dp.toNatClampNeg + nn.toNatClampNeg ≤ z'.toNatClampNeg)
    (hus : us = (List.range nn.toNatClampNeg).map fun i => vs.getD (sp.toNatClampNeg + i) dv) (hl : dp.toNatClampNeg + nn.toNatClampNeg ≤ vd.length) (ge : Z.heap.size ≤ b) (S : Safe Z EL vm h b)
    (hg : g.method = m) (hsize : g.locals.size = c.maxLocals) {rest : List Value} (hs : g.stack = .int nn :: .int dp :: .ref b :: .int sp :: .ref a :: rest) (hd : decode c.code g.pc = .ok (.invokestatic index, 3))
    (hf : 1 ≤ R.frames) {W : Nat} (hW : 2 * g.monitorRoom + (rest.map fun v => v.category).sum ≤ W) (hlo : W + (nativeFrameWords "java/lang/System" "arraycopy" 5 + 11) ≤ R.locals)
    (kk : ∀ T' h', Wk p l e R s m args below meth c own Z a0 EL h0 T' h' vm cells slots → CHr Z EL vm h vm h' → Keep h h' [b] → Arv Z h' b k' ty' z' (vd.take dp.toNatClampNeg ++ us ++ vd.drop (dp.toNatClampNeg + nn.toNatClampNeg)) dd → Gets p e below P (T'.setTop { g with pc := g.pc + 3, stack := rest })) : Gets p e below P (T.setTop g) := by
  obtain ⟨locs, j, Y, eT, hS, hk, hZ, hown, hC, N, hO, hx, r⟩ := X
  obtain ⟨T', h', L, Y', e', N', K, B', st⟩ := RoadKit.cpA Y hx hZ hown w1 w2 w3 w4 eT A B hty h1 h2 h3 h4 h5 hus hl N ge hg hsize hs hd hf hW hlo
  have C1 : CHr Z EL vm h vm h' := CHr.keep K (sfS S sf0) hC.1
  exact (kk T' h' ⟨L, j, Y', e', hS, Nat.le_trans hk K.1, hZ, hown, hC.trans C1, N', hO.keep K (allS ge all0), hx, r⟩ C1 K B').via st
/-- ldc of a String constant, what it holds not asked -/
theorem Wk.ldcO (X : Wk p l e R s m args below meth c own Z a0 EL h0 T h vm cells slots) {text : String} {index : Nat} (w : (Jvm.Cond.stringLink own index text).before a0 Z = true) (wS : ∀ a ∈ Bundle.stringAtoms, a.before a0 Z = true)
    (hg : g.method = m) (hd : decode c.code g.pc = .ok (.ldc index, 2)) {n : Nat} (hn : 4 * text.toList.length ≤ n) (hbig : n ≤ 536870912) (hc : cells + 2 ≤ R.cells) (hl : slots + (n + 4) ≤ R.slots)
    (k : ∀ T' h' vm' a, Wk p l e R s m args below meth c own Z a0 EL h0 T' h' vm' (cells + 2) (slots + (n + 4)) → CHr Z EL vm h vm' h' → Ext h h' → Gets p e below P (T'.setTop { g with pc := g.pc + 2, stack := .ref a :: g.stack })) : Gets p e below P (T.setTop g) := by
  obtain ⟨locs, j, Y, eT, hS, hk, hZ, hown, hC, N, hO, hx, hEL, r⟩ := X
  obtain ⟨a, T', h', k1, Y', e', E, hS', hk', hZ', hown', C1, -, st⟩ := RoadKit.ldcOH Y hx hZ hown w wS eT hS hk hEL hC.1 hg hd hn hbig hc hl
  exact (k T' h' T'.vm a ⟨locs, k1, Y', e', hS', hk', hZ', hown', hC.trans C1, N, hO.ext E, hx, hEL, r⟩ C1 E).via st
/-- ldc of a String constant that is read -/
theorem Wk.ldcC (X : Wk p l e R s m args below meth c own Z a0 EL h0 T h vm cells slots) {text : String} {index : Nat} (w : (Jvm.Cond.stringLink own index text).before a0 Z = true) (wS : ∀ a ∈ Bundle.stringAtoms, a.before a0 Z = true) (hmem : (own, index) ∈ EL)
    {vs : List Value} {z : Int32} (ht : (∀ c ∈ text.toList, c.toNat < 256) ∧ text.toList.map (fun c => Value.int (Jvm.Lit.byteI c.toNat.toUInt16)) = vs) (hz : ¬ z < 0) (hvl : z.toNatClampNeg = vs.length)
    (hg : g.method = m) (hd : decode c.code g.pc = .ok (.ldc index, 2)) {n : Nat} (hn : 4 * text.toList.length ≤ n) (hbig : n ≤ 536870912) (hc : cells + 2 ≤ R.cells) (hl : slots + (n + 4) ≤ R.slots)
    (k : ∀ T' h' vm' a b kb, Wk p l e R s m args below meth c own Z a0 EL h0 T' h' vm' (cells + 2) (slots + (n + 4)) → CHr Z EL vm h vm' h' → Ext h h' → Exa Z h' a "java/lang/String" → Fld Z h' a "java/lang/String" "coder" "B" (.int 0) → Fld Z h' a "java/lang/String" "value" "[B" (.ref b) → Arv Z h' b kb .byte z vs (.int 0) → (∀ x, Safe Z EL vm' h' x → x ≠ a ∧ x ≠ b) → Gets p e below P (T'.setTop { g with pc := g.pc + 2, stack := .ref a :: g.stack })) : Gets p e below P (T.setTop g) := by
  obtain ⟨locs, j, Y, eT, hS, hk, hZ, hown, hC, N, hO, hx, hEL, r⟩ := X
  obtain ⟨a, T', h', k1, b, kb, Y', e', E, hS', hk', hZ', hown', q1, q2, q3, q4, -, -, C1, -, q5, st⟩ := RoadKit.ldcCH Y hx hZ hown w wS eT hS hk hEL hmem hC.1 ht hz hvl hg hd hn hbig hc hl
  exact (k T' h' T'.vm a b kb ⟨locs, k1, Y', e', hS', hk', hZ', hown', hC.trans C1, N, hO.ext E, hx, hEL, r⟩ C1 E q1 q2 q3 q4 q5).via st
/-- who pays a call, in one shape -/
def Pay (l : Launch) (R : Room) (p : Program) (e : Env) (below : List Frame) (s : State) (args : Array Value) (y : MethodName) (len W : Nat) (Z : State) (EL : List (String × Nat)) (vm : Vm) (h : Heap) (as : Array Value) (rc rs : Nat) (Q : Option Value → Heap → Prop) : Prop :=
  BackS l R p e below (s.setVm vm) args y len W (fun A a => a = as ∧ A.U.heap = h ∧ A.cells + rc ≤ R.cells ∧ A.slots + rs ≤ R.slots)
    (fun A _ v B => ∃ L, (Q v B.U.heap ∧ Fr Z.heap.size L ∧ Old Z Z.heap.size B.U.heap) ∧ B.locs = A.locs ++ L ∧ B.cells = A.cells + rc ∧ B.slots = A.slots + rs ∧ CHr Z EL vm h B.U.vm B.U.heap)
theorem safe_later {x : Addr} (C : CHr Z EL vm h vm' h) (S : Safe Z EL vm h x) : Safe Z EL vm' h x := by
  by_cases q : x < h.size
  · exact C.safe q S
  · exact Safe.new (Nat.not_lt.mp q)
theorem Wk.payM (X : Wk p l e R s m args below meth c own Z a0 EL h0 T h vm cells slots) {y : MethodName} {bytes : ByteArray} {maxL : Nat} {ret : Option FieldType} {rm : Room} {sf : List Addr} {as : Array Value} {Q : Option Value → Heap → Prop} {len W : Nat} (M : Met l Z EL y bytes maxL ret [] rm sf as h Q) (hsf : ∀ x ∈ sf, Safe Z EL vm h x)
    (wc : (Jvm.Cond.code y bytes maxL ret).before a0 Z = true) (wz : (Jvm.Cond.initialized y.cls).before a0 Z = true) (hf : rm.frames + 1 ≤ R.frames) (hl : W + (maxL + 11) + rm.locals ≤ R.locals) : Pay l R p e below s args y len W Z EL vm h as rm.cells rm.slots Q := by
  have hZ := X.hZ
  have hEL := X.ew
  have H := X.chv
  exact BackS.of_freeW (bytes := bytes) (maxL := maxL) (ret := ret) (E := fun _ first o t L k n => k = rm.cells ∧ n = rm.slots ∧ (∃ v, o = .returned v ∧ (Q v t.heap ∧ Fr Z.heap.size L ∧ Old Z Z.heap.size t.heap)) ∧ CHr Z EL first.vm first.heap t.vm t.heap) M hf hl
    (fun m meth c A a Y hp => have hU : Z.Warmed39 A.U.vm := wtrans (s := s.setVm vm) hZ Y.warmed
      ⟨by show (Jvm.Cond.and _ .tt).before a A.U = true; rw [Cond.before_and, mv hU wc]; rfl, mv hU wc, mv hU wz, hp.2.2.1, hp.2.2.2⟩)
    (fun m meth c A a g mk Y hp => ⟨hp.1, wtrans (s := s.setVm vm) hZ Y.warmed, hp.2.1, (CHv.at Y hZ hEL H).1, fun x hx => safe_later (vm' := A.U.vm) (CHv.at Y hZ hEL H) (hsf x hx)⟩) (fun _ _ _ _ _ _ _ _ _ => trivial)
    (fun _ _ _ _ ⟨v, L, h1, h2, h3, h4⟩ => ⟨L, _, _, h4, rfl, rfl, ⟨v, h1, h2⟩, h3⟩)
    (fun m meth c A a g mk v t L k n Y hp _ _ ⟨e1, e2, ⟨v', e3, e4⟩, e5⟩ => by
      cases e3; subst e1 e2
      refine ⟨L, e4, rfl, rfl, rfl, (CHv.at Y hZ hEL H).trans ?_⟩
      rw [← hp.2.1]; exact e5)
/-- a narrow payer of the library's -/
theorem Wk.payN (X : Wk p l e R s m args below meth c own Z a0 EL h0 T h vm cells slots) {y : MethodName} {as : Array Value} {rc rs : Nat} {Qn : Option Value → Heap → List Loc → Prop} {Q : Option Value → Heap → Prop} {len W : Nat} {ws : List Addr}
    (hK : Back l R p e below (s.setVm vm) args y len W (fun A a => a = as ∧ A.U.heap = h ∧ A.cells + rc ≤ R.cells ∧ A.slots + rs ≤ R.slots) (fun A _ v B => ∃ L, Qn v B.U.heap L ∧ B.locs = A.locs ++ L ∧ B.cells = A.cells + rc ∧ B.slots = A.slots + rs))
    (hq : ∀ v u L, Qn v u L → Fr Z.heap.size L ∧ Keep h u ws ∧ Q v u) (hws : ∀ x ∈ ws, Z.heap.size ≤ x) (hsafe : ∀ x ∈ ws, Safe Z EL vm h x) : Pay l R p e below s args y len W Z EL vm h as rc rs Q := by
  intro m' meth' c' A g' ig mk a Y hg hsize hd hW hn hpre
  obtain ⟨v, B, Y', ⟨L, q1, q2, q3, q4⟩, hsteps⟩ := hK m' meth' c' A g' ig mk a Y hg hsize hd hW hn hpre
  obtain ⟨N, K, q5⟩ := hq _ _ _ q1
  have C1 : CHr Z EL vm h vm B.U.heap := CHr.keep K hsafe X.chv
  have C2 := CHv.at Y' X.hZ X.ew C1.1
  exact ⟨v, B, Y'.retabled Y'.warmed.wide, Y'.warmed.since _, by rw [hpre.2.1]; exact K.1, ⟨L, ⟨q5, N, X.old.keep K hws⟩, q2, q3, q4, C1.trans C2⟩, hsteps⟩
theorem Wk.after (X : Wk p l e R s m args below meth c own Z a0 EL h0 T h vm cells slots) {locs : List Loc} {j : Nat} (hS : s.Since vm j) (hk : j ≤ h.size) (hC : CHr Z EL s.vm h0 vm h) (N : Fr Z.heap.size locs) (hO : Old Z Z.heap.size h) (hown : vm.findClass own = some m.cls)
    {B : Pt} {L : List Loc} {rc rs : Nat} (Y : Stand p l e R ((s.setVm vm).setVm B.U.vm) m args below meth c B.U B.locs B.cells B.slots) (S : (s.setVm vm).Since B.U.vm B.U.heap.size) (hgr : h.size ≤ B.U.heap.size) (q2 : B.locs = locs ++ L) (q3 : B.cells = cells + rc) (q4 : B.slots = slots + rs) (NL : Fr Z.heap.size L) (OL : Old Z Z.heap.size B.U.heap) (C1 : CHr Z EL vm h B.U.vm B.U.heap) :
    Wk p l e R s m args below meth c own Z a0 EL h0 B.U B.U.heap B.U.vm (cells + rc) (slots + rs) := by
  refine ⟨locs ++ L, B.U.heap.size, ?_, rfl, hS.trans S (Nat.le_trans hk hgr), Nat.le_refl _, State.Warmed39.trans (t := s.setVm vm) X.hZ S.1, ?_, hC.trans C1, N.app NL, OL, X.hx, X.ew, ?_⟩
  · rw [← q2, ← q3, ← q4]; exact Y
  · rw [S.1.alike.findClass]; exact hown
  · obtain ⟨_, _, -, -, -, -, -, -, -, -, -, -, -, r⟩ := X; exact r
theorem Wk.callS (X : Wk p l e R s m args below meth c own Z a0 EL h0 T h vm cells slots) {index : Nat} {y : MethodName} {bytes : ByteArray} {maxL : Nat} {ret : Option FieldType} (w1 : (Jvm.Cond.methodLink own index y).before a0 Z = true) (w2 : (Jvm.Cond.static y).before a0 Z = true) (w3 : (Jvm.Cond.initialized y.cls).before a0 Z = true) (w4 : (Jvm.Cond.code y bytes maxL ret).before a0 Z = true)
    (hy : y.cls ≠ "java/lang/invoke/MethodHandle" ∧ y.cls ≠ "java/lang/invoke/VarHandle") {W rc rs : Nat} {as : Array Value} {Q : Option Value → Heap → Prop} (hK : Pay l R p e below s args y 3 W Z EL vm h as rc rs Q)
    (hg : g.method = m) (hsize : g.locals.size = c.maxLocals) {argsL rest : List Value} (hlen : ∀ sig, parseMethodDescriptor y.desc = some sig → argsL.length = sig.parameters.length) (hstack : g.stack = argsL.reverse ++ rest) (has : argsL.toArray = as) (hW : 2 * g.monitorRoom + (rest.map fun v => v.category).sum ≤ W)
    (hdg : decode c.code g.pc = .ok (.invokestatic index, 3)) (hc : cells + rc ≤ R.cells) (hs : slots + rs ≤ R.slots)
    (k : ∀ T' h' vm' v, Wk p l e R s m args below meth c own Z a0 EL h0 T' h' vm' (cells + rc) (slots + rs) → CHr Z EL vm h vm' h' → h.size ≤ h'.size → Q v h' → Gets p e below P (T'.setTop { g with pc := g.pc + 3, stack := v.toList ++ rest })) : Gets p e below P (T.setTop g) := by
  have X' := X
  obtain ⟨locs, j, Y, eT, hS, hk, hZ, hown, hC, N, hO, hx, r⟩ := X
  obtain ⟨v, vm₁, B, hW1, Y', S, hgr, ⟨L, ⟨q1, NL, OL⟩, q2, q3, q4, C1⟩, st⟩ := RoadKit.callSS Y hx hown (mv (s := s.setVm vm) hZ w1) (mv (s := s.setVm vm) hZ w2) (mv (s := s.setVm vm) hZ w3) (mv (s := s.setVm vm) hZ w4) hy hK hg hsize hlen hstack hW hdg (fun vm₁ _ => ⟨has, eT, hc, hs⟩)
  exact (k B.U B.U.heap B.U.vm v (X'.after hS hk hC N hO hown Y' S (eT ▸ hgr) q2 q3 q4 NL OL C1) C1 (eT ▸ hgr) q1).steps st
theorem Wk.callI (X : Wk p l e R s m args below meth c own Z a0 EL h0 T h vm cells slots) {index : Nat} {y : MethodName} {bytes : ByteArray} {maxL : Nat} (hy1 : y.name = "<init>") (w1 : (Jvm.Cond.methodLink own index y).before a0 Z = true) (w2 : (Jvm.Cond.instanceMethod y).before a0 Z = true) (w4 : (Jvm.Cond.code y bytes maxL none).before a0 Z = true)
    (hy : y.cls ≠ "java/lang/invoke/MethodHandle" ∧ y.cls ≠ "java/lang/invoke/VarHandle") {W rc rs : Nat} {as : Array Value} {Q : Option Value → Heap → Prop} (hK : Pay l R p e below s args y 3 W Z EL vm h as rc rs Q)
    (hg : g.method = m) (hsize : g.locals.size = c.maxLocals) {a : Addr} {argsL rest : List Value} (hlen : ∀ sig, parseMethodDescriptor y.desc = some sig → argsL.length = sig.parameters.length) (hstack : g.stack = argsL.reverse ++ .ref a :: rest) (has : (Value.ref a :: argsL).toArray = as) (hW : 2 * g.monitorRoom + (rest.map fun v => v.category).sum ≤ W)
    (hdg : decode c.code g.pc = .ok (.invokespecial index, 3)) (hc : cells + rc ≤ R.cells) (hs : slots + rs ≤ R.slots)
    (k : ∀ T' h' vm' v, Wk p l e R s m args below meth c own Z a0 EL h0 T' h' vm' (cells + rc) (slots + rs) → CHr Z EL vm h vm' h' → h.size ≤ h'.size → Q v h' → Gets p e below P (T'.setTop { g with pc := g.pc + 3, stack := v.toList ++ rest })) : Gets p e below P (T.setTop g) := by
  have X' := X
  obtain ⟨locs, j, Y, eT, hS, hk, hZ, hown, hC, N, hO, hx, r⟩ := X
  obtain ⟨v, vm₁, B, hW1, Y', S, hgr, ⟨L, ⟨q1, NL, OL⟩, q2, q3, q4, C1⟩, st⟩ := Y.specialBackS hx hy1 hown (mv (s := s.setVm vm) hZ w1) (mv (s := s.setVm vm) hZ w2) (mv (s := s.setVm vm) hZ w4) hy hK hg hsize (Steps.refl _) hlen hstack hW hdg (fun vm₁ _ => ⟨has, eT, hc, hs⟩)
  exact (k B.U B.U.heap B.U.vm v (X'.after hS hk hC N hO hown Y' S (eT ▸ hgr) q2 q3 q4 NL OL C1) C1 (eT ▸ hgr) q1).steps st
theorem Wk.callV (X : Wk p l e R s m args below meth c own Z a0 EL h0 T h vm cells slots) {C : String} {index : Nat} {y z : MethodName} (w1 : (Jvm.Cond.methodLink own index y).before a0 Z = true) (w2 : (Jvm.Cond.declares y).before a0 Z = true) (w3 : (Jvm.Cond.selects C y z).before a0 Z = true) (w4 : (Jvm.Cond.instanceMethod z).before a0 Z = true)
    (hnf : ∀ s' : State, Z.Warmed39 s'.vm → NotFace s' y)
    (hy : y.cls ≠ "java/lang/invoke/MethodHandle" ∧ y.cls ≠ "java/lang/invoke/VarHandle") {W rc rs : Nat} {as : Array Value} {Q : Option Value → Heap → Prop} (hK : Pay l R p e below s args z 3 W Z EL vm h as rc rs Q) {b : Addr} (E : Exa Z h b C)
    (hg : g.method = m) (hsize : g.locals.size = c.maxLocals) {argsL rest : List Value} (hlen : ∀ sig, parseMethodDescriptor y.desc = some sig → argsL.length = sig.parameters.length) (hstack : g.stack = argsL.reverse ++ .ref b :: rest) (has : (Value.ref b :: argsL).toArray = as) (hW : 2 * g.monitorRoom + (rest.map fun v => v.category).sum ≤ W)
    (hdg : decode c.code g.pc = .ok (.invokevirtual index, 3)) (hc : cells + rc ≤ R.cells) (hs : slots + rs ≤ R.slots)
    (k : ∀ T' h' vm' v, Wk p l e R s m args below meth c own Z a0 EL h0 T' h' vm' (cells + rc) (slots + rs) → CHr Z EL vm h vm' h' → h.size ≤ h'.size → Q v h' → Gets p e below P (T'.setTop { g with pc := g.pc + 3, stack := v.toList ++ rest })) : Gets p e below P (T.setTop g) := by
  have X' := X
  obtain ⟨locs, j, Y, eT, hS, hk, hZ, hown, hC, N, hO, hx, r⟩ := X
  obtain ⟨cq, kq, qa, qb, qc⟩ := RoadKit.isOf (s := s.setVm vm) hZ eT E
  obtain ⟨v, vm₁, B, hW1, Y', S, hgr, ⟨L, ⟨q1, NL, OL⟩, q2, q3, q4, C1⟩, st⟩ := Y.virtualBackS hx hown (mv (s := s.setVm vm) hZ w1) (mv (s := s.setVm vm) hZ w2) (hnf (s.setVm vm) hZ) (mv (s := s.setVm vm) hZ w3) (mv (s := s.setVm vm) hZ w4) hy hK qa qc hg hsize (Steps.refl _) hlen hstack hW hdg (fun vm₁ _ => ⟨has, eT, hc, hs⟩)
  exact (k B.U B.U.heap B.U.vm v (X'.after hS hk hC N hO hown Y' S (eT ▸ hgr) q2 q3 q4 NL OL C1) C1 (eT ▸ hgr) q1).steps st
theorem Wk.callP (X : Wk p l e R s m args below meth c own Z a0 EL h0 T h vm cells slots) {C : String} {index : Nat} {y : MethodName} {bytes : ByteArray} {maxL : Nat} {ret : Option FieldType} (w1 : (Jvm.Cond.methodLink own index y).before a0 Z = true) (w2 : (Jvm.Cond.instanceMethod y).before a0 Z = true) (w3 : (Jvm.Cond.selects y.cls y y).before a0 Z = true) (w4 : (Jvm.Cond.privateMethod y).before a0 Z = true) (w5 : (Jvm.Cond.code y bytes maxL ret).before a0 Z = true)
    (hy : y.cls ≠ "java/lang/invoke/MethodHandle" ∧ y.cls ≠ "java/lang/invoke/VarHandle") {W rc rs : Nat} {as : Array Value} {Q : Option Value → Heap → Prop} (hK : Pay l R p e below s args y 3 W Z EL vm h as rc rs Q) {b : Addr} (E : Exa Z h b C)
    (hg : g.method = m) (hsize : g.locals.size = c.maxLocals) {argsL rest : List Value} (hlen : ∀ sig, parseMethodDescriptor y.desc = some sig → argsL.length = sig.parameters.length) (hstack : g.stack = argsL.reverse ++ .ref b :: rest) (has : (Value.ref b :: argsL).toArray = as) (hW : 2 * g.monitorRoom + (rest.map fun v => v.category).sum ≤ W)
    (hdg : decode c.code g.pc = .ok (.invokevirtual index, 3)) (hc : cells + rc ≤ R.cells) (hs : slots + rs ≤ R.slots)
    (k : ∀ T' h' vm' v, Wk p l e R s m args below meth c own Z a0 EL h0 T' h' vm' (cells + rc) (slots + rs) → CHr Z EL vm h vm' h' → h.size ≤ h'.size → Q v h' → Gets p e below P (T'.setTop { g with pc := g.pc + 3, stack := v.toList ++ rest })) : Gets p e below P (T.setTop g) := by
  have X' := X
  obtain ⟨locs, j, Y, eT, hS, hk, hZ, hown, hC, N, hO, hx, r⟩ := X
  obtain ⟨cell, hcell, hobj⟩ := Exa.cell E
  obtain ⟨v, vm₁, B, hW1, Y', S, hgr, ⟨L, ⟨q1, NL, OL⟩, q2, q3, q4, C1⟩, st⟩ := Y.privateBackS hx hown (mv (s := s.setVm vm) hZ w1) (mv (s := s.setVm vm) hZ w2) (mv (s := s.setVm vm) hZ w3) (Cond.privateMethod_at (mvP (s := s.setVm vm) hZ w4 (args := #[]))) (mv (s := s.setVm vm) hZ w5) hy hK hg hsize (Steps.refl _) (a := b) (by rw [eT]; exact hcell) hobj hlen hstack hW hdg (fun vm₁ _ => ⟨has, eT, hc, hs⟩)
  exact (k B.U B.U.heap B.U.vm v (X'.after hS hk hC N hO hown Y' S (eT ▸ hgr) q2 q3 q4 NL OL C1) C1 (eT ▸ hgr) q1).steps st
theorem nfs {y z : MethodName} {C : String} (hc : y = z) (w : (Jvm.Cond.selects C y z).before a0 Z = true) : ∀ s' : State, Z.Warmed39 s'.vm → NotFace s' y := fun s' hZ => by
  subst hc; exact notFace_of_selects (args := #[]) (mv (s := s') hZ w)
theorem Wk.callF (X : Wk p l e R s m args below meth c own Z a0 EL h0 T h vm cells slots) {C : String} {index count : Nat} {xi y : MethodName} (w1 : (Jvm.Cond.methodLink own index xi).before a0 Z = true) (w2 : (Jvm.Cond.declares xi).before a0 Z = true) (w3 : (Jvm.Cond.interfaceMethod xi.cls xi.cls xi.name xi.desc).before a0 Z = true) (e3 : ((Jvm.Cond.interfaceMethod xi.cls xi.cls xi.name xi.desc).onTables && (Jvm.Cond.interfaceMethod xi.cls xi.cls xi.name xi.desc).keepsFace) = true) (w4 : (Jvm.Cond.selects C xi y).before a0 Z = true) (w5 : (Jvm.Cond.instanceMethod y).before a0 Z = true)
    (w6 : (Jvm.Cond.publicMethod y).before a0 Z = true) (w7 : (Jvm.Cond.unhidden C xi.name xi.desc).before a0 Z = true) (w8 : (Jvm.Cond.castable C xi.cls).before a0 Z = true)
    (hy : xi.cls ≠ "java/lang/invoke/MethodHandle" ∧ xi.cls ≠ "java/lang/invoke/VarHandle") {W rc rs : Nat} {as : Array Value} {Q : Option Value → Heap → Prop} (hK : Pay l R p e below s args y 5 W Z EL vm h as rc rs Q) {b : Addr} (E : Exa Z h b C)
    (hg : g.method = m) (hsize : g.locals.size = c.maxLocals) {argsL rest : List Value} (hlen : ∀ sig, parseMethodDescriptor xi.desc = some sig → argsL.length = sig.parameters.length) (hstack : g.stack = argsL.reverse ++ .ref b :: rest) (has : (Value.ref b :: argsL).toArray = as) (hW : 2 * g.monitorRoom + (rest.map fun v => v.category).sum ≤ W)
    (hdg : decode c.code g.pc = .ok (.invokeinterface index count, 5)) (hc : cells + rc ≤ R.cells) (hs : slots + rs ≤ R.slots)
    (k : ∀ T' h' vm' v, Wk p l e R s m args below meth c own Z a0 EL h0 T' h' vm' (cells + rc) (slots + rs) → CHr Z EL vm h vm' h' → h.size ≤ h'.size → Q v h' → Gets p e below P (T'.setTop { g with pc := g.pc + 5, stack := v.toList ++ rest })) : Gets p e below P (T.setTop g) := by
  have X' := X
  obtain ⟨locs, j, Y, eT, hS, hk, hZ, hown, hC, N, hO, hx, r⟩ := X
  obtain ⟨cq, kq, qa, qb, qc⟩ := RoadKit.isOf (s := s.setVm vm) hZ eT E
  obtain ⟨v, vm₁, B, hW1, Y', S, hgr, ⟨L, ⟨q1, NL, OL⟩, q2, q3, q4, C1⟩, st⟩ := Y.interfaceBackS hx hown (mv (s := s.setVm vm) hZ w1) (mv (s := s.setVm vm) hZ w2) (mv (s := s.setVm vm) hZ w3 e3) (mv (s := s.setVm vm) hZ w4) (mv (s := s.setVm vm) hZ w5) (mv (s := s.setVm vm) hZ w6) (mv (s := s.setVm vm) hZ w7) (mv (s := s.setVm vm) hZ w8) hy hK qa qb qc hg hsize (Steps.refl _) hlen hstack hW hdg (fun vm₁ _ => ⟨has, eT, hc, hs⟩)
  exact (k B.U B.U.heap B.U.vm v (X'.after hS hk hC N hO hown Y' S (eT ▸ hgr) q2 q3 q4 NL OL C1) C1 (eT ▸ hgr) q1).steps st
theorem Wk.done (X : Wk p l e R s m args below meth c own Z a0 EL h0 T h vm cells slots) {Q : Option Value → Heap → Prop} {rm : Room} {v : Option Value} (hv : meth.sig.returnType = none → v = none) (hc : cells ≤ rm.cells) (hs : slots ≤ rm.slots) (q : Q v h)
    (st : ∀ fs, Stand p l e R (s.setVm vm) m args below meth c T [] cells slots ∨ True → (∀ (f : JFrame) (acts : List Action), f.method = m → f.locked = none → f.entered = [] → (doReturn e (T.setTop f) acts v).1 = T.setFrames fs) → Steps p.tables e below (T.setTop g) (T.setFrames fs)) : Gets p e below (Out s Z EL rm Q) (T.setTop g) := by
  obtain ⟨locs, j, Y, eT, hS, hk, hZ, hown, hC, N, hO, hx, hEL, hh, hlk⟩ := X
  obtain ⟨fs, hr, hrun, hended, hq⟩ := Y.leaveW hS (by rw [eT]; exact hk) (v := v) hv
  refine ⟨_, _, st fs (Or.inr trivial) hr, hrun, hended, v, locs, rfl, ⟨?_, N, ?_⟩, ?_, ?_⟩
  · show Q v T.heap; rw [eT]; exact q
  · show Old Z Z.heap.size T.heap; rw [eT]; exact hO
  · show CHr Z EL s.vm s.heap T.vm T.heap
    rw [hh, eT]
    exact hC.trans (CHv.at Y hZ hEL hC.1)
  · obtain ⟨r1, r2, r3, r4⟩ := hq
    exact ⟨r1, r2, r3, r4.mono hc hs⟩
theorem Wk.retV (X : Wk p l e R s m args below meth c own Z a0 EL h0 T h vm cells slots) {Q : Option Value → Heap → Prop} {rm : Room} (hret : meth.sig.returnType = none) {pc : Nat} {Ls : Array Slot} (hd : decode c.code pc = .ok (.return_, 1)) (hc : cells ≤ rm.cells) (hs : slots ≤ rm.slots) (q : Q none h) : Gets p e below (Out s Z EL rm Q) (T.setTop (mkF m pc Ls [])) := by
  have X' := X
  obtain ⟨locs, j, Y, -⟩ := X'
  exact X.done (fun _ => rfl) hc hs q fun fs _ hr => Y.returnOut X.hx hret hd hr
theorem Wk.ret (X : Wk p l e R s m args below meth c own Z a0 EL h0 T h vm cells slots) {Q : Option Value → Heap → Prop} {rm : Room} {t : FieldType} {w : Value} {i : Instr} (hret : meth.sig.returnType = some t) {pc : Nat} {Ls : Array Slot} {rest : List Value} (hn : narrow t w = w)
    (hi : (i = .ireturn ∧ (t = .int ∨ t = .boolean ∨ t = .byte ∨ t = .char ∨ t = .short) ∧ ∃ z, w = .int z) ∨ (i = .lreturn ∧ t = .long ∧ ∃ z, w = .long z) ∨ (i = .dreturn ∧ t = .double ∧ ∃ z, w = .double z) ∨ (i = .freturn ∧ t = .float ∧ ∃ z, w = .float z) ∨ (i = .areturn ∧ t.isReference = true ∧ w.isRef = true))
    (hd : decode c.code pc = .ok (i, 1)) (hc : cells ≤ rm.cells) (hs : slots ≤ rm.slots) (q : Q (some w) h) : Gets p e below (Out s Z EL rm Q) (T.setTop (mkF m pc Ls (w :: rest))) := by
  have X' := X
  obtain ⟨locs, j, Y, -⟩ := X'
  exact X.done (fun z => by rw [hret] at z; cases z) hc hs q fun fs _ hr => RoadKit.retOut Y X.hx hret hn hi hd hr
theorem Wk.retA (X : Wk p l e R s m args below meth c own Z a0 EL h0 T h vm cells slots) {Q : Option Value → Heap → Prop} {rm : Room} {t : FieldType} {w : Value} (hret : meth.sig.returnType = some t) {pc : Nat} {Ls : Array Slot} {rest : List Value} (hn : narrow t w = w) (ht : t.isReference = true) (hw : w.isRef = true)
    (hd : decode c.code pc = .ok (.areturn, 1)) (hc : cells ≤ rm.cells) (hs : slots ≤ rm.slots) (q : Q (some w) h) : Gets p e below (Out s Z EL rm Q) (T.setTop (mkF m pc Ls (w :: rest))) :=
  X.ret hret hn (Or.inr (Or.inr (Or.inr (Or.inr ⟨rfl, ht, hw⟩)))) hd hc hs q
theorem Wk.retI (X : Wk p l e R s m args below meth c own Z a0 EL h0 T h vm cells slots) {Q : Option Value → Heap → Prop} {rm : Room} {t : FieldType} {x : Int32} (hret : meth.sig.returnType = some t) {pc : Nat} {Ls : Array Slot} {rest : List Value} (hn : narrow t (.int x) = .int x) (ht : t = .int ∨ t = .boolean ∨ t = .byte ∨ t = .char ∨ t = .short)
    (hd : decode c.code pc = .ok (.ireturn, 1)) (hc : cells ≤ rm.cells) (hs : slots ≤ rm.slots) (q : Q (some (.int x)) h) : Gets p e below (Out s Z EL rm Q) (T.setTop (mkF m pc Ls (.int x :: rest))) :=
  X.ret hret hn (Or.inl ⟨rfl, ht, x, rfl⟩) hd hc hs q
variable {a b : Addr} {k : ClassId} {cs : List Int32} {ws : List Addr}
/-- a Latin-1 String at a, its bytes at b, spelling cs -/
def Str (Z : State) (h : Heap) (a b : Addr) (k : ClassId) (cs : List Int32) : Prop := Exa Z h a "java/lang/String" ∧ Fld Z h a "java/lang/String" "coder" "B" (.int (0 : Int32)) ∧ Fld Z h a "java/lang/String" "value" "[B" (.ref b) ∧ Arv Z h b k .byte (Int32.ofNat cs.length) ((cs.map fun c => c.toInt8.toInt32).map Value.int) (.int (0 : Int32)) ∧ (∀ c ∈ cs, ¬ c < 0 ∧ ¬ (255 : Int32) < c) ∧ cs.length ≤ 4000
theorem Str.ext (F : Str Z h a b k cs) (E : Ext h h') : Str Z h' a b k cs := ⟨F.1.ext E, F.2.1.ext E, F.2.2.1.ext E, F.2.2.2.1.ext E, F.2.2.2.2⟩
theorem Str.keep (F : Str Z h a b k cs) (K : Keep h h' ws) (q : a ∉ ws) (r : b ∉ ws) : Str Z h' a b k cs := ⟨F.1.keep K, F.2.1.keep K q, F.2.2.1.keep K q, F.2.2.2.1.keep K r, F.2.2.2.2⟩
theorem Str.lt (F : Str Z h a b k cs) : a < h.size := F.1.lt
theorem Str.lb (F : Str Z h a b k cs) : b < h.size := F.2.2.2.1.lt
end Base
section Vals
variable {tb : Tables} [Ours tb] {e : Env} {below : List Frame} {T target : State} {m : MethodId} {c : Code} {g : JFrame}
theorem i2cV (h : At T m c below) (hx : tb.exec = Jvm.exec) (hg : g.method = m) {x v : Int32} {rest : List Value} (hd : decode c.code g.pc = .ok (.i2c, 1)) (hs : g.stack = .int x :: rest) (hv : x.toUInt32.toUInt16.toUInt32.toInt32 = v)
    (hr : Steps tb e below (T.setTop { g with pc := g.pc + 1, stack := .int v :: rest }) target) : Steps tb e below (T.setTop g) target := by subst hv; exact XS.i2c h hx hg hd hs hr
theorem iincV (h : At T m c below) (hx : tb.exec = Jvm.exec) (hg : g.method = m) {k : Nat} {cst : Int} {x v : Int32} {l' : Array Slot} (hd : decode c.code g.pc = .ok (.iinc k cst, 3)) (hl : g.locals[k]? = some (.val (.int x))) (hv : x + Int32.ofInt cst = v) (hl' : storeLocals g.locals k (.int v) = some l')
    (hr : Steps tb e below (T.setTop { g with pc := g.pc + 3, locals := l' }) target) : Steps tb e below (T.setTop g) target := by subst hv; exact XS.iinc h hx hg hd hl hl' hr
theorem iaddV (h : At T m c below) (hx : tb.exec = Jvm.exec) (hg : g.method = m) {x y v : Int32} {rest : List Value} (hd : decode c.code g.pc = .ok (.iadd, 1)) (hs : g.stack = .int y :: .int x :: rest) (hv : x + y = v)
    (hr : Steps tb e below (T.setTop { g with pc := g.pc + 1, stack := .int v :: rest }) target) : Steps tb e below (T.setTop g) target := by subst hv; exact XS.iadd h hx hg hd hs hr
theorem isubV (h : At T m c below) (hx : tb.exec = Jvm.exec) (hg : g.method = m) {x y v : Int32} {rest : List Value} (hd : decode c.code g.pc = .ok (.isub, 1)) (hs : g.stack = .int y :: .int x :: rest) (hv : x - y = v)
    (hr : Steps tb e below (T.setTop { g with pc := g.pc + 1, stack := .int v :: rest }) target) : Steps tb e below (T.setTop g) target := by subst hv; exact XS.isub h hx hg hd hs hr
theorem iremV (h : At T m c below) (hx : tb.exec = Jvm.exec) (hg : g.method = m) {x y : Int32} {rest : List Value} (hd : decode c.code g.pc = .ok (.irem, 1)) (hs : g.stack = .int y :: .int x :: rest) (hy : y ≠ 0)
    (hr : Steps tb e below (T.setTop { g with pc := g.pc + 1, stack := .int (x % y) :: rest }) target) : Steps tb e below (T.setTop g) target := by
  have q : x - x / y * y = x % y := irem_eq_mod x y
  exact XS.irem h hx hg hd hs hy (by rw [q]; exact hr)
/-- (char) of an int -/
def i2c (x : Int32) : Int32 := x.toUInt32.toUInt16.toUInt32.toInt32
theorem i2c_in {x : Int32} (h0 : ¬ x < 0) (h1 : ¬ (65535 : Int32) < x) : x.toUInt32.toUInt16.toUInt32.toInt32 = x := by
  have q := c_i2c x
  apply Int32.toInt_inj.mp
  have e0 : (0 : Int32).toInt = 0 := by decide
  have e1 : (65535 : Int32).toInt = 65535 := by decide
  rw [Int32.lt_iff_toInt_lt, e0] at h0
  rw [Int32.lt_iff_toInt_lt, e1] at h1
  omega
theorem m255 (x : Int32) : ¬ (x &&& (255 : Int32)) < 0 ∧ ¬ (255 : Int32) < (x &&& (255 : Int32)) := by
  have q := c_and x (255 : Int32) (by decide)
  have e0 : (0 : Int32).toInt = 0 := by decide
  have e1 : (255 : Int32).toInt = 255 := by decide
  constructor
  · rw [Int32.lt_iff_toInt_lt, e0]; omega
  · rw [Int32.lt_iff_toInt_lt, e1]; rw [e1] at q; omega
theorem lt_of {a b c : Int32} (h : ¬ a < b) (hb : b.toInt ≤ c.toInt) : True := trivial
theorem i2c_m255 (x : Int32) : (x &&& (255 : Int32)).toUInt32.toUInt16.toUInt32.toInt32 = x &&& (255 : Int32) := i2c_in (m255 x).1 fun q => (m255 x).2 (by
  have e1 : (255 : Int32).toInt = 255 := by decide
  have e2 : (65535 : Int32).toInt = 65535 := by decide
  rw [Int32.lt_iff_toInt_lt] at q ⊢; omega)
theorem i2c_i2c (x : Int32) : (i2c x).toUInt32.toUInt16.toUInt32.toInt32 = i2c x := by
  have q := c_i2c x
  have e0 : (0 : Int32).toInt = 0 := by decide
  have e1 : (65535 : Int32).toInt = 65535 := by decide
  refine i2c_in ?_ ?_
  · rw [Int32.lt_iff_toInt_lt, e0]; unfold i2c; omega
  · rw [Int32.lt_iff_toInt_lt, e1]; unfold i2c; omega
theorem nar_b (x : Int32) : nar .byte x.toInt8.toInt32 = x.toInt8.toInt32 := by simp [nar]
theorem allI {P : Int32 → Prop} {y : Int32} {L : List Int32} (q : P y) (r : ∀ x ∈ L, P x) : ∀ x ∈ y :: L, P x := fun x z => (List.mem_cons.mp z).elim (fun u => u ▸ q) (r x)
theorem allN {P : Int32 → Prop} : ∀ x ∈ ([] : List Int32), P x := fun _ q => nomatch q
end Vals
end Jvm.Ow

/- laws to paste: Road.backV (cut by pick.py; bodies as the Statement names them) -/
namespace Jvm.Pilot.@@N@@
namespace StrChars
open Jvm Sem ClassFile Op Lib Jvm.Stand Jvm.Free.XT Jvm.Free.ALB Jvm.Free.JM Jvm.Free
open Jvm.Lib.Cold (StaticIs)
/-- a char array whose places are chars -/
def Ch (a : Addr) (A : Cell) (U : State) : Prop := Arr .char a A U ∧ Typed .char A
theorem Ch.mv {a : Addr} {A : Cell} {U U' : State} (h : Ch a A U) (hal : U.vm.Alike U'.vm) (hh : U'.heap = U.heap) : Ch a A U' := ⟨h.1.mv hal hh, h.2⟩
theorem Ch.keep {a : Addr} {A : Cell} {U U' : State} (h : Ch a A U) (hal : U.vm.Alike U'.vm) (hk : U'.heap[a]? = some A) : Ch a A U' := ⟨h.1.keep hal hk, h.2⟩
/-- what place i of a char[]'s cell holds -/
def cv (A : Cell) (i : Nat) : Int32 := match A.slots[i]? with | some (.int x) => x | _ => 0
theorem Ch.get {a : Addr} {A : Cell} {U : State} (h : Ch a A U) {i : Nat} (hi : i < A.slots.size) : A.slots[i]? = some (.int (cv A i)) := by
  have e := Array.getElem?_eq_getElem hi
  have f := h.2 i _ e
  unfold cv; rw [e]
  generalize A.slots[i] = v at f
  cases v <;> simp [fits] at f ⊢
/-- the byte that i2b leaves of a char -/
def lo8 (x : Int32) : Int32 := x.toInt8.toInt32
theorem fits_lo8 (y : Int32) : fits .byte (.int (lo8 y)) = true := by
  have h1 := y.toInt8.le_toInt
  have h2 := y.toInt8.toInt_lt
  simp only [lo8, fits, Bool.and_eq_true, decide_eq_true_eq, Int32.le_iff_toInt_le, Int8.toInt_toInt32, show (-128 : Int32).toInt = -128 from by decide, show (127 : Int32).toInt = 127 from by decide]
  omega
/-- A' is A but that each place j of lo .. hi - 1 holds f j -/
def Laid (A A' : Cell) (lo hi : Nat) (f : Nat → Value) : Prop := A'.cls = A.cls ∧ A'.vm = A.vm ∧ A'.slots.size = A.slots.size ∧ ∀ i, A'.slots[i]? = if lo ≤ i ∧ i < hi then some (f i) else A.slots[i]?
theorem Laid.zero (A : Cell) (lo : Nat) (f : Nat → Value) : Laid A A lo (lo + 0) f := ⟨rfl, rfl, rfl, fun i => by rw [if_neg (by omega)]⟩
theorem Laid.step {A Ak : Cell} {lo k : Nat} {f : Nat → Value} {v : Value} (h : Laid A Ak lo k f) (hlo : lo ≤ k) (hk : k < Ak.slots.size) (hv : v = f k) : Laid A (Ak.setSlot k v) lo (k + 1) f := by
  refine ⟨h.1, h.2.1, by simpa [Cell.setSlot] using h.2.2.1, fun i => ?_⟩
  by_cases e : k = i
  · subst e; rw [Cell.slots_setSlot_self v hk, if_pos (by omega), hv]
  · rw [Cell.slots_setSlot_ne v e, h.2.2.2 i]
    by_cases q : lo ≤ i ∧ i < k
    · rw [if_pos q, if_pos (by omega)]
    · rw [if_neg q, if_neg (by omega)]
def U16 : String := "java/lang/StringUTF16"
namespace Cmp5
def yN : MethodName := ⟨"java/lang/StringUTF16", "compress", "([CI[BII)I"⟩
abbrev yB : ByteArray := jdk_52_method_21_code
theorem d0 : decode yB 0 = .ok (.iconst 0, 1) := by decide +kernel
theorem d1 : decode yB 1 = .ok (.istore 5, 2) := by decide +kernel
theorem d3 : decode yB 3 = .ok (.iload 5, 2) := by decide +kernel
theorem d5 : decode yB 5 = .ok (.iload 4, 2) := by decide +kernel
theorem d7 : decode yB 7 = .ok (.if_icmp (.ge) 37, 3) := by decide +kernel
theorem d10 : decode yB 10 = .ok (.aload_n 0, 1) := by decide +kernel
theorem d11 : decode yB 11 = .ok (.iload_n 1, 1) := by decide +kernel
theorem d12 : decode yB 12 = .ok (.caload, 1) := by decide +kernel
theorem d13 : decode yB 13 = .ok (.istore 6, 2) := by decide +kernel
theorem d15 : decode yB 15 = .ok (.iload 6, 2) := by decide +kernel
theorem d17 : decode yB 17 = .ok (.sipush 255, 3) := by decide +kernel
theorem d20 : decode yB 20 = .ok (.if_icmp (.le) 6, 3) := by decide +kernel
theorem d26 : decode yB 26 = .ok (.aload_n 2, 1) := by decide +kernel
theorem d27 : decode yB 27 = .ok (.iload_n 3, 1) := by decide +kernel
theorem d28 : decode yB 28 = .ok (.iload 6, 2) := by decide +kernel
theorem d30 : decode yB 30 = .ok (.i2b, 1) := by decide +kernel
theorem d31 : decode yB 31 = .ok (.bastore, 1) := by decide +kernel
theorem d32 : decode yB 32 = .ok (.iinc 1 1, 3) := by decide +kernel
theorem d35 : decode yB 35 = .ok (.iinc 3 1, 3) := by decide +kernel
theorem d38 : decode yB 38 = .ok (.iinc 5 1, 3) := by decide +kernel
theorem d41 : decode yB 41 = .ok (.goto (-38), 3) := by decide +kernel
theorem d44 : decode yB 44 = .ok (.iload 4, 2) := by decide +kernel
theorem d46 : decode yB 46 = .ok (.ireturn, 1) := by decide +kernel
def site : List Cond := []
def tab : Cond := tabOf yN yB 7 (some .int) site
def P (b : Addr) (A : Cell) (d : Addr) (B : Cell) (o q len : Nat) (args : Array Value) (s : State) : Prop := args = #[.ref b, .int (Int32.ofNat o), .ref d, .int (Int32.ofNat q), .int (Int32.ofNat len)] ∧ Ch b A s ∧ Arr .byte d B s ∧ b ≠ d ∧ o + len ≤ A.slots.size ∧ q + len ≤ B.slots.size ∧ ∀ i, i < len → ¬ 255 < cv A (o + i)
def E (b : Addr) (A : Cell) (d : Addr) (B : Cell) (o q len : Nat) (r : Option Value) (s u : State) : Prop := r = some (.int (Int32.ofNat len)) ∧ ∃ B', Put d B' s u ∧ Laid B B' q (q + len) (fun j => Value.int (lo8 (cv A (o + (j - q)))))
/-- no char of the range above 255: len; the places written hold each char's low byte -/
theorem law (l : Launch) (b : Addr) (A : Cell) (d : Addr) (B : Cell) (o q len : Nat) : Law l yN 5 5 0 0 yB 7 (some .int) site (P b A d B o q len) (E b A d B o q len) (copyLocs d q len) 0 0 := by
  refine Law.of_walk (plainFor_of_name (by decide +kernel)) (by decide +kernel) (by decide +kernel) (by decide) (fun _ _ h => by rw [h.1]; rfl) (fun _ U U' hal hh h => ⟨h.1, h.2.1.mv hal hh, h.2.2.1.mv hal hh, h.2.2.2⟩) (fun r U U' V V' h1 hal h2 h => ⟨h.1, h.2.elim fun B' q => ⟨B', q.1.mv h1 h2, q.2⟩⟩) ?_
  intro p e s m args below meth c s₁ X0 hexec hbytes hml hret hlk hnm hown hh0 W hP
  obtain ⟨rfl, hA, hB, hne, l1, l2, hp⟩ := hP
  have c1 : Steps p.tables e below (s₁.setTop (entryFrame m #[.ref b, .int (Int32.ofNat o), .ref d, .int (Int32.ofNat q), .int (Int32.ofNat len)] 7)) (s₁.setTop (mkF m 0 #[.val (.ref b), .val (.int (Int32.ofNat o)), .val (.ref d), .val (.int (Int32.ofNat q)), .val (.int (Int32.ofNat len)), .unset, .unset] [])) := entry rfl
  have hA0 := hA.1.mv X0.warmed.alike hh0
  have hB0 := hB.mv X0.warmed.alike hh0
  have a31 := hA.1.2.2.2
  have c2 : Steps p.tables e below (s₁.setTop (entryFrame m #[.ref b, .int (Int32.ofNat o), .ref d, .int (Int32.ofNat q), .int (Int32.ofNat len)] 7)) (s₁.setTop (mkF m 3 #[.val (.ref b), .val (.int (Int32.ofNat o)), .val (.ref d), .val (.int (Int32.ofNat q)), .val (.int (Int32.ofNat len)), .val (.int 0), .unset] [])) := c1.trans (by
    refine iconstV X0.here hexec rfl 0 (hb hbytes d0) (by decide) ?_
    refine XS.istore X0.here hexec rfl (hb hbytes d1) rfl rfl ?_
    exact Steps.refl _)
  have loop : ∀ (r i : Nat), i + r = len → ∀ (z : Slot), (z = .unset ∨ ∃ w, z = .val w ∧ w.category = 1) → ∀ (Tl : State) (Bk : Cell), Stand p l e { frames := 0, locals := 0, cells := 0, slots := 0 } s m #[.ref b, .int (Int32.ofNat o), .ref d, .int (Int32.ofNat q), .int (Int32.ofNat len)] below meth c Tl ([] ++ copyLocs d q i) 0 0 → Put d Bk s₁ Tl → Laid B Bk q (q + i) (fun j => Value.int (lo8 (cv A (o + (j - q))))) →
      Steps p.tables e below (s₁.setTop (entryFrame m #[.ref b, .int (Int32.ofNat o), .ref d, .int (Int32.ofNat q), .int (Int32.ofNat len)] 7)) (Tl.setTop (mkF m 3 #[.val (.ref b), .val (.int (Int32.ofNat (o + i))), .val (.ref d), .val (.int (Int32.ofNat (q + i))), .val (.int (Int32.ofNat len)), .val (.int (Int32.ofNat i)), z] [])) → ∃ (T' : State) (B' : Cell) (z' : Slot), Stand p l e { frames := 0, locals := 0, cells := 0, slots := 0 } s m #[.ref b, .int (Int32.ofNat o), .ref d, .int (Int32.ofNat q), .int (Int32.ofNat len)] below meth c T' ([] ++ copyLocs d q len) 0 0 ∧ Put d B' s₁ T' ∧ Laid B B' q (q + len) (fun j => Value.int (lo8 (cv A (o + (j - q))))) ∧
      Steps p.tables e below (s₁.setTop (entryFrame m #[.ref b, .int (Int32.ofNat o), .ref d, .int (Int32.ofNat q), .int (Int32.ofNat len)] 7)) (T'.setTop (mkF m 3 #[.val (.ref b), .val (.int (Int32.ofNat (o + len))), .val (.ref d), .val (.int (Int32.ofNat (q + len))), .val (.int (Int32.ofNat len)), .val (.int (Int32.ofNat len)), z'] [])) := by
    intro r
    induction r with
    | zero =>
      intro i hi z hz Tl Bk Xl pl fl cl
      have hil : i = len := by omega
      rw [hil] at Xl fl cl
      exact ⟨Tl, Bk, z, Xl, pl, fl, cl⟩
    | succ r ih =>
      intro i hi z hz Tl Bk Xl pl fl cl
      have all := X0.warmed.alike.symm.trans Xl.warmed.alike
      have hAl := hA0.keep all (pl.other hne hA0.1)
      have hBk := hB0.like all pl.1 fl.1 fl.2.1 fl.2.2.1
      have hlt : q + i < Bk.slots.size := by rw [fl.2.2.1]; omega
      have c3 : Steps p.tables e below (s₁.setTop (entryFrame m #[.ref b, .int (Int32.ofNat o), .ref d, .int (Int32.ofNat q), .int (Int32.ofNat len)] 7)) (Tl.setTop (mkF m 12 #[.val (.ref b), .val (.int (Int32.ofNat (o + i))), .val (.ref d), .val (.int (Int32.ofNat (q + i))), .val (.int (Int32.ofNat len)), .val (.int (Int32.ofNat i)), z] [.int (Int32.ofNat (o + i)), .ref b])) := cl.trans (by
        refine XS.iload Xl.here hexec rfl (hb hbytes d3) rfl ?_
        refine XS.iload Xl.here hexec rfl (hb hbytes d5) rfl ?_
        refine XS.icmpNo Xl.here hexec rfl (hb hbytes d7) rfl (ii_ge_f (lt32 (by omega) (by omega))) ?_
        refine XS.aloadN Xl.here hexec rfl (hb hbytes d10) rfl rfl ?_
        refine XS.iloadN Xl.here hexec rfl (hb hbytes d11) rfl ?_
        exact Steps.refl _)
      have c4 : Steps p.tables e below (s₁.setTop (entryFrame m #[.ref b, .int (Int32.ofNat o), .ref d, .int (Int32.ofNat q), .int (Int32.ofNat len)] 7)) (Tl.setTop (mkF m 13 #[.val (.ref b), .val (.int (Int32.ofNat (o + i))), .val (.ref d), .val (.int (Int32.ofNat (q + i))), .val (.int (Int32.ofNat len)), .val (.int (Int32.ofNat i)), z] [.int (cv A (o + i))])) := c3.trans (by
        refine Xl.aget hexec hAl rfl (hA.get (i := o + i) (by omega)) rfl rfl (hb hbytes d12) ?_
        exact Steps.refl _)
      have c5 : Steps p.tables e below (s₁.setTop (entryFrame m #[.ref b, .int (Int32.ofNat o), .ref d, .int (Int32.ofNat q), .int (Int32.ofNat len)] 7)) (Tl.setTop (mkF m 15 #[.val (.ref b), .val (.int (Int32.ofNat (o + i))), .val (.ref d), .val (.int (Int32.ofNat (q + i))), .val (.int (Int32.ofNat len)), .val (.int (Int32.ofNat i)), .val (.int (cv A (o + i)))] [])) := c4.trans (by
        refine XS.istoreS Xl.here hexec rfl (hb hbytes d13) rfl rfl hz ?_
        exact Steps.refl _)
      have c6 : Steps p.tables e below (s₁.setTop (entryFrame m #[.ref b, .int (Int32.ofNat o), .ref d, .int (Int32.ofNat q), .int (Int32.ofNat len)] 7)) (Tl.setTop (mkF m 31 #[.val (.ref b), .val (.int (Int32.ofNat (o + i))), .val (.ref d), .val (.int (Int32.ofNat (q + i))), .val (.int (Int32.ofNat len)), .val (.int (Int32.ofNat i)), .val (.int (cv A (o + i)))] [.int (lo8 (cv A (o + i))), .int (Int32.ofNat (q + i)), .ref d])) := c5.trans (by
        refine XS.iload Xl.here hexec rfl (hb hbytes d15) rfl ?_
        refine sipushV Xl.here hexec rfl 255 (hb hbytes d17) (by decide) ?_
        refine XS.icmpYes Xl.here hexec rfl (pc0 := 20) rfl (hb hbytes d20) rfl (ii_le_t (hp i (by omega))) (by decide) rfl ?_
        refine XS.aloadN Xl.here hexec rfl (hb hbytes d26) rfl rfl ?_
        refine XS.iloadN Xl.here hexec rfl (hb hbytes d27) rfl ?_
        refine XS.iload Xl.here hexec rfl (hb hbytes d28) rfl ?_
        refine i2b Xl.here hexec rfl (hb hbytes d30) rfl ?_
        exact Steps.refl _)
      obtain ⟨T7, X7, p7, st7⟩ := Xl.aput hexec hBk rfl hlt rfl (fits_lo8 (cv A (o + i))) (g := (mkF m 31 #[.val (.ref b), .val (.int (Int32.ofNat (o + i))), .val (.ref d), .val (.int (Int32.ofNat (q + i))), .val (.int (Int32.ofNat len)), .val (.int (Int32.ofNat i)), .val (.int (cv A (o + i)))] [.int (lo8 (cv A (o + i))), .int (Int32.ofNat (q + i)), .ref d])) rfl (rest := []) rfl (hb hbytes d31)
      have c8 : Steps p.tables e below (s₁.setTop (entryFrame m #[.ref b, .int (Int32.ofNat o), .ref d, .int (Int32.ofNat q), .int (Int32.ofNat len)] 7)) (T7.setTop (mkF m 32 #[.val (.ref b), .val (.int (Int32.ofNat (o + i))), .val (.ref d), .val (.int (Int32.ofNat (q + i))), .val (.int (Int32.ofNat len)), .val (.int (Int32.ofNat i)), .val (.int (cv A (o + i)))] [])) := c6.trans (st7 _ (Steps.refl _))
      have c9 : Steps p.tables e below (s₁.setTop (entryFrame m #[.ref b, .int (Int32.ofNat o), .ref d, .int (Int32.ofNat q), .int (Int32.ofNat len)] 7)) (T7.setTop (mkF m 3 #[.val (.ref b), .val (.int (Int32.ofNat (o + i) + 1)), .val (.ref d), .val (.int (Int32.ofNat (q + i) + 1)), .val (.int (Int32.ofNat len)), .val (.int (Int32.ofNat i + 1)), .val (.int (cv A (o + i)))] [])) := c8.trans (by
        refine iincV X7.here hexec rfl 1 (hb hbytes d32) (by decide) rfl rfl ?_
        refine iincV X7.here hexec rfl 1 (hb hbytes d35) (by decide) rfl rfl ?_
        refine iincV X7.here hexec rfl 1 (hb hbytes d38) (by decide) rfl rfl ?_
        refine XS.goto X7.here hexec rfl (pc0 := 41) rfl (hb hbytes d41) (by decide) rfl ?_
        exact Steps.refl _)
      have c10 : Steps p.tables e below (s₁.setTop (entryFrame m #[.ref b, .int (Int32.ofNat o), .ref d, .int (Int32.ofNat q), .int (Int32.ofNat len)] 7)) (T7.setTop (mkF m 3 #[.val (.ref b), .val (.int (Int32.ofNat (o + (i + 1)))), .val (.ref d), .val (.int (Int32.ofNat (q + (i + 1)))), .val (.int (Int32.ofNat len)), .val (.int (Int32.ofNat (i + 1))), .val (.int (cv A (o + i)))] [])) := by
        have := c9
        rw [succ32, succ32, succ32] at this
        exact this
      exact ih (i + 1) (by omega) _ (Or.inr ⟨_, rfl, rfl⟩) T7 _ (by rw [copyLocs_step, ← List.append_assoc]; exact X7) (pl.trans p7) (fl.step (by omega) hlt (by simp)) c10
  obtain ⟨T9, B9, z9, X9, p9, f9, g9⟩ := loop len 0 (by omega) .unset (Or.inl rfl) s₁ B (by simpa [copyLocs] using X0) ⟨hB0.1, fun _ _ => rfl, rfl⟩ (Laid.zero _ _ _) c2
  have c11 : Steps p.tables e below (s₁.setTop (entryFrame m #[.ref b, .int (Int32.ofNat o), .ref d, .int (Int32.ofNat q), .int (Int32.ofNat len)] 7)) (T9.setTop (mkF m 46 #[.val (.ref b), .val (.int (Int32.ofNat (o + len))), .val (.ref d), .val (.int (Int32.ofNat (q + len))), .val (.int (Int32.ofNat len)), .val (.int (Int32.ofNat len)), z9] [.int (Int32.ofNat len)])) := g9.trans (by
    refine XS.iload X9.here hexec rfl (hb hbytes d3) rfl ?_
    refine XS.iload X9.here hexec rfl (hb hbytes d5) rfl ?_
    refine XS.icmpYes X9.here hexec rfl (pc0 := 7) rfl (hb hbytes d7) rfl (ii_ge_t (nlt32 (by omega) (Nat.le_refl _))) (by decide) rfl ?_
    refine XS.iload X9.here hexec rfl (hb hbytes d44) rfl ?_
    exact Steps.refl _)
  exact ⟨T9, some (.int (Int32.ofNat len)), _, _, _, X9, by simp, rfl, rfl, (fun h => by cases h), ⟨rfl, B9, p9.from hh0, f9⟩, fun fs hl => c11.trans (X9.ireturnOut hexec hret rfl (Or.inl rfl) (hb hbytes d46) hl)⟩
end Cmp5
namespace Cmp3
def yN : MethodName := ⟨"java/lang/StringUTF16", "compress", "([CII)[B"⟩
abbrev yB : ByteArray := jdk_52_method_16_code
theorem d0 : decode yB 0 = .ok (.iload_n 2, 1) := by decide +kernel
theorem d1 : decode yB 1 = .ok (.newarray .byte, 2) := by decide +kernel
theorem d3 : decode yB 3 = .ok (.astore_n 3, 1) := by decide +kernel
theorem d4 : decode yB 4 = .ok (.aload_n 0, 1) := by decide +kernel
theorem d5 : decode yB 5 = .ok (.iload_n 1, 1) := by decide +kernel
theorem d6 : decode yB 6 = .ok (.aload_n 3, 1) := by decide +kernel
theorem d7 : decode yB 7 = .ok (.iconst 0, 1) := by decide +kernel
theorem d8 : decode yB 8 = .ok (.iload_n 2, 1) := by decide +kernel
theorem d9 : decode yB 9 = .ok (.invokestatic 115, 3) := by decide +kernel
theorem d12 : decode yB 12 = .ok (.istore 4, 2) := by decide +kernel
theorem d14 : decode yB 14 = .ok (.iload 4, 2) := by decide +kernel
theorem d16 : decode yB 16 = .ok (.iload_n 2, 1) := by decide +kernel
theorem d17 : decode yB 17 = .ok (.if_icmp (.eq) 40, 3) := by decide +kernel
theorem d57 : decode yB 57 = .ok (.aload_n 3, 1) := by decide +kernel
theorem d58 : decode yB 58 = .ok (.areturn, 1) := by decide +kernel
def site : List Cond := [.arrayClass .byte, Cmp5.tab] ++ staticW U16 115 Cmp5.yN
def tab : Cond := tabOf yN yB 6 (some (.array .byte)) site
def P (b : Addr) (A : Cell) (o len : Nat) (args : Array Value) (s : State) : Prop := args = #[.ref b, .int (Int32.ofNat o), .int (Int32.ofNat len)] ∧ Ch b A s ∧ o + len ≤ A.slots.size ∧ len ≤ 536870912 ∧ ∀ i, i < len → ¬ 255 < cv A (o + i)
def E (b : Addr) (A : Cell) (o len : Nat) (r : Option Value) (s u : State) : Prop := NewArr .byte "[B" len (fun j => .int (lo8 (cv A (o + j)))) r s u ∧ u.heap.size = s.heap.size + 1
/-- no char of the range above 255: a new byte[] of their low bytes -/
theorem law (l : Launch) (b : Addr) (A : Cell) (o len : Nat) : Law l yN 3 3 1 18 yB 6 (some (.array .byte)) site (P b A o len) (E b A o len) [] 1 len := by
  refine Law.of_walk (plainFor_of_name (by decide +kernel)) (by decide +kernel) (by decide +kernel) (by decide) (fun _ _ h => by rw [h.1]; rfl) (fun _ U U' hal hh h => ⟨h.1, h.2.1.mv hal hh, h.2.2⟩) (fun r U U' V V' h1 hal h2 h => ⟨NewArr.mv r U U' V V' h1 hal h2 h.1, by rw [h1, h2]; exact h.2⟩) ?_
  intro p e s m args below meth c s₁ X0 hexec hbytes hml hret hlk hnm hown hh0 W hP
  obtain ⟨rfl, hA, l1, l2, hp⟩ := hP
  have a31 := hA.1.2.2.2
  have c1 : Steps p.tables e below (s₁.setTop (entryFrame m #[.ref b, .int (Int32.ofNat o), .int (Int32.ofNat len)] 6)) (s₁.setTop (mkF m 0 #[.val (.ref b), .val (.int (Int32.ofNat o)), .val (.int (Int32.ofNat len)), .unset, .unset, .unset] [])) := entry rfl
  have c2 : Steps p.tables e below (s₁.setTop (entryFrame m #[.ref b, .int (Int32.ofNat o), .int (Int32.ofNat len)] 6)) (s₁.setTop (mkF m 1 #[.val (.ref b), .val (.int (Int32.ofNat o)), .val (.int (Int32.ofNat len)), .unset, .unset, .unset] [.int (Int32.ofNat len)])) := c1.trans (by
    refine XS.iloadN X0.here hexec rfl (hb hbytes d0) rfl ?_
    exact Steps.refl _)
  obtain ⟨T3, B3, X3, ba3, bs3, bv3, bh3, bf3, st3⟩ := X0.anew hexec (atype := .byte) (wk W (.arrayClass .byte)) rfl (by show len * 1 ≤ _; omega) (by omega) (g := (mkF m 1 #[.val (.ref b), .val (.int (Int32.ofNat o)), .val (.int (Int32.ofNat len)), .unset, .unset, .unset] [.int (Int32.ofNat len)])) rfl (hb hbytes d1) (rest := []) rfl (Nat.le_refl _) (by show 0 + len ≤ len; omega)
  rw [hh0] at ba3 st3
  have kp3 : XT.Kept s T3 := (XT.Kept.of_eq hh0).push bh3
  have hA3 := hA.keep X3.warmed.alike (kp3 _ _ hA.1.1)
  have hne : b ≠ s.heap.size := hA.1.ne
  have c4 : Steps p.tables e below (s₁.setTop (entryFrame m #[.ref b, .int (Int32.ofNat o), .int (Int32.ofNat len)] 6)) (T3.setTop (mkF m 3 #[.val (.ref b), .val (.int (Int32.ofNat o)), .val (.int (Int32.ofNat len)), .unset, .unset, .unset] [.ref s.heap.size])) := c2.trans (st3 _ (Steps.refl _))
  have c5 : Steps p.tables e below (s₁.setTop (entryFrame m #[.ref b, .int (Int32.ofNat o), .int (Int32.ofNat len)] 6)) (T3.setTop (mkF m 9 #[.val (.ref b), .val (.int (Int32.ofNat o)), .val (.int (Int32.ofNat len)), .val (.ref s.heap.size), .unset, .unset] [.int (Int32.ofNat len), .int 0, .ref s.heap.size, .int (Int32.ofNat o), .ref b])) := c4.trans (by
    refine XS.astoreN X3.here hexec rfl (hb hbytes d3) rfl rfl rfl ?_
    refine XS.aloadN X3.here hexec rfl (hb hbytes d4) rfl rfl ?_
    refine XS.iloadN X3.here hexec rfl (hb hbytes d5) rfl ?_
    refine XS.aloadN X3.here hexec rfl (hb hbytes d6) rfl rfl ?_
    refine iconstV X3.here hexec rfl 0 (hb hbytes d7) (by decide) ?_
    refine XS.iloadN X3.here hexec rfl (hb hbytes d8) rfl ?_
    exact Steps.refl _)
  obtain ⟨v6, T6, X6, E6, g6⟩ := X3.callS hexec (Cmp5.law l b A s.heap.size B3 o 0 len) hown (wks W (staticW U16 115 Cmp5.yN)) (wk W Cmp5.tab) (W := 0) (Nat.le_of_ble_eq_true rfl) (Nat.le_of_ble_eq_true rfl) (Nat.le_refl _) (by show 0 + len + 0 ≤ len; omega) (g := (mkF m 9 #[.val (.ref b), .val (.int (Int32.ofNat o)), .val (.int (Int32.ofNat len)), .val (.ref s.heap.size), .unset, .unset] [.int (Int32.ofNat len), .int (Int32.ofNat 0), .ref s.heap.size, .int (Int32.ofNat o), .ref b])) rfl (by rw [hml]; rfl) c5 (argsL := [.ref b, .int (Int32.ofNat o), .ref s.heap.size, .int (Int32.ofNat 0), .int (Int32.ofNat len)]) (rest := []) rfl rfl (by show 2 * 0 + 0 ≤ _; decide) (hb hbytes d9) (⟨rfl, hA3, ba3, hne, l1, by rw [bs3]; simp, hp⟩)
  obtain ⟨rfl, B6, p6, f6⟩ := E6
  have c7 : Steps p.tables e below (s₁.setTop (entryFrame m #[.ref b, .int (Int32.ofNat o), .int (Int32.ofNat len)] 6)) (T6.setTop (mkF m 12 #[.val (.ref b), .val (.int (Int32.ofNat o)), .val (.int (Int32.ofNat len)), .val (.ref s.heap.size), .unset, .unset] [.int (Int32.ofNat len)])) := g6
  have c8 : Steps p.tables e below (s₁.setTop (entryFrame m #[.ref b, .int (Int32.ofNat o), .int (Int32.ofNat len)] 6)) (T6.setTop (mkF m 58 #[.val (.ref b), .val (.int (Int32.ofNat o)), .val (.int (Int32.ofNat len)), .val (.ref s.heap.size), .val (.int (Int32.ofNat len)), .unset] [.ref s.heap.size])) := c7.trans (by
    refine XS.istore X6.here hexec rfl (hb hbytes d12) rfl rfl ?_
    refine XS.iload X6.here hexec rfl (hb hbytes d14) rfl ?_
    refine XS.iloadN X6.here hexec rfl (hb hbytes d16) rfl ?_
    refine XS.icmpYes X6.here hexec rfl (pc0 := 17) rfl (hb hbytes d17) rfl (ii_eq_t rfl) (by decide) rfl ?_
    refine XS.aloadN X6.here hexec rfl (hb hbytes d57) rfl rfl ?_
    exact Steps.refl _)
  have X8 := X6.wide (L' := []) (cells' := 1) (slots' := len) (fun x hx hlt => by
    simp only [List.nil_append, copyLocs, List.mem_map, List.mem_range] at hx
    obtain ⟨i, -, rfl⟩ := hx
    exact absurd hlt (Nat.lt_irrefl _)) (Nat.le_refl _) (by omega)
  exact ⟨T6, some (.ref s.heap.size), _, _, _, X8, rfl, rfl, rfl, (fun h => by cases h), ⟨⟨rfl, B6, ba3.like (X3.warmed.alike.symm.trans X6.warmed.alike) p6.1 f6.1 f6.2.1 f6.2.2.1, f6.2.1.trans bv3, by rw [X6.warmed.alike.findClass, f6.1]; exact bf3, by rw [f6.2.2.1, bs3]; simp, fun j hj => by rw [f6.2.2.2 j, if_pos (by omega)]; rfl, kp3.put p6 (Nat.le_refl _)⟩, by rw [p6.2.2, bh3, hh0]; simp⟩, fun fs hl => c8.trans (X8.areturnOut hexec rfl hret rfl (hb hbytes d58) hl)⟩
end Cmp3
namespace CodL
def yN : MethodName := ⟨"java/lang/StringUTF16", "coderFromArrayLen", "([BI)B"⟩
abbrev yB : ByteArray := jdk_52_method_15_code
theorem d0 : decode yB 0 = .ok (.iload_n 1, 1) := by decide +kernel
theorem d1 : decode yB 1 = .ok (.aload_n 0, 1) := by decide +kernel
theorem d2 : decode yB 2 = .ok (.arraylength, 1) := by decide +kernel
theorem d3 : decode yB 3 = .ok (.isub, 1) := by decide +kernel
theorem d4 : decode yB 4 = .ok (.bipush 31, 2) := by decide +kernel
theorem d6 : decode yB 6 = .ok (.iushr, 1) := by decide +kernel
theorem d7 : decode yB 7 = .ok (.i2b, 1) := by decide +kernel
theorem d8 : decode yB 8 = .ok (.ireturn, 1) := by decide +kernel
def site : List Cond := []
def tab : Cond := tabOf yN yB 2 (some .byte) site
def P (d : Addr) (B : Cell) (args : Array Value) (s : State) : Prop := args = #[.ref d, .int (Int32.ofNat B.slots.size)] ∧ Arr .byte d B s
def E (r : Option Value) (s u : State) : Prop := XT.PureE (some (.int 0)) r s u
/-- an array as long as the number of chars: LATIN1 -/
theorem law (l : Launch) (d : Addr) (B : Cell) : Law l yN 2 2 0 0 yB 2 (some .byte) site (P d B) E [] 0 0 := by
  refine Law.of_walk (plainFor_of_name (by decide +kernel)) (by decide +kernel) (by decide +kernel) (by decide) (fun _ _ h => by rw [h.1]; rfl) (fun _ U U' hal hh h => ⟨h.1, h.2.mv hal hh⟩) (fun r U U' V V' h1 hal h2 h => XT.PureE.mv r U U' V V' h1 hal h2 h) ?_
  intro p e s m args below meth c s₁ X0 hexec hbytes hml hret hlk hnm hown hh0 W hP
  obtain ⟨rfl, hB⟩ := hP
  have hB0 := hB.mv X0.warmed.alike hh0
  have c1 : Steps p.tables e below (s₁.setTop (entryFrame m #[.ref d, .int (Int32.ofNat B.slots.size)] 2)) (s₁.setTop (mkF m 0 #[.val (.ref d), .val (.int (Int32.ofNat B.slots.size))] [])) := entry rfl
  have c2 : Steps p.tables e below (s₁.setTop (entryFrame m #[.ref d, .int (Int32.ofNat B.slots.size)] 2)) (s₁.setTop (mkF m 2 #[.val (.ref d), .val (.int (Int32.ofNat B.slots.size))] [.ref d, .int (Int32.ofNat B.slots.size)])) := c1.trans (by
    refine XS.iloadN X0.here hexec rfl (hb hbytes d0) rfl ?_
    refine XS.aloadN X0.here hexec rfl (hb hbytes d1) rfl rfl ?_
    exact Steps.refl _)
  have c3 : Steps p.tables e below (s₁.setTop (entryFrame m #[.ref d, .int (Int32.ofNat B.slots.size)] 2)) (s₁.setTop (mkF m 8 #[.val (.ref d), .val (.int (Int32.ofNat B.slots.size))] [.int (lo8 (ushr (Int32.ofNat B.slots.size - Int32.ofNat B.slots.size) 31))])) := c2.trans (by
    refine X0.alen hexec hB0 rfl rfl (hb hbytes d2) ?_
    refine XS.isub X0.here hexec rfl (hb hbytes d3) rfl ?_
    refine bipushV X0.here hexec rfl 31 (hb hbytes d4) (by decide) ?_
    refine iushr X0.here hexec rfl (hb hbytes d6) rfl ?_
    refine i2b X0.here hexec rfl (hb hbytes d7) rfl ?_
    exact Steps.refl _)
  have e0 : lo8 (ushr (Int32.ofNat B.slots.size - Int32.ofNat B.slots.size) 31) = 0 := by rw [Int32.sub_self]; decide
  rw [e0] at c3
  exact ⟨s₁, some (.int 0), _, _, _, X0, rfl, rfl, rfl, (fun h => by cases h), ⟨rfl, hh0⟩, fun fs hl => c3.trans (X0.ireturnOut hexec hret rfl (Or.inr (Or.inr (Or.inl rfl))) (hb hbytes d8) hl)⟩
end CodL
/-- the String at a is Latin-1 over a new byte[] (the heap's one new cell): the low bytes of the len chars of A from o on; every cell but a is kept -/
def Got (a : Addr) (D : Cell) (fV fC : Field) (A : Cell) (o len : Nat) (r : Option Value) (s u : State) : Prop := r = none ∧ ∃ D' V : Cell, Blank "java/lang/String" a D' u ∧ Same D D' [fV.slot, fC.slot] ∧ D'.slots[fV.slot]? = some (.ref s.heap.size) ∧ D'.slots[fC.slot]? = some (.int 0) ∧ Arr .byte s.heap.size V u ∧ V.vm = .none ∧ u.vm.findClass "[B" = some V.cls ∧ V.slots.size = len ∧ (∀ j, j < len → V.slots[j]? = some (.int (lo8 (cv A (o + j))))) ∧ (∀ (y : Addr) (c : Cell), y ≠ a → s.heap[y]? = some c → u.heap[y]? = some c) ∧ u.heap.size = s.heap.size + 1
theorem Got.mv {a : Addr} {D A : Cell} {fV fC : Field} {o len : Nat} : ∀ r (U U' V V' : State), U'.heap = U.heap → V.vm.Alike V'.vm → V'.heap = V.heap → Got a D fV fC A o len r U V → Got a D fV fC A o len r U' V' :=
  fun r U U' V V' h1 hal h2 ⟨e0, D', X, a1, a2, a3, a4, a5, a6, a7, a8, a9, a10, a11⟩ => ⟨e0, D', X, a1.mv hal h2, a2, by rw [h1]; exact a3, a4, by rw [h1]; exact a5.mv hal h2, a6, by rw [hal.findClass]; exact a7, a8, a9, by rw [h1, h2]; exact a10, by rw [h1, h2]; exact a11⟩
namespace New4
def yN : MethodName := ⟨"java/lang/String", "<init>", "([CIILjava/lang/Void;)V"⟩
abbrev yB : ByteArray := jdk_42_method_149_code
theorem d0 : decode yB 0 = .ok (.aload_n 0, 1) := by decide +kernel
theorem d1 : decode yB 1 = .ok (.invokespecial 1, 3) := by decide +kernel
theorem d4 : decode yB 4 = .ok (.iload_n 3, 1) := by decide +kernel
theorem d5 : decode yB 5 = .ok (.ifCond (.ne) 22, 3) := by decide +kernel
theorem d27 : decode yB 27 = .ok (.getstatic 38, 3) := by decide +kernel
theorem d30 : decode yB 30 = .ok (.ifCond (.eq) 28, 3) := by decide +kernel
theorem d33 : decode yB 33 = .ok (.aload_n 1, 1) := by decide +kernel
theorem d34 : decode yB 34 = .ok (.iload_n 2, 1) := by decide +kernel
theorem d35 : decode yB 35 = .ok (.iload_n 3, 1) := by decide +kernel
theorem d36 : decode yB 36 = .ok (.invokestatic 177, 3) := by decide +kernel
theorem d39 : decode yB 39 = .ok (.astore 5, 2) := by decide +kernel
theorem d41 : decode yB 41 = .ok (.aload_n 0, 1) := by decide +kernel
theorem d42 : decode yB 42 = .ok (.aload 5, 2) := by decide +kernel
theorem d44 : decode yB 44 = .ok (.iload_n 3, 1) := by decide +kernel
theorem d45 : decode yB 45 = .ok (.invokestatic 47, 3) := by decide +kernel
theorem d48 : decode yB 48 = .ok (.putfield 15, 3) := by decide +kernel
theorem d51 : decode yB 51 = .ok (.aload_n 0, 1) := by decide +kernel
theorem d52 : decode yB 52 = .ok (.aload 5, 2) := by decide +kernel
theorem d54 : decode yB 54 = .ok (.putfield 9, 3) := by decide +kernel
theorem d57 : decode yB 57 = .ok (.return_, 1) := by decide +kernel
def site : List Cond := [.fieldLink "java/lang/String" 38 "java/lang/String" "COMPACT_STRINGS" "Z", Cmp3.tab, CodL.tab, .laysFinal "java/lang/String" "java/lang/String" "value" "[B", .fieldLink "java/lang/String" 9 "java/lang/String" "value" "[B", .laysFinal "java/lang/String" "java/lang/String" "coder" "B", .fieldLink "java/lang/String" 15 "java/lang/String" "coder" "B"] ++ objW "java/lang/String" 1 ++ staticW "java/lang/String" 177 Cmp3.yN ++ staticW "java/lang/String" 47 CodL.yN
def tab : Cond := tabOf yN yB 6 none site
def P (a : Addr) (D : Cell) (fV fC : Field) (b : Addr) (A : Cell) (z : Int32) (o len : Nat) (args : Array Value) (s : State) : Prop := args = #[.ref a, .ref b, .int (Int32.ofNat o), .int (Int32.ofNat len), .null] ∧ Blank "java/lang/String" a D s ∧ Found "java/lang/String" "value" "[B" fV s ∧ Found "java/lang/String" "coder" "B" fC s ∧ Ch b A s ∧ StaticIs s "java/lang/String" "COMPACT_STRINGS" "Z" (.int z) ∧ ¬ z = 0 ∧ 0 < len ∧ o + len ≤ A.slots.size ∧ len ≤ 536870912 ∧ ∀ i, i < len → ¬ 255 < cv A (o + i)
def E (a : Addr) (D : Cell) (fV fC : Field) (A : Cell) (o len : Nat) (r : Option Value) (s u : State) : Prop := Got a D fV fC A o len r s u
/-- len > 0, no char of the range above 255: a Latin-1 String of their low bytes -/
theorem law (l : Launch) (a : Addr) (D : Cell) (fV fC : Field) (b : Addr) (A : Cell) (z : Int32) (o len : Nat) : Law l yN 5 4 2 35 yB 6 none site (P a D fV fC b A z o len) (E a D fV fC A o len) [⟨a, fC.slot⟩, ⟨a, fV.slot⟩] 1 len := by
  refine Law.of_walk (plainFor_of_name (by decide +kernel)) (by decide +kernel) (by decide +kernel) (by decide) (fun _ _ h => by rw [h.1]; rfl) (fun _ U U' hal hh h => ⟨h.1, h.2.1.mv hal hh, h.2.2.1.al hal, h.2.2.2.1.al hal, h.2.2.2.2.1.mv hal hh, h.2.2.2.2.2.1.there hal hh, h.2.2.2.2.2.2⟩) (fun r U U' V V' h1 hal h2 h => Got.mv r U U' V V' h1 hal h2 h) ?_
  intro p e s m args below meth c s₁ X0 hexec hbytes hml hret hlk hnm hown hh0 W hP
  obtain ⟨rfl, hB, f1, f2, hA, s1, hz, l0, l1, l2, hp⟩ := hP
  have a31 := hA.1.2.2.2
  have c1 : Steps p.tables e below (s₁.setTop (entryFrame m #[.ref a, .ref b, .int (Int32.ofNat o), .int (Int32.ofNat len), .null] 6)) (s₁.setTop (mkF m 0 #[.val (.ref a), .val (.ref b), .val (.int (Int32.ofNat o)), .val (.int (Int32.ofNat len)), .val .null, .unset] [])) := entry rfl
  have c2 : Steps p.tables e below (s₁.setTop (entryFrame m #[.ref a, .ref b, .int (Int32.ofNat o), .int (Int32.ofNat len), .null] 6)) (s₁.setTop (mkF m 1 #[.val (.ref a), .val (.ref b), .val (.int (Int32.ofNat o)), .val (.int (Int32.ofNat len)), .val .null, .unset] [.ref a])) := c1.trans (by
    refine XS.aloadN X0.here hexec rfl (hb hbytes d0) rfl rfl ?_
    exact Steps.refl _)
  obtain ⟨T3, X3, q3, st3⟩ := X0.oinit hexec hown (wks W (objW "java/lang/String" 1)) (g := (mkF m 1 #[.val (.ref a), .val (.ref b), .val (.int (Int32.ofNat o)), .val (.int (Int32.ofNat len)), .val .null, .unset] [.ref a])) rfl (by rw [hml]; rfl) (rest := []) rfl (hb hbytes d1) (W := 0) (by show 2 * 0 + 0 ≤ _; decide) (Nat.le_of_ble_eq_true rfl) (Nat.le_of_ble_eq_true rfl)
  have hh3 := q3.trans hh0
  have c4 : Steps p.tables e below (s₁.setTop (entryFrame m #[.ref a, .ref b, .int (Int32.ofNat o), .int (Int32.ofNat len), .null] 6)) (T3.setTop (mkF m 27 #[.val (.ref a), .val (.ref b), .val (.int (Int32.ofNat o)), .val (.int (Int32.ofNat len)), .val .null, .unset] [])) := (c2.trans (st3 _ (Steps.refl _))).trans (by
    refine XS.iloadN X3.here hexec rfl (hb hbytes d4) rfl ?_
    refine XS.ifYes X3.here hexec rfl (pc0 := 5) rfl (hb hbytes d5) rfl (i0_ne_t (nz32 (by omega) l0)) (by decide) rfl ?_
    exact Steps.refl _)
  obtain ⟨T5, X5, q5, st5⟩ := X3.sget hexec hown (wk W (.fieldLink "java/lang/String" 38 "java/lang/String" "COMPACT_STRINGS" "Z")) s1 (fun _ _ h => by rw [hh3]; exact h) (g := (mkF m 27 #[.val (.ref a), .val (.ref b), .val (.int (Int32.ofNat o)), .val (.int (Int32.ofNat len)), .val .null, .unset] [])) rfl (hb hbytes d27)
  have hh5 := q5.trans hh3
  have c6 : Steps p.tables e below (s₁.setTop (entryFrame m #[.ref a, .ref b, .int (Int32.ofNat o), .int (Int32.ofNat len), .null] 6)) (T5.setTop (mkF m 30 #[.val (.ref a), .val (.ref b), .val (.int (Int32.ofNat o)), .val (.int (Int32.ofNat len)), .val .null, .unset] [.int z])) := c4.trans (st5 _ (Steps.refl _))
  have c7 : Steps p.tables e below (s₁.setTop (entryFrame m #[.ref a, .ref b, .int (Int32.ofNat o), .int (Int32.ofNat len), .null] 6)) (T5.setTop (mkF m 36 #[.val (.ref a), .val (.ref b), .val (.int (Int32.ofNat o)), .val (.int (Int32.ofNat len)), .val .null, .unset] [.int (Int32.ofNat len), .int (Int32.ofNat o), .ref b])) := c6.trans (by
    refine XS.ifNo X5.here hexec rfl (hb hbytes d30) rfl (i0_eq_f hz) ?_
    refine XS.aloadN X5.here hexec rfl (hb hbytes d33) rfl rfl ?_
    refine XS.iloadN X5.here hexec rfl (hb hbytes d34) rfl ?_
    refine XS.iloadN X5.here hexec rfl (hb hbytes d35) rfl ?_
    exact Steps.refl _)
  obtain ⟨v8, T8, X8, E8, g8⟩ := X5.callS hexec (Cmp3.law l b A o len) hown (wks W (staticW "java/lang/String" 177 Cmp3.yN)) (wk W Cmp3.tab) (W := 0) (Nat.le_of_ble_eq_true rfl) (Nat.le_of_ble_eq_true rfl) (Nat.le_refl _) (by show 0 + len ≤ len; omega) (g := (mkF m 36 #[.val (.ref a), .val (.ref b), .val (.int (Int32.ofNat o)), .val (.int (Int32.ofNat len)), .val .null, .unset] [.int (Int32.ofNat len), .int (Int32.ofNat o), .ref b])) rfl (by rw [hml]; rfl) c7 (argsL := [.ref b, .int (Int32.ofNat o), .int (Int32.ofNat len)]) (rest := []) rfl rfl (by show 2 * 0 + 0 ≤ _; decide) (hb hbytes d36) (⟨rfl, hA.mv X5.warmed.alike hh5, l1, l2, hp⟩)
  obtain ⟨e8, z8⟩ := E8
  obtain ⟨rfl, N, n1, n2, n3, n4, n5, n6⟩ := NewArr.mv _ T5 s _ _ hh5.symm (Vm.Alike.refl _) rfl e8
  rw [hh5] at z8
  have hB1 := hB.keep X8.warmed.alike (n6 _ _ hB.1)
  have hne : s.heap.size ≠ a := (Nat.ne_of_lt (Array.getElem?_eq_some_iff.mp hB.1).1).symm
  have c9 : Steps p.tables e below (s₁.setTop (entryFrame m #[.ref a, .ref b, .int (Int32.ofNat o), .int (Int32.ofNat len), .null] 6)) (T8.setTop (mkF m 39 #[.val (.ref a), .val (.ref b), .val (.int (Int32.ofNat o)), .val (.int (Int32.ofNat len)), .val .null, .unset] [.ref s.heap.size])) := g8
  have c10 : Steps p.tables e below (s₁.setTop (entryFrame m #[.ref a, .ref b, .int (Int32.ofNat o), .int (Int32.ofNat len), .null] 6)) (T8.setTop (mkF m 45 #[.val (.ref a), .val (.ref b), .val (.int (Int32.ofNat o)), .val (.int (Int32.ofNat len)), .val .null, .val (.ref s.heap.size)] [.int (Int32.ofNat N.slots.size), .ref s.heap.size, .ref a])) := by
    have hc : Steps p.tables e below (s₁.setTop (entryFrame m #[.ref a, .ref b, .int (Int32.ofNat o), .int (Int32.ofNat len), .null] 6)) (T8.setTop (mkF m 45 #[.val (.ref a), .val (.ref b), .val (.int (Int32.ofNat o)), .val (.int (Int32.ofNat len)), .val .null, .val (.ref s.heap.size)] [.int (Int32.ofNat len), .ref s.heap.size, .ref a])) := c9.trans (by
      refine XS.astore X8.here hexec rfl (hb hbytes d39) rfl rfl rfl ?_
      refine XS.aloadN X8.here hexec rfl (hb hbytes d41) rfl rfl ?_
      refine XS.aload X8.here hexec rfl (hb hbytes d42) rfl rfl ?_
      refine XS.iloadN X8.here hexec rfl (hb hbytes d44) rfl ?_
      exact Steps.refl _)
    rw [n4]; exact hc
  obtain ⟨v11, T11, X11, E11, g11⟩ := X8.callS hexec (CodL.law l s.heap.size N) hown (wks W (staticW "java/lang/String" 47 CodL.yN)) (wk W CodL.tab) (W := 1) (Nat.le_of_ble_eq_true rfl) (Nat.le_of_ble_eq_true rfl) (Nat.le_refl _) (by show 0 + len + 0 ≤ len; omega) (g := (mkF m 45 #[.val (.ref a), .val (.ref b), .val (.int (Int32.ofNat o)), .val (.int (Int32.ofNat len)), .val .null, .val (.ref s.heap.size)] [.int (Int32.ofNat N.slots.size), .ref s.heap.size, .ref a])) rfl (by rw [hml]; rfl) c10 (argsL := [.ref s.heap.size, .int (Int32.ofNat N.slots.size)]) (rest := [.ref a]) rfl rfl (by show 2 * 0 + (1 + 0) ≤ _; decide) (hb hbytes d45) (⟨rfl, n1⟩)
  obtain ⟨rfl, q11⟩ := E11
  have hB11 := hB1.mv (X8.warmed.alike.symm.trans X11.warmed.alike) q11
  have c12 : Steps p.tables e below (s₁.setTop (entryFrame m #[.ref a, .ref b, .int (Int32.ofNat o), .int (Int32.ofNat len), .null] 6)) (T11.setTop (mkF m 48 #[.val (.ref a), .val (.ref b), .val (.int (Int32.ofNat o)), .val (.int (Int32.ofNat len)), .val .null, .val (.ref s.heap.size)] [.int 0, .ref a])) := g11
  obtain ⟨T13, X13, p13, bl13, sl13, st13⟩ := X11.finit hexec hown (wk W (.fieldLink "java/lang/String" 15 "java/lang/String" "coder" "B")) (Or.inr ⟨_, (wk W (.laysFinal "java/lang/String" "java/lang/String" "coder" "B"))⟩) (Or.inl ⟨rfl, hnm⟩) f2 (Or.inl rfl) hB11 (t := .byte) (by decide +kernel) rfl (g := (mkF m 48 #[.val (.ref a), .val (.ref b), .val (.int (Int32.ofNat o)), .val (.int (Int32.ofNat len)), .val .null, .val (.ref s.heap.size)] [.int 0, .ref a])) rfl (rest := []) rfl (hb hbytes d48)
  have c14 : Steps p.tables e below (s₁.setTop (entryFrame m #[.ref a, .ref b, .int (Int32.ofNat o), .int (Int32.ofNat len), .null] 6)) (T13.setTop (mkF m 54 #[.val (.ref a), .val (.ref b), .val (.int (Int32.ofNat o)), .val (.int (Int32.ofNat len)), .val .null, .val (.ref s.heap.size)] [.ref s.heap.size, .ref a])) := (c12.trans (st13 _ (Steps.refl _))).trans (by
    refine XS.aloadN X13.here hexec rfl (hb hbytes d51) rfl rfl ?_
    refine XS.aload X13.here hexec rfl (hb hbytes d52) rfl rfl ?_
    exact Steps.refl _)
  obtain ⟨T15, X15, p15, bl15, sl15, st15⟩ := X13.finit hexec hown (wk W (.fieldLink "java/lang/String" 9 "java/lang/String" "value" "[B")) (Or.inr ⟨_, (wk W (.laysFinal "java/lang/String" "java/lang/String" "value" "[B"))⟩) (Or.inl ⟨rfl, hnm⟩) f1 (Or.inl rfl) bl13 (t := (.array .byte)) (by decide +kernel) rfl (g := (mkF m 54 #[.val (.ref a), .val (.ref b), .val (.int (Int32.ofNat o)), .val (.int (Int32.ofNat len)), .val .null, .val (.ref s.heap.size)] [.ref s.heap.size, .ref a])) rfl (rest := []) rfl (hb hbytes d54)
  have c16 : Steps p.tables e below (s₁.setTop (entryFrame m #[.ref a, .ref b, .int (Int32.ofNat o), .int (Int32.ofNat len), .null] 6)) (T15.setTop (mkF m 57 #[.val (.ref a), .val (.ref b), .val (.int (Int32.ofNat o)), .val (.int (Int32.ofNat len)), .val .null, .val (.ref s.heap.size)] [])) := c14.trans (st15 _ (Steps.refl _))
  have ap := apart (Or.inr ⟨_, (wk W (.laysFinal "java/lang/String" "java/lang/String" "value" "[B"))⟩) (Or.inr ⟨_, (wk W (.laysFinal "java/lang/String" "java/lang/String" "coder" "B"))⟩) f1 f2 (t₁ := .array .byte) (t₂ := .byte) (by decide +kernel) (by decide +kernel) (by decide)
  have al := X8.warmed.alike.symm.trans X15.warmed.alike
  have n7 : T11.heap[s.heap.size]? = some N := by rw [q11]; exact n1.1
  exact ⟨T15, none, _, _, _, X15, by simp, rfl, by omega, (fun _ => rfl), ⟨rfl, _, N, bl15, ((Same.refl D _).set _ (by simp)).set _ (by simp), sl15, (Cell.slots_setSlot_ne _ ap).trans sl13, n1.keep al (p15.other hne (p13.other hne n7)), n2, by rw [al.findClass]; exact n3, n4, n5, fun y c h1 h2 => p15.other h1 (p13.other h1 (by rw [q11]; exact n6 y c h2)), by rw [p15.2.2, p13.2.2, q11]; exact z8⟩, fun fs hl => c16.trans (X15.returnOut hexec hret (hb hbytes d57) hl)⟩
end New4
namespace New1
def yN : MethodName := ⟨"java/lang/String", "<init>", "([C)V"⟩
abbrev yB : ByteArray := jdk_42_method_3_code
theorem d0 : decode yB 0 = .ok (.aload_n 0, 1) := by decide +kernel
theorem d1 : decode yB 1 = .ok (.aload_n 1, 1) := by decide +kernel
theorem d2 : decode yB 2 = .ok (.iconst 0, 1) := by decide +kernel
theorem d3 : decode yB 3 = .ok (.aload_n 1, 1) := by decide +kernel
theorem d4 : decode yB 4 = .ok (.arraylength, 1) := by decide +kernel
theorem d5 : decode yB 5 = .ok (.aconst_null, 1) := by decide +kernel
theorem d6 : decode yB 6 = .ok (.invokespecial 27, 3) := by decide +kernel
theorem d9 : decode yB 9 = .ok (.return_, 1) := by decide +kernel
def site : List Cond := [New4.tab] ++ initW "java/lang/String" 27 New4.yN
def tab : Cond := tabOf yN yB 2 none site
def P (a : Addr) (D : Cell) (fV fC : Field) (b : Addr) (A : Cell) (z : Int32) (args : Array Value) (s : State) : Prop := args = #[.ref a, .ref b] ∧ Blank "java/lang/String" a D s ∧ Found "java/lang/String" "value" "[B" fV s ∧ Found "java/lang/String" "coder" "B" fC s ∧ Ch b A s ∧ StaticIs s "java/lang/String" "COMPACT_STRINGS" "Z" (.int z) ∧ ¬ z = 0 ∧ 0 < A.slots.size ∧ A.slots.size ≤ 536870912 ∧ ∀ i, i < A.slots.size → ¬ 255 < cv A i
def E (a : Addr) (D : Cell) (fV fC : Field) (A : Cell) (r : Option Value) (s u : State) : Prop := Got a D fV fC A 0 A.slots.size r s u
/-- new String(chars), not empty, no char above 255: a Latin-1 String of their low bytes -/
theorem law (l : Launch) (a : Addr) (D : Cell) (fV fC : Field) (b : Addr) (A : Cell) (z : Int32) : Law l yN 2 1 3 52 yB 2 none site (P a D fV fC b A z) (E a D fV fC A) [⟨a, fC.slot⟩, ⟨a, fV.slot⟩] 1 A.slots.size := by
  refine Law.of_walk (plainFor_of_name (by decide +kernel)) (by decide +kernel) (by decide +kernel) (by decide) (fun _ _ h => by rw [h.1]; rfl) (fun _ U U' hal hh h => ⟨h.1, h.2.1.mv hal hh, h.2.2.1.al hal, h.2.2.2.1.al hal, h.2.2.2.2.1.mv hal hh, h.2.2.2.2.2.1.there hal hh, h.2.2.2.2.2.2⟩) (fun r U U' V V' h1 hal h2 h => Got.mv r U U' V V' h1 hal h2 h) ?_
  intro p e s m args below meth c s₁ X0 hexec hbytes hml hret hlk hnm hown hh0 W hP
  obtain ⟨rfl, hB, f1, f2, hA, s1, hz, l0, l2, hp⟩ := hP
  have c1 : Steps p.tables e below (s₁.setTop (entryFrame m #[.ref a, .ref b] 2)) (s₁.setTop (mkF m 0 #[.val (.ref a), .val (.ref b)] [])) := entry rfl
  have c2 : Steps p.tables e below (s₁.setTop (entryFrame m #[.ref a, .ref b] 2)) (s₁.setTop (mkF m 6 #[.val (.ref a), .val (.ref b)] [.null, .int (Int32.ofNat A.slots.size), .int 0, .ref b, .ref a])) := c1.trans (by
    refine XS.aloadN X0.here hexec rfl (hb hbytes d0) rfl rfl ?_
    refine XS.aloadN X0.here hexec rfl (hb hbytes d1) rfl rfl ?_
    refine iconstV X0.here hexec rfl 0 (hb hbytes d2) (by decide) ?_
    refine XS.aloadN X0.here hexec rfl (hb hbytes d3) rfl rfl ?_
    refine X0.alen hexec (hA.1.mv X0.warmed.alike hh0) rfl rfl (hb hbytes d4) ?_
    refine XS.aconstNull X0.here hexec rfl (hb hbytes d5) ?_
    exact Steps.refl _)
  obtain ⟨v3, T3, X3, E3, g3⟩ := X0.callN hexec (New4.law l a D fV fC b A z 0 A.slots.size) rfl hown (wks W (initW "java/lang/String" 27 New4.yN)) (W New4.tab (by simp only [site, List.mem_cons, List.mem_append, true_or, or_true])) (W := 0) (Nat.le_of_ble_eq_true rfl) (Nat.le_of_ble_eq_true rfl) (Nat.le_refl _) (by show 0 + A.slots.size ≤ A.slots.size; omega) (g := (mkF m 6 #[.val (.ref a), .val (.ref b)] [.null, .int (Int32.ofNat A.slots.size), .int (Int32.ofNat 0), .ref b, .ref a])) rfl (by rw [hml]; rfl) c2 (argsL := [.ref b, .int (Int32.ofNat 0), .int (Int32.ofNat A.slots.size), .null]) (rest := []) rfl rfl (by show 2 * 0 + 0 ≤ _; decide) (hb hbytes d6) (⟨rfl, hB.mv X0.warmed.alike hh0, f1.al X0.warmed.alike, f2.al X0.warmed.alike, hA.mv X0.warmed.alike hh0, s1.there X0.warmed.alike hh0, hz, l0, by omega, l2, fun i hi => by rw [Nat.zero_add]; exact hp i hi⟩)
  have e0 := Got.mv _ s₁ s _ _ hh0.symm (Vm.Alike.refl _) rfl E3
  obtain rfl := e0.1
  have c4 : Steps p.tables e below (s₁.setTop (entryFrame m #[.ref a, .ref b] 2)) (T3.setTop (mkF m 9 #[.val (.ref a), .val (.ref b)] [])) := g3
  exact ⟨T3, none, _, _, _, X3, by simp, rfl, by omega, (fun _ => rfl), e0, fun fs hl => c4.trans (X3.returnOut hexec hret (hb hbytes d9) hl)⟩
theorem pays {l : Launch} {R : Room} {p : Program} {e : Env} {below : List Frame} {s : State} {sargs : Array Value} {len W : Nat} (a : Addr) (D : Cell) (fV fC : Field) (b : Addr) (A : Cell) (z : Int32) (htab : tab.before sargs s = true) (hfr : 4 ≤ R.frames) (hlo : W + 65 ≤ R.locals) :
    Back l R p e below s sargs yN len W (fun A₁ a₁ => A₁.cells + 1 ≤ R.cells ∧ A₁.slots + A.slots.size ≤ R.slots ∧ P a D fV fC b A z a₁ A₁.U) (fun A₁ _ v₁ B₁ => E a D fV fC A v₁ A₁.U B₁.U ∧ B₁.locs = A₁.locs ++ [⟨a, fC.slot⟩, ⟨a, fV.slot⟩] ∧ B₁.cells = A₁.cells + 1 ∧ B₁.slots = A₁.slots + A.slots.size) :=
  (law l a D fV fC b A z).pays htab hfr (by omega)
end New1
end StrChars
namespace StrChars.Road
open Jvm Sem ClassFile Op Lib Jvm.Stand Jvm.Free Jvm.Free.XT
open Jvm.Lib.Cold (StaticIs)
abbrev ST : String := "java/lang/String"
/-- every table word that New1's law asks, flat -/
abbrev words : List Jvm.Cond := [.code New1.yN New1.yB 2 none, .initialized ST, .methodLink ST 27 New4.yN, .instanceMethod New4.yN,
  .code New4.yN New4.yB 6 none, .fieldLink ST 38 ST "COMPACT_STRINGS" "Z", .laysFinal ST ST "value" "[B", .fieldLink ST 9 ST "value" "[B", .laysFinal ST ST "coder" "B", .fieldLink ST 15 ST "coder" "B",
  .methodLink ST 1 Lib.objectInit, .instanceMethod Lib.objectInit, .code Lib.objectInit ⟨#[0xb1]⟩ 1 none, .methodLink ST 177 Cmp3.yN, .static Cmp3.yN, .methodLink ST 47 CodL.yN, .static CodL.yN,
  .code Cmp3.yN Cmp3.yB 6 (some (.array .byte)), .initialized U16, .arrayClass .byte, .methodLink U16 115 Cmp5.yN, .static Cmp5.yN, .code Cmp5.yN Cmp5.yB 7 (some .int), .code CodL.yN CodL.yB 2 (some .byte)]
theorem tab_of {a : Array Value} {s : State} (h : ∀ w ∈ words, w.before a s = true) : New1.tab.before a s = true := by
  have h5 : Cmp5.tab.before a s = true := unparts (wk h (.code Cmp5.yN Cmp5.yB 7 (some .int))) (wks h (.initialized Cmp5.yN.cls :: Cmp5.site))
  have hc : CodL.tab.before a s = true := unparts (wk h (.code CodL.yN CodL.yB 2 (some .byte))) (wks h (.initialized CodL.yN.cls :: CodL.site))
  have q5 : ∀ w ∈ Cmp5.tab :: words, w.before a s = true := fun w hw => (List.mem_cons.mp hw).elim (fun e => e ▸ h5) (h w)
  have h3 : Cmp3.tab.before a s = true := unparts (wk q5 (.code Cmp3.yN Cmp3.yB 6 (some (.array .byte)))) (wks q5 (.initialized Cmp3.yN.cls :: Cmp3.site))
  have q3 : ∀ w ∈ Cmp3.tab :: CodL.tab :: words, w.before a s = true := fun w hw => (List.mem_cons.mp hw).elim (fun e => e ▸ h3) fun hw => (List.mem_cons.mp hw).elim (fun e => e ▸ hc) (h w)
  have h4 : New4.tab.before a s = true := unparts (wk q3 (.code New4.yN New4.yB 6 none)) (wks q3 (.initialized New4.yN.cls :: New4.site))
  have q4 : ∀ w ∈ New4.tab :: words, w.before a s = true := fun w hw => (List.mem_cons.mp hw).elim (fun e => e ▸ h4) (h w)
  exact unparts (wk q4 (.code New1.yN New1.yB 2 none)) (wks q4 (.initialized New1.yN.cls :: New1.site))
/-- the words ride from the start Z to the walk's own state -/
theorem moved {Z s : State} {a0 args : Array Value} (hZ : Z.Warmed39 s.vm) (hw : ∀ d ∈ words, d.before a0 Z = true) : ∀ d ∈ words, d.before args s = true := fun d hd => by
  have q := hw d hd
  have t : ∀ d ∈ words, d = .arrayClass .byte ∨ (d.onTables && d.keepsFace) = true := by decide +kernel
  rcases t d hd with rfl | t
  · exact RoadKit.mvA hZ q
  · exact RoadKit.mv hZ q t
/-- WHAT COMES BACK, over the tables of the start Z: h the heap at the call, h' behind it -/
def Q (Z : State) (x : Addr) (A : Cell) (h : Heap) (v : Option Value) (h' : Heap) (L : List Loc) : Prop := v = none ∧ (∀ y ∈ L, y.base = x) ∧ RoadKit.Keep h h' [x] ∧ h'.size = h.size + 1 ∧ RoadKit.Exa Z h' x ST ∧ RoadKit.Fld Z h' x ST "value" "[B" (.ref h.size) ∧ RoadKit.Fld Z h' x ST "coder" "B" (.int 0) ∧
  (∃ V : Cell, RoadKit.Arr Z h' h.size V .byte ∧ V.vm = .none ∧ Z.vm.findClass "[B" = some V.cls ∧ V.slots.size = A.slots.size ∧ ∀ j, j < A.slots.size → V.slots[j]? = some (.int (lo8 (cv A j)))) ∧
  ∀ (O n d : String) (w : Value), RoadKit.Fld Z h x O n d w → RoadKit.slotOf Z O n d ≠ RoadKit.slotOf Z ST "value" "[B" → RoadKit.slotOf Z O n d ≠ RoadKit.slotOf Z ST "coder" "B" → RoadKit.Fld Z h' x O n d w
/-- **new String(chars) AT A CALL, IN THE ROAD'S FORM**: for specialBack behind newO: x the fresh String, b the char[] with the cell A -/
theorem back {p : Program} {l : Launch} {e : Env} {R : Room} {s : State} {args : Array Value} {below : List Frame} {len W : Nat} {Z : State} {a0 : Array Value} {h : Heap} (hZ : Z.Warmed39 s.vm) (hw : ∀ d ∈ words, d.before a0 Z = true) {kI : Nat} (wi : (Jvm.Cond.instantiable ST kI).before a0 Z = true)
    {x b : Addr} {A : Cell} {z : Int32} {v0 c0 : Value} (E : RoadKit.Exa Z h x ST) (V : RoadKit.Fld Z h x ST "value" "[B" v0) (C : RoadKit.Fld Z h x ST "coder" "B" c0) (K : RoadKit.Arr Z h b A .char) (hty : Typed .char A) (S : RoadKit.Sta Z h ST "COMPACT_STRINGS" "Z" (.int z)) (hz : ¬ z = 0)
    (l0 : 0 < A.slots.size) (l2 : A.slots.size ≤ 536870912) (hp : ∀ i, i < A.slots.size → ¬ 255 < cv A i) (hfr : 4 ≤ R.frames) (hlo : W + 65 ≤ R.locals) :
    Back l R p e below s args New1.yN len W (fun P a => a = #[.ref x, .ref b] ∧ P.U.heap = h ∧ P.cells + 1 ≤ R.cells ∧ P.slots + A.slots.size ≤ R.slots)
      (fun P _ v B => ∃ L, Q Z x A h v B.U.heap L ∧ B.locs = P.locs ++ L ∧ B.cells = P.cells + 1 ∧ B.slots = P.slots + A.slots.size) := by
  intro m meth c P g ig mk a X hg hsize hdg hW hn hp'
  obtain ⟨rfl, rfl, r1, r2⟩ := hp'
  have al : Z.vm.Alike P.U.vm := hZ.alike.trans X.warmed.alike
  obtain ⟨D, cfV, kV, iV, fV, hD, gV, stV, knV, obV, asV, slV⟩ := id V
  obtain ⟨D', cfC, kC, iC, fC, hD', gC, stC, -, -, asC, slC⟩ := id C
  cases hD.symm.trans hD'
  obtain ⟨D2, kD, e1, e2, e3, e4, e5⟩ := id E
  cases hD.symm.trans e1
  obtain ⟨c2, k2, i1, i2, i3, -⟩ := Cond.instantiable_spec wi
  cases e2.symm.trans i1
  cases e3.symm.trans i2
  obtain ⟨kU, u1, u2⟩ := al.2.2 _ _ e3
  have hB : Blank ST x D P.U := ⟨hD, ⟨knV, fun q hq => by rw [hq] at obV; cases obV⟩, by rw [al.findClass]; exact e2, kU, u1, by rw [u2]; exact i3, by rw [u2]; exact e5 i3⟩
  have F1 : Found ST "value" "[B" fV P.U := ⟨SBG.found_only al ⟨cfV, kV, iV, gV⟩, stV⟩
  have F2 : Found ST "coder" "B" fC P.U := ⟨SBG.found_only al ⟨cfC, kC, iC, gC⟩, stC⟩
  have hA : Ch b A P.U := ⟨⟨K.1, State.isArrayOf_alike al K.2.1, K.2.2, by omega⟩, hty⟩
  have hS : StaticIs P.U ST "COMPACT_STRINGS" "Z" (.int z) := by
    obtain ⟨cfS, iS, kS, fS, st, cS, t1, t2, t3, t4, t5, t6, t7⟩ := S
    exact StaticIs.there (s := { Z with heap := P.U.heap }) ⟨cfS, iS, kS, fS, st, cS, t1, t2, t3, t4, t5, (fun q => by rw [q] at t6; cases t6), t7⟩ al rfl
  obtain ⟨v, B, X', ⟨⟨hv, E', V', q1, q2, q3, q4, q5, q6, q7, q8, q9, q10, q11⟩, hl, hc, hs⟩, st⟩ := New1.pays x D fV fC b A z (tab_of (moved hZ hw)) hfr hlo m meth c P g ig mk _ X hg hsize hdg hW hn ⟨r1, r2, rfl, hB, F1, F2, hA, hS, hz, l0, l2, hp⟩
  have al' : Z.vm.Alike B.U.vm := hZ.alike.trans X'.warmed.alike
  have hsz : E'.slots.size = D.slots.size := by
    obtain ⟨-, -, -, kB, w1, w2, w3⟩ := q1
    obtain ⟨kB', y1, y2⟩ := al'.2.2 _ _ e3
    rw [q2.2.1] at w1
    cases w1.symm.trans y1
    rw [w3, e5 i3, y2]
  refine ⟨v, B, X', ⟨_, ⟨hv, ?_, ⟨by omega, fun y cy hy hn' => q10 y cy (by simpa using hn') hy, fun y cy hy => ?_⟩, q11, ⟨E', _, q1.1, by rw [q2.2.1]; exact e2, by rw [q2.2.1]; exact e3, by rw [q2.1]; exact obV, fun _ => by rw [hsz]; exact e5 i3⟩,
    ⟨E', cfV, kV, iV, fV, q1.1, gV, stV, by rw [q2.1]; exact knV, by rw [q2.1]; exact obV, by rw [q2.2.1]; exact asV, q3⟩, ⟨E', cfC, kC, iC, fC, q1.1, gC, stC, by rw [q2.1]; exact knV, by rw [q2.1]; exact obV, by rw [q2.2.1]; exact asC, q4⟩,
    ⟨V', ⟨q5.1, State.isArrayOf_alike al'.symm q5.2.1, q5.2.2.1⟩, q6, by rw [← al'.findClass]; exact q7, q8, fun j hj => by have := q9 j hj; rwa [Nat.zero_add] at this⟩, fun O n d w F n1 n2 => ?_⟩, hl, hc, hs⟩, st⟩
  · intro y hy
    simp only [List.mem_cons, List.not_mem_nil, or_false] at hy
    rcases hy with rfl | rfl <;> rfl
  · by_cases q : y = x
    · subst q
      cases hD.symm.trans hy
      exact ⟨E', q1.1, q2.2.1, q2.1, hsz⟩
    · exact ⟨cy, q10 y cy q hy, rfl, rfl, rfl⟩
  · obtain ⟨D3, cf, k, i, f, g1, g2, g3, g4, g5, g6, g7⟩ := F
    cases hD.symm.trans g1
    simp only [RoadKit.slotOf, g2, gV, gC, Option.map_some, Option.getD_some] at n1 n2
    exact ⟨E', cf, k, i, f, q1.1, g2, g3, by rw [q2.1]; exact g4, by rw [q2.1]; exact g5, by rw [q2.2.1]; exact g6, by rw [q2.2.2 f.slot (by simp [n1, n2])]; exact g7⟩
end StrChars.Road
namespace StrChars.Road
open Jvm Sem ClassFile Op Lib Jvm.Stand Jvm.Free Jvm.Free.XT
/-- WHAT COMES BACK, the byte[] as a list of values -/
def QA (Z : State) (x : Addr) (zn : Int32) (cs : List Int32) (h : Heap) (v : Option Value) (h' : Heap) (L : List Loc) : Prop := v = none ∧ (∀ y ∈ L, y.base = x) ∧ RoadKit.Keep h h' [x] ∧ h'.size = h.size + 1 ∧ RoadKit.Exa Z h' x ST ∧ RoadKit.Fld Z h' x ST "value" "[B" (.ref h.size) ∧ RoadKit.Fld Z h' x ST "coder" "B" (.int 0) ∧
  (∃ kb, Z.vm.findClass "[B" = some kb ∧ RoadKit.Arv Z h' h.size kb .byte zn (cs.map fun c => .int (lo8 c)) (.int 0)) ∧
  ∀ (O n d : String) (w : Value), RoadKit.Fld Z h x O n d w → RoadKit.slotOf Z O n d ≠ RoadKit.slotOf Z ST "value" "[B" → RoadKit.slotOf Z O n d ≠ RoadKit.slotOf Z ST "coder" "B" → RoadKit.Fld Z h' x O n d w
/-- **new String(chars) AT A CALL, THE ARRAYS AS LISTS**: the char[] at b holds cs, not empty, no char above 255 -/
theorem backArv {p : Program} {l : Launch} {e : Env} {R : Room} {s : State} {args : Array Value} {below : List Frame} {len W : Nat} {Z : State} {a0 : Array Value} {h : Heap} (hZ : Z.Warmed39 s.vm) (hw : ∀ d ∈ words, d.before a0 Z = true) {kI : Nat} (wi : (Jvm.Cond.instantiable ST kI).before a0 Z = true)
    {x b : Addr} {k : ClassId} {zn z : Int32} {cs : List Int32} {dv v0 c0 : Value} (E : RoadKit.Exa Z h x ST) (V : RoadKit.Fld Z h x ST "value" "[B" v0) (C : RoadKit.Fld Z h x ST "coder" "B" c0) (K : RoadKit.Arv Z h b k .char zn (cs.map Value.int) dv) (S : RoadKit.Sta Z h ST "COMPACT_STRINGS" "Z" (.int z)) (hz : ¬ z = 0)
    (hlen : zn.toNatClampNeg = cs.length) (h0 : 0 < cs.length) (hbig : cs.length ≤ 536870912) (hall : ∀ c ∈ cs, ¬ 255 < c) (hfr : 4 ≤ R.frames) (hlo : W + 65 ≤ R.locals) :
    Back l R p e below s args New1.yN len W (fun P a => a = #[.ref x, .ref b] ∧ P.U.heap = h ∧ P.cells + 1 ≤ R.cells ∧ P.slots + cs.length ≤ R.slots)
      (fun P _ v B => ∃ L, QA Z x zn cs h v B.U.heap L ∧ B.locs = P.locs ++ L ∧ B.cells = P.cells + 1 ∧ B.slots = P.slots + cs.length) := by
  obtain ⟨A, K1, K2, K3, K4, K5, K6⟩ := K
  have e : A.slots.size = cs.length := K3.trans hlen
  have hat : ∀ (i : Nat) (hi : i < cs.length), A.slots[i]? = some (.int cs[i]) := fun i hi => by rw [K5 i (by omega)]; simp [List.getD_eq_getElem?_getD, hi]
  have hcv : ∀ (i : Nat) (hi : i < cs.length), cv A i = cs[i] := fun i hi => by unfold cv; rw [hat i hi]
  have hty : Typed .char A := fun i v hv => by
    have hi : i < A.slots.size := (Array.getElem?_eq_some_iff.mp hv).1
    have q := K5 i hi
    rw [hv] at q
    rw [Option.some.inj q]
    exact K6 i hi
  refine Back.mono (back hZ hw wi E V C K1 hty S hz (by omega) (by omega) (fun i hi => by rw [hcv i (by omega)]; exact hall _ (List.getElem_mem _)) hfr hlo) (fun P a hp => ⟨hp.1, hp.2.1, hp.2.2.1, by rw [e]; exact hp.2.2.2⟩) (fun P a v B hp hq => ?_)
  obtain ⟨L, ⟨q1, q2, q3, q4, q5, q6, q7, ⟨V', v1, v2, v3, v4, v5⟩, q9⟩, hl, hc, hs⟩ := hq
  refine ⟨L, ⟨q1, q2, q3, q4, q5, q6, q7, ⟨V'.cls, v3, V', v1, rfl, by rw [v4, e, hlen], K4, fun i hi => ?_, fun i hi => ?_⟩, q9⟩, hl, hc, by rw [hs, e]⟩
  · have hi' : i < cs.length := by omega
    rw [v5 i (by omega), hcv i hi']; simp [List.getD_eq_getElem?_getD, hi']
  · have hi' : i < cs.length := by omega
    simp only [List.getD_eq_getElem?_getD, List.getElem?_map, List.getElem?_eq_getElem hi', Option.map_some, Option.getD_some]
    exact fits_lo8 _
end StrChars.Road
namespace StrChars.Road
open Jvm Sem ClassFile Op Lib Jvm.Stand Jvm.Free Jvm.Free.XT
/-- WHAT COMES BACK, in the writer's own shape -/
def QV (Z : State) (x : Addr) (N : Int32) (bs : List Int32) (h : Heap) (n0 : Nat) (v : Option Value) (h' : Heap) (L : List Loc) : Prop := v = none ∧ RoadKit.Fr n0 L ∧ RoadKit.Keep h h' [x] ∧ RoadKit.Exa Z h' x ST ∧ RoadKit.Fld Z h' x ST "coder" "B" (.int 0) ∧
  ∃ (t : Addr) (kb : ClassId), n0 ≤ t ∧ h.size ≤ t ∧ ¬ t = x ∧ RoadKit.Fld Z h' x ST "value" "[B" (.ref t) ∧ RoadKit.Arv Z h' t kb .byte N (bs.map Value.int) (.int 0)
/-- **new String(chars) AT A CALL, FOR THE WRITER**: a char[] of n known ints, each 0 to 255 -/
theorem backV {p : Program} {l : Launch} {e : Env} {R : Room} {s : State} {args : Array Value} {below : List Frame} {len W : Nat} {Z : State} {a0 : Array Value} {h : Heap} (hZ : Z.Warmed39 s.vm) (hw : ∀ d ∈ words, d.before a0 Z = true) {kI : Nat} (wi : (Jvm.Cond.instantiable ST kI).before a0 Z = true)
    {x b : Addr} {kC : ClassId} {cs bs : List Int32} {d v0 c0 : Value} {z N : Int32} {n n0 : Nat} (hx0 : n0 ≤ x) (hh0 : n0 ≤ h.size) (E : RoadKit.Exa Z h x ST) (V : RoadKit.Fld Z h x ST "value" "[B" v0) (C : RoadKit.Fld Z h x ST "coder" "B" c0) (K : RoadKit.Arv Z h b kC .char N (cs.map Value.int) d) (S : RoadKit.Sta Z h ST "COMPACT_STRINGS" "Z" (.int z)) (hz : ¬ z = 0)
    (hn : cs.length = n) (hN : N = Int32.ofNat n) (l0 : 0 < n) (l2 : n ≤ 4000) (hp : ∀ c ∈ cs, ¬ c < 0 ∧ ¬ (255 : Int32) < c) (hb : bs = cs.map (fun c => c.toInt8.toInt32)) (hfr : 4 ≤ R.frames) (hlo : W + 65 ≤ R.locals) :
    Back l R p e below s args (⟨"java/lang/String", "<init>", "([C)V"⟩ : MethodName) len W (fun P a => a = #[.ref x, .ref b] ∧ P.U.heap = h ∧ P.cells + 1 ≤ R.cells ∧ P.slots + n ≤ R.slots)
      (fun P _ v B => ∃ L, QV Z x N bs h n0 v B.U.heap L ∧ B.locs = P.locs ++ L ∧ B.cells = P.cells + 1 ∧ B.slots = P.slots + n) := by
  subst hn hN hb
  refine Back.mono (backArv hZ hw wi E V C K S hz (n32 (by omega)) l0 (by omega) (fun c hc => (hp c hc).2) hfr hlo) (fun P a hp => hp) (fun P a v B hp hq => ?_)
  obtain ⟨L, ⟨q1, q2, q3, q4, q5, q6, q7, ⟨kb, v1, v2⟩, q9⟩, hl, hc, hs⟩ := hq
  exact ⟨L, ⟨q1, fun y hy => by rw [q2 y hy]; exact hx0, q3, q5, q7, h.size, kb, hh0, Nat.le_refl _, Nat.ne_of_gt E.lt, q6, by rw [List.map_map]; exact v2⟩, hl, hc, hs⟩
end StrChars.Road
end Jvm.Pilot.@@N@@

namespace Jvm.Pilot.@@N@@
open Jvm Jvm.ClassFile Sem Op Lib Jvm.Free Jvm.Stand Jvm.LawKit Jvm.RoadKit Bundle Jvm.Ow Jvm.Pilot.@@N@@.Jvm.D
theorem wSt {a0 : Array Value} {Z : State} (hw : ∀ d ∈ tables_1, d.before a0 Z = true) : ∀ d ∈ Bundle.stringAtoms, d.before a0 Z = true := fun d hd => hw d ((by decide +kernel : ∀ d ∈ Bundle.stringAtoms, d ∈ tables_1) d hd)
theorem nref {t : FieldType} {w : Value} (h : w.isRef = true) : narrow t w = w := by cases w <;> first | (cases t <;> rfl) | cases h
theorem fref {C : String} {w : Value} (h : w.isRef = true) : fits (.object C) w = true := by cases w <;> first | rfl | cases h

theorem wCh {a0 : Array Value} {Z : State} (hw : ∀ d ∈ tables_1, d.before a0 Z = true) : ∀ d ∈ StrChars.Road.words, d.before a0 Z = true := fun d hd => hw d ((by decide +kernel : ∀ d ∈ StrChars.Road.words, d ∈ tables_1) d hd)
/-- what new String(chars) leaves -/
def QStr (Z : State) (x : Addr) (N : Int32) (cs : List Int32) (h : Heap) (v : Option Value) (u : Heap) : Prop := ∃ (t : Addr) (kb : ClassId), v = none ∧ Keep h u [x] ∧ Exa Z u x "java/lang/String" ∧ Fld Z u x "java/lang/String" "coder" "B" (.int (0 : Int32)) ∧ Fld Z u x "java/lang/String" "value" "[B" (.ref t) ∧ Arv Z u t kb .byte N ((cs.map fun c => c.toInt8.toInt32).map Value.int) (.int (0 : Int32)) ∧ h.size ≤ t
theorem payStr {p : Program} {l : Launch} {e : Env} {R : Room} {s : State} {m : MethodId} {args : Array Value} {below : List Frame} {meth : Method} {c : Code} {own : String} {Z : State} {a0 : Array Value} {EL : List (String × Nat)} {h0 : Heap} {T : State} {h : Heap} {vm : Vm} {cells slots : Nat} (X : Wk p l e R s m args below meth c own Z a0 EL h0 T h vm cells slots) {len W : Nat} (hw : ∀ d ∈ tables_1, d.before a0 Z = true) (wi : (Jvm.Cond.instantiable "java/lang/String" 4).before a0 Z = true)
    {x b : Addr} {kC : ClassId} (cs : List Int32) {d v0 c0 : Value} {z N : Int32} (n : Nat) (hx0 : Z.heap.size ≤ x) (E : Exa Z h x "java/lang/String") (V : Fld Z h x "java/lang/String" "value" "[B" v0) (C : Fld Z h x "java/lang/String" "coder" "B" c0) (K : Arv Z h b kC .char N (cs.map Value.int) d) (S : Sta Z Z.heap "java/lang/String" "COMPACT_STRINGS" "Z" (.int z)) (hz : ¬ z = 0)
    (hn : cs.length = n) (hN : N = Int32.ofNat n) (l0 : 0 < n) (l2 : n ≤ 4000) (hp : ∀ c ∈ cs, ¬ c < 0 ∧ ¬ (255 : Int32) < c) (hfr : 4 ≤ R.frames) (hlo : W + 65 ≤ R.locals) (sf : Safe Z EL vm h x) :
    Pay l R p e below s args (⟨"java/lang/String", "<init>", "([C)V"⟩ : MethodName) len W Z EL vm h #[.ref x, .ref b] 1 n (QStr Z x N cs h) :=
  X.payN (ws := [x]) (StrChars.Road.backV (s := s.setVm vm) (n0 := Z.heap.size) X.hZ (wCh hw) wi hx0 X.ge E V C K (X.sta S) hz hn hN l0 l2 hp rfl hfr hlo)
    (fun v u L q => by obtain ⟨q1, q2, q3, q4, q5, t, kb, q6, q7, q8, q9, q10⟩ := q; exact ⟨q2, q3, t, kb, q1, q3, q4, q5, q9, q10, q7⟩) (allS hx0 all0) (sfS sf sf0)

theorem arv0 {s : State} {args : Array Value} {t : Term} {a : Addr} {ty : FieldType} (hf : Fit s) (ev : t.eval args s none [] s = some (.ref a)) (hx : (Jvm.Cond.arrayOf t ty).value args s none s [] = some true) (hl : (Jvm.Cond.eq (.length t) (.int (0 : Int32))).value args s none s [] = some true) : ∃ k, Arv s s.heap a k ty (0 : Int32) [] .null := by
  obtain ⟨cl, A⟩ := Arr.start ev hx
  have q : (Term.length t).eval args s none [] s = some (.int (0 : Int32)) := Cond.eq_int (Cond.before_iff.mpr hl) rfl
  have ha : s.arrayAt? a = some cl := A.fin (Vm.Alike.refl _)
  have q2 : cl.slots.size < 2 ^ 31 ∧ cl.slots.size.toInt32 = (0 : Int32) := by simpa [Term.eval, ev, ha] using q
  exact ⟨cl.cls, Arv.start hf A q2.1 q2.2 (by decide) rfl trivial⟩

theorem lvl_ok (x : Int32) : ¬ ((x &&& (1073741823 : Int32)) + (1 : Int32)) < (1 : Int32) := by
  have q := c_and x (1073741823 : Int32) (by decide)
  have e1 : (1 : Int32).toInt = 1 := by decide
  have e2 : (1073741823 : Int32).toInt = 1073741823 := by decide
  rw [Int32.lt_iff_toInt_lt, Int32.toInt_add, e1]
  rw [e2] at q
  have := Int.bmod_eq_of_le (n := (x &&& (1073741823 : Int32)).toInt + 1) (m := 2 ^ 32) (by omega) (by omega)
  rw [this]; omega

theorem w0 {a0 : Array Value} {Z : State} (hw : ∀ d ∈ tables_1, d.before a0 Z = true) : ((Jvm.Cond.arrayClass Jvm.ClassFile.FieldType.char) : Jvm.Cond).before a0 Z = true := hw _ (List.mem_of_getElem? (i := 0) rfl)
theorem w1 {a0 : Array Value} {Z : State} (hw : ∀ d ∈ tables_1, d.before a0 Z = true) : ((Jvm.Cond.classLink "org/holdfast/model/EnumerationAndChronologyCodedPinLaw" (7 : Nat) "java/lang/String") : Jvm.Cond).before a0 Z = true := hw _ (List.mem_of_getElem? (i := 1) rfl)
theorem w2 {a0 : Array Value} {Z : State} (hw : ∀ d ∈ tables_1, d.before a0 Z = true) : ((Jvm.Cond.instantiable "java/lang/String" (4 : Nat)) : Jvm.Cond).before a0 Z = true := hw _ (List.mem_of_getElem? (i := 2) rfl)
theorem w3 {a0 : Array Value} {Z : State} (hw : ∀ d ∈ tables_1, d.before a0 Z = true) : ((Jvm.Cond.initialized "java/lang/String") : Jvm.Cond).before a0 Z = true := hw _ (List.mem_of_getElem? (i := 3) rfl)
theorem w4 {a0 : Array Value} {Z : State} (hw : ∀ d ∈ tables_1, d.before a0 Z = true) : ((Jvm.Cond.methodLink "org/holdfast/model/EnumerationAndChronologyCodedPinLaw" (9 : Nat) ({ cls := "java/lang/String", name := "<init>", desc := "([C)V" } : Jvm.MethodName)) : Jvm.Cond).before a0 Z = true := hw _ (List.mem_of_getElem? (i := 4) rfl)
theorem w5 {a0 : Array Value} {Z : State} (hw : ∀ d ∈ tables_1, d.before a0 Z = true) : ((Jvm.Cond.instanceMethod ({ cls := "java/lang/String", name := "<init>", desc := "([C)V" } : Jvm.MethodName)) : Jvm.Cond).before a0 Z = true := hw _ (List.mem_of_getElem? (i := 5) rfl)
theorem w6 {a0 : Array Value} {Z : State} (hw : ∀ d ∈ tables_1, d.before a0 Z = true) : ((Jvm.Cond.code ({ cls := "java/lang/String", name := "<init>", desc := "([C)V" } : Jvm.MethodName) jdk_42_method_3_code (2 : Nat) (Option.none : Option Jvm.ClassFile.FieldType)) : Jvm.Cond).before a0 Z = true := hw _ (List.mem_of_getElem? (i := 6) rfl)
theorem w12 {a0 : Array Value} {Z : State} (hw : ∀ d ∈ tables_1, d.before a0 Z = true) : ((Jvm.Cond.instanceMethod ({ cls := "java/lang/Object", name := "<init>", desc := "()V" } : Jvm.MethodName)) : Jvm.Cond).before a0 Z = true := hw _ (List.mem_of_getElem? (i := 12) rfl)
theorem w13 {a0 : Array Value} {Z : State} (hw : ∀ d ∈ tables_1, d.before a0 Z = true) : ((Jvm.Cond.code ({ cls := "java/lang/Object", name := "<init>", desc := "()V" } : Jvm.MethodName) object_method_1_code (1 : Nat) (Option.none : Option Jvm.ClassFile.FieldType)) : Jvm.Cond).before a0 Z = true := hw _ (List.mem_of_getElem? (i := 13) rfl)
theorem w27 {a0 : Array Value} {Z : State} (hw : ∀ d ∈ tables_1, d.before a0 Z = true) : ((Jvm.Cond.laysFinal "java/lang/String" "java/lang/String" "coder" "B") : Jvm.Cond).before a0 Z = true := hw _ (List.mem_of_getElem? (i := 27) rfl)
theorem w29 {a0 : Array Value} {Z : State} (hw : ∀ d ∈ tables_1, d.before a0 Z = true) : ((Jvm.Cond.laysFinal "java/lang/String" "java/lang/String" "value" "[B") : Jvm.Cond).before a0 Z = true := hw _ (List.mem_of_getElem? (i := 29) rfl)
theorem w30 {a0 : Array Value} {Z : State} (hw : ∀ d ∈ tables_1, d.before a0 Z = true) : ((Jvm.Cond.classLink "org/holdfast/model/EnumerationAndChronologyCodedPinLaw" (12 : Nat) "org/holdfast/model/Level") : Jvm.Cond).before a0 Z = true := hw _ (List.mem_of_getElem? (i := 30) rfl)
theorem w31 {a0 : Array Value} {Z : State} (hw : ∀ d ∈ tables_1, d.before a0 Z = true) : ((Jvm.Cond.instantiable "org/holdfast/model/Level" (3 : Nat)) : Jvm.Cond).before a0 Z = true := hw _ (List.mem_of_getElem? (i := 31) rfl)
theorem w32 {a0 : Array Value} {Z : State} (hw : ∀ d ∈ tables_1, d.before a0 Z = true) : ((Jvm.Cond.initialized "org/holdfast/model/Level") : Jvm.Cond).before a0 Z = true := hw _ (List.mem_of_getElem? (i := 32) rfl)
theorem w33 {a0 : Array Value} {Z : State} (hw : ∀ d ∈ tables_1, d.before a0 Z = true) : ((Jvm.Cond.constant "org/holdfast/model/EnumerationAndChronologyCodedPinLaw" (14 : Nat) (1073741823 : Int32)) : Jvm.Cond).before a0 Z = true := hw _ (List.mem_of_getElem? (i := 33) rfl)
theorem w34 {a0 : Array Value} {Z : State} (hw : ∀ d ∈ tables_1, d.before a0 Z = true) : ((Jvm.Cond.stringLink "org/holdfast/model/EnumerationAndChronologyCodedPinLaw" (15 : Nat) "v") : Jvm.Cond).before a0 Z = true := hw _ (List.mem_of_getElem? (i := 34) rfl)
theorem w37 {a0 : Array Value} {Z : State} (hw : ∀ d ∈ tables_1, d.before a0 Z = true) : ((Jvm.Cond.methodLink "org/holdfast/model/EnumerationAndChronologyCodedPinLaw" (17 : Nat) ({ cls := "org/holdfast/model/Level", name := "<init>", desc := "(ILjava/lang/String;Ljava/lang/String;)V" } : Jvm.MethodName)) : Jvm.Cond).before a0 Z = true := hw _ (List.mem_of_getElem? (i := 37) rfl)
theorem w38 {a0 : Array Value} {Z : State} (hw : ∀ d ∈ tables_1, d.before a0 Z = true) : ((Jvm.Cond.instanceMethod ({ cls := "org/holdfast/model/Level", name := "<init>", desc := "(ILjava/lang/String;Ljava/lang/String;)V" } : Jvm.MethodName)) : Jvm.Cond).before a0 Z = true := hw _ (List.mem_of_getElem? (i := 38) rfl)
theorem w39 {a0 : Array Value} {Z : State} (hw : ∀ d ∈ tables_1, d.before a0 Z = true) : ((Jvm.Cond.code ({ cls := "org/holdfast/model/Level", name := "<init>", desc := "(ILjava/lang/String;Ljava/lang/String;)V" } : Jvm.MethodName) prog_41_method_1_code (4 : Nat) (Option.none : Option Jvm.ClassFile.FieldType)) : Jvm.Cond).before a0 Z = true := hw _ (List.mem_of_getElem? (i := 39) rfl)
theorem w40 {a0 : Array Value} {Z : State} (hw : ∀ d ∈ tables_1, d.before a0 Z = true) : ((Jvm.Cond.methodLink "org/holdfast/model/Level" (1 : Nat) ({ cls := "java/lang/Record", name := "<init>", desc := "()V" } : Jvm.MethodName)) : Jvm.Cond).before a0 Z = true := hw _ (List.mem_of_getElem? (i := 40) rfl)
theorem w41 {a0 : Array Value} {Z : State} (hw : ∀ d ∈ tables_1, d.before a0 Z = true) : ((Jvm.Cond.instanceMethod ({ cls := "java/lang/Record", name := "<init>", desc := "()V" } : Jvm.MethodName)) : Jvm.Cond).before a0 Z = true := hw _ (List.mem_of_getElem? (i := 41) rfl)
theorem w43 {a0 : Array Value} {Z : State} (hw : ∀ d ∈ tables_1, d.before a0 Z = true) : ((Jvm.Cond.initialized "java/lang/Record") : Jvm.Cond).before a0 Z = true := hw _ (List.mem_of_getElem? (i := 43) rfl)
theorem w44 {a0 : Array Value} {Z : State} (hw : ∀ d ∈ tables_1, d.before a0 Z = true) : ((Jvm.Cond.code ({ cls := "java/lang/Record", name := "<init>", desc := "()V" } : Jvm.MethodName) jdk_30_method_1_code (1 : Nat) (Option.none : Option Jvm.ClassFile.FieldType)) : Jvm.Cond).before a0 Z = true := hw _ (List.mem_of_getElem? (i := 44) rfl)
theorem w45 {a0 : Array Value} {Z : State} (hw : ∀ d ∈ tables_1, d.before a0 Z = true) : ((Jvm.Cond.methodLink "java/lang/Record" (1 : Nat) ({ cls := "java/lang/Object", name := "<init>", desc := "()V" } : Jvm.MethodName)) : Jvm.Cond).before a0 Z = true := hw _ (List.mem_of_getElem? (i := 45) rfl)
theorem w46 {a0 : Array Value} {Z : State} (hw : ∀ d ∈ tables_1, d.before a0 Z = true) : ((Jvm.Cond.stringLink "org/holdfast/model/Level" (7 : Nat) "value") : Jvm.Cond).before a0 Z = true := hw _ (List.mem_of_getElem? (i := 46) rfl)
theorem w47 {a0 : Array Value} {Z : State} (hw : ∀ d ∈ tables_1, d.before a0 Z = true) : ((Jvm.Cond.methodLink "org/holdfast/model/Level" (9 : Nat) ({ cls := "java/util/Objects", name := "requireNonNull", desc := "(Ljava/lang/Object;Ljava/lang/String;)Ljava/lang/Object;" } : Jvm.MethodName)) : Jvm.Cond).before a0 Z = true := hw _ (List.mem_of_getElem? (i := 47) rfl)
theorem w48 {a0 : Array Value} {Z : State} (hw : ∀ d ∈ tables_1, d.before a0 Z = true) : ((Jvm.Cond.static ({ cls := "java/util/Objects", name := "requireNonNull", desc := "(Ljava/lang/Object;Ljava/lang/String;)Ljava/lang/Object;" } : Jvm.MethodName)) : Jvm.Cond).before a0 Z = true := hw _ (List.mem_of_getElem? (i := 48) rfl)
theorem w49 {a0 : Array Value} {Z : State} (hw : ∀ d ∈ tables_1, d.before a0 Z = true) : ((Jvm.Cond.initialized "java/util/Objects") : Jvm.Cond).before a0 Z = true := hw _ (List.mem_of_getElem? (i := 49) rfl)
theorem w50 {a0 : Array Value} {Z : State} (hw : ∀ d ∈ tables_1, d.before a0 Z = true) : ((Jvm.Cond.code ({ cls := "java/util/Objects", name := "requireNonNull", desc := "(Ljava/lang/Object;Ljava/lang/String;)Ljava/lang/Object;" } : Jvm.MethodName) jdk_31_method_11_code (2 : Nat) (Option.some (Jvm.ClassFile.FieldType.object "java/lang/Object"))) : Jvm.Cond).before a0 Z = true := hw _ (List.mem_of_getElem? (i := 50) rfl)
theorem w51 {a0 : Array Value} {Z : State} (hw : ∀ d ∈ tables_1, d.before a0 Z = true) : ((Jvm.Cond.fieldLink "org/holdfast/model/Level" (24 : Nat) "org/holdfast/model/Level" "level" "I") : Jvm.Cond).before a0 Z = true := hw _ (List.mem_of_getElem? (i := 51) rfl)
theorem w52 {a0 : Array Value} {Z : State} (hw : ∀ d ∈ tables_1, d.before a0 Z = true) : ((Jvm.Cond.laysFinal "org/holdfast/model/Level" "org/holdfast/model/Level" "level" "I") : Jvm.Cond).before a0 Z = true := hw _ (List.mem_of_getElem? (i := 52) rfl)
theorem w53 {a0 : Array Value} {Z : State} (hw : ∀ d ∈ tables_1, d.before a0 Z = true) : ((Jvm.Cond.fieldLink "org/holdfast/model/Level" (30 : Nat) "org/holdfast/model/Level" "caption" "Ljava/lang/String;") : Jvm.Cond).before a0 Z = true := hw _ (List.mem_of_getElem? (i := 53) rfl)
theorem w54 {a0 : Array Value} {Z : State} (hw : ∀ d ∈ tables_1, d.before a0 Z = true) : ((Jvm.Cond.laysFinal "org/holdfast/model/Level" "org/holdfast/model/Level" "caption" "Ljava/lang/String;") : Jvm.Cond).before a0 Z = true := hw _ (List.mem_of_getElem? (i := 54) rfl)
theorem w55 {a0 : Array Value} {Z : State} (hw : ∀ d ∈ tables_1, d.before a0 Z = true) : ((Jvm.Cond.fieldLink "org/holdfast/model/Level" (34 : Nat) "org/holdfast/model/Level" "value" "Ljava/lang/String;") : Jvm.Cond).before a0 Z = true := hw _ (List.mem_of_getElem? (i := 55) rfl)
theorem w56 {a0 : Array Value} {Z : State} (hw : ∀ d ∈ tables_1, d.before a0 Z = true) : ((Jvm.Cond.laysFinal "org/holdfast/model/Level" "org/holdfast/model/Level" "value" "Ljava/lang/String;") : Jvm.Cond).before a0 Z = true := hw _ (List.mem_of_getElem? (i := 56) rfl)
theorem w57 {a0 : Array Value} {Z : State} (hw : ∀ d ∈ tables_1, d.before a0 Z = true) : ((Jvm.Cond.classLink "org/holdfast/model/EnumerationAndChronologyCodedPinLaw" (20 : Nat) "java/util/ArrayList") : Jvm.Cond).before a0 Z = true := hw _ (List.mem_of_getElem? (i := 57) rfl)
theorem w58 {a0 : Array Value} {Z : State} (hw : ∀ d ∈ tables_1, d.before a0 Z = true) : ((Jvm.Cond.instantiable "java/util/ArrayList" (3 : Nat)) : Jvm.Cond).before a0 Z = true := hw _ (List.mem_of_getElem? (i := 58) rfl)
theorem w59 {a0 : Array Value} {Z : State} (hw : ∀ d ∈ tables_1, d.before a0 Z = true) : ((Jvm.Cond.initialized "java/util/ArrayList") : Jvm.Cond).before a0 Z = true := hw _ (List.mem_of_getElem? (i := 59) rfl)
theorem w60 {a0 : Array Value} {Z : State} (hw : ∀ d ∈ tables_1, d.before a0 Z = true) : ((Jvm.Cond.methodLink "org/holdfast/model/EnumerationAndChronologyCodedPinLaw" (22 : Nat) ({ cls := "java/util/ArrayList", name := "<init>", desc := "()V" } : Jvm.MethodName)) : Jvm.Cond).before a0 Z = true := hw _ (List.mem_of_getElem? (i := 60) rfl)
theorem w61 {a0 : Array Value} {Z : State} (hw : ∀ d ∈ tables_1, d.before a0 Z = true) : ((Jvm.Cond.instanceMethod ({ cls := "java/util/ArrayList", name := "<init>", desc := "()V" } : Jvm.MethodName)) : Jvm.Cond).before a0 Z = true := hw _ (List.mem_of_getElem? (i := 61) rfl)
theorem w62 {a0 : Array Value} {Z : State} (hw : ∀ d ∈ tables_1, d.before a0 Z = true) : ((Jvm.Cond.code ({ cls := "java/util/ArrayList", name := "<init>", desc := "()V" } : Jvm.MethodName) jdk_38_method_2_code (1 : Nat) (Option.none : Option Jvm.ClassFile.FieldType)) : Jvm.Cond).before a0 Z = true := hw _ (List.mem_of_getElem? (i := 62) rfl)
theorem w63 {a0 : Array Value} {Z : State} (hw : ∀ d ∈ tables_1, d.before a0 Z = true) : ((Jvm.Cond.methodLink "java/util/ArrayList" (1 : Nat) ({ cls := "java/util/AbstractList", name := "<init>", desc := "()V" } : Jvm.MethodName)) : Jvm.Cond).before a0 Z = true := hw _ (List.mem_of_getElem? (i := 63) rfl)
theorem w64 {a0 : Array Value} {Z : State} (hw : ∀ d ∈ tables_1, d.before a0 Z = true) : ((Jvm.Cond.instanceMethod ({ cls := "java/util/AbstractList", name := "<init>", desc := "()V" } : Jvm.MethodName)) : Jvm.Cond).before a0 Z = true := hw _ (List.mem_of_getElem? (i := 64) rfl)
theorem w67 {a0 : Array Value} {Z : State} (hw : ∀ d ∈ tables_1, d.before a0 Z = true) : ((Jvm.Cond.initialized "java/util/AbstractList") : Jvm.Cond).before a0 Z = true := hw _ (List.mem_of_getElem? (i := 67) rfl)
theorem w68 {a0 : Array Value} {Z : State} (hw : ∀ d ∈ tables_1, d.before a0 Z = true) : ((Jvm.Cond.code ({ cls := "java/util/AbstractList", name := "<init>", desc := "()V" } : Jvm.MethodName) jdk_39_method_1_code (1 : Nat) (Option.none : Option Jvm.ClassFile.FieldType)) : Jvm.Cond).before a0 Z = true := hw _ (List.mem_of_getElem? (i := 68) rfl)
theorem w69 {a0 : Array Value} {Z : State} (hw : ∀ d ∈ tables_1, d.before a0 Z = true) : ((Jvm.Cond.methodLink "java/util/AbstractList" (1 : Nat) ({ cls := "java/util/AbstractCollection", name := "<init>", desc := "()V" } : Jvm.MethodName)) : Jvm.Cond).before a0 Z = true := hw _ (List.mem_of_getElem? (i := 69) rfl)
theorem w70 {a0 : Array Value} {Z : State} (hw : ∀ d ∈ tables_1, d.before a0 Z = true) : ((Jvm.Cond.instanceMethod ({ cls := "java/util/AbstractCollection", name := "<init>", desc := "()V" } : Jvm.MethodName)) : Jvm.Cond).before a0 Z = true := hw _ (List.mem_of_getElem? (i := 70) rfl)
theorem w73 {a0 : Array Value} {Z : State} (hw : ∀ d ∈ tables_1, d.before a0 Z = true) : ((Jvm.Cond.initialized "java/util/AbstractCollection") : Jvm.Cond).before a0 Z = true := hw _ (List.mem_of_getElem? (i := 73) rfl)
theorem w74 {a0 : Array Value} {Z : State} (hw : ∀ d ∈ tables_1, d.before a0 Z = true) : ((Jvm.Cond.code ({ cls := "java/util/AbstractCollection", name := "<init>", desc := "()V" } : Jvm.MethodName) jdk_22_method_1_code (1 : Nat) (Option.none : Option Jvm.ClassFile.FieldType)) : Jvm.Cond).before a0 Z = true := hw _ (List.mem_of_getElem? (i := 74) rfl)
theorem w75 {a0 : Array Value} {Z : State} (hw : ∀ d ∈ tables_1, d.before a0 Z = true) : ((Jvm.Cond.methodLink "java/util/AbstractCollection" (1 : Nat) ({ cls := "java/lang/Object", name := "<init>", desc := "()V" } : Jvm.MethodName)) : Jvm.Cond).before a0 Z = true := hw _ (List.mem_of_getElem? (i := 75) rfl)
theorem w76 {a0 : Array Value} {Z : State} (hw : ∀ d ∈ tables_1, d.before a0 Z = true) : ((Jvm.Cond.fieldLink "java/util/AbstractList" (7 : Nat) "java/util/AbstractList" "modCount" "I") : Jvm.Cond).before a0 Z = true := hw _ (List.mem_of_getElem? (i := 76) rfl)
theorem w77 {a0 : Array Value} {Z : State} (hw : ∀ d ∈ tables_1, d.before a0 Z = true) : ((Jvm.Cond.lays "java/util/ArrayList" "java/util/AbstractList" "modCount" "I") : Jvm.Cond).before a0 Z = true := hw _ (List.mem_of_getElem? (i := 77) rfl)
theorem w78 {a0 : Array Value} {Z : State} (hw : ∀ d ∈ tables_1, d.before a0 Z = true) : ((Jvm.Cond.fieldLink "java/util/ArrayList" (39 : Nat) "java/util/ArrayList" "DEFAULTCAPACITY_EMPTY_ELEMENTDATA" "[Ljava/lang/Object;") : Jvm.Cond).before a0 Z = true := hw _ (List.mem_of_getElem? (i := 78) rfl)
theorem w79 {a0 : Array Value} {Z : State} (hw : ∀ d ∈ tables_1, d.before a0 Z = true) : ((Jvm.Cond.fieldLink "java/util/ArrayList" (9 : Nat) "java/util/ArrayList" "elementData" "[Ljava/lang/Object;") : Jvm.Cond).before a0 Z = true := hw _ (List.mem_of_getElem? (i := 79) rfl)
theorem w80 {a0 : Array Value} {Z : State} (hw : ∀ d ∈ tables_1, d.before a0 Z = true) : ((Jvm.Cond.lays "java/util/ArrayList" "java/util/ArrayList" "elementData" "[Ljava/lang/Object;") : Jvm.Cond).before a0 Z = true := hw _ (List.mem_of_getElem? (i := 80) rfl)
theorem w81 {a0 : Array Value} {Z : State} (hw : ∀ d ∈ tables_1, d.before a0 Z = true) : ((Jvm.Cond.methodLink "org/holdfast/model/EnumerationAndChronologyCodedPinLaw" (23 : Nat) ({ cls := "java/util/ArrayList", name := "add", desc := "(Ljava/lang/Object;)Z" } : Jvm.MethodName)) : Jvm.Cond).before a0 Z = true := hw _ (List.mem_of_getElem? (i := 81) rfl)
theorem w82 {a0 : Array Value} {Z : State} (hw : ∀ d ∈ tables_1, d.before a0 Z = true) : ((Jvm.Cond.declares ({ cls := "java/util/ArrayList", name := "add", desc := "(Ljava/lang/Object;)Z" } : Jvm.MethodName)) : Jvm.Cond).before a0 Z = true := hw _ (List.mem_of_getElem? (i := 82) rfl)
theorem w83 {a0 : Array Value} {Z : State} (hw : ∀ d ∈ tables_1, d.before a0 Z = true) : ((Jvm.Cond.instanceMethod ({ cls := "java/util/ArrayList", name := "add", desc := "(Ljava/lang/Object;)Z" } : Jvm.MethodName)) : Jvm.Cond).before a0 Z = true := hw _ (List.mem_of_getElem? (i := 83) rfl)
theorem w84 {a0 : Array Value} {Z : State} (hw : ∀ d ∈ tables_1, d.before a0 Z = true) : ((Jvm.Cond.selects "java/util/ArrayList" ({ cls := "java/util/ArrayList", name := "add", desc := "(Ljava/lang/Object;)Z" } : Jvm.MethodName) ({ cls := "java/util/ArrayList", name := "add", desc := "(Ljava/lang/Object;)Z" } : Jvm.MethodName)) : Jvm.Cond).before a0 Z = true := hw _ (List.mem_of_getElem? (i := 84) rfl)
theorem w85 {a0 : Array Value} {Z : State} (hw : ∀ d ∈ tables_1, d.before a0 Z = true) : ((Jvm.Cond.code ({ cls := "java/util/ArrayList", name := "add", desc := "(Ljava/lang/Object;)Z" } : Jvm.MethodName) jdk_38_method_25_code (2 : Nat) (Option.some Jvm.ClassFile.FieldType.boolean)) : Jvm.Cond).before a0 Z = true := hw _ (List.mem_of_getElem? (i := 85) rfl)
theorem w86 {a0 : Array Value} {Z : State} (hw : ∀ d ∈ tables_1, d.before a0 Z = true) : ((Jvm.Cond.fieldLink "java/util/ArrayList" (63 : Nat) "java/util/ArrayList" "modCount" "I") : Jvm.Cond).before a0 Z = true := hw _ (List.mem_of_getElem? (i := 86) rfl)
theorem w87 {a0 : Array Value} {Z : State} (hw : ∀ d ∈ tables_1, d.before a0 Z = true) : ((Jvm.Cond.sameField "java/util/ArrayList" "java/util/AbstractList" "modCount" "I") : Jvm.Cond).before a0 Z = true := hw _ (List.mem_of_getElem? (i := 87) rfl)
theorem w88 {a0 : Array Value} {Z : State} (hw : ∀ d ∈ tables_1, d.before a0 Z = true) : ((Jvm.Cond.fieldLink "java/util/ArrayList" (48 : Nat) "java/util/ArrayList" "size" "I") : Jvm.Cond).before a0 Z = true := hw _ (List.mem_of_getElem? (i := 88) rfl)
theorem w89 {a0 : Array Value} {Z : State} (hw : ∀ d ∈ tables_1, d.before a0 Z = true) : ((Jvm.Cond.lays "java/util/ArrayList" "java/util/ArrayList" "size" "I") : Jvm.Cond).before a0 Z = true := hw _ (List.mem_of_getElem? (i := 89) rfl)
theorem w90 {a0 : Array Value} {Z : State} (hw : ∀ d ∈ tables_1, d.before a0 Z = true) : ((Jvm.Cond.methodLink "java/util/ArrayList" (131 : Nat) ({ cls := "java/util/ArrayList", name := "add", desc := "(Ljava/lang/Object;[Ljava/lang/Object;I)V" } : Jvm.MethodName)) : Jvm.Cond).before a0 Z = true := hw _ (List.mem_of_getElem? (i := 90) rfl)
theorem w91 {a0 : Array Value} {Z : State} (hw : ∀ d ∈ tables_1, d.before a0 Z = true) : ((Jvm.Cond.instanceMethod ({ cls := "java/util/ArrayList", name := "add", desc := "(Ljava/lang/Object;[Ljava/lang/Object;I)V" } : Jvm.MethodName)) : Jvm.Cond).before a0 Z = true := hw _ (List.mem_of_getElem? (i := 91) rfl)
theorem w92 {a0 : Array Value} {Z : State} (hw : ∀ d ∈ tables_1, d.before a0 Z = true) : ((Jvm.Cond.privateMethod ({ cls := "java/util/ArrayList", name := "add", desc := "(Ljava/lang/Object;[Ljava/lang/Object;I)V" } : Jvm.MethodName)) : Jvm.Cond).before a0 Z = true := hw _ (List.mem_of_getElem? (i := 92) rfl)
theorem w93 {a0 : Array Value} {Z : State} (hw : ∀ d ∈ tables_1, d.before a0 Z = true) : ((Jvm.Cond.selects "java/util/ArrayList" ({ cls := "java/util/ArrayList", name := "add", desc := "(Ljava/lang/Object;[Ljava/lang/Object;I)V" } : Jvm.MethodName) ({ cls := "java/util/ArrayList", name := "add", desc := "(Ljava/lang/Object;[Ljava/lang/Object;I)V" } : Jvm.MethodName)) : Jvm.Cond).before a0 Z = true := hw _ (List.mem_of_getElem? (i := 93) rfl)
theorem w94 {a0 : Array Value} {Z : State} (hw : ∀ d ∈ tables_1, d.before a0 Z = true) : ((Jvm.Cond.code ({ cls := "java/util/ArrayList", name := "add", desc := "(Ljava/lang/Object;[Ljava/lang/Object;I)V" } : Jvm.MethodName) jdk_38_method_24_code (4 : Nat) (Option.none : Option Jvm.ClassFile.FieldType)) : Jvm.Cond).before a0 Z = true := hw _ (List.mem_of_getElem? (i := 94) rfl)
theorem w95 {a0 : Array Value} {Z : State} (hw : ∀ d ∈ tables_1, d.before a0 Z = true) : ((Jvm.Cond.methodLink "java/util/ArrayList" (129 : Nat) ({ cls := "java/util/ArrayList", name := "grow", desc := "()[Ljava/lang/Object;" } : Jvm.MethodName)) : Jvm.Cond).before a0 Z = true := hw _ (List.mem_of_getElem? (i := 95) rfl)
theorem w96 {a0 : Array Value} {Z : State} (hw : ∀ d ∈ tables_1, d.before a0 Z = true) : ((Jvm.Cond.instanceMethod ({ cls := "java/util/ArrayList", name := "grow", desc := "()[Ljava/lang/Object;" } : Jvm.MethodName)) : Jvm.Cond).before a0 Z = true := hw _ (List.mem_of_getElem? (i := 96) rfl)
theorem w97 {a0 : Array Value} {Z : State} (hw : ∀ d ∈ tables_1, d.before a0 Z = true) : ((Jvm.Cond.privateMethod ({ cls := "java/util/ArrayList", name := "grow", desc := "()[Ljava/lang/Object;" } : Jvm.MethodName)) : Jvm.Cond).before a0 Z = true := hw _ (List.mem_of_getElem? (i := 97) rfl)
theorem w98 {a0 : Array Value} {Z : State} (hw : ∀ d ∈ tables_1, d.before a0 Z = true) : ((Jvm.Cond.selects "java/util/ArrayList" ({ cls := "java/util/ArrayList", name := "grow", desc := "()[Ljava/lang/Object;" } : Jvm.MethodName) ({ cls := "java/util/ArrayList", name := "grow", desc := "()[Ljava/lang/Object;" } : Jvm.MethodName)) : Jvm.Cond).before a0 Z = true := hw _ (List.mem_of_getElem? (i := 98) rfl)
theorem w99 {a0 : Array Value} {Z : State} (hw : ∀ d ∈ tables_1, d.before a0 Z = true) : ((Jvm.Cond.code ({ cls := "java/util/ArrayList", name := "grow", desc := "()[Ljava/lang/Object;" } : Jvm.MethodName) jdk_38_method_7_code (1 : Nat) (Option.some (Jvm.ClassFile.FieldType.array (Jvm.ClassFile.FieldType.object "java/lang/Object")))) : Jvm.Cond).before a0 Z = true := hw _ (List.mem_of_getElem? (i := 99) rfl)
theorem w100 {a0 : Array Value} {Z : State} (hw : ∀ d ∈ tables_1, d.before a0 Z = true) : ((Jvm.Cond.methodLink "java/util/ArrayList" (69 : Nat) ({ cls := "java/util/ArrayList", name := "grow", desc := "(I)[Ljava/lang/Object;" } : Jvm.MethodName)) : Jvm.Cond).before a0 Z = true := hw _ (List.mem_of_getElem? (i := 100) rfl)
theorem w101 {a0 : Array Value} {Z : State} (hw : ∀ d ∈ tables_1, d.before a0 Z = true) : ((Jvm.Cond.instanceMethod ({ cls := "java/util/ArrayList", name := "grow", desc := "(I)[Ljava/lang/Object;" } : Jvm.MethodName)) : Jvm.Cond).before a0 Z = true := hw _ (List.mem_of_getElem? (i := 101) rfl)
theorem w102 {a0 : Array Value} {Z : State} (hw : ∀ d ∈ tables_1, d.before a0 Z = true) : ((Jvm.Cond.privateMethod ({ cls := "java/util/ArrayList", name := "grow", desc := "(I)[Ljava/lang/Object;" } : Jvm.MethodName)) : Jvm.Cond).before a0 Z = true := hw _ (List.mem_of_getElem? (i := 102) rfl)
theorem w103 {a0 : Array Value} {Z : State} (hw : ∀ d ∈ tables_1, d.before a0 Z = true) : ((Jvm.Cond.selects "java/util/ArrayList" ({ cls := "java/util/ArrayList", name := "grow", desc := "(I)[Ljava/lang/Object;" } : Jvm.MethodName) ({ cls := "java/util/ArrayList", name := "grow", desc := "(I)[Ljava/lang/Object;" } : Jvm.MethodName)) : Jvm.Cond).before a0 Z = true := hw _ (List.mem_of_getElem? (i := 103) rfl)
theorem w104 {a0 : Array Value} {Z : State} (hw : ∀ d ∈ tables_1, d.before a0 Z = true) : ((Jvm.Cond.code ({ cls := "java/util/ArrayList", name := "grow", desc := "(I)[Ljava/lang/Object;" } : Jvm.MethodName) jdk_38_method_6_code (4 : Nat) (Option.some (Jvm.ClassFile.FieldType.array (Jvm.ClassFile.FieldType.object "java/lang/Object")))) : Jvm.Cond).before a0 Z = true := hw _ (List.mem_of_getElem? (i := 104) rfl)
theorem w105 {a0 : Array Value} {Z : State} (hw : ∀ d ∈ tables_1, d.before a0 Z = true) : ((Jvm.Cond.methodLink "java/util/ArrayList" (79 : Nat) ({ cls := "java/lang/Math", name := "max", desc := "(II)I" } : Jvm.MethodName)) : Jvm.Cond).before a0 Z = true := hw _ (List.mem_of_getElem? (i := 105) rfl)
theorem w106 {a0 : Array Value} {Z : State} (hw : ∀ d ∈ tables_1, d.before a0 Z = true) : ((Jvm.Cond.static ({ cls := "java/lang/Math", name := "max", desc := "(II)I" } : Jvm.MethodName)) : Jvm.Cond).before a0 Z = true := hw _ (List.mem_of_getElem? (i := 106) rfl)
theorem w107 {a0 : Array Value} {Z : State} (hw : ∀ d ∈ tables_1, d.before a0 Z = true) : ((Jvm.Cond.initialized "java/lang/Math") : Jvm.Cond).before a0 Z = true := hw _ (List.mem_of_getElem? (i := 107) rfl)
theorem w108 {a0 : Array Value} {Z : State} (hw : ∀ d ∈ tables_1, d.before a0 Z = true) : ((Jvm.Cond.code ({ cls := "java/lang/Math", name := "max", desc := "(II)I" } : Jvm.MethodName) jdk_29_method_65_code (2 : Nat) (Option.some Jvm.ClassFile.FieldType.int)) : Jvm.Cond).before a0 Z = true := hw _ (List.mem_of_getElem? (i := 108) rfl)
theorem w109 {a0 : Array Value} {Z : State} (hw : ∀ d ∈ tables_1, d.before a0 Z = true) : ((Jvm.Cond.classLink "java/util/ArrayList" (7 : Nat) "java/lang/Object") : Jvm.Cond).before a0 Z = true := hw _ (List.mem_of_getElem? (i := 109) rfl)
theorem w110 {a0 : Array Value} {Z : State} (hw : ∀ d ∈ tables_1, d.before a0 Z = true) : ((Jvm.Cond.arrayOver (Jvm.ClassFile.FieldType.object "java/lang/Object")) : Jvm.Cond).before a0 Z = true := hw _ (List.mem_of_getElem? (i := 110) rfl)
theorem w111 {a0 : Array Value} {Z : State} (hw : ∀ d ∈ tables_1, d.before a0 Z = true) : ((Jvm.Cond.castable "org/holdfast/model/Level" "java/lang/Object") : Jvm.Cond).before a0 Z = true := hw _ (List.mem_of_getElem? (i := 111) rfl)
theorem w112 {a0 : Array Value} {Z : State} (hw : ∀ d ∈ tables_1, d.before a0 Z = true) : ((Jvm.Cond.classLink "org/holdfast/model/EnumerationAndChronologyCodedPinLaw" (27 : Nat) "org/holdfast/model/Designation") : Jvm.Cond).before a0 Z = true := hw _ (List.mem_of_getElem? (i := 112) rfl)
theorem w113 {a0 : Array Value} {Z : State} (hw : ∀ d ∈ tables_1, d.before a0 Z = true) : ((Jvm.Cond.instantiable "org/holdfast/model/Designation" (2 : Nat)) : Jvm.Cond).before a0 Z = true := hw _ (List.mem_of_getElem? (i := 113) rfl)
theorem w114 {a0 : Array Value} {Z : State} (hw : ∀ d ∈ tables_1, d.before a0 Z = true) : ((Jvm.Cond.initialized "org/holdfast/model/Designation") : Jvm.Cond).before a0 Z = true := hw _ (List.mem_of_getElem? (i := 114) rfl)
theorem w115 {a0 : Array Value} {Z : State} (hw : ∀ d ∈ tables_1, d.before a0 Z = true) : ((Jvm.Cond.methodLink "org/holdfast/model/EnumerationAndChronologyCodedPinLaw" (29 : Nat) ({ cls := "org/holdfast/model/Designation", name := "<init>", desc := "(Ljava/util/List;Ljava/util/List;)V" } : Jvm.MethodName)) : Jvm.Cond).before a0 Z = true := hw _ (List.mem_of_getElem? (i := 115) rfl)
theorem w116 {a0 : Array Value} {Z : State} (hw : ∀ d ∈ tables_1, d.before a0 Z = true) : ((Jvm.Cond.instanceMethod ({ cls := "org/holdfast/model/Designation", name := "<init>", desc := "(Ljava/util/List;Ljava/util/List;)V" } : Jvm.MethodName)) : Jvm.Cond).before a0 Z = true := hw _ (List.mem_of_getElem? (i := 116) rfl)
theorem w117 {a0 : Array Value} {Z : State} (hw : ∀ d ∈ tables_1, d.before a0 Z = true) : ((Jvm.Cond.code ({ cls := "org/holdfast/model/Designation", name := "<init>", desc := "(Ljava/util/List;Ljava/util/List;)V" } : Jvm.MethodName) prog_21_method_1_code (3 : Nat) (Option.none : Option Jvm.ClassFile.FieldType)) : Jvm.Cond).before a0 Z = true := hw _ (List.mem_of_getElem? (i := 117) rfl)
theorem w118 {a0 : Array Value} {Z : State} (hw : ∀ d ∈ tables_1, d.before a0 Z = true) : ((Jvm.Cond.methodLink "org/holdfast/model/Designation" (1 : Nat) ({ cls := "java/lang/Record", name := "<init>", desc := "()V" } : Jvm.MethodName)) : Jvm.Cond).before a0 Z = true := hw _ (List.mem_of_getElem? (i := 118) rfl)
theorem w119 {a0 : Array Value} {Z : State} (hw : ∀ d ∈ tables_1, d.before a0 Z = true) : ((Jvm.Cond.methodLink "org/holdfast/model/Designation" (7 : Nat) ({ cls := "java/util/List", name := "copyOf", desc := "(Ljava/util/Collection;)Ljava/util/List;" } : Jvm.MethodName)) : Jvm.Cond).before a0 Z = true := hw _ (List.mem_of_getElem? (i := 119) rfl)
theorem w120 {a0 : Array Value} {Z : State} (hw : ∀ d ∈ tables_1, d.before a0 Z = true) : ((Jvm.Cond.static ({ cls := "java/util/List", name := "copyOf", desc := "(Ljava/util/Collection;)Ljava/util/List;" } : Jvm.MethodName)) : Jvm.Cond).before a0 Z = true := hw _ (List.mem_of_getElem? (i := 120) rfl)
theorem w121 {a0 : Array Value} {Z : State} (hw : ∀ d ∈ tables_1, d.before a0 Z = true) : ((Jvm.Cond.initialized "java/util/List") : Jvm.Cond).before a0 Z = true := hw _ (List.mem_of_getElem? (i := 121) rfl)
theorem w122 {a0 : Array Value} {Z : State} (hw : ∀ d ∈ tables_1, d.before a0 Z = true) : ((Jvm.Cond.code ({ cls := "java/util/List", name := "copyOf", desc := "(Ljava/util/Collection;)Ljava/util/List;" } : Jvm.MethodName) jdk_40_method_48_code (1 : Nat) (Option.some (Jvm.ClassFile.FieldType.object "java/util/List"))) : Jvm.Cond).before a0 Z = true := hw _ (List.mem_of_getElem? (i := 122) rfl)
theorem w123 {a0 : Array Value} {Z : State} (hw : ∀ d ∈ tables_1, d.before a0 Z = true) : ((Jvm.Cond.methodLink "java/util/List" (112 : Nat) ({ cls := "java/util/ImmutableCollections", name := "listCopy", desc := "(Ljava/util/Collection;)Ljava/util/List;" } : Jvm.MethodName)) : Jvm.Cond).before a0 Z = true := hw _ (List.mem_of_getElem? (i := 123) rfl)
theorem w124 {a0 : Array Value} {Z : State} (hw : ∀ d ∈ tables_1, d.before a0 Z = true) : ((Jvm.Cond.static ({ cls := "java/util/ImmutableCollections", name := "listCopy", desc := "(Ljava/util/Collection;)Ljava/util/List;" } : Jvm.MethodName)) : Jvm.Cond).before a0 Z = true := hw _ (List.mem_of_getElem? (i := 124) rfl)
theorem w125 {a0 : Array Value} {Z : State} (hw : ∀ d ∈ tables_1, d.before a0 Z = true) : ((Jvm.Cond.initialized "java/util/ImmutableCollections") : Jvm.Cond).before a0 Z = true := hw _ (List.mem_of_getElem? (i := 125) rfl)
theorem w126 {a0 : Array Value} {Z : State} (hw : ∀ d ∈ tables_1, d.before a0 Z = true) : ((Jvm.Cond.code ({ cls := "java/util/ImmutableCollections", name := "listCopy", desc := "(Ljava/util/Collection;)Ljava/util/List;" } : Jvm.MethodName) jdk_56_method_3_code (2 : Nat) (Option.some (Jvm.ClassFile.FieldType.object "java/util/List"))) : Jvm.Cond).before a0 Z = true := hw _ (List.mem_of_getElem? (i := 126) rfl)
theorem w127 {a0 : Array Value} {Z : State} (hw : ∀ d ∈ tables_1, d.before a0 Z = true) : ((Jvm.Cond.classLink "java/util/ImmutableCollections" (10 : Nat) "java/util/ImmutableCollections$List12") : Jvm.Cond).before a0 Z = true := hw _ (List.mem_of_getElem? (i := 127) rfl)
theorem w128 {a0 : Array Value} {Z : State} (hw : ∀ d ∈ tables_1, d.before a0 Z = true) : ((Jvm.Cond.superclass "java/util/ArrayList" "java/util/AbstractList") : Jvm.Cond).before a0 Z = true := hw _ (List.mem_of_getElem? (i := 128) rfl)
theorem w129 {a0 : Array Value} {Z : State} (hw : ∀ d ∈ tables_1, d.before a0 Z = true) : ((Jvm.Cond.superclass "java/util/AbstractList" "java/util/AbstractCollection") : Jvm.Cond).before a0 Z = true := hw _ (List.mem_of_getElem? (i := 129) rfl)
theorem w130 {a0 : Array Value} {Z : State} (hw : ∀ d ∈ tables_1, d.before a0 Z = true) : ((Jvm.Cond.superclass "java/util/AbstractCollection" "java/lang/Object") : Jvm.Cond).before a0 Z = true := hw _ (List.mem_of_getElem? (i := 130) rfl)
theorem w131 {a0 : Array Value} {Z : State} (hw : ∀ d ∈ tables_1, d.before a0 Z = true) : ((Jvm.Cond.noSuperclass "java/lang/Object") : Jvm.Cond).before a0 Z = true := hw _ (List.mem_of_getElem? (i := 131) rfl)
theorem w132 {a0 : Array Value} {Z : State} (hw : ∀ d ∈ tables_1, d.before a0 Z = true) : ((Jvm.Cond.classLink "java/util/ImmutableCollections" (12 : Nat) "java/util/ImmutableCollections$ListN") : Jvm.Cond).before a0 Z = true := hw _ (List.mem_of_getElem? (i := 132) rfl)
theorem w133 {a0 : Array Value} {Z : State} (hw : ∀ d ∈ tables_1, d.before a0 Z = true) : ((Jvm.Cond.methodLink "java/util/ImmutableCollections" (20 : Nat) ({ cls := "java/util/Collection", name := "isEmpty", desc := "()Z" } : Jvm.MethodName)) : Jvm.Cond).before a0 Z = true := hw _ (List.mem_of_getElem? (i := 133) rfl)
theorem w134 {a0 : Array Value} {Z : State} (hw : ∀ d ∈ tables_1, d.before a0 Z = true) : ((Jvm.Cond.declares ({ cls := "java/util/Collection", name := "isEmpty", desc := "()Z" } : Jvm.MethodName)) : Jvm.Cond).before a0 Z = true := hw _ (List.mem_of_getElem? (i := 134) rfl)
theorem w135 {a0 : Array Value} {Z : State} (hw : ∀ d ∈ tables_1, d.before a0 Z = true) : ((Jvm.Cond.interfaceMethod "java/util/Collection" "java/util/Collection" "isEmpty" "()Z") : Jvm.Cond).before a0 Z = true := hw _ (List.mem_of_getElem? (i := 135) rfl)
theorem w136 {a0 : Array Value} {Z : State} (hw : ∀ d ∈ tables_1, d.before a0 Z = true) : ((Jvm.Cond.selects "java/util/ArrayList" ({ cls := "java/util/Collection", name := "isEmpty", desc := "()Z" } : Jvm.MethodName) ({ cls := "java/util/ArrayList", name := "isEmpty", desc := "()Z" } : Jvm.MethodName)) : Jvm.Cond).before a0 Z = true := hw _ (List.mem_of_getElem? (i := 136) rfl)
theorem w137 {a0 : Array Value} {Z : State} (hw : ∀ d ∈ tables_1, d.before a0 Z = true) : ((Jvm.Cond.instanceMethod ({ cls := "java/util/ArrayList", name := "isEmpty", desc := "()Z" } : Jvm.MethodName)) : Jvm.Cond).before a0 Z = true := hw _ (List.mem_of_getElem? (i := 137) rfl)
theorem w138 {a0 : Array Value} {Z : State} (hw : ∀ d ∈ tables_1, d.before a0 Z = true) : ((Jvm.Cond.publicMethod ({ cls := "java/util/ArrayList", name := "isEmpty", desc := "()Z" } : Jvm.MethodName)) : Jvm.Cond).before a0 Z = true := hw _ (List.mem_of_getElem? (i := 138) rfl)
theorem w139 {a0 : Array Value} {Z : State} (hw : ∀ d ∈ tables_1, d.before a0 Z = true) : ((Jvm.Cond.unhidden "java/util/ArrayList" "isEmpty" "()Z") : Jvm.Cond).before a0 Z = true := hw _ (List.mem_of_getElem? (i := 139) rfl)
theorem w140 {a0 : Array Value} {Z : State} (hw : ∀ d ∈ tables_1, d.before a0 Z = true) : ((Jvm.Cond.castable "java/util/ArrayList" "java/util/Collection") : Jvm.Cond).before a0 Z = true := hw _ (List.mem_of_getElem? (i := 140) rfl)
theorem w141 {a0 : Array Value} {Z : State} (hw : ∀ d ∈ tables_1, d.before a0 Z = true) : ((Jvm.Cond.code ({ cls := "java/util/ArrayList", name := "isEmpty", desc := "()Z" } : Jvm.MethodName) jdk_38_method_9_code (1 : Nat) (Option.some Jvm.ClassFile.FieldType.boolean)) : Jvm.Cond).before a0 Z = true := hw _ (List.mem_of_getElem? (i := 141) rfl)
theorem w142 {a0 : Array Value} {Z : State} (hw : ∀ d ∈ tables_1, d.before a0 Z = true) : ((Jvm.Cond.methodLink "java/util/ImmutableCollections" (30 : Nat) ({ cls := "java/util/Collection", name := "toArray", desc := "()[Ljava/lang/Object;" } : Jvm.MethodName)) : Jvm.Cond).before a0 Z = true := hw _ (List.mem_of_getElem? (i := 142) rfl)
theorem w143 {a0 : Array Value} {Z : State} (hw : ∀ d ∈ tables_1, d.before a0 Z = true) : ((Jvm.Cond.declares ({ cls := "java/util/Collection", name := "toArray", desc := "()[Ljava/lang/Object;" } : Jvm.MethodName)) : Jvm.Cond).before a0 Z = true := hw _ (List.mem_of_getElem? (i := 143) rfl)
theorem w144 {a0 : Array Value} {Z : State} (hw : ∀ d ∈ tables_1, d.before a0 Z = true) : ((Jvm.Cond.interfaceMethod "java/util/Collection" "java/util/Collection" "toArray" "()[Ljava/lang/Object;") : Jvm.Cond).before a0 Z = true := hw _ (List.mem_of_getElem? (i := 144) rfl)
theorem w145 {a0 : Array Value} {Z : State} (hw : ∀ d ∈ tables_1, d.before a0 Z = true) : ((Jvm.Cond.selects "java/util/ArrayList" ({ cls := "java/util/Collection", name := "toArray", desc := "()[Ljava/lang/Object;" } : Jvm.MethodName) ({ cls := "java/util/ArrayList", name := "toArray", desc := "()[Ljava/lang/Object;" } : Jvm.MethodName)) : Jvm.Cond).before a0 Z = true := hw _ (List.mem_of_getElem? (i := 145) rfl)
theorem w146 {a0 : Array Value} {Z : State} (hw : ∀ d ∈ tables_1, d.before a0 Z = true) : ((Jvm.Cond.instanceMethod ({ cls := "java/util/ArrayList", name := "toArray", desc := "()[Ljava/lang/Object;" } : Jvm.MethodName)) : Jvm.Cond).before a0 Z = true := hw _ (List.mem_of_getElem? (i := 146) rfl)
theorem w147 {a0 : Array Value} {Z : State} (hw : ∀ d ∈ tables_1, d.before a0 Z = true) : ((Jvm.Cond.publicMethod ({ cls := "java/util/ArrayList", name := "toArray", desc := "()[Ljava/lang/Object;" } : Jvm.MethodName)) : Jvm.Cond).before a0 Z = true := hw _ (List.mem_of_getElem? (i := 147) rfl)
theorem w148 {a0 : Array Value} {Z : State} (hw : ∀ d ∈ tables_1, d.before a0 Z = true) : ((Jvm.Cond.unhidden "java/util/ArrayList" "toArray" "()[Ljava/lang/Object;") : Jvm.Cond).before a0 Z = true := hw _ (List.mem_of_getElem? (i := 148) rfl)
theorem w149 {a0 : Array Value} {Z : State} (hw : ∀ d ∈ tables_1, d.before a0 Z = true) : ((Jvm.Cond.code ({ cls := "java/util/ArrayList", name := "toArray", desc := "()[Ljava/lang/Object;" } : Jvm.MethodName) jdk_38_method_16_code (1 : Nat) (Option.some (Jvm.ClassFile.FieldType.array (Jvm.ClassFile.FieldType.object "java/lang/Object")))) : Jvm.Cond).before a0 Z = true := hw _ (List.mem_of_getElem? (i := 149) rfl)
theorem w150 {a0 : Array Value} {Z : State} (hw : ∀ d ∈ tables_1, d.before a0 Z = true) : ((Jvm.Cond.methodLink "java/util/ArrayList" (66 : Nat) ({ cls := "java/util/Arrays", name := "copyOf", desc := "([Ljava/lang/Object;I)[Ljava/lang/Object;" } : Jvm.MethodName)) : Jvm.Cond).before a0 Z = true := hw _ (List.mem_of_getElem? (i := 150) rfl)
theorem w151 {a0 : Array Value} {Z : State} (hw : ∀ d ∈ tables_1, d.before a0 Z = true) : ((Jvm.Cond.static ({ cls := "java/util/Arrays", name := "copyOf", desc := "([Ljava/lang/Object;I)[Ljava/lang/Object;" } : Jvm.MethodName)) : Jvm.Cond).before a0 Z = true := hw _ (List.mem_of_getElem? (i := 151) rfl)
theorem w152 {a0 : Array Value} {Z : State} (hw : ∀ d ∈ tables_1, d.before a0 Z = true) : ((Jvm.Cond.initialized "java/util/Arrays") : Jvm.Cond).before a0 Z = true := hw _ (List.mem_of_getElem? (i := 152) rfl)
theorem w153 {a0 : Array Value} {Z : State} (hw : ∀ d ∈ tables_1, d.before a0 Z = true) : ((Jvm.Cond.code ({ cls := "java/util/Arrays", name := "copyOf", desc := "([Ljava/lang/Object;I)[Ljava/lang/Object;" } : Jvm.MethodName) jdk_65_method_119_code (2 : Nat) (Option.some (Jvm.ClassFile.FieldType.array (Jvm.ClassFile.FieldType.object "java/lang/Object")))) : Jvm.Cond).before a0 Z = true := hw _ (List.mem_of_getElem? (i := 153) rfl)
theorem w154 {a0 : Array Value} {Z : State} (hw : ∀ d ∈ tables_1, d.before a0 Z = true) : ((Jvm.Cond.methodLink "java/util/Arrays" (86 : Nat) ({ cls := "java/lang/Object", name := "getClass", desc := "()Ljava/lang/Class;" } : Jvm.MethodName)) : Jvm.Cond).before a0 Z = true := hw _ (List.mem_of_getElem? (i := 154) rfl)
theorem w155 {a0 : Array Value} {Z : State} (hw : ∀ d ∈ tables_1, d.before a0 Z = true) : ((Jvm.Cond.declares ({ cls := "java/lang/Object", name := "getClass", desc := "()Ljava/lang/Class;" } : Jvm.MethodName)) : Jvm.Cond).before a0 Z = true := hw _ (List.mem_of_getElem? (i := 155) rfl)
theorem w156 {a0 : Array Value} {Z : State} (hw : ∀ d ∈ tables_1, d.before a0 Z = true) : ((Jvm.Cond.instanceMethod ({ cls := "java/lang/Object", name := "getClass", desc := "()Ljava/lang/Class;" } : Jvm.MethodName)) : Jvm.Cond).before a0 Z = true := hw _ (List.mem_of_getElem? (i := 156) rfl)
theorem w157 {a0 : Array Value} {Z : State} (hw : ∀ d ∈ tables_1, d.before a0 Z = true) : ((Jvm.Cond.selects "[Ljava/lang/Object;" ({ cls := "java/lang/Object", name := "getClass", desc := "()Ljava/lang/Class;" } : Jvm.MethodName) ({ cls := "java/lang/Object", name := "getClass", desc := "()Ljava/lang/Class;" } : Jvm.MethodName)) : Jvm.Cond).before a0 Z = true := hw _ (List.mem_of_getElem? (i := 157) rfl)
theorem w158 {a0 : Array Value} {Z : State} (hw : ∀ d ∈ tables_1, d.before a0 Z = true) : ((Jvm.Cond.native ({ cls := "java/lang/Object", name := "getClass", desc := "()Ljava/lang/Class;" } : Jvm.MethodName)) : Jvm.Cond).before a0 Z = true := hw _ (List.mem_of_getElem? (i := 158) rfl)
theorem w160 {a0 : Array Value} {Z : State} (hw : ∀ d ∈ tables_1, d.before a0 Z = true) : ((Jvm.Cond.methodLink "java/util/Arrays" (300 : Nat) ({ cls := "java/util/Arrays", name := "copyOf", desc := "([Ljava/lang/Object;ILjava/lang/Class;)[Ljava/lang/Object;" } : Jvm.MethodName)) : Jvm.Cond).before a0 Z = true := hw _ (List.mem_of_getElem? (i := 160) rfl)
theorem w161 {a0 : Array Value} {Z : State} (hw : ∀ d ∈ tables_1, d.before a0 Z = true) : ((Jvm.Cond.static ({ cls := "java/util/Arrays", name := "copyOf", desc := "([Ljava/lang/Object;ILjava/lang/Class;)[Ljava/lang/Object;" } : Jvm.MethodName)) : Jvm.Cond).before a0 Z = true := hw _ (List.mem_of_getElem? (i := 161) rfl)
theorem w162 {a0 : Array Value} {Z : State} (hw : ∀ d ∈ tables_1, d.before a0 Z = true) : ((Jvm.Cond.code ({ cls := "java/util/Arrays", name := "copyOf", desc := "([Ljava/lang/Object;ILjava/lang/Class;)[Ljava/lang/Object;" } : Jvm.MethodName) jdk_65_method_120_code (4 : Nat) (Option.some (Jvm.ClassFile.FieldType.array (Jvm.ClassFile.FieldType.object "java/lang/Object")))) : Jvm.Cond).before a0 Z = true := hw _ (List.mem_of_getElem? (i := 162) rfl)
theorem w163 {a0 : Array Value} {Z : State} (hw : ∀ d ∈ tables_1, d.before a0 Z = true) : ((Jvm.Cond.classLink "java/util/Arrays" (110 : Nat) "[Ljava/lang/Object;") : Jvm.Cond).before a0 Z = true := hw _ (List.mem_of_getElem? (i := 163) rfl)
theorem w164 {a0 : Array Value} {Z : State} (hw : ∀ d ∈ tables_1, d.before a0 Z = true) : ((Jvm.Cond.classLink "java/util/Arrays" (2 : Nat) "java/lang/Object") : Jvm.Cond).before a0 Z = true := hw _ (List.mem_of_getElem? (i := 164) rfl)
theorem w165 {a0 : Array Value} {Z : State} (hw : ∀ d ∈ tables_1, d.before a0 Z = true) : ((Jvm.Cond.methodLink "java/util/Arrays" (304 : Nat) ({ cls := "java/lang/Math", name := "min", desc := "(II)I" } : Jvm.MethodName)) : Jvm.Cond).before a0 Z = true := hw _ (List.mem_of_getElem? (i := 165) rfl)
theorem w166 {a0 : Array Value} {Z : State} (hw : ∀ d ∈ tables_1, d.before a0 Z = true) : ((Jvm.Cond.static ({ cls := "java/lang/Math", name := "min", desc := "(II)I" } : Jvm.MethodName)) : Jvm.Cond).before a0 Z = true := hw _ (List.mem_of_getElem? (i := 166) rfl)
theorem w167 {a0 : Array Value} {Z : State} (hw : ∀ d ∈ tables_1, d.before a0 Z = true) : ((Jvm.Cond.code ({ cls := "java/lang/Math", name := "min", desc := "(II)I" } : Jvm.MethodName) jdk_29_method_69_code (2 : Nat) (Option.some Jvm.ClassFile.FieldType.int)) : Jvm.Cond).before a0 Z = true := hw _ (List.mem_of_getElem? (i := 167) rfl)
theorem w168 {a0 : Array Value} {Z : State} (hw : ∀ d ∈ tables_1, d.before a0 Z = true) : ((Jvm.Cond.methodLink "java/util/Arrays" (150 : Nat) ({ cls := "java/lang/System", name := "arraycopy", desc := "(Ljava/lang/Object;ILjava/lang/Object;II)V" } : Jvm.MethodName)) : Jvm.Cond).before a0 Z = true := hw _ (List.mem_of_getElem? (i := 168) rfl)
theorem w169 {a0 : Array Value} {Z : State} (hw : ∀ d ∈ tables_1, d.before a0 Z = true) : ((Jvm.Cond.static ({ cls := "java/lang/System", name := "arraycopy", desc := "(Ljava/lang/Object;ILjava/lang/Object;II)V" } : Jvm.MethodName)) : Jvm.Cond).before a0 Z = true := hw _ (List.mem_of_getElem? (i := 169) rfl)
theorem w170 {a0 : Array Value} {Z : State} (hw : ∀ d ∈ tables_1, d.before a0 Z = true) : ((Jvm.Cond.initialized "java/lang/System") : Jvm.Cond).before a0 Z = true := hw _ (List.mem_of_getElem? (i := 170) rfl)
theorem w171 {a0 : Array Value} {Z : State} (hw : ∀ d ∈ tables_1, d.before a0 Z = true) : ((Jvm.Cond.native ({ cls := "java/lang/System", name := "arraycopy", desc := "(Ljava/lang/Object;ILjava/lang/Object;II)V" } : Jvm.MethodName)) : Jvm.Cond).before a0 Z = true := hw _ (List.mem_of_getElem? (i := 171) rfl)
theorem w172 {a0 : Array Value} {Z : State} (hw : ∀ d ∈ tables_1, d.before a0 Z = true) : ((Jvm.Cond.methodLink "java/util/ImmutableCollections" (34 : Nat) ({ cls := "java/util/List", name := "of", desc := "([Ljava/lang/Object;)Ljava/util/List;" } : Jvm.MethodName)) : Jvm.Cond).before a0 Z = true := hw _ (List.mem_of_getElem? (i := 172) rfl)
theorem w173 {a0 : Array Value} {Z : State} (hw : ∀ d ∈ tables_1, d.before a0 Z = true) : ((Jvm.Cond.static ({ cls := "java/util/List", name := "of", desc := "([Ljava/lang/Object;)Ljava/util/List;" } : Jvm.MethodName)) : Jvm.Cond).before a0 Z = true := hw _ (List.mem_of_getElem? (i := 173) rfl)
theorem w174 {a0 : Array Value} {Z : State} (hw : ∀ d ∈ tables_1, d.before a0 Z = true) : ((Jvm.Cond.code ({ cls := "java/util/List", name := "of", desc := "([Ljava/lang/Object;)Ljava/util/List;" } : Jvm.MethodName) jdk_40_method_47_code (2 : Nat) (Option.some (Jvm.ClassFile.FieldType.object "java/util/List"))) : Jvm.Cond).before a0 Z = true := hw _ (List.mem_of_getElem? (i := 174) rfl)
theorem w175 {a0 : Array Value} {Z : State} (hw : ∀ d ∈ tables_1, d.before a0 Z = true) : ((Jvm.Cond.classLink "java/util/List" (96 : Nat) "java/util/ImmutableCollections$List12") : Jvm.Cond).before a0 Z = true := hw _ (List.mem_of_getElem? (i := 175) rfl)
theorem w176 {a0 : Array Value} {Z : State} (hw : ∀ d ∈ tables_1, d.before a0 Z = true) : ((Jvm.Cond.instantiable "java/util/ImmutableCollections$List12" (2 : Nat)) : Jvm.Cond).before a0 Z = true := hw _ (List.mem_of_getElem? (i := 176) rfl)
theorem w177 {a0 : Array Value} {Z : State} (hw : ∀ d ∈ tables_1, d.before a0 Z = true) : ((Jvm.Cond.initialized "java/util/ImmutableCollections$List12") : Jvm.Cond).before a0 Z = true := hw _ (List.mem_of_getElem? (i := 177) rfl)
theorem w178 {a0 : Array Value} {Z : State} (hw : ∀ d ∈ tables_1, d.before a0 Z = true) : ((Jvm.Cond.methodLink "java/util/List" (98 : Nat) ({ cls := "java/util/ImmutableCollections$List12", name := "<init>", desc := "(Ljava/lang/Object;)V" } : Jvm.MethodName)) : Jvm.Cond).before a0 Z = true := hw _ (List.mem_of_getElem? (i := 178) rfl)
theorem w179 {a0 : Array Value} {Z : State} (hw : ∀ d ∈ tables_1, d.before a0 Z = true) : ((Jvm.Cond.instanceMethod ({ cls := "java/util/ImmutableCollections$List12", name := "<init>", desc := "(Ljava/lang/Object;)V" } : Jvm.MethodName)) : Jvm.Cond).before a0 Z = true := hw _ (List.mem_of_getElem? (i := 179) rfl)
theorem w181 {a0 : Array Value} {Z : State} (hw : ∀ d ∈ tables_1, d.before a0 Z = true) : ((Jvm.Cond.code ({ cls := "java/util/ImmutableCollections$List12", name := "<init>", desc := "(Ljava/lang/Object;)V" } : Jvm.MethodName) jdk_44_method_1_code (2 : Nat) (Option.none : Option Jvm.ClassFile.FieldType)) : Jvm.Cond).before a0 Z = true := hw _ (List.mem_of_getElem? (i := 181) rfl)
theorem w182 {a0 : Array Value} {Z : State} (hw : ∀ d ∈ tables_1, d.before a0 Z = true) : ((Jvm.Cond.methodLink "java/util/ImmutableCollections$List12" (1 : Nat) ({ cls := "java/util/ImmutableCollections$AbstractImmutableList", name := "<init>", desc := "()V" } : Jvm.MethodName)) : Jvm.Cond).before a0 Z = true := hw _ (List.mem_of_getElem? (i := 182) rfl)
theorem w183 {a0 : Array Value} {Z : State} (hw : ∀ d ∈ tables_1, d.before a0 Z = true) : ((Jvm.Cond.instanceMethod ({ cls := "java/util/ImmutableCollections$AbstractImmutableList", name := "<init>", desc := "()V" } : Jvm.MethodName)) : Jvm.Cond).before a0 Z = true := hw _ (List.mem_of_getElem? (i := 183) rfl)
theorem w186 {a0 : Array Value} {Z : State} (hw : ∀ d ∈ tables_1, d.before a0 Z = true) : ((Jvm.Cond.initialized "java/util/ImmutableCollections$AbstractImmutableList") : Jvm.Cond).before a0 Z = true := hw _ (List.mem_of_getElem? (i := 186) rfl)
theorem w187 {a0 : Array Value} {Z : State} (hw : ∀ d ∈ tables_1, d.before a0 Z = true) : ((Jvm.Cond.code ({ cls := "java/util/ImmutableCollections$AbstractImmutableList", name := "<init>", desc := "()V" } : Jvm.MethodName) jdk_46_method_1_code (1 : Nat) (Option.none : Option Jvm.ClassFile.FieldType)) : Jvm.Cond).before a0 Z = true := hw _ (List.mem_of_getElem? (i := 187) rfl)
theorem w188 {a0 : Array Value} {Z : State} (hw : ∀ d ∈ tables_1, d.before a0 Z = true) : ((Jvm.Cond.methodLink "java/util/ImmutableCollections$AbstractImmutableList" (1 : Nat) ({ cls := "java/util/ImmutableCollections$AbstractImmutableCollection", name := "<init>", desc := "()V" } : Jvm.MethodName)) : Jvm.Cond).before a0 Z = true := hw _ (List.mem_of_getElem? (i := 188) rfl)
theorem w189 {a0 : Array Value} {Z : State} (hw : ∀ d ∈ tables_1, d.before a0 Z = true) : ((Jvm.Cond.instanceMethod ({ cls := "java/util/ImmutableCollections$AbstractImmutableCollection", name := "<init>", desc := "()V" } : Jvm.MethodName)) : Jvm.Cond).before a0 Z = true := hw _ (List.mem_of_getElem? (i := 189) rfl)
theorem w192 {a0 : Array Value} {Z : State} (hw : ∀ d ∈ tables_1, d.before a0 Z = true) : ((Jvm.Cond.initialized "java/util/ImmutableCollections$AbstractImmutableCollection") : Jvm.Cond).before a0 Z = true := hw _ (List.mem_of_getElem? (i := 192) rfl)
theorem w193 {a0 : Array Value} {Z : State} (hw : ∀ d ∈ tables_1, d.before a0 Z = true) : ((Jvm.Cond.code ({ cls := "java/util/ImmutableCollections$AbstractImmutableCollection", name := "<init>", desc := "()V" } : Jvm.MethodName) jdk_47_method_1_code (1 : Nat) (Option.none : Option Jvm.ClassFile.FieldType)) : Jvm.Cond).before a0 Z = true := hw _ (List.mem_of_getElem? (i := 193) rfl)
theorem w194 {a0 : Array Value} {Z : State} (hw : ∀ d ∈ tables_1, d.before a0 Z = true) : ((Jvm.Cond.methodLink "java/util/ImmutableCollections$AbstractImmutableCollection" (1 : Nat) ({ cls := "java/util/AbstractCollection", name := "<init>", desc := "()V" } : Jvm.MethodName)) : Jvm.Cond).before a0 Z = true := hw _ (List.mem_of_getElem? (i := 194) rfl)
theorem w196 {a0 : Array Value} {Z : State} (hw : ∀ d ∈ tables_1, d.before a0 Z = true) : ((Jvm.Cond.methodLink "java/util/ImmutableCollections$List12" (7 : Nat) ({ cls := "java/util/Objects", name := "requireNonNull", desc := "(Ljava/lang/Object;)Ljava/lang/Object;" } : Jvm.MethodName)) : Jvm.Cond).before a0 Z = true := hw _ (List.mem_of_getElem? (i := 196) rfl)
theorem w197 {a0 : Array Value} {Z : State} (hw : ∀ d ∈ tables_1, d.before a0 Z = true) : ((Jvm.Cond.static ({ cls := "java/util/Objects", name := "requireNonNull", desc := "(Ljava/lang/Object;)Ljava/lang/Object;" } : Jvm.MethodName)) : Jvm.Cond).before a0 Z = true := hw _ (List.mem_of_getElem? (i := 197) rfl)
theorem w198 {a0 : Array Value} {Z : State} (hw : ∀ d ∈ tables_1, d.before a0 Z = true) : ((Jvm.Cond.code ({ cls := "java/util/Objects", name := "requireNonNull", desc := "(Ljava/lang/Object;)Ljava/lang/Object;" } : Jvm.MethodName) jdk_31_method_10_code (1 : Nat) (Option.some (Jvm.ClassFile.FieldType.object "java/lang/Object"))) : Jvm.Cond).before a0 Z = true := hw _ (List.mem_of_getElem? (i := 198) rfl)
theorem w199 {a0 : Array Value} {Z : State} (hw : ∀ d ∈ tables_1, d.before a0 Z = true) : ((Jvm.Cond.fieldLink "java/util/ImmutableCollections$List12" (13 : Nat) "java/util/ImmutableCollections$List12" "e0" "Ljava/lang/Object;") : Jvm.Cond).before a0 Z = true := hw _ (List.mem_of_getElem? (i := 199) rfl)
theorem w200 {a0 : Array Value} {Z : State} (hw : ∀ d ∈ tables_1, d.before a0 Z = true) : ((Jvm.Cond.laysFinal "java/util/ImmutableCollections$List12" "java/util/ImmutableCollections$List12" "e0" "Ljava/lang/Object;") : Jvm.Cond).before a0 Z = true := hw _ (List.mem_of_getElem? (i := 200) rfl)
theorem w201 {a0 : Array Value} {Z : State} (hw : ∀ d ∈ tables_1, d.before a0 Z = true) : ((Jvm.Cond.fieldLinkNest "java/util/ImmutableCollections$List12" (19 : Nat) "java/util/ImmutableCollections" "EMPTY" "Ljava/lang/Object;" "java/util/ImmutableCollections") : Jvm.Cond).before a0 Z = true := hw _ (List.mem_of_getElem? (i := 201) rfl)
theorem w202 {a0 : Array Value} {Z : State} (hw : ∀ d ∈ tables_1, d.before a0 Z = true) : ((Jvm.Cond.fieldLink "java/util/ImmutableCollections$List12" (24 : Nat) "java/util/ImmutableCollections$List12" "e1" "Ljava/lang/Object;") : Jvm.Cond).before a0 Z = true := hw _ (List.mem_of_getElem? (i := 202) rfl)
theorem w203 {a0 : Array Value} {Z : State} (hw : ∀ d ∈ tables_1, d.before a0 Z = true) : ((Jvm.Cond.laysFinal "java/util/ImmutableCollections$List12" "java/util/ImmutableCollections$List12" "e1" "Ljava/lang/Object;") : Jvm.Cond).before a0 Z = true := hw _ (List.mem_of_getElem? (i := 203) rfl)
theorem w204 {a0 : Array Value} {Z : State} (hw : ∀ d ∈ tables_1, d.before a0 Z = true) : ((Jvm.Cond.methodLink "java/util/ImmutableCollections" (26 : Nat) ({ cls := "java/util/List", name := "of", desc := "()Ljava/util/List;" } : Jvm.MethodName)) : Jvm.Cond).before a0 Z = true := hw _ (List.mem_of_getElem? (i := 204) rfl)
theorem w205 {a0 : Array Value} {Z : State} (hw : ∀ d ∈ tables_1, d.before a0 Z = true) : ((Jvm.Cond.static ({ cls := "java/util/List", name := "of", desc := "()Ljava/util/List;" } : Jvm.MethodName)) : Jvm.Cond).before a0 Z = true := hw _ (List.mem_of_getElem? (i := 205) rfl)
theorem w206 {a0 : Array Value} {Z : State} (hw : ∀ d ∈ tables_1, d.before a0 Z = true) : ((Jvm.Cond.code ({ cls := "java/util/List", name := "of", desc := "()Ljava/util/List;" } : Jvm.MethodName) jdk_40_method_36_code (0 : Nat) (Option.some (Jvm.ClassFile.FieldType.object "java/util/List"))) : Jvm.Cond).before a0 Z = true := hw _ (List.mem_of_getElem? (i := 206) rfl)
theorem w207 {a0 : Array Value} {Z : State} (hw : ∀ d ∈ tables_1, d.before a0 Z = true) : ((Jvm.Cond.fieldLink "java/util/List" (90 : Nat) "java/util/ImmutableCollections" "EMPTY_LIST" "Ljava/util/ImmutableCollections$ListN;") : Jvm.Cond).before a0 Z = true := hw _ (List.mem_of_getElem? (i := 207) rfl)
theorem w208 {a0 : Array Value} {Z : State} (hw : ∀ d ∈ tables_1, d.before a0 Z = true) : ((Jvm.Cond.methodLink "org/holdfast/model/Designation" (13 : Nat) ({ cls := "java/util/List", name := "isEmpty", desc := "()Z" } : Jvm.MethodName)) : Jvm.Cond).before a0 Z = true := hw _ (List.mem_of_getElem? (i := 208) rfl)
theorem w209 {a0 : Array Value} {Z : State} (hw : ∀ d ∈ tables_1, d.before a0 Z = true) : ((Jvm.Cond.declares ({ cls := "java/util/List", name := "isEmpty", desc := "()Z" } : Jvm.MethodName)) : Jvm.Cond).before a0 Z = true := hw _ (List.mem_of_getElem? (i := 209) rfl)
theorem w210 {a0 : Array Value} {Z : State} (hw : ∀ d ∈ tables_1, d.before a0 Z = true) : ((Jvm.Cond.interfaceMethod "java/util/List" "java/util/List" "isEmpty" "()Z") : Jvm.Cond).before a0 Z = true := hw _ (List.mem_of_getElem? (i := 210) rfl)
theorem w211 {a0 : Array Value} {Z : State} (hw : ∀ d ∈ tables_1, d.before a0 Z = true) : ((Jvm.Cond.selects "java/util/ImmutableCollections$List12" ({ cls := "java/util/List", name := "isEmpty", desc := "()Z" } : Jvm.MethodName) ({ cls := "java/util/ImmutableCollections$List12", name := "isEmpty", desc := "()Z" } : Jvm.MethodName)) : Jvm.Cond).before a0 Z = true := hw _ (List.mem_of_getElem? (i := 211) rfl)
theorem w212 {a0 : Array Value} {Z : State} (hw : ∀ d ∈ tables_1, d.before a0 Z = true) : ((Jvm.Cond.instanceMethod ({ cls := "java/util/ImmutableCollections$List12", name := "isEmpty", desc := "()Z" } : Jvm.MethodName)) : Jvm.Cond).before a0 Z = true := hw _ (List.mem_of_getElem? (i := 212) rfl)
theorem w213 {a0 : Array Value} {Z : State} (hw : ∀ d ∈ tables_1, d.before a0 Z = true) : ((Jvm.Cond.publicMethod ({ cls := "java/util/ImmutableCollections$List12", name := "isEmpty", desc := "()Z" } : Jvm.MethodName)) : Jvm.Cond).before a0 Z = true := hw _ (List.mem_of_getElem? (i := 213) rfl)
theorem w214 {a0 : Array Value} {Z : State} (hw : ∀ d ∈ tables_1, d.before a0 Z = true) : ((Jvm.Cond.unhidden "java/util/ImmutableCollections$List12" "isEmpty" "()Z") : Jvm.Cond).before a0 Z = true := hw _ (List.mem_of_getElem? (i := 214) rfl)
theorem w215 {a0 : Array Value} {Z : State} (hw : ∀ d ∈ tables_1, d.before a0 Z = true) : ((Jvm.Cond.castable "java/util/ImmutableCollections$List12" "java/util/List") : Jvm.Cond).before a0 Z = true := hw _ (List.mem_of_getElem? (i := 215) rfl)
theorem w216 {a0 : Array Value} {Z : State} (hw : ∀ d ∈ tables_1, d.before a0 Z = true) : ((Jvm.Cond.code ({ cls := "java/util/ImmutableCollections$List12", name := "isEmpty", desc := "()Z" } : Jvm.MethodName) jdk_44_method_4_code (1 : Nat) (Option.some Jvm.ClassFile.FieldType.boolean)) : Jvm.Cond).before a0 Z = true := hw _ (List.mem_of_getElem? (i := 216) rfl)
theorem w217 {a0 : Array Value} {Z : State} (hw : ∀ d ∈ tables_1, d.before a0 Z = true) : ((Jvm.Cond.fieldLink "org/holdfast/model/Designation" (24 : Nat) "org/holdfast/model/Designation" "enumeration" "Ljava/util/List;") : Jvm.Cond).before a0 Z = true := hw _ (List.mem_of_getElem? (i := 217) rfl)
theorem w218 {a0 : Array Value} {Z : State} (hw : ∀ d ∈ tables_1, d.before a0 Z = true) : ((Jvm.Cond.laysFinal "org/holdfast/model/Designation" "org/holdfast/model/Designation" "enumeration" "Ljava/util/List;") : Jvm.Cond).before a0 Z = true := hw _ (List.mem_of_getElem? (i := 218) rfl)
theorem w219 {a0 : Array Value} {Z : State} (hw : ∀ d ∈ tables_1, d.before a0 Z = true) : ((Jvm.Cond.fieldLink "org/holdfast/model/Designation" (30 : Nat) "org/holdfast/model/Designation" "chronology" "Ljava/util/List;") : Jvm.Cond).before a0 Z = true := hw _ (List.mem_of_getElem? (i := 219) rfl)
theorem w220 {a0 : Array Value} {Z : State} (hw : ∀ d ∈ tables_1, d.before a0 Z = true) : ((Jvm.Cond.laysFinal "org/holdfast/model/Designation" "org/holdfast/model/Designation" "chronology" "Ljava/util/List;") : Jvm.Cond).before a0 Z = true := hw _ (List.mem_of_getElem? (i := 220) rfl)
theorem w221 {a0 : Array Value} {Z : State} (hw : ∀ d ∈ tables_1, d.before a0 Z = true) : ((Jvm.Cond.selects "java/util/ImmutableCollections$ListN" ({ cls := "java/util/List", name := "isEmpty", desc := "()Z" } : Jvm.MethodName) ({ cls := "java/util/ImmutableCollections$ListN", name := "isEmpty", desc := "()Z" } : Jvm.MethodName)) : Jvm.Cond).before a0 Z = true := hw _ (List.mem_of_getElem? (i := 221) rfl)
theorem w222 {a0 : Array Value} {Z : State} (hw : ∀ d ∈ tables_1, d.before a0 Z = true) : ((Jvm.Cond.instanceMethod ({ cls := "java/util/ImmutableCollections$ListN", name := "isEmpty", desc := "()Z" } : Jvm.MethodName)) : Jvm.Cond).before a0 Z = true := hw _ (List.mem_of_getElem? (i := 222) rfl)
theorem w223 {a0 : Array Value} {Z : State} (hw : ∀ d ∈ tables_1, d.before a0 Z = true) : ((Jvm.Cond.publicMethod ({ cls := "java/util/ImmutableCollections$ListN", name := "isEmpty", desc := "()Z" } : Jvm.MethodName)) : Jvm.Cond).before a0 Z = true := hw _ (List.mem_of_getElem? (i := 223) rfl)
theorem w224 {a0 : Array Value} {Z : State} (hw : ∀ d ∈ tables_1, d.before a0 Z = true) : ((Jvm.Cond.unhidden "java/util/ImmutableCollections$ListN" "isEmpty" "()Z") : Jvm.Cond).before a0 Z = true := hw _ (List.mem_of_getElem? (i := 224) rfl)
theorem w225 {a0 : Array Value} {Z : State} (hw : ∀ d ∈ tables_1, d.before a0 Z = true) : ((Jvm.Cond.castable "java/util/ImmutableCollections$ListN" "java/util/List") : Jvm.Cond).before a0 Z = true := hw _ (List.mem_of_getElem? (i := 225) rfl)
theorem w226 {a0 : Array Value} {Z : State} (hw : ∀ d ∈ tables_1, d.before a0 Z = true) : ((Jvm.Cond.initialized "java/util/ImmutableCollections$ListN") : Jvm.Cond).before a0 Z = true := hw _ (List.mem_of_getElem? (i := 226) rfl)
theorem w227 {a0 : Array Value} {Z : State} (hw : ∀ d ∈ tables_1, d.before a0 Z = true) : ((Jvm.Cond.code ({ cls := "java/util/ImmutableCollections$ListN", name := "isEmpty", desc := "()Z" } : Jvm.MethodName) jdk_45_method_2_code (1 : Nat) (Option.some Jvm.ClassFile.FieldType.boolean)) : Jvm.Cond).before a0 Z = true := hw _ (List.mem_of_getElem? (i := 227) rfl)
theorem w228 {a0 : Array Value} {Z : State} (hw : ∀ d ∈ tables_1, d.before a0 Z = true) : ((Jvm.Cond.fieldLink "java/util/ImmutableCollections$ListN" (7 : Nat) "java/util/ImmutableCollections$ListN" "elements" "[Ljava/lang/Object;") : Jvm.Cond).before a0 Z = true := hw _ (List.mem_of_getElem? (i := 228) rfl)
theorem w230 {a0 : Array Value} {Z : State} (hw : ∀ d ∈ tables_1, d.before a0 Z = true) : ((Jvm.Cond.methodLink "org/holdfast/model/EnumerationAndChronologyCodedPinLaw" (32 : Nat) ({ cls := "org/holdfast/model/EnumerationAndChronology", name := "coded", desc := "(Lorg/holdfast/model/UnitType;Ljava/lang/String;Lorg/holdfast/model/Designation;Lorg/holdfast/model/Designation;)Lorg/holdfast/model/EnumerationAndChronology;" } : Jvm.MethodName)) : Jvm.Cond).before a0 Z = true := hw _ (List.mem_of_getElem? (i := 230) rfl)
theorem w231 {a0 : Array Value} {Z : State} (hw : ∀ d ∈ tables_1, d.before a0 Z = true) : ((Jvm.Cond.static ({ cls := "org/holdfast/model/EnumerationAndChronology", name := "coded", desc := "(Lorg/holdfast/model/UnitType;Ljava/lang/String;Lorg/holdfast/model/Designation;Lorg/holdfast/model/Designation;)Lorg/holdfast/model/EnumerationAndChronology;" } : Jvm.MethodName)) : Jvm.Cond).before a0 Z = true := hw _ (List.mem_of_getElem? (i := 231) rfl)
theorem w232 {a0 : Array Value} {Z : State} (hw : ∀ d ∈ tables_1, d.before a0 Z = true) : ((Jvm.Cond.initialized "org/holdfast/model/EnumerationAndChronology") : Jvm.Cond).before a0 Z = true := hw _ (List.mem_of_getElem? (i := 232) rfl)
theorem w233 {a0 : Array Value} {Z : State} (hw : ∀ d ∈ tables_1, d.before a0 Z = true) : ((Jvm.Cond.code ({ cls := "org/holdfast/model/EnumerationAndChronology", name := "coded", desc := "(Lorg/holdfast/model/UnitType;Ljava/lang/String;Lorg/holdfast/model/Designation;Lorg/holdfast/model/Designation;)Lorg/holdfast/model/EnumerationAndChronology;" } : Jvm.MethodName) prog_29_method_3_code (4 : Nat) (Option.some (Jvm.ClassFile.FieldType.object "org/holdfast/model/EnumerationAndChronology"))) : Jvm.Cond).before a0 Z = true := hw _ (List.mem_of_getElem? (i := 233) rfl)
theorem w234 {a0 : Array Value} {Z : State} (hw : ∀ d ∈ tables_1, d.before a0 Z = true) : ((Jvm.Cond.classLink "org/holdfast/model/EnumerationAndChronology" (17 : Nat) "org/holdfast/model/EnumerationAndChronology") : Jvm.Cond).before a0 Z = true := hw _ (List.mem_of_getElem? (i := 234) rfl)
theorem w235 {a0 : Array Value} {Z : State} (hw : ∀ d ∈ tables_1, d.before a0 Z = true) : ((Jvm.Cond.instantiable "org/holdfast/model/EnumerationAndChronology" (5 : Nat)) : Jvm.Cond).before a0 Z = true := hw _ (List.mem_of_getElem? (i := 235) rfl)
theorem w236 {a0 : Array Value} {Z : State} (hw : ∀ d ∈ tables_1, d.before a0 Z = true) : ((Jvm.Cond.stringLink "org/holdfast/model/EnumerationAndChronology" (48 : Nat) "designation") : Jvm.Cond).before a0 Z = true := hw _ (List.mem_of_getElem? (i := 236) rfl)
theorem w237 {a0 : Array Value} {Z : State} (hw : ∀ d ∈ tables_1, d.before a0 Z = true) : ((Jvm.Cond.methodLink "org/holdfast/model/EnumerationAndChronology" (37 : Nat) ({ cls := "java/util/Objects", name := "requireNonNull", desc := "(Ljava/lang/Object;Ljava/lang/String;)Ljava/lang/Object;" } : Jvm.MethodName)) : Jvm.Cond).before a0 Z = true := hw _ (List.mem_of_getElem? (i := 237) rfl)
theorem w238 {a0 : Array Value} {Z : State} (hw : ∀ d ∈ tables_1, d.before a0 Z = true) : ((Jvm.Cond.classLink "org/holdfast/model/EnumerationAndChronology" (49 : Nat) "org/holdfast/model/Designation") : Jvm.Cond).before a0 Z = true := hw _ (List.mem_of_getElem? (i := 238) rfl)
theorem w240 {a0 : Array Value} {Z : State} (hw : ∀ d ∈ tables_1, d.before a0 Z = true) : ((Jvm.Cond.methodLink "org/holdfast/model/EnumerationAndChronology" (45 : Nat) ({ cls := "org/holdfast/model/EnumerationAndChronology", name := "<init>", desc := "(Lorg/holdfast/model/UnitType;Ljava/lang/String;Ljava/lang/String;Lorg/holdfast/model/Designation;Lorg/holdfast/model/Designation;)V" } : Jvm.MethodName)) : Jvm.Cond).before a0 Z = true := hw _ (List.mem_of_getElem? (i := 240) rfl)
theorem w241 {a0 : Array Value} {Z : State} (hw : ∀ d ∈ tables_1, d.before a0 Z = true) : ((Jvm.Cond.instanceMethod ({ cls := "org/holdfast/model/EnumerationAndChronology", name := "<init>", desc := "(Lorg/holdfast/model/UnitType;Ljava/lang/String;Ljava/lang/String;Lorg/holdfast/model/Designation;Lorg/holdfast/model/Designation;)V" } : Jvm.MethodName)) : Jvm.Cond).before a0 Z = true := hw _ (List.mem_of_getElem? (i := 241) rfl)
theorem w242 {a0 : Array Value} {Z : State} (hw : ∀ d ∈ tables_1, d.before a0 Z = true) : ((Jvm.Cond.code ({ cls := "org/holdfast/model/EnumerationAndChronology", name := "<init>", desc := "(Lorg/holdfast/model/UnitType;Ljava/lang/String;Ljava/lang/String;Lorg/holdfast/model/Designation;Lorg/holdfast/model/Designation;)V" } : Jvm.MethodName) prog_29_method_1_code (6 : Nat) (Option.none : Option Jvm.ClassFile.FieldType)) : Jvm.Cond).before a0 Z = true := hw _ (List.mem_of_getElem? (i := 242) rfl)
theorem w243 {a0 : Array Value} {Z : State} (hw : ∀ d ∈ tables_1, d.before a0 Z = true) : ((Jvm.Cond.methodLink "org/holdfast/model/EnumerationAndChronology" (1 : Nat) ({ cls := "java/lang/Record", name := "<init>", desc := "()V" } : Jvm.MethodName)) : Jvm.Cond).before a0 Z = true := hw _ (List.mem_of_getElem? (i := 243) rfl)
theorem w244 {a0 : Array Value} {Z : State} (hw : ∀ d ∈ tables_1, d.before a0 Z = true) : ((Jvm.Cond.fieldLink "org/holdfast/model/EnumerationAndChronology" (16 : Nat) "org/holdfast/model/EnumerationAndChronology" "unitType" "Lorg/holdfast/model/UnitType;") : Jvm.Cond).before a0 Z = true := hw _ (List.mem_of_getElem? (i := 244) rfl)
theorem w245 {a0 : Array Value} {Z : State} (hw : ∀ d ∈ tables_1, d.before a0 Z = true) : ((Jvm.Cond.laysFinal "org/holdfast/model/EnumerationAndChronology" "org/holdfast/model/EnumerationAndChronology" "unitType" "Lorg/holdfast/model/UnitType;") : Jvm.Cond).before a0 Z = true := hw _ (List.mem_of_getElem? (i := 245) rfl)
theorem w246 {a0 : Array Value} {Z : State} (hw : ∀ d ∈ tables_1, d.before a0 Z = true) : ((Jvm.Cond.fieldLink "org/holdfast/model/EnumerationAndChronology" (22 : Nat) "org/holdfast/model/EnumerationAndChronology" "note" "Ljava/lang/String;") : Jvm.Cond).before a0 Z = true := hw _ (List.mem_of_getElem? (i := 246) rfl)
theorem w247 {a0 : Array Value} {Z : State} (hw : ∀ d ∈ tables_1, d.before a0 Z = true) : ((Jvm.Cond.laysFinal "org/holdfast/model/EnumerationAndChronology" "org/holdfast/model/EnumerationAndChronology" "note" "Ljava/lang/String;") : Jvm.Cond).before a0 Z = true := hw _ (List.mem_of_getElem? (i := 247) rfl)
theorem w248 {a0 : Array Value} {Z : State} (hw : ∀ d ∈ tables_1, d.before a0 Z = true) : ((Jvm.Cond.fieldLink "org/holdfast/model/EnumerationAndChronology" (26 : Nat) "org/holdfast/model/EnumerationAndChronology" "text" "Ljava/lang/String;") : Jvm.Cond).before a0 Z = true := hw _ (List.mem_of_getElem? (i := 248) rfl)
theorem w249 {a0 : Array Value} {Z : State} (hw : ∀ d ∈ tables_1, d.before a0 Z = true) : ((Jvm.Cond.laysFinal "org/holdfast/model/EnumerationAndChronology" "org/holdfast/model/EnumerationAndChronology" "text" "Ljava/lang/String;") : Jvm.Cond).before a0 Z = true := hw _ (List.mem_of_getElem? (i := 249) rfl)
theorem w250 {a0 : Array Value} {Z : State} (hw : ∀ d ∈ tables_1, d.before a0 Z = true) : ((Jvm.Cond.fieldLink "org/holdfast/model/EnumerationAndChronology" (29 : Nat) "org/holdfast/model/EnumerationAndChronology" "designation" "Lorg/holdfast/model/Designation;") : Jvm.Cond).before a0 Z = true := hw _ (List.mem_of_getElem? (i := 250) rfl)
theorem w251 {a0 : Array Value} {Z : State} (hw : ∀ d ∈ tables_1, d.before a0 Z = true) : ((Jvm.Cond.laysFinal "org/holdfast/model/EnumerationAndChronology" "org/holdfast/model/EnumerationAndChronology" "designation" "Lorg/holdfast/model/Designation;") : Jvm.Cond).before a0 Z = true := hw _ (List.mem_of_getElem? (i := 251) rfl)
theorem w252 {a0 : Array Value} {Z : State} (hw : ∀ d ∈ tables_1, d.before a0 Z = true) : ((Jvm.Cond.fieldLink "org/holdfast/model/EnumerationAndChronology" (33 : Nat) "org/holdfast/model/EnumerationAndChronology" "ending" "Lorg/holdfast/model/Designation;") : Jvm.Cond).before a0 Z = true := hw _ (List.mem_of_getElem? (i := 252) rfl)
theorem w253 {a0 : Array Value} {Z : State} (hw : ∀ d ∈ tables_1, d.before a0 Z = true) : ((Jvm.Cond.laysFinal "org/holdfast/model/EnumerationAndChronology" "org/holdfast/model/EnumerationAndChronology" "ending" "Lorg/holdfast/model/Designation;") : Jvm.Cond).before a0 Z = true := hw _ (List.mem_of_getElem? (i := 253) rfl)
theorem w254 {a0 : Array Value} {Z : State} (hw : ∀ d ∈ tables_1, d.before a0 Z = true) : ((Jvm.Cond.methodLink "org/holdfast/model/EnumerationAndChronologyCodedPinLaw" (38 : Nat) ({ cls := "org/holdfast/model/EnumerationAndChronology", name := "unitType", desc := "()Lorg/holdfast/model/UnitType;" } : Jvm.MethodName)) : Jvm.Cond).before a0 Z = true := hw _ (List.mem_of_getElem? (i := 254) rfl)
theorem w255 {a0 : Array Value} {Z : State} (hw : ∀ d ∈ tables_1, d.before a0 Z = true) : ((Jvm.Cond.declares ({ cls := "org/holdfast/model/EnumerationAndChronology", name := "unitType", desc := "()Lorg/holdfast/model/UnitType;" } : Jvm.MethodName)) : Jvm.Cond).before a0 Z = true := hw _ (List.mem_of_getElem? (i := 255) rfl)
theorem w256 {a0 : Array Value} {Z : State} (hw : ∀ d ∈ tables_1, d.before a0 Z = true) : ((Jvm.Cond.instanceMethod ({ cls := "org/holdfast/model/EnumerationAndChronology", name := "unitType", desc := "()Lorg/holdfast/model/UnitType;" } : Jvm.MethodName)) : Jvm.Cond).before a0 Z = true := hw _ (List.mem_of_getElem? (i := 256) rfl)
theorem w257 {a0 : Array Value} {Z : State} (hw : ∀ d ∈ tables_1, d.before a0 Z = true) : ((Jvm.Cond.selects "org/holdfast/model/EnumerationAndChronology" ({ cls := "org/holdfast/model/EnumerationAndChronology", name := "unitType", desc := "()Lorg/holdfast/model/UnitType;" } : Jvm.MethodName) ({ cls := "org/holdfast/model/EnumerationAndChronology", name := "unitType", desc := "()Lorg/holdfast/model/UnitType;" } : Jvm.MethodName)) : Jvm.Cond).before a0 Z = true := hw _ (List.mem_of_getElem? (i := 257) rfl)
theorem w258 {a0 : Array Value} {Z : State} (hw : ∀ d ∈ tables_1, d.before a0 Z = true) : ((Jvm.Cond.code ({ cls := "org/holdfast/model/EnumerationAndChronology", name := "unitType", desc := "()Lorg/holdfast/model/UnitType;" } : Jvm.MethodName) prog_29_method_7_code (1 : Nat) (Option.some (Jvm.ClassFile.FieldType.object "org/holdfast/model/UnitType"))) : Jvm.Cond).before a0 Z = true := hw _ (List.mem_of_getElem? (i := 258) rfl)
theorem w259 {a0 : Array Value} {Z : State} (hw : ∀ d ∈ tables_1, d.before a0 Z = true) : ((Jvm.Cond.methodLink "org/holdfast/model/EnumerationAndChronologyCodedPinLaw" (42 : Nat) ({ cls := "org/holdfast/model/EnumerationAndChronology", name := "note", desc := "()Ljava/lang/String;" } : Jvm.MethodName)) : Jvm.Cond).before a0 Z = true := hw _ (List.mem_of_getElem? (i := 259) rfl)
theorem w260 {a0 : Array Value} {Z : State} (hw : ∀ d ∈ tables_1, d.before a0 Z = true) : ((Jvm.Cond.declares ({ cls := "org/holdfast/model/EnumerationAndChronology", name := "note", desc := "()Ljava/lang/String;" } : Jvm.MethodName)) : Jvm.Cond).before a0 Z = true := hw _ (List.mem_of_getElem? (i := 260) rfl)
theorem w261 {a0 : Array Value} {Z : State} (hw : ∀ d ∈ tables_1, d.before a0 Z = true) : ((Jvm.Cond.instanceMethod ({ cls := "org/holdfast/model/EnumerationAndChronology", name := "note", desc := "()Ljava/lang/String;" } : Jvm.MethodName)) : Jvm.Cond).before a0 Z = true := hw _ (List.mem_of_getElem? (i := 261) rfl)
theorem w262 {a0 : Array Value} {Z : State} (hw : ∀ d ∈ tables_1, d.before a0 Z = true) : ((Jvm.Cond.selects "org/holdfast/model/EnumerationAndChronology" ({ cls := "org/holdfast/model/EnumerationAndChronology", name := "note", desc := "()Ljava/lang/String;" } : Jvm.MethodName) ({ cls := "org/holdfast/model/EnumerationAndChronology", name := "note", desc := "()Ljava/lang/String;" } : Jvm.MethodName)) : Jvm.Cond).before a0 Z = true := hw _ (List.mem_of_getElem? (i := 262) rfl)
theorem w263 {a0 : Array Value} {Z : State} (hw : ∀ d ∈ tables_1, d.before a0 Z = true) : ((Jvm.Cond.code ({ cls := "org/holdfast/model/EnumerationAndChronology", name := "note", desc := "()Ljava/lang/String;" } : Jvm.MethodName) prog_29_method_8_code (1 : Nat) (Option.some (Jvm.ClassFile.FieldType.object "java/lang/String"))) : Jvm.Cond).before a0 Z = true := hw _ (List.mem_of_getElem? (i := 263) rfl)
theorem w264 {a0 : Array Value} {Z : State} (hw : ∀ d ∈ tables_1, d.before a0 Z = true) : ((Jvm.Cond.methodLink "org/holdfast/model/EnumerationAndChronologyCodedPinLaw" (46 : Nat) ({ cls := "org/holdfast/model/EnumerationAndChronology", name := "text", desc := "()Ljava/lang/String;" } : Jvm.MethodName)) : Jvm.Cond).before a0 Z = true := hw _ (List.mem_of_getElem? (i := 264) rfl)
theorem w265 {a0 : Array Value} {Z : State} (hw : ∀ d ∈ tables_1, d.before a0 Z = true) : ((Jvm.Cond.declares ({ cls := "org/holdfast/model/EnumerationAndChronology", name := "text", desc := "()Ljava/lang/String;" } : Jvm.MethodName)) : Jvm.Cond).before a0 Z = true := hw _ (List.mem_of_getElem? (i := 265) rfl)
theorem w266 {a0 : Array Value} {Z : State} (hw : ∀ d ∈ tables_1, d.before a0 Z = true) : ((Jvm.Cond.instanceMethod ({ cls := "org/holdfast/model/EnumerationAndChronology", name := "text", desc := "()Ljava/lang/String;" } : Jvm.MethodName)) : Jvm.Cond).before a0 Z = true := hw _ (List.mem_of_getElem? (i := 266) rfl)
theorem w267 {a0 : Array Value} {Z : State} (hw : ∀ d ∈ tables_1, d.before a0 Z = true) : ((Jvm.Cond.selects "org/holdfast/model/EnumerationAndChronology" ({ cls := "org/holdfast/model/EnumerationAndChronology", name := "text", desc := "()Ljava/lang/String;" } : Jvm.MethodName) ({ cls := "org/holdfast/model/EnumerationAndChronology", name := "text", desc := "()Ljava/lang/String;" } : Jvm.MethodName)) : Jvm.Cond).before a0 Z = true := hw _ (List.mem_of_getElem? (i := 267) rfl)
theorem w268 {a0 : Array Value} {Z : State} (hw : ∀ d ∈ tables_1, d.before a0 Z = true) : ((Jvm.Cond.code ({ cls := "org/holdfast/model/EnumerationAndChronology", name := "text", desc := "()Ljava/lang/String;" } : Jvm.MethodName) prog_29_method_9_code (1 : Nat) (Option.some (Jvm.ClassFile.FieldType.object "java/lang/String"))) : Jvm.Cond).before a0 Z = true := hw _ (List.mem_of_getElem? (i := 268) rfl)
theorem w269 {a0 : Array Value} {Z : State} (hw : ∀ d ∈ tables_1, d.before a0 Z = true) : ((Jvm.Cond.methodLink "org/holdfast/model/EnumerationAndChronologyCodedPinLaw" (49 : Nat) ({ cls := "org/holdfast/model/EnumerationAndChronology", name := "designation", desc := "()Lorg/holdfast/model/Designation;" } : Jvm.MethodName)) : Jvm.Cond).before a0 Z = true := hw _ (List.mem_of_getElem? (i := 269) rfl)
theorem w270 {a0 : Array Value} {Z : State} (hw : ∀ d ∈ tables_1, d.before a0 Z = true) : ((Jvm.Cond.declares ({ cls := "org/holdfast/model/EnumerationAndChronology", name := "designation", desc := "()Lorg/holdfast/model/Designation;" } : Jvm.MethodName)) : Jvm.Cond).before a0 Z = true := hw _ (List.mem_of_getElem? (i := 270) rfl)
theorem w271 {a0 : Array Value} {Z : State} (hw : ∀ d ∈ tables_1, d.before a0 Z = true) : ((Jvm.Cond.instanceMethod ({ cls := "org/holdfast/model/EnumerationAndChronology", name := "designation", desc := "()Lorg/holdfast/model/Designation;" } : Jvm.MethodName)) : Jvm.Cond).before a0 Z = true := hw _ (List.mem_of_getElem? (i := 271) rfl)
theorem w272 {a0 : Array Value} {Z : State} (hw : ∀ d ∈ tables_1, d.before a0 Z = true) : ((Jvm.Cond.selects "org/holdfast/model/EnumerationAndChronology" ({ cls := "org/holdfast/model/EnumerationAndChronology", name := "designation", desc := "()Lorg/holdfast/model/Designation;" } : Jvm.MethodName) ({ cls := "org/holdfast/model/EnumerationAndChronology", name := "designation", desc := "()Lorg/holdfast/model/Designation;" } : Jvm.MethodName)) : Jvm.Cond).before a0 Z = true := hw _ (List.mem_of_getElem? (i := 272) rfl)
theorem w273 {a0 : Array Value} {Z : State} (hw : ∀ d ∈ tables_1, d.before a0 Z = true) : ((Jvm.Cond.code ({ cls := "org/holdfast/model/EnumerationAndChronology", name := "designation", desc := "()Lorg/holdfast/model/Designation;" } : Jvm.MethodName) prog_29_method_10_code (1 : Nat) (Option.some (Jvm.ClassFile.FieldType.object "org/holdfast/model/Designation"))) : Jvm.Cond).before a0 Z = true := hw _ (List.mem_of_getElem? (i := 273) rfl)
theorem w274 {a0 : Array Value} {Z : State} (hw : ∀ d ∈ tables_1, d.before a0 Z = true) : ((Jvm.Cond.methodLink "org/holdfast/model/EnumerationAndChronologyCodedPinLaw" (53 : Nat) ({ cls := "org/holdfast/model/EnumerationAndChronology", name := "ending", desc := "()Lorg/holdfast/model/Designation;" } : Jvm.MethodName)) : Jvm.Cond).before a0 Z = true := hw _ (List.mem_of_getElem? (i := 274) rfl)
theorem w275 {a0 : Array Value} {Z : State} (hw : ∀ d ∈ tables_1, d.before a0 Z = true) : ((Jvm.Cond.declares ({ cls := "org/holdfast/model/EnumerationAndChronology", name := "ending", desc := "()Lorg/holdfast/model/Designation;" } : Jvm.MethodName)) : Jvm.Cond).before a0 Z = true := hw _ (List.mem_of_getElem? (i := 275) rfl)
theorem w276 {a0 : Array Value} {Z : State} (hw : ∀ d ∈ tables_1, d.before a0 Z = true) : ((Jvm.Cond.instanceMethod ({ cls := "org/holdfast/model/EnumerationAndChronology", name := "ending", desc := "()Lorg/holdfast/model/Designation;" } : Jvm.MethodName)) : Jvm.Cond).before a0 Z = true := hw _ (List.mem_of_getElem? (i := 276) rfl)
theorem w277 {a0 : Array Value} {Z : State} (hw : ∀ d ∈ tables_1, d.before a0 Z = true) : ((Jvm.Cond.selects "org/holdfast/model/EnumerationAndChronology" ({ cls := "org/holdfast/model/EnumerationAndChronology", name := "ending", desc := "()Lorg/holdfast/model/Designation;" } : Jvm.MethodName) ({ cls := "org/holdfast/model/EnumerationAndChronology", name := "ending", desc := "()Lorg/holdfast/model/Designation;" } : Jvm.MethodName)) : Jvm.Cond).before a0 Z = true := hw _ (List.mem_of_getElem? (i := 277) rfl)
theorem w278 {a0 : Array Value} {Z : State} (hw : ∀ d ∈ tables_1, d.before a0 Z = true) : ((Jvm.Cond.code ({ cls := "org/holdfast/model/EnumerationAndChronology", name := "ending", desc := "()Lorg/holdfast/model/Designation;" } : Jvm.MethodName) prog_29_method_11_code (1 : Nat) (Option.some (Jvm.ClassFile.FieldType.object "org/holdfast/model/Designation"))) : Jvm.Cond).before a0 Z = true := hw _ (List.mem_of_getElem? (i := 278) rfl)
theorem d6_0 : decode prog_41_method_1_code 0 = .ok (.aload_n 0, 1) := by decide +kernel
theorem d6_1 : decode prog_41_method_1_code 1 = .ok (.invokespecial 1, 3) := by decide +kernel
theorem d6_4 : decode prog_41_method_1_code 4 = .ok (.aload_n 3, 1) := by decide +kernel
theorem d6_5 : decode prog_41_method_1_code 5 = .ok (.ldc 7, 2) := by decide +kernel
theorem d6_7 : decode prog_41_method_1_code 7 = .ok (.invokestatic 9, 3) := by decide +kernel
theorem d6_10 : decode prog_41_method_1_code 10 = .ok (.pop, 1) := by decide +kernel
theorem d6_11 : decode prog_41_method_1_code 11 = .ok (.iload_n 1, 1) := by decide +kernel
theorem d6_12 : decode prog_41_method_1_code 12 = .ok (.iconst 1, 1) := by decide +kernel
theorem d6_13 : decode prog_41_method_1_code 13 = .ok (.if_icmp .ge 17, 3) := by decide +kernel
theorem d6_30 : decode prog_41_method_1_code 30 = .ok (.aload_n 0, 1) := by decide +kernel
theorem d6_31 : decode prog_41_method_1_code 31 = .ok (.iload_n 1, 1) := by decide +kernel
theorem d6_32 : decode prog_41_method_1_code 32 = .ok (.putfield 24, 3) := by decide +kernel
theorem d6_35 : decode prog_41_method_1_code 35 = .ok (.aload_n 0, 1) := by decide +kernel
theorem d6_36 : decode prog_41_method_1_code 36 = .ok (.aload_n 2, 1) := by decide +kernel
theorem d6_37 : decode prog_41_method_1_code 37 = .ok (.putfield 30, 3) := by decide +kernel
theorem d6_40 : decode prog_41_method_1_code 40 = .ok (.aload_n 0, 1) := by decide +kernel
theorem d6_41 : decode prog_41_method_1_code 41 = .ok (.aload_n 3, 1) := by decide +kernel
theorem d6_42 : decode prog_41_method_1_code 42 = .ok (.putfield 34, 3) := by decide +kernel
theorem d6_45 : decode prog_41_method_1_code 45 = .ok (.return_, 1) := by decide +kernel
theorem d7_0 : decode jdk_30_method_1_code 0 = .ok (.aload_n 0, 1) := by decide +kernel
theorem d7_1 : decode jdk_30_method_1_code 1 = .ok (.invokespecial 1, 3) := by decide +kernel
theorem d7_4 : decode jdk_30_method_1_code 4 = .ok (.return_, 1) := by decide +kernel
theorem d8_0 : decode jdk_31_method_11_code 0 = .ok (.aload_n 0, 1) := by decide +kernel
theorem d8_1 : decode jdk_31_method_11_code 1 = .ok (.ifnonnull 12, 3) := by decide +kernel
theorem d8_13 : decode jdk_31_method_11_code 13 = .ok (.aload_n 0, 1) := by decide +kernel
theorem d8_14 : decode jdk_31_method_11_code 14 = .ok (.areturn, 1) := by decide +kernel
theorem d9_0 : decode jdk_38_method_2_code 0 = .ok (.aload_n 0, 1) := by decide +kernel
theorem d9_1 : decode jdk_38_method_2_code 1 = .ok (.invokespecial 1, 3) := by decide +kernel
theorem d9_4 : decode jdk_38_method_2_code 4 = .ok (.aload_n 0, 1) := by decide +kernel
theorem d9_5 : decode jdk_38_method_2_code 5 = .ok (.getstatic 39, 3) := by decide +kernel
theorem d9_8 : decode jdk_38_method_2_code 8 = .ok (.putfield 9, 3) := by decide +kernel
theorem d9_11 : decode jdk_38_method_2_code 11 = .ok (.return_, 1) := by decide +kernel
theorem d10_0 : decode jdk_39_method_1_code 0 = .ok (.aload_n 0, 1) := by decide +kernel
theorem d10_1 : decode jdk_39_method_1_code 1 = .ok (.invokespecial 1, 3) := by decide +kernel
theorem d10_4 : decode jdk_39_method_1_code 4 = .ok (.aload_n 0, 1) := by decide +kernel
theorem d10_5 : decode jdk_39_method_1_code 5 = .ok (.iconst 0, 1) := by decide +kernel
theorem d10_6 : decode jdk_39_method_1_code 6 = .ok (.putfield 7, 3) := by decide +kernel
theorem d10_9 : decode jdk_39_method_1_code 9 = .ok (.return_, 1) := by decide +kernel
theorem d11_0 : decode jdk_22_method_1_code 0 = .ok (.aload_n 0, 1) := by decide +kernel
theorem d11_1 : decode jdk_22_method_1_code 1 = .ok (.invokespecial 1, 3) := by decide +kernel
theorem d11_4 : decode jdk_22_method_1_code 4 = .ok (.return_, 1) := by decide +kernel
theorem d12_0 : decode jdk_38_method_25_code 0 = .ok (.aload_n 0, 1) := by decide +kernel
theorem d12_1 : decode jdk_38_method_25_code 1 = .ok (.dup, 1) := by decide +kernel
theorem d12_2 : decode jdk_38_method_25_code 2 = .ok (.getfield 63, 3) := by decide +kernel
theorem d12_5 : decode jdk_38_method_25_code 5 = .ok (.iconst 1, 1) := by decide +kernel
theorem d12_6 : decode jdk_38_method_25_code 6 = .ok (.iadd, 1) := by decide +kernel
theorem d12_7 : decode jdk_38_method_25_code 7 = .ok (.putfield 63, 3) := by decide +kernel
theorem d12_10 : decode jdk_38_method_25_code 10 = .ok (.aload_n 0, 1) := by decide +kernel
theorem d12_11 : decode jdk_38_method_25_code 11 = .ok (.aload_n 1, 1) := by decide +kernel
theorem d12_12 : decode jdk_38_method_25_code 12 = .ok (.aload_n 0, 1) := by decide +kernel
theorem d12_13 : decode jdk_38_method_25_code 13 = .ok (.getfield 9, 3) := by decide +kernel
theorem d12_16 : decode jdk_38_method_25_code 16 = .ok (.aload_n 0, 1) := by decide +kernel
theorem d12_17 : decode jdk_38_method_25_code 17 = .ok (.getfield 48, 3) := by decide +kernel
theorem d12_20 : decode jdk_38_method_25_code 20 = .ok (.invokevirtual 131, 3) := by decide +kernel
theorem d12_23 : decode jdk_38_method_25_code 23 = .ok (.iconst 1, 1) := by decide +kernel
theorem d12_24 : decode jdk_38_method_25_code 24 = .ok (.ireturn, 1) := by decide +kernel
theorem d13_0 : decode jdk_38_method_24_code 0 = .ok (.iload_n 3, 1) := by decide +kernel
theorem d13_1 : decode jdk_38_method_24_code 1 = .ok (.aload_n 2, 1) := by decide +kernel
theorem d13_2 : decode jdk_38_method_24_code 2 = .ok (.arraylength, 1) := by decide +kernel
theorem d13_3 : decode jdk_38_method_24_code 3 = .ok (.if_icmp .ne 8, 3) := by decide +kernel
theorem d13_6 : decode jdk_38_method_24_code 6 = .ok (.aload_n 0, 1) := by decide +kernel
theorem d13_7 : decode jdk_38_method_24_code 7 = .ok (.invokevirtual 129, 3) := by decide +kernel
theorem d13_10 : decode jdk_38_method_24_code 10 = .ok (.astore_n 2, 1) := by decide +kernel
theorem d13_11 : decode jdk_38_method_24_code 11 = .ok (.aload_n 2, 1) := by decide +kernel
theorem d13_12 : decode jdk_38_method_24_code 12 = .ok (.iload_n 3, 1) := by decide +kernel
theorem d13_13 : decode jdk_38_method_24_code 13 = .ok (.aload_n 1, 1) := by decide +kernel
theorem d13_14 : decode jdk_38_method_24_code 14 = .ok (.aastore, 1) := by decide +kernel
theorem d13_15 : decode jdk_38_method_24_code 15 = .ok (.aload_n 0, 1) := by decide +kernel
theorem d13_16 : decode jdk_38_method_24_code 16 = .ok (.iload_n 3, 1) := by decide +kernel
theorem d13_17 : decode jdk_38_method_24_code 17 = .ok (.iconst 1, 1) := by decide +kernel
theorem d13_18 : decode jdk_38_method_24_code 18 = .ok (.iadd, 1) := by decide +kernel
theorem d13_19 : decode jdk_38_method_24_code 19 = .ok (.putfield 48, 3) := by decide +kernel
theorem d13_22 : decode jdk_38_method_24_code 22 = .ok (.return_, 1) := by decide +kernel
theorem d14_0 : decode jdk_38_method_7_code 0 = .ok (.aload_n 0, 1) := by decide +kernel
theorem d14_1 : decode jdk_38_method_7_code 1 = .ok (.aload_n 0, 1) := by decide +kernel
theorem d14_2 : decode jdk_38_method_7_code 2 = .ok (.getfield 48, 3) := by decide +kernel
theorem d14_5 : decode jdk_38_method_7_code 5 = .ok (.iconst 1, 1) := by decide +kernel
theorem d14_6 : decode jdk_38_method_7_code 6 = .ok (.iadd, 1) := by decide +kernel
theorem d14_7 : decode jdk_38_method_7_code 7 = .ok (.invokevirtual 69, 3) := by decide +kernel
theorem d14_10 : decode jdk_38_method_7_code 10 = .ok (.areturn, 1) := by decide +kernel
theorem d15_0 : decode jdk_38_method_6_code 0 = .ok (.aload_n 0, 1) := by decide +kernel
theorem d15_1 : decode jdk_38_method_6_code 1 = .ok (.getfield 9, 3) := by decide +kernel
theorem d15_4 : decode jdk_38_method_6_code 4 = .ok (.arraylength, 1) := by decide +kernel
theorem d15_5 : decode jdk_38_method_6_code 5 = .ok (.istore_n 2, 1) := by decide +kernel
theorem d15_6 : decode jdk_38_method_6_code 6 = .ok (.iload_n 2, 1) := by decide +kernel
theorem d15_7 : decode jdk_38_method_6_code 7 = .ok (.ifCond .gt 13, 3) := by decide +kernel
theorem d15_10 : decode jdk_38_method_6_code 10 = .ok (.aload_n 0, 1) := by decide +kernel
theorem d15_11 : decode jdk_38_method_6_code 11 = .ok (.getfield 9, 3) := by decide +kernel
theorem d15_14 : decode jdk_38_method_6_code 14 = .ok (.getstatic 39, 3) := by decide +kernel
theorem d15_17 : decode jdk_38_method_6_code 17 = .ok (.if_acmp .eq 28, 3) := by decide +kernel
theorem d15_45 : decode jdk_38_method_6_code 45 = .ok (.aload_n 0, 1) := by decide +kernel
theorem d15_46 : decode jdk_38_method_6_code 46 = .ok (.bipush 10, 2) := by decide +kernel
theorem d15_48 : decode jdk_38_method_6_code 48 = .ok (.iload_n 1, 1) := by decide +kernel
theorem d15_49 : decode jdk_38_method_6_code 49 = .ok (.invokestatic 79, 3) := by decide +kernel
theorem d15_52 : decode jdk_38_method_6_code 52 = .ok (.anewarray 7, 3) := by decide +kernel
theorem d15_55 : decode jdk_38_method_6_code 55 = .ok (.dup_x1, 1) := by decide +kernel
theorem d15_56 : decode jdk_38_method_6_code 56 = .ok (.putfield 9, 3) := by decide +kernel
theorem d15_59 : decode jdk_38_method_6_code 59 = .ok (.areturn, 1) := by decide +kernel
theorem d16_0 : decode jdk_29_method_65_code 0 = .ok (.iload_n 0, 1) := by decide +kernel
theorem d16_1 : decode jdk_29_method_65_code 1 = .ok (.iload_n 1, 1) := by decide +kernel
theorem d16_2 : decode jdk_29_method_65_code 2 = .ok (.if_icmp .lt 7, 3) := by decide +kernel
theorem d16_5 : decode jdk_29_method_65_code 5 = .ok (.iload_n 0, 1) := by decide +kernel
theorem d16_6 : decode jdk_29_method_65_code 6 = .ok (.goto 4, 3) := by decide +kernel
theorem d16_10 : decode jdk_29_method_65_code 10 = .ok (.ireturn, 1) := by decide +kernel
theorem d17_0 : decode prog_21_method_1_code 0 = .ok (.aload_n 0, 1) := by decide +kernel
theorem d17_1 : decode prog_21_method_1_code 1 = .ok (.invokespecial 1, 3) := by decide +kernel
theorem d17_4 : decode prog_21_method_1_code 4 = .ok (.aload_n 1, 1) := by decide +kernel
theorem d17_5 : decode prog_21_method_1_code 5 = .ok (.invokestatic 7, 3) := by decide +kernel
theorem d17_8 : decode prog_21_method_1_code 8 = .ok (.astore_n 1, 1) := by decide +kernel
theorem d17_9 : decode prog_21_method_1_code 9 = .ok (.aload_n 2, 1) := by decide +kernel
theorem d17_10 : decode prog_21_method_1_code 10 = .ok (.invokestatic 7, 3) := by decide +kernel
theorem d17_13 : decode prog_21_method_1_code 13 = .ok (.astore_n 2, 1) := by decide +kernel
theorem d17_14 : decode prog_21_method_1_code 14 = .ok (.aload_n 1, 1) := by decide +kernel
theorem d17_15 : decode prog_21_method_1_code 15 = .ok (.invokeinterface 13 1, 5) := by decide +kernel
theorem d17_20 : decode prog_21_method_1_code 20 = .ok (.ifCond .eq 22, 3) := by decide +kernel
theorem d17_23 : decode prog_21_method_1_code 23 = .ok (.aload_n 2, 1) := by decide +kernel
theorem d17_24 : decode prog_21_method_1_code 24 = .ok (.invokeinterface 13 1, 5) := by decide +kernel
theorem d17_29 : decode prog_21_method_1_code 29 = .ok (.ifCond .eq 13, 3) := by decide +kernel
theorem d17_42 : decode prog_21_method_1_code 42 = .ok (.aload_n 0, 1) := by decide +kernel
theorem d17_43 : decode prog_21_method_1_code 43 = .ok (.aload_n 1, 1) := by decide +kernel
theorem d17_44 : decode prog_21_method_1_code 44 = .ok (.putfield 24, 3) := by decide +kernel
theorem d17_47 : decode prog_21_method_1_code 47 = .ok (.aload_n 0, 1) := by decide +kernel
theorem d17_48 : decode prog_21_method_1_code 48 = .ok (.aload_n 2, 1) := by decide +kernel
theorem d17_49 : decode prog_21_method_1_code 49 = .ok (.putfield 30, 3) := by decide +kernel
theorem d17_52 : decode prog_21_method_1_code 52 = .ok (.return_, 1) := by decide +kernel
theorem d18_0 : decode jdk_40_method_48_code 0 = .ok (.aload_n 0, 1) := by decide +kernel
theorem d18_1 : decode jdk_40_method_48_code 1 = .ok (.invokestatic 112, 3) := by decide +kernel
theorem d18_4 : decode jdk_40_method_48_code 4 = .ok (.areturn, 1) := by decide +kernel
theorem d19_0 : decode jdk_56_method_3_code 0 = .ok (.aload_n 0, 1) := by decide +kernel
theorem d19_1 : decode jdk_56_method_3_code 1 = .ok (.instanceof 10, 3) := by decide +kernel
theorem d19_4 : decode jdk_56_method_3_code 4 = .ok (.ifCond .ne 22, 3) := by decide +kernel
theorem d19_7 : decode jdk_56_method_3_code 7 = .ok (.aload_n 0, 1) := by decide +kernel
theorem d19_8 : decode jdk_56_method_3_code 8 = .ok (.instanceof 12, 3) := by decide +kernel
theorem d19_11 : decode jdk_56_method_3_code 11 = .ok (.ifCond .eq 20, 3) := by decide +kernel
theorem d19_31 : decode jdk_56_method_3_code 31 = .ok (.aload_n 0, 1) := by decide +kernel
theorem d19_32 : decode jdk_56_method_3_code 32 = .ok (.invokeinterface 20 1, 5) := by decide +kernel
theorem d19_37 : decode jdk_56_method_3_code 37 = .ok (.ifCond .eq 7, 3) := by decide +kernel
theorem d19_40 : decode jdk_56_method_3_code 40 = .ok (.invokestatic 26, 3) := by decide +kernel
theorem d19_43 : decode jdk_56_method_3_code 43 = .ok (.areturn, 1) := by decide +kernel
theorem d19_44 : decode jdk_56_method_3_code 44 = .ok (.aload_n 0, 1) := by decide +kernel
theorem d19_45 : decode jdk_56_method_3_code 45 = .ok (.invokeinterface 30 1, 5) := by decide +kernel
theorem d19_50 : decode jdk_56_method_3_code 50 = .ok (.invokestatic 34, 3) := by decide +kernel
theorem d19_53 : decode jdk_56_method_3_code 53 = .ok (.areturn, 1) := by decide +kernel
theorem d20_0 : decode jdk_38_method_9_code 0 = .ok (.aload_n 0, 1) := by decide +kernel
theorem d20_1 : decode jdk_38_method_9_code 1 = .ok (.getfield 48, 3) := by decide +kernel
theorem d20_4 : decode jdk_38_method_9_code 4 = .ok (.ifCond .ne 7, 3) := by decide +kernel
theorem d20_7 : decode jdk_38_method_9_code 7 = .ok (.iconst 1, 1) := by decide +kernel
theorem d20_8 : decode jdk_38_method_9_code 8 = .ok (.goto 4, 3) := by decide +kernel
theorem d20_11 : decode jdk_38_method_9_code 11 = .ok (.iconst 0, 1) := by decide +kernel
theorem d20_12 : decode jdk_38_method_9_code 12 = .ok (.ireturn, 1) := by decide +kernel
theorem d21_0 : decode jdk_38_method_16_code 0 = .ok (.aload_n 0, 1) := by decide +kernel
theorem d21_1 : decode jdk_38_method_16_code 1 = .ok (.getfield 9, 3) := by decide +kernel
theorem d21_4 : decode jdk_38_method_16_code 4 = .ok (.aload_n 0, 1) := by decide +kernel
theorem d21_5 : decode jdk_38_method_16_code 5 = .ok (.getfield 48, 3) := by decide +kernel
theorem d21_8 : decode jdk_38_method_16_code 8 = .ok (.invokestatic 66, 3) := by decide +kernel
theorem d21_11 : decode jdk_38_method_16_code 11 = .ok (.areturn, 1) := by decide +kernel
theorem d22_0 : decode jdk_65_method_119_code 0 = .ok (.aload_n 0, 1) := by decide +kernel
theorem d22_1 : decode jdk_65_method_119_code 1 = .ok (.iload_n 1, 1) := by decide +kernel
theorem d22_2 : decode jdk_65_method_119_code 2 = .ok (.aload_n 0, 1) := by decide +kernel
theorem d22_3 : decode jdk_65_method_119_code 3 = .ok (.invokevirtual 86, 3) := by decide +kernel
theorem d22_6 : decode jdk_65_method_119_code 6 = .ok (.invokestatic 300, 3) := by decide +kernel
theorem d22_9 : decode jdk_65_method_119_code 9 = .ok (.areturn, 1) := by decide +kernel
theorem d23_0 : decode jdk_65_method_120_code 0 = .ok (.aload_n 2, 1) := by decide +kernel
theorem d23_1 : decode jdk_65_method_120_code 1 = .ok (.ldc 110, 2) := by decide +kernel
theorem d23_3 : decode jdk_65_method_120_code 3 = .ok (.if_acmp .ne 10, 3) := by decide +kernel
theorem d23_6 : decode jdk_65_method_120_code 6 = .ok (.iload_n 1, 1) := by decide +kernel
theorem d23_7 : decode jdk_65_method_120_code 7 = .ok (.anewarray 2, 3) := by decide +kernel
theorem d23_10 : decode jdk_65_method_120_code 10 = .ok (.goto 14, 3) := by decide +kernel
theorem d23_24 : decode jdk_65_method_120_code 24 = .ok (.astore_n 3, 1) := by decide +kernel
theorem d23_25 : decode jdk_65_method_120_code 25 = .ok (.aload_n 0, 1) := by decide +kernel
theorem d23_26 : decode jdk_65_method_120_code 26 = .ok (.iconst 0, 1) := by decide +kernel
theorem d23_27 : decode jdk_65_method_120_code 27 = .ok (.aload_n 3, 1) := by decide +kernel
theorem d23_28 : decode jdk_65_method_120_code 28 = .ok (.iconst 0, 1) := by decide +kernel
theorem d23_29 : decode jdk_65_method_120_code 29 = .ok (.aload_n 0, 1) := by decide +kernel
theorem d23_30 : decode jdk_65_method_120_code 30 = .ok (.arraylength, 1) := by decide +kernel
theorem d23_31 : decode jdk_65_method_120_code 31 = .ok (.iload_n 1, 1) := by decide +kernel
theorem d23_32 : decode jdk_65_method_120_code 32 = .ok (.invokestatic 304, 3) := by decide +kernel
theorem d23_35 : decode jdk_65_method_120_code 35 = .ok (.invokestatic 150, 3) := by decide +kernel
theorem d23_38 : decode jdk_65_method_120_code 38 = .ok (.aload_n 3, 1) := by decide +kernel
theorem d23_39 : decode jdk_65_method_120_code 39 = .ok (.areturn, 1) := by decide +kernel
theorem d24_0 : decode jdk_29_method_69_code 0 = .ok (.iload_n 0, 1) := by decide +kernel
theorem d24_1 : decode jdk_29_method_69_code 1 = .ok (.iload_n 1, 1) := by decide +kernel
theorem d24_2 : decode jdk_29_method_69_code 2 = .ok (.if_icmp .gt 7, 3) := by decide +kernel
theorem d24_9 : decode jdk_29_method_69_code 9 = .ok (.iload_n 1, 1) := by decide +kernel
theorem d24_10 : decode jdk_29_method_69_code 10 = .ok (.ireturn, 1) := by decide +kernel
theorem d25_0 : decode jdk_40_method_47_code 0 = .ok (.aload_n 0, 1) := by decide +kernel
theorem d25_1 : decode jdk_40_method_47_code 1 = .ok (.arraylength, 1) := by decide +kernel
theorem d25_2 : decode jdk_40_method_47_code 2 = .ok (.tableswitch 57 0 2 #[26, 32, 43], 26) := by decide +kernel
theorem d25_34 : decode jdk_40_method_47_code 34 = .ok (.new 96, 3) := by decide +kernel
theorem d25_37 : decode jdk_40_method_47_code 37 = .ok (.dup, 1) := by decide +kernel
theorem d25_38 : decode jdk_40_method_47_code 38 = .ok (.aload_n 0, 1) := by decide +kernel
theorem d25_39 : decode jdk_40_method_47_code 39 = .ok (.iconst 0, 1) := by decide +kernel
theorem d25_40 : decode jdk_40_method_47_code 40 = .ok (.aaload, 1) := by decide +kernel
theorem d25_41 : decode jdk_40_method_47_code 41 = .ok (.invokespecial 98, 3) := by decide +kernel
theorem d25_44 : decode jdk_40_method_47_code 44 = .ok (.areturn, 1) := by decide +kernel
theorem d26_0 : decode jdk_44_method_1_code 0 = .ok (.aload_n 0, 1) := by decide +kernel
theorem d26_1 : decode jdk_44_method_1_code 1 = .ok (.invokespecial 1, 3) := by decide +kernel
theorem d26_4 : decode jdk_44_method_1_code 4 = .ok (.aload_n 0, 1) := by decide +kernel
theorem d26_5 : decode jdk_44_method_1_code 5 = .ok (.aload_n 1, 1) := by decide +kernel
theorem d26_6 : decode jdk_44_method_1_code 6 = .ok (.invokestatic 7, 3) := by decide +kernel
theorem d26_9 : decode jdk_44_method_1_code 9 = .ok (.putfield 13, 3) := by decide +kernel
theorem d26_12 : decode jdk_44_method_1_code 12 = .ok (.aload_n 0, 1) := by decide +kernel
theorem d26_13 : decode jdk_44_method_1_code 13 = .ok (.getstatic 19, 3) := by decide +kernel
theorem d26_16 : decode jdk_44_method_1_code 16 = .ok (.putfield 24, 3) := by decide +kernel
theorem d26_19 : decode jdk_44_method_1_code 19 = .ok (.return_, 1) := by decide +kernel
theorem d27_0 : decode jdk_46_method_1_code 0 = .ok (.aload_n 0, 1) := by decide +kernel
theorem d27_1 : decode jdk_46_method_1_code 1 = .ok (.invokespecial 1, 3) := by decide +kernel
theorem d27_4 : decode jdk_46_method_1_code 4 = .ok (.return_, 1) := by decide +kernel
theorem d28_0 : decode jdk_47_method_1_code 0 = .ok (.aload_n 0, 1) := by decide +kernel
theorem d28_1 : decode jdk_47_method_1_code 1 = .ok (.invokespecial 1, 3) := by decide +kernel
theorem d28_4 : decode jdk_47_method_1_code 4 = .ok (.return_, 1) := by decide +kernel
theorem d29_0 : decode jdk_31_method_10_code 0 = .ok (.aload_n 0, 1) := by decide +kernel
theorem d29_1 : decode jdk_31_method_10_code 1 = .ok (.ifnonnull 11, 3) := by decide +kernel
theorem d29_12 : decode jdk_31_method_10_code 12 = .ok (.aload_n 0, 1) := by decide +kernel
theorem d29_13 : decode jdk_31_method_10_code 13 = .ok (.areturn, 1) := by decide +kernel
theorem d30_0 : decode jdk_40_method_36_code 0 = .ok (.getstatic 90, 3) := by decide +kernel
theorem d30_3 : decode jdk_40_method_36_code 3 = .ok (.areturn, 1) := by decide +kernel
theorem d31_0 : decode jdk_44_method_4_code 0 = .ok (.iconst 0, 1) := by decide +kernel
theorem d31_1 : decode jdk_44_method_4_code 1 = .ok (.ireturn, 1) := by decide +kernel
theorem d32_0 : decode jdk_45_method_2_code 0 = .ok (.aload_n 0, 1) := by decide +kernel
theorem d32_1 : decode jdk_45_method_2_code 1 = .ok (.getfield 7, 3) := by decide +kernel
theorem d32_4 : decode jdk_45_method_2_code 4 = .ok (.arraylength, 1) := by decide +kernel
theorem d32_5 : decode jdk_45_method_2_code 5 = .ok (.ifCond .ne 7, 3) := by decide +kernel
theorem d32_8 : decode jdk_45_method_2_code 8 = .ok (.iconst 1, 1) := by decide +kernel
theorem d32_9 : decode jdk_45_method_2_code 9 = .ok (.goto 4, 3) := by decide +kernel
theorem d32_13 : decode jdk_45_method_2_code 13 = .ok (.ireturn, 1) := by decide +kernel
theorem d33_0 : decode prog_29_method_3_code 0 = .ok (.new 17, 3) := by decide +kernel
theorem d33_3 : decode prog_29_method_3_code 3 = .ok (.dup, 1) := by decide +kernel
theorem d33_4 : decode prog_29_method_3_code 4 = .ok (.aload_n 0, 1) := by decide +kernel
theorem d33_5 : decode prog_29_method_3_code 5 = .ok (.aload_n 1, 1) := by decide +kernel
theorem d33_6 : decode prog_29_method_3_code 6 = .ok (.aconst_null, 1) := by decide +kernel
theorem d33_7 : decode prog_29_method_3_code 7 = .ok (.aload_n 2, 1) := by decide +kernel
theorem d33_8 : decode prog_29_method_3_code 8 = .ok (.ldc 48, 2) := by decide +kernel
theorem d33_10 : decode prog_29_method_3_code 10 = .ok (.invokestatic 37, 3) := by decide +kernel
theorem d33_13 : decode prog_29_method_3_code 13 = .ok (.checkcast 49, 3) := by decide +kernel
theorem d33_16 : decode prog_29_method_3_code 16 = .ok (.aload_n 3, 1) := by decide +kernel
theorem d33_17 : decode prog_29_method_3_code 17 = .ok (.invokespecial 45, 3) := by decide +kernel
theorem d33_20 : decode prog_29_method_3_code 20 = .ok (.areturn, 1) := by decide +kernel
theorem d34_0 : decode prog_29_method_1_code 0 = .ok (.aload_n 0, 1) := by decide +kernel
theorem d34_1 : decode prog_29_method_1_code 1 = .ok (.invokespecial 1, 3) := by decide +kernel
theorem d34_4 : decode prog_29_method_1_code 4 = .ok (.aload_n 3, 1) := by decide +kernel
theorem d34_5 : decode prog_29_method_1_code 5 = .ok (.ifnonnull 7, 3) := by decide +kernel
theorem d34_8 : decode prog_29_method_1_code 8 = .ok (.iconst 1, 1) := by decide +kernel
theorem d34_9 : decode prog_29_method_1_code 9 = .ok (.goto 4, 3) := by decide +kernel
theorem d34_13 : decode prog_29_method_1_code 13 = .ok (.aload 4, 2) := by decide +kernel
theorem d34_15 : decode prog_29_method_1_code 15 = .ok (.ifnonnull 7, 3) := by decide +kernel
theorem d34_22 : decode prog_29_method_1_code 22 = .ok (.iconst 0, 1) := by decide +kernel
theorem d34_23 : decode prog_29_method_1_code 23 = .ok (.if_icmp .ne 13, 3) := by decide +kernel
theorem d34_36 : decode prog_29_method_1_code 36 = .ok (.aload 5, 2) := by decide +kernel
theorem d34_38 : decode prog_29_method_1_code 38 = .ok (.ifnull 18, 3) := by decide +kernel
theorem d34_41 : decode prog_29_method_1_code 41 = .ok (.aload 4, 2) := by decide +kernel
theorem d34_43 : decode prog_29_method_1_code 43 = .ok (.ifnonnull 13, 3) := by decide +kernel
theorem d34_56 : decode prog_29_method_1_code 56 = .ok (.aload_n 0, 1) := by decide +kernel
theorem d34_57 : decode prog_29_method_1_code 57 = .ok (.aload_n 1, 1) := by decide +kernel
theorem d34_58 : decode prog_29_method_1_code 58 = .ok (.putfield 16, 3) := by decide +kernel
theorem d34_61 : decode prog_29_method_1_code 61 = .ok (.aload_n 0, 1) := by decide +kernel
theorem d34_62 : decode prog_29_method_1_code 62 = .ok (.aload_n 2, 1) := by decide +kernel
theorem d34_63 : decode prog_29_method_1_code 63 = .ok (.putfield 22, 3) := by decide +kernel
theorem d34_66 : decode prog_29_method_1_code 66 = .ok (.aload_n 0, 1) := by decide +kernel
theorem d34_67 : decode prog_29_method_1_code 67 = .ok (.aload_n 3, 1) := by decide +kernel
theorem d34_68 : decode prog_29_method_1_code 68 = .ok (.putfield 26, 3) := by decide +kernel
theorem d34_71 : decode prog_29_method_1_code 71 = .ok (.aload_n 0, 1) := by decide +kernel
theorem d34_72 : decode prog_29_method_1_code 72 = .ok (.aload 4, 2) := by decide +kernel
theorem d34_74 : decode prog_29_method_1_code 74 = .ok (.putfield 29, 3) := by decide +kernel
theorem d34_77 : decode prog_29_method_1_code 77 = .ok (.aload_n 0, 1) := by decide +kernel
theorem d34_78 : decode prog_29_method_1_code 78 = .ok (.aload 5, 2) := by decide +kernel
theorem d34_80 : decode prog_29_method_1_code 80 = .ok (.putfield 33, 3) := by decide +kernel
theorem d34_83 : decode prog_29_method_1_code 83 = .ok (.return_, 1) := by decide +kernel
theorem d35_0 : decode prog_29_method_7_code 0 = .ok (.aload_n 0, 1) := by decide +kernel
theorem d35_1 : decode prog_29_method_7_code 1 = .ok (.getfield 16, 3) := by decide +kernel
theorem d35_4 : decode prog_29_method_7_code 4 = .ok (.areturn, 1) := by decide +kernel
theorem d36_0 : decode prog_29_method_8_code 0 = .ok (.aload_n 0, 1) := by decide +kernel
theorem d36_1 : decode prog_29_method_8_code 1 = .ok (.getfield 22, 3) := by decide +kernel
theorem d36_4 : decode prog_29_method_8_code 4 = .ok (.areturn, 1) := by decide +kernel
theorem d37_0 : decode prog_29_method_9_code 0 = .ok (.aload_n 0, 1) := by decide +kernel
theorem d37_1 : decode prog_29_method_9_code 1 = .ok (.getfield 26, 3) := by decide +kernel
theorem d37_4 : decode prog_29_method_9_code 4 = .ok (.areturn, 1) := by decide +kernel
theorem d38_0 : decode prog_29_method_10_code 0 = .ok (.aload_n 0, 1) := by decide +kernel
theorem d38_1 : decode prog_29_method_10_code 1 = .ok (.getfield 29, 3) := by decide +kernel
theorem d38_4 : decode prog_29_method_10_code 4 = .ok (.areturn, 1) := by decide +kernel
theorem d39_0 : decode prog_29_method_11_code 0 = .ok (.aload_n 0, 1) := by decide +kernel
theorem d39_1 : decode prog_29_method_11_code 1 = .ok (.getfield 33, 3) := by decide +kernel
theorem d39_4 : decode prog_29_method_11_code 4 = .ok (.areturn, 1) := by decide +kernel
theorem pn6 : plainFor (⟨"org/holdfast/model/Level", "<init>", "(ILjava/lang/String;Ljava/lang/String;)V"⟩ : MethodName) = true := by first | exact plainFor_of_name (by first | (simp [plainName, overriddenIn]; done) | decide +kernel) | decide +kernel
theorem pn7 : plainFor (⟨"java/lang/Record", "<init>", "()V"⟩ : MethodName) = true := by first | exact plainFor_of_name (by first | (simp [plainName, overriddenIn]; done) | decide +kernel) | decide +kernel
theorem pn8 : plainFor (⟨"java/util/Objects", "requireNonNull", "(Ljava/lang/Object;Ljava/lang/String;)Ljava/lang/Object;"⟩ : MethodName) = true := by first | exact plainFor_of_name (by first | (simp [plainName, overriddenIn]; done) | decide +kernel) | decide +kernel
theorem pn9 : plainFor (⟨"java/util/ArrayList", "<init>", "()V"⟩ : MethodName) = true := by first | exact plainFor_of_name (by first | (simp [plainName, overriddenIn]; done) | decide +kernel) | decide +kernel
theorem pn10 : plainFor (⟨"java/util/AbstractList", "<init>", "()V"⟩ : MethodName) = true := by first | exact plainFor_of_name (by first | (simp [plainName, overriddenIn]; done) | decide +kernel) | decide +kernel
theorem pn11 : plainFor (⟨"java/util/AbstractCollection", "<init>", "()V"⟩ : MethodName) = true := by first | exact plainFor_of_name (by first | (simp [plainName, overriddenIn]; done) | decide +kernel) | decide +kernel
theorem pn12 : plainFor (⟨"java/util/ArrayList", "add", "(Ljava/lang/Object;)Z"⟩ : MethodName) = true := by first | exact plainFor_of_name (by first | (simp [plainName, overriddenIn]; done) | decide +kernel) | decide +kernel
theorem pn13 : plainFor (⟨"java/util/ArrayList", "add", "(Ljava/lang/Object;[Ljava/lang/Object;I)V"⟩ : MethodName) = true := by first | exact plainFor_of_name (by first | (simp [plainName, overriddenIn]; done) | decide +kernel) | decide +kernel
theorem pn14 : plainFor (⟨"java/util/ArrayList", "grow", "()[Ljava/lang/Object;"⟩ : MethodName) = true := by first | exact plainFor_of_name (by first | (simp [plainName, overriddenIn]; done) | decide +kernel) | decide +kernel
theorem pn15 : plainFor (⟨"java/util/ArrayList", "grow", "(I)[Ljava/lang/Object;"⟩ : MethodName) = true := by first | exact plainFor_of_name (by first | (simp [plainName, overriddenIn]; done) | decide +kernel) | decide +kernel
theorem pn16 : plainFor (⟨"java/lang/Math", "max", "(II)I"⟩ : MethodName) = true := by first | exact plainFor_of_name (by first | (simp [plainName, overriddenIn]; done) | decide +kernel) | decide +kernel
theorem pn17 : plainFor (⟨"org/holdfast/model/Designation", "<init>", "(Ljava/util/List;Ljava/util/List;)V"⟩ : MethodName) = true := by first | exact plainFor_of_name (by first | (simp [plainName, overriddenIn]; done) | decide +kernel) | decide +kernel
theorem pn18 : plainFor (⟨"java/util/List", "copyOf", "(Ljava/util/Collection;)Ljava/util/List;"⟩ : MethodName) = true := by first | exact plainFor_of_name (by first | (simp [plainName, overriddenIn]; done) | decide +kernel) | decide +kernel
theorem pn19 : plainFor (⟨"java/util/ImmutableCollections", "listCopy", "(Ljava/util/Collection;)Ljava/util/List;"⟩ : MethodName) = true := by first | exact plainFor_of_name (by first | (simp [plainName, overriddenIn]; done) | decide +kernel) | decide +kernel
theorem pn20 : plainFor (⟨"java/util/ArrayList", "isEmpty", "()Z"⟩ : MethodName) = true := by first | exact plainFor_of_name (by first | (simp [plainName, overriddenIn]; done) | decide +kernel) | decide +kernel
theorem pn21 : plainFor (⟨"java/util/ArrayList", "toArray", "()[Ljava/lang/Object;"⟩ : MethodName) = true := by first | exact plainFor_of_name (by first | (simp [plainName, overriddenIn]; done) | decide +kernel) | decide +kernel
theorem pn22 : plainFor (⟨"java/util/Arrays", "copyOf", "([Ljava/lang/Object;I)[Ljava/lang/Object;"⟩ : MethodName) = true := by first | exact plainFor_of_name (by first | (simp [plainName, overriddenIn]; done) | decide +kernel) | decide +kernel
theorem pn23 : plainFor (⟨"java/util/Arrays", "copyOf", "([Ljava/lang/Object;ILjava/lang/Class;)[Ljava/lang/Object;"⟩ : MethodName) = true := by first | exact plainFor_of_name (by first | (simp [plainName, overriddenIn]; done) | decide +kernel) | decide +kernel
theorem pn24 : plainFor (⟨"java/lang/Math", "min", "(II)I"⟩ : MethodName) = true := by first | exact plainFor_of_name (by first | (simp [plainName, overriddenIn]; done) | decide +kernel) | decide +kernel
theorem pn25 : plainFor (⟨"java/util/List", "of", "([Ljava/lang/Object;)Ljava/util/List;"⟩ : MethodName) = true := by first | exact plainFor_of_name (by first | (simp [plainName, overriddenIn]; done) | decide +kernel) | decide +kernel
theorem pn26 : plainFor (⟨"java/util/ImmutableCollections$List12", "<init>", "(Ljava/lang/Object;)V"⟩ : MethodName) = true := by first | exact plainFor_of_name (by first | (simp [plainName, overriddenIn]; done) | decide +kernel) | decide +kernel
theorem pn27 : plainFor (⟨"java/util/ImmutableCollections$AbstractImmutableList", "<init>", "()V"⟩ : MethodName) = true := by first | exact plainFor_of_name (by first | (simp [plainName, overriddenIn]; done) | decide +kernel) | decide +kernel
theorem pn28 : plainFor (⟨"java/util/ImmutableCollections$AbstractImmutableCollection", "<init>", "()V"⟩ : MethodName) = true := by first | exact plainFor_of_name (by first | (simp [plainName, overriddenIn]; done) | decide +kernel) | decide +kernel
theorem pn29 : plainFor (⟨"java/util/Objects", "requireNonNull", "(Ljava/lang/Object;)Ljava/lang/Object;"⟩ : MethodName) = true := by first | exact plainFor_of_name (by first | (simp [plainName, overriddenIn]; done) | decide +kernel) | decide +kernel
theorem pn30 : plainFor (⟨"java/util/List", "of", "()Ljava/util/List;"⟩ : MethodName) = true := by first | exact plainFor_of_name (by first | (simp [plainName, overriddenIn]; done) | decide +kernel) | decide +kernel
theorem pn31 : plainFor (⟨"java/util/ImmutableCollections$List12", "isEmpty", "()Z"⟩ : MethodName) = true := by first | exact plainFor_of_name (by first | (simp [plainName, overriddenIn]; done) | decide +kernel) | decide +kernel
theorem pn32 : plainFor (⟨"java/util/ImmutableCollections$ListN", "isEmpty", "()Z"⟩ : MethodName) = true := by first | exact plainFor_of_name (by first | (simp [plainName, overriddenIn]; done) | decide +kernel) | decide +kernel
theorem pn33 : plainFor (⟨"org/holdfast/model/EnumerationAndChronology", "coded", "(Lorg/holdfast/model/UnitType;Ljava/lang/String;Lorg/holdfast/model/Designation;Lorg/holdfast/model/Designation;)Lorg/holdfast/model/EnumerationAndChronology;"⟩ : MethodName) = true := by first | exact plainFor_of_name (by first | (simp [plainName, overriddenIn]; done) | decide +kernel) | decide +kernel
theorem pn34 : plainFor (⟨"org/holdfast/model/EnumerationAndChronology", "<init>", "(Lorg/holdfast/model/UnitType;Ljava/lang/String;Ljava/lang/String;Lorg/holdfast/model/Designation;Lorg/holdfast/model/Designation;)V"⟩ : MethodName) = true := by first | exact plainFor_of_name (by first | (simp [plainName, overriddenIn]; done) | decide +kernel) | decide +kernel
theorem pn35 : plainFor (⟨"org/holdfast/model/EnumerationAndChronology", "unitType", "()Lorg/holdfast/model/UnitType;"⟩ : MethodName) = true := by first | exact plainFor_of_name (by first | (simp [plainName, overriddenIn]; done) | decide +kernel) | decide +kernel
theorem pn36 : plainFor (⟨"org/holdfast/model/EnumerationAndChronology", "note", "()Ljava/lang/String;"⟩ : MethodName) = true := by first | exact plainFor_of_name (by first | (simp [plainName, overriddenIn]; done) | decide +kernel) | decide +kernel
theorem pn37 : plainFor (⟨"org/holdfast/model/EnumerationAndChronology", "text", "()Ljava/lang/String;"⟩ : MethodName) = true := by first | exact plainFor_of_name (by first | (simp [plainName, overriddenIn]; done) | decide +kernel) | decide +kernel
theorem pn38 : plainFor (⟨"org/holdfast/model/EnumerationAndChronology", "designation", "()Lorg/holdfast/model/Designation;"⟩ : MethodName) = true := by first | exact plainFor_of_name (by first | (simp [plainName, overriddenIn]; done) | decide +kernel) | decide +kernel
theorem pn39 : plainFor (⟨"org/holdfast/model/EnumerationAndChronology", "ending", "()Lorg/holdfast/model/Designation;"⟩ : MethodName) = true := by first | exact plainFor_of_name (by first | (simp [plainName, overriddenIn]; done) | decide +kernel) | decide +kernel
theorem pn40 : plainFor x = true := by first | exact plainFor_of_name (by first | (simp [plainName, overriddenIn]; done) | decide +kernel) | decide +kernel
theorem pd0 : parseMethodDescriptor "()V" = some ⟨[], none⟩ := by decide +kernel
theorem pd1 : parseMethodDescriptor "(Ljava/lang/Object;)Ljava/lang/Object;" = some ⟨[(.object "java/lang/Object")], some (.object "java/lang/Object")⟩ := by decide +kernel
theorem pd2 : parseMethodDescriptor "(Ljava/lang/Object;Ljava/lang/String;)Ljava/lang/Object;" = some ⟨[(.object "java/lang/Object"), (.object "java/lang/String")], some (.object "java/lang/Object")⟩ := by decide +kernel
theorem pd3 : parseMethodDescriptor "()Z" = some ⟨[], some .boolean⟩ := by decide +kernel
theorem pd4 : parseMethodDescriptor "(II)I" = some ⟨[.int, .int], some .int⟩ := by decide +kernel
theorem pd5 : parseMethodDescriptor "([Ljava/lang/Object;ILjava/lang/Class;)[Ljava/lang/Object;" = some ⟨[(.array (.object "java/lang/Object")), .int, (.object "java/lang/Class")], some (.array (.object "java/lang/Object"))⟩ := by decide +kernel
theorem pd6 : parseMethodDescriptor "([Ljava/lang/Object;I)[Ljava/lang/Object;" = some ⟨[(.array (.object "java/lang/Object")), .int], some (.array (.object "java/lang/Object"))⟩ := by decide +kernel
theorem pd7 : parseMethodDescriptor "()[Ljava/lang/Object;" = some ⟨[], some (.array (.object "java/lang/Object"))⟩ := by decide +kernel
theorem pd8 : parseMethodDescriptor "(Ljava/lang/Object;)V" = some ⟨[(.object "java/lang/Object")], none⟩ := by decide +kernel
theorem pd9 : parseMethodDescriptor "([Ljava/lang/Object;)Ljava/util/List;" = some ⟨[(.array (.object "java/lang/Object"))], some (.object "java/util/List")⟩ := by decide +kernel
theorem pd10 : parseMethodDescriptor "(Ljava/util/Collection;)Ljava/util/List;" = some ⟨[(.object "java/util/Collection")], some (.object "java/util/List")⟩ := by decide +kernel
theorem pd11 : parseMethodDescriptor "()Ljava/util/List;" = some ⟨[], some (.object "java/util/List")⟩ := by decide +kernel
theorem pd12 : parseMethodDescriptor "(Lorg/holdfast/model/UnitType;Ljava/lang/String;Ljava/lang/String;Lorg/holdfast/model/Designation;Lorg/holdfast/model/Designation;)V" = some ⟨[(.object "org/holdfast/model/UnitType"), (.object "java/lang/String"), (.object "java/lang/String"), (.object "org/holdfast/model/Designation"), (.object "org/holdfast/model/Designation")], none⟩ := by decide +kernel
theorem pd13 : parseMethodDescriptor "([C)V" = some ⟨[(.array .char)], none⟩ := by decide +kernel
theorem pd14 : parseMethodDescriptor "(ILjava/lang/String;Ljava/lang/String;)V" = some ⟨[.int, (.object "java/lang/String"), (.object "java/lang/String")], none⟩ := by decide +kernel
theorem pd15 : parseMethodDescriptor "(I)[Ljava/lang/Object;" = some ⟨[.int], some (.array (.object "java/lang/Object"))⟩ := by decide +kernel
theorem pd16 : parseMethodDescriptor "(Ljava/lang/Object;[Ljava/lang/Object;I)V" = some ⟨[(.object "java/lang/Object"), (.array (.object "java/lang/Object")), .int], none⟩ := by decide +kernel
theorem pd17 : parseMethodDescriptor "(Ljava/lang/Object;)Z" = some ⟨[(.object "java/lang/Object")], some .boolean⟩ := by decide +kernel
theorem pd18 : parseMethodDescriptor "(Ljava/util/List;Ljava/util/List;)V" = some ⟨[(.object "java/util/List"), (.object "java/util/List")], none⟩ := by decide +kernel
theorem pd19 : parseMethodDescriptor "(Lorg/holdfast/model/UnitType;Ljava/lang/String;Lorg/holdfast/model/Designation;Lorg/holdfast/model/Designation;)Lorg/holdfast/model/EnumerationAndChronology;" = some ⟨[(.object "org/holdfast/model/UnitType"), (.object "java/lang/String"), (.object "org/holdfast/model/Designation"), (.object "org/holdfast/model/Designation")], some (.object "org/holdfast/model/EnumerationAndChronology")⟩ := by decide +kernel
theorem pd20 : parseMethodDescriptor "()Lorg/holdfast/model/UnitType;" = some ⟨[], some (.object "org/holdfast/model/UnitType")⟩ := by decide +kernel
theorem pd21 : parseMethodDescriptor "()Ljava/lang/String;" = some ⟨[], some (.object "java/lang/String")⟩ := by decide +kernel
theorem pd22 : parseMethodDescriptor "()Lorg/holdfast/model/Designation;" = some ⟨[], some (.object "org/holdfast/model/Designation")⟩ := by decide +kernel
abbrev Rrm11 : Room := { frames := 1, cells := 0, slots := 0, locals := 12 }
def Qrm11 (Z : State) (de : Addr) (el : Addr) (em : Addr) (x : Addr) (h0 : Heap) (v : Option Value) (h : Heap) : Prop := v = none ∧ h = h0
set_option maxRecDepth 65536 in
set_option maxHeartbeats 40000000 in
theorem rm11 (l : Launch) (Z : State) (a0 : Array Value) (hw : ∀ d ∈ tables_1, d.before a0 Z = true) (hEL : EW Z a0 ([] : List (String × Nat))) (zc : Int32) (O2 : Sta Z Z.heap "java/lang/String" "COMPACT_STRINGS" "Z" (.int zc)) (P5 : ¬ zc = 0) (de : Addr) (kde : ClassId) (OD : Sta Z Z.heap "java/util/ArrayList" "DEFAULTCAPACITY_EMPTY_ELEMENTDATA" "[Ljava/lang/Object;" (.ref de)) (AD : Arv Z Z.heap de kde (.object "java/lang/Object") (0 : Int32) [] .null) (em : Addr) (OM : Sta Z Z.heap "java/util/ImmutableCollections" "EMPTY" "Ljava/lang/Object;" (.ref em)) (el ee : Addr) (kee : ClassId) (OL : Sta Z Z.heap "java/util/ImmutableCollections" "EMPTY_LIST" "Ljava/util/ImmutableCollections$ListN;" (.ref el)) (XL : Exa Z Z.heap el "java/util/ImmutableCollections$ListN") (FL : Fld Z Z.heap el "java/util/ImmutableCollections$ListN" "elements" "[Ljava/lang/Object;" (.ref ee)) (AE : Arv Z Z.heap ee kee (.object "java/lang/Object") (0 : Int32) [] .null) (mr : Addr) (MR : Mir Z "[Ljava/lang/Object;" mr) (x : Addr) (h0 : Heap) (O0 : Old Z Z.heap.size h0)  : Met l Z ([] : List (String × Nat)) (⟨"java/util/AbstractCollection", "<init>", "()V"⟩ : MethodName) jdk_22_method_1_code 1 (none) [] Rrm11 [] #[(.ref x)] h0 (Qrm11 Z de el em x h0) := by
  refine Met.start (a0 := a0) (Ls := #[.val (.ref x)]) pn11 hEL O0 (fun m => by first | (simp [entryFrame, mkF, argsToLocals, Value.category]; done) | rfl) ?_
  intro p e s m below meth cc T0 vm0 X0 sf0_ hby hml hret hnm
  have hx := X0.hx
  have zz := X0.ge
  have A0 := X0.at
  show Gets p e below _ (T0.setTop (mkF m 0 #[.val (.ref x)] []))
  refine Gets.via (fun _ k => (XS.aloadN A0 hx rfl (hb hby d11_0) rfl rfl k)) ?_
  show Gets p e below _ (T0.setTop (mkF m 1 #[.val (.ref x)] [(.ref x)]))
  refine X0.objInit (w75 hw) (w12 hw) (w13 hw) rfl (by rw [hml]; rfl) rfl (hb hby d11_1) (by decide) (W := 0) (by show 2 * 0 + _ ≤ _; exact Nat.le_of_eq rfl) (by decide) fun T1 X1 => ?_
  have A2 := X1.at
  show Gets p e below _ (T1.setTop (mkF m 4 #[.val (.ref x)] []))
  exact X1.retV hret (hb hby d11_4) (by decide) (by decide) ⟨rfl, rfl⟩
abbrev Rrm10 : Room := { frames := 2, cells := 0, slots := 0, locals := 24 }
def Qrm10 (Z : State) (de : Addr) (el : Addr) (em : Addr) (x : Addr) (h0 : Heap) (v : Option Value) (h : Heap) : Prop := v = none ∧ Keep h0 h [x] ∧ Exa Z h x "java/util/ArrayList" ∧ Fld Z h x "java/util/AbstractList" "modCount" "I" (.int (0 : Int32)) ∧ Fld Z h x "java/util/ArrayList" "size" "I" (.int (0 : Int32)) ∧ Fld Z h x "java/util/ArrayList" "elementData" "[Ljava/lang/Object;" .null
set_option maxRecDepth 65536 in
set_option maxHeartbeats 40000000 in
theorem rm10 (l : Launch) (Z : State) (a0 : Array Value) (hw : ∀ d ∈ tables_1, d.before a0 Z = true) (hEL : EW Z a0 ([] : List (String × Nat))) (zc : Int32) (O2 : Sta Z Z.heap "java/lang/String" "COMPACT_STRINGS" "Z" (.int zc)) (P5 : ¬ zc = 0) (de : Addr) (kde : ClassId) (OD : Sta Z Z.heap "java/util/ArrayList" "DEFAULTCAPACITY_EMPTY_ELEMENTDATA" "[Ljava/lang/Object;" (.ref de)) (AD : Arv Z Z.heap de kde (.object "java/lang/Object") (0 : Int32) [] .null) (em : Addr) (OM : Sta Z Z.heap "java/util/ImmutableCollections" "EMPTY" "Ljava/lang/Object;" (.ref em)) (el ee : Addr) (kee : ClassId) (OL : Sta Z Z.heap "java/util/ImmutableCollections" "EMPTY_LIST" "Ljava/util/ImmutableCollections$ListN;" (.ref el)) (XL : Exa Z Z.heap el "java/util/ImmutableCollections$ListN") (FL : Fld Z Z.heap el "java/util/ImmutableCollections$ListN" "elements" "[Ljava/lang/Object;" (.ref ee)) (AE : Arv Z Z.heap ee kee (.object "java/lang/Object") (0 : Int32) [] .null) (mr : Addr) (MR : Mir Z "[Ljava/lang/Object;" mr) (x : Addr) (h0 : Heap) (O0 : Old Z Z.heap.size h0) (Pr0 : Exa Z h0 x "java/util/ArrayList") (Pr1 : Fld Z h0 x "java/util/AbstractList" "modCount" "I" (.int (0 : Int32))) (Pr2 : Fld Z h0 x "java/util/ArrayList" "size" "I" (.int (0 : Int32))) (Pr3 : Fld Z h0 x "java/util/ArrayList" "elementData" "[Ljava/lang/Object;" .null) (Pr4 : Z.heap.size ≤ x) : Met l Z ([] : List (String × Nat)) (⟨"java/util/AbstractList", "<init>", "()V"⟩ : MethodName) jdk_39_method_1_code 1 (none) [] Rrm10 [] #[(.ref x)] h0 (Qrm10 Z de el em x h0) := by
  refine Met.start (a0 := a0) (Ls := #[.val (.ref x)]) pn10 hEL O0 (fun m => by first | (simp [entryFrame, mkF, argsToLocals, Value.category]; done) | rfl) ?_
  intro p e s m below meth cc T0 vm0 X0 sf0_ hby hml hret hnm
  have hx := X0.hx
  have zz := X0.ge
  have A0 := X0.at
  have l1 := ltA Pr0.lt
  have l2 := ltA Pr1.lt
  have l3 := ltA Pr2.lt
  have l4 := ltA Pr3.lt
  show Gets p e below _ (T0.setTop (mkF m 0 #[.val (.ref x)] []))
  refine Gets.via (fun _ k => (XS.aloadN A0 hx rfl (hb hby d10_0) rfl rfl k)) ?_
  show Gets p e below _ (T0.setTop (mkF m 1 #[.val (.ref x)] [(.ref x)]))
  refine X0.callI (y := (⟨"java/util/AbstractCollection", "<init>", "()V"⟩ : MethodName)) (W := 0) rfl (w69 hw) (w70 hw) (w74 hw) (by decide) (X0.payM (sf := []) (rm11 l Z a0 hw hEL zc O2 P5 de kde OD AD em OM el ee kee OL XL FL AE mr MR x h0 X0.old ) sf0 (w74 hw) (w73 hw) (by decide) (by decide)) rfl (by rw [hml]; rfl) (a := x) (argsL := []) (rest := []) (lenOf pd0 rfl) rfl rfl (by show 2 * 0 + _ ≤ _; exact Nat.le_of_eq rfl) (hb hby d10_1) (by decide) (by decide) fun T5 h5 vm5 v5 X5 C5 z5 q5 => ?_
  obtain ⟨rfl, K5⟩ := q5
  rw [K5] at X5 C5
  have A6 := X5.at
  show Gets p e below _ (T5.setTop (mkF m 4 #[.val (.ref x)] []))
  refine Gets.via (fun _ k => (XS.aloadN A6 hx rfl (hb hby d10_4) rfl rfl (XS.iconst A6 hx rfl (hb hby d10_5) k))) ?_
  show Gets p e below _ (T5.setTop (mkF m 6 #[.val (.ref x)] [(.int (0 : Int32)), (.ref x)]))
  refine X5.putF (host := "") (Or.inl (w76 hw)) Via.refl Pr1 Pr0 (Or.inl (w77 hw)) (w58 hw) (ty := .int) (by decide) rfl rfl (leA (by omega)) (Safe.exa X5.hZ.alike Pr0 (by decide) (by decide)) rfl rfl (hb hby d10_6) fun T7 h7 X7 C7 W7 F7 Z7 => ?_
  have z7 := W7.size
  have A8 := X7.at
  show Gets p e below _ (T7.setTop (mkF m 9 #[.val (.ref x)] []))
  have f9 : Fld Z h7 x "java/util/ArrayList" "size" "I" (.int (0 : Int32)) := Pr2.other W7 (Or.inr (slot_ne (t := .int) (t' := .int) (Or.inl (w89 hw)) (Or.inl (w77 hw)) (by decide) (by decide) (by decide)))
  have f10 : Fld Z h7 x "java/util/ArrayList" "elementData" "[Ljava/lang/Object;" .null := Pr3.other W7 (Or.inr (slot_ne (t := (.array (.object "java/lang/Object"))) (t' := .int) (Or.inl (w80 hw)) (Or.inl (w77 hw)) (by decide) (by decide) (by decide)))
  exact X7.retV hret (hb hby d10_9) (by decide) (by decide) ⟨rfl, ((Keep.refl h0 [x]).wr W7 (Or.inl (List.mem_of_getElem? (i := 0) rfl))), Z7, F7, f9, f10⟩
abbrev Rrm9 : Room := { frames := 3, cells := 0, slots := 0, locals := 36 }
def Qrm9 (Z : State) (de : Addr) (el : Addr) (em : Addr) (x : Addr) (h0 : Heap) (v : Option Value) (h : Heap) : Prop := v = none ∧ Keep h0 h [x] ∧ Exa Z h x "java/util/ArrayList" ∧ Fld Z h x "java/util/AbstractList" "modCount" "I" (.int (0 : Int32)) ∧ Fld Z h x "java/util/ArrayList" "size" "I" (.int (0 : Int32)) ∧ Fld Z h x "java/util/ArrayList" "elementData" "[Ljava/lang/Object;" (.ref de)
set_option maxRecDepth 65536 in
set_option maxHeartbeats 40000000 in
theorem rm9 (l : Launch) (Z : State) (a0 : Array Value) (hw : ∀ d ∈ tables_1, d.before a0 Z = true) (hEL : EW Z a0 ([] : List (String × Nat))) (zc : Int32) (O2 : Sta Z Z.heap "java/lang/String" "COMPACT_STRINGS" "Z" (.int zc)) (P5 : ¬ zc = 0) (de : Addr) (kde : ClassId) (OD : Sta Z Z.heap "java/util/ArrayList" "DEFAULTCAPACITY_EMPTY_ELEMENTDATA" "[Ljava/lang/Object;" (.ref de)) (AD : Arv Z Z.heap de kde (.object "java/lang/Object") (0 : Int32) [] .null) (em : Addr) (OM : Sta Z Z.heap "java/util/ImmutableCollections" "EMPTY" "Ljava/lang/Object;" (.ref em)) (el ee : Addr) (kee : ClassId) (OL : Sta Z Z.heap "java/util/ImmutableCollections" "EMPTY_LIST" "Ljava/util/ImmutableCollections$ListN;" (.ref el)) (XL : Exa Z Z.heap el "java/util/ImmutableCollections$ListN") (FL : Fld Z Z.heap el "java/util/ImmutableCollections$ListN" "elements" "[Ljava/lang/Object;" (.ref ee)) (AE : Arv Z Z.heap ee kee (.object "java/lang/Object") (0 : Int32) [] .null) (mr : Addr) (MR : Mir Z "[Ljava/lang/Object;" mr) (x : Addr) (h0 : Heap) (O0 : Old Z Z.heap.size h0) (Pr0 : Exa Z h0 x "java/util/ArrayList") (Pr1 : Fld Z h0 x "java/util/AbstractList" "modCount" "I" (.int (0 : Int32))) (Pr2 : Fld Z h0 x "java/util/ArrayList" "size" "I" (.int (0 : Int32))) (Pr3 : Fld Z h0 x "java/util/ArrayList" "elementData" "[Ljava/lang/Object;" .null) (Pr4 : Z.heap.size ≤ x) : Met l Z ([] : List (String × Nat)) (⟨"java/util/ArrayList", "<init>", "()V"⟩ : MethodName) jdk_38_method_2_code 1 (none) [] Rrm9 [] #[(.ref x)] h0 (Qrm9 Z de el em x h0) := by
  refine Met.start (a0 := a0) (Ls := #[.val (.ref x)]) pn9 hEL O0 (fun m => by first | (simp [entryFrame, mkF, argsToLocals, Value.category]; done) | rfl) ?_
  intro p e s m below meth cc T0 vm0 X0 sf0_ hby hml hret hnm
  have hx := X0.hx
  have zz := X0.ge
  have A0 := X0.at
  have l1 := ltA Pr0.lt
  have l2 := ltA Pr1.lt
  have l3 := ltA Pr2.lt
  have l4 := ltA Pr3.lt
  show Gets p e below _ (T0.setTop (mkF m 0 #[.val (.ref x)] []))
  refine Gets.via (fun _ k => (XS.aloadN A0 hx rfl (hb hby d9_0) rfl rfl k)) ?_
  show Gets p e below _ (T0.setTop (mkF m 1 #[.val (.ref x)] [(.ref x)]))
  refine X0.callI (y := (⟨"java/util/AbstractList", "<init>", "()V"⟩ : MethodName)) (W := 0) rfl (w63 hw) (w64 hw) (w68 hw) (by decide) (X0.payM (sf := []) (rm10 l Z a0 hw hEL zc O2 P5 de kde OD AD em OM el ee kee OL XL FL AE mr MR x h0 X0.old Pr0 Pr1 Pr2 Pr3 Pr4) sf0 (w68 hw) (w67 hw) (by decide) (by decide)) rfl (by rw [hml]; rfl) (a := x) (argsL := []) (rest := []) (lenOf pd0 rfl) rfl rfl (by show 2 * 0 + _ ≤ _; exact Nat.le_of_eq rfl) (hb hby d9_1) (by decide) (by decide) fun T5 h5 vm5 v5 X5 C5 z5 q5 => ?_
  obtain ⟨rfl, K5, g5_0, g5_1, g5_2, g5_3⟩ := q5
  have l6 := ltA g5_0.lt
  have l7 := ltA g5_1.lt
  have l8 := ltA g5_2.lt
  have l9 := ltA g5_3.lt
  have A10 := X5.at
  show Gets p e below _ (T5.setTop (mkF m 4 #[.val (.ref x)] []))
  refine Gets.via (fun _ k => (XS.aloadN A10 hx rfl (hb hby d9_4) rfl rfl k)) ?_
  show Gets p e below _ (T5.setTop (mkF m 5 #[.val (.ref x)] [(.ref x)]))
  refine X5.getS (host := "") (Or.inl (w78 hw)) Via.refl (X5.sta OD) rfl (hb hby d9_5) fun T11 X11 => ?_
  have A12 := X11.at
  show Gets p e below _ (T11.setTop (mkF m 8 #[.val (.ref x)] [(.ref de), (.ref x)]))
  refine X11.putF (host := "") (Or.inl (w79 hw)) Via.refl g5_3 g5_0 (Or.inl (w80 hw)) (w58 hw) (ty := (.array (.object "java/lang/Object"))) (by decide) rfl rfl (leA (by omega)) (Safe.exa X11.hZ.alike g5_0 (by decide) (by decide)) rfl rfl (hb hby d9_8) fun T13 h13 X13 C13 W13 F13 Z13 => ?_
  have z13 := W13.size
  have A14 := X13.at
  show Gets p e below _ (T13.setTop (mkF m 11 #[.val (.ref x)] []))
  have f15 : Fld Z h13 x "java/util/AbstractList" "modCount" "I" (.int (0 : Int32)) := g5_1.other W13 (Or.inr (slot_ne (t := .int) (t' := (.array (.object "java/lang/Object"))) (Or.inl (w77 hw)) (Or.inl (w80 hw)) (by decide) (by decide) (by decide)))
  have f16 : Fld Z h13 x "java/util/ArrayList" "size" "I" (.int (0 : Int32)) := g5_2.other W13 (Or.inr (slot_ne (t := .int) (t' := (.array (.object "java/lang/Object"))) (Or.inl (w89 hw)) (Or.inl (w80 hw)) (by decide) (by decide) (by decide)))
  exact X13.retV hret (hb hby d9_11) (by decide) (by decide) ⟨rfl, (((Keep.refl h0 [x]).trans K5 (allS (Or.inl (List.mem_of_getElem? (i := 0) rfl)) all0)).wr W13 (Or.inl (List.mem_of_getElem? (i := 0) rfl))), Z13, f15, f16, F13⟩
abbrev Rrm28 : Room := { frames := 2, cells := 0, slots := 0, locals := 24 }
def Qrm28 (Z : State) (de : Addr) (el : Addr) (em : Addr) (x : Addr) (h0 : Heap) (v : Option Value) (h : Heap) : Prop := v = none ∧ h = h0
set_option maxRecDepth 65536 in
set_option maxHeartbeats 40000000 in
theorem rm28 (l : Launch) (Z : State) (a0 : Array Value) (hw : ∀ d ∈ tables_1, d.before a0 Z = true) (hEL : EW Z a0 ([] : List (String × Nat))) (zc : Int32) (O2 : Sta Z Z.heap "java/lang/String" "COMPACT_STRINGS" "Z" (.int zc)) (P5 : ¬ zc = 0) (de : Addr) (kde : ClassId) (OD : Sta Z Z.heap "java/util/ArrayList" "DEFAULTCAPACITY_EMPTY_ELEMENTDATA" "[Ljava/lang/Object;" (.ref de)) (AD : Arv Z Z.heap de kde (.object "java/lang/Object") (0 : Int32) [] .null) (em : Addr) (OM : Sta Z Z.heap "java/util/ImmutableCollections" "EMPTY" "Ljava/lang/Object;" (.ref em)) (el ee : Addr) (kee : ClassId) (OL : Sta Z Z.heap "java/util/ImmutableCollections" "EMPTY_LIST" "Ljava/util/ImmutableCollections$ListN;" (.ref el)) (XL : Exa Z Z.heap el "java/util/ImmutableCollections$ListN") (FL : Fld Z Z.heap el "java/util/ImmutableCollections$ListN" "elements" "[Ljava/lang/Object;" (.ref ee)) (AE : Arv Z Z.heap ee kee (.object "java/lang/Object") (0 : Int32) [] .null) (mr : Addr) (MR : Mir Z "[Ljava/lang/Object;" mr) (x : Addr) (h0 : Heap) (O0 : Old Z Z.heap.size h0)  : Met l Z ([] : List (String × Nat)) (⟨"java/util/ImmutableCollections$AbstractImmutableCollection", "<init>", "()V"⟩ : MethodName) jdk_47_method_1_code 1 (none) [] Rrm28 [] #[(.ref x)] h0 (Qrm28 Z de el em x h0) := by
  refine Met.start (a0 := a0) (Ls := #[.val (.ref x)]) pn28 hEL O0 (fun m => by first | (simp [entryFrame, mkF, argsToLocals, Value.category]; done) | rfl) ?_
  intro p e s m below meth cc T0 vm0 X0 sf0_ hby hml hret hnm
  have hx := X0.hx
  have zz := X0.ge
  have A0 := X0.at
  show Gets p e below _ (T0.setTop (mkF m 0 #[.val (.ref x)] []))
  refine Gets.via (fun _ k => (XS.aloadN A0 hx rfl (hb hby d28_0) rfl rfl k)) ?_
  show Gets p e below _ (T0.setTop (mkF m 1 #[.val (.ref x)] [(.ref x)]))
  refine X0.callI (y := (⟨"java/util/AbstractCollection", "<init>", "()V"⟩ : MethodName)) (W := 0) rfl (w194 hw) (w70 hw) (w74 hw) (by decide) (X0.payM (sf := []) (rm11 l Z a0 hw hEL zc O2 P5 de kde OD AD em OM el ee kee OL XL FL AE mr MR x h0 X0.old ) sf0 (w74 hw) (w73 hw) (by decide) (by decide)) rfl (by rw [hml]; rfl) (a := x) (argsL := []) (rest := []) (lenOf pd0 rfl) rfl rfl (by show 2 * 0 + _ ≤ _; exact Nat.le_of_eq rfl) (hb hby d28_1) (by decide) (by decide) fun T1 h1 vm1 v1 X1 C1 z1 q1 => ?_
  obtain ⟨rfl, K1⟩ := q1
  rw [K1] at X1 C1
  have A2 := X1.at
  show Gets p e below _ (T1.setTop (mkF m 4 #[.val (.ref x)] []))
  exact X1.retV hret (hb hby d28_4) (by decide) (by decide) ⟨rfl, rfl⟩
abbrev Rrm27 : Room := { frames := 3, cells := 0, slots := 0, locals := 36 }
def Qrm27 (Z : State) (de : Addr) (el : Addr) (em : Addr) (x : Addr) (h0 : Heap) (v : Option Value) (h : Heap) : Prop := v = none ∧ h = h0
set_option maxRecDepth 65536 in
set_option maxHeartbeats 40000000 in
theorem rm27 (l : Launch) (Z : State) (a0 : Array Value) (hw : ∀ d ∈ tables_1, d.before a0 Z = true) (hEL : EW Z a0 ([] : List (String × Nat))) (zc : Int32) (O2 : Sta Z Z.heap "java/lang/String" "COMPACT_STRINGS" "Z" (.int zc)) (P5 : ¬ zc = 0) (de : Addr) (kde : ClassId) (OD : Sta Z Z.heap "java/util/ArrayList" "DEFAULTCAPACITY_EMPTY_ELEMENTDATA" "[Ljava/lang/Object;" (.ref de)) (AD : Arv Z Z.heap de kde (.object "java/lang/Object") (0 : Int32) [] .null) (em : Addr) (OM : Sta Z Z.heap "java/util/ImmutableCollections" "EMPTY" "Ljava/lang/Object;" (.ref em)) (el ee : Addr) (kee : ClassId) (OL : Sta Z Z.heap "java/util/ImmutableCollections" "EMPTY_LIST" "Ljava/util/ImmutableCollections$ListN;" (.ref el)) (XL : Exa Z Z.heap el "java/util/ImmutableCollections$ListN") (FL : Fld Z Z.heap el "java/util/ImmutableCollections$ListN" "elements" "[Ljava/lang/Object;" (.ref ee)) (AE : Arv Z Z.heap ee kee (.object "java/lang/Object") (0 : Int32) [] .null) (mr : Addr) (MR : Mir Z "[Ljava/lang/Object;" mr) (x : Addr) (h0 : Heap) (O0 : Old Z Z.heap.size h0)  : Met l Z ([] : List (String × Nat)) (⟨"java/util/ImmutableCollections$AbstractImmutableList", "<init>", "()V"⟩ : MethodName) jdk_46_method_1_code 1 (none) [] Rrm27 [] #[(.ref x)] h0 (Qrm27 Z de el em x h0) := by
  refine Met.start (a0 := a0) (Ls := #[.val (.ref x)]) pn27 hEL O0 (fun m => by first | (simp [entryFrame, mkF, argsToLocals, Value.category]; done) | rfl) ?_
  intro p e s m below meth cc T0 vm0 X0 sf0_ hby hml hret hnm
  have hx := X0.hx
  have zz := X0.ge
  have A0 := X0.at
  show Gets p e below _ (T0.setTop (mkF m 0 #[.val (.ref x)] []))
  refine Gets.via (fun _ k => (XS.aloadN A0 hx rfl (hb hby d27_0) rfl rfl k)) ?_
  show Gets p e below _ (T0.setTop (mkF m 1 #[.val (.ref x)] [(.ref x)]))
  refine X0.callI (y := (⟨"java/util/ImmutableCollections$AbstractImmutableCollection", "<init>", "()V"⟩ : MethodName)) (W := 0) rfl (w188 hw) (w189 hw) (w193 hw) (by decide) (X0.payM (sf := []) (rm28 l Z a0 hw hEL zc O2 P5 de kde OD AD em OM el ee kee OL XL FL AE mr MR x h0 X0.old ) sf0 (w193 hw) (w192 hw) (by decide) (by decide)) rfl (by rw [hml]; rfl) (a := x) (argsL := []) (rest := []) (lenOf pd0 rfl) rfl rfl (by show 2 * 0 + _ ≤ _; exact Nat.le_of_eq rfl) (hb hby d27_1) (by decide) (by decide) fun T1 h1 vm1 v1 X1 C1 z1 q1 => ?_
  obtain ⟨rfl, K1⟩ := q1
  rw [K1] at X1 C1
  have A2 := X1.at
  show Gets p e below _ (T1.setTop (mkF m 4 #[.val (.ref x)] []))
  exact X1.retV hret (hb hby d27_4) (by decide) (by decide) ⟨rfl, rfl⟩
abbrev Rrm29 : Room := { frames := 0, cells := 0, slots := 0, locals := 0 }
def Qrm29 (Z : State) (de : Addr) (el : Addr) (em : Addr) (a : Addr) (h0 : Heap) (v : Option Value) (h : Heap) : Prop := v = some (.ref a) ∧ h = h0
set_option maxRecDepth 65536 in
set_option maxHeartbeats 40000000 in
theorem rm29 (l : Launch) (Z : State) (a0 : Array Value) (hw : ∀ d ∈ tables_1, d.before a0 Z = true) (hEL : EW Z a0 ([] : List (String × Nat))) (zc : Int32) (O2 : Sta Z Z.heap "java/lang/String" "COMPACT_STRINGS" "Z" (.int zc)) (P5 : ¬ zc = 0) (de : Addr) (kde : ClassId) (OD : Sta Z Z.heap "java/util/ArrayList" "DEFAULTCAPACITY_EMPTY_ELEMENTDATA" "[Ljava/lang/Object;" (.ref de)) (AD : Arv Z Z.heap de kde (.object "java/lang/Object") (0 : Int32) [] .null) (em : Addr) (OM : Sta Z Z.heap "java/util/ImmutableCollections" "EMPTY" "Ljava/lang/Object;" (.ref em)) (el ee : Addr) (kee : ClassId) (OL : Sta Z Z.heap "java/util/ImmutableCollections" "EMPTY_LIST" "Ljava/util/ImmutableCollections$ListN;" (.ref el)) (XL : Exa Z Z.heap el "java/util/ImmutableCollections$ListN") (FL : Fld Z Z.heap el "java/util/ImmutableCollections$ListN" "elements" "[Ljava/lang/Object;" (.ref ee)) (AE : Arv Z Z.heap ee kee (.object "java/lang/Object") (0 : Int32) [] .null) (mr : Addr) (MR : Mir Z "[Ljava/lang/Object;" mr) (a : Addr) (h0 : Heap) (O0 : Old Z Z.heap.size h0)  : Met l Z ([] : List (String × Nat)) (⟨"java/util/Objects", "requireNonNull", "(Ljava/lang/Object;)Ljava/lang/Object;"⟩ : MethodName) jdk_31_method_10_code 1 (some (.object "java/lang/Object")) [] Rrm29 [] #[(.ref a)] h0 (Qrm29 Z de el em a h0) := by
  refine Met.start (a0 := a0) (Ls := #[.val (.ref a)]) pn29 hEL O0 (fun m => by first | (simp [entryFrame, mkF, argsToLocals, Value.category]; done) | rfl) ?_
  intro p e s m below meth cc T0 vm0 X0 sf0_ hby hml hret hnm
  have hx := X0.hx
  have zz := X0.ge
  have A0 := X0.at
  show Gets p e below _ (T0.setTop (mkF m 0 #[.val (.ref a)] []))
  refine Gets.via (fun _ k => (XS.aloadN A0 hx rfl (hb hby d29_0) rfl rfl (XS.ifnonnullYes A0 hx rfl (pc0 := 1) (pc' := 12) rfl (hb hby d29_1) rfl (by decide) (by decide) k))) ?_
  show Gets p e below _ (T0.setTop (mkF m 12 #[.val (.ref a)] []))
  refine Gets.via (fun _ k => (XS.aloadN A0 hx rfl (hb hby d29_12) rfl rfl k)) ?_
  show Gets p e below _ (T0.setTop (mkF m 13 #[.val (.ref a)] [(.ref a)]))
  exact X0.retA hret rfl rfl rfl (hb hby d29_13) (by decide) (by decide) ⟨rfl, rfl⟩
abbrev Rrm26 : Room := { frames := 4, cells := 0, slots := 0, locals := 48 }
def Qrm26 (Z : State) (de : Addr) (el : Addr) (em : Addr) (x : Addr) (e0 : Addr) (h0 : Heap) (v : Option Value) (h : Heap) : Prop := v = none ∧ Keep h0 h [x] ∧ Exa Z h x "java/util/ImmutableCollections$List12" ∧ Fld Z h x "java/util/ImmutableCollections$List12" "e0" "Ljava/lang/Object;" (.ref e0) ∧ Fld Z h x "java/util/ImmutableCollections$List12" "e1" "Ljava/lang/Object;" (.ref em)
set_option maxRecDepth 65536 in
set_option maxHeartbeats 40000000 in
theorem rm26 (l : Launch) (Z : State) (a0 : Array Value) (hw : ∀ d ∈ tables_1, d.before a0 Z = true) (hEL : EW Z a0 ([] : List (String × Nat))) (zc : Int32) (O2 : Sta Z Z.heap "java/lang/String" "COMPACT_STRINGS" "Z" (.int zc)) (P5 : ¬ zc = 0) (de : Addr) (kde : ClassId) (OD : Sta Z Z.heap "java/util/ArrayList" "DEFAULTCAPACITY_EMPTY_ELEMENTDATA" "[Ljava/lang/Object;" (.ref de)) (AD : Arv Z Z.heap de kde (.object "java/lang/Object") (0 : Int32) [] .null) (em : Addr) (OM : Sta Z Z.heap "java/util/ImmutableCollections" "EMPTY" "Ljava/lang/Object;" (.ref em)) (el ee : Addr) (kee : ClassId) (OL : Sta Z Z.heap "java/util/ImmutableCollections" "EMPTY_LIST" "Ljava/util/ImmutableCollections$ListN;" (.ref el)) (XL : Exa Z Z.heap el "java/util/ImmutableCollections$ListN") (FL : Fld Z Z.heap el "java/util/ImmutableCollections$ListN" "elements" "[Ljava/lang/Object;" (.ref ee)) (AE : Arv Z Z.heap ee kee (.object "java/lang/Object") (0 : Int32) [] .null) (mr : Addr) (MR : Mir Z "[Ljava/lang/Object;" mr) (x : Addr) (e0 : Addr) (h0 : Heap) (O0 : Old Z Z.heap.size h0) (Pr0 : Exa Z h0 x "java/util/ImmutableCollections$List12") (Pr1 : Fld Z h0 x "java/util/ImmutableCollections$List12" "e0" "Ljava/lang/Object;" .null) (Pr2 : Fld Z h0 x "java/util/ImmutableCollections$List12" "e1" "Ljava/lang/Object;" .null) (Pr3 : Z.heap.size ≤ x) : Met l Z ([] : List (String × Nat)) (⟨"java/util/ImmutableCollections$List12", "<init>", "(Ljava/lang/Object;)V"⟩ : MethodName) jdk_44_method_1_code 2 (none) [] Rrm26 [] #[(.ref x), (.ref e0)] h0 (Qrm26 Z de el em x e0 h0) := by
  refine Met.start (a0 := a0) (Ls := #[.val (.ref x), .val (.ref e0)]) pn26 hEL O0 (fun m => by first | (simp [entryFrame, mkF, argsToLocals, Value.category]; done) | rfl) ?_
  intro p e s m below meth cc T0 vm0 X0 sf0_ hby hml hret hnm
  have hx := X0.hx
  have zz := X0.ge
  have A0 := X0.at
  have l1 := ltA Pr0.lt
  have l2 := ltA Pr1.lt
  have l3 := ltA Pr2.lt
  show Gets p e below _ (T0.setTop (mkF m 0 #[.val (.ref x), .val (.ref e0)] []))
  refine Gets.via (fun _ k => (XS.aloadN A0 hx rfl (hb hby d26_0) rfl rfl k)) ?_
  show Gets p e below _ (T0.setTop (mkF m 1 #[.val (.ref x), .val (.ref e0)] [(.ref x)]))
  refine X0.callI (y := (⟨"java/util/ImmutableCollections$AbstractImmutableList", "<init>", "()V"⟩ : MethodName)) (W := 0) rfl (w182 hw) (w183 hw) (w187 hw) (by decide) (X0.payM (sf := []) (rm27 l Z a0 hw hEL zc O2 P5 de kde OD AD em OM el ee kee OL XL FL AE mr MR x h0 X0.old ) sf0 (w187 hw) (w186 hw) (by decide) (by decide)) rfl (by rw [hml]; rfl) (a := x) (argsL := []) (rest := []) (lenOf pd0 rfl) rfl rfl (by show 2 * 0 + _ ≤ _; exact Nat.le_of_eq rfl) (hb hby d26_1) (by decide) (by decide) fun T4 h4 vm4 v4 X4 C4 z4 q4 => ?_
  obtain ⟨rfl, K4⟩ := q4
  rw [K4] at X4 C4
  have A5 := X4.at
  show Gets p e below _ (T4.setTop (mkF m 4 #[.val (.ref x), .val (.ref e0)] []))
  refine Gets.via (fun _ k => (XS.aloadN A5 hx rfl (hb hby d26_4) rfl rfl (XS.aloadN A5 hx rfl (hb hby d26_5) rfl rfl k))) ?_
  show Gets p e below _ (T4.setTop (mkF m 6 #[.val (.ref x), .val (.ref e0)] [(.ref e0), (.ref x)]))
  refine X4.callS (y := (⟨"java/util/Objects", "requireNonNull", "(Ljava/lang/Object;)Ljava/lang/Object;"⟩ : MethodName)) (W := 1) (w196 hw) (w197 hw) (w49 hw) (w198 hw) (by decide) (X4.payM (sf := []) (rm29 l Z a0 hw hEL zc O2 P5 de kde OD AD em OM el ee kee OL XL FL AE mr MR e0 h0 X4.old ) sf0 (w198 hw) (w49 hw) (by decide) (by decide)) rfl (by rw [hml]; rfl) (argsL := [(.ref e0)]) (rest := [(.ref x)]) (lenOf pd1 rfl) rfl rfl (by show 2 * 0 + _ ≤ _; exact Nat.le_of_eq rfl) (hb hby d26_6) (by decide) (by decide) fun T6 h6 vm6 v6 X6 C6 z6 q6 => ?_
  obtain ⟨rfl, K6⟩ := q6
  rw [K6] at X6 C6
  have A7 := X6.at
  show Gets p e below _ (T6.setTop (mkF m 9 #[.val (.ref x), .val (.ref e0)] [(.ref e0), (.ref x)]))
  refine X6.putF (host := "") (Or.inl (w199 hw)) Via.refl Pr1 Pr0 (Or.inr ⟨(w200 hw), rfl, hnm⟩) (w176 hw) (ty := (.object "java/lang/Object")) (by decide) rfl rfl (leA (by omega)) (Safe.exa X6.hZ.alike Pr0 (by decide) (by decide)) rfl rfl (hb hby d26_9) fun T8 h8 X8 C8 W8 F8 Z8 => ?_
  have z8 := W8.size
  have A9 := X8.at
  show Gets p e below _ (T8.setTop (mkF m 12 #[.val (.ref x), .val (.ref e0)] []))
  refine Gets.via (fun _ k => (XS.aloadN A9 hx rfl (hb hby d26_12) rfl rfl k)) ?_
  show Gets p e below _ (T8.setTop (mkF m 13 #[.val (.ref x), .val (.ref e0)] [(.ref x)]))
  refine X8.getS (host := "java/util/ImmutableCollections") (Or.inr (w201 hw)) Via.refl (X8.sta OM) rfl (hb hby d26_13) fun T10 X10 => ?_
  have A11 := X10.at
  show Gets p e below _ (T10.setTop (mkF m 16 #[.val (.ref x), .val (.ref e0)] [(.ref em), (.ref x)]))
  have f13 : Fld Z h8 x "java/util/ImmutableCollections$List12" "e1" "Ljava/lang/Object;" .null := Pr2.other W8 (Or.inr (slot_ne (t := (.object "java/lang/Object")) (t' := (.object "java/lang/Object")) (Or.inr (w203 hw)) (Or.inr (w200 hw)) (by decide) (by decide) (by decide)))
  refine X10.putF (host := "") (Or.inl (w202 hw)) Via.refl f13 Z8 (Or.inr ⟨(w203 hw), rfl, hnm⟩) (w176 hw) (ty := (.object "java/lang/Object")) (by decide) rfl rfl (leA (by omega)) (Safe.exa X10.hZ.alike Z8 (by decide) (by decide)) rfl rfl (hb hby d26_16) fun T12 h12 X12 C12 W12 F12 Z12 => ?_
  have z12 := W12.size
  have A14 := X12.at
  show Gets p e below _ (T12.setTop (mkF m 19 #[.val (.ref x), .val (.ref e0)] []))
  have f15 : Fld Z h12 x "java/util/ImmutableCollections$List12" "e0" "Ljava/lang/Object;" (.ref e0) := F8.other W12 (Or.inr (slot_ne (t := (.object "java/lang/Object")) (t' := (.object "java/lang/Object")) (Or.inr (w200 hw)) (Or.inr (w203 hw)) (by decide) (by decide) (by decide)))
  exact X12.retV hret (hb hby d26_19) (by decide) (by decide) ⟨rfl, (((Keep.refl h0 [x]).wr W8 (Or.inl (List.mem_of_getElem? (i := 0) rfl))).wr W12 (Or.inl (List.mem_of_getElem? (i := 0) rfl))), Z12, f15, F12⟩
abbrev Rrm30 : Room := { frames := 0, cells := 0, slots := 0, locals := 0 }
def Qrm30 (Z : State) (de : Addr) (el : Addr) (em : Addr) (h0 : Heap) (v : Option Value) (h : Heap) : Prop := v = some (.ref el) ∧ h = h0
set_option maxRecDepth 65536 in
set_option maxHeartbeats 40000000 in
theorem rm30 (l : Launch) (Z : State) (a0 : Array Value) (hw : ∀ d ∈ tables_1, d.before a0 Z = true) (hEL : EW Z a0 ([] : List (String × Nat))) (zc : Int32) (O2 : Sta Z Z.heap "java/lang/String" "COMPACT_STRINGS" "Z" (.int zc)) (P5 : ¬ zc = 0) (de : Addr) (kde : ClassId) (OD : Sta Z Z.heap "java/util/ArrayList" "DEFAULTCAPACITY_EMPTY_ELEMENTDATA" "[Ljava/lang/Object;" (.ref de)) (AD : Arv Z Z.heap de kde (.object "java/lang/Object") (0 : Int32) [] .null) (em : Addr) (OM : Sta Z Z.heap "java/util/ImmutableCollections" "EMPTY" "Ljava/lang/Object;" (.ref em)) (el ee : Addr) (kee : ClassId) (OL : Sta Z Z.heap "java/util/ImmutableCollections" "EMPTY_LIST" "Ljava/util/ImmutableCollections$ListN;" (.ref el)) (XL : Exa Z Z.heap el "java/util/ImmutableCollections$ListN") (FL : Fld Z Z.heap el "java/util/ImmutableCollections$ListN" "elements" "[Ljava/lang/Object;" (.ref ee)) (AE : Arv Z Z.heap ee kee (.object "java/lang/Object") (0 : Int32) [] .null) (mr : Addr) (MR : Mir Z "[Ljava/lang/Object;" mr)  (h0 : Heap) (O0 : Old Z Z.heap.size h0)  : Met l Z ([] : List (String × Nat)) (⟨"java/util/List", "of", "()Ljava/util/List;"⟩ : MethodName) jdk_40_method_36_code 0 (some (.object "java/util/List")) [] Rrm30 [] #[] h0 (Qrm30 Z de el em h0) := by
  refine Met.start (a0 := a0) (Ls := #[]) pn30 hEL O0 (fun m => by first | (simp [entryFrame, mkF, argsToLocals, Value.category]; done) | rfl) ?_
  intro p e s m below meth cc T0 vm0 X0 sf0_ hby hml hret hnm
  have hx := X0.hx
  have zz := X0.ge
  have A0 := X0.at
  show Gets p e below _ (T0.setTop (mkF m 0 #[] []))
  refine X0.getS (host := "") (Or.inl (w207 hw)) Via.refl (X0.sta OL) rfl (hb hby d30_0) fun T1 X1 => ?_
  have A2 := X1.at
  show Gets p e below _ (T1.setTop (mkF m 3 #[] [(.ref el)]))
  exact X1.retA hret rfl rfl rfl (hb hby d30_3) (by decide) (by decide) ⟨rfl, rfl⟩
abbrev Rrm7 : Room := { frames := 1, cells := 0, slots := 0, locals := 12 }
def Qrm7 (Z : State) (de : Addr) (el : Addr) (em : Addr) (x : Addr) (h0 : Heap) (v : Option Value) (h : Heap) : Prop := v = none ∧ h = h0
set_option maxRecDepth 65536 in
set_option maxHeartbeats 40000000 in
theorem rm7 (l : Launch) (Z : State) (a0 : Array Value) (hw : ∀ d ∈ tables_1, d.before a0 Z = true) (hEL : EW Z a0 ([] : List (String × Nat))) (zc : Int32) (O2 : Sta Z Z.heap "java/lang/String" "COMPACT_STRINGS" "Z" (.int zc)) (P5 : ¬ zc = 0) (de : Addr) (kde : ClassId) (OD : Sta Z Z.heap "java/util/ArrayList" "DEFAULTCAPACITY_EMPTY_ELEMENTDATA" "[Ljava/lang/Object;" (.ref de)) (AD : Arv Z Z.heap de kde (.object "java/lang/Object") (0 : Int32) [] .null) (em : Addr) (OM : Sta Z Z.heap "java/util/ImmutableCollections" "EMPTY" "Ljava/lang/Object;" (.ref em)) (el ee : Addr) (kee : ClassId) (OL : Sta Z Z.heap "java/util/ImmutableCollections" "EMPTY_LIST" "Ljava/util/ImmutableCollections$ListN;" (.ref el)) (XL : Exa Z Z.heap el "java/util/ImmutableCollections$ListN") (FL : Fld Z Z.heap el "java/util/ImmutableCollections$ListN" "elements" "[Ljava/lang/Object;" (.ref ee)) (AE : Arv Z Z.heap ee kee (.object "java/lang/Object") (0 : Int32) [] .null) (mr : Addr) (MR : Mir Z "[Ljava/lang/Object;" mr) (x : Addr) (h0 : Heap) (O0 : Old Z Z.heap.size h0)  : Met l Z ([] : List (String × Nat)) (⟨"java/lang/Record", "<init>", "()V"⟩ : MethodName) jdk_30_method_1_code 1 (none) [] Rrm7 [] #[(.ref x)] h0 (Qrm7 Z de el em x h0) := by
  refine Met.start (a0 := a0) (Ls := #[.val (.ref x)]) pn7 hEL O0 (fun m => by first | (simp [entryFrame, mkF, argsToLocals, Value.category]; done) | rfl) ?_
  intro p e s m below meth cc T0 vm0 X0 sf0_ hby hml hret hnm
  have hx := X0.hx
  have zz := X0.ge
  have A0 := X0.at
  show Gets p e below _ (T0.setTop (mkF m 0 #[.val (.ref x)] []))
  refine Gets.via (fun _ k => (XS.aloadN A0 hx rfl (hb hby d7_0) rfl rfl k)) ?_
  show Gets p e below _ (T0.setTop (mkF m 1 #[.val (.ref x)] [(.ref x)]))
  refine X0.objInit (w45 hw) (w12 hw) (w13 hw) rfl (by rw [hml]; rfl) rfl (hb hby d7_1) (by decide) (W := 0) (by show 2 * 0 + _ ≤ _; exact Nat.le_of_eq rfl) (by decide) fun T1 X1 => ?_
  have A2 := X1.at
  show Gets p e below _ (T1.setTop (mkF m 4 #[.val (.ref x)] []))
  exact X1.retV hret (hb hby d7_4) (by decide) (by decide) ⟨rfl, rfl⟩
abbrev Rrm8 : Room := { frames := 0, cells := 0, slots := 0, locals := 0 }
def Qrm8 (Z : State) (de : Addr) (el : Addr) (em : Addr) (a : Addr) (b : Addr) (h0 : Heap) (v : Option Value) (h : Heap) : Prop := v = some (.ref a) ∧ h = h0
set_option maxRecDepth 65536 in
set_option maxHeartbeats 40000000 in
theorem rm8 (l : Launch) (Z : State) (a0 : Array Value) (hw : ∀ d ∈ tables_1, d.before a0 Z = true) (hEL : EW Z a0 ([] : List (String × Nat))) (zc : Int32) (O2 : Sta Z Z.heap "java/lang/String" "COMPACT_STRINGS" "Z" (.int zc)) (P5 : ¬ zc = 0) (de : Addr) (kde : ClassId) (OD : Sta Z Z.heap "java/util/ArrayList" "DEFAULTCAPACITY_EMPTY_ELEMENTDATA" "[Ljava/lang/Object;" (.ref de)) (AD : Arv Z Z.heap de kde (.object "java/lang/Object") (0 : Int32) [] .null) (em : Addr) (OM : Sta Z Z.heap "java/util/ImmutableCollections" "EMPTY" "Ljava/lang/Object;" (.ref em)) (el ee : Addr) (kee : ClassId) (OL : Sta Z Z.heap "java/util/ImmutableCollections" "EMPTY_LIST" "Ljava/util/ImmutableCollections$ListN;" (.ref el)) (XL : Exa Z Z.heap el "java/util/ImmutableCollections$ListN") (FL : Fld Z Z.heap el "java/util/ImmutableCollections$ListN" "elements" "[Ljava/lang/Object;" (.ref ee)) (AE : Arv Z Z.heap ee kee (.object "java/lang/Object") (0 : Int32) [] .null) (mr : Addr) (MR : Mir Z "[Ljava/lang/Object;" mr) (a : Addr) (b : Addr) (h0 : Heap) (O0 : Old Z Z.heap.size h0)  : Met l Z ([] : List (String × Nat)) (⟨"java/util/Objects", "requireNonNull", "(Ljava/lang/Object;Ljava/lang/String;)Ljava/lang/Object;"⟩ : MethodName) jdk_31_method_11_code 2 (some (.object "java/lang/Object")) [] Rrm8 [] #[(.ref a), (.ref b)] h0 (Qrm8 Z de el em a b h0) := by
  refine Met.start (a0 := a0) (Ls := #[.val (.ref a), .val (.ref b)]) pn8 hEL O0 (fun m => by first | (simp [entryFrame, mkF, argsToLocals, Value.category]; done) | rfl) ?_
  intro p e s m below meth cc T0 vm0 X0 sf0_ hby hml hret hnm
  have hx := X0.hx
  have zz := X0.ge
  have A0 := X0.at
  show Gets p e below _ (T0.setTop (mkF m 0 #[.val (.ref a), .val (.ref b)] []))
  refine Gets.via (fun _ k => (XS.aloadN A0 hx rfl (hb hby d8_0) rfl rfl (XS.ifnonnullYes A0 hx rfl (pc0 := 1) (pc' := 13) rfl (hb hby d8_1) rfl (by decide) (by decide) k))) ?_
  show Gets p e below _ (T0.setTop (mkF m 13 #[.val (.ref a), .val (.ref b)] []))
  refine Gets.via (fun _ k => (XS.aloadN A0 hx rfl (hb hby d8_13) rfl rfl k)) ?_
  show Gets p e below _ (T0.setTop (mkF m 14 #[.val (.ref a), .val (.ref b)] [(.ref a)]))
  exact X0.retA hret rfl rfl rfl (hb hby d8_14) (by decide) (by decide) ⟨rfl, rfl⟩
abbrev Rrm6 : Room := { frames := 2, cells := 2, slots := 24, locals := 24 }
def Qrm6 (Z : State) (de : Addr) (el : Addr) (em : Addr) (x : Addr) (i : Int32) (b : Addr) (h0 : Heap) (v : Option Value) (h : Heap) : Prop := v = none ∧ Keep h0 h [x] ∧ Exa Z h x "org/holdfast/model/Level"
set_option maxRecDepth 65536 in
set_option maxHeartbeats 40000000 in
theorem rm6 (l : Launch) (Z : State) (a0 : Array Value) (hw : ∀ d ∈ tables_1, d.before a0 Z = true) (hEL : EW Z a0 ([] : List (String × Nat))) (zc : Int32) (O2 : Sta Z Z.heap "java/lang/String" "COMPACT_STRINGS" "Z" (.int zc)) (P5 : ¬ zc = 0) (de : Addr) (kde : ClassId) (OD : Sta Z Z.heap "java/util/ArrayList" "DEFAULTCAPACITY_EMPTY_ELEMENTDATA" "[Ljava/lang/Object;" (.ref de)) (AD : Arv Z Z.heap de kde (.object "java/lang/Object") (0 : Int32) [] .null) (em : Addr) (OM : Sta Z Z.heap "java/util/ImmutableCollections" "EMPTY" "Ljava/lang/Object;" (.ref em)) (el ee : Addr) (kee : ClassId) (OL : Sta Z Z.heap "java/util/ImmutableCollections" "EMPTY_LIST" "Ljava/util/ImmutableCollections$ListN;" (.ref el)) (XL : Exa Z Z.heap el "java/util/ImmutableCollections$ListN") (FL : Fld Z Z.heap el "java/util/ImmutableCollections$ListN" "elements" "[Ljava/lang/Object;" (.ref ee)) (AE : Arv Z Z.heap ee kee (.object "java/lang/Object") (0 : Int32) [] .null) (mr : Addr) (MR : Mir Z "[Ljava/lang/Object;" mr) (x : Addr) (i : Int32) (b : Addr) (h0 : Heap) (O0 : Old Z Z.heap.size h0) (Pr0 : Exa Z h0 x "org/holdfast/model/Level") (Pr1 : Fld Z h0 x "org/holdfast/model/Level" "level" "I" (.int (0 : Int32))) (Pr2 : Fld Z h0 x "org/holdfast/model/Level" "caption" "Ljava/lang/String;" .null) (Pr3 : Fld Z h0 x "org/holdfast/model/Level" "value" "Ljava/lang/String;" .null) (Pr4 : Z.heap.size ≤ x) (Pr5 : ¬ i < (1 : Int32)) : Met l Z ([] : List (String × Nat)) (⟨"org/holdfast/model/Level", "<init>", "(ILjava/lang/String;Ljava/lang/String;)V"⟩ : MethodName) prog_41_method_1_code 4 (none) [] Rrm6 [] #[(.ref x), (.int i), .null, (.ref b)] h0 (Qrm6 Z de el em x i b h0) := by
  refine Met.start (a0 := a0) (Ls := #[.val (.ref x), .val (.int i), .val .null, .val (.ref b)]) pn6 hEL O0 (fun m => by first | (simp [entryFrame, mkF, argsToLocals, Value.category]; done) | rfl) ?_
  intro p e s m below meth cc T0 vm0 X0 sf0_ hby hml hret hnm
  have hx := X0.hx
  have zz := X0.ge
  have A0 := X0.at
  have l1 := ltA Pr0.lt
  have l2 := ltA Pr1.lt
  have l3 := ltA Pr2.lt
  have l4 := ltA Pr3.lt
  show Gets p e below _ (T0.setTop (mkF m 0 #[.val (.ref x), .val (.int i), .val .null, .val (.ref b)] []))
  refine Gets.via (fun _ k => (XS.aloadN A0 hx rfl (hb hby d6_0) rfl rfl k)) ?_
  show Gets p e below _ (T0.setTop (mkF m 1 #[.val (.ref x), .val (.int i), .val .null, .val (.ref b)] [(.ref x)]))
  refine X0.callI (y := (⟨"java/lang/Record", "<init>", "()V"⟩ : MethodName)) (W := 0) rfl (w40 hw) (w41 hw) (w44 hw) (by decide) (X0.payM (sf := []) (rm7 l Z a0 hw hEL zc O2 P5 de kde OD AD em OM el ee kee OL XL FL AE mr MR x h0 X0.old ) sf0 (w44 hw) (w43 hw) (by decide) (by decide)) rfl (by rw [hml]; rfl) (a := x) (argsL := []) (rest := []) (lenOf pd0 rfl) rfl rfl (by show 2 * 0 + _ ≤ _; exact Nat.le_of_eq rfl) (hb hby d6_1) (by decide) (by decide) fun T5 h5 vm5 v5 X5 C5 z5 q5 => ?_
  obtain ⟨rfl, K5⟩ := q5
  rw [K5] at X5 C5
  have A6 := X5.at
  show Gets p e below _ (T5.setTop (mkF m 4 #[.val (.ref x), .val (.int i), .val .null, .val (.ref b)] []))
  refine Gets.via (fun _ k => (XS.aloadN A6 hx rfl (hb hby d6_4) rfl rfl k)) ?_
  show Gets p e below _ (T5.setTop (mkF m 5 #[.val (.ref x), .val (.int i), .val .null, .val (.ref b)] [(.ref b)]))
  refine X5.ldcO (w46 hw) (wSt hw) rfl (hb hby d6_5) (n := 20) (by decide) (by decide) (by decide) (by decide) fun T7 h7 vm7 a7 X7 C7 E7 => ?_
  have z7 := E7.1
  have A8 := X7.at
  show Gets p e below _ (T7.setTop (mkF m 7 #[.val (.ref x), .val (.int i), .val .null, .val (.ref b)] [(.ref a7), (.ref b)]))
  refine X7.callS (y := (⟨"java/util/Objects", "requireNonNull", "(Ljava/lang/Object;Ljava/lang/String;)Ljava/lang/Object;"⟩ : MethodName)) (W := 0) (w47 hw) (w48 hw) (w49 hw) (w50 hw) (by decide) (X7.payM (sf := []) (rm8 l Z a0 hw hEL zc O2 P5 de kde OD AD em OM el ee kee OL XL FL AE mr MR b a7 h7 X7.old ) sf0 (w50 hw) (w49 hw) (by decide) (by decide)) rfl (by rw [hml]; rfl) (argsL := [(.ref b), (.ref a7)]) (rest := []) (lenOf pd2 rfl) rfl rfl (by show 2 * 0 + _ ≤ _; exact Nat.le_of_eq rfl) (hb hby d6_7) (by decide) (by decide) fun T9 h9 vm9 v9 X9 C9 z9 q9 => ?_
  obtain ⟨rfl, K9⟩ := q9
  rw [K9] at X9 C9
  have A10 := X9.at
  show Gets p e below _ (T9.setTop (mkF m 10 #[.val (.ref x), .val (.int i), .val .null, .val (.ref b)] [(.ref b)]))
  refine Gets.via (fun _ k => (XS.pop A10 hx rfl (hb hby d6_10) rfl rfl (XS.iloadN A10 hx rfl (hb hby d6_11) rfl (XS.iconst A10 hx rfl (hb hby d6_12) (XS.icmpYes A10 hx rfl (pc0 := 13) (pc' := 30) rfl (hb hby d6_13) rfl (Jvm.Free.XT.ii_ge_t Pr5) (by decide) (by decide) k))))) ?_
  show Gets p e below _ (T9.setTop (mkF m 30 #[.val (.ref x), .val (.int i), .val .null, .val (.ref b)] []))
  refine Gets.via (fun _ k => (XS.aloadN A10 hx rfl (hb hby d6_30) rfl rfl (XS.iloadN A10 hx rfl (hb hby d6_31) rfl k))) ?_
  show Gets p e below _ (T9.setTop (mkF m 32 #[.val (.ref x), .val (.int i), .val .null, .val (.ref b)] [(.int i), (.ref x)]))
  have f12 : Fld Z h7 x "org/holdfast/model/Level" "level" "I" (.int (0 : Int32)) := Pr1.ext E7
  have f13 : Exa Z h7 x "org/holdfast/model/Level" := Pr0.ext E7
  refine X9.putF (host := "") (Or.inl (w51 hw)) Via.refl f12 f13 (Or.inr ⟨(w52 hw), rfl, hnm⟩) (w31 hw) (ty := .int) (by decide) rfl rfl (leA (by omega)) (Safe.exa X9.hZ.alike f13 (by decide) (by decide)) rfl rfl (hb hby d6_32) fun T11 h11 X11 C11 W11 F11 Z11 => ?_
  have z11 := W11.size
  have A14 := X11.at
  show Gets p e below _ (T11.setTop (mkF m 35 #[.val (.ref x), .val (.int i), .val .null, .val (.ref b)] []))
  refine Gets.via (fun _ k => (XS.aloadN A14 hx rfl (hb hby d6_35) rfl rfl (XS.aloadN A14 hx rfl (hb hby d6_36) rfl rfl k))) ?_
  show Gets p e below _ (T11.setTop (mkF m 37 #[.val (.ref x), .val (.int i), .val .null, .val (.ref b)] [.null, (.ref x)]))
  have f16 : Fld Z h7 x "org/holdfast/model/Level" "caption" "Ljava/lang/String;" .null := Pr2.ext E7
  have f17 : Fld Z h11 x "org/holdfast/model/Level" "caption" "Ljava/lang/String;" .null := f16.other W11 (Or.inr (slot_ne (t := (.object "java/lang/String")) (t' := .int) (Or.inr (w54 hw)) (Or.inr (w52 hw)) (by decide) (by decide) (by decide)))
  refine X11.putF (host := "") (Or.inl (w53 hw)) Via.refl f17 Z11 (Or.inr ⟨(w54 hw), rfl, hnm⟩) (w31 hw) (ty := (.object "java/lang/String")) (by decide) rfl rfl (leA (by omega)) (Safe.exa X11.hZ.alike Z11 (by decide) (by decide)) rfl rfl (hb hby d6_37) fun T15 h15 X15 C15 W15 F15 Z15 => ?_
  have z15 := W15.size
  have A18 := X15.at
  show Gets p e below _ (T15.setTop (mkF m 40 #[.val (.ref x), .val (.int i), .val .null, .val (.ref b)] []))
  refine Gets.via (fun _ k => (XS.aloadN A18 hx rfl (hb hby d6_40) rfl rfl (XS.aloadN A18 hx rfl (hb hby d6_41) rfl rfl k))) ?_
  show Gets p e below _ (T15.setTop (mkF m 42 #[.val (.ref x), .val (.int i), .val .null, .val (.ref b)] [(.ref b), (.ref x)]))
  have f20 : Fld Z h7 x "org/holdfast/model/Level" "value" "Ljava/lang/String;" .null := Pr3.ext E7
  have f21 : Fld Z h11 x "org/holdfast/model/Level" "value" "Ljava/lang/String;" .null := f20.other W11 (Or.inr (slot_ne (t := (.object "java/lang/String")) (t' := .int) (Or.inr (w56 hw)) (Or.inr (w52 hw)) (by decide) (by decide) (by decide)))
  have f22 : Fld Z h15 x "org/holdfast/model/Level" "value" "Ljava/lang/String;" .null := f21.other W15 (Or.inr (slot_ne (t := (.object "java/lang/String")) (t' := (.object "java/lang/String")) (Or.inr (w56 hw)) (Or.inr (w54 hw)) (by decide) (by decide) (by decide)))
  refine X15.putF (host := "") (Or.inl (w55 hw)) Via.refl f22 Z15 (Or.inr ⟨(w56 hw), rfl, hnm⟩) (w31 hw) (ty := (.object "java/lang/String")) (by decide) rfl rfl (leA (by omega)) (Safe.exa X15.hZ.alike Z15 (by decide) (by decide)) rfl rfl (hb hby d6_42) fun T19 h19 X19 C19 W19 F19 Z19 => ?_
  have z19 := W19.size
  have A23 := X19.at
  show Gets p e below _ (T19.setTop (mkF m 45 #[.val (.ref x), .val (.int i), .val .null, .val (.ref b)] []))
  exact X19.retV hret (hb hby d6_45) (by decide) (by decide) ⟨rfl, (((((Keep.refl h0 [x]).ext E7).wr W11 (Or.inl (List.mem_of_getElem? (i := 0) rfl))).wr W15 (Or.inl (List.mem_of_getElem? (i := 0) rfl))).wr W19 (Or.inl (List.mem_of_getElem? (i := 0) rfl))), Z19⟩
abbrev RrmAlEmpty1 : Room := { frames := 0, cells := 0, slots := 0, locals := 0 }
def QrmAlEmpty1 (Z : State) (de : Addr) (el : Addr) (em : Addr) (x : Addr) (h0 : Heap) (v : Option Value) (h : Heap) : Prop := v = some (.int (0 : Int32)) ∧ h = h0
set_option maxRecDepth 65536 in
set_option maxHeartbeats 40000000 in
theorem rmAlEmpty1 (l : Launch) (Z : State) (a0 : Array Value) (hw : ∀ d ∈ tables_1, d.before a0 Z = true) (hEL : EW Z a0 ([] : List (String × Nat))) (zc : Int32) (O2 : Sta Z Z.heap "java/lang/String" "COMPACT_STRINGS" "Z" (.int zc)) (P5 : ¬ zc = 0) (de : Addr) (kde : ClassId) (OD : Sta Z Z.heap "java/util/ArrayList" "DEFAULTCAPACITY_EMPTY_ELEMENTDATA" "[Ljava/lang/Object;" (.ref de)) (AD : Arv Z Z.heap de kde (.object "java/lang/Object") (0 : Int32) [] .null) (em : Addr) (OM : Sta Z Z.heap "java/util/ImmutableCollections" "EMPTY" "Ljava/lang/Object;" (.ref em)) (el ee : Addr) (kee : ClassId) (OL : Sta Z Z.heap "java/util/ImmutableCollections" "EMPTY_LIST" "Ljava/util/ImmutableCollections$ListN;" (.ref el)) (XL : Exa Z Z.heap el "java/util/ImmutableCollections$ListN") (FL : Fld Z Z.heap el "java/util/ImmutableCollections$ListN" "elements" "[Ljava/lang/Object;" (.ref ee)) (AE : Arv Z Z.heap ee kee (.object "java/lang/Object") (0 : Int32) [] .null) (mr : Addr) (MR : Mir Z "[Ljava/lang/Object;" mr) (x : Addr) (h0 : Heap) (O0 : Old Z Z.heap.size h0) (Pr0 : Fld Z h0 x "java/util/ArrayList" "size" "I" (.int (1 : Int32))) : Met l Z ([] : List (String × Nat)) (⟨"java/util/ArrayList", "isEmpty", "()Z"⟩ : MethodName) jdk_38_method_9_code 1 (some .boolean) [] RrmAlEmpty1 [] #[(.ref x)] h0 (QrmAlEmpty1 Z de el em x h0) := by
  refine Met.start (a0 := a0) (Ls := #[.val (.ref x)]) pn20 hEL O0 (fun m => by first | (simp [entryFrame, mkF, argsToLocals, Value.category]; done) | rfl) ?_
  intro p e s m below meth cc T0 vm0 X0 sf0_ hby hml hret hnm
  have hx := X0.hx
  have zz := X0.ge
  have A0 := X0.at
  have l1 := ltA Pr0.lt
  show Gets p e below _ (T0.setTop (mkF m 0 #[.val (.ref x)] []))
  refine Gets.via (fun _ k => (XS.aloadN A0 hx rfl (hb hby d20_0) rfl rfl k)) ?_
  show Gets p e below _ (T0.setTop (mkF m 1 #[.val (.ref x)] [(.ref x)]))
  refine X0.getF (host := "") (Or.inl (w88 hw)) Via.refl Pr0 rfl rfl (hb hby d20_1) fun T2 X2 => ?_
  have A3 := X2.at
  show Gets p e below _ (T2.setTop (mkF m 4 #[.val (.ref x)] [(.int (1 : Int32))]))
  refine Gets.via (fun _ k => (XS.ifYes A3 hx rfl (pc0 := 4) (pc' := 11) rfl (hb hby d20_4) rfl (Jvm.Free.XT.i0_ne_t (by decide)) (by decide) (by decide) k)) ?_
  show Gets p e below _ (T2.setTop (mkF m 11 #[.val (.ref x)] []))
  refine Gets.via (fun _ k => (XS.iconst A3 hx rfl (hb hby d20_11) k)) ?_
  show Gets p e below _ (T2.setTop (mkF m 12 #[.val (.ref x)] [(.int (0 : Int32))]))
  exact X2.retI hret (by decide) (by simp) (hb hby d20_12) (by decide) (by decide) ⟨rfl, rfl⟩
abbrev Rrmmin_10_1 : Room := { frames := 0, cells := 0, slots := 0, locals := 0 }
def Qrmmin_10_1 (Z : State) (de : Addr) (el : Addr) (em : Addr) (h0 : Heap) (v : Option Value) (h : Heap) : Prop := v = some (.int (1 : Int32)) ∧ h = h0
set_option maxRecDepth 65536 in
set_option maxHeartbeats 40000000 in
theorem rmmin_10_1 (l : Launch) (Z : State) (a0 : Array Value) (hw : ∀ d ∈ tables_1, d.before a0 Z = true) (hEL : EW Z a0 ([] : List (String × Nat))) (zc : Int32) (O2 : Sta Z Z.heap "java/lang/String" "COMPACT_STRINGS" "Z" (.int zc)) (P5 : ¬ zc = 0) (de : Addr) (kde : ClassId) (OD : Sta Z Z.heap "java/util/ArrayList" "DEFAULTCAPACITY_EMPTY_ELEMENTDATA" "[Ljava/lang/Object;" (.ref de)) (AD : Arv Z Z.heap de kde (.object "java/lang/Object") (0 : Int32) [] .null) (em : Addr) (OM : Sta Z Z.heap "java/util/ImmutableCollections" "EMPTY" "Ljava/lang/Object;" (.ref em)) (el ee : Addr) (kee : ClassId) (OL : Sta Z Z.heap "java/util/ImmutableCollections" "EMPTY_LIST" "Ljava/util/ImmutableCollections$ListN;" (.ref el)) (XL : Exa Z Z.heap el "java/util/ImmutableCollections$ListN") (FL : Fld Z Z.heap el "java/util/ImmutableCollections$ListN" "elements" "[Ljava/lang/Object;" (.ref ee)) (AE : Arv Z Z.heap ee kee (.object "java/lang/Object") (0 : Int32) [] .null) (mr : Addr) (MR : Mir Z "[Ljava/lang/Object;" mr)  (h0 : Heap) (O0 : Old Z Z.heap.size h0)  : Met l Z ([] : List (String × Nat)) (⟨"java/lang/Math", "min", "(II)I"⟩ : MethodName) jdk_29_method_69_code 2 (some .int) [] Rrmmin_10_1 [] #[(.int (10 : Int32)), (.int (1 : Int32))] h0 (Qrmmin_10_1 Z de el em h0) := by
  refine Met.start (a0 := a0) (Ls := #[.val (.int (10 : Int32)), .val (.int (1 : Int32))]) pn24 hEL O0 (fun m => by first | (simp [entryFrame, mkF, argsToLocals, Value.category]; done) | rfl) ?_
  intro p e s m below meth cc T0 vm0 X0 sf0_ hby hml hret hnm
  have hx := X0.hx
  have zz := X0.ge
  have A0 := X0.at
  show Gets p e below _ (T0.setTop (mkF m 0 #[.val (.int (10 : Int32)), .val (.int (1 : Int32))] []))
  refine Gets.via (fun _ k => (XS.iloadN A0 hx rfl (hb hby d24_0) rfl (XS.iloadN A0 hx rfl (hb hby d24_1) rfl (XS.icmpYes A0 hx rfl (pc0 := 2) (pc' := 9) rfl (hb hby d24_2) rfl (Jvm.Free.XT.ii_gt_t (by decide)) (by decide) (by decide) k)))) ?_
  show Gets p e below _ (T0.setTop (mkF m 9 #[.val (.int (10 : Int32)), .val (.int (1 : Int32))] []))
  refine Gets.via (fun _ k => (XS.iloadN A0 hx rfl (hb hby d24_9) rfl k)) ?_
  show Gets p e below _ (T0.setTop (mkF m 10 #[.val (.int (10 : Int32)), .val (.int (1 : Int32))] [(.int (1 : Int32))]))
  exact X0.retI hret rfl (by simp) (hb hby d24_10) (by decide) (by decide) ⟨rfl, rfl⟩
abbrev RrmCoT1 : Room := { frames := 1, cells := 1, slots := 1, locals := 22 }
def QrmCoT1 (Z : State) (de : Addr) (el : Addr) (em : Addr) (d : Addr) (kd : ClassId) (e0 : Addr) (h0 : Heap) (v : Option Value) (h : Heap) : Prop := ∃ (r : Addr) (kr : ClassId), v = some (.ref r) ∧ Keep h0 h [] ∧ Arv Z h r kr (.object "java/lang/Object") (1 : Int32) [(.ref e0)] .null ∧ Exa Z h r "[Ljava/lang/Object;" ∧ Ovr Z kr "java/lang/Object" ∧ h0.size ≤ r
set_option maxRecDepth 65536 in
set_option maxHeartbeats 40000000 in
theorem rmCoT1 (l : Launch) (Z : State) (a0 : Array Value) (hw : ∀ d ∈ tables_1, d.before a0 Z = true) (hEL : EW Z a0 ([] : List (String × Nat))) (zc : Int32) (O2 : Sta Z Z.heap "java/lang/String" "COMPACT_STRINGS" "Z" (.int zc)) (P5 : ¬ zc = 0) (de : Addr) (kde : ClassId) (OD : Sta Z Z.heap "java/util/ArrayList" "DEFAULTCAPACITY_EMPTY_ELEMENTDATA" "[Ljava/lang/Object;" (.ref de)) (AD : Arv Z Z.heap de kde (.object "java/lang/Object") (0 : Int32) [] .null) (em : Addr) (OM : Sta Z Z.heap "java/util/ImmutableCollections" "EMPTY" "Ljava/lang/Object;" (.ref em)) (el ee : Addr) (kee : ClassId) (OL : Sta Z Z.heap "java/util/ImmutableCollections" "EMPTY_LIST" "Ljava/util/ImmutableCollections$ListN;" (.ref el)) (XL : Exa Z Z.heap el "java/util/ImmutableCollections$ListN") (FL : Fld Z Z.heap el "java/util/ImmutableCollections$ListN" "elements" "[Ljava/lang/Object;" (.ref ee)) (AE : Arv Z Z.heap ee kee (.object "java/lang/Object") (0 : Int32) [] .null) (mr : Addr) (MR : Mir Z "[Ljava/lang/Object;" mr) (d : Addr) (kd : ClassId) (e0 : Addr) (h0 : Heap) (O0 : Old Z Z.heap.size h0) (Pr0 : Arv Z h0 d kd (.object "java/lang/Object") (10 : Int32) [(.ref e0), .null, .null, .null, .null, .null, .null, .null, .null, .null] .null) (Pr1 : Exa Z h0 d "[Ljava/lang/Object;") (Pr2 : Exa Z h0 e0 "org/holdfast/model/Level") : Met l Z ([] : List (String × Nat)) (⟨"java/util/Arrays", "copyOf", "([Ljava/lang/Object;ILjava/lang/Class;)[Ljava/lang/Object;"⟩ : MethodName) jdk_65_method_120_code 4 (some (.array (.object "java/lang/Object"))) [] RrmCoT1 [] #[(.ref d), (.int (1 : Int32)), (.ref mr)] h0 (QrmCoT1 Z de el em d kd e0 h0) := by
  refine Met.start (a0 := a0) (Ls := #[.val (.ref d), .val (.int (1 : Int32)), .val (.ref mr), .unset]) pn23 hEL O0 (fun m => by first | (simp [entryFrame, mkF, argsToLocals, Value.category]; done) | rfl) ?_
  intro p e s m below meth cc T0 vm0 X0 sf0_ hby hml hret hnm
  have hx := X0.hx
  have zz := X0.ge
  have A0 := X0.at
  have l1 := ltA Pr0.lt
  have l2 := ltA Pr1.lt
  have l3 := ltA Pr2.lt
  show Gets p e below _ (T0.setTop (mkF m 0 #[.val (.ref d), .val (.int (1 : Int32)), .val (.ref mr), .unset] []))
  refine Gets.via (fun _ k => (XS.aloadN A0 hx rfl (hb hby d23_0) rfl rfl k)) ?_
  show Gets p e below _ (T0.setTop (mkF m 1 #[.val (.ref d), .val (.int (1 : Int32)), .val (.ref mr), .unset] [(.ref mr)]))
  refine X0.ldcM (w163 hw) MR rfl (hb hby d23_1) fun T4 X4 => ?_
  have A5 := X4.at
  show Gets p e below _ (T4.setTop (mkF m 3 #[.val (.ref d), .val (.int (1 : Int32)), .val (.ref mr), .unset] [(.ref mr), (.ref mr)]))
  refine X4.acmpW hx rfl rfl rfl (pc0 := 3) (pc' := 6) (same := true) rfl (hb hby d23_3) rfl (by simp) (by decide) (by decide) ?_
  show Gets p e below _ (T4.setTop (mkF m 6 #[.val (.ref d), .val (.int (1 : Int32)), .val (.ref mr), .unset] []))
  refine Gets.via (fun _ k => (XS.iloadN A5 hx rfl (hb hby d23_6) rfl k)) ?_
  show Gets p e below _ (T4.setTop (mkF m 7 #[.val (.ref d), .val (.int (1 : Int32)), .val (.ref mr), .unset] [(.int (1 : Int32))]))
  refine X4.newR (ad := "[Ljava/lang/Object;") (w164 hw) (w110 hw) rfl (hb hby d23_7) rfl (by decide) (cap := 1) (by decide) (by decide) (by decide) (by decide) (by decide) fun T6 h6 a6 k6 X6 C6 E6 g6 Z6 O6 V6 => ?_
  have z6 := E6.1
  have l6 := ltA V6.lt
  have V6_ : Arv Z h6 a6 k6 (.object "java/lang/Object") (1 : Int32) [.null] .null := padN V6 1
  have A7 := X6.at
  show Gets p e below _ (T6.setTop (mkF m 10 #[.val (.ref d), .val (.int (1 : Int32)), .val (.ref mr), .unset] [(.ref a6)]))
  refine Gets.via (fun _ k => (XS.goto A7 hx rfl (pc0 := 10) (pc' := 24) rfl (hb hby d23_10) (by decide) (by decide) k)) ?_
  show Gets p e below _ (T6.setTop (mkF m 24 #[.val (.ref d), .val (.int (1 : Int32)), .val (.ref mr), .unset] [(.ref a6)]))
  refine Gets.via (fun _ k => (XS.astoreN A7 hx rfl (hb hby d23_24) rfl rfl (l' := #[.val (.ref d), .val (.int (1 : Int32)), .val (.ref mr), .val (.ref a6)]) rfl (XS.aloadN A7 hx rfl (hb hby d23_25) rfl rfl (XS.iconst A7 hx rfl (hb hby d23_26) (XS.aloadN A7 hx rfl (hb hby d23_27) rfl rfl (XS.iconst A7 hx rfl (hb hby d23_28) (XS.aloadN A7 hx rfl (hb hby d23_29) rfl rfl k))))))) ?_
  show Gets p e below _ (T6.setTop (mkF m 30 #[.val (.ref d), .val (.int (1 : Int32)), .val (.ref mr), .val (.ref a6)] [(.ref d), (.int (0 : Int32)), (.ref a6), (.int (0 : Int32)), (.ref d)]))
  have f8 : Arv Z h6 d kd (.object "java/lang/Object") (10 : Int32) [(.ref e0), .null, .null, .null, .null, .null, .null, .null, .null, .null] .null := Pr0.ext E6
  refine X6.alen f8 rfl rfl (hb hby d23_30) ?_
  show Gets p e below _ (T6.setTop (mkF m 31 #[.val (.ref d), .val (.int (1 : Int32)), .val (.ref mr), .val (.ref a6)] [(.int (10 : Int32)), (.int (0 : Int32)), (.ref a6), (.int (0 : Int32)), (.ref d)]))
  refine Gets.via (fun _ k => (XS.iloadN A7 hx rfl (hb hby d23_31) rfl k)) ?_
  show Gets p e below _ (T6.setTop (mkF m 32 #[.val (.ref d), .val (.int (1 : Int32)), .val (.ref mr), .val (.ref a6)] [(.int (1 : Int32)), (.int (10 : Int32)), (.int (0 : Int32)), (.ref a6), (.int (0 : Int32)), (.ref d)]))
  refine X6.callS (y := (⟨"java/lang/Math", "min", "(II)I"⟩ : MethodName)) (W := 4) (w165 hw) (w166 hw) (w107 hw) (w167 hw) (by decide) (X6.payM (sf := []) (rmmin_10_1 l Z a0 hw hEL zc O2 P5 de kde OD AD em OM el ee kee OL XL FL AE mr MR  h6 X6.old ) sf0 (w167 hw) (w107 hw) (by decide) (by decide)) rfl (by rw [hml]; rfl) (argsL := [(.int (10 : Int32)), (.int (1 : Int32))]) (rest := [(.int (0 : Int32)), (.ref a6), (.int (0 : Int32)), (.ref d)]) (lenOf pd4 rfl) rfl rfl (by show 2 * 0 + _ ≤ _; exact Nat.le_of_eq rfl) (hb hby d23_32) (by decide) (by decide) fun T9 h9 vm9 v9 X9 C9 z9 q9 => ?_
  obtain ⟨rfl, K9⟩ := q9
  rw [K9] at X9 C9
  have A10 := X9.at
  show Gets p e below _ (T9.setTop (mkF m 35 #[.val (.ref d), .val (.int (1 : Int32)), .val (.ref mr), .val (.ref a6)] [(.int (1 : Int32)), (.int (0 : Int32)), (.ref a6), (.int (0 : Int32)), (.ref d)]))
  have f12 : Exa Z h6 e0 "org/holdfast/model/Level" := Pr2.ext E6
  refine X9.copy (w168 hw) (w171 hw) (w169 hw) (w170 hw) (us := [(.ref e0)]) f8 V6_ (Or.inr ⟨rfl, rfl, ⟨(stoV V6_ O6 (Ins.of_exa f12 (w111 hw))), trivial⟩⟩) (by decide) (by decide) (by decide) (by decide) (by decide) rfl (Nat.le_of_ble_eq_true rfl) (leA (by omega)) (Safe.exa X9.hZ.alike Z6 (by decide) (by decide)) rfl (by rw [hml]; rfl) rfl (hb hby d23_35) (by decide) (W := 0) (by show 2 * 0 + _ ≤ _; exact Nat.le_of_eq rfl) (by decide) fun T11 h11 X11 C11 K11 V11 => ?_
  have z11 := K11.1
  have V11_ : Arv Z h11 a6 k6 (.object "java/lang/Object") (1 : Int32) [(.ref e0)] .null := V11
  have A13 := X11.at
  show Gets p e below _ (T11.setTop (mkF m 38 #[.val (.ref d), .val (.int (1 : Int32)), .val (.ref mr), .val (.ref a6)] []))
  refine Gets.via (fun _ k => (XS.aloadN A13 hx rfl (hb hby d23_38) rfl rfl k)) ?_
  show Gets p e below _ (T11.setTop (mkF m 39 #[.val (.ref d), .val (.int (1 : Int32)), .val (.ref mr), .val (.ref a6)] [(.ref a6)]))
  have f14 : Exa Z h11 a6 "[Ljava/lang/Object;" := Z6.keep K11
  exact X11.retA hret rfl rfl rfl (hb hby d23_39) (by decide) (by decide) ⟨a6, k6, rfl, (((Keep.refl h0 []).ext E6).trans K11 (allS (Or.inr (leA (by omega))) all0)), V11_, f14, O6, (leA (by omega))⟩
abbrev RrmCo1 : Room := { frames := 2, cells := 1, slots := 1, locals := 37 }
def QrmCo1 (Z : State) (de : Addr) (el : Addr) (em : Addr) (d : Addr) (kd : ClassId) (e0 : Addr) (h0 : Heap) (v : Option Value) (h : Heap) : Prop := ∃ (r : Addr) (kr : ClassId), v = some (.ref r) ∧ Keep h0 h [] ∧ Arv Z h r kr (.object "java/lang/Object") (1 : Int32) [(.ref e0)] .null ∧ Exa Z h r "[Ljava/lang/Object;" ∧ Ovr Z kr "java/lang/Object" ∧ h0.size ≤ r
set_option maxRecDepth 65536 in
set_option maxHeartbeats 40000000 in
theorem rmCo1 (l : Launch) (Z : State) (a0 : Array Value) (hw : ∀ d ∈ tables_1, d.before a0 Z = true) (hEL : EW Z a0 ([] : List (String × Nat))) (zc : Int32) (O2 : Sta Z Z.heap "java/lang/String" "COMPACT_STRINGS" "Z" (.int zc)) (P5 : ¬ zc = 0) (de : Addr) (kde : ClassId) (OD : Sta Z Z.heap "java/util/ArrayList" "DEFAULTCAPACITY_EMPTY_ELEMENTDATA" "[Ljava/lang/Object;" (.ref de)) (AD : Arv Z Z.heap de kde (.object "java/lang/Object") (0 : Int32) [] .null) (em : Addr) (OM : Sta Z Z.heap "java/util/ImmutableCollections" "EMPTY" "Ljava/lang/Object;" (.ref em)) (el ee : Addr) (kee : ClassId) (OL : Sta Z Z.heap "java/util/ImmutableCollections" "EMPTY_LIST" "Ljava/util/ImmutableCollections$ListN;" (.ref el)) (XL : Exa Z Z.heap el "java/util/ImmutableCollections$ListN") (FL : Fld Z Z.heap el "java/util/ImmutableCollections$ListN" "elements" "[Ljava/lang/Object;" (.ref ee)) (AE : Arv Z Z.heap ee kee (.object "java/lang/Object") (0 : Int32) [] .null) (mr : Addr) (MR : Mir Z "[Ljava/lang/Object;" mr) (d : Addr) (kd : ClassId) (e0 : Addr) (h0 : Heap) (O0 : Old Z Z.heap.size h0) (Pr0 : Arv Z h0 d kd (.object "java/lang/Object") (10 : Int32) [(.ref e0), .null, .null, .null, .null, .null, .null, .null, .null, .null] .null) (Pr1 : Exa Z h0 d "[Ljava/lang/Object;") (Pr2 : Exa Z h0 e0 "org/holdfast/model/Level") : Met l Z ([] : List (String × Nat)) (⟨"java/util/Arrays", "copyOf", "([Ljava/lang/Object;I)[Ljava/lang/Object;"⟩ : MethodName) jdk_65_method_119_code 2 (some (.array (.object "java/lang/Object"))) [] RrmCo1 [] #[(.ref d), (.int (1 : Int32))] h0 (QrmCo1 Z de el em d kd e0 h0) := by
  refine Met.start (a0 := a0) (Ls := #[.val (.ref d), .val (.int (1 : Int32))]) pn22 hEL O0 (fun m => by first | (simp [entryFrame, mkF, argsToLocals, Value.category]; done) | rfl) ?_
  intro p e s m below meth cc T0 vm0 X0 sf0_ hby hml hret hnm
  have hx := X0.hx
  have zz := X0.ge
  have A0 := X0.at
  have l1 := ltA Pr0.lt
  have l2 := ltA Pr1.lt
  have l3 := ltA Pr2.lt
  show Gets p e below _ (T0.setTop (mkF m 0 #[.val (.ref d), .val (.int (1 : Int32))] []))
  refine Gets.via (fun _ k => (XS.aloadN A0 hx rfl (hb hby d22_0) rfl rfl (XS.iloadN A0 hx rfl (hb hby d22_1) rfl (XS.aloadN A0 hx rfl (hb hby d22_2) rfl rfl k)))) ?_
  show Gets p e below _ (T0.setTop (mkF m 3 #[.val (.ref d), .val (.int (1 : Int32))] [(.ref d), (.int (1 : Int32)), (.ref d)]))
  refine X0.getC (w154 hw) (w155 hw) (w131 hw) (w157 hw) (w156 hw) (w158 hw) Pr1 MR rfl (by rw [hml]; rfl) rfl (hb hby d22_3) (by decide) (W := 2) (by show 2 * 0 + _ ≤ _; exact Nat.le_of_eq rfl) (by decide) fun T4 X4 => ?_
  have A5 := X4.at
  show Gets p e below _ (T4.setTop (mkF m 6 #[.val (.ref d), .val (.int (1 : Int32))] [(.ref mr), (.int (1 : Int32)), (.ref d)]))
  refine X4.callS (y := (⟨"java/util/Arrays", "copyOf", "([Ljava/lang/Object;ILjava/lang/Class;)[Ljava/lang/Object;"⟩ : MethodName)) (W := 0) (w160 hw) (w161 hw) (w152 hw) (w162 hw) (by decide) (X4.payM (sf := []) (rmCoT1 l Z a0 hw hEL zc O2 P5 de kde OD AD em OM el ee kee OL XL FL AE mr MR d kd e0 h0 X4.old Pr0 Pr1 Pr2) sf0 (w162 hw) (w152 hw) (by decide) (by decide)) rfl (by rw [hml]; rfl) (argsL := [(.ref d), (.int (1 : Int32)), (.ref mr)]) (rest := []) (lenOf pd5 rfl) rfl rfl (by show 2 * 0 + _ ≤ _; exact Nat.le_of_eq rfl) (hb hby d22_6) (by decide) (by decide) fun T6 h6 vm6 v6 X6 C6 z6 q6 => ?_
  obtain ⟨r6, kr6, rfl, K6, g6_0, g6_1, g6_2, g6_3⟩ := q6
  have l7 := ltA g6_0.lt
  have l8 := ltA g6_1.lt
  have A9 := X6.at
  show Gets p e below _ (T6.setTop (mkF m 9 #[.val (.ref d), .val (.int (1 : Int32))] [(.ref r6)]))
  exact X6.retA hret rfl rfl rfl (hb hby d22_9) (by decide) (by decide) ⟨r6, kr6, rfl, ((Keep.refl h0 []).trans K6 all0), g6_0, g6_1, g6_2, g6_3⟩
abbrev RrmToA1 : Room := { frames := 3, cells := 1, slots := 1, locals := 50 }
def QrmToA1 (Z : State) (de : Addr) (el : Addr) (em : Addr) (x : Addr) (d : Addr) (kd : ClassId) (e0 : Addr) (h0 : Heap) (v : Option Value) (h : Heap) : Prop := ∃ (r : Addr) (kr : ClassId), v = some (.ref r) ∧ Keep h0 h [] ∧ Arv Z h r kr (.object "java/lang/Object") (1 : Int32) [(.ref e0)] .null ∧ Exa Z h r "[Ljava/lang/Object;" ∧ Ovr Z kr "java/lang/Object" ∧ h0.size ≤ r
set_option maxRecDepth 65536 in
set_option maxHeartbeats 40000000 in
theorem rmToA1 (l : Launch) (Z : State) (a0 : Array Value) (hw : ∀ d ∈ tables_1, d.before a0 Z = true) (hEL : EW Z a0 ([] : List (String × Nat))) (zc : Int32) (O2 : Sta Z Z.heap "java/lang/String" "COMPACT_STRINGS" "Z" (.int zc)) (P5 : ¬ zc = 0) (de : Addr) (kde : ClassId) (OD : Sta Z Z.heap "java/util/ArrayList" "DEFAULTCAPACITY_EMPTY_ELEMENTDATA" "[Ljava/lang/Object;" (.ref de)) (AD : Arv Z Z.heap de kde (.object "java/lang/Object") (0 : Int32) [] .null) (em : Addr) (OM : Sta Z Z.heap "java/util/ImmutableCollections" "EMPTY" "Ljava/lang/Object;" (.ref em)) (el ee : Addr) (kee : ClassId) (OL : Sta Z Z.heap "java/util/ImmutableCollections" "EMPTY_LIST" "Ljava/util/ImmutableCollections$ListN;" (.ref el)) (XL : Exa Z Z.heap el "java/util/ImmutableCollections$ListN") (FL : Fld Z Z.heap el "java/util/ImmutableCollections$ListN" "elements" "[Ljava/lang/Object;" (.ref ee)) (AE : Arv Z Z.heap ee kee (.object "java/lang/Object") (0 : Int32) [] .null) (mr : Addr) (MR : Mir Z "[Ljava/lang/Object;" mr) (x : Addr) (d : Addr) (kd : ClassId) (e0 : Addr) (h0 : Heap) (O0 : Old Z Z.heap.size h0) (Pr0 : Fld Z h0 x "java/util/ArrayList" "size" "I" (.int (1 : Int32))) (Pr1 : Fld Z h0 x "java/util/ArrayList" "elementData" "[Ljava/lang/Object;" (.ref d)) (Pr2 : Arv Z h0 d kd (.object "java/lang/Object") (10 : Int32) [(.ref e0), .null, .null, .null, .null, .null, .null, .null, .null, .null] .null) (Pr3 : Exa Z h0 d "[Ljava/lang/Object;") (Pr4 : Exa Z h0 e0 "org/holdfast/model/Level") : Met l Z ([] : List (String × Nat)) (⟨"java/util/ArrayList", "toArray", "()[Ljava/lang/Object;"⟩ : MethodName) jdk_38_method_16_code 1 (some (.array (.object "java/lang/Object"))) [] RrmToA1 [] #[(.ref x)] h0 (QrmToA1 Z de el em x d kd e0 h0) := by
  refine Met.start (a0 := a0) (Ls := #[.val (.ref x)]) pn21 hEL O0 (fun m => by first | (simp [entryFrame, mkF, argsToLocals, Value.category]; done) | rfl) ?_
  intro p e s m below meth cc T0 vm0 X0 sf0_ hby hml hret hnm
  have hx := X0.hx
  have zz := X0.ge
  have A0 := X0.at
  have l1 := ltA Pr0.lt
  have l2 := ltA Pr1.lt
  have l3 := ltA Pr2.lt
  have l4 := ltA Pr3.lt
  have l5 := ltA Pr4.lt
  show Gets p e below _ (T0.setTop (mkF m 0 #[.val (.ref x)] []))
  refine Gets.via (fun _ k => (XS.aloadN A0 hx rfl (hb hby d21_0) rfl rfl k)) ?_
  show Gets p e below _ (T0.setTop (mkF m 1 #[.val (.ref x)] [(.ref x)]))
  refine X0.getF (host := "") (Or.inl (w79 hw)) Via.refl Pr1 rfl rfl (hb hby d21_1) fun T6 X6 => ?_
  have A7 := X6.at
  show Gets p e below _ (T6.setTop (mkF m 4 #[.val (.ref x)] [(.ref d)]))
  refine Gets.via (fun _ k => (XS.aloadN A7 hx rfl (hb hby d21_4) rfl rfl k)) ?_
  show Gets p e below _ (T6.setTop (mkF m 5 #[.val (.ref x)] [(.ref x), (.ref d)]))
  refine X6.getF (host := "") (Or.inl (w88 hw)) Via.refl Pr0 rfl rfl (hb hby d21_5) fun T8 X8 => ?_
  have A9 := X8.at
  show Gets p e below _ (T8.setTop (mkF m 8 #[.val (.ref x)] [(.int (1 : Int32)), (.ref d)]))
  refine X8.callS (y := (⟨"java/util/Arrays", "copyOf", "([Ljava/lang/Object;I)[Ljava/lang/Object;"⟩ : MethodName)) (W := 0) (w150 hw) (w151 hw) (w152 hw) (w153 hw) (by decide) (X8.payM (sf := []) (rmCo1 l Z a0 hw hEL zc O2 P5 de kde OD AD em OM el ee kee OL XL FL AE mr MR d kd e0 h0 X8.old Pr2 Pr3 Pr4) sf0 (w153 hw) (w152 hw) (by decide) (by decide)) rfl (by rw [hml]; rfl) (argsL := [(.ref d), (.int (1 : Int32))]) (rest := []) (lenOf pd6 rfl) rfl rfl (by show 2 * 0 + _ ≤ _; exact Nat.le_of_eq rfl) (hb hby d21_8) (by decide) (by decide) fun T10 h10 vm10 v10 X10 C10 z10 q10 => ?_
  obtain ⟨r10, kr10, rfl, K10, g10_0, g10_1, g10_2, g10_3⟩ := q10
  have l11 := ltA g10_0.lt
  have l12 := ltA g10_1.lt
  have A13 := X10.at
  show Gets p e below _ (T10.setTop (mkF m 11 #[.val (.ref x)] [(.ref r10)]))
  exact X10.retA hret rfl rfl rfl (hb hby d21_11) (by decide) (by decide) ⟨r10, kr10, rfl, ((Keep.refl h0 []).trans K10 all0), g10_0, g10_1, g10_2, g10_3⟩
abbrev RrmOf1 : Room := { frames := 5, cells := 1, slots := 2, locals := 62 }
def QrmOf1 (Z : State) (de : Addr) (el : Addr) (em : Addr) (r : Addr) (kr : ClassId) (e0 : Addr) (h0 : Heap) (v : Option Value) (h : Heap) : Prop := ∃ (a : Addr), v = some (.ref a) ∧ Keep h0 h [] ∧ Exa Z h a "java/util/ImmutableCollections$List12" ∧ Fld Z h a "java/util/ImmutableCollections$List12" "e0" "Ljava/lang/Object;" (.ref e0) ∧ Fld Z h a "java/util/ImmutableCollections$List12" "e1" "Ljava/lang/Object;" (.ref em) ∧ h0.size ≤ a
set_option maxRecDepth 65536 in
set_option maxHeartbeats 40000000 in
theorem rmOf1 (l : Launch) (Z : State) (a0 : Array Value) (hw : ∀ d ∈ tables_1, d.before a0 Z = true) (hEL : EW Z a0 ([] : List (String × Nat))) (zc : Int32) (O2 : Sta Z Z.heap "java/lang/String" "COMPACT_STRINGS" "Z" (.int zc)) (P5 : ¬ zc = 0) (de : Addr) (kde : ClassId) (OD : Sta Z Z.heap "java/util/ArrayList" "DEFAULTCAPACITY_EMPTY_ELEMENTDATA" "[Ljava/lang/Object;" (.ref de)) (AD : Arv Z Z.heap de kde (.object "java/lang/Object") (0 : Int32) [] .null) (em : Addr) (OM : Sta Z Z.heap "java/util/ImmutableCollections" "EMPTY" "Ljava/lang/Object;" (.ref em)) (el ee : Addr) (kee : ClassId) (OL : Sta Z Z.heap "java/util/ImmutableCollections" "EMPTY_LIST" "Ljava/util/ImmutableCollections$ListN;" (.ref el)) (XL : Exa Z Z.heap el "java/util/ImmutableCollections$ListN") (FL : Fld Z Z.heap el "java/util/ImmutableCollections$ListN" "elements" "[Ljava/lang/Object;" (.ref ee)) (AE : Arv Z Z.heap ee kee (.object "java/lang/Object") (0 : Int32) [] .null) (mr : Addr) (MR : Mir Z "[Ljava/lang/Object;" mr) (r : Addr) (kr : ClassId) (e0 : Addr) (h0 : Heap) (O0 : Old Z Z.heap.size h0) (Pr0 : Arv Z h0 r kr (.object "java/lang/Object") (1 : Int32) [(.ref e0)] .null) (Pr1 : Exa Z h0 e0 "org/holdfast/model/Level") : Met l Z ([] : List (String × Nat)) (⟨"java/util/List", "of", "([Ljava/lang/Object;)Ljava/util/List;"⟩ : MethodName) jdk_40_method_47_code 2 (some (.object "java/util/List")) [] RrmOf1 [] #[(.ref r)] h0 (QrmOf1 Z de el em r kr e0 h0) := by
  refine Met.start (a0 := a0) (Ls := #[.val (.ref r), .unset]) pn25 hEL O0 (fun m => by first | (simp [entryFrame, mkF, argsToLocals, Value.category]; done) | rfl) ?_
  intro p e s m below meth cc T0 vm0 X0 sf0_ hby hml hret hnm
  have hx := X0.hx
  have zz := X0.ge
  have A0 := X0.at
  have l1 := ltA Pr0.lt
  have l2 := ltA Pr1.lt
  show Gets p e below _ (T0.setTop (mkF m 0 #[.val (.ref r), .unset] []))
  refine Gets.via (fun _ k => (XS.aloadN A0 hx rfl (hb hby d25_0) rfl rfl k)) ?_
  show Gets p e below _ (T0.setTop (mkF m 1 #[.val (.ref r), .unset] [(.ref r)]))
  refine X0.alen Pr0 rfl rfl (hb hby d25_1) ?_
  show Gets p e below _ (T0.setTop (mkF m 2 #[.val (.ref r), .unset] [(.int (1 : Int32))]))
  refine Gets.via (fun _ k => (XS.tswIn A0 hx rfl (pc0 := 2) (pc' := 34) rfl (hb hby d25_2) rfl (by decide) (o := 32) rfl (by decide) (by decide) k)) ?_
  show Gets p e below _ (T0.setTop (mkF m 34 #[.val (.ref r), .unset] []))
  refine X0.new (w175 hw) (w176 hw) (w177 hw) rfl (hb hby d25_34) (by decide) (by decide) fun T3 h3 a3 X3 C3 E3 g3 Z3 S3 D3 => ?_
  have z3 := E3.1
  have l3 := ltA Z3.lt
  have A4 := X3.at
  show Gets p e below _ (T3.setTop (mkF m 37 #[.val (.ref r), .unset] [(.ref a3)]))
  refine Gets.via (fun _ k => (XS.dup A4 hx rfl (hb hby d25_37) rfl rfl (XS.aloadN A4 hx rfl (hb hby d25_38) rfl rfl (XS.iconst A4 hx rfl (hb hby d25_39) k)))) ?_
  show Gets p e below _ (T3.setTop (mkF m 40 #[.val (.ref r), .unset] [(.int (0 : Int32)), (.ref r), (.ref a3), (.ref a3)]))
  have f5 : Arv Z h3 r kr (.object "java/lang/Object") (1 : Int32) [(.ref e0)] .null := Pr0.ext E3
  refine X3.ldR f5 rfl (i := 0) (by decide) (by decide) (by decide) rfl rfl rfl (hb hby d25_40) ?_
  show Gets p e below _ (T3.setTop (mkF m 41 #[.val (.ref r), .unset] [(.ref e0), (.ref a3), (.ref a3)]))
  refine X3.callI (y := (⟨"java/util/ImmutableCollections$List12", "<init>", "(Ljava/lang/Object;)V"⟩ : MethodName)) (W := 1) rfl (w178 hw) (w179 hw) (w181 hw) (by decide) (X3.payM (sf := []) (rm26 l Z a0 hw hEL zc O2 P5 de kde OD AD em OM el ee kee OL XL FL AE mr MR a3 e0 h3 X3.old Z3 (D3 (Or.inr (w200 hw)) (ty := (.object "java/lang/Object")) (by decide) : Fld Z h3 a3 "java/util/ImmutableCollections$List12" "e0" "Ljava/lang/Object;" .null) (D3 (Or.inr (w203 hw)) (ty := (.object "java/lang/Object")) (by decide) : Fld Z h3 a3 "java/util/ImmutableCollections$List12" "e1" "Ljava/lang/Object;" .null) (leA (by omega))) sf0 (w181 hw) (w177 hw) (by decide) (by decide)) rfl (by rw [hml]; rfl) (a := a3) (argsL := [(.ref e0)]) (rest := [(.ref a3)]) (lenOf pd8 rfl) rfl rfl (by show 2 * 0 + _ ≤ _; exact Nat.le_of_eq rfl) (hb hby d25_41) (by decide) (by decide) fun T6 h6 vm6 v6 X6 C6 z6 q6 => ?_
  obtain ⟨rfl, K6, g6_0, g6_1, g6_2⟩ := q6
  have l7 := ltA g6_0.lt
  have l8 := ltA g6_1.lt
  have l9 := ltA g6_2.lt
  have A10 := X6.at
  show Gets p e below _ (T6.setTop (mkF m 44 #[.val (.ref r), .unset] [(.ref a3)]))
  exact X6.retA hret rfl rfl rfl (hb hby d25_44) (by decide) (by decide) ⟨a3, rfl, (((Keep.refl h0 []).ext E3).trans K6 (allS (Or.inr (leA (by omega))) all0)), g6_0, g6_1, g6_2, (leA (by omega))⟩
abbrev RrmLc1 : Room := { frames := 6, cells := 2, slots := 3, locals := 75 }
def QrmLc1 (Z : State) (de : Addr) (el : Addr) (em : Addr) (x : Addr) (d : Addr) (kd : ClassId) (e0 : Addr) (h0 : Heap) (v : Option Value) (h : Heap) : Prop := ∃ (a : Addr), v = some (.ref a) ∧ Keep h0 h [] ∧ Exa Z h a "java/util/ImmutableCollections$List12" ∧ Fld Z h a "java/util/ImmutableCollections$List12" "e0" "Ljava/lang/Object;" (.ref e0) ∧ Fld Z h a "java/util/ImmutableCollections$List12" "e1" "Ljava/lang/Object;" (.ref em) ∧ h0.size ≤ a
set_option maxRecDepth 65536 in
set_option maxHeartbeats 40000000 in
theorem rmLc1 (l : Launch) (Z : State) (a0 : Array Value) (hw : ∀ d ∈ tables_1, d.before a0 Z = true) (hEL : EW Z a0 ([] : List (String × Nat))) (zc : Int32) (O2 : Sta Z Z.heap "java/lang/String" "COMPACT_STRINGS" "Z" (.int zc)) (P5 : ¬ zc = 0) (de : Addr) (kde : ClassId) (OD : Sta Z Z.heap "java/util/ArrayList" "DEFAULTCAPACITY_EMPTY_ELEMENTDATA" "[Ljava/lang/Object;" (.ref de)) (AD : Arv Z Z.heap de kde (.object "java/lang/Object") (0 : Int32) [] .null) (em : Addr) (OM : Sta Z Z.heap "java/util/ImmutableCollections" "EMPTY" "Ljava/lang/Object;" (.ref em)) (el ee : Addr) (kee : ClassId) (OL : Sta Z Z.heap "java/util/ImmutableCollections" "EMPTY_LIST" "Ljava/util/ImmutableCollections$ListN;" (.ref el)) (XL : Exa Z Z.heap el "java/util/ImmutableCollections$ListN") (FL : Fld Z Z.heap el "java/util/ImmutableCollections$ListN" "elements" "[Ljava/lang/Object;" (.ref ee)) (AE : Arv Z Z.heap ee kee (.object "java/lang/Object") (0 : Int32) [] .null) (mr : Addr) (MR : Mir Z "[Ljava/lang/Object;" mr) (x : Addr) (d : Addr) (kd : ClassId) (e0 : Addr) (h0 : Heap) (O0 : Old Z Z.heap.size h0) (Pr0 : Exa Z h0 x "java/util/ArrayList") (Pr1 : Fld Z h0 x "java/util/ArrayList" "size" "I" (.int (1 : Int32))) (Pr2 : Fld Z h0 x "java/util/ArrayList" "elementData" "[Ljava/lang/Object;" (.ref d)) (Pr3 : Arv Z h0 d kd (.object "java/lang/Object") (10 : Int32) [(.ref e0), .null, .null, .null, .null, .null, .null, .null, .null, .null] .null) (Pr4 : Exa Z h0 d "[Ljava/lang/Object;") (Pr5 : Exa Z h0 e0 "org/holdfast/model/Level") : Met l Z ([] : List (String × Nat)) (⟨"java/util/ImmutableCollections", "listCopy", "(Ljava/util/Collection;)Ljava/util/List;"⟩ : MethodName) jdk_56_method_3_code 2 (some (.object "java/util/List")) [] RrmLc1 [] #[(.ref x)] h0 (QrmLc1 Z de el em x d kd e0 h0) := by
  refine Met.start (a0 := a0) (Ls := #[.val (.ref x), .unset]) pn19 hEL O0 (fun m => by first | (simp [entryFrame, mkF, argsToLocals, Value.category]; done) | rfl) ?_
  intro p e s m below meth cc T0 vm0 X0 sf0_ hby hml hret hnm
  have hx := X0.hx
  have zz := X0.ge
  have A0 := X0.at
  have l1 := ltA Pr0.lt
  have l2 := ltA Pr1.lt
  have l3 := ltA Pr2.lt
  have l4 := ltA Pr3.lt
  have l5 := ltA Pr4.lt
  have l6 := ltA Pr5.lt
  show Gets p e below _ (T0.setTop (mkF m 0 #[.val (.ref x), .unset] []))
  refine Gets.via (fun _ k => (XS.aloadN A0 hx rfl (hb hby d19_0) rfl rfl k)) ?_
  show Gets p e below _ (T0.setTop (mkF m 1 #[.val (.ref x), .unset] [(.ref x)]))
  refine X0.instNo (w127 hw) Pr0 (ns_no (w128 hw) (plainS (w211 hw) rfl) (NS.step (w128 hw) (NS.step (w129 hw) (NS.step (w130 hw) (ns_root (w131 hw) (plainS (w211 hw) rfl) (by decide)) (by decide)) (by decide)) (by decide)) (by decide)) rfl rfl (hb hby d19_1) fun T7 X7 => ?_
  have A8 := X7.at
  show Gets p e below _ (T7.setTop (mkF m 4 #[.val (.ref x), .unset] [(.int (0 : Int32))]))
  refine Gets.via (fun _ k => (XS.ifNo A8 hx rfl (hb hby d19_4) rfl (Jvm.Free.XT.i0_ne_f (by decide)) k)) ?_
  show Gets p e below _ (T7.setTop (mkF m 7 #[.val (.ref x), .unset] []))
  refine Gets.via (fun _ k => (XS.aloadN A8 hx rfl (hb hby d19_7) rfl rfl k)) ?_
  show Gets p e below _ (T7.setTop (mkF m 8 #[.val (.ref x), .unset] [(.ref x)]))
  refine X7.instNo (w132 hw) Pr0 (ns_no (w128 hw) (plainS (w221 hw) rfl) (NS.step (w128 hw) (NS.step (w129 hw) (NS.step (w130 hw) (ns_root (w131 hw) (plainS (w221 hw) rfl) (by decide)) (by decide)) (by decide)) (by decide)) (by decide)) rfl rfl (hb hby d19_8) fun T9 X9 => ?_
  have A10 := X9.at
  show Gets p e below _ (T9.setTop (mkF m 11 #[.val (.ref x), .unset] [(.int (0 : Int32))]))
  refine Gets.via (fun _ k => (XS.ifYes A10 hx rfl (pc0 := 11) (pc' := 31) rfl (hb hby d19_11) rfl (Jvm.Free.XT.i0_eq_t (by decide)) (by decide) (by decide) k)) ?_
  show Gets p e below _ (T9.setTop (mkF m 31 #[.val (.ref x), .unset] []))
  refine Gets.via (fun _ k => (XS.aloadN A10 hx rfl (hb hby d19_31) rfl rfl k)) ?_
  show Gets p e below _ (T9.setTop (mkF m 32 #[.val (.ref x), .unset] [(.ref x)]))
  refine X9.callF (xi := (⟨"java/util/Collection", "isEmpty", "()Z"⟩ : MethodName)) (y := (⟨"java/util/ArrayList", "isEmpty", "()Z"⟩ : MethodName)) (W := 0) (w133 hw) (w134 hw) (w135 hw) rfl (w136 hw) (w137 hw) (w138 hw) (w139 hw) (w140 hw) (by decide) (X9.payM (sf := []) (rmAlEmpty1 l Z a0 hw hEL zc O2 P5 de kde OD AD em OM el ee kee OL XL FL AE mr MR x h0 X9.old Pr1) sf0 (w141 hw) (w59 hw) (by decide) (by decide)) Pr0 rfl (by rw [hml]; rfl) (argsL := []) (rest := []) (lenOf pd3 rfl) rfl rfl (by show 2 * 0 + _ ≤ _; exact Nat.le_of_eq rfl) (hb hby d19_32) (by decide) (by decide) fun T11 h11 vm11 v11 X11 C11 z11 q11 => ?_
  obtain ⟨rfl, K11⟩ := q11
  rw [K11] at X11 C11
  have A12 := X11.at
  show Gets p e below _ (T11.setTop (mkF m 37 #[.val (.ref x), .unset] [(.int (0 : Int32))]))
  refine Gets.via (fun _ k => (XS.ifYes A12 hx rfl (pc0 := 37) (pc' := 44) rfl (hb hby d19_37) rfl (Jvm.Free.XT.i0_eq_t (by decide)) (by decide) (by decide) k)) ?_
  show Gets p e below _ (T11.setTop (mkF m 44 #[.val (.ref x), .unset] []))
  refine Gets.via (fun _ k => (XS.aloadN A12 hx rfl (hb hby d19_44) rfl rfl k)) ?_
  show Gets p e below _ (T11.setTop (mkF m 45 #[.val (.ref x), .unset] [(.ref x)]))
  refine X11.callF (xi := (⟨"java/util/Collection", "toArray", "()[Ljava/lang/Object;"⟩ : MethodName)) (y := (⟨"java/util/ArrayList", "toArray", "()[Ljava/lang/Object;"⟩ : MethodName)) (W := 0) (w142 hw) (w143 hw) (w144 hw) rfl (w145 hw) (w146 hw) (w147 hw) (w148 hw) (w140 hw) (by decide) (X11.payM (sf := []) (rmToA1 l Z a0 hw hEL zc O2 P5 de kde OD AD em OM el ee kee OL XL FL AE mr MR x d kd e0 h0 X11.old Pr1 Pr2 Pr3 Pr4 Pr5) sf0 (w149 hw) (w59 hw) (by decide) (by decide)) Pr0 rfl (by rw [hml]; rfl) (argsL := []) (rest := []) (lenOf pd7 rfl) rfl rfl (by show 2 * 0 + _ ≤ _; exact Nat.le_of_eq rfl) (hb hby d19_45) (by decide) (by decide) fun T13 h13 vm13 v13 X13 C13 z13 q13 => ?_
  obtain ⟨r13, kr13, rfl, K13, g13_0, g13_1, g13_2, g13_3⟩ := q13
  have l14 := ltA g13_0.lt
  have l15 := ltA g13_1.lt
  have A16 := X13.at
  show Gets p e below _ (T13.setTop (mkF m 50 #[.val (.ref x), .unset] [(.ref r13)]))
  have f17 : Exa Z h13 e0 "org/holdfast/model/Level" := Pr5.keep K13
  refine X13.callS (y := (⟨"java/util/List", "of", "([Ljava/lang/Object;)Ljava/util/List;"⟩ : MethodName)) (W := 0) (w172 hw) (w173 hw) (w121 hw) (w174 hw) (by decide) (X13.payM (sf := []) (rmOf1 l Z a0 hw hEL zc O2 P5 de kde OD AD em OM el ee kee OL XL FL AE mr MR r13 kr13 e0 h13 X13.old g13_0 f17) sf0 (w174 hw) (w121 hw) (by decide) (by decide)) rfl (by rw [hml]; rfl) (argsL := [(.ref r13)]) (rest := []) (lenOf pd9 rfl) rfl rfl (by show 2 * 0 + _ ≤ _; exact Nat.le_of_eq rfl) (hb hby d19_50) (by decide) (by decide) fun T18 h18 vm18 v18 X18 C18 z18 q18 => ?_
  obtain ⟨a18, rfl, K18, g18_0, g18_1, g18_2, g18_3⟩ := q18
  have l19 := ltA g18_0.lt
  have l20 := ltA g18_1.lt
  have l21 := ltA g18_2.lt
  have A22 := X18.at
  show Gets p e below _ (T18.setTop (mkF m 53 #[.val (.ref x), .unset] [(.ref a18)]))
  exact X18.retA hret rfl rfl rfl (hb hby d19_53) (by decide) (by decide) ⟨a18, rfl, (((Keep.refl h0 []).trans K13 all0).trans K18 all0), g18_0, g18_1, g18_2, (leA (by omega))⟩
abbrev RrmCoL1 : Room := { frames := 7, cells := 2, slots := 3, locals := 88 }
def QrmCoL1 (Z : State) (de : Addr) (el : Addr) (em : Addr) (x : Addr) (d : Addr) (kd : ClassId) (e0 : Addr) (h0 : Heap) (v : Option Value) (h : Heap) : Prop := ∃ (a : Addr), v = some (.ref a) ∧ Keep h0 h [] ∧ Exa Z h a "java/util/ImmutableCollections$List12" ∧ Fld Z h a "java/util/ImmutableCollections$List12" "e0" "Ljava/lang/Object;" (.ref e0) ∧ Fld Z h a "java/util/ImmutableCollections$List12" "e1" "Ljava/lang/Object;" (.ref em) ∧ h0.size ≤ a
set_option maxRecDepth 65536 in
set_option maxHeartbeats 40000000 in
theorem rmCoL1 (l : Launch) (Z : State) (a0 : Array Value) (hw : ∀ d ∈ tables_1, d.before a0 Z = true) (hEL : EW Z a0 ([] : List (String × Nat))) (zc : Int32) (O2 : Sta Z Z.heap "java/lang/String" "COMPACT_STRINGS" "Z" (.int zc)) (P5 : ¬ zc = 0) (de : Addr) (kde : ClassId) (OD : Sta Z Z.heap "java/util/ArrayList" "DEFAULTCAPACITY_EMPTY_ELEMENTDATA" "[Ljava/lang/Object;" (.ref de)) (AD : Arv Z Z.heap de kde (.object "java/lang/Object") (0 : Int32) [] .null) (em : Addr) (OM : Sta Z Z.heap "java/util/ImmutableCollections" "EMPTY" "Ljava/lang/Object;" (.ref em)) (el ee : Addr) (kee : ClassId) (OL : Sta Z Z.heap "java/util/ImmutableCollections" "EMPTY_LIST" "Ljava/util/ImmutableCollections$ListN;" (.ref el)) (XL : Exa Z Z.heap el "java/util/ImmutableCollections$ListN") (FL : Fld Z Z.heap el "java/util/ImmutableCollections$ListN" "elements" "[Ljava/lang/Object;" (.ref ee)) (AE : Arv Z Z.heap ee kee (.object "java/lang/Object") (0 : Int32) [] .null) (mr : Addr) (MR : Mir Z "[Ljava/lang/Object;" mr) (x : Addr) (d : Addr) (kd : ClassId) (e0 : Addr) (h0 : Heap) (O0 : Old Z Z.heap.size h0) (Pr0 : Exa Z h0 x "java/util/ArrayList") (Pr1 : Fld Z h0 x "java/util/ArrayList" "size" "I" (.int (1 : Int32))) (Pr2 : Fld Z h0 x "java/util/ArrayList" "elementData" "[Ljava/lang/Object;" (.ref d)) (Pr3 : Arv Z h0 d kd (.object "java/lang/Object") (10 : Int32) [(.ref e0), .null, .null, .null, .null, .null, .null, .null, .null, .null] .null) (Pr4 : Exa Z h0 d "[Ljava/lang/Object;") (Pr5 : Exa Z h0 e0 "org/holdfast/model/Level") : Met l Z ([] : List (String × Nat)) (⟨"java/util/List", "copyOf", "(Ljava/util/Collection;)Ljava/util/List;"⟩ : MethodName) jdk_40_method_48_code 1 (some (.object "java/util/List")) [] RrmCoL1 [] #[(.ref x)] h0 (QrmCoL1 Z de el em x d kd e0 h0) := by
  refine Met.start (a0 := a0) (Ls := #[.val (.ref x)]) pn18 hEL O0 (fun m => by first | (simp [entryFrame, mkF, argsToLocals, Value.category]; done) | rfl) ?_
  intro p e s m below meth cc T0 vm0 X0 sf0_ hby hml hret hnm
  have hx := X0.hx
  have zz := X0.ge
  have A0 := X0.at
  have l1 := ltA Pr0.lt
  have l2 := ltA Pr1.lt
  have l3 := ltA Pr2.lt
  have l4 := ltA Pr3.lt
  have l5 := ltA Pr4.lt
  have l6 := ltA Pr5.lt
  show Gets p e below _ (T0.setTop (mkF m 0 #[.val (.ref x)] []))
  refine Gets.via (fun _ k => (XS.aloadN A0 hx rfl (hb hby d18_0) rfl rfl k)) ?_
  show Gets p e below _ (T0.setTop (mkF m 1 #[.val (.ref x)] [(.ref x)]))
  refine X0.callS (y := (⟨"java/util/ImmutableCollections", "listCopy", "(Ljava/util/Collection;)Ljava/util/List;"⟩ : MethodName)) (W := 0) (w123 hw) (w124 hw) (w125 hw) (w126 hw) (by decide) (X0.payM (sf := []) (rmLc1 l Z a0 hw hEL zc O2 P5 de kde OD AD em OM el ee kee OL XL FL AE mr MR x d kd e0 h0 X0.old Pr0 Pr1 Pr2 Pr3 Pr4 Pr5) sf0 (w126 hw) (w125 hw) (by decide) (by decide)) rfl (by rw [hml]; rfl) (argsL := [(.ref x)]) (rest := []) (lenOf pd10 rfl) rfl rfl (by show 2 * 0 + _ ≤ _; exact Nat.le_of_eq rfl) (hb hby d18_1) (by decide) (by decide) fun T7 h7 vm7 v7 X7 C7 z7 q7 => ?_
  obtain ⟨a7, rfl, K7, g7_0, g7_1, g7_2, g7_3⟩ := q7
  have l8 := ltA g7_0.lt
  have l9 := ltA g7_1.lt
  have l10 := ltA g7_2.lt
  have A11 := X7.at
  show Gets p e below _ (T7.setTop (mkF m 4 #[.val (.ref x)] [(.ref a7)]))
  exact X7.retA hret rfl rfl rfl (hb hby d18_4) (by decide) (by decide) ⟨a7, rfl, ((Keep.refl h0 []).trans K7 all0), g7_0, g7_1, g7_2, g7_3⟩
abbrev RrmAlEmpty0 : Room := { frames := 0, cells := 0, slots := 0, locals := 0 }
def QrmAlEmpty0 (Z : State) (de : Addr) (el : Addr) (em : Addr) (x : Addr) (h0 : Heap) (v : Option Value) (h : Heap) : Prop := v = some (.int (1 : Int32)) ∧ h = h0
set_option maxRecDepth 65536 in
set_option maxHeartbeats 40000000 in
theorem rmAlEmpty0 (l : Launch) (Z : State) (a0 : Array Value) (hw : ∀ d ∈ tables_1, d.before a0 Z = true) (hEL : EW Z a0 ([] : List (String × Nat))) (zc : Int32) (O2 : Sta Z Z.heap "java/lang/String" "COMPACT_STRINGS" "Z" (.int zc)) (P5 : ¬ zc = 0) (de : Addr) (kde : ClassId) (OD : Sta Z Z.heap "java/util/ArrayList" "DEFAULTCAPACITY_EMPTY_ELEMENTDATA" "[Ljava/lang/Object;" (.ref de)) (AD : Arv Z Z.heap de kde (.object "java/lang/Object") (0 : Int32) [] .null) (em : Addr) (OM : Sta Z Z.heap "java/util/ImmutableCollections" "EMPTY" "Ljava/lang/Object;" (.ref em)) (el ee : Addr) (kee : ClassId) (OL : Sta Z Z.heap "java/util/ImmutableCollections" "EMPTY_LIST" "Ljava/util/ImmutableCollections$ListN;" (.ref el)) (XL : Exa Z Z.heap el "java/util/ImmutableCollections$ListN") (FL : Fld Z Z.heap el "java/util/ImmutableCollections$ListN" "elements" "[Ljava/lang/Object;" (.ref ee)) (AE : Arv Z Z.heap ee kee (.object "java/lang/Object") (0 : Int32) [] .null) (mr : Addr) (MR : Mir Z "[Ljava/lang/Object;" mr) (x : Addr) (h0 : Heap) (O0 : Old Z Z.heap.size h0) (Pr0 : Fld Z h0 x "java/util/ArrayList" "size" "I" (.int (0 : Int32))) : Met l Z ([] : List (String × Nat)) (⟨"java/util/ArrayList", "isEmpty", "()Z"⟩ : MethodName) jdk_38_method_9_code 1 (some .boolean) [] RrmAlEmpty0 [] #[(.ref x)] h0 (QrmAlEmpty0 Z de el em x h0) := by
  refine Met.start (a0 := a0) (Ls := #[.val (.ref x)]) pn20 hEL O0 (fun m => by first | (simp [entryFrame, mkF, argsToLocals, Value.category]; done) | rfl) ?_
  intro p e s m below meth cc T0 vm0 X0 sf0_ hby hml hret hnm
  have hx := X0.hx
  have zz := X0.ge
  have A0 := X0.at
  have l1 := ltA Pr0.lt
  show Gets p e below _ (T0.setTop (mkF m 0 #[.val (.ref x)] []))
  refine Gets.via (fun _ k => (XS.aloadN A0 hx rfl (hb hby d20_0) rfl rfl k)) ?_
  show Gets p e below _ (T0.setTop (mkF m 1 #[.val (.ref x)] [(.ref x)]))
  refine X0.getF (host := "") (Or.inl (w88 hw)) Via.refl Pr0 rfl rfl (hb hby d20_1) fun T2 X2 => ?_
  have A3 := X2.at
  show Gets p e below _ (T2.setTop (mkF m 4 #[.val (.ref x)] [(.int (0 : Int32))]))
  refine Gets.via (fun _ k => (XS.ifNo A3 hx rfl (hb hby d20_4) rfl (Jvm.Free.XT.i0_ne_f (by decide)) k)) ?_
  show Gets p e below _ (T2.setTop (mkF m 7 #[.val (.ref x)] []))
  refine Gets.via (fun _ k => (XS.iconst A3 hx rfl (hb hby d20_7) (XS.goto A3 hx rfl (pc0 := 8) (pc' := 12) rfl (hb hby d20_8) (by decide) (by decide) k))) ?_
  show Gets p e below _ (T2.setTop (mkF m 12 #[.val (.ref x)] [(.int (1 : Int32))]))
  exact X2.retI hret (by decide) (by simp) (hb hby d20_12) (by decide) (by decide) ⟨rfl, rfl⟩
abbrev RrmLc0 : Room := { frames := 1, cells := 0, slots := 0, locals := 12 }
def QrmLc0 (Z : State) (de : Addr) (el : Addr) (em : Addr) (x : Addr) (h0 : Heap) (v : Option Value) (h : Heap) : Prop := v = some (.ref el) ∧ h = h0
set_option maxRecDepth 65536 in
set_option maxHeartbeats 40000000 in
theorem rmLc0 (l : Launch) (Z : State) (a0 : Array Value) (hw : ∀ d ∈ tables_1, d.before a0 Z = true) (hEL : EW Z a0 ([] : List (String × Nat))) (zc : Int32) (O2 : Sta Z Z.heap "java/lang/String" "COMPACT_STRINGS" "Z" (.int zc)) (P5 : ¬ zc = 0) (de : Addr) (kde : ClassId) (OD : Sta Z Z.heap "java/util/ArrayList" "DEFAULTCAPACITY_EMPTY_ELEMENTDATA" "[Ljava/lang/Object;" (.ref de)) (AD : Arv Z Z.heap de kde (.object "java/lang/Object") (0 : Int32) [] .null) (em : Addr) (OM : Sta Z Z.heap "java/util/ImmutableCollections" "EMPTY" "Ljava/lang/Object;" (.ref em)) (el ee : Addr) (kee : ClassId) (OL : Sta Z Z.heap "java/util/ImmutableCollections" "EMPTY_LIST" "Ljava/util/ImmutableCollections$ListN;" (.ref el)) (XL : Exa Z Z.heap el "java/util/ImmutableCollections$ListN") (FL : Fld Z Z.heap el "java/util/ImmutableCollections$ListN" "elements" "[Ljava/lang/Object;" (.ref ee)) (AE : Arv Z Z.heap ee kee (.object "java/lang/Object") (0 : Int32) [] .null) (mr : Addr) (MR : Mir Z "[Ljava/lang/Object;" mr) (x : Addr) (h0 : Heap) (O0 : Old Z Z.heap.size h0) (Pr0 : Exa Z h0 x "java/util/ArrayList") (Pr1 : Fld Z h0 x "java/util/ArrayList" "size" "I" (.int (0 : Int32))) : Met l Z ([] : List (String × Nat)) (⟨"java/util/ImmutableCollections", "listCopy", "(Ljava/util/Collection;)Ljava/util/List;"⟩ : MethodName) jdk_56_method_3_code 2 (some (.object "java/util/List")) [] RrmLc0 [] #[(.ref x)] h0 (QrmLc0 Z de el em x h0) := by
  refine Met.start (a0 := a0) (Ls := #[.val (.ref x), .unset]) pn19 hEL O0 (fun m => by first | (simp [entryFrame, mkF, argsToLocals, Value.category]; done) | rfl) ?_
  intro p e s m below meth cc T0 vm0 X0 sf0_ hby hml hret hnm
  have hx := X0.hx
  have zz := X0.ge
  have A0 := X0.at
  have l1 := ltA Pr0.lt
  have l2 := ltA Pr1.lt
  show Gets p e below _ (T0.setTop (mkF m 0 #[.val (.ref x), .unset] []))
  refine Gets.via (fun _ k => (XS.aloadN A0 hx rfl (hb hby d19_0) rfl rfl k)) ?_
  show Gets p e below _ (T0.setTop (mkF m 1 #[.val (.ref x), .unset] [(.ref x)]))
  refine X0.instNo (w127 hw) Pr0 (ns_no (w128 hw) (plainS (w211 hw) rfl) (NS.step (w128 hw) (NS.step (w129 hw) (NS.step (w130 hw) (ns_root (w131 hw) (plainS (w211 hw) rfl) (by decide)) (by decide)) (by decide)) (by decide)) (by decide)) rfl rfl (hb hby d19_1) fun T3 X3 => ?_
  have A4 := X3.at
  show Gets p e below _ (T3.setTop (mkF m 4 #[.val (.ref x), .unset] [(.int (0 : Int32))]))
  refine Gets.via (fun _ k => (XS.ifNo A4 hx rfl (hb hby d19_4) rfl (Jvm.Free.XT.i0_ne_f (by decide)) k)) ?_
  show Gets p e below _ (T3.setTop (mkF m 7 #[.val (.ref x), .unset] []))
  refine Gets.via (fun _ k => (XS.aloadN A4 hx rfl (hb hby d19_7) rfl rfl k)) ?_
  show Gets p e below _ (T3.setTop (mkF m 8 #[.val (.ref x), .unset] [(.ref x)]))
  refine X3.instNo (w132 hw) Pr0 (ns_no (w128 hw) (plainS (w221 hw) rfl) (NS.step (w128 hw) (NS.step (w129 hw) (NS.step (w130 hw) (ns_root (w131 hw) (plainS (w221 hw) rfl) (by decide)) (by decide)) (by decide)) (by decide)) (by decide)) rfl rfl (hb hby d19_8) fun T5 X5 => ?_
  have A6 := X5.at
  show Gets p e below _ (T5.setTop (mkF m 11 #[.val (.ref x), .unset] [(.int (0 : Int32))]))
  refine Gets.via (fun _ k => (XS.ifYes A6 hx rfl (pc0 := 11) (pc' := 31) rfl (hb hby d19_11) rfl (Jvm.Free.XT.i0_eq_t (by decide)) (by decide) (by decide) k)) ?_
  show Gets p e below _ (T5.setTop (mkF m 31 #[.val (.ref x), .unset] []))
  refine Gets.via (fun _ k => (XS.aloadN A6 hx rfl (hb hby d19_31) rfl rfl k)) ?_
  show Gets p e below _ (T5.setTop (mkF m 32 #[.val (.ref x), .unset] [(.ref x)]))
  refine X5.callF (xi := (⟨"java/util/Collection", "isEmpty", "()Z"⟩ : MethodName)) (y := (⟨"java/util/ArrayList", "isEmpty", "()Z"⟩ : MethodName)) (W := 0) (w133 hw) (w134 hw) (w135 hw) rfl (w136 hw) (w137 hw) (w138 hw) (w139 hw) (w140 hw) (by decide) (X5.payM (sf := []) (rmAlEmpty0 l Z a0 hw hEL zc O2 P5 de kde OD AD em OM el ee kee OL XL FL AE mr MR x h0 X5.old Pr1) sf0 (w141 hw) (w59 hw) (by decide) (by decide)) Pr0 rfl (by rw [hml]; rfl) (argsL := []) (rest := []) (lenOf pd3 rfl) rfl rfl (by show 2 * 0 + _ ≤ _; exact Nat.le_of_eq rfl) (hb hby d19_32) (by decide) (by decide) fun T7 h7 vm7 v7 X7 C7 z7 q7 => ?_
  obtain ⟨rfl, K7⟩ := q7
  rw [K7] at X7 C7
  have A8 := X7.at
  show Gets p e below _ (T7.setTop (mkF m 37 #[.val (.ref x), .unset] [(.int (1 : Int32))]))
  refine Gets.via (fun _ k => (XS.ifNo A8 hx rfl (hb hby d19_37) rfl (Jvm.Free.XT.i0_eq_f (by decide)) k)) ?_
  show Gets p e below _ (T7.setTop (mkF m 40 #[.val (.ref x), .unset] []))
  refine X7.callS (y := (⟨"java/util/List", "of", "()Ljava/util/List;"⟩ : MethodName)) (W := 0) (w204 hw) (w205 hw) (w121 hw) (w206 hw) (by decide) (X7.payM (sf := []) (rm30 l Z a0 hw hEL zc O2 P5 de kde OD AD em OM el ee kee OL XL FL AE mr MR  h0 X7.old ) sf0 (w206 hw) (w121 hw) (by decide) (by decide)) rfl (by rw [hml]; rfl) (argsL := []) (rest := []) (lenOf pd11 rfl) rfl rfl (by show 2 * 0 + _ ≤ _; exact Nat.le_of_eq rfl) (hb hby d19_40) (by decide) (by decide) fun T9 h9 vm9 v9 X9 C9 z9 q9 => ?_
  obtain ⟨rfl, K9⟩ := q9
  rw [K9] at X9 C9
  have A10 := X9.at
  show Gets p e below _ (T9.setTop (mkF m 43 #[.val (.ref x), .unset] [(.ref el)]))
  exact X9.retA hret rfl rfl rfl (hb hby d19_43) (by decide) (by decide) ⟨rfl, rfl⟩
abbrev RrmCoL0 : Room := { frames := 2, cells := 0, slots := 0, locals := 25 }
def QrmCoL0 (Z : State) (de : Addr) (el : Addr) (em : Addr) (x : Addr) (h0 : Heap) (v : Option Value) (h : Heap) : Prop := v = some (.ref el) ∧ h = h0
set_option maxRecDepth 65536 in
set_option maxHeartbeats 40000000 in
theorem rmCoL0 (l : Launch) (Z : State) (a0 : Array Value) (hw : ∀ d ∈ tables_1, d.before a0 Z = true) (hEL : EW Z a0 ([] : List (String × Nat))) (zc : Int32) (O2 : Sta Z Z.heap "java/lang/String" "COMPACT_STRINGS" "Z" (.int zc)) (P5 : ¬ zc = 0) (de : Addr) (kde : ClassId) (OD : Sta Z Z.heap "java/util/ArrayList" "DEFAULTCAPACITY_EMPTY_ELEMENTDATA" "[Ljava/lang/Object;" (.ref de)) (AD : Arv Z Z.heap de kde (.object "java/lang/Object") (0 : Int32) [] .null) (em : Addr) (OM : Sta Z Z.heap "java/util/ImmutableCollections" "EMPTY" "Ljava/lang/Object;" (.ref em)) (el ee : Addr) (kee : ClassId) (OL : Sta Z Z.heap "java/util/ImmutableCollections" "EMPTY_LIST" "Ljava/util/ImmutableCollections$ListN;" (.ref el)) (XL : Exa Z Z.heap el "java/util/ImmutableCollections$ListN") (FL : Fld Z Z.heap el "java/util/ImmutableCollections$ListN" "elements" "[Ljava/lang/Object;" (.ref ee)) (AE : Arv Z Z.heap ee kee (.object "java/lang/Object") (0 : Int32) [] .null) (mr : Addr) (MR : Mir Z "[Ljava/lang/Object;" mr) (x : Addr) (h0 : Heap) (O0 : Old Z Z.heap.size h0) (Pr0 : Exa Z h0 x "java/util/ArrayList") (Pr1 : Fld Z h0 x "java/util/ArrayList" "size" "I" (.int (0 : Int32))) : Met l Z ([] : List (String × Nat)) (⟨"java/util/List", "copyOf", "(Ljava/util/Collection;)Ljava/util/List;"⟩ : MethodName) jdk_40_method_48_code 1 (some (.object "java/util/List")) [] RrmCoL0 [] #[(.ref x)] h0 (QrmCoL0 Z de el em x h0) := by
  refine Met.start (a0 := a0) (Ls := #[.val (.ref x)]) pn18 hEL O0 (fun m => by first | (simp [entryFrame, mkF, argsToLocals, Value.category]; done) | rfl) ?_
  intro p e s m below meth cc T0 vm0 X0 sf0_ hby hml hret hnm
  have hx := X0.hx
  have zz := X0.ge
  have A0 := X0.at
  have l1 := ltA Pr0.lt
  have l2 := ltA Pr1.lt
  show Gets p e below _ (T0.setTop (mkF m 0 #[.val (.ref x)] []))
  refine Gets.via (fun _ k => (XS.aloadN A0 hx rfl (hb hby d18_0) rfl rfl k)) ?_
  show Gets p e below _ (T0.setTop (mkF m 1 #[.val (.ref x)] [(.ref x)]))
  refine X0.callS (y := (⟨"java/util/ImmutableCollections", "listCopy", "(Ljava/util/Collection;)Ljava/util/List;"⟩ : MethodName)) (W := 0) (w123 hw) (w124 hw) (w125 hw) (w126 hw) (by decide) (X0.payM (sf := []) (rmLc0 l Z a0 hw hEL zc O2 P5 de kde OD AD em OM el ee kee OL XL FL AE mr MR x h0 X0.old Pr0 Pr1) sf0 (w126 hw) (w125 hw) (by decide) (by decide)) rfl (by rw [hml]; rfl) (argsL := [(.ref x)]) (rest := []) (lenOf pd10 rfl) rfl rfl (by show 2 * 0 + _ ≤ _; exact Nat.le_of_eq rfl) (hb hby d18_1) (by decide) (by decide) fun T3 h3 vm3 v3 X3 C3 z3 q3 => ?_
  obtain ⟨rfl, K3⟩ := q3
  rw [K3] at X3 C3
  have A4 := X3.at
  show Gets p e below _ (T3.setTop (mkF m 4 #[.val (.ref x)] [(.ref el)]))
  exact X3.retA hret rfl rfl rfl (hb hby d18_4) (by decide) (by decide) ⟨rfl, rfl⟩
abbrev RrmL12e : Room := { frames := 0, cells := 0, slots := 0, locals := 0 }
def QrmL12e (Z : State) (de : Addr) (el : Addr) (em : Addr) (x : Addr) (h0 : Heap) (v : Option Value) (h : Heap) : Prop := v = some (.int (0 : Int32)) ∧ h = h0
set_option maxRecDepth 65536 in
set_option maxHeartbeats 40000000 in
theorem rmL12e (l : Launch) (Z : State) (a0 : Array Value) (hw : ∀ d ∈ tables_1, d.before a0 Z = true) (hEL : EW Z a0 ([] : List (String × Nat))) (zc : Int32) (O2 : Sta Z Z.heap "java/lang/String" "COMPACT_STRINGS" "Z" (.int zc)) (P5 : ¬ zc = 0) (de : Addr) (kde : ClassId) (OD : Sta Z Z.heap "java/util/ArrayList" "DEFAULTCAPACITY_EMPTY_ELEMENTDATA" "[Ljava/lang/Object;" (.ref de)) (AD : Arv Z Z.heap de kde (.object "java/lang/Object") (0 : Int32) [] .null) (em : Addr) (OM : Sta Z Z.heap "java/util/ImmutableCollections" "EMPTY" "Ljava/lang/Object;" (.ref em)) (el ee : Addr) (kee : ClassId) (OL : Sta Z Z.heap "java/util/ImmutableCollections" "EMPTY_LIST" "Ljava/util/ImmutableCollections$ListN;" (.ref el)) (XL : Exa Z Z.heap el "java/util/ImmutableCollections$ListN") (FL : Fld Z Z.heap el "java/util/ImmutableCollections$ListN" "elements" "[Ljava/lang/Object;" (.ref ee)) (AE : Arv Z Z.heap ee kee (.object "java/lang/Object") (0 : Int32) [] .null) (mr : Addr) (MR : Mir Z "[Ljava/lang/Object;" mr) (x : Addr) (h0 : Heap) (O0 : Old Z Z.heap.size h0)  : Met l Z ([] : List (String × Nat)) (⟨"java/util/ImmutableCollections$List12", "isEmpty", "()Z"⟩ : MethodName) jdk_44_method_4_code 1 (some .boolean) [] RrmL12e [] #[(.ref x)] h0 (QrmL12e Z de el em x h0) := by
  refine Met.start (a0 := a0) (Ls := #[.val (.ref x)]) pn31 hEL O0 (fun m => by first | (simp [entryFrame, mkF, argsToLocals, Value.category]; done) | rfl) ?_
  intro p e s m below meth cc T0 vm0 X0 sf0_ hby hml hret hnm
  have hx := X0.hx
  have zz := X0.ge
  have A0 := X0.at
  show Gets p e below _ (T0.setTop (mkF m 0 #[.val (.ref x)] []))
  refine Gets.via (fun _ k => (XS.iconst A0 hx rfl (hb hby d31_0) k)) ?_
  show Gets p e below _ (T0.setTop (mkF m 1 #[.val (.ref x)] [(.int (0 : Int32))]))
  exact X0.retI hret (by decide) (by simp) (hb hby d31_1) (by decide) (by decide) ⟨rfl, rfl⟩
abbrev RrmDesA : Room := { frames := 8, cells := 2, slots := 3, locals := 100 }
def QrmDesA (Z : State) (de : Addr) (el : Addr) (em : Addr) (x : Addr) (u : Addr) (w : Addr) (d : Addr) (kd : ClassId) (e0 : Addr) (h0 : Heap) (v : Option Value) (h : Heap) : Prop := v = none ∧ Keep h0 h [x] ∧ Exa Z h x "org/holdfast/model/Designation"
set_option maxRecDepth 65536 in
set_option maxHeartbeats 40000000 in
theorem rmDesA (l : Launch) (Z : State) (a0 : Array Value) (hw : ∀ d ∈ tables_1, d.before a0 Z = true) (hEL : EW Z a0 ([] : List (String × Nat))) (zc : Int32) (O2 : Sta Z Z.heap "java/lang/String" "COMPACT_STRINGS" "Z" (.int zc)) (P5 : ¬ zc = 0) (de : Addr) (kde : ClassId) (OD : Sta Z Z.heap "java/util/ArrayList" "DEFAULTCAPACITY_EMPTY_ELEMENTDATA" "[Ljava/lang/Object;" (.ref de)) (AD : Arv Z Z.heap de kde (.object "java/lang/Object") (0 : Int32) [] .null) (em : Addr) (OM : Sta Z Z.heap "java/util/ImmutableCollections" "EMPTY" "Ljava/lang/Object;" (.ref em)) (el ee : Addr) (kee : ClassId) (OL : Sta Z Z.heap "java/util/ImmutableCollections" "EMPTY_LIST" "Ljava/util/ImmutableCollections$ListN;" (.ref el)) (XL : Exa Z Z.heap el "java/util/ImmutableCollections$ListN") (FL : Fld Z Z.heap el "java/util/ImmutableCollections$ListN" "elements" "[Ljava/lang/Object;" (.ref ee)) (AE : Arv Z Z.heap ee kee (.object "java/lang/Object") (0 : Int32) [] .null) (mr : Addr) (MR : Mir Z "[Ljava/lang/Object;" mr) (x : Addr) (u : Addr) (w : Addr) (d : Addr) (kd : ClassId) (e0 : Addr) (h0 : Heap) (O0 : Old Z Z.heap.size h0) (Pr0 : Exa Z h0 x "org/holdfast/model/Designation") (Pr1 : Fld Z h0 x "org/holdfast/model/Designation" "enumeration" "Ljava/util/List;" .null) (Pr2 : Fld Z h0 x "org/holdfast/model/Designation" "chronology" "Ljava/util/List;" .null) (Pr3 : Z.heap.size ≤ x) (Pr4 : Exa Z h0 u "java/util/ArrayList") (Pr5 : Fld Z h0 u "java/util/ArrayList" "size" "I" (.int (1 : Int32))) (Pr6 : Fld Z h0 u "java/util/ArrayList" "elementData" "[Ljava/lang/Object;" (.ref d)) (Pr7 : Arv Z h0 d kd (.object "java/lang/Object") (10 : Int32) [(.ref e0), .null, .null, .null, .null, .null, .null, .null, .null, .null] .null) (Pr8 : Exa Z h0 d "[Ljava/lang/Object;") (Pr9 : Exa Z h0 e0 "org/holdfast/model/Level") (Pr10 : Exa Z h0 w "java/util/ArrayList") (Pr11 : Fld Z h0 w "java/util/ArrayList" "size" "I" (.int (0 : Int32))) : Met l Z ([] : List (String × Nat)) (⟨"org/holdfast/model/Designation", "<init>", "(Ljava/util/List;Ljava/util/List;)V"⟩ : MethodName) prog_21_method_1_code 3 (none) [] RrmDesA [] #[(.ref x), (.ref u), (.ref w)] h0 (QrmDesA Z de el em x u w d kd e0 h0) := by
  refine Met.start (a0 := a0) (Ls := #[.val (.ref x), .val (.ref u), .val (.ref w)]) pn17 hEL O0 (fun m => by first | (simp [entryFrame, mkF, argsToLocals, Value.category]; done) | rfl) ?_
  intro p e s m below meth cc T0 vm0 X0 sf0_ hby hml hret hnm
  have hx := X0.hx
  have zz := X0.ge
  have A0 := X0.at
  have l1 := ltA Pr0.lt
  have l2 := ltA Pr1.lt
  have l3 := ltA Pr2.lt
  have l4 := ltA Pr4.lt
  have l5 := ltA Pr5.lt
  have l6 := ltA Pr6.lt
  have l7 := ltA Pr7.lt
  have l8 := ltA Pr8.lt
  have l9 := ltA Pr9.lt
  have l10 := ltA Pr10.lt
  have l11 := ltA Pr11.lt
  show Gets p e below _ (T0.setTop (mkF m 0 #[.val (.ref x), .val (.ref u), .val (.ref w)] []))
  refine Gets.via (fun _ k => (XS.aloadN A0 hx rfl (hb hby d17_0) rfl rfl k)) ?_
  show Gets p e below _ (T0.setTop (mkF m 1 #[.val (.ref x), .val (.ref u), .val (.ref w)] [(.ref x)]))
  refine X0.callI (y := (⟨"java/lang/Record", "<init>", "()V"⟩ : MethodName)) (W := 0) rfl (w118 hw) (w41 hw) (w44 hw) (by decide) (X0.payM (sf := []) (rm7 l Z a0 hw hEL zc O2 P5 de kde OD AD em OM el ee kee OL XL FL AE mr MR x h0 X0.old ) sf0 (w44 hw) (w43 hw) (by decide) (by decide)) rfl (by rw [hml]; rfl) (a := x) (argsL := []) (rest := []) (lenOf pd0 rfl) rfl rfl (by show 2 * 0 + _ ≤ _; exact Nat.le_of_eq rfl) (hb hby d17_1) (by decide) (by decide) fun T12 h12 vm12 v12 X12 C12 z12 q12 => ?_
  obtain ⟨rfl, K12⟩ := q12
  rw [K12] at X12 C12
  have A13 := X12.at
  show Gets p e below _ (T12.setTop (mkF m 4 #[.val (.ref x), .val (.ref u), .val (.ref w)] []))
  refine Gets.via (fun _ k => (XS.aloadN A13 hx rfl (hb hby d17_4) rfl rfl k)) ?_
  show Gets p e below _ (T12.setTop (mkF m 5 #[.val (.ref x), .val (.ref u), .val (.ref w)] [(.ref u)]))
  refine X12.callS (y := (⟨"java/util/List", "copyOf", "(Ljava/util/Collection;)Ljava/util/List;"⟩ : MethodName)) (W := 0) (w119 hw) (w120 hw) (w121 hw) (w122 hw) (by decide) (X12.payM (sf := []) (rmCoL1 l Z a0 hw hEL zc O2 P5 de kde OD AD em OM el ee kee OL XL FL AE mr MR u d kd e0 h0 X12.old Pr4 Pr5 Pr6 Pr7 Pr8 Pr9) sf0 (w122 hw) (w121 hw) (by decide) (by decide)) rfl (by rw [hml]; rfl) (argsL := [(.ref u)]) (rest := []) (lenOf pd10 rfl) rfl rfl (by show 2 * 0 + _ ≤ _; exact Nat.le_of_eq rfl) (hb hby d17_5) (by decide) (by decide) fun T14 h14 vm14 v14 X14 C14 z14 q14 => ?_
  obtain ⟨a14, rfl, K14, g14_0, g14_1, g14_2, g14_3⟩ := q14
  have l15 := ltA g14_0.lt
  have l16 := ltA g14_1.lt
  have l17 := ltA g14_2.lt
  have A18 := X14.at
  show Gets p e below _ (T14.setTop (mkF m 8 #[.val (.ref x), .val (.ref u), .val (.ref w)] [(.ref a14)]))
  refine Gets.via (fun _ k => (XS.astoreN A18 hx rfl (hb hby d17_8) rfl rfl (l' := #[.val (.ref x), .val (.ref a14), .val (.ref w)]) rfl (XS.aloadN A18 hx rfl (hb hby d17_9) rfl rfl k))) ?_
  show Gets p e below _ (T14.setTop (mkF m 10 #[.val (.ref x), .val (.ref a14), .val (.ref w)] [(.ref w)]))
  have f19 : Fld Z h14 w "java/util/ArrayList" "size" "I" (.int (0 : Int32)) := Pr11.keep K14 nin0
  have f20 : Exa Z h14 w "java/util/ArrayList" := Pr10.keep K14
  refine X14.callS (y := (⟨"java/util/List", "copyOf", "(Ljava/util/Collection;)Ljava/util/List;"⟩ : MethodName)) (W := 0) (w119 hw) (w120 hw) (w121 hw) (w122 hw) (by decide) (X14.payM (sf := []) (rmCoL0 l Z a0 hw hEL zc O2 P5 de kde OD AD em OM el ee kee OL XL FL AE mr MR w h14 X14.old f20 f19) sf0 (w122 hw) (w121 hw) (by decide) (by decide)) rfl (by rw [hml]; rfl) (argsL := [(.ref w)]) (rest := []) (lenOf pd10 rfl) rfl rfl (by show 2 * 0 + _ ≤ _; exact Nat.le_of_eq rfl) (hb hby d17_10) (by decide) (by decide) fun T21 h21 vm21 v21 X21 C21 z21 q21 => ?_
  obtain ⟨rfl, K21⟩ := q21
  rw [K21] at X21 C21
  have A22 := X21.at
  show Gets p e below _ (T21.setTop (mkF m 13 #[.val (.ref x), .val (.ref a14), .val (.ref w)] [(.ref el)]))
  refine Gets.via (fun _ k => (XS.astoreN A22 hx rfl (hb hby d17_13) rfl rfl (l' := #[.val (.ref x), .val (.ref a14), .val (.ref el)]) rfl (XS.aloadN A22 hx rfl (hb hby d17_14) rfl rfl k))) ?_
  show Gets p e below _ (T21.setTop (mkF m 15 #[.val (.ref x), .val (.ref a14), .val (.ref el)] [(.ref a14)]))
  refine X21.callF (xi := (⟨"java/util/List", "isEmpty", "()Z"⟩ : MethodName)) (y := (⟨"java/util/ImmutableCollections$List12", "isEmpty", "()Z"⟩ : MethodName)) (W := 0) (w208 hw) (w209 hw) (w210 hw) rfl (w211 hw) (w212 hw) (w213 hw) (w214 hw) (w215 hw) (by decide) (X21.payM (sf := []) (rmL12e l Z a0 hw hEL zc O2 P5 de kde OD AD em OM el ee kee OL XL FL AE mr MR a14 h14 X21.old ) sf0 (w216 hw) (w177 hw) (by decide) (by decide)) g14_0 rfl (by rw [hml]; rfl) (argsL := []) (rest := []) (lenOf pd3 rfl) rfl rfl (by show 2 * 0 + _ ≤ _; exact Nat.le_of_eq rfl) (hb hby d17_15) (by decide) (by decide) fun T23 h23 vm23 v23 X23 C23 z23 q23 => ?_
  obtain ⟨rfl, K23⟩ := q23
  rw [K23] at X23 C23
  have A24 := X23.at
  show Gets p e below _ (T23.setTop (mkF m 20 #[.val (.ref x), .val (.ref a14), .val (.ref el)] [(.int (0 : Int32))]))
  refine Gets.via (fun _ k => (XS.ifYes A24 hx rfl (pc0 := 20) (pc' := 42) rfl (hb hby d17_20) rfl (Jvm.Free.XT.i0_eq_t (by decide)) (by decide) (by decide) k)) ?_
  show Gets p e below _ (T23.setTop (mkF m 42 #[.val (.ref x), .val (.ref a14), .val (.ref el)] []))
  refine Gets.via (fun _ k => (XS.aloadN A24 hx rfl (hb hby d17_42) rfl rfl (XS.aloadN A24 hx rfl (hb hby d17_43) rfl rfl k))) ?_
  show Gets p e below _ (T23.setTop (mkF m 44 #[.val (.ref x), .val (.ref a14), .val (.ref el)] [(.ref a14), (.ref x)]))
  have f26 : Fld Z h14 x "org/holdfast/model/Designation" "enumeration" "Ljava/util/List;" .null := Pr1.keep K14 nin0
  have f27 : Exa Z h14 x "org/holdfast/model/Designation" := Pr0.keep K14
  refine X23.putF (host := "") (Or.inl (w217 hw)) Via.refl f26 f27 (Or.inr ⟨(w218 hw), rfl, hnm⟩) (w113 hw) (ty := (.object "java/util/List")) (by decide) rfl rfl (leA (by omega)) (Safe.exa X23.hZ.alike f27 (by decide) (by decide)) rfl rfl (hb hby d17_44) fun T25 h25 X25 C25 W25 F25 Z25 => ?_
  have z25 := W25.size
  have A28 := X25.at
  show Gets p e below _ (T25.setTop (mkF m 47 #[.val (.ref x), .val (.ref a14), .val (.ref el)] []))
  refine Gets.via (fun _ k => (XS.aloadN A28 hx rfl (hb hby d17_47) rfl rfl (XS.aloadN A28 hx rfl (hb hby d17_48) rfl rfl k))) ?_
  show Gets p e below _ (T25.setTop (mkF m 49 #[.val (.ref x), .val (.ref a14), .val (.ref el)] [(.ref el), (.ref x)]))
  have f30 : Fld Z h14 x "org/holdfast/model/Designation" "chronology" "Ljava/util/List;" .null := Pr2.keep K14 nin0
  have f31 : Fld Z h25 x "org/holdfast/model/Designation" "chronology" "Ljava/util/List;" .null := f30.other W25 (Or.inr (slot_ne (t := (.object "java/util/List")) (t' := (.object "java/util/List")) (Or.inr (w220 hw)) (Or.inr (w218 hw)) (by decide) (by decide) (by decide)))
  refine X25.putF (host := "") (Or.inl (w219 hw)) Via.refl f31 Z25 (Or.inr ⟨(w220 hw), rfl, hnm⟩) (w113 hw) (ty := (.object "java/util/List")) (by decide) rfl rfl (leA (by omega)) (Safe.exa X25.hZ.alike Z25 (by decide) (by decide)) rfl rfl (hb hby d17_49) fun T29 h29 X29 C29 W29 F29 Z29 => ?_
  have z29 := W29.size
  have A32 := X29.at
  show Gets p e below _ (T29.setTop (mkF m 52 #[.val (.ref x), .val (.ref a14), .val (.ref el)] []))
  exact X29.retV hret (hb hby d17_52) (by decide) (by decide) ⟨rfl, ((((Keep.refl h0 [x]).trans K14 all0).wr W25 (Or.inl (List.mem_of_getElem? (i := 0) rfl))).wr W29 (Or.inl (List.mem_of_getElem? (i := 0) rfl))), Z29⟩
abbrev RrmLNe : Room := { frames := 0, cells := 0, slots := 0, locals := 0 }
def QrmLNe (Z : State) (de : Addr) (el : Addr) (em : Addr) (h0 : Heap) (v : Option Value) (h : Heap) : Prop := v = some (.int (1 : Int32)) ∧ h = h0
set_option maxRecDepth 65536 in
set_option maxHeartbeats 40000000 in
theorem rmLNe (l : Launch) (Z : State) (a0 : Array Value) (hw : ∀ d ∈ tables_1, d.before a0 Z = true) (hEL : EW Z a0 ([] : List (String × Nat))) (zc : Int32) (O2 : Sta Z Z.heap "java/lang/String" "COMPACT_STRINGS" "Z" (.int zc)) (P5 : ¬ zc = 0) (de : Addr) (kde : ClassId) (OD : Sta Z Z.heap "java/util/ArrayList" "DEFAULTCAPACITY_EMPTY_ELEMENTDATA" "[Ljava/lang/Object;" (.ref de)) (AD : Arv Z Z.heap de kde (.object "java/lang/Object") (0 : Int32) [] .null) (em : Addr) (OM : Sta Z Z.heap "java/util/ImmutableCollections" "EMPTY" "Ljava/lang/Object;" (.ref em)) (el ee : Addr) (kee : ClassId) (OL : Sta Z Z.heap "java/util/ImmutableCollections" "EMPTY_LIST" "Ljava/util/ImmutableCollections$ListN;" (.ref el)) (XL : Exa Z Z.heap el "java/util/ImmutableCollections$ListN") (FL : Fld Z Z.heap el "java/util/ImmutableCollections$ListN" "elements" "[Ljava/lang/Object;" (.ref ee)) (AE : Arv Z Z.heap ee kee (.object "java/lang/Object") (0 : Int32) [] .null) (mr : Addr) (MR : Mir Z "[Ljava/lang/Object;" mr)  (h0 : Heap) (O0 : Old Z Z.heap.size h0)  : Met l Z ([] : List (String × Nat)) (⟨"java/util/ImmutableCollections$ListN", "isEmpty", "()Z"⟩ : MethodName) jdk_45_method_2_code 1 (some .boolean) [] RrmLNe [] #[(.ref el)] h0 (QrmLNe Z de el em h0) := by
  refine Met.start (a0 := a0) (Ls := #[.val (.ref el)]) pn32 hEL O0 (fun m => by first | (simp [entryFrame, mkF, argsToLocals, Value.category]; done) | rfl) ?_
  intro p e s m below meth cc T0 vm0 X0 sf0_ hby hml hret hnm
  have hx := X0.hx
  have zz := X0.ge
  have A0 := X0.at
  show Gets p e below _ (T0.setTop (mkF m 0 #[.val (.ref el)] []))
  refine Gets.via (fun _ k => (XS.aloadN A0 hx rfl (hb hby d32_0) rfl rfl k)) ?_
  show Gets p e below _ (T0.setTop (mkF m 1 #[.val (.ref el)] [(.ref el)]))
  have f2 : Fld Z h0 el "java/util/ImmutableCollections$ListN" "elements" "[Ljava/lang/Object;" (.ref ee) := FL.ext X0.old.2
  refine X0.getF (host := "") (Or.inl (w228 hw)) Via.refl f2 rfl rfl (hb hby d32_1) fun T1 X1 => ?_
  have A3 := X1.at
  show Gets p e below _ (T1.setTop (mkF m 4 #[.val (.ref el)] [(.ref ee)]))
  have f4 : Arv Z h0 ee kee (.object "java/lang/Object") (0 : Int32) [] .null := AE.ext X1.old.2
  refine X1.alen f4 rfl rfl (hb hby d32_4) ?_
  show Gets p e below _ (T1.setTop (mkF m 5 #[.val (.ref el)] [(.int (0 : Int32))]))
  refine Gets.via (fun _ k => (XS.ifNo A3 hx rfl (hb hby d32_5) rfl (Jvm.Free.XT.i0_ne_f (by decide)) k)) ?_
  show Gets p e below _ (T1.setTop (mkF m 8 #[.val (.ref el)] []))
  refine Gets.via (fun _ k => (XS.iconst A3 hx rfl (hb hby d32_8) (XS.goto A3 hx rfl (pc0 := 9) (pc' := 13) rfl (hb hby d32_9) (by decide) (by decide) k))) ?_
  show Gets p e below _ (T1.setTop (mkF m 13 #[.val (.ref el)] [(.int (1 : Int32))]))
  exact X1.retI hret (by decide) (by simp) (hb hby d32_13) (by decide) (by decide) ⟨rfl, rfl⟩
abbrev RrmDesB : Room := { frames := 8, cells := 2, slots := 3, locals := 100 }
def QrmDesB (Z : State) (de : Addr) (el : Addr) (em : Addr) (x : Addr) (u : Addr) (w : Addr) (d : Addr) (kd : ClassId) (e0 : Addr) (h0 : Heap) (v : Option Value) (h : Heap) : Prop := v = none ∧ Keep h0 h [x] ∧ Exa Z h x "org/holdfast/model/Designation"
set_option maxRecDepth 65536 in
set_option maxHeartbeats 40000000 in
theorem rmDesB (l : Launch) (Z : State) (a0 : Array Value) (hw : ∀ d ∈ tables_1, d.before a0 Z = true) (hEL : EW Z a0 ([] : List (String × Nat))) (zc : Int32) (O2 : Sta Z Z.heap "java/lang/String" "COMPACT_STRINGS" "Z" (.int zc)) (P5 : ¬ zc = 0) (de : Addr) (kde : ClassId) (OD : Sta Z Z.heap "java/util/ArrayList" "DEFAULTCAPACITY_EMPTY_ELEMENTDATA" "[Ljava/lang/Object;" (.ref de)) (AD : Arv Z Z.heap de kde (.object "java/lang/Object") (0 : Int32) [] .null) (em : Addr) (OM : Sta Z Z.heap "java/util/ImmutableCollections" "EMPTY" "Ljava/lang/Object;" (.ref em)) (el ee : Addr) (kee : ClassId) (OL : Sta Z Z.heap "java/util/ImmutableCollections" "EMPTY_LIST" "Ljava/util/ImmutableCollections$ListN;" (.ref el)) (XL : Exa Z Z.heap el "java/util/ImmutableCollections$ListN") (FL : Fld Z Z.heap el "java/util/ImmutableCollections$ListN" "elements" "[Ljava/lang/Object;" (.ref ee)) (AE : Arv Z Z.heap ee kee (.object "java/lang/Object") (0 : Int32) [] .null) (mr : Addr) (MR : Mir Z "[Ljava/lang/Object;" mr) (x : Addr) (u : Addr) (w : Addr) (d : Addr) (kd : ClassId) (e0 : Addr) (h0 : Heap) (O0 : Old Z Z.heap.size h0) (Pr0 : Exa Z h0 x "org/holdfast/model/Designation") (Pr1 : Fld Z h0 x "org/holdfast/model/Designation" "enumeration" "Ljava/util/List;" .null) (Pr2 : Fld Z h0 x "org/holdfast/model/Designation" "chronology" "Ljava/util/List;" .null) (Pr3 : Z.heap.size ≤ x) (Pr4 : Exa Z h0 u "java/util/ArrayList") (Pr5 : Fld Z h0 u "java/util/ArrayList" "size" "I" (.int (1 : Int32))) (Pr6 : Fld Z h0 u "java/util/ArrayList" "elementData" "[Ljava/lang/Object;" (.ref d)) (Pr7 : Arv Z h0 d kd (.object "java/lang/Object") (10 : Int32) [(.ref e0), .null, .null, .null, .null, .null, .null, .null, .null, .null] .null) (Pr8 : Exa Z h0 d "[Ljava/lang/Object;") (Pr9 : Exa Z h0 e0 "org/holdfast/model/Level") (Pr10 : Exa Z h0 w "java/util/ArrayList") (Pr11 : Fld Z h0 w "java/util/ArrayList" "size" "I" (.int (0 : Int32))) : Met l Z ([] : List (String × Nat)) (⟨"org/holdfast/model/Designation", "<init>", "(Ljava/util/List;Ljava/util/List;)V"⟩ : MethodName) prog_21_method_1_code 3 (none) [] RrmDesB [] #[(.ref x), (.ref w), (.ref u)] h0 (QrmDesB Z de el em x u w d kd e0 h0) := by
  refine Met.start (a0 := a0) (Ls := #[.val (.ref x), .val (.ref w), .val (.ref u)]) pn17 hEL O0 (fun m => by first | (simp [entryFrame, mkF, argsToLocals, Value.category]; done) | rfl) ?_
  intro p e s m below meth cc T0 vm0 X0 sf0_ hby hml hret hnm
  have hx := X0.hx
  have zz := X0.ge
  have A0 := X0.at
  have l1 := ltA Pr0.lt
  have l2 := ltA Pr1.lt
  have l3 := ltA Pr2.lt
  have l4 := ltA Pr4.lt
  have l5 := ltA Pr5.lt
  have l6 := ltA Pr6.lt
  have l7 := ltA Pr7.lt
  have l8 := ltA Pr8.lt
  have l9 := ltA Pr9.lt
  have l10 := ltA Pr10.lt
  have l11 := ltA Pr11.lt
  show Gets p e below _ (T0.setTop (mkF m 0 #[.val (.ref x), .val (.ref w), .val (.ref u)] []))
  refine Gets.via (fun _ k => (XS.aloadN A0 hx rfl (hb hby d17_0) rfl rfl k)) ?_
  show Gets p e below _ (T0.setTop (mkF m 1 #[.val (.ref x), .val (.ref w), .val (.ref u)] [(.ref x)]))
  refine X0.callI (y := (⟨"java/lang/Record", "<init>", "()V"⟩ : MethodName)) (W := 0) rfl (w118 hw) (w41 hw) (w44 hw) (by decide) (X0.payM (sf := []) (rm7 l Z a0 hw hEL zc O2 P5 de kde OD AD em OM el ee kee OL XL FL AE mr MR x h0 X0.old ) sf0 (w44 hw) (w43 hw) (by decide) (by decide)) rfl (by rw [hml]; rfl) (a := x) (argsL := []) (rest := []) (lenOf pd0 rfl) rfl rfl (by show 2 * 0 + _ ≤ _; exact Nat.le_of_eq rfl) (hb hby d17_1) (by decide) (by decide) fun T12 h12 vm12 v12 X12 C12 z12 q12 => ?_
  obtain ⟨rfl, K12⟩ := q12
  rw [K12] at X12 C12
  have A13 := X12.at
  show Gets p e below _ (T12.setTop (mkF m 4 #[.val (.ref x), .val (.ref w), .val (.ref u)] []))
  refine Gets.via (fun _ k => (XS.aloadN A13 hx rfl (hb hby d17_4) rfl rfl k)) ?_
  show Gets p e below _ (T12.setTop (mkF m 5 #[.val (.ref x), .val (.ref w), .val (.ref u)] [(.ref w)]))
  refine X12.callS (y := (⟨"java/util/List", "copyOf", "(Ljava/util/Collection;)Ljava/util/List;"⟩ : MethodName)) (W := 0) (w119 hw) (w120 hw) (w121 hw) (w122 hw) (by decide) (X12.payM (sf := []) (rmCoL0 l Z a0 hw hEL zc O2 P5 de kde OD AD em OM el ee kee OL XL FL AE mr MR w h0 X12.old Pr10 Pr11) sf0 (w122 hw) (w121 hw) (by decide) (by decide)) rfl (by rw [hml]; rfl) (argsL := [(.ref w)]) (rest := []) (lenOf pd10 rfl) rfl rfl (by show 2 * 0 + _ ≤ _; exact Nat.le_of_eq rfl) (hb hby d17_5) (by decide) (by decide) fun T14 h14 vm14 v14 X14 C14 z14 q14 => ?_
  obtain ⟨rfl, K14⟩ := q14
  rw [K14] at X14 C14
  have A15 := X14.at
  show Gets p e below _ (T14.setTop (mkF m 8 #[.val (.ref x), .val (.ref w), .val (.ref u)] [(.ref el)]))
  refine Gets.via (fun _ k => (XS.astoreN A15 hx rfl (hb hby d17_8) rfl rfl (l' := #[.val (.ref x), .val (.ref el), .val (.ref u)]) rfl (XS.aloadN A15 hx rfl (hb hby d17_9) rfl rfl k))) ?_
  show Gets p e below _ (T14.setTop (mkF m 10 #[.val (.ref x), .val (.ref el), .val (.ref u)] [(.ref u)]))
  refine X14.callS (y := (⟨"java/util/List", "copyOf", "(Ljava/util/Collection;)Ljava/util/List;"⟩ : MethodName)) (W := 0) (w119 hw) (w120 hw) (w121 hw) (w122 hw) (by decide) (X14.payM (sf := []) (rmCoL1 l Z a0 hw hEL zc O2 P5 de kde OD AD em OM el ee kee OL XL FL AE mr MR u d kd e0 h0 X14.old Pr4 Pr5 Pr6 Pr7 Pr8 Pr9) sf0 (w122 hw) (w121 hw) (by decide) (by decide)) rfl (by rw [hml]; rfl) (argsL := [(.ref u)]) (rest := []) (lenOf pd10 rfl) rfl rfl (by show 2 * 0 + _ ≤ _; exact Nat.le_of_eq rfl) (hb hby d17_10) (by decide) (by decide) fun T16 h16 vm16 v16 X16 C16 z16 q16 => ?_
  obtain ⟨a16, rfl, K16, g16_0, g16_1, g16_2, g16_3⟩ := q16
  have l17 := ltA g16_0.lt
  have l18 := ltA g16_1.lt
  have l19 := ltA g16_2.lt
  have A20 := X16.at
  show Gets p e below _ (T16.setTop (mkF m 13 #[.val (.ref x), .val (.ref el), .val (.ref u)] [(.ref a16)]))
  refine Gets.via (fun _ k => (XS.astoreN A20 hx rfl (hb hby d17_13) rfl rfl (l' := #[.val (.ref x), .val (.ref el), .val (.ref a16)]) rfl (XS.aloadN A20 hx rfl (hb hby d17_14) rfl rfl k))) ?_
  show Gets p e below _ (T16.setTop (mkF m 15 #[.val (.ref x), .val (.ref el), .val (.ref a16)] [(.ref el)]))
  have f21 : Exa Z h16 el "java/util/ImmutableCollections$ListN" := XL.ext X16.old.2
  refine X16.callF (xi := (⟨"java/util/List", "isEmpty", "()Z"⟩ : MethodName)) (y := (⟨"java/util/ImmutableCollections$ListN", "isEmpty", "()Z"⟩ : MethodName)) (W := 0) (w208 hw) (w209 hw) (w210 hw) rfl (w221 hw) (w222 hw) (w223 hw) (w224 hw) (w225 hw) (by decide) (X16.payM (sf := []) (rmLNe l Z a0 hw hEL zc O2 P5 de kde OD AD em OM el ee kee OL XL FL AE mr MR  h16 X16.old ) sf0 (w227 hw) (w226 hw) (by decide) (by decide)) f21 rfl (by rw [hml]; rfl) (argsL := []) (rest := []) (lenOf pd3 rfl) rfl rfl (by show 2 * 0 + _ ≤ _; exact Nat.le_of_eq rfl) (hb hby d17_15) (by decide) (by decide) fun T22 h22 vm22 v22 X22 C22 z22 q22 => ?_
  obtain ⟨rfl, K22⟩ := q22
  rw [K22] at X22 C22
  have A23 := X22.at
  show Gets p e below _ (T22.setTop (mkF m 20 #[.val (.ref x), .val (.ref el), .val (.ref a16)] [(.int (1 : Int32))]))
  refine Gets.via (fun _ k => (XS.ifNo A23 hx rfl (hb hby d17_20) rfl (Jvm.Free.XT.i0_eq_f (by decide)) k)) ?_
  show Gets p e below _ (T22.setTop (mkF m 23 #[.val (.ref x), .val (.ref el), .val (.ref a16)] []))
  refine Gets.via (fun _ k => (XS.aloadN A23 hx rfl (hb hby d17_23) rfl rfl k)) ?_
  show Gets p e below _ (T22.setTop (mkF m 24 #[.val (.ref x), .val (.ref el), .val (.ref a16)] [(.ref a16)]))
  refine X22.callF (xi := (⟨"java/util/List", "isEmpty", "()Z"⟩ : MethodName)) (y := (⟨"java/util/ImmutableCollections$List12", "isEmpty", "()Z"⟩ : MethodName)) (W := 0) (w208 hw) (w209 hw) (w210 hw) rfl (w211 hw) (w212 hw) (w213 hw) (w214 hw) (w215 hw) (by decide) (X22.payM (sf := []) (rmL12e l Z a0 hw hEL zc O2 P5 de kde OD AD em OM el ee kee OL XL FL AE mr MR a16 h16 X22.old ) sf0 (w216 hw) (w177 hw) (by decide) (by decide)) g16_0 rfl (by rw [hml]; rfl) (argsL := []) (rest := []) (lenOf pd3 rfl) rfl rfl (by show 2 * 0 + _ ≤ _; exact Nat.le_of_eq rfl) (hb hby d17_24) (by decide) (by decide) fun T24 h24 vm24 v24 X24 C24 z24 q24 => ?_
  obtain ⟨rfl, K24⟩ := q24
  rw [K24] at X24 C24
  have A25 := X24.at
  show Gets p e below _ (T24.setTop (mkF m 29 #[.val (.ref x), .val (.ref el), .val (.ref a16)] [(.int (0 : Int32))]))
  refine Gets.via (fun _ k => (XS.ifYes A25 hx rfl (pc0 := 29) (pc' := 42) rfl (hb hby d17_29) rfl (Jvm.Free.XT.i0_eq_t (by decide)) (by decide) (by decide) k)) ?_
  show Gets p e below _ (T24.setTop (mkF m 42 #[.val (.ref x), .val (.ref el), .val (.ref a16)] []))
  refine Gets.via (fun _ k => (XS.aloadN A25 hx rfl (hb hby d17_42) rfl rfl (XS.aloadN A25 hx rfl (hb hby d17_43) rfl rfl k))) ?_
  show Gets p e below _ (T24.setTop (mkF m 44 #[.val (.ref x), .val (.ref el), .val (.ref a16)] [(.ref el), (.ref x)]))
  have f27 : Fld Z h16 x "org/holdfast/model/Designation" "enumeration" "Ljava/util/List;" .null := Pr1.keep K16 nin0
  have f28 : Exa Z h16 x "org/holdfast/model/Designation" := Pr0.keep K16
  refine X24.putF (host := "") (Or.inl (w217 hw)) Via.refl f27 f28 (Or.inr ⟨(w218 hw), rfl, hnm⟩) (w113 hw) (ty := (.object "java/util/List")) (by decide) rfl rfl (leA (by omega)) (Safe.exa X24.hZ.alike f28 (by decide) (by decide)) rfl rfl (hb hby d17_44) fun T26 h26 X26 C26 W26 F26 Z26 => ?_
  have z26 := W26.size
  have A29 := X26.at
  show Gets p e below _ (T26.setTop (mkF m 47 #[.val (.ref x), .val (.ref el), .val (.ref a16)] []))
  refine Gets.via (fun _ k => (XS.aloadN A29 hx rfl (hb hby d17_47) rfl rfl (XS.aloadN A29 hx rfl (hb hby d17_48) rfl rfl k))) ?_
  show Gets p e below _ (T26.setTop (mkF m 49 #[.val (.ref x), .val (.ref el), .val (.ref a16)] [(.ref a16), (.ref x)]))
  have f31 : Fld Z h16 x "org/holdfast/model/Designation" "chronology" "Ljava/util/List;" .null := Pr2.keep K16 nin0
  have f32 : Fld Z h26 x "org/holdfast/model/Designation" "chronology" "Ljava/util/List;" .null := f31.other W26 (Or.inr (slot_ne (t := (.object "java/util/List")) (t' := (.object "java/util/List")) (Or.inr (w220 hw)) (Or.inr (w218 hw)) (by decide) (by decide) (by decide)))
  refine X26.putF (host := "") (Or.inl (w219 hw)) Via.refl f32 Z26 (Or.inr ⟨(w220 hw), rfl, hnm⟩) (w113 hw) (ty := (.object "java/util/List")) (by decide) rfl rfl (leA (by omega)) (Safe.exa X26.hZ.alike Z26 (by decide) (by decide)) rfl rfl (hb hby d17_49) fun T30 h30 X30 C30 W30 F30 Z30 => ?_
  have z30 := W30.size
  have A33 := X30.at
  show Gets p e below _ (T30.setTop (mkF m 52 #[.val (.ref x), .val (.ref el), .val (.ref a16)] []))
  exact X30.retV hret (hb hby d17_52) (by decide) (by decide) ⟨rfl, ((((Keep.refl h0 [x]).trans K16 all0).wr W26 (Or.inl (List.mem_of_getElem? (i := 0) rfl))).wr W30 (Or.inl (List.mem_of_getElem? (i := 0) rfl))), Z30⟩
abbrev RrmEacNN : Room := { frames := 2, cells := 0, slots := 0, locals := 24 }
def QrmEacNN (Z : State) (de : Addr) (el : Addr) (em : Addr) (x : Addr) (d : Addr) (h0 : Heap) (v : Option Value) (h : Heap) : Prop := v = none ∧ Keep h0 h [x] ∧ Exa Z h x "org/holdfast/model/EnumerationAndChronology" ∧ Fld Z h x "org/holdfast/model/EnumerationAndChronology" "unitType" "Lorg/holdfast/model/UnitType;" .null ∧ Fld Z h x "org/holdfast/model/EnumerationAndChronology" "note" "Ljava/lang/String;" .null ∧ Fld Z h x "org/holdfast/model/EnumerationAndChronology" "text" "Ljava/lang/String;" .null ∧ Fld Z h x "org/holdfast/model/EnumerationAndChronology" "designation" "Lorg/holdfast/model/Designation;" (.ref d) ∧ Fld Z h x "org/holdfast/model/EnumerationAndChronology" "ending" "Lorg/holdfast/model/Designation;" .null
set_option maxRecDepth 65536 in
set_option maxHeartbeats 40000000 in
theorem rmEacNN (l : Launch) (Z : State) (a0 : Array Value) (hw : ∀ d ∈ tables_1, d.before a0 Z = true) (hEL : EW Z a0 ([] : List (String × Nat))) (zc : Int32) (O2 : Sta Z Z.heap "java/lang/String" "COMPACT_STRINGS" "Z" (.int zc)) (P5 : ¬ zc = 0) (de : Addr) (kde : ClassId) (OD : Sta Z Z.heap "java/util/ArrayList" "DEFAULTCAPACITY_EMPTY_ELEMENTDATA" "[Ljava/lang/Object;" (.ref de)) (AD : Arv Z Z.heap de kde (.object "java/lang/Object") (0 : Int32) [] .null) (em : Addr) (OM : Sta Z Z.heap "java/util/ImmutableCollections" "EMPTY" "Ljava/lang/Object;" (.ref em)) (el ee : Addr) (kee : ClassId) (OL : Sta Z Z.heap "java/util/ImmutableCollections" "EMPTY_LIST" "Ljava/util/ImmutableCollections$ListN;" (.ref el)) (XL : Exa Z Z.heap el "java/util/ImmutableCollections$ListN") (FL : Fld Z Z.heap el "java/util/ImmutableCollections$ListN" "elements" "[Ljava/lang/Object;" (.ref ee)) (AE : Arv Z Z.heap ee kee (.object "java/lang/Object") (0 : Int32) [] .null) (mr : Addr) (MR : Mir Z "[Ljava/lang/Object;" mr) (x : Addr) (d : Addr) (h0 : Heap) (O0 : Old Z Z.heap.size h0) (Pr0 : Exa Z h0 x "org/holdfast/model/EnumerationAndChronology") (Pr1 : Fld Z h0 x "org/holdfast/model/EnumerationAndChronology" "unitType" "Lorg/holdfast/model/UnitType;" .null) (Pr2 : Fld Z h0 x "org/holdfast/model/EnumerationAndChronology" "note" "Ljava/lang/String;" .null) (Pr3 : Fld Z h0 x "org/holdfast/model/EnumerationAndChronology" "text" "Ljava/lang/String;" .null) (Pr4 : Fld Z h0 x "org/holdfast/model/EnumerationAndChronology" "designation" "Lorg/holdfast/model/Designation;" .null) (Pr5 : Fld Z h0 x "org/holdfast/model/EnumerationAndChronology" "ending" "Lorg/holdfast/model/Designation;" .null) (Pr6 : Z.heap.size ≤ x) : Met l Z ([] : List (String × Nat)) (⟨"org/holdfast/model/EnumerationAndChronology", "<init>", "(Lorg/holdfast/model/UnitType;Ljava/lang/String;Ljava/lang/String;Lorg/holdfast/model/Designation;Lorg/holdfast/model/Designation;)V"⟩ : MethodName) prog_29_method_1_code 6 (none) [] RrmEacNN [] #[(.ref x), .null, .null, .null, (.ref d), .null] h0 (QrmEacNN Z de el em x d h0) := by
  refine Met.start (a0 := a0) (Ls := #[.val (.ref x), .val .null, .val .null, .val .null, .val (.ref d), .val .null]) pn34 hEL O0 (fun m => by first | (simp [entryFrame, mkF, argsToLocals, Value.category]; done) | rfl) ?_
  intro p e s m below meth cc T0 vm0 X0 sf0_ hby hml hret hnm
  have hx := X0.hx
  have zz := X0.ge
  have A0 := X0.at
  have l1 := ltA Pr0.lt
  have l2 := ltA Pr1.lt
  have l3 := ltA Pr2.lt
  have l4 := ltA Pr3.lt
  have l5 := ltA Pr4.lt
  have l6 := ltA Pr5.lt
  show Gets p e below _ (T0.setTop (mkF m 0 #[.val (.ref x), .val .null, .val .null, .val .null, .val (.ref d), .val .null] []))
  refine Gets.via (fun _ k => (XS.aloadN A0 hx rfl (hb hby d34_0) rfl rfl k)) ?_
  show Gets p e below _ (T0.setTop (mkF m 1 #[.val (.ref x), .val .null, .val .null, .val .null, .val (.ref d), .val .null] [(.ref x)]))
  refine X0.callI (y := (⟨"java/lang/Record", "<init>", "()V"⟩ : MethodName)) (W := 0) rfl (w243 hw) (w41 hw) (w44 hw) (by decide) (X0.payM (sf := []) (rm7 l Z a0 hw hEL zc O2 P5 de kde OD AD em OM el ee kee OL XL FL AE mr MR x h0 X0.old ) sf0 (w44 hw) (w43 hw) (by decide) (by decide)) rfl (by rw [hml]; rfl) (a := x) (argsL := []) (rest := []) (lenOf pd0 rfl) rfl rfl (by show 2 * 0 + _ ≤ _; exact Nat.le_of_eq rfl) (hb hby d34_1) (by decide) (by decide) fun T7 h7 vm7 v7 X7 C7 z7 q7 => ?_
  obtain ⟨rfl, K7⟩ := q7
  rw [K7] at X7 C7
  have A8 := X7.at
  show Gets p e below _ (T7.setTop (mkF m 4 #[.val (.ref x), .val .null, .val .null, .val .null, .val (.ref d), .val .null] []))
  refine Gets.via (fun _ k => (XS.aloadN A8 hx rfl (hb hby d34_4) rfl rfl (XS.ifnonnullNo A8 hx rfl (hb hby d34_5) rfl k))) ?_
  show Gets p e below _ (T7.setTop (mkF m 8 #[.val (.ref x), .val .null, .val .null, .val .null, .val (.ref d), .val .null] []))
  refine Gets.via (fun _ k => (XS.iconst A8 hx rfl (hb hby d34_8) (XS.goto A8 hx rfl (pc0 := 9) (pc' := 13) rfl (hb hby d34_9) (by decide) (by decide) k))) ?_
  show Gets p e below _ (T7.setTop (mkF m 13 #[.val (.ref x), .val .null, .val .null, .val .null, .val (.ref d), .val .null] [(.int (1 : Int32))]))
  refine Gets.via (fun _ k => (XS.aload A8 hx rfl (hb hby d34_13) rfl rfl (XS.ifnonnullYes A8 hx rfl (pc0 := 15) (pc' := 22) rfl (hb hby d34_15) rfl (by decide) (by decide) k))) ?_
  show Gets p e below _ (T7.setTop (mkF m 22 #[.val (.ref x), .val .null, .val .null, .val .null, .val (.ref d), .val .null] [(.int (1 : Int32))]))
  refine Gets.via (fun _ k => (XS.iconst A8 hx rfl (hb hby d34_22) (XS.icmpYes A8 hx rfl (pc0 := 23) (pc' := 36) rfl (hb hby d34_23) rfl (Jvm.Free.XT.ii_ne_t (by decide)) (by decide) (by decide) k))) ?_
  show Gets p e below _ (T7.setTop (mkF m 36 #[.val (.ref x), .val .null, .val .null, .val .null, .val (.ref d), .val .null] []))
  refine Gets.via (fun _ k => (XS.aload A8 hx rfl (hb hby d34_36) rfl rfl (XS.ifnullYes A8 hx rfl (pc0 := 38) (pc' := 56) rfl (hb hby d34_38) rfl (by decide) (by decide) k))) ?_
  show Gets p e below _ (T7.setTop (mkF m 56 #[.val (.ref x), .val .null, .val .null, .val .null, .val (.ref d), .val .null] []))
  refine Gets.via (fun _ k => (XS.aloadN A8 hx rfl (hb hby d34_56) rfl rfl (XS.aloadN A8 hx rfl (hb hby d34_57) rfl rfl k))) ?_
  show Gets p e below _ (T7.setTop (mkF m 58 #[.val (.ref x), .val .null, .val .null, .val .null, .val (.ref d), .val .null] [.null, (.ref x)]))
  refine X7.putF (host := "") (Or.inl (w244 hw)) Via.refl Pr1 Pr0 (Or.inr ⟨(w245 hw), rfl, hnm⟩) (w235 hw) (ty := (.object "org/holdfast/model/UnitType")) (by decide) rfl rfl (leA (by omega)) (Safe.exa X7.hZ.alike Pr0 (by decide) (by decide)) rfl rfl (hb hby d34_58) fun T9 h9 X9 C9 W9 F9 Z9 => ?_
  have z9 := W9.size
  have A10 := X9.at
  show Gets p e below _ (T9.setTop (mkF m 61 #[.val (.ref x), .val .null, .val .null, .val .null, .val (.ref d), .val .null] []))
  refine Gets.via (fun _ k => (XS.aloadN A10 hx rfl (hb hby d34_61) rfl rfl (XS.aloadN A10 hx rfl (hb hby d34_62) rfl rfl k))) ?_
  show Gets p e below _ (T9.setTop (mkF m 63 #[.val (.ref x), .val .null, .val .null, .val .null, .val (.ref d), .val .null] [.null, (.ref x)]))
  have f12 : Fld Z h9 x "org/holdfast/model/EnumerationAndChronology" "note" "Ljava/lang/String;" .null := Pr2.other W9 (Or.inr (slot_ne (t := (.object "java/lang/String")) (t' := (.object "org/holdfast/model/UnitType")) (Or.inr (w247 hw)) (Or.inr (w245 hw)) (by decide) (by decide) (by decide)))
  refine X9.putF (host := "") (Or.inl (w246 hw)) Via.refl f12 Z9 (Or.inr ⟨(w247 hw), rfl, hnm⟩) (w235 hw) (ty := (.object "java/lang/String")) (by decide) rfl rfl (leA (by omega)) (Safe.exa X9.hZ.alike Z9 (by decide) (by decide)) rfl rfl (hb hby d34_63) fun T11 h11 X11 C11 W11 F11 Z11 => ?_
  have z11 := W11.size
  have A13 := X11.at
  show Gets p e below _ (T11.setTop (mkF m 66 #[.val (.ref x), .val .null, .val .null, .val .null, .val (.ref d), .val .null] []))
  refine Gets.via (fun _ k => (XS.aloadN A13 hx rfl (hb hby d34_66) rfl rfl (XS.aloadN A13 hx rfl (hb hby d34_67) rfl rfl k))) ?_
  show Gets p e below _ (T11.setTop (mkF m 68 #[.val (.ref x), .val .null, .val .null, .val .null, .val (.ref d), .val .null] [.null, (.ref x)]))
  have f15 : Fld Z h9 x "org/holdfast/model/EnumerationAndChronology" "text" "Ljava/lang/String;" .null := Pr3.other W9 (Or.inr (slot_ne (t := (.object "java/lang/String")) (t' := (.object "org/holdfast/model/UnitType")) (Or.inr (w249 hw)) (Or.inr (w245 hw)) (by decide) (by decide) (by decide)))
  have f16 : Fld Z h11 x "org/holdfast/model/EnumerationAndChronology" "text" "Ljava/lang/String;" .null := f15.other W11 (Or.inr (slot_ne (t := (.object "java/lang/String")) (t' := (.object "java/lang/String")) (Or.inr (w249 hw)) (Or.inr (w247 hw)) (by decide) (by decide) (by decide)))
  refine X11.putF (host := "") (Or.inl (w248 hw)) Via.refl f16 Z11 (Or.inr ⟨(w249 hw), rfl, hnm⟩) (w235 hw) (ty := (.object "java/lang/String")) (by decide) rfl rfl (leA (by omega)) (Safe.exa X11.hZ.alike Z11 (by decide) (by decide)) rfl rfl (hb hby d34_68) fun T14 h14 X14 C14 W14 F14 Z14 => ?_
  have z14 := W14.size
  have A17 := X14.at
  show Gets p e below _ (T14.setTop (mkF m 71 #[.val (.ref x), .val .null, .val .null, .val .null, .val (.ref d), .val .null] []))
  refine Gets.via (fun _ k => (XS.aloadN A17 hx rfl (hb hby d34_71) rfl rfl (XS.aload A17 hx rfl (hb hby d34_72) rfl rfl k))) ?_
  show Gets p e below _ (T14.setTop (mkF m 74 #[.val (.ref x), .val .null, .val .null, .val .null, .val (.ref d), .val .null] [(.ref d), (.ref x)]))
  have f19 : Fld Z h9 x "org/holdfast/model/EnumerationAndChronology" "designation" "Lorg/holdfast/model/Designation;" .null := Pr4.other W9 (Or.inr (slot_ne (t := (.object "org/holdfast/model/Designation")) (t' := (.object "org/holdfast/model/UnitType")) (Or.inr (w251 hw)) (Or.inr (w245 hw)) (by decide) (by decide) (by decide)))
  have f20 : Fld Z h11 x "org/holdfast/model/EnumerationAndChronology" "designation" "Lorg/holdfast/model/Designation;" .null := f19.other W11 (Or.inr (slot_ne (t := (.object "org/holdfast/model/Designation")) (t' := (.object "java/lang/String")) (Or.inr (w251 hw)) (Or.inr (w247 hw)) (by decide) (by decide) (by decide)))
  have f21 : Fld Z h14 x "org/holdfast/model/EnumerationAndChronology" "designation" "Lorg/holdfast/model/Designation;" .null := f20.other W14 (Or.inr (slot_ne (t := (.object "org/holdfast/model/Designation")) (t' := (.object "java/lang/String")) (Or.inr (w251 hw)) (Or.inr (w249 hw)) (by decide) (by decide) (by decide)))
  refine X14.putF (host := "") (Or.inl (w250 hw)) Via.refl f21 Z14 (Or.inr ⟨(w251 hw), rfl, hnm⟩) (w235 hw) (ty := (.object "org/holdfast/model/Designation")) (by decide) rfl rfl (leA (by omega)) (Safe.exa X14.hZ.alike Z14 (by decide) (by decide)) rfl rfl (hb hby d34_74) fun T18 h18 X18 C18 W18 F18 Z18 => ?_
  have z18 := W18.size
  have A22 := X18.at
  show Gets p e below _ (T18.setTop (mkF m 77 #[.val (.ref x), .val .null, .val .null, .val .null, .val (.ref d), .val .null] []))
  refine Gets.via (fun _ k => (XS.aloadN A22 hx rfl (hb hby d34_77) rfl rfl (XS.aload A22 hx rfl (hb hby d34_78) rfl rfl k))) ?_
  show Gets p e below _ (T18.setTop (mkF m 80 #[.val (.ref x), .val .null, .val .null, .val .null, .val (.ref d), .val .null] [.null, (.ref x)]))
  have f24 : Fld Z h9 x "org/holdfast/model/EnumerationAndChronology" "ending" "Lorg/holdfast/model/Designation;" .null := Pr5.other W9 (Or.inr (slot_ne (t := (.object "org/holdfast/model/Designation")) (t' := (.object "org/holdfast/model/UnitType")) (Or.inr (w253 hw)) (Or.inr (w245 hw)) (by decide) (by decide) (by decide)))
  have f25 : Fld Z h11 x "org/holdfast/model/EnumerationAndChronology" "ending" "Lorg/holdfast/model/Designation;" .null := f24.other W11 (Or.inr (slot_ne (t := (.object "org/holdfast/model/Designation")) (t' := (.object "java/lang/String")) (Or.inr (w253 hw)) (Or.inr (w247 hw)) (by decide) (by decide) (by decide)))
  have f26 : Fld Z h14 x "org/holdfast/model/EnumerationAndChronology" "ending" "Lorg/holdfast/model/Designation;" .null := f25.other W14 (Or.inr (slot_ne (t := (.object "org/holdfast/model/Designation")) (t' := (.object "java/lang/String")) (Or.inr (w253 hw)) (Or.inr (w249 hw)) (by decide) (by decide) (by decide)))
  have f27 : Fld Z h18 x "org/holdfast/model/EnumerationAndChronology" "ending" "Lorg/holdfast/model/Designation;" .null := f26.other W18 (Or.inr (slot_ne (t := (.object "org/holdfast/model/Designation")) (t' := (.object "org/holdfast/model/Designation")) (Or.inr (w253 hw)) (Or.inr (w251 hw)) (by decide) (by decide) (by decide)))
  refine X18.putF (host := "") (Or.inl (w252 hw)) Via.refl f27 Z18 (Or.inr ⟨(w253 hw), rfl, hnm⟩) (w235 hw) (ty := (.object "org/holdfast/model/Designation")) (by decide) rfl rfl (leA (by omega)) (Safe.exa X18.hZ.alike Z18 (by decide) (by decide)) rfl rfl (hb hby d34_80) fun T23 h23 X23 C23 W23 F23 Z23 => ?_
  have z23 := W23.size
  have A28 := X23.at
  show Gets p e below _ (T23.setTop (mkF m 83 #[.val (.ref x), .val .null, .val .null, .val .null, .val (.ref d), .val .null] []))
  have f29 : Fld Z h11 x "org/holdfast/model/EnumerationAndChronology" "unitType" "Lorg/holdfast/model/UnitType;" .null := F9.other W11 (Or.inr (slot_ne (t := (.object "org/holdfast/model/UnitType")) (t' := (.object "java/lang/String")) (Or.inr (w245 hw)) (Or.inr (w247 hw)) (by decide) (by decide) (by decide)))
  have f30 : Fld Z h14 x "org/holdfast/model/EnumerationAndChronology" "unitType" "Lorg/holdfast/model/UnitType;" .null := f29.other W14 (Or.inr (slot_ne (t := (.object "org/holdfast/model/UnitType")) (t' := (.object "java/lang/String")) (Or.inr (w245 hw)) (Or.inr (w249 hw)) (by decide) (by decide) (by decide)))
  have f31 : Fld Z h18 x "org/holdfast/model/EnumerationAndChronology" "unitType" "Lorg/holdfast/model/UnitType;" .null := f30.other W18 (Or.inr (slot_ne (t := (.object "org/holdfast/model/UnitType")) (t' := (.object "org/holdfast/model/Designation")) (Or.inr (w245 hw)) (Or.inr (w251 hw)) (by decide) (by decide) (by decide)))
  have f32 : Fld Z h23 x "org/holdfast/model/EnumerationAndChronology" "unitType" "Lorg/holdfast/model/UnitType;" .null := f31.other W23 (Or.inr (slot_ne (t := (.object "org/holdfast/model/UnitType")) (t' := (.object "org/holdfast/model/Designation")) (Or.inr (w245 hw)) (Or.inr (w253 hw)) (by decide) (by decide) (by decide)))
  have f33 : Fld Z h14 x "org/holdfast/model/EnumerationAndChronology" "note" "Ljava/lang/String;" .null := F11.other W14 (Or.inr (slot_ne (t := (.object "java/lang/String")) (t' := (.object "java/lang/String")) (Or.inr (w247 hw)) (Or.inr (w249 hw)) (by decide) (by decide) (by decide)))
  have f34 : Fld Z h18 x "org/holdfast/model/EnumerationAndChronology" "note" "Ljava/lang/String;" .null := f33.other W18 (Or.inr (slot_ne (t := (.object "java/lang/String")) (t' := (.object "org/holdfast/model/Designation")) (Or.inr (w247 hw)) (Or.inr (w251 hw)) (by decide) (by decide) (by decide)))
  have f35 : Fld Z h23 x "org/holdfast/model/EnumerationAndChronology" "note" "Ljava/lang/String;" .null := f34.other W23 (Or.inr (slot_ne (t := (.object "java/lang/String")) (t' := (.object "org/holdfast/model/Designation")) (Or.inr (w247 hw)) (Or.inr (w253 hw)) (by decide) (by decide) (by decide)))
  have f36 : Fld Z h18 x "org/holdfast/model/EnumerationAndChronology" "text" "Ljava/lang/String;" .null := F14.other W18 (Or.inr (slot_ne (t := (.object "java/lang/String")) (t' := (.object "org/holdfast/model/Designation")) (Or.inr (w249 hw)) (Or.inr (w251 hw)) (by decide) (by decide) (by decide)))
  have f37 : Fld Z h23 x "org/holdfast/model/EnumerationAndChronology" "text" "Ljava/lang/String;" .null := f36.other W23 (Or.inr (slot_ne (t := (.object "java/lang/String")) (t' := (.object "org/holdfast/model/Designation")) (Or.inr (w249 hw)) (Or.inr (w253 hw)) (by decide) (by decide) (by decide)))
  have f38 : Fld Z h23 x "org/holdfast/model/EnumerationAndChronology" "designation" "Lorg/holdfast/model/Designation;" (.ref d) := F18.other W23 (Or.inr (slot_ne (t := (.object "org/holdfast/model/Designation")) (t' := (.object "org/holdfast/model/Designation")) (Or.inr (w251 hw)) (Or.inr (w253 hw)) (by decide) (by decide) (by decide)))
  exact X23.retV hret (hb hby d34_83) (by decide) (by decide) ⟨rfl, ((((((Keep.refl h0 [x]).wr W9 (Or.inl (List.mem_of_getElem? (i := 0) rfl))).wr W11 (Or.inl (List.mem_of_getElem? (i := 0) rfl))).wr W14 (Or.inl (List.mem_of_getElem? (i := 0) rfl))).wr W18 (Or.inl (List.mem_of_getElem? (i := 0) rfl))).wr W23 (Or.inl (List.mem_of_getElem? (i := 0) rfl))), Z23, f32, f35, f37, f38, F23⟩
abbrev RrmCodedNN : Room := { frames := 3, cells := 3, slots := 53, locals := 42 }
def QrmCodedNN (Z : State) (de : Addr) (el : Addr) (em : Addr) (d : Addr) (h0 : Heap) (v : Option Value) (h : Heap) : Prop := ∃ (a : Addr), v = some (.ref a) ∧ Keep h0 h [] ∧ Exa Z h a "org/holdfast/model/EnumerationAndChronology" ∧ Fld Z h a "org/holdfast/model/EnumerationAndChronology" "unitType" "Lorg/holdfast/model/UnitType;" .null ∧ Fld Z h a "org/holdfast/model/EnumerationAndChronology" "note" "Ljava/lang/String;" .null ∧ Fld Z h a "org/holdfast/model/EnumerationAndChronology" "text" "Ljava/lang/String;" .null ∧ Fld Z h a "org/holdfast/model/EnumerationAndChronology" "designation" "Lorg/holdfast/model/Designation;" (.ref d) ∧ Fld Z h a "org/holdfast/model/EnumerationAndChronology" "ending" "Lorg/holdfast/model/Designation;" .null
set_option maxRecDepth 65536 in
set_option maxHeartbeats 40000000 in
theorem rmCodedNN (l : Launch) (Z : State) (a0 : Array Value) (hw : ∀ d ∈ tables_1, d.before a0 Z = true) (hEL : EW Z a0 ([] : List (String × Nat))) (zc : Int32) (O2 : Sta Z Z.heap "java/lang/String" "COMPACT_STRINGS" "Z" (.int zc)) (P5 : ¬ zc = 0) (de : Addr) (kde : ClassId) (OD : Sta Z Z.heap "java/util/ArrayList" "DEFAULTCAPACITY_EMPTY_ELEMENTDATA" "[Ljava/lang/Object;" (.ref de)) (AD : Arv Z Z.heap de kde (.object "java/lang/Object") (0 : Int32) [] .null) (em : Addr) (OM : Sta Z Z.heap "java/util/ImmutableCollections" "EMPTY" "Ljava/lang/Object;" (.ref em)) (el ee : Addr) (kee : ClassId) (OL : Sta Z Z.heap "java/util/ImmutableCollections" "EMPTY_LIST" "Ljava/util/ImmutableCollections$ListN;" (.ref el)) (XL : Exa Z Z.heap el "java/util/ImmutableCollections$ListN") (FL : Fld Z Z.heap el "java/util/ImmutableCollections$ListN" "elements" "[Ljava/lang/Object;" (.ref ee)) (AE : Arv Z Z.heap ee kee (.object "java/lang/Object") (0 : Int32) [] .null) (mr : Addr) (MR : Mir Z "[Ljava/lang/Object;" mr) (d : Addr) (h0 : Heap) (O0 : Old Z Z.heap.size h0) (Pr0 : Exa Z h0 d "org/holdfast/model/Designation") : Met l Z ([] : List (String × Nat)) (⟨"org/holdfast/model/EnumerationAndChronology", "coded", "(Lorg/holdfast/model/UnitType;Ljava/lang/String;Lorg/holdfast/model/Designation;Lorg/holdfast/model/Designation;)Lorg/holdfast/model/EnumerationAndChronology;"⟩ : MethodName) prog_29_method_3_code 4 (some (.object "org/holdfast/model/EnumerationAndChronology")) [] RrmCodedNN [] #[.null, .null, (.ref d), .null] h0 (QrmCodedNN Z de el em d h0) := by
  refine Met.start (a0 := a0) (Ls := #[.val .null, .val .null, .val (.ref d), .val .null]) pn33 hEL O0 (fun m => by first | (simp [entryFrame, mkF, argsToLocals, Value.category]; done) | rfl) ?_
  intro p e s m below meth cc T0 vm0 X0 sf0_ hby hml hret hnm
  have hx := X0.hx
  have zz := X0.ge
  have A0 := X0.at
  have l1 := ltA Pr0.lt
  show Gets p e below _ (T0.setTop (mkF m 0 #[.val .null, .val .null, .val (.ref d), .val .null] []))
  refine X0.new (w234 hw) (w235 hw) (w232 hw) rfl (hb hby d33_0) (by decide) (by decide) fun T2 h2 a2 X2 C2 E2 g2 Z2 S2 D2 => ?_
  have z2 := E2.1
  have l2 := ltA Z2.lt
  have A3 := X2.at
  show Gets p e below _ (T2.setTop (mkF m 3 #[.val .null, .val .null, .val (.ref d), .val .null] [(.ref a2)]))
  refine Gets.via (fun _ k => (XS.dup A3 hx rfl (hb hby d33_3) rfl rfl (XS.aloadN A3 hx rfl (hb hby d33_4) rfl rfl (XS.aloadN A3 hx rfl (hb hby d33_5) rfl rfl (XS.aconstNull A3 hx rfl (hb hby d33_6) (XS.aloadN A3 hx rfl (hb hby d33_7) rfl rfl k)))))) ?_
  show Gets p e below _ (T2.setTop (mkF m 8 #[.val .null, .val .null, .val (.ref d), .val .null] [(.ref d), .null, .null, .null, (.ref a2), (.ref a2)]))
  refine X2.ldcO (w236 hw) (wSt hw) rfl (hb hby d33_8) (n := 44) (by decide) (by decide) (by decide) (by decide) fun T4 h4 vm4 a4 X4 C4 E4 => ?_
  have z4 := E4.1
  have A5 := X4.at
  show Gets p e below _ (T4.setTop (mkF m 10 #[.val .null, .val .null, .val (.ref d), .val .null] [(.ref a4), (.ref d), .null, .null, .null, (.ref a2), (.ref a2)]))
  refine X4.callS (y := (⟨"java/util/Objects", "requireNonNull", "(Ljava/lang/Object;Ljava/lang/String;)Ljava/lang/Object;"⟩ : MethodName)) (W := 5) (w237 hw) (w48 hw) (w49 hw) (w50 hw) (by decide) (X4.payM (sf := []) (rm8 l Z a0 hw hEL zc O2 P5 de kde OD AD em OM el ee kee OL XL FL AE mr MR d a4 h4 X4.old ) sf0 (w50 hw) (w49 hw) (by decide) (by decide)) rfl (by rw [hml]; rfl) (argsL := [(.ref d), (.ref a4)]) (rest := [.null, .null, .null, (.ref a2), (.ref a2)]) (lenOf pd2 rfl) rfl rfl (by show 2 * 0 + _ ≤ _; exact Nat.le_of_eq rfl) (hb hby d33_10) (by decide) (by decide) fun T6 h6 vm6 v6 X6 C6 z6 q6 => ?_
  obtain ⟨rfl, K6⟩ := q6
  rw [K6] at X6 C6
  have A7 := X6.at
  show Gets p e below _ (T6.setTop (mkF m 13 #[.val .null, .val .null, .val (.ref d), .val .null] [(.ref d), .null, .null, .null, (.ref a2), (.ref a2)]))
  have f9 : Exa Z h2 d "org/holdfast/model/Designation" := Pr0.ext E2
  have f10 : Exa Z h4 d "org/holdfast/model/Designation" := f9.ext E4
  refine X6.cast (w238 hw) (Ins.self f10) rfl rfl (hb hby d33_13) fun T8 X8 => ?_
  have A11 := X8.at
  show Gets p e below _ (T8.setTop (mkF m 16 #[.val .null, .val .null, .val (.ref d), .val .null] [(.ref d), .null, .null, .null, (.ref a2), (.ref a2)]))
  refine Gets.via (fun _ k => (XS.aloadN A11 hx rfl (hb hby d33_16) rfl rfl k)) ?_
  show Gets p e below _ (T8.setTop (mkF m 17 #[.val .null, .val .null, .val (.ref d), .val .null] [.null, (.ref d), .null, .null, .null, (.ref a2), (.ref a2)]))
  have f12 : Exa Z h4 a2 "org/holdfast/model/EnumerationAndChronology" := Z2.ext E4
  have f13 : Fld Z h4 a2 "org/holdfast/model/EnumerationAndChronology" "unitType" "Lorg/holdfast/model/UnitType;" .null := (D2 (Or.inr (w245 hw)) (ty := (.object "org/holdfast/model/UnitType")) (by decide) : Fld Z h2 a2 "org/holdfast/model/EnumerationAndChronology" "unitType" "Lorg/holdfast/model/UnitType;" .null).ext E4
  have f14 : Fld Z h4 a2 "org/holdfast/model/EnumerationAndChronology" "note" "Ljava/lang/String;" .null := (D2 (Or.inr (w247 hw)) (ty := (.object "java/lang/String")) (by decide) : Fld Z h2 a2 "org/holdfast/model/EnumerationAndChronology" "note" "Ljava/lang/String;" .null).ext E4
  have f15 : Fld Z h4 a2 "org/holdfast/model/EnumerationAndChronology" "text" "Ljava/lang/String;" .null := (D2 (Or.inr (w249 hw)) (ty := (.object "java/lang/String")) (by decide) : Fld Z h2 a2 "org/holdfast/model/EnumerationAndChronology" "text" "Ljava/lang/String;" .null).ext E4
  have f16 : Fld Z h4 a2 "org/holdfast/model/EnumerationAndChronology" "designation" "Lorg/holdfast/model/Designation;" .null := (D2 (Or.inr (w251 hw)) (ty := (.object "org/holdfast/model/Designation")) (by decide) : Fld Z h2 a2 "org/holdfast/model/EnumerationAndChronology" "designation" "Lorg/holdfast/model/Designation;" .null).ext E4
  have f17 : Fld Z h4 a2 "org/holdfast/model/EnumerationAndChronology" "ending" "Lorg/holdfast/model/Designation;" .null := (D2 (Or.inr (w253 hw)) (ty := (.object "org/holdfast/model/Designation")) (by decide) : Fld Z h2 a2 "org/holdfast/model/EnumerationAndChronology" "ending" "Lorg/holdfast/model/Designation;" .null).ext E4
  refine X8.callI (y := (⟨"org/holdfast/model/EnumerationAndChronology", "<init>", "(Lorg/holdfast/model/UnitType;Ljava/lang/String;Ljava/lang/String;Lorg/holdfast/model/Designation;Lorg/holdfast/model/Designation;)V"⟩ : MethodName)) (W := 1) rfl (w240 hw) (w241 hw) (w242 hw) (by decide) (X8.payM (sf := []) (rmEacNN l Z a0 hw hEL zc O2 P5 de kde OD AD em OM el ee kee OL XL FL AE mr MR a2 d h4 X8.old f12 f13 f14 f15 f16 f17 (leA (by omega))) sf0 (w242 hw) (w232 hw) (by decide) (by decide)) rfl (by rw [hml]; rfl) (a := a2) (argsL := [.null, .null, .null, (.ref d), .null]) (rest := [(.ref a2)]) (lenOf pd12 rfl) rfl rfl (by show 2 * 0 + _ ≤ _; exact Nat.le_of_eq rfl) (hb hby d33_17) (by decide) (by decide) fun T18 h18 vm18 v18 X18 C18 z18 q18 => ?_
  obtain ⟨rfl, K18, g18_0, g18_1, g18_2, g18_3, g18_4, g18_5⟩ := q18
  have l19 := ltA g18_0.lt
  have l20 := ltA g18_1.lt
  have l21 := ltA g18_2.lt
  have l22 := ltA g18_3.lt
  have l23 := ltA g18_4.lt
  have l24 := ltA g18_5.lt
  have A25 := X18.at
  show Gets p e below _ (T18.setTop (mkF m 20 #[.val .null, .val .null, .val (.ref d), .val .null] [(.ref a2)]))
  exact X18.retA hret rfl rfl rfl (hb hby d33_20) (by decide) (by decide) ⟨a2, rfl, ((((Keep.refl h0 []).ext E2).ext E4).trans K18 (allS (Or.inr (leA (by omega))) all0)), g18_0, g18_1, g18_2, g18_3, g18_4, g18_5⟩
abbrev RrmEacNR : Room := { frames := 2, cells := 0, slots := 0, locals := 24 }
def QrmEacNR (Z : State) (de : Addr) (el : Addr) (em : Addr) (x : Addr) (d : Addr) (g : Addr) (h0 : Heap) (v : Option Value) (h : Heap) : Prop := v = none ∧ Keep h0 h [x] ∧ Exa Z h x "org/holdfast/model/EnumerationAndChronology" ∧ Fld Z h x "org/holdfast/model/EnumerationAndChronology" "unitType" "Lorg/holdfast/model/UnitType;" .null ∧ Fld Z h x "org/holdfast/model/EnumerationAndChronology" "note" "Ljava/lang/String;" .null ∧ Fld Z h x "org/holdfast/model/EnumerationAndChronology" "text" "Ljava/lang/String;" .null ∧ Fld Z h x "org/holdfast/model/EnumerationAndChronology" "designation" "Lorg/holdfast/model/Designation;" (.ref d) ∧ Fld Z h x "org/holdfast/model/EnumerationAndChronology" "ending" "Lorg/holdfast/model/Designation;" (.ref g)
set_option maxRecDepth 65536 in
set_option maxHeartbeats 40000000 in
theorem rmEacNR (l : Launch) (Z : State) (a0 : Array Value) (hw : ∀ d ∈ tables_1, d.before a0 Z = true) (hEL : EW Z a0 ([] : List (String × Nat))) (zc : Int32) (O2 : Sta Z Z.heap "java/lang/String" "COMPACT_STRINGS" "Z" (.int zc)) (P5 : ¬ zc = 0) (de : Addr) (kde : ClassId) (OD : Sta Z Z.heap "java/util/ArrayList" "DEFAULTCAPACITY_EMPTY_ELEMENTDATA" "[Ljava/lang/Object;" (.ref de)) (AD : Arv Z Z.heap de kde (.object "java/lang/Object") (0 : Int32) [] .null) (em : Addr) (OM : Sta Z Z.heap "java/util/ImmutableCollections" "EMPTY" "Ljava/lang/Object;" (.ref em)) (el ee : Addr) (kee : ClassId) (OL : Sta Z Z.heap "java/util/ImmutableCollections" "EMPTY_LIST" "Ljava/util/ImmutableCollections$ListN;" (.ref el)) (XL : Exa Z Z.heap el "java/util/ImmutableCollections$ListN") (FL : Fld Z Z.heap el "java/util/ImmutableCollections$ListN" "elements" "[Ljava/lang/Object;" (.ref ee)) (AE : Arv Z Z.heap ee kee (.object "java/lang/Object") (0 : Int32) [] .null) (mr : Addr) (MR : Mir Z "[Ljava/lang/Object;" mr) (x : Addr) (d : Addr) (g : Addr) (h0 : Heap) (O0 : Old Z Z.heap.size h0) (Pr0 : Exa Z h0 x "org/holdfast/model/EnumerationAndChronology") (Pr1 : Fld Z h0 x "org/holdfast/model/EnumerationAndChronology" "unitType" "Lorg/holdfast/model/UnitType;" .null) (Pr2 : Fld Z h0 x "org/holdfast/model/EnumerationAndChronology" "note" "Ljava/lang/String;" .null) (Pr3 : Fld Z h0 x "org/holdfast/model/EnumerationAndChronology" "text" "Ljava/lang/String;" .null) (Pr4 : Fld Z h0 x "org/holdfast/model/EnumerationAndChronology" "designation" "Lorg/holdfast/model/Designation;" .null) (Pr5 : Fld Z h0 x "org/holdfast/model/EnumerationAndChronology" "ending" "Lorg/holdfast/model/Designation;" .null) (Pr6 : Z.heap.size ≤ x) : Met l Z ([] : List (String × Nat)) (⟨"org/holdfast/model/EnumerationAndChronology", "<init>", "(Lorg/holdfast/model/UnitType;Ljava/lang/String;Ljava/lang/String;Lorg/holdfast/model/Designation;Lorg/holdfast/model/Designation;)V"⟩ : MethodName) prog_29_method_1_code 6 (none) [] RrmEacNR [] #[(.ref x), .null, .null, .null, (.ref d), (.ref g)] h0 (QrmEacNR Z de el em x d g h0) := by
  refine Met.start (a0 := a0) (Ls := #[.val (.ref x), .val .null, .val .null, .val .null, .val (.ref d), .val (.ref g)]) pn34 hEL O0 (fun m => by first | (simp [entryFrame, mkF, argsToLocals, Value.category]; done) | rfl) ?_
  intro p e s m below meth cc T0 vm0 X0 sf0_ hby hml hret hnm
  have hx := X0.hx
  have zz := X0.ge
  have A0 := X0.at
  have l1 := ltA Pr0.lt
  have l2 := ltA Pr1.lt
  have l3 := ltA Pr2.lt
  have l4 := ltA Pr3.lt
  have l5 := ltA Pr4.lt
  have l6 := ltA Pr5.lt
  show Gets p e below _ (T0.setTop (mkF m 0 #[.val (.ref x), .val .null, .val .null, .val .null, .val (.ref d), .val (.ref g)] []))
  refine Gets.via (fun _ k => (XS.aloadN A0 hx rfl (hb hby d34_0) rfl rfl k)) ?_
  show Gets p e below _ (T0.setTop (mkF m 1 #[.val (.ref x), .val .null, .val .null, .val .null, .val (.ref d), .val (.ref g)] [(.ref x)]))
  refine X0.callI (y := (⟨"java/lang/Record", "<init>", "()V"⟩ : MethodName)) (W := 0) rfl (w243 hw) (w41 hw) (w44 hw) (by decide) (X0.payM (sf := []) (rm7 l Z a0 hw hEL zc O2 P5 de kde OD AD em OM el ee kee OL XL FL AE mr MR x h0 X0.old ) sf0 (w44 hw) (w43 hw) (by decide) (by decide)) rfl (by rw [hml]; rfl) (a := x) (argsL := []) (rest := []) (lenOf pd0 rfl) rfl rfl (by show 2 * 0 + _ ≤ _; exact Nat.le_of_eq rfl) (hb hby d34_1) (by decide) (by decide) fun T7 h7 vm7 v7 X7 C7 z7 q7 => ?_
  obtain ⟨rfl, K7⟩ := q7
  rw [K7] at X7 C7
  have A8 := X7.at
  show Gets p e below _ (T7.setTop (mkF m 4 #[.val (.ref x), .val .null, .val .null, .val .null, .val (.ref d), .val (.ref g)] []))
  refine Gets.via (fun _ k => (XS.aloadN A8 hx rfl (hb hby d34_4) rfl rfl (XS.ifnonnullNo A8 hx rfl (hb hby d34_5) rfl k))) ?_
  show Gets p e below _ (T7.setTop (mkF m 8 #[.val (.ref x), .val .null, .val .null, .val .null, .val (.ref d), .val (.ref g)] []))
  refine Gets.via (fun _ k => (XS.iconst A8 hx rfl (hb hby d34_8) (XS.goto A8 hx rfl (pc0 := 9) (pc' := 13) rfl (hb hby d34_9) (by decide) (by decide) k))) ?_
  show Gets p e below _ (T7.setTop (mkF m 13 #[.val (.ref x), .val .null, .val .null, .val .null, .val (.ref d), .val (.ref g)] [(.int (1 : Int32))]))
  refine Gets.via (fun _ k => (XS.aload A8 hx rfl (hb hby d34_13) rfl rfl (XS.ifnonnullYes A8 hx rfl (pc0 := 15) (pc' := 22) rfl (hb hby d34_15) rfl (by decide) (by decide) k))) ?_
  show Gets p e below _ (T7.setTop (mkF m 22 #[.val (.ref x), .val .null, .val .null, .val .null, .val (.ref d), .val (.ref g)] [(.int (1 : Int32))]))
  refine Gets.via (fun _ k => (XS.iconst A8 hx rfl (hb hby d34_22) (XS.icmpYes A8 hx rfl (pc0 := 23) (pc' := 36) rfl (hb hby d34_23) rfl (Jvm.Free.XT.ii_ne_t (by decide)) (by decide) (by decide) k))) ?_
  show Gets p e below _ (T7.setTop (mkF m 36 #[.val (.ref x), .val .null, .val .null, .val .null, .val (.ref d), .val (.ref g)] []))
  refine Gets.via (fun _ k => (XS.aload A8 hx rfl (hb hby d34_36) rfl rfl (XS.ifnullNo A8 hx rfl (hb hby d34_38) rfl k))) ?_
  show Gets p e below _ (T7.setTop (mkF m 41 #[.val (.ref x), .val .null, .val .null, .val .null, .val (.ref d), .val (.ref g)] []))
  refine Gets.via (fun _ k => (XS.aload A8 hx rfl (hb hby d34_41) rfl rfl (XS.ifnonnullYes A8 hx rfl (pc0 := 43) (pc' := 56) rfl (hb hby d34_43) rfl (by decide) (by decide) k))) ?_
  show Gets p e below _ (T7.setTop (mkF m 56 #[.val (.ref x), .val .null, .val .null, .val .null, .val (.ref d), .val (.ref g)] []))
  refine Gets.via (fun _ k => (XS.aloadN A8 hx rfl (hb hby d34_56) rfl rfl (XS.aloadN A8 hx rfl (hb hby d34_57) rfl rfl k))) ?_
  show Gets p e below _ (T7.setTop (mkF m 58 #[.val (.ref x), .val .null, .val .null, .val .null, .val (.ref d), .val (.ref g)] [.null, (.ref x)]))
  refine X7.putF (host := "") (Or.inl (w244 hw)) Via.refl Pr1 Pr0 (Or.inr ⟨(w245 hw), rfl, hnm⟩) (w235 hw) (ty := (.object "org/holdfast/model/UnitType")) (by decide) rfl rfl (leA (by omega)) (Safe.exa X7.hZ.alike Pr0 (by decide) (by decide)) rfl rfl (hb hby d34_58) fun T9 h9 X9 C9 W9 F9 Z9 => ?_
  have z9 := W9.size
  have A10 := X9.at
  show Gets p e below _ (T9.setTop (mkF m 61 #[.val (.ref x), .val .null, .val .null, .val .null, .val (.ref d), .val (.ref g)] []))
  refine Gets.via (fun _ k => (XS.aloadN A10 hx rfl (hb hby d34_61) rfl rfl (XS.aloadN A10 hx rfl (hb hby d34_62) rfl rfl k))) ?_
  show Gets p e below _ (T9.setTop (mkF m 63 #[.val (.ref x), .val .null, .val .null, .val .null, .val (.ref d), .val (.ref g)] [.null, (.ref x)]))
  have f12 : Fld Z h9 x "org/holdfast/model/EnumerationAndChronology" "note" "Ljava/lang/String;" .null := Pr2.other W9 (Or.inr (slot_ne (t := (.object "java/lang/String")) (t' := (.object "org/holdfast/model/UnitType")) (Or.inr (w247 hw)) (Or.inr (w245 hw)) (by decide) (by decide) (by decide)))
  refine X9.putF (host := "") (Or.inl (w246 hw)) Via.refl f12 Z9 (Or.inr ⟨(w247 hw), rfl, hnm⟩) (w235 hw) (ty := (.object "java/lang/String")) (by decide) rfl rfl (leA (by omega)) (Safe.exa X9.hZ.alike Z9 (by decide) (by decide)) rfl rfl (hb hby d34_63) fun T11 h11 X11 C11 W11 F11 Z11 => ?_
  have z11 := W11.size
  have A13 := X11.at
  show Gets p e below _ (T11.setTop (mkF m 66 #[.val (.ref x), .val .null, .val .null, .val .null, .val (.ref d), .val (.ref g)] []))
  refine Gets.via (fun _ k => (XS.aloadN A13 hx rfl (hb hby d34_66) rfl rfl (XS.aloadN A13 hx rfl (hb hby d34_67) rfl rfl k))) ?_
  show Gets p e below _ (T11.setTop (mkF m 68 #[.val (.ref x), .val .null, .val .null, .val .null, .val (.ref d), .val (.ref g)] [.null, (.ref x)]))
  have f15 : Fld Z h9 x "org/holdfast/model/EnumerationAndChronology" "text" "Ljava/lang/String;" .null := Pr3.other W9 (Or.inr (slot_ne (t := (.object "java/lang/String")) (t' := (.object "org/holdfast/model/UnitType")) (Or.inr (w249 hw)) (Or.inr (w245 hw)) (by decide) (by decide) (by decide)))
  have f16 : Fld Z h11 x "org/holdfast/model/EnumerationAndChronology" "text" "Ljava/lang/String;" .null := f15.other W11 (Or.inr (slot_ne (t := (.object "java/lang/String")) (t' := (.object "java/lang/String")) (Or.inr (w249 hw)) (Or.inr (w247 hw)) (by decide) (by decide) (by decide)))
  refine X11.putF (host := "") (Or.inl (w248 hw)) Via.refl f16 Z11 (Or.inr ⟨(w249 hw), rfl, hnm⟩) (w235 hw) (ty := (.object "java/lang/String")) (by decide) rfl rfl (leA (by omega)) (Safe.exa X11.hZ.alike Z11 (by decide) (by decide)) rfl rfl (hb hby d34_68) fun T14 h14 X14 C14 W14 F14 Z14 => ?_
  have z14 := W14.size
  have A17 := X14.at
  show Gets p e below _ (T14.setTop (mkF m 71 #[.val (.ref x), .val .null, .val .null, .val .null, .val (.ref d), .val (.ref g)] []))
  refine Gets.via (fun _ k => (XS.aloadN A17 hx rfl (hb hby d34_71) rfl rfl (XS.aload A17 hx rfl (hb hby d34_72) rfl rfl k))) ?_
  show Gets p e below _ (T14.setTop (mkF m 74 #[.val (.ref x), .val .null, .val .null, .val .null, .val (.ref d), .val (.ref g)] [(.ref d), (.ref x)]))
  have f19 : Fld Z h9 x "org/holdfast/model/EnumerationAndChronology" "designation" "Lorg/holdfast/model/Designation;" .null := Pr4.other W9 (Or.inr (slot_ne (t := (.object "org/holdfast/model/Designation")) (t' := (.object "org/holdfast/model/UnitType")) (Or.inr (w251 hw)) (Or.inr (w245 hw)) (by decide) (by decide) (by decide)))
  have f20 : Fld Z h11 x "org/holdfast/model/EnumerationAndChronology" "designation" "Lorg/holdfast/model/Designation;" .null := f19.other W11 (Or.inr (slot_ne (t := (.object "org/holdfast/model/Designation")) (t' := (.object "java/lang/String")) (Or.inr (w251 hw)) (Or.inr (w247 hw)) (by decide) (by decide) (by decide)))
  have f21 : Fld Z h14 x "org/holdfast/model/EnumerationAndChronology" "designation" "Lorg/holdfast/model/Designation;" .null := f20.other W14 (Or.inr (slot_ne (t := (.object "org/holdfast/model/Designation")) (t' := (.object "java/lang/String")) (Or.inr (w251 hw)) (Or.inr (w249 hw)) (by decide) (by decide) (by decide)))
  refine X14.putF (host := "") (Or.inl (w250 hw)) Via.refl f21 Z14 (Or.inr ⟨(w251 hw), rfl, hnm⟩) (w235 hw) (ty := (.object "org/holdfast/model/Designation")) (by decide) rfl rfl (leA (by omega)) (Safe.exa X14.hZ.alike Z14 (by decide) (by decide)) rfl rfl (hb hby d34_74) fun T18 h18 X18 C18 W18 F18 Z18 => ?_
  have z18 := W18.size
  have A22 := X18.at
  show Gets p e below _ (T18.setTop (mkF m 77 #[.val (.ref x), .val .null, .val .null, .val .null, .val (.ref d), .val (.ref g)] []))
  refine Gets.via (fun _ k => (XS.aloadN A22 hx rfl (hb hby d34_77) rfl rfl (XS.aload A22 hx rfl (hb hby d34_78) rfl rfl k))) ?_
  show Gets p e below _ (T18.setTop (mkF m 80 #[.val (.ref x), .val .null, .val .null, .val .null, .val (.ref d), .val (.ref g)] [(.ref g), (.ref x)]))
  have f24 : Fld Z h9 x "org/holdfast/model/EnumerationAndChronology" "ending" "Lorg/holdfast/model/Designation;" .null := Pr5.other W9 (Or.inr (slot_ne (t := (.object "org/holdfast/model/Designation")) (t' := (.object "org/holdfast/model/UnitType")) (Or.inr (w253 hw)) (Or.inr (w245 hw)) (by decide) (by decide) (by decide)))
  have f25 : Fld Z h11 x "org/holdfast/model/EnumerationAndChronology" "ending" "Lorg/holdfast/model/Designation;" .null := f24.other W11 (Or.inr (slot_ne (t := (.object "org/holdfast/model/Designation")) (t' := (.object "java/lang/String")) (Or.inr (w253 hw)) (Or.inr (w247 hw)) (by decide) (by decide) (by decide)))
  have f26 : Fld Z h14 x "org/holdfast/model/EnumerationAndChronology" "ending" "Lorg/holdfast/model/Designation;" .null := f25.other W14 (Or.inr (slot_ne (t := (.object "org/holdfast/model/Designation")) (t' := (.object "java/lang/String")) (Or.inr (w253 hw)) (Or.inr (w249 hw)) (by decide) (by decide) (by decide)))
  have f27 : Fld Z h18 x "org/holdfast/model/EnumerationAndChronology" "ending" "Lorg/holdfast/model/Designation;" .null := f26.other W18 (Or.inr (slot_ne (t := (.object "org/holdfast/model/Designation")) (t' := (.object "org/holdfast/model/Designation")) (Or.inr (w253 hw)) (Or.inr (w251 hw)) (by decide) (by decide) (by decide)))
  refine X18.putF (host := "") (Or.inl (w252 hw)) Via.refl f27 Z18 (Or.inr ⟨(w253 hw), rfl, hnm⟩) (w235 hw) (ty := (.object "org/holdfast/model/Designation")) (by decide) rfl rfl (leA (by omega)) (Safe.exa X18.hZ.alike Z18 (by decide) (by decide)) rfl rfl (hb hby d34_80) fun T23 h23 X23 C23 W23 F23 Z23 => ?_
  have z23 := W23.size
  have A28 := X23.at
  show Gets p e below _ (T23.setTop (mkF m 83 #[.val (.ref x), .val .null, .val .null, .val .null, .val (.ref d), .val (.ref g)] []))
  have f29 : Fld Z h11 x "org/holdfast/model/EnumerationAndChronology" "unitType" "Lorg/holdfast/model/UnitType;" .null := F9.other W11 (Or.inr (slot_ne (t := (.object "org/holdfast/model/UnitType")) (t' := (.object "java/lang/String")) (Or.inr (w245 hw)) (Or.inr (w247 hw)) (by decide) (by decide) (by decide)))
  have f30 : Fld Z h14 x "org/holdfast/model/EnumerationAndChronology" "unitType" "Lorg/holdfast/model/UnitType;" .null := f29.other W14 (Or.inr (slot_ne (t := (.object "org/holdfast/model/UnitType")) (t' := (.object "java/lang/String")) (Or.inr (w245 hw)) (Or.inr (w249 hw)) (by decide) (by decide) (by decide)))
  have f31 : Fld Z h18 x "org/holdfast/model/EnumerationAndChronology" "unitType" "Lorg/holdfast/model/UnitType;" .null := f30.other W18 (Or.inr (slot_ne (t := (.object "org/holdfast/model/UnitType")) (t' := (.object "org/holdfast/model/Designation")) (Or.inr (w245 hw)) (Or.inr (w251 hw)) (by decide) (by decide) (by decide)))
  have f32 : Fld Z h23 x "org/holdfast/model/EnumerationAndChronology" "unitType" "Lorg/holdfast/model/UnitType;" .null := f31.other W23 (Or.inr (slot_ne (t := (.object "org/holdfast/model/UnitType")) (t' := (.object "org/holdfast/model/Designation")) (Or.inr (w245 hw)) (Or.inr (w253 hw)) (by decide) (by decide) (by decide)))
  have f33 : Fld Z h14 x "org/holdfast/model/EnumerationAndChronology" "note" "Ljava/lang/String;" .null := F11.other W14 (Or.inr (slot_ne (t := (.object "java/lang/String")) (t' := (.object "java/lang/String")) (Or.inr (w247 hw)) (Or.inr (w249 hw)) (by decide) (by decide) (by decide)))
  have f34 : Fld Z h18 x "org/holdfast/model/EnumerationAndChronology" "note" "Ljava/lang/String;" .null := f33.other W18 (Or.inr (slot_ne (t := (.object "java/lang/String")) (t' := (.object "org/holdfast/model/Designation")) (Or.inr (w247 hw)) (Or.inr (w251 hw)) (by decide) (by decide) (by decide)))
  have f35 : Fld Z h23 x "org/holdfast/model/EnumerationAndChronology" "note" "Ljava/lang/String;" .null := f34.other W23 (Or.inr (slot_ne (t := (.object "java/lang/String")) (t' := (.object "org/holdfast/model/Designation")) (Or.inr (w247 hw)) (Or.inr (w253 hw)) (by decide) (by decide) (by decide)))
  have f36 : Fld Z h18 x "org/holdfast/model/EnumerationAndChronology" "text" "Ljava/lang/String;" .null := F14.other W18 (Or.inr (slot_ne (t := (.object "java/lang/String")) (t' := (.object "org/holdfast/model/Designation")) (Or.inr (w249 hw)) (Or.inr (w251 hw)) (by decide) (by decide) (by decide)))
  have f37 : Fld Z h23 x "org/holdfast/model/EnumerationAndChronology" "text" "Ljava/lang/String;" .null := f36.other W23 (Or.inr (slot_ne (t := (.object "java/lang/String")) (t' := (.object "org/holdfast/model/Designation")) (Or.inr (w249 hw)) (Or.inr (w253 hw)) (by decide) (by decide) (by decide)))
  have f38 : Fld Z h23 x "org/holdfast/model/EnumerationAndChronology" "designation" "Lorg/holdfast/model/Designation;" (.ref d) := F18.other W23 (Or.inr (slot_ne (t := (.object "org/holdfast/model/Designation")) (t' := (.object "org/holdfast/model/Designation")) (Or.inr (w251 hw)) (Or.inr (w253 hw)) (by decide) (by decide) (by decide)))
  exact X23.retV hret (hb hby d34_83) (by decide) (by decide) ⟨rfl, ((((((Keep.refl h0 [x]).wr W9 (Or.inl (List.mem_of_getElem? (i := 0) rfl))).wr W11 (Or.inl (List.mem_of_getElem? (i := 0) rfl))).wr W14 (Or.inl (List.mem_of_getElem? (i := 0) rfl))).wr W18 (Or.inl (List.mem_of_getElem? (i := 0) rfl))).wr W23 (Or.inl (List.mem_of_getElem? (i := 0) rfl))), Z23, f32, f35, f37, f38, F23⟩
abbrev RrmCodedNR : Room := { frames := 3, cells := 3, slots := 53, locals := 42 }
def QrmCodedNR (Z : State) (de : Addr) (el : Addr) (em : Addr) (d : Addr) (g : Addr) (h0 : Heap) (v : Option Value) (h : Heap) : Prop := ∃ (a : Addr), v = some (.ref a) ∧ Keep h0 h [] ∧ Exa Z h a "org/holdfast/model/EnumerationAndChronology" ∧ Fld Z h a "org/holdfast/model/EnumerationAndChronology" "unitType" "Lorg/holdfast/model/UnitType;" .null ∧ Fld Z h a "org/holdfast/model/EnumerationAndChronology" "note" "Ljava/lang/String;" .null ∧ Fld Z h a "org/holdfast/model/EnumerationAndChronology" "text" "Ljava/lang/String;" .null ∧ Fld Z h a "org/holdfast/model/EnumerationAndChronology" "designation" "Lorg/holdfast/model/Designation;" (.ref d) ∧ Fld Z h a "org/holdfast/model/EnumerationAndChronology" "ending" "Lorg/holdfast/model/Designation;" (.ref g)
set_option maxRecDepth 65536 in
set_option maxHeartbeats 40000000 in
theorem rmCodedNR (l : Launch) (Z : State) (a0 : Array Value) (hw : ∀ d ∈ tables_1, d.before a0 Z = true) (hEL : EW Z a0 ([] : List (String × Nat))) (zc : Int32) (O2 : Sta Z Z.heap "java/lang/String" "COMPACT_STRINGS" "Z" (.int zc)) (P5 : ¬ zc = 0) (de : Addr) (kde : ClassId) (OD : Sta Z Z.heap "java/util/ArrayList" "DEFAULTCAPACITY_EMPTY_ELEMENTDATA" "[Ljava/lang/Object;" (.ref de)) (AD : Arv Z Z.heap de kde (.object "java/lang/Object") (0 : Int32) [] .null) (em : Addr) (OM : Sta Z Z.heap "java/util/ImmutableCollections" "EMPTY" "Ljava/lang/Object;" (.ref em)) (el ee : Addr) (kee : ClassId) (OL : Sta Z Z.heap "java/util/ImmutableCollections" "EMPTY_LIST" "Ljava/util/ImmutableCollections$ListN;" (.ref el)) (XL : Exa Z Z.heap el "java/util/ImmutableCollections$ListN") (FL : Fld Z Z.heap el "java/util/ImmutableCollections$ListN" "elements" "[Ljava/lang/Object;" (.ref ee)) (AE : Arv Z Z.heap ee kee (.object "java/lang/Object") (0 : Int32) [] .null) (mr : Addr) (MR : Mir Z "[Ljava/lang/Object;" mr) (d : Addr) (g : Addr) (h0 : Heap) (O0 : Old Z Z.heap.size h0) (Pr0 : Exa Z h0 d "org/holdfast/model/Designation") : Met l Z ([] : List (String × Nat)) (⟨"org/holdfast/model/EnumerationAndChronology", "coded", "(Lorg/holdfast/model/UnitType;Ljava/lang/String;Lorg/holdfast/model/Designation;Lorg/holdfast/model/Designation;)Lorg/holdfast/model/EnumerationAndChronology;"⟩ : MethodName) prog_29_method_3_code 4 (some (.object "org/holdfast/model/EnumerationAndChronology")) [] RrmCodedNR [] #[.null, .null, (.ref d), (.ref g)] h0 (QrmCodedNR Z de el em d g h0) := by
  refine Met.start (a0 := a0) (Ls := #[.val .null, .val .null, .val (.ref d), .val (.ref g)]) pn33 hEL O0 (fun m => by first | (simp [entryFrame, mkF, argsToLocals, Value.category]; done) | rfl) ?_
  intro p e s m below meth cc T0 vm0 X0 sf0_ hby hml hret hnm
  have hx := X0.hx
  have zz := X0.ge
  have A0 := X0.at
  have l1 := ltA Pr0.lt
  show Gets p e below _ (T0.setTop (mkF m 0 #[.val .null, .val .null, .val (.ref d), .val (.ref g)] []))
  refine X0.new (w234 hw) (w235 hw) (w232 hw) rfl (hb hby d33_0) (by decide) (by decide) fun T2 h2 a2 X2 C2 E2 g2 Z2 S2 D2 => ?_
  have z2 := E2.1
  have l2 := ltA Z2.lt
  have A3 := X2.at
  show Gets p e below _ (T2.setTop (mkF m 3 #[.val .null, .val .null, .val (.ref d), .val (.ref g)] [(.ref a2)]))
  refine Gets.via (fun _ k => (XS.dup A3 hx rfl (hb hby d33_3) rfl rfl (XS.aloadN A3 hx rfl (hb hby d33_4) rfl rfl (XS.aloadN A3 hx rfl (hb hby d33_5) rfl rfl (XS.aconstNull A3 hx rfl (hb hby d33_6) (XS.aloadN A3 hx rfl (hb hby d33_7) rfl rfl k)))))) ?_
  show Gets p e below _ (T2.setTop (mkF m 8 #[.val .null, .val .null, .val (.ref d), .val (.ref g)] [(.ref d), .null, .null, .null, (.ref a2), (.ref a2)]))
  refine X2.ldcO (w236 hw) (wSt hw) rfl (hb hby d33_8) (n := 44) (by decide) (by decide) (by decide) (by decide) fun T4 h4 vm4 a4 X4 C4 E4 => ?_
  have z4 := E4.1
  have A5 := X4.at
  show Gets p e below _ (T4.setTop (mkF m 10 #[.val .null, .val .null, .val (.ref d), .val (.ref g)] [(.ref a4), (.ref d), .null, .null, .null, (.ref a2), (.ref a2)]))
  refine X4.callS (y := (⟨"java/util/Objects", "requireNonNull", "(Ljava/lang/Object;Ljava/lang/String;)Ljava/lang/Object;"⟩ : MethodName)) (W := 5) (w237 hw) (w48 hw) (w49 hw) (w50 hw) (by decide) (X4.payM (sf := []) (rm8 l Z a0 hw hEL zc O2 P5 de kde OD AD em OM el ee kee OL XL FL AE mr MR d a4 h4 X4.old ) sf0 (w50 hw) (w49 hw) (by decide) (by decide)) rfl (by rw [hml]; rfl) (argsL := [(.ref d), (.ref a4)]) (rest := [.null, .null, .null, (.ref a2), (.ref a2)]) (lenOf pd2 rfl) rfl rfl (by show 2 * 0 + _ ≤ _; exact Nat.le_of_eq rfl) (hb hby d33_10) (by decide) (by decide) fun T6 h6 vm6 v6 X6 C6 z6 q6 => ?_
  obtain ⟨rfl, K6⟩ := q6
  rw [K6] at X6 C6
  have A7 := X6.at
  show Gets p e below _ (T6.setTop (mkF m 13 #[.val .null, .val .null, .val (.ref d), .val (.ref g)] [(.ref d), .null, .null, .null, (.ref a2), (.ref a2)]))
  have f9 : Exa Z h2 d "org/holdfast/model/Designation" := Pr0.ext E2
  have f10 : Exa Z h4 d "org/holdfast/model/Designation" := f9.ext E4
  refine X6.cast (w238 hw) (Ins.self f10) rfl rfl (hb hby d33_13) fun T8 X8 => ?_
  have A11 := X8.at
  show Gets p e below _ (T8.setTop (mkF m 16 #[.val .null, .val .null, .val (.ref d), .val (.ref g)] [(.ref d), .null, .null, .null, (.ref a2), (.ref a2)]))
  refine Gets.via (fun _ k => (XS.aloadN A11 hx rfl (hb hby d33_16) rfl rfl k)) ?_
  show Gets p e below _ (T8.setTop (mkF m 17 #[.val .null, .val .null, .val (.ref d), .val (.ref g)] [(.ref g), (.ref d), .null, .null, .null, (.ref a2), (.ref a2)]))
  have f12 : Exa Z h4 a2 "org/holdfast/model/EnumerationAndChronology" := Z2.ext E4
  have f13 : Fld Z h4 a2 "org/holdfast/model/EnumerationAndChronology" "unitType" "Lorg/holdfast/model/UnitType;" .null := (D2 (Or.inr (w245 hw)) (ty := (.object "org/holdfast/model/UnitType")) (by decide) : Fld Z h2 a2 "org/holdfast/model/EnumerationAndChronology" "unitType" "Lorg/holdfast/model/UnitType;" .null).ext E4
  have f14 : Fld Z h4 a2 "org/holdfast/model/EnumerationAndChronology" "note" "Ljava/lang/String;" .null := (D2 (Or.inr (w247 hw)) (ty := (.object "java/lang/String")) (by decide) : Fld Z h2 a2 "org/holdfast/model/EnumerationAndChronology" "note" "Ljava/lang/String;" .null).ext E4
  have f15 : Fld Z h4 a2 "org/holdfast/model/EnumerationAndChronology" "text" "Ljava/lang/String;" .null := (D2 (Or.inr (w249 hw)) (ty := (.object "java/lang/String")) (by decide) : Fld Z h2 a2 "org/holdfast/model/EnumerationAndChronology" "text" "Ljava/lang/String;" .null).ext E4
  have f16 : Fld Z h4 a2 "org/holdfast/model/EnumerationAndChronology" "designation" "Lorg/holdfast/model/Designation;" .null := (D2 (Or.inr (w251 hw)) (ty := (.object "org/holdfast/model/Designation")) (by decide) : Fld Z h2 a2 "org/holdfast/model/EnumerationAndChronology" "designation" "Lorg/holdfast/model/Designation;" .null).ext E4
  have f17 : Fld Z h4 a2 "org/holdfast/model/EnumerationAndChronology" "ending" "Lorg/holdfast/model/Designation;" .null := (D2 (Or.inr (w253 hw)) (ty := (.object "org/holdfast/model/Designation")) (by decide) : Fld Z h2 a2 "org/holdfast/model/EnumerationAndChronology" "ending" "Lorg/holdfast/model/Designation;" .null).ext E4
  refine X8.callI (y := (⟨"org/holdfast/model/EnumerationAndChronology", "<init>", "(Lorg/holdfast/model/UnitType;Ljava/lang/String;Ljava/lang/String;Lorg/holdfast/model/Designation;Lorg/holdfast/model/Designation;)V"⟩ : MethodName)) (W := 1) rfl (w240 hw) (w241 hw) (w242 hw) (by decide) (X8.payM (sf := []) (rmEacNR l Z a0 hw hEL zc O2 P5 de kde OD AD em OM el ee kee OL XL FL AE mr MR a2 d g h4 X8.old f12 f13 f14 f15 f16 f17 (leA (by omega))) sf0 (w242 hw) (w232 hw) (by decide) (by decide)) rfl (by rw [hml]; rfl) (a := a2) (argsL := [.null, .null, .null, (.ref d), (.ref g)]) (rest := [(.ref a2)]) (lenOf pd12 rfl) rfl rfl (by show 2 * 0 + _ ≤ _; exact Nat.le_of_eq rfl) (hb hby d33_17) (by decide) (by decide) fun T18 h18 vm18 v18 X18 C18 z18 q18 => ?_
  obtain ⟨rfl, K18, g18_0, g18_1, g18_2, g18_3, g18_4, g18_5⟩ := q18
  have l19 := ltA g18_0.lt
  have l20 := ltA g18_1.lt
  have l21 := ltA g18_2.lt
  have l22 := ltA g18_3.lt
  have l23 := ltA g18_4.lt
  have l24 := ltA g18_5.lt
  have A25 := X18.at
  show Gets p e below _ (T18.setTop (mkF m 20 #[.val .null, .val .null, .val (.ref d), .val (.ref g)] [(.ref a2)]))
  exact X18.retA hret rfl rfl rfl (hb hby d33_20) (by decide) (by decide) ⟨a2, rfl, ((((Keep.refl h0 []).ext E2).ext E4).trans K18 (allS (Or.inr (leA (by omega))) all0)), g18_0, g18_1, g18_2, g18_3, g18_4, g18_5⟩
abbrev RrmEacRN : Room := { frames := 2, cells := 0, slots := 0, locals := 24 }
def QrmEacRN (Z : State) (de : Addr) (el : Addr) (em : Addr) (x : Addr) (d : Addr) (nb : Addr) (h0 : Heap) (v : Option Value) (h : Heap) : Prop := v = none ∧ Keep h0 h [x] ∧ Exa Z h x "org/holdfast/model/EnumerationAndChronology" ∧ Fld Z h x "org/holdfast/model/EnumerationAndChronology" "unitType" "Lorg/holdfast/model/UnitType;" .null ∧ Fld Z h x "org/holdfast/model/EnumerationAndChronology" "note" "Ljava/lang/String;" (.ref nb) ∧ Fld Z h x "org/holdfast/model/EnumerationAndChronology" "text" "Ljava/lang/String;" .null ∧ Fld Z h x "org/holdfast/model/EnumerationAndChronology" "designation" "Lorg/holdfast/model/Designation;" (.ref d) ∧ Fld Z h x "org/holdfast/model/EnumerationAndChronology" "ending" "Lorg/holdfast/model/Designation;" .null
set_option maxRecDepth 65536 in
set_option maxHeartbeats 40000000 in
theorem rmEacRN (l : Launch) (Z : State) (a0 : Array Value) (hw : ∀ d ∈ tables_1, d.before a0 Z = true) (hEL : EW Z a0 ([] : List (String × Nat))) (zc : Int32) (O2 : Sta Z Z.heap "java/lang/String" "COMPACT_STRINGS" "Z" (.int zc)) (P5 : ¬ zc = 0) (de : Addr) (kde : ClassId) (OD : Sta Z Z.heap "java/util/ArrayList" "DEFAULTCAPACITY_EMPTY_ELEMENTDATA" "[Ljava/lang/Object;" (.ref de)) (AD : Arv Z Z.heap de kde (.object "java/lang/Object") (0 : Int32) [] .null) (em : Addr) (OM : Sta Z Z.heap "java/util/ImmutableCollections" "EMPTY" "Ljava/lang/Object;" (.ref em)) (el ee : Addr) (kee : ClassId) (OL : Sta Z Z.heap "java/util/ImmutableCollections" "EMPTY_LIST" "Ljava/util/ImmutableCollections$ListN;" (.ref el)) (XL : Exa Z Z.heap el "java/util/ImmutableCollections$ListN") (FL : Fld Z Z.heap el "java/util/ImmutableCollections$ListN" "elements" "[Ljava/lang/Object;" (.ref ee)) (AE : Arv Z Z.heap ee kee (.object "java/lang/Object") (0 : Int32) [] .null) (mr : Addr) (MR : Mir Z "[Ljava/lang/Object;" mr) (x : Addr) (d : Addr) (nb : Addr) (h0 : Heap) (O0 : Old Z Z.heap.size h0) (Pr0 : Exa Z h0 x "org/holdfast/model/EnumerationAndChronology") (Pr1 : Fld Z h0 x "org/holdfast/model/EnumerationAndChronology" "unitType" "Lorg/holdfast/model/UnitType;" .null) (Pr2 : Fld Z h0 x "org/holdfast/model/EnumerationAndChronology" "note" "Ljava/lang/String;" .null) (Pr3 : Fld Z h0 x "org/holdfast/model/EnumerationAndChronology" "text" "Ljava/lang/String;" .null) (Pr4 : Fld Z h0 x "org/holdfast/model/EnumerationAndChronology" "designation" "Lorg/holdfast/model/Designation;" .null) (Pr5 : Fld Z h0 x "org/holdfast/model/EnumerationAndChronology" "ending" "Lorg/holdfast/model/Designation;" .null) (Pr6 : Z.heap.size ≤ x) : Met l Z ([] : List (String × Nat)) (⟨"org/holdfast/model/EnumerationAndChronology", "<init>", "(Lorg/holdfast/model/UnitType;Ljava/lang/String;Ljava/lang/String;Lorg/holdfast/model/Designation;Lorg/holdfast/model/Designation;)V"⟩ : MethodName) prog_29_method_1_code 6 (none) [] RrmEacRN [] #[(.ref x), .null, (.ref nb), .null, (.ref d), .null] h0 (QrmEacRN Z de el em x d nb h0) := by
  refine Met.start (a0 := a0) (Ls := #[.val (.ref x), .val .null, .val (.ref nb), .val .null, .val (.ref d), .val .null]) pn34 hEL O0 (fun m => by first | (simp [entryFrame, mkF, argsToLocals, Value.category]; done) | rfl) ?_
  intro p e s m below meth cc T0 vm0 X0 sf0_ hby hml hret hnm
  have hx := X0.hx
  have zz := X0.ge
  have A0 := X0.at
  have l1 := ltA Pr0.lt
  have l2 := ltA Pr1.lt
  have l3 := ltA Pr2.lt
  have l4 := ltA Pr3.lt
  have l5 := ltA Pr4.lt
  have l6 := ltA Pr5.lt
  show Gets p e below _ (T0.setTop (mkF m 0 #[.val (.ref x), .val .null, .val (.ref nb), .val .null, .val (.ref d), .val .null] []))
  refine Gets.via (fun _ k => (XS.aloadN A0 hx rfl (hb hby d34_0) rfl rfl k)) ?_
  show Gets p e below _ (T0.setTop (mkF m 1 #[.val (.ref x), .val .null, .val (.ref nb), .val .null, .val (.ref d), .val .null] [(.ref x)]))
  refine X0.callI (y := (⟨"java/lang/Record", "<init>", "()V"⟩ : MethodName)) (W := 0) rfl (w243 hw) (w41 hw) (w44 hw) (by decide) (X0.payM (sf := []) (rm7 l Z a0 hw hEL zc O2 P5 de kde OD AD em OM el ee kee OL XL FL AE mr MR x h0 X0.old ) sf0 (w44 hw) (w43 hw) (by decide) (by decide)) rfl (by rw [hml]; rfl) (a := x) (argsL := []) (rest := []) (lenOf pd0 rfl) rfl rfl (by show 2 * 0 + _ ≤ _; exact Nat.le_of_eq rfl) (hb hby d34_1) (by decide) (by decide) fun T7 h7 vm7 v7 X7 C7 z7 q7 => ?_
  obtain ⟨rfl, K7⟩ := q7
  rw [K7] at X7 C7
  have A8 := X7.at
  show Gets p e below _ (T7.setTop (mkF m 4 #[.val (.ref x), .val .null, .val (.ref nb), .val .null, .val (.ref d), .val .null] []))
  refine Gets.via (fun _ k => (XS.aloadN A8 hx rfl (hb hby d34_4) rfl rfl (XS.ifnonnullNo A8 hx rfl (hb hby d34_5) rfl k))) ?_
  show Gets p e below _ (T7.setTop (mkF m 8 #[.val (.ref x), .val .null, .val (.ref nb), .val .null, .val (.ref d), .val .null] []))
  refine Gets.via (fun _ k => (XS.iconst A8 hx rfl (hb hby d34_8) (XS.goto A8 hx rfl (pc0 := 9) (pc' := 13) rfl (hb hby d34_9) (by decide) (by decide) k))) ?_
  show Gets p e below _ (T7.setTop (mkF m 13 #[.val (.ref x), .val .null, .val (.ref nb), .val .null, .val (.ref d), .val .null] [(.int (1 : Int32))]))
  refine Gets.via (fun _ k => (XS.aload A8 hx rfl (hb hby d34_13) rfl rfl (XS.ifnonnullYes A8 hx rfl (pc0 := 15) (pc' := 22) rfl (hb hby d34_15) rfl (by decide) (by decide) k))) ?_
  show Gets p e below _ (T7.setTop (mkF m 22 #[.val (.ref x), .val .null, .val (.ref nb), .val .null, .val (.ref d), .val .null] [(.int (1 : Int32))]))
  refine Gets.via (fun _ k => (XS.iconst A8 hx rfl (hb hby d34_22) (XS.icmpYes A8 hx rfl (pc0 := 23) (pc' := 36) rfl (hb hby d34_23) rfl (Jvm.Free.XT.ii_ne_t (by decide)) (by decide) (by decide) k))) ?_
  show Gets p e below _ (T7.setTop (mkF m 36 #[.val (.ref x), .val .null, .val (.ref nb), .val .null, .val (.ref d), .val .null] []))
  refine Gets.via (fun _ k => (XS.aload A8 hx rfl (hb hby d34_36) rfl rfl (XS.ifnullYes A8 hx rfl (pc0 := 38) (pc' := 56) rfl (hb hby d34_38) rfl (by decide) (by decide) k))) ?_
  show Gets p e below _ (T7.setTop (mkF m 56 #[.val (.ref x), .val .null, .val (.ref nb), .val .null, .val (.ref d), .val .null] []))
  refine Gets.via (fun _ k => (XS.aloadN A8 hx rfl (hb hby d34_56) rfl rfl (XS.aloadN A8 hx rfl (hb hby d34_57) rfl rfl k))) ?_
  show Gets p e below _ (T7.setTop (mkF m 58 #[.val (.ref x), .val .null, .val (.ref nb), .val .null, .val (.ref d), .val .null] [.null, (.ref x)]))
  refine X7.putF (host := "") (Or.inl (w244 hw)) Via.refl Pr1 Pr0 (Or.inr ⟨(w245 hw), rfl, hnm⟩) (w235 hw) (ty := (.object "org/holdfast/model/UnitType")) (by decide) rfl rfl (leA (by omega)) (Safe.exa X7.hZ.alike Pr0 (by decide) (by decide)) rfl rfl (hb hby d34_58) fun T9 h9 X9 C9 W9 F9 Z9 => ?_
  have z9 := W9.size
  have A10 := X9.at
  show Gets p e below _ (T9.setTop (mkF m 61 #[.val (.ref x), .val .null, .val (.ref nb), .val .null, .val (.ref d), .val .null] []))
  refine Gets.via (fun _ k => (XS.aloadN A10 hx rfl (hb hby d34_61) rfl rfl (XS.aloadN A10 hx rfl (hb hby d34_62) rfl rfl k))) ?_
  show Gets p e below _ (T9.setTop (mkF m 63 #[.val (.ref x), .val .null, .val (.ref nb), .val .null, .val (.ref d), .val .null] [(.ref nb), (.ref x)]))
  have f12 : Fld Z h9 x "org/holdfast/model/EnumerationAndChronology" "note" "Ljava/lang/String;" .null := Pr2.other W9 (Or.inr (slot_ne (t := (.object "java/lang/String")) (t' := (.object "org/holdfast/model/UnitType")) (Or.inr (w247 hw)) (Or.inr (w245 hw)) (by decide) (by decide) (by decide)))
  refine X9.putF (host := "") (Or.inl (w246 hw)) Via.refl f12 Z9 (Or.inr ⟨(w247 hw), rfl, hnm⟩) (w235 hw) (ty := (.object "java/lang/String")) (by decide) rfl rfl (leA (by omega)) (Safe.exa X9.hZ.alike Z9 (by decide) (by decide)) rfl rfl (hb hby d34_63) fun T11 h11 X11 C11 W11 F11 Z11 => ?_
  have z11 := W11.size
  have A13 := X11.at
  show Gets p e below _ (T11.setTop (mkF m 66 #[.val (.ref x), .val .null, .val (.ref nb), .val .null, .val (.ref d), .val .null] []))
  refine Gets.via (fun _ k => (XS.aloadN A13 hx rfl (hb hby d34_66) rfl rfl (XS.aloadN A13 hx rfl (hb hby d34_67) rfl rfl k))) ?_
  show Gets p e below _ (T11.setTop (mkF m 68 #[.val (.ref x), .val .null, .val (.ref nb), .val .null, .val (.ref d), .val .null] [.null, (.ref x)]))
  have f15 : Fld Z h9 x "org/holdfast/model/EnumerationAndChronology" "text" "Ljava/lang/String;" .null := Pr3.other W9 (Or.inr (slot_ne (t := (.object "java/lang/String")) (t' := (.object "org/holdfast/model/UnitType")) (Or.inr (w249 hw)) (Or.inr (w245 hw)) (by decide) (by decide) (by decide)))
  have f16 : Fld Z h11 x "org/holdfast/model/EnumerationAndChronology" "text" "Ljava/lang/String;" .null := f15.other W11 (Or.inr (slot_ne (t := (.object "java/lang/String")) (t' := (.object "java/lang/String")) (Or.inr (w249 hw)) (Or.inr (w247 hw)) (by decide) (by decide) (by decide)))
  refine X11.putF (host := "") (Or.inl (w248 hw)) Via.refl f16 Z11 (Or.inr ⟨(w249 hw), rfl, hnm⟩) (w235 hw) (ty := (.object "java/lang/String")) (by decide) rfl rfl (leA (by omega)) (Safe.exa X11.hZ.alike Z11 (by decide) (by decide)) rfl rfl (hb hby d34_68) fun T14 h14 X14 C14 W14 F14 Z14 => ?_
  have z14 := W14.size
  have A17 := X14.at
  show Gets p e below _ (T14.setTop (mkF m 71 #[.val (.ref x), .val .null, .val (.ref nb), .val .null, .val (.ref d), .val .null] []))
  refine Gets.via (fun _ k => (XS.aloadN A17 hx rfl (hb hby d34_71) rfl rfl (XS.aload A17 hx rfl (hb hby d34_72) rfl rfl k))) ?_
  show Gets p e below _ (T14.setTop (mkF m 74 #[.val (.ref x), .val .null, .val (.ref nb), .val .null, .val (.ref d), .val .null] [(.ref d), (.ref x)]))
  have f19 : Fld Z h9 x "org/holdfast/model/EnumerationAndChronology" "designation" "Lorg/holdfast/model/Designation;" .null := Pr4.other W9 (Or.inr (slot_ne (t := (.object "org/holdfast/model/Designation")) (t' := (.object "org/holdfast/model/UnitType")) (Or.inr (w251 hw)) (Or.inr (w245 hw)) (by decide) (by decide) (by decide)))
  have f20 : Fld Z h11 x "org/holdfast/model/EnumerationAndChronology" "designation" "Lorg/holdfast/model/Designation;" .null := f19.other W11 (Or.inr (slot_ne (t := (.object "org/holdfast/model/Designation")) (t' := (.object "java/lang/String")) (Or.inr (w251 hw)) (Or.inr (w247 hw)) (by decide) (by decide) (by decide)))
  have f21 : Fld Z h14 x "org/holdfast/model/EnumerationAndChronology" "designation" "Lorg/holdfast/model/Designation;" .null := f20.other W14 (Or.inr (slot_ne (t := (.object "org/holdfast/model/Designation")) (t' := (.object "java/lang/String")) (Or.inr (w251 hw)) (Or.inr (w249 hw)) (by decide) (by decide) (by decide)))
  refine X14.putF (host := "") (Or.inl (w250 hw)) Via.refl f21 Z14 (Or.inr ⟨(w251 hw), rfl, hnm⟩) (w235 hw) (ty := (.object "org/holdfast/model/Designation")) (by decide) rfl rfl (leA (by omega)) (Safe.exa X14.hZ.alike Z14 (by decide) (by decide)) rfl rfl (hb hby d34_74) fun T18 h18 X18 C18 W18 F18 Z18 => ?_
  have z18 := W18.size
  have A22 := X18.at
  show Gets p e below _ (T18.setTop (mkF m 77 #[.val (.ref x), .val .null, .val (.ref nb), .val .null, .val (.ref d), .val .null] []))
  refine Gets.via (fun _ k => (XS.aloadN A22 hx rfl (hb hby d34_77) rfl rfl (XS.aload A22 hx rfl (hb hby d34_78) rfl rfl k))) ?_
  show Gets p e below _ (T18.setTop (mkF m 80 #[.val (.ref x), .val .null, .val (.ref nb), .val .null, .val (.ref d), .val .null] [.null, (.ref x)]))
  have f24 : Fld Z h9 x "org/holdfast/model/EnumerationAndChronology" "ending" "Lorg/holdfast/model/Designation;" .null := Pr5.other W9 (Or.inr (slot_ne (t := (.object "org/holdfast/model/Designation")) (t' := (.object "org/holdfast/model/UnitType")) (Or.inr (w253 hw)) (Or.inr (w245 hw)) (by decide) (by decide) (by decide)))
  have f25 : Fld Z h11 x "org/holdfast/model/EnumerationAndChronology" "ending" "Lorg/holdfast/model/Designation;" .null := f24.other W11 (Or.inr (slot_ne (t := (.object "org/holdfast/model/Designation")) (t' := (.object "java/lang/String")) (Or.inr (w253 hw)) (Or.inr (w247 hw)) (by decide) (by decide) (by decide)))
  have f26 : Fld Z h14 x "org/holdfast/model/EnumerationAndChronology" "ending" "Lorg/holdfast/model/Designation;" .null := f25.other W14 (Or.inr (slot_ne (t := (.object "org/holdfast/model/Designation")) (t' := (.object "java/lang/String")) (Or.inr (w253 hw)) (Or.inr (w249 hw)) (by decide) (by decide) (by decide)))
  have f27 : Fld Z h18 x "org/holdfast/model/EnumerationAndChronology" "ending" "Lorg/holdfast/model/Designation;" .null := f26.other W18 (Or.inr (slot_ne (t := (.object "org/holdfast/model/Designation")) (t' := (.object "org/holdfast/model/Designation")) (Or.inr (w253 hw)) (Or.inr (w251 hw)) (by decide) (by decide) (by decide)))
  refine X18.putF (host := "") (Or.inl (w252 hw)) Via.refl f27 Z18 (Or.inr ⟨(w253 hw), rfl, hnm⟩) (w235 hw) (ty := (.object "org/holdfast/model/Designation")) (by decide) rfl rfl (leA (by omega)) (Safe.exa X18.hZ.alike Z18 (by decide) (by decide)) rfl rfl (hb hby d34_80) fun T23 h23 X23 C23 W23 F23 Z23 => ?_
  have z23 := W23.size
  have A28 := X23.at
  show Gets p e below _ (T23.setTop (mkF m 83 #[.val (.ref x), .val .null, .val (.ref nb), .val .null, .val (.ref d), .val .null] []))
  have f29 : Fld Z h11 x "org/holdfast/model/EnumerationAndChronology" "unitType" "Lorg/holdfast/model/UnitType;" .null := F9.other W11 (Or.inr (slot_ne (t := (.object "org/holdfast/model/UnitType")) (t' := (.object "java/lang/String")) (Or.inr (w245 hw)) (Or.inr (w247 hw)) (by decide) (by decide) (by decide)))
  have f30 : Fld Z h14 x "org/holdfast/model/EnumerationAndChronology" "unitType" "Lorg/holdfast/model/UnitType;" .null := f29.other W14 (Or.inr (slot_ne (t := (.object "org/holdfast/model/UnitType")) (t' := (.object "java/lang/String")) (Or.inr (w245 hw)) (Or.inr (w249 hw)) (by decide) (by decide) (by decide)))
  have f31 : Fld Z h18 x "org/holdfast/model/EnumerationAndChronology" "unitType" "Lorg/holdfast/model/UnitType;" .null := f30.other W18 (Or.inr (slot_ne (t := (.object "org/holdfast/model/UnitType")) (t' := (.object "org/holdfast/model/Designation")) (Or.inr (w245 hw)) (Or.inr (w251 hw)) (by decide) (by decide) (by decide)))
  have f32 : Fld Z h23 x "org/holdfast/model/EnumerationAndChronology" "unitType" "Lorg/holdfast/model/UnitType;" .null := f31.other W23 (Or.inr (slot_ne (t := (.object "org/holdfast/model/UnitType")) (t' := (.object "org/holdfast/model/Designation")) (Or.inr (w245 hw)) (Or.inr (w253 hw)) (by decide) (by decide) (by decide)))
  have f33 : Fld Z h14 x "org/holdfast/model/EnumerationAndChronology" "note" "Ljava/lang/String;" (.ref nb) := F11.other W14 (Or.inr (slot_ne (t := (.object "java/lang/String")) (t' := (.object "java/lang/String")) (Or.inr (w247 hw)) (Or.inr (w249 hw)) (by decide) (by decide) (by decide)))
  have f34 : Fld Z h18 x "org/holdfast/model/EnumerationAndChronology" "note" "Ljava/lang/String;" (.ref nb) := f33.other W18 (Or.inr (slot_ne (t := (.object "java/lang/String")) (t' := (.object "org/holdfast/model/Designation")) (Or.inr (w247 hw)) (Or.inr (w251 hw)) (by decide) (by decide) (by decide)))
  have f35 : Fld Z h23 x "org/holdfast/model/EnumerationAndChronology" "note" "Ljava/lang/String;" (.ref nb) := f34.other W23 (Or.inr (slot_ne (t := (.object "java/lang/String")) (t' := (.object "org/holdfast/model/Designation")) (Or.inr (w247 hw)) (Or.inr (w253 hw)) (by decide) (by decide) (by decide)))
  have f36 : Fld Z h18 x "org/holdfast/model/EnumerationAndChronology" "text" "Ljava/lang/String;" .null := F14.other W18 (Or.inr (slot_ne (t := (.object "java/lang/String")) (t' := (.object "org/holdfast/model/Designation")) (Or.inr (w249 hw)) (Or.inr (w251 hw)) (by decide) (by decide) (by decide)))
  have f37 : Fld Z h23 x "org/holdfast/model/EnumerationAndChronology" "text" "Ljava/lang/String;" .null := f36.other W23 (Or.inr (slot_ne (t := (.object "java/lang/String")) (t' := (.object "org/holdfast/model/Designation")) (Or.inr (w249 hw)) (Or.inr (w253 hw)) (by decide) (by decide) (by decide)))
  have f38 : Fld Z h23 x "org/holdfast/model/EnumerationAndChronology" "designation" "Lorg/holdfast/model/Designation;" (.ref d) := F18.other W23 (Or.inr (slot_ne (t := (.object "org/holdfast/model/Designation")) (t' := (.object "org/holdfast/model/Designation")) (Or.inr (w251 hw)) (Or.inr (w253 hw)) (by decide) (by decide) (by decide)))
  exact X23.retV hret (hb hby d34_83) (by decide) (by decide) ⟨rfl, ((((((Keep.refl h0 [x]).wr W9 (Or.inl (List.mem_of_getElem? (i := 0) rfl))).wr W11 (Or.inl (List.mem_of_getElem? (i := 0) rfl))).wr W14 (Or.inl (List.mem_of_getElem? (i := 0) rfl))).wr W18 (Or.inl (List.mem_of_getElem? (i := 0) rfl))).wr W23 (Or.inl (List.mem_of_getElem? (i := 0) rfl))), Z23, f32, f35, f37, f38, F23⟩
abbrev RrmCodedRN : Room := { frames := 3, cells := 3, slots := 53, locals := 42 }
def QrmCodedRN (Z : State) (de : Addr) (el : Addr) (em : Addr) (d : Addr) (nb : Addr) (h0 : Heap) (v : Option Value) (h : Heap) : Prop := ∃ (a : Addr), v = some (.ref a) ∧ Keep h0 h [] ∧ Exa Z h a "org/holdfast/model/EnumerationAndChronology" ∧ Fld Z h a "org/holdfast/model/EnumerationAndChronology" "unitType" "Lorg/holdfast/model/UnitType;" .null ∧ Fld Z h a "org/holdfast/model/EnumerationAndChronology" "note" "Ljava/lang/String;" (.ref nb) ∧ Fld Z h a "org/holdfast/model/EnumerationAndChronology" "text" "Ljava/lang/String;" .null ∧ Fld Z h a "org/holdfast/model/EnumerationAndChronology" "designation" "Lorg/holdfast/model/Designation;" (.ref d) ∧ Fld Z h a "org/holdfast/model/EnumerationAndChronology" "ending" "Lorg/holdfast/model/Designation;" .null
set_option maxRecDepth 65536 in
set_option maxHeartbeats 40000000 in
theorem rmCodedRN (l : Launch) (Z : State) (a0 : Array Value) (hw : ∀ d ∈ tables_1, d.before a0 Z = true) (hEL : EW Z a0 ([] : List (String × Nat))) (zc : Int32) (O2 : Sta Z Z.heap "java/lang/String" "COMPACT_STRINGS" "Z" (.int zc)) (P5 : ¬ zc = 0) (de : Addr) (kde : ClassId) (OD : Sta Z Z.heap "java/util/ArrayList" "DEFAULTCAPACITY_EMPTY_ELEMENTDATA" "[Ljava/lang/Object;" (.ref de)) (AD : Arv Z Z.heap de kde (.object "java/lang/Object") (0 : Int32) [] .null) (em : Addr) (OM : Sta Z Z.heap "java/util/ImmutableCollections" "EMPTY" "Ljava/lang/Object;" (.ref em)) (el ee : Addr) (kee : ClassId) (OL : Sta Z Z.heap "java/util/ImmutableCollections" "EMPTY_LIST" "Ljava/util/ImmutableCollections$ListN;" (.ref el)) (XL : Exa Z Z.heap el "java/util/ImmutableCollections$ListN") (FL : Fld Z Z.heap el "java/util/ImmutableCollections$ListN" "elements" "[Ljava/lang/Object;" (.ref ee)) (AE : Arv Z Z.heap ee kee (.object "java/lang/Object") (0 : Int32) [] .null) (mr : Addr) (MR : Mir Z "[Ljava/lang/Object;" mr) (d : Addr) (nb : Addr) (h0 : Heap) (O0 : Old Z Z.heap.size h0) (Pr0 : Exa Z h0 d "org/holdfast/model/Designation") : Met l Z ([] : List (String × Nat)) (⟨"org/holdfast/model/EnumerationAndChronology", "coded", "(Lorg/holdfast/model/UnitType;Ljava/lang/String;Lorg/holdfast/model/Designation;Lorg/holdfast/model/Designation;)Lorg/holdfast/model/EnumerationAndChronology;"⟩ : MethodName) prog_29_method_3_code 4 (some (.object "org/holdfast/model/EnumerationAndChronology")) [] RrmCodedRN [] #[.null, (.ref nb), (.ref d), .null] h0 (QrmCodedRN Z de el em d nb h0) := by
  refine Met.start (a0 := a0) (Ls := #[.val .null, .val (.ref nb), .val (.ref d), .val .null]) pn33 hEL O0 (fun m => by first | (simp [entryFrame, mkF, argsToLocals, Value.category]; done) | rfl) ?_
  intro p e s m below meth cc T0 vm0 X0 sf0_ hby hml hret hnm
  have hx := X0.hx
  have zz := X0.ge
  have A0 := X0.at
  have l1 := ltA Pr0.lt
  show Gets p e below _ (T0.setTop (mkF m 0 #[.val .null, .val (.ref nb), .val (.ref d), .val .null] []))
  refine X0.new (w234 hw) (w235 hw) (w232 hw) rfl (hb hby d33_0) (by decide) (by decide) fun T2 h2 a2 X2 C2 E2 g2 Z2 S2 D2 => ?_
  have z2 := E2.1
  have l2 := ltA Z2.lt
  have A3 := X2.at
  show Gets p e below _ (T2.setTop (mkF m 3 #[.val .null, .val (.ref nb), .val (.ref d), .val .null] [(.ref a2)]))
  refine Gets.via (fun _ k => (XS.dup A3 hx rfl (hb hby d33_3) rfl rfl (XS.aloadN A3 hx rfl (hb hby d33_4) rfl rfl (XS.aloadN A3 hx rfl (hb hby d33_5) rfl rfl (XS.aconstNull A3 hx rfl (hb hby d33_6) (XS.aloadN A3 hx rfl (hb hby d33_7) rfl rfl k)))))) ?_
  show Gets p e below _ (T2.setTop (mkF m 8 #[.val .null, .val (.ref nb), .val (.ref d), .val .null] [(.ref d), .null, (.ref nb), .null, (.ref a2), (.ref a2)]))
  refine X2.ldcO (w236 hw) (wSt hw) rfl (hb hby d33_8) (n := 44) (by decide) (by decide) (by decide) (by decide) fun T4 h4 vm4 a4 X4 C4 E4 => ?_
  have z4 := E4.1
  have A5 := X4.at
  show Gets p e below _ (T4.setTop (mkF m 10 #[.val .null, .val (.ref nb), .val (.ref d), .val .null] [(.ref a4), (.ref d), .null, (.ref nb), .null, (.ref a2), (.ref a2)]))
  refine X4.callS (y := (⟨"java/util/Objects", "requireNonNull", "(Ljava/lang/Object;Ljava/lang/String;)Ljava/lang/Object;"⟩ : MethodName)) (W := 5) (w237 hw) (w48 hw) (w49 hw) (w50 hw) (by decide) (X4.payM (sf := []) (rm8 l Z a0 hw hEL zc O2 P5 de kde OD AD em OM el ee kee OL XL FL AE mr MR d a4 h4 X4.old ) sf0 (w50 hw) (w49 hw) (by decide) (by decide)) rfl (by rw [hml]; rfl) (argsL := [(.ref d), (.ref a4)]) (rest := [.null, (.ref nb), .null, (.ref a2), (.ref a2)]) (lenOf pd2 rfl) rfl rfl (by show 2 * 0 + _ ≤ _; exact Nat.le_of_eq rfl) (hb hby d33_10) (by decide) (by decide) fun T6 h6 vm6 v6 X6 C6 z6 q6 => ?_
  obtain ⟨rfl, K6⟩ := q6
  rw [K6] at X6 C6
  have A7 := X6.at
  show Gets p e below _ (T6.setTop (mkF m 13 #[.val .null, .val (.ref nb), .val (.ref d), .val .null] [(.ref d), .null, (.ref nb), .null, (.ref a2), (.ref a2)]))
  have f9 : Exa Z h2 d "org/holdfast/model/Designation" := Pr0.ext E2
  have f10 : Exa Z h4 d "org/holdfast/model/Designation" := f9.ext E4
  refine X6.cast (w238 hw) (Ins.self f10) rfl rfl (hb hby d33_13) fun T8 X8 => ?_
  have A11 := X8.at
  show Gets p e below _ (T8.setTop (mkF m 16 #[.val .null, .val (.ref nb), .val (.ref d), .val .null] [(.ref d), .null, (.ref nb), .null, (.ref a2), (.ref a2)]))
  refine Gets.via (fun _ k => (XS.aloadN A11 hx rfl (hb hby d33_16) rfl rfl k)) ?_
  show Gets p e below _ (T8.setTop (mkF m 17 #[.val .null, .val (.ref nb), .val (.ref d), .val .null] [.null, (.ref d), .null, (.ref nb), .null, (.ref a2), (.ref a2)]))
  have f12 : Exa Z h4 a2 "org/holdfast/model/EnumerationAndChronology" := Z2.ext E4
  have f13 : Fld Z h4 a2 "org/holdfast/model/EnumerationAndChronology" "unitType" "Lorg/holdfast/model/UnitType;" .null := (D2 (Or.inr (w245 hw)) (ty := (.object "org/holdfast/model/UnitType")) (by decide) : Fld Z h2 a2 "org/holdfast/model/EnumerationAndChronology" "unitType" "Lorg/holdfast/model/UnitType;" .null).ext E4
  have f14 : Fld Z h4 a2 "org/holdfast/model/EnumerationAndChronology" "note" "Ljava/lang/String;" .null := (D2 (Or.inr (w247 hw)) (ty := (.object "java/lang/String")) (by decide) : Fld Z h2 a2 "org/holdfast/model/EnumerationAndChronology" "note" "Ljava/lang/String;" .null).ext E4
  have f15 : Fld Z h4 a2 "org/holdfast/model/EnumerationAndChronology" "text" "Ljava/lang/String;" .null := (D2 (Or.inr (w249 hw)) (ty := (.object "java/lang/String")) (by decide) : Fld Z h2 a2 "org/holdfast/model/EnumerationAndChronology" "text" "Ljava/lang/String;" .null).ext E4
  have f16 : Fld Z h4 a2 "org/holdfast/model/EnumerationAndChronology" "designation" "Lorg/holdfast/model/Designation;" .null := (D2 (Or.inr (w251 hw)) (ty := (.object "org/holdfast/model/Designation")) (by decide) : Fld Z h2 a2 "org/holdfast/model/EnumerationAndChronology" "designation" "Lorg/holdfast/model/Designation;" .null).ext E4
  have f17 : Fld Z h4 a2 "org/holdfast/model/EnumerationAndChronology" "ending" "Lorg/holdfast/model/Designation;" .null := (D2 (Or.inr (w253 hw)) (ty := (.object "org/holdfast/model/Designation")) (by decide) : Fld Z h2 a2 "org/holdfast/model/EnumerationAndChronology" "ending" "Lorg/holdfast/model/Designation;" .null).ext E4
  refine X8.callI (y := (⟨"org/holdfast/model/EnumerationAndChronology", "<init>", "(Lorg/holdfast/model/UnitType;Ljava/lang/String;Ljava/lang/String;Lorg/holdfast/model/Designation;Lorg/holdfast/model/Designation;)V"⟩ : MethodName)) (W := 1) rfl (w240 hw) (w241 hw) (w242 hw) (by decide) (X8.payM (sf := []) (rmEacRN l Z a0 hw hEL zc O2 P5 de kde OD AD em OM el ee kee OL XL FL AE mr MR a2 d nb h4 X8.old f12 f13 f14 f15 f16 f17 (leA (by omega))) sf0 (w242 hw) (w232 hw) (by decide) (by decide)) rfl (by rw [hml]; rfl) (a := a2) (argsL := [.null, (.ref nb), .null, (.ref d), .null]) (rest := [(.ref a2)]) (lenOf pd12 rfl) rfl rfl (by show 2 * 0 + _ ≤ _; exact Nat.le_of_eq rfl) (hb hby d33_17) (by decide) (by decide) fun T18 h18 vm18 v18 X18 C18 z18 q18 => ?_
  obtain ⟨rfl, K18, g18_0, g18_1, g18_2, g18_3, g18_4, g18_5⟩ := q18
  have l19 := ltA g18_0.lt
  have l20 := ltA g18_1.lt
  have l21 := ltA g18_2.lt
  have l22 := ltA g18_3.lt
  have l23 := ltA g18_4.lt
  have l24 := ltA g18_5.lt
  have A25 := X18.at
  show Gets p e below _ (T18.setTop (mkF m 20 #[.val .null, .val (.ref nb), .val (.ref d), .val .null] [(.ref a2)]))
  exact X18.retA hret rfl rfl rfl (hb hby d33_20) (by decide) (by decide) ⟨a2, rfl, ((((Keep.refl h0 []).ext E2).ext E4).trans K18 (allS (Or.inr (leA (by omega))) all0)), g18_0, g18_1, g18_2, g18_3, g18_4, g18_5⟩
abbrev RrmEacRR : Room := { frames := 2, cells := 0, slots := 0, locals := 24 }
def QrmEacRR (Z : State) (de : Addr) (el : Addr) (em : Addr) (x : Addr) (d : Addr) (nb : Addr) (g : Addr) (h0 : Heap) (v : Option Value) (h : Heap) : Prop := v = none ∧ Keep h0 h [x] ∧ Exa Z h x "org/holdfast/model/EnumerationAndChronology" ∧ Fld Z h x "org/holdfast/model/EnumerationAndChronology" "unitType" "Lorg/holdfast/model/UnitType;" .null ∧ Fld Z h x "org/holdfast/model/EnumerationAndChronology" "note" "Ljava/lang/String;" (.ref nb) ∧ Fld Z h x "org/holdfast/model/EnumerationAndChronology" "text" "Ljava/lang/String;" .null ∧ Fld Z h x "org/holdfast/model/EnumerationAndChronology" "designation" "Lorg/holdfast/model/Designation;" (.ref d) ∧ Fld Z h x "org/holdfast/model/EnumerationAndChronology" "ending" "Lorg/holdfast/model/Designation;" (.ref g)
set_option maxRecDepth 65536 in
set_option maxHeartbeats 40000000 in
theorem rmEacRR (l : Launch) (Z : State) (a0 : Array Value) (hw : ∀ d ∈ tables_1, d.before a0 Z = true) (hEL : EW Z a0 ([] : List (String × Nat))) (zc : Int32) (O2 : Sta Z Z.heap "java/lang/String" "COMPACT_STRINGS" "Z" (.int zc)) (P5 : ¬ zc = 0) (de : Addr) (kde : ClassId) (OD : Sta Z Z.heap "java/util/ArrayList" "DEFAULTCAPACITY_EMPTY_ELEMENTDATA" "[Ljava/lang/Object;" (.ref de)) (AD : Arv Z Z.heap de kde (.object "java/lang/Object") (0 : Int32) [] .null) (em : Addr) (OM : Sta Z Z.heap "java/util/ImmutableCollections" "EMPTY" "Ljava/lang/Object;" (.ref em)) (el ee : Addr) (kee : ClassId) (OL : Sta Z Z.heap "java/util/ImmutableCollections" "EMPTY_LIST" "Ljava/util/ImmutableCollections$ListN;" (.ref el)) (XL : Exa Z Z.heap el "java/util/ImmutableCollections$ListN") (FL : Fld Z Z.heap el "java/util/ImmutableCollections$ListN" "elements" "[Ljava/lang/Object;" (.ref ee)) (AE : Arv Z Z.heap ee kee (.object "java/lang/Object") (0 : Int32) [] .null) (mr : Addr) (MR : Mir Z "[Ljava/lang/Object;" mr) (x : Addr) (d : Addr) (nb : Addr) (g : Addr) (h0 : Heap) (O0 : Old Z Z.heap.size h0) (Pr0 : Exa Z h0 x "org/holdfast/model/EnumerationAndChronology") (Pr1 : Fld Z h0 x "org/holdfast/model/EnumerationAndChronology" "unitType" "Lorg/holdfast/model/UnitType;" .null) (Pr2 : Fld Z h0 x "org/holdfast/model/EnumerationAndChronology" "note" "Ljava/lang/String;" .null) (Pr3 : Fld Z h0 x "org/holdfast/model/EnumerationAndChronology" "text" "Ljava/lang/String;" .null) (Pr4 : Fld Z h0 x "org/holdfast/model/EnumerationAndChronology" "designation" "Lorg/holdfast/model/Designation;" .null) (Pr5 : Fld Z h0 x "org/holdfast/model/EnumerationAndChronology" "ending" "Lorg/holdfast/model/Designation;" .null) (Pr6 : Z.heap.size ≤ x) : Met l Z ([] : List (String × Nat)) (⟨"org/holdfast/model/EnumerationAndChronology", "<init>", "(Lorg/holdfast/model/UnitType;Ljava/lang/String;Ljava/lang/String;Lorg/holdfast/model/Designation;Lorg/holdfast/model/Designation;)V"⟩ : MethodName) prog_29_method_1_code 6 (none) [] RrmEacRR [] #[(.ref x), .null, (.ref nb), .null, (.ref d), (.ref g)] h0 (QrmEacRR Z de el em x d nb g h0) := by
  refine Met.start (a0 := a0) (Ls := #[.val (.ref x), .val .null, .val (.ref nb), .val .null, .val (.ref d), .val (.ref g)]) pn34 hEL O0 (fun m => by first | (simp [entryFrame, mkF, argsToLocals, Value.category]; done) | rfl) ?_
  intro p e s m below meth cc T0 vm0 X0 sf0_ hby hml hret hnm
  have hx := X0.hx
  have zz := X0.ge
  have A0 := X0.at
  have l1 := ltA Pr0.lt
  have l2 := ltA Pr1.lt
  have l3 := ltA Pr2.lt
  have l4 := ltA Pr3.lt
  have l5 := ltA Pr4.lt
  have l6 := ltA Pr5.lt
  show Gets p e below _ (T0.setTop (mkF m 0 #[.val (.ref x), .val .null, .val (.ref nb), .val .null, .val (.ref d), .val (.ref g)] []))
  refine Gets.via (fun _ k => (XS.aloadN A0 hx rfl (hb hby d34_0) rfl rfl k)) ?_
  show Gets p e below _ (T0.setTop (mkF m 1 #[.val (.ref x), .val .null, .val (.ref nb), .val .null, .val (.ref d), .val (.ref g)] [(.ref x)]))
  refine X0.callI (y := (⟨"java/lang/Record", "<init>", "()V"⟩ : MethodName)) (W := 0) rfl (w243 hw) (w41 hw) (w44 hw) (by decide) (X0.payM (sf := []) (rm7 l Z a0 hw hEL zc O2 P5 de kde OD AD em OM el ee kee OL XL FL AE mr MR x h0 X0.old ) sf0 (w44 hw) (w43 hw) (by decide) (by decide)) rfl (by rw [hml]; rfl) (a := x) (argsL := []) (rest := []) (lenOf pd0 rfl) rfl rfl (by show 2 * 0 + _ ≤ _; exact Nat.le_of_eq rfl) (hb hby d34_1) (by decide) (by decide) fun T7 h7 vm7 v7 X7 C7 z7 q7 => ?_
  obtain ⟨rfl, K7⟩ := q7
  rw [K7] at X7 C7
  have A8 := X7.at
  show Gets p e below _ (T7.setTop (mkF m 4 #[.val (.ref x), .val .null, .val (.ref nb), .val .null, .val (.ref d), .val (.ref g)] []))
  refine Gets.via (fun _ k => (XS.aloadN A8 hx rfl (hb hby d34_4) rfl rfl (XS.ifnonnullNo A8 hx rfl (hb hby d34_5) rfl k))) ?_
  show Gets p e below _ (T7.setTop (mkF m 8 #[.val (.ref x), .val .null, .val (.ref nb), .val .null, .val (.ref d), .val (.ref g)] []))
  refine Gets.via (fun _ k => (XS.iconst A8 hx rfl (hb hby d34_8) (XS.goto A8 hx rfl (pc0 := 9) (pc' := 13) rfl (hb hby d34_9) (by decide) (by decide) k))) ?_
  show Gets p e below _ (T7.setTop (mkF m 13 #[.val (.ref x), .val .null, .val (.ref nb), .val .null, .val (.ref d), .val (.ref g)] [(.int (1 : Int32))]))
  refine Gets.via (fun _ k => (XS.aload A8 hx rfl (hb hby d34_13) rfl rfl (XS.ifnonnullYes A8 hx rfl (pc0 := 15) (pc' := 22) rfl (hb hby d34_15) rfl (by decide) (by decide) k))) ?_
  show Gets p e below _ (T7.setTop (mkF m 22 #[.val (.ref x), .val .null, .val (.ref nb), .val .null, .val (.ref d), .val (.ref g)] [(.int (1 : Int32))]))
  refine Gets.via (fun _ k => (XS.iconst A8 hx rfl (hb hby d34_22) (XS.icmpYes A8 hx rfl (pc0 := 23) (pc' := 36) rfl (hb hby d34_23) rfl (Jvm.Free.XT.ii_ne_t (by decide)) (by decide) (by decide) k))) ?_
  show Gets p e below _ (T7.setTop (mkF m 36 #[.val (.ref x), .val .null, .val (.ref nb), .val .null, .val (.ref d), .val (.ref g)] []))
  refine Gets.via (fun _ k => (XS.aload A8 hx rfl (hb hby d34_36) rfl rfl (XS.ifnullNo A8 hx rfl (hb hby d34_38) rfl k))) ?_
  show Gets p e below _ (T7.setTop (mkF m 41 #[.val (.ref x), .val .null, .val (.ref nb), .val .null, .val (.ref d), .val (.ref g)] []))
  refine Gets.via (fun _ k => (XS.aload A8 hx rfl (hb hby d34_41) rfl rfl (XS.ifnonnullYes A8 hx rfl (pc0 := 43) (pc' := 56) rfl (hb hby d34_43) rfl (by decide) (by decide) k))) ?_
  show Gets p e below _ (T7.setTop (mkF m 56 #[.val (.ref x), .val .null, .val (.ref nb), .val .null, .val (.ref d), .val (.ref g)] []))
  refine Gets.via (fun _ k => (XS.aloadN A8 hx rfl (hb hby d34_56) rfl rfl (XS.aloadN A8 hx rfl (hb hby d34_57) rfl rfl k))) ?_
  show Gets p e below _ (T7.setTop (mkF m 58 #[.val (.ref x), .val .null, .val (.ref nb), .val .null, .val (.ref d), .val (.ref g)] [.null, (.ref x)]))
  refine X7.putF (host := "") (Or.inl (w244 hw)) Via.refl Pr1 Pr0 (Or.inr ⟨(w245 hw), rfl, hnm⟩) (w235 hw) (ty := (.object "org/holdfast/model/UnitType")) (by decide) rfl rfl (leA (by omega)) (Safe.exa X7.hZ.alike Pr0 (by decide) (by decide)) rfl rfl (hb hby d34_58) fun T9 h9 X9 C9 W9 F9 Z9 => ?_
  have z9 := W9.size
  have A10 := X9.at
  show Gets p e below _ (T9.setTop (mkF m 61 #[.val (.ref x), .val .null, .val (.ref nb), .val .null, .val (.ref d), .val (.ref g)] []))
  refine Gets.via (fun _ k => (XS.aloadN A10 hx rfl (hb hby d34_61) rfl rfl (XS.aloadN A10 hx rfl (hb hby d34_62) rfl rfl k))) ?_
  show Gets p e below _ (T9.setTop (mkF m 63 #[.val (.ref x), .val .null, .val (.ref nb), .val .null, .val (.ref d), .val (.ref g)] [(.ref nb), (.ref x)]))
  have f12 : Fld Z h9 x "org/holdfast/model/EnumerationAndChronology" "note" "Ljava/lang/String;" .null := Pr2.other W9 (Or.inr (slot_ne (t := (.object "java/lang/String")) (t' := (.object "org/holdfast/model/UnitType")) (Or.inr (w247 hw)) (Or.inr (w245 hw)) (by decide) (by decide) (by decide)))
  refine X9.putF (host := "") (Or.inl (w246 hw)) Via.refl f12 Z9 (Or.inr ⟨(w247 hw), rfl, hnm⟩) (w235 hw) (ty := (.object "java/lang/String")) (by decide) rfl rfl (leA (by omega)) (Safe.exa X9.hZ.alike Z9 (by decide) (by decide)) rfl rfl (hb hby d34_63) fun T11 h11 X11 C11 W11 F11 Z11 => ?_
  have z11 := W11.size
  have A13 := X11.at
  show Gets p e below _ (T11.setTop (mkF m 66 #[.val (.ref x), .val .null, .val (.ref nb), .val .null, .val (.ref d), .val (.ref g)] []))
  refine Gets.via (fun _ k => (XS.aloadN A13 hx rfl (hb hby d34_66) rfl rfl (XS.aloadN A13 hx rfl (hb hby d34_67) rfl rfl k))) ?_
  show Gets p e below _ (T11.setTop (mkF m 68 #[.val (.ref x), .val .null, .val (.ref nb), .val .null, .val (.ref d), .val (.ref g)] [.null, (.ref x)]))
  have f15 : Fld Z h9 x "org/holdfast/model/EnumerationAndChronology" "text" "Ljava/lang/String;" .null := Pr3.other W9 (Or.inr (slot_ne (t := (.object "java/lang/String")) (t' := (.object "org/holdfast/model/UnitType")) (Or.inr (w249 hw)) (Or.inr (w245 hw)) (by decide) (by decide) (by decide)))
  have f16 : Fld Z h11 x "org/holdfast/model/EnumerationAndChronology" "text" "Ljava/lang/String;" .null := f15.other W11 (Or.inr (slot_ne (t := (.object "java/lang/String")) (t' := (.object "java/lang/String")) (Or.inr (w249 hw)) (Or.inr (w247 hw)) (by decide) (by decide) (by decide)))
  refine X11.putF (host := "") (Or.inl (w248 hw)) Via.refl f16 Z11 (Or.inr ⟨(w249 hw), rfl, hnm⟩) (w235 hw) (ty := (.object "java/lang/String")) (by decide) rfl rfl (leA (by omega)) (Safe.exa X11.hZ.alike Z11 (by decide) (by decide)) rfl rfl (hb hby d34_68) fun T14 h14 X14 C14 W14 F14 Z14 => ?_
  have z14 := W14.size
  have A17 := X14.at
  show Gets p e below _ (T14.setTop (mkF m 71 #[.val (.ref x), .val .null, .val (.ref nb), .val .null, .val (.ref d), .val (.ref g)] []))
  refine Gets.via (fun _ k => (XS.aloadN A17 hx rfl (hb hby d34_71) rfl rfl (XS.aload A17 hx rfl (hb hby d34_72) rfl rfl k))) ?_
  show Gets p e below _ (T14.setTop (mkF m 74 #[.val (.ref x), .val .null, .val (.ref nb), .val .null, .val (.ref d), .val (.ref g)] [(.ref d), (.ref x)]))
  have f19 : Fld Z h9 x "org/holdfast/model/EnumerationAndChronology" "designation" "Lorg/holdfast/model/Designation;" .null := Pr4.other W9 (Or.inr (slot_ne (t := (.object "org/holdfast/model/Designation")) (t' := (.object "org/holdfast/model/UnitType")) (Or.inr (w251 hw)) (Or.inr (w245 hw)) (by decide) (by decide) (by decide)))
  have f20 : Fld Z h11 x "org/holdfast/model/EnumerationAndChronology" "designation" "Lorg/holdfast/model/Designation;" .null := f19.other W11 (Or.inr (slot_ne (t := (.object "org/holdfast/model/Designation")) (t' := (.object "java/lang/String")) (Or.inr (w251 hw)) (Or.inr (w247 hw)) (by decide) (by decide) (by decide)))
  have f21 : Fld Z h14 x "org/holdfast/model/EnumerationAndChronology" "designation" "Lorg/holdfast/model/Designation;" .null := f20.other W14 (Or.inr (slot_ne (t := (.object "org/holdfast/model/Designation")) (t' := (.object "java/lang/String")) (Or.inr (w251 hw)) (Or.inr (w249 hw)) (by decide) (by decide) (by decide)))
  refine X14.putF (host := "") (Or.inl (w250 hw)) Via.refl f21 Z14 (Or.inr ⟨(w251 hw), rfl, hnm⟩) (w235 hw) (ty := (.object "org/holdfast/model/Designation")) (by decide) rfl rfl (leA (by omega)) (Safe.exa X14.hZ.alike Z14 (by decide) (by decide)) rfl rfl (hb hby d34_74) fun T18 h18 X18 C18 W18 F18 Z18 => ?_
  have z18 := W18.size
  have A22 := X18.at
  show Gets p e below _ (T18.setTop (mkF m 77 #[.val (.ref x), .val .null, .val (.ref nb), .val .null, .val (.ref d), .val (.ref g)] []))
  refine Gets.via (fun _ k => (XS.aloadN A22 hx rfl (hb hby d34_77) rfl rfl (XS.aload A22 hx rfl (hb hby d34_78) rfl rfl k))) ?_
  show Gets p e below _ (T18.setTop (mkF m 80 #[.val (.ref x), .val .null, .val (.ref nb), .val .null, .val (.ref d), .val (.ref g)] [(.ref g), (.ref x)]))
  have f24 : Fld Z h9 x "org/holdfast/model/EnumerationAndChronology" "ending" "Lorg/holdfast/model/Designation;" .null := Pr5.other W9 (Or.inr (slot_ne (t := (.object "org/holdfast/model/Designation")) (t' := (.object "org/holdfast/model/UnitType")) (Or.inr (w253 hw)) (Or.inr (w245 hw)) (by decide) (by decide) (by decide)))
  have f25 : Fld Z h11 x "org/holdfast/model/EnumerationAndChronology" "ending" "Lorg/holdfast/model/Designation;" .null := f24.other W11 (Or.inr (slot_ne (t := (.object "org/holdfast/model/Designation")) (t' := (.object "java/lang/String")) (Or.inr (w253 hw)) (Or.inr (w247 hw)) (by decide) (by decide) (by decide)))
  have f26 : Fld Z h14 x "org/holdfast/model/EnumerationAndChronology" "ending" "Lorg/holdfast/model/Designation;" .null := f25.other W14 (Or.inr (slot_ne (t := (.object "org/holdfast/model/Designation")) (t' := (.object "java/lang/String")) (Or.inr (w253 hw)) (Or.inr (w249 hw)) (by decide) (by decide) (by decide)))
  have f27 : Fld Z h18 x "org/holdfast/model/EnumerationAndChronology" "ending" "Lorg/holdfast/model/Designation;" .null := f26.other W18 (Or.inr (slot_ne (t := (.object "org/holdfast/model/Designation")) (t' := (.object "org/holdfast/model/Designation")) (Or.inr (w253 hw)) (Or.inr (w251 hw)) (by decide) (by decide) (by decide)))
  refine X18.putF (host := "") (Or.inl (w252 hw)) Via.refl f27 Z18 (Or.inr ⟨(w253 hw), rfl, hnm⟩) (w235 hw) (ty := (.object "org/holdfast/model/Designation")) (by decide) rfl rfl (leA (by omega)) (Safe.exa X18.hZ.alike Z18 (by decide) (by decide)) rfl rfl (hb hby d34_80) fun T23 h23 X23 C23 W23 F23 Z23 => ?_
  have z23 := W23.size
  have A28 := X23.at
  show Gets p e below _ (T23.setTop (mkF m 83 #[.val (.ref x), .val .null, .val (.ref nb), .val .null, .val (.ref d), .val (.ref g)] []))
  have f29 : Fld Z h11 x "org/holdfast/model/EnumerationAndChronology" "unitType" "Lorg/holdfast/model/UnitType;" .null := F9.other W11 (Or.inr (slot_ne (t := (.object "org/holdfast/model/UnitType")) (t' := (.object "java/lang/String")) (Or.inr (w245 hw)) (Or.inr (w247 hw)) (by decide) (by decide) (by decide)))
  have f30 : Fld Z h14 x "org/holdfast/model/EnumerationAndChronology" "unitType" "Lorg/holdfast/model/UnitType;" .null := f29.other W14 (Or.inr (slot_ne (t := (.object "org/holdfast/model/UnitType")) (t' := (.object "java/lang/String")) (Or.inr (w245 hw)) (Or.inr (w249 hw)) (by decide) (by decide) (by decide)))
  have f31 : Fld Z h18 x "org/holdfast/model/EnumerationAndChronology" "unitType" "Lorg/holdfast/model/UnitType;" .null := f30.other W18 (Or.inr (slot_ne (t := (.object "org/holdfast/model/UnitType")) (t' := (.object "org/holdfast/model/Designation")) (Or.inr (w245 hw)) (Or.inr (w251 hw)) (by decide) (by decide) (by decide)))
  have f32 : Fld Z h23 x "org/holdfast/model/EnumerationAndChronology" "unitType" "Lorg/holdfast/model/UnitType;" .null := f31.other W23 (Or.inr (slot_ne (t := (.object "org/holdfast/model/UnitType")) (t' := (.object "org/holdfast/model/Designation")) (Or.inr (w245 hw)) (Or.inr (w253 hw)) (by decide) (by decide) (by decide)))
  have f33 : Fld Z h14 x "org/holdfast/model/EnumerationAndChronology" "note" "Ljava/lang/String;" (.ref nb) := F11.other W14 (Or.inr (slot_ne (t := (.object "java/lang/String")) (t' := (.object "java/lang/String")) (Or.inr (w247 hw)) (Or.inr (w249 hw)) (by decide) (by decide) (by decide)))
  have f34 : Fld Z h18 x "org/holdfast/model/EnumerationAndChronology" "note" "Ljava/lang/String;" (.ref nb) := f33.other W18 (Or.inr (slot_ne (t := (.object "java/lang/String")) (t' := (.object "org/holdfast/model/Designation")) (Or.inr (w247 hw)) (Or.inr (w251 hw)) (by decide) (by decide) (by decide)))
  have f35 : Fld Z h23 x "org/holdfast/model/EnumerationAndChronology" "note" "Ljava/lang/String;" (.ref nb) := f34.other W23 (Or.inr (slot_ne (t := (.object "java/lang/String")) (t' := (.object "org/holdfast/model/Designation")) (Or.inr (w247 hw)) (Or.inr (w253 hw)) (by decide) (by decide) (by decide)))
  have f36 : Fld Z h18 x "org/holdfast/model/EnumerationAndChronology" "text" "Ljava/lang/String;" .null := F14.other W18 (Or.inr (slot_ne (t := (.object "java/lang/String")) (t' := (.object "org/holdfast/model/Designation")) (Or.inr (w249 hw)) (Or.inr (w251 hw)) (by decide) (by decide) (by decide)))
  have f37 : Fld Z h23 x "org/holdfast/model/EnumerationAndChronology" "text" "Ljava/lang/String;" .null := f36.other W23 (Or.inr (slot_ne (t := (.object "java/lang/String")) (t' := (.object "org/holdfast/model/Designation")) (Or.inr (w249 hw)) (Or.inr (w253 hw)) (by decide) (by decide) (by decide)))
  have f38 : Fld Z h23 x "org/holdfast/model/EnumerationAndChronology" "designation" "Lorg/holdfast/model/Designation;" (.ref d) := F18.other W23 (Or.inr (slot_ne (t := (.object "org/holdfast/model/Designation")) (t' := (.object "org/holdfast/model/Designation")) (Or.inr (w251 hw)) (Or.inr (w253 hw)) (by decide) (by decide) (by decide)))
  exact X23.retV hret (hb hby d34_83) (by decide) (by decide) ⟨rfl, ((((((Keep.refl h0 [x]).wr W9 (Or.inl (List.mem_of_getElem? (i := 0) rfl))).wr W11 (Or.inl (List.mem_of_getElem? (i := 0) rfl))).wr W14 (Or.inl (List.mem_of_getElem? (i := 0) rfl))).wr W18 (Or.inl (List.mem_of_getElem? (i := 0) rfl))).wr W23 (Or.inl (List.mem_of_getElem? (i := 0) rfl))), Z23, f32, f35, f37, f38, F23⟩
abbrev RrmCodedRR : Room := { frames := 3, cells := 3, slots := 53, locals := 42 }
def QrmCodedRR (Z : State) (de : Addr) (el : Addr) (em : Addr) (d : Addr) (nb : Addr) (g : Addr) (h0 : Heap) (v : Option Value) (h : Heap) : Prop := ∃ (a : Addr), v = some (.ref a) ∧ Keep h0 h [] ∧ Exa Z h a "org/holdfast/model/EnumerationAndChronology" ∧ Fld Z h a "org/holdfast/model/EnumerationAndChronology" "unitType" "Lorg/holdfast/model/UnitType;" .null ∧ Fld Z h a "org/holdfast/model/EnumerationAndChronology" "note" "Ljava/lang/String;" (.ref nb) ∧ Fld Z h a "org/holdfast/model/EnumerationAndChronology" "text" "Ljava/lang/String;" .null ∧ Fld Z h a "org/holdfast/model/EnumerationAndChronology" "designation" "Lorg/holdfast/model/Designation;" (.ref d) ∧ Fld Z h a "org/holdfast/model/EnumerationAndChronology" "ending" "Lorg/holdfast/model/Designation;" (.ref g)
set_option maxRecDepth 65536 in
set_option maxHeartbeats 40000000 in
theorem rmCodedRR (l : Launch) (Z : State) (a0 : Array Value) (hw : ∀ d ∈ tables_1, d.before a0 Z = true) (hEL : EW Z a0 ([] : List (String × Nat))) (zc : Int32) (O2 : Sta Z Z.heap "java/lang/String" "COMPACT_STRINGS" "Z" (.int zc)) (P5 : ¬ zc = 0) (de : Addr) (kde : ClassId) (OD : Sta Z Z.heap "java/util/ArrayList" "DEFAULTCAPACITY_EMPTY_ELEMENTDATA" "[Ljava/lang/Object;" (.ref de)) (AD : Arv Z Z.heap de kde (.object "java/lang/Object") (0 : Int32) [] .null) (em : Addr) (OM : Sta Z Z.heap "java/util/ImmutableCollections" "EMPTY" "Ljava/lang/Object;" (.ref em)) (el ee : Addr) (kee : ClassId) (OL : Sta Z Z.heap "java/util/ImmutableCollections" "EMPTY_LIST" "Ljava/util/ImmutableCollections$ListN;" (.ref el)) (XL : Exa Z Z.heap el "java/util/ImmutableCollections$ListN") (FL : Fld Z Z.heap el "java/util/ImmutableCollections$ListN" "elements" "[Ljava/lang/Object;" (.ref ee)) (AE : Arv Z Z.heap ee kee (.object "java/lang/Object") (0 : Int32) [] .null) (mr : Addr) (MR : Mir Z "[Ljava/lang/Object;" mr) (d : Addr) (nb : Addr) (g : Addr) (h0 : Heap) (O0 : Old Z Z.heap.size h0) (Pr0 : Exa Z h0 d "org/holdfast/model/Designation") : Met l Z ([] : List (String × Nat)) (⟨"org/holdfast/model/EnumerationAndChronology", "coded", "(Lorg/holdfast/model/UnitType;Ljava/lang/String;Lorg/holdfast/model/Designation;Lorg/holdfast/model/Designation;)Lorg/holdfast/model/EnumerationAndChronology;"⟩ : MethodName) prog_29_method_3_code 4 (some (.object "org/holdfast/model/EnumerationAndChronology")) [] RrmCodedRR [] #[.null, (.ref nb), (.ref d), (.ref g)] h0 (QrmCodedRR Z de el em d nb g h0) := by
  refine Met.start (a0 := a0) (Ls := #[.val .null, .val (.ref nb), .val (.ref d), .val (.ref g)]) pn33 hEL O0 (fun m => by first | (simp [entryFrame, mkF, argsToLocals, Value.category]; done) | rfl) ?_
  intro p e s m below meth cc T0 vm0 X0 sf0_ hby hml hret hnm
  have hx := X0.hx
  have zz := X0.ge
  have A0 := X0.at
  have l1 := ltA Pr0.lt
  show Gets p e below _ (T0.setTop (mkF m 0 #[.val .null, .val (.ref nb), .val (.ref d), .val (.ref g)] []))
  refine X0.new (w234 hw) (w235 hw) (w232 hw) rfl (hb hby d33_0) (by decide) (by decide) fun T2 h2 a2 X2 C2 E2 g2 Z2 S2 D2 => ?_
  have z2 := E2.1
  have l2 := ltA Z2.lt
  have A3 := X2.at
  show Gets p e below _ (T2.setTop (mkF m 3 #[.val .null, .val (.ref nb), .val (.ref d), .val (.ref g)] [(.ref a2)]))
  refine Gets.via (fun _ k => (XS.dup A3 hx rfl (hb hby d33_3) rfl rfl (XS.aloadN A3 hx rfl (hb hby d33_4) rfl rfl (XS.aloadN A3 hx rfl (hb hby d33_5) rfl rfl (XS.aconstNull A3 hx rfl (hb hby d33_6) (XS.aloadN A3 hx rfl (hb hby d33_7) rfl rfl k)))))) ?_
  show Gets p e below _ (T2.setTop (mkF m 8 #[.val .null, .val (.ref nb), .val (.ref d), .val (.ref g)] [(.ref d), .null, (.ref nb), .null, (.ref a2), (.ref a2)]))
  refine X2.ldcO (w236 hw) (wSt hw) rfl (hb hby d33_8) (n := 44) (by decide) (by decide) (by decide) (by decide) fun T4 h4 vm4 a4 X4 C4 E4 => ?_
  have z4 := E4.1
  have A5 := X4.at
  show Gets p e below _ (T4.setTop (mkF m 10 #[.val .null, .val (.ref nb), .val (.ref d), .val (.ref g)] [(.ref a4), (.ref d), .null, (.ref nb), .null, (.ref a2), (.ref a2)]))
  refine X4.callS (y := (⟨"java/util/Objects", "requireNonNull", "(Ljava/lang/Object;Ljava/lang/String;)Ljava/lang/Object;"⟩ : MethodName)) (W := 5) (w237 hw) (w48 hw) (w49 hw) (w50 hw) (by decide) (X4.payM (sf := []) (rm8 l Z a0 hw hEL zc O2 P5 de kde OD AD em OM el ee kee OL XL FL AE mr MR d a4 h4 X4.old ) sf0 (w50 hw) (w49 hw) (by decide) (by decide)) rfl (by rw [hml]; rfl) (argsL := [(.ref d), (.ref a4)]) (rest := [.null, (.ref nb), .null, (.ref a2), (.ref a2)]) (lenOf pd2 rfl) rfl rfl (by show 2 * 0 + _ ≤ _; exact Nat.le_of_eq rfl) (hb hby d33_10) (by decide) (by decide) fun T6 h6 vm6 v6 X6 C6 z6 q6 => ?_
  obtain ⟨rfl, K6⟩ := q6
  rw [K6] at X6 C6
  have A7 := X6.at
  show Gets p e below _ (T6.setTop (mkF m 13 #[.val .null, .val (.ref nb), .val (.ref d), .val (.ref g)] [(.ref d), .null, (.ref nb), .null, (.ref a2), (.ref a2)]))
  have f9 : Exa Z h2 d "org/holdfast/model/Designation" := Pr0.ext E2
  have f10 : Exa Z h4 d "org/holdfast/model/Designation" := f9.ext E4
  refine X6.cast (w238 hw) (Ins.self f10) rfl rfl (hb hby d33_13) fun T8 X8 => ?_
  have A11 := X8.at
  show Gets p e below _ (T8.setTop (mkF m 16 #[.val .null, .val (.ref nb), .val (.ref d), .val (.ref g)] [(.ref d), .null, (.ref nb), .null, (.ref a2), (.ref a2)]))
  refine Gets.via (fun _ k => (XS.aloadN A11 hx rfl (hb hby d33_16) rfl rfl k)) ?_
  show Gets p e below _ (T8.setTop (mkF m 17 #[.val .null, .val (.ref nb), .val (.ref d), .val (.ref g)] [(.ref g), (.ref d), .null, (.ref nb), .null, (.ref a2), (.ref a2)]))
  have f12 : Exa Z h4 a2 "org/holdfast/model/EnumerationAndChronology" := Z2.ext E4
  have f13 : Fld Z h4 a2 "org/holdfast/model/EnumerationAndChronology" "unitType" "Lorg/holdfast/model/UnitType;" .null := (D2 (Or.inr (w245 hw)) (ty := (.object "org/holdfast/model/UnitType")) (by decide) : Fld Z h2 a2 "org/holdfast/model/EnumerationAndChronology" "unitType" "Lorg/holdfast/model/UnitType;" .null).ext E4
  have f14 : Fld Z h4 a2 "org/holdfast/model/EnumerationAndChronology" "note" "Ljava/lang/String;" .null := (D2 (Or.inr (w247 hw)) (ty := (.object "java/lang/String")) (by decide) : Fld Z h2 a2 "org/holdfast/model/EnumerationAndChronology" "note" "Ljava/lang/String;" .null).ext E4
  have f15 : Fld Z h4 a2 "org/holdfast/model/EnumerationAndChronology" "text" "Ljava/lang/String;" .null := (D2 (Or.inr (w249 hw)) (ty := (.object "java/lang/String")) (by decide) : Fld Z h2 a2 "org/holdfast/model/EnumerationAndChronology" "text" "Ljava/lang/String;" .null).ext E4
  have f16 : Fld Z h4 a2 "org/holdfast/model/EnumerationAndChronology" "designation" "Lorg/holdfast/model/Designation;" .null := (D2 (Or.inr (w251 hw)) (ty := (.object "org/holdfast/model/Designation")) (by decide) : Fld Z h2 a2 "org/holdfast/model/EnumerationAndChronology" "designation" "Lorg/holdfast/model/Designation;" .null).ext E4
  have f17 : Fld Z h4 a2 "org/holdfast/model/EnumerationAndChronology" "ending" "Lorg/holdfast/model/Designation;" .null := (D2 (Or.inr (w253 hw)) (ty := (.object "org/holdfast/model/Designation")) (by decide) : Fld Z h2 a2 "org/holdfast/model/EnumerationAndChronology" "ending" "Lorg/holdfast/model/Designation;" .null).ext E4
  refine X8.callI (y := (⟨"org/holdfast/model/EnumerationAndChronology", "<init>", "(Lorg/holdfast/model/UnitType;Ljava/lang/String;Ljava/lang/String;Lorg/holdfast/model/Designation;Lorg/holdfast/model/Designation;)V"⟩ : MethodName)) (W := 1) rfl (w240 hw) (w241 hw) (w242 hw) (by decide) (X8.payM (sf := []) (rmEacRR l Z a0 hw hEL zc O2 P5 de kde OD AD em OM el ee kee OL XL FL AE mr MR a2 d nb g h4 X8.old f12 f13 f14 f15 f16 f17 (leA (by omega))) sf0 (w242 hw) (w232 hw) (by decide) (by decide)) rfl (by rw [hml]; rfl) (a := a2) (argsL := [.null, (.ref nb), .null, (.ref d), (.ref g)]) (rest := [(.ref a2)]) (lenOf pd12 rfl) rfl rfl (by show 2 * 0 + _ ≤ _; exact Nat.le_of_eq rfl) (hb hby d33_17) (by decide) (by decide) fun T18 h18 vm18 v18 X18 C18 z18 q18 => ?_
  obtain ⟨rfl, K18, g18_0, g18_1, g18_2, g18_3, g18_4, g18_5⟩ := q18
  have l19 := ltA g18_0.lt
  have l20 := ltA g18_1.lt
  have l21 := ltA g18_2.lt
  have l22 := ltA g18_3.lt
  have l23 := ltA g18_4.lt
  have l24 := ltA g18_5.lt
  have A25 := X18.at
  show Gets p e below _ (T18.setTop (mkF m 20 #[.val .null, .val (.ref nb), .val (.ref d), .val (.ref g)] [(.ref a2)]))
  exact X18.retA hret rfl rfl rfl (hb hby d33_20) (by decide) (by decide) ⟨a2, rfl, ((((Keep.refl h0 []).ext E2).ext E4).trans K18 (allS (Or.inr (leA (by omega))) all0)), g18_0, g18_1, g18_2, g18_3, g18_4, g18_5⟩
abbrev RrmG_unitType_N : Room := { frames := 0, cells := 0, slots := 0, locals := 0 }
def QrmG_unitType_N (Z : State) (de : Addr) (el : Addr) (em : Addr) (x : Addr) (h0 : Heap) (v : Option Value) (h : Heap) : Prop := v = some .null ∧ h = h0
set_option maxRecDepth 65536 in
set_option maxHeartbeats 40000000 in
theorem rmG_unitType_N (l : Launch) (Z : State) (a0 : Array Value) (hw : ∀ d ∈ tables_1, d.before a0 Z = true) (hEL : EW Z a0 ([] : List (String × Nat))) (zc : Int32) (O2 : Sta Z Z.heap "java/lang/String" "COMPACT_STRINGS" "Z" (.int zc)) (P5 : ¬ zc = 0) (de : Addr) (kde : ClassId) (OD : Sta Z Z.heap "java/util/ArrayList" "DEFAULTCAPACITY_EMPTY_ELEMENTDATA" "[Ljava/lang/Object;" (.ref de)) (AD : Arv Z Z.heap de kde (.object "java/lang/Object") (0 : Int32) [] .null) (em : Addr) (OM : Sta Z Z.heap "java/util/ImmutableCollections" "EMPTY" "Ljava/lang/Object;" (.ref em)) (el ee : Addr) (kee : ClassId) (OL : Sta Z Z.heap "java/util/ImmutableCollections" "EMPTY_LIST" "Ljava/util/ImmutableCollections$ListN;" (.ref el)) (XL : Exa Z Z.heap el "java/util/ImmutableCollections$ListN") (FL : Fld Z Z.heap el "java/util/ImmutableCollections$ListN" "elements" "[Ljava/lang/Object;" (.ref ee)) (AE : Arv Z Z.heap ee kee (.object "java/lang/Object") (0 : Int32) [] .null) (mr : Addr) (MR : Mir Z "[Ljava/lang/Object;" mr) (x : Addr) (h0 : Heap) (O0 : Old Z Z.heap.size h0) (Pr0 : Fld Z h0 x "org/holdfast/model/EnumerationAndChronology" "unitType" "Lorg/holdfast/model/UnitType;" .null) : Met l Z ([] : List (String × Nat)) (⟨"org/holdfast/model/EnumerationAndChronology", "unitType", "()Lorg/holdfast/model/UnitType;"⟩ : MethodName) prog_29_method_7_code 1 (some (.object "org/holdfast/model/UnitType")) [] RrmG_unitType_N [] #[(.ref x)] h0 (QrmG_unitType_N Z de el em x h0) := by
  refine Met.start (a0 := a0) (Ls := #[.val (.ref x)]) pn35 hEL O0 (fun m => by first | (simp [entryFrame, mkF, argsToLocals, Value.category]; done) | rfl) ?_
  intro p e s m below meth cc T0 vm0 X0 sf0_ hby hml hret hnm
  have hx := X0.hx
  have zz := X0.ge
  have A0 := X0.at
  have l1 := ltA Pr0.lt
  show Gets p e below _ (T0.setTop (mkF m 0 #[.val (.ref x)] []))
  refine Gets.via (fun _ k => (XS.aloadN A0 hx rfl (hb hby d35_0) rfl rfl k)) ?_
  show Gets p e below _ (T0.setTop (mkF m 1 #[.val (.ref x)] [(.ref x)]))
  refine X0.getF (host := "") (Or.inl (w244 hw)) Via.refl Pr0 rfl rfl (hb hby d35_1) fun T2 X2 => ?_
  have A3 := X2.at
  show Gets p e below _ (T2.setTop (mkF m 4 #[.val (.ref x)] [.null]))
  exact X2.retA hret rfl rfl rfl (hb hby d35_4) (by decide) (by decide) ⟨rfl, rfl⟩
abbrev RrmG_text_N : Room := { frames := 0, cells := 0, slots := 0, locals := 0 }
def QrmG_text_N (Z : State) (de : Addr) (el : Addr) (em : Addr) (x : Addr) (h0 : Heap) (v : Option Value) (h : Heap) : Prop := v = some .null ∧ h = h0
set_option maxRecDepth 65536 in
set_option maxHeartbeats 40000000 in
theorem rmG_text_N (l : Launch) (Z : State) (a0 : Array Value) (hw : ∀ d ∈ tables_1, d.before a0 Z = true) (hEL : EW Z a0 ([] : List (String × Nat))) (zc : Int32) (O2 : Sta Z Z.heap "java/lang/String" "COMPACT_STRINGS" "Z" (.int zc)) (P5 : ¬ zc = 0) (de : Addr) (kde : ClassId) (OD : Sta Z Z.heap "java/util/ArrayList" "DEFAULTCAPACITY_EMPTY_ELEMENTDATA" "[Ljava/lang/Object;" (.ref de)) (AD : Arv Z Z.heap de kde (.object "java/lang/Object") (0 : Int32) [] .null) (em : Addr) (OM : Sta Z Z.heap "java/util/ImmutableCollections" "EMPTY" "Ljava/lang/Object;" (.ref em)) (el ee : Addr) (kee : ClassId) (OL : Sta Z Z.heap "java/util/ImmutableCollections" "EMPTY_LIST" "Ljava/util/ImmutableCollections$ListN;" (.ref el)) (XL : Exa Z Z.heap el "java/util/ImmutableCollections$ListN") (FL : Fld Z Z.heap el "java/util/ImmutableCollections$ListN" "elements" "[Ljava/lang/Object;" (.ref ee)) (AE : Arv Z Z.heap ee kee (.object "java/lang/Object") (0 : Int32) [] .null) (mr : Addr) (MR : Mir Z "[Ljava/lang/Object;" mr) (x : Addr) (h0 : Heap) (O0 : Old Z Z.heap.size h0) (Pr0 : Fld Z h0 x "org/holdfast/model/EnumerationAndChronology" "text" "Ljava/lang/String;" .null) : Met l Z ([] : List (String × Nat)) (⟨"org/holdfast/model/EnumerationAndChronology", "text", "()Ljava/lang/String;"⟩ : MethodName) prog_29_method_9_code 1 (some (.object "java/lang/String")) [] RrmG_text_N [] #[(.ref x)] h0 (QrmG_text_N Z de el em x h0) := by
  refine Met.start (a0 := a0) (Ls := #[.val (.ref x)]) pn37 hEL O0 (fun m => by first | (simp [entryFrame, mkF, argsToLocals, Value.category]; done) | rfl) ?_
  intro p e s m below meth cc T0 vm0 X0 sf0_ hby hml hret hnm
  have hx := X0.hx
  have zz := X0.ge
  have A0 := X0.at
  have l1 := ltA Pr0.lt
  show Gets p e below _ (T0.setTop (mkF m 0 #[.val (.ref x)] []))
  refine Gets.via (fun _ k => (XS.aloadN A0 hx rfl (hb hby d37_0) rfl rfl k)) ?_
  show Gets p e below _ (T0.setTop (mkF m 1 #[.val (.ref x)] [(.ref x)]))
  refine X0.getF (host := "") (Or.inl (w248 hw)) Via.refl Pr0 rfl rfl (hb hby d37_1) fun T2 X2 => ?_
  have A3 := X2.at
  show Gets p e below _ (T2.setTop (mkF m 4 #[.val (.ref x)] [.null]))
  exact X2.retA hret rfl rfl rfl (hb hby d37_4) (by decide) (by decide) ⟨rfl, rfl⟩
abbrev RrmG_designation_R : Room := { frames := 0, cells := 0, slots := 0, locals := 0 }
def QrmG_designation_R (Z : State) (de : Addr) (el : Addr) (em : Addr) (x : Addr) (b : Addr) (h0 : Heap) (v : Option Value) (h : Heap) : Prop := v = some (.ref b) ∧ h = h0
set_option maxRecDepth 65536 in
set_option maxHeartbeats 40000000 in
theorem rmG_designation_R (l : Launch) (Z : State) (a0 : Array Value) (hw : ∀ d ∈ tables_1, d.before a0 Z = true) (hEL : EW Z a0 ([] : List (String × Nat))) (zc : Int32) (O2 : Sta Z Z.heap "java/lang/String" "COMPACT_STRINGS" "Z" (.int zc)) (P5 : ¬ zc = 0) (de : Addr) (kde : ClassId) (OD : Sta Z Z.heap "java/util/ArrayList" "DEFAULTCAPACITY_EMPTY_ELEMENTDATA" "[Ljava/lang/Object;" (.ref de)) (AD : Arv Z Z.heap de kde (.object "java/lang/Object") (0 : Int32) [] .null) (em : Addr) (OM : Sta Z Z.heap "java/util/ImmutableCollections" "EMPTY" "Ljava/lang/Object;" (.ref em)) (el ee : Addr) (kee : ClassId) (OL : Sta Z Z.heap "java/util/ImmutableCollections" "EMPTY_LIST" "Ljava/util/ImmutableCollections$ListN;" (.ref el)) (XL : Exa Z Z.heap el "java/util/ImmutableCollections$ListN") (FL : Fld Z Z.heap el "java/util/ImmutableCollections$ListN" "elements" "[Ljava/lang/Object;" (.ref ee)) (AE : Arv Z Z.heap ee kee (.object "java/lang/Object") (0 : Int32) [] .null) (mr : Addr) (MR : Mir Z "[Ljava/lang/Object;" mr) (x : Addr) (b : Addr) (h0 : Heap) (O0 : Old Z Z.heap.size h0) (Pr0 : Fld Z h0 x "org/holdfast/model/EnumerationAndChronology" "designation" "Lorg/holdfast/model/Designation;" (.ref b)) : Met l Z ([] : List (String × Nat)) (⟨"org/holdfast/model/EnumerationAndChronology", "designation", "()Lorg/holdfast/model/Designation;"⟩ : MethodName) prog_29_method_10_code 1 (some (.object "org/holdfast/model/Designation")) [] RrmG_designation_R [] #[(.ref x)] h0 (QrmG_designation_R Z de el em x b h0) := by
  refine Met.start (a0 := a0) (Ls := #[.val (.ref x)]) pn38 hEL O0 (fun m => by first | (simp [entryFrame, mkF, argsToLocals, Value.category]; done) | rfl) ?_
  intro p e s m below meth cc T0 vm0 X0 sf0_ hby hml hret hnm
  have hx := X0.hx
  have zz := X0.ge
  have A0 := X0.at
  have l1 := ltA Pr0.lt
  show Gets p e below _ (T0.setTop (mkF m 0 #[.val (.ref x)] []))
  refine Gets.via (fun _ k => (XS.aloadN A0 hx rfl (hb hby d38_0) rfl rfl k)) ?_
  show Gets p e below _ (T0.setTop (mkF m 1 #[.val (.ref x)] [(.ref x)]))
  refine X0.getF (host := "") (Or.inl (w250 hw)) Via.refl Pr0 rfl rfl (hb hby d38_1) fun T2 X2 => ?_
  have A3 := X2.at
  show Gets p e below _ (T2.setTop (mkF m 4 #[.val (.ref x)] [(.ref b)]))
  exact X2.retA hret rfl rfl rfl (hb hby d38_4) (by decide) (by decide) ⟨rfl, rfl⟩
abbrev RrmG_note_N : Room := { frames := 0, cells := 0, slots := 0, locals := 0 }
def QrmG_note_N (Z : State) (de : Addr) (el : Addr) (em : Addr) (x : Addr) (h0 : Heap) (v : Option Value) (h : Heap) : Prop := v = some .null ∧ h = h0
set_option maxRecDepth 65536 in
set_option maxHeartbeats 40000000 in
theorem rmG_note_N (l : Launch) (Z : State) (a0 : Array Value) (hw : ∀ d ∈ tables_1, d.before a0 Z = true) (hEL : EW Z a0 ([] : List (String × Nat))) (zc : Int32) (O2 : Sta Z Z.heap "java/lang/String" "COMPACT_STRINGS" "Z" (.int zc)) (P5 : ¬ zc = 0) (de : Addr) (kde : ClassId) (OD : Sta Z Z.heap "java/util/ArrayList" "DEFAULTCAPACITY_EMPTY_ELEMENTDATA" "[Ljava/lang/Object;" (.ref de)) (AD : Arv Z Z.heap de kde (.object "java/lang/Object") (0 : Int32) [] .null) (em : Addr) (OM : Sta Z Z.heap "java/util/ImmutableCollections" "EMPTY" "Ljava/lang/Object;" (.ref em)) (el ee : Addr) (kee : ClassId) (OL : Sta Z Z.heap "java/util/ImmutableCollections" "EMPTY_LIST" "Ljava/util/ImmutableCollections$ListN;" (.ref el)) (XL : Exa Z Z.heap el "java/util/ImmutableCollections$ListN") (FL : Fld Z Z.heap el "java/util/ImmutableCollections$ListN" "elements" "[Ljava/lang/Object;" (.ref ee)) (AE : Arv Z Z.heap ee kee (.object "java/lang/Object") (0 : Int32) [] .null) (mr : Addr) (MR : Mir Z "[Ljava/lang/Object;" mr) (x : Addr) (h0 : Heap) (O0 : Old Z Z.heap.size h0) (Pr0 : Fld Z h0 x "org/holdfast/model/EnumerationAndChronology" "note" "Ljava/lang/String;" .null) : Met l Z ([] : List (String × Nat)) (⟨"org/holdfast/model/EnumerationAndChronology", "note", "()Ljava/lang/String;"⟩ : MethodName) prog_29_method_8_code 1 (some (.object "java/lang/String")) [] RrmG_note_N [] #[(.ref x)] h0 (QrmG_note_N Z de el em x h0) := by
  refine Met.start (a0 := a0) (Ls := #[.val (.ref x)]) pn36 hEL O0 (fun m => by first | (simp [entryFrame, mkF, argsToLocals, Value.category]; done) | rfl) ?_
  intro p e s m below meth cc T0 vm0 X0 sf0_ hby hml hret hnm
  have hx := X0.hx
  have zz := X0.ge
  have A0 := X0.at
  have l1 := ltA Pr0.lt
  show Gets p e below _ (T0.setTop (mkF m 0 #[.val (.ref x)] []))
  refine Gets.via (fun _ k => (XS.aloadN A0 hx rfl (hb hby d36_0) rfl rfl k)) ?_
  show Gets p e below _ (T0.setTop (mkF m 1 #[.val (.ref x)] [(.ref x)]))
  refine X0.getF (host := "") (Or.inl (w246 hw)) Via.refl Pr0 rfl rfl (hb hby d36_1) fun T2 X2 => ?_
  have A3 := X2.at
  show Gets p e below _ (T2.setTop (mkF m 4 #[.val (.ref x)] [.null]))
  exact X2.retA hret rfl rfl rfl (hb hby d36_4) (by decide) (by decide) ⟨rfl, rfl⟩
abbrev RrmG_note_R : Room := { frames := 0, cells := 0, slots := 0, locals := 0 }
def QrmG_note_R (Z : State) (de : Addr) (el : Addr) (em : Addr) (x : Addr) (b : Addr) (h0 : Heap) (v : Option Value) (h : Heap) : Prop := v = some (.ref b) ∧ h = h0
set_option maxRecDepth 65536 in
set_option maxHeartbeats 40000000 in
theorem rmG_note_R (l : Launch) (Z : State) (a0 : Array Value) (hw : ∀ d ∈ tables_1, d.before a0 Z = true) (hEL : EW Z a0 ([] : List (String × Nat))) (zc : Int32) (O2 : Sta Z Z.heap "java/lang/String" "COMPACT_STRINGS" "Z" (.int zc)) (P5 : ¬ zc = 0) (de : Addr) (kde : ClassId) (OD : Sta Z Z.heap "java/util/ArrayList" "DEFAULTCAPACITY_EMPTY_ELEMENTDATA" "[Ljava/lang/Object;" (.ref de)) (AD : Arv Z Z.heap de kde (.object "java/lang/Object") (0 : Int32) [] .null) (em : Addr) (OM : Sta Z Z.heap "java/util/ImmutableCollections" "EMPTY" "Ljava/lang/Object;" (.ref em)) (el ee : Addr) (kee : ClassId) (OL : Sta Z Z.heap "java/util/ImmutableCollections" "EMPTY_LIST" "Ljava/util/ImmutableCollections$ListN;" (.ref el)) (XL : Exa Z Z.heap el "java/util/ImmutableCollections$ListN") (FL : Fld Z Z.heap el "java/util/ImmutableCollections$ListN" "elements" "[Ljava/lang/Object;" (.ref ee)) (AE : Arv Z Z.heap ee kee (.object "java/lang/Object") (0 : Int32) [] .null) (mr : Addr) (MR : Mir Z "[Ljava/lang/Object;" mr) (x : Addr) (b : Addr) (h0 : Heap) (O0 : Old Z Z.heap.size h0) (Pr0 : Fld Z h0 x "org/holdfast/model/EnumerationAndChronology" "note" "Ljava/lang/String;" (.ref b)) : Met l Z ([] : List (String × Nat)) (⟨"org/holdfast/model/EnumerationAndChronology", "note", "()Ljava/lang/String;"⟩ : MethodName) prog_29_method_8_code 1 (some (.object "java/lang/String")) [] RrmG_note_R [] #[(.ref x)] h0 (QrmG_note_R Z de el em x b h0) := by
  refine Met.start (a0 := a0) (Ls := #[.val (.ref x)]) pn36 hEL O0 (fun m => by first | (simp [entryFrame, mkF, argsToLocals, Value.category]; done) | rfl) ?_
  intro p e s m below meth cc T0 vm0 X0 sf0_ hby hml hret hnm
  have hx := X0.hx
  have zz := X0.ge
  have A0 := X0.at
  have l1 := ltA Pr0.lt
  show Gets p e below _ (T0.setTop (mkF m 0 #[.val (.ref x)] []))
  refine Gets.via (fun _ k => (XS.aloadN A0 hx rfl (hb hby d36_0) rfl rfl k)) ?_
  show Gets p e below _ (T0.setTop (mkF m 1 #[.val (.ref x)] [(.ref x)]))
  refine X0.getF (host := "") (Or.inl (w246 hw)) Via.refl Pr0 rfl rfl (hb hby d36_1) fun T2 X2 => ?_
  have A3 := X2.at
  show Gets p e below _ (T2.setTop (mkF m 4 #[.val (.ref x)] [(.ref b)]))
  exact X2.retA hret rfl rfl rfl (hb hby d36_4) (by decide) (by decide) ⟨rfl, rfl⟩
abbrev RrmG_ending_N : Room := { frames := 0, cells := 0, slots := 0, locals := 0 }
def QrmG_ending_N (Z : State) (de : Addr) (el : Addr) (em : Addr) (x : Addr) (h0 : Heap) (v : Option Value) (h : Heap) : Prop := v = some .null ∧ h = h0
set_option maxRecDepth 65536 in
set_option maxHeartbeats 40000000 in
theorem rmG_ending_N (l : Launch) (Z : State) (a0 : Array Value) (hw : ∀ d ∈ tables_1, d.before a0 Z = true) (hEL : EW Z a0 ([] : List (String × Nat))) (zc : Int32) (O2 : Sta Z Z.heap "java/lang/String" "COMPACT_STRINGS" "Z" (.int zc)) (P5 : ¬ zc = 0) (de : Addr) (kde : ClassId) (OD : Sta Z Z.heap "java/util/ArrayList" "DEFAULTCAPACITY_EMPTY_ELEMENTDATA" "[Ljava/lang/Object;" (.ref de)) (AD : Arv Z Z.heap de kde (.object "java/lang/Object") (0 : Int32) [] .null) (em : Addr) (OM : Sta Z Z.heap "java/util/ImmutableCollections" "EMPTY" "Ljava/lang/Object;" (.ref em)) (el ee : Addr) (kee : ClassId) (OL : Sta Z Z.heap "java/util/ImmutableCollections" "EMPTY_LIST" "Ljava/util/ImmutableCollections$ListN;" (.ref el)) (XL : Exa Z Z.heap el "java/util/ImmutableCollections$ListN") (FL : Fld Z Z.heap el "java/util/ImmutableCollections$ListN" "elements" "[Ljava/lang/Object;" (.ref ee)) (AE : Arv Z Z.heap ee kee (.object "java/lang/Object") (0 : Int32) [] .null) (mr : Addr) (MR : Mir Z "[Ljava/lang/Object;" mr) (x : Addr) (h0 : Heap) (O0 : Old Z Z.heap.size h0) (Pr0 : Fld Z h0 x "org/holdfast/model/EnumerationAndChronology" "ending" "Lorg/holdfast/model/Designation;" .null) : Met l Z ([] : List (String × Nat)) (⟨"org/holdfast/model/EnumerationAndChronology", "ending", "()Lorg/holdfast/model/Designation;"⟩ : MethodName) prog_29_method_11_code 1 (some (.object "org/holdfast/model/Designation")) [] RrmG_ending_N [] #[(.ref x)] h0 (QrmG_ending_N Z de el em x h0) := by
  refine Met.start (a0 := a0) (Ls := #[.val (.ref x)]) pn39 hEL O0 (fun m => by first | (simp [entryFrame, mkF, argsToLocals, Value.category]; done) | rfl) ?_
  intro p e s m below meth cc T0 vm0 X0 sf0_ hby hml hret hnm
  have hx := X0.hx
  have zz := X0.ge
  have A0 := X0.at
  have l1 := ltA Pr0.lt
  show Gets p e below _ (T0.setTop (mkF m 0 #[.val (.ref x)] []))
  refine Gets.via (fun _ k => (XS.aloadN A0 hx rfl (hb hby d39_0) rfl rfl k)) ?_
  show Gets p e below _ (T0.setTop (mkF m 1 #[.val (.ref x)] [(.ref x)]))
  refine X0.getF (host := "") (Or.inl (w252 hw)) Via.refl Pr0 rfl rfl (hb hby d39_1) fun T2 X2 => ?_
  have A3 := X2.at
  show Gets p e below _ (T2.setTop (mkF m 4 #[.val (.ref x)] [.null]))
  exact X2.retA hret rfl rfl rfl (hb hby d39_4) (by decide) (by decide) ⟨rfl, rfl⟩
abbrev RrmG_ending_R : Room := { frames := 0, cells := 0, slots := 0, locals := 0 }
def QrmG_ending_R (Z : State) (de : Addr) (el : Addr) (em : Addr) (x : Addr) (b : Addr) (h0 : Heap) (v : Option Value) (h : Heap) : Prop := v = some (.ref b) ∧ h = h0
set_option maxRecDepth 65536 in
set_option maxHeartbeats 40000000 in
theorem rmG_ending_R (l : Launch) (Z : State) (a0 : Array Value) (hw : ∀ d ∈ tables_1, d.before a0 Z = true) (hEL : EW Z a0 ([] : List (String × Nat))) (zc : Int32) (O2 : Sta Z Z.heap "java/lang/String" "COMPACT_STRINGS" "Z" (.int zc)) (P5 : ¬ zc = 0) (de : Addr) (kde : ClassId) (OD : Sta Z Z.heap "java/util/ArrayList" "DEFAULTCAPACITY_EMPTY_ELEMENTDATA" "[Ljava/lang/Object;" (.ref de)) (AD : Arv Z Z.heap de kde (.object "java/lang/Object") (0 : Int32) [] .null) (em : Addr) (OM : Sta Z Z.heap "java/util/ImmutableCollections" "EMPTY" "Ljava/lang/Object;" (.ref em)) (el ee : Addr) (kee : ClassId) (OL : Sta Z Z.heap "java/util/ImmutableCollections" "EMPTY_LIST" "Ljava/util/ImmutableCollections$ListN;" (.ref el)) (XL : Exa Z Z.heap el "java/util/ImmutableCollections$ListN") (FL : Fld Z Z.heap el "java/util/ImmutableCollections$ListN" "elements" "[Ljava/lang/Object;" (.ref ee)) (AE : Arv Z Z.heap ee kee (.object "java/lang/Object") (0 : Int32) [] .null) (mr : Addr) (MR : Mir Z "[Ljava/lang/Object;" mr) (x : Addr) (b : Addr) (h0 : Heap) (O0 : Old Z Z.heap.size h0) (Pr0 : Fld Z h0 x "org/holdfast/model/EnumerationAndChronology" "ending" "Lorg/holdfast/model/Designation;" (.ref b)) : Met l Z ([] : List (String × Nat)) (⟨"org/holdfast/model/EnumerationAndChronology", "ending", "()Lorg/holdfast/model/Designation;"⟩ : MethodName) prog_29_method_11_code 1 (some (.object "org/holdfast/model/Designation")) [] RrmG_ending_R [] #[(.ref x)] h0 (QrmG_ending_R Z de el em x b h0) := by
  refine Met.start (a0 := a0) (Ls := #[.val (.ref x)]) pn39 hEL O0 (fun m => by first | (simp [entryFrame, mkF, argsToLocals, Value.category]; done) | rfl) ?_
  intro p e s m below meth cc T0 vm0 X0 sf0_ hby hml hret hnm
  have hx := X0.hx
  have zz := X0.ge
  have A0 := X0.at
  have l1 := ltA Pr0.lt
  show Gets p e below _ (T0.setTop (mkF m 0 #[.val (.ref x)] []))
  refine Gets.via (fun _ k => (XS.aloadN A0 hx rfl (hb hby d39_0) rfl rfl k)) ?_
  show Gets p e below _ (T0.setTop (mkF m 1 #[.val (.ref x)] [(.ref x)]))
  refine X0.getF (host := "") (Or.inl (w252 hw)) Via.refl Pr0 rfl rfl (hb hby d39_1) fun T2 X2 => ?_
  have A3 := X2.at
  show Gets p e below _ (T2.setTop (mkF m 4 #[.val (.ref x)] [(.ref b)]))
  exact X2.retA hret rfl rfl rfl (hb hby d39_4) (by decide) (by decide) ⟨rfl, rfl⟩
abbrev Rrmmax_10_1 : Room := { frames := 0, cells := 0, slots := 0, locals := 0 }
def Qrmmax_10_1 (Z : State) (de : Addr) (el : Addr) (em : Addr) (h0 : Heap) (v : Option Value) (h : Heap) : Prop := v = some (.int (10 : Int32)) ∧ h = h0
set_option maxRecDepth 65536 in
set_option maxHeartbeats 40000000 in
theorem rmmax_10_1 (l : Launch) (Z : State) (a0 : Array Value) (hw : ∀ d ∈ tables_1, d.before a0 Z = true) (hEL : EW Z a0 ([] : List (String × Nat))) (zc : Int32) (O2 : Sta Z Z.heap "java/lang/String" "COMPACT_STRINGS" "Z" (.int zc)) (P5 : ¬ zc = 0) (de : Addr) (kde : ClassId) (OD : Sta Z Z.heap "java/util/ArrayList" "DEFAULTCAPACITY_EMPTY_ELEMENTDATA" "[Ljava/lang/Object;" (.ref de)) (AD : Arv Z Z.heap de kde (.object "java/lang/Object") (0 : Int32) [] .null) (em : Addr) (OM : Sta Z Z.heap "java/util/ImmutableCollections" "EMPTY" "Ljava/lang/Object;" (.ref em)) (el ee : Addr) (kee : ClassId) (OL : Sta Z Z.heap "java/util/ImmutableCollections" "EMPTY_LIST" "Ljava/util/ImmutableCollections$ListN;" (.ref el)) (XL : Exa Z Z.heap el "java/util/ImmutableCollections$ListN") (FL : Fld Z Z.heap el "java/util/ImmutableCollections$ListN" "elements" "[Ljava/lang/Object;" (.ref ee)) (AE : Arv Z Z.heap ee kee (.object "java/lang/Object") (0 : Int32) [] .null) (mr : Addr) (MR : Mir Z "[Ljava/lang/Object;" mr)  (h0 : Heap) (O0 : Old Z Z.heap.size h0)  : Met l Z ([] : List (String × Nat)) (⟨"java/lang/Math", "max", "(II)I"⟩ : MethodName) jdk_29_method_65_code 2 (some .int) [] Rrmmax_10_1 [] #[(.int (10 : Int32)), (.int (1 : Int32))] h0 (Qrmmax_10_1 Z de el em h0) := by
  refine Met.start (a0 := a0) (Ls := #[.val (.int (10 : Int32)), .val (.int (1 : Int32))]) pn16 hEL O0 (fun m => by first | (simp [entryFrame, mkF, argsToLocals, Value.category]; done) | rfl) ?_
  intro p e s m below meth cc T0 vm0 X0 sf0_ hby hml hret hnm
  have hx := X0.hx
  have zz := X0.ge
  have A0 := X0.at
  show Gets p e below _ (T0.setTop (mkF m 0 #[.val (.int (10 : Int32)), .val (.int (1 : Int32))] []))
  refine Gets.via (fun _ k => (XS.iloadN A0 hx rfl (hb hby d16_0) rfl (XS.iloadN A0 hx rfl (hb hby d16_1) rfl (XS.icmpNo A0 hx rfl (hb hby d16_2) rfl (Jvm.Free.XT.ii_lt_f (by decide)) k)))) ?_
  show Gets p e below _ (T0.setTop (mkF m 5 #[.val (.int (10 : Int32)), .val (.int (1 : Int32))] []))
  refine Gets.via (fun _ k => (XS.iloadN A0 hx rfl (hb hby d16_5) rfl (XS.goto A0 hx rfl (pc0 := 6) (pc' := 10) rfl (hb hby d16_6) (by decide) (by decide) k))) ?_
  show Gets p e below _ (T0.setTop (mkF m 10 #[.val (.int (10 : Int32)), .val (.int (1 : Int32))] [(.int (10 : Int32))]))
  exact X0.retI hret rfl (by simp) (hb hby d16_10) (by decide) (by decide) ⟨rfl, rfl⟩
abbrev RrmGrowI : Room := { frames := 1, cells := 1, slots := 10, locals := 14 }
def QrmGrowI (Z : State) (de : Addr) (el : Addr) (em : Addr) (x : Addr) (mc : Int32) (h0 : Heap) (v : Option Value) (h : Heap) : Prop := ∃ (d : Addr) (kd : ClassId), v = some (.ref d) ∧ Keep h0 h [x] ∧ Exa Z h x "java/util/ArrayList" ∧ Fld Z h x "java/util/AbstractList" "modCount" "I" (.int mc) ∧ Fld Z h x "java/util/ArrayList" "size" "I" (.int (0 : Int32)) ∧ Fld Z h x "java/util/ArrayList" "elementData" "[Ljava/lang/Object;" (.ref d) ∧ Arv Z h d kd (.object "java/lang/Object") (10 : Int32) [.null, .null, .null, .null, .null, .null, .null, .null, .null, .null] .null ∧ Exa Z h d "[Ljava/lang/Object;" ∧ Ovr Z kd "java/lang/Object" ∧ Z.heap.size ≤ d ∧ h0.size ≤ d
set_option maxRecDepth 65536 in
set_option maxHeartbeats 40000000 in
theorem rmGrowI (l : Launch) (Z : State) (a0 : Array Value) (hw : ∀ d ∈ tables_1, d.before a0 Z = true) (hEL : EW Z a0 ([] : List (String × Nat))) (zc : Int32) (O2 : Sta Z Z.heap "java/lang/String" "COMPACT_STRINGS" "Z" (.int zc)) (P5 : ¬ zc = 0) (de : Addr) (kde : ClassId) (OD : Sta Z Z.heap "java/util/ArrayList" "DEFAULTCAPACITY_EMPTY_ELEMENTDATA" "[Ljava/lang/Object;" (.ref de)) (AD : Arv Z Z.heap de kde (.object "java/lang/Object") (0 : Int32) [] .null) (em : Addr) (OM : Sta Z Z.heap "java/util/ImmutableCollections" "EMPTY" "Ljava/lang/Object;" (.ref em)) (el ee : Addr) (kee : ClassId) (OL : Sta Z Z.heap "java/util/ImmutableCollections" "EMPTY_LIST" "Ljava/util/ImmutableCollections$ListN;" (.ref el)) (XL : Exa Z Z.heap el "java/util/ImmutableCollections$ListN") (FL : Fld Z Z.heap el "java/util/ImmutableCollections$ListN" "elements" "[Ljava/lang/Object;" (.ref ee)) (AE : Arv Z Z.heap ee kee (.object "java/lang/Object") (0 : Int32) [] .null) (mr : Addr) (MR : Mir Z "[Ljava/lang/Object;" mr) (x : Addr) (mc : Int32) (h0 : Heap) (O0 : Old Z Z.heap.size h0) (Pr0 : Exa Z h0 x "java/util/ArrayList") (Pr1 : Fld Z h0 x "java/util/AbstractList" "modCount" "I" (.int mc)) (Pr2 : Fld Z h0 x "java/util/ArrayList" "size" "I" (.int (0 : Int32))) (Pr3 : Fld Z h0 x "java/util/ArrayList" "elementData" "[Ljava/lang/Object;" (.ref de)) (Pr4 : Z.heap.size ≤ x) : Met l Z ([] : List (String × Nat)) (⟨"java/util/ArrayList", "grow", "(I)[Ljava/lang/Object;"⟩ : MethodName) jdk_38_method_6_code 4 (some (.array (.object "java/lang/Object"))) [] RrmGrowI [] #[(.ref x), (.int (1 : Int32))] h0 (QrmGrowI Z de el em x mc h0) := by
  refine Met.start (a0 := a0) (Ls := #[.val (.ref x), .val (.int (1 : Int32)), .unset, .unset]) pn15 hEL O0 (fun m => by first | (simp [entryFrame, mkF, argsToLocals, Value.category]; done) | rfl) ?_
  intro p e s m below meth cc T0 vm0 X0 sf0_ hby hml hret hnm
  have hx := X0.hx
  have zz := X0.ge
  have A0 := X0.at
  have l1 := ltA Pr0.lt
  have l2 := ltA Pr1.lt
  have l3 := ltA Pr2.lt
  have l4 := ltA Pr3.lt
  show Gets p e below _ (T0.setTop (mkF m 0 #[.val (.ref x), .val (.int (1 : Int32)), .unset, .unset] []))
  refine Gets.via (fun _ k => (XS.aloadN A0 hx rfl (hb hby d15_0) rfl rfl k)) ?_
  show Gets p e below _ (T0.setTop (mkF m 1 #[.val (.ref x), .val (.int (1 : Int32)), .unset, .unset] [(.ref x)]))
  refine X0.getF (host := "") (Or.inl (w79 hw)) Via.refl Pr3 rfl rfl (hb hby d15_1) fun T5 X5 => ?_
  have A6 := X5.at
  show Gets p e below _ (T5.setTop (mkF m 4 #[.val (.ref x), .val (.int (1 : Int32)), .unset, .unset] [(.ref de)]))
  have f7 : Arv Z h0 de kde (.object "java/lang/Object") (0 : Int32) [] .null := AD.ext X5.old.2
  refine X5.alen f7 rfl rfl (hb hby d15_4) ?_
  show Gets p e below _ (T5.setTop (mkF m 5 #[.val (.ref x), .val (.int (1 : Int32)), .unset, .unset] [(.int (0 : Int32))]))
  refine Gets.via (fun _ k => (XS.istoreN A6 hx rfl (hb hby d15_5) rfl (l' := #[.val (.ref x), .val (.int (1 : Int32)), .val (.int (0 : Int32)), .unset]) rfl (XS.iloadN A6 hx rfl (hb hby d15_6) rfl (XS.ifNo A6 hx rfl (hb hby d15_7) rfl (Jvm.Free.XT.i0_gt_f (by decide)) k)))) ?_
  show Gets p e below _ (T5.setTop (mkF m 10 #[.val (.ref x), .val (.int (1 : Int32)), .val (.int (0 : Int32)), .unset] []))
  refine Gets.via (fun _ k => (XS.aloadN A6 hx rfl (hb hby d15_10) rfl rfl k)) ?_
  show Gets p e below _ (T5.setTop (mkF m 11 #[.val (.ref x), .val (.int (1 : Int32)), .val (.int (0 : Int32)), .unset] [(.ref x)]))
  refine X5.getF (host := "") (Or.inl (w79 hw)) Via.refl Pr3 rfl rfl (hb hby d15_11) fun T8 X8 => ?_
  have A9 := X8.at
  show Gets p e below _ (T8.setTop (mkF m 14 #[.val (.ref x), .val (.int (1 : Int32)), .val (.int (0 : Int32)), .unset] [(.ref de)]))
  refine X8.getS (host := "") (Or.inl (w78 hw)) Via.refl (X8.sta OD) rfl (hb hby d15_14) fun T10 X10 => ?_
  have A11 := X10.at
  show Gets p e below _ (T10.setTop (mkF m 17 #[.val (.ref x), .val (.int (1 : Int32)), .val (.int (0 : Int32)), .unset] [(.ref de), (.ref de)]))
  refine X10.acmpW hx rfl rfl rfl (pc0 := 17) (pc' := 45) (same := true) rfl (hb hby d15_17) rfl (by simp) (by decide) (by decide) ?_
  show Gets p e below _ (T10.setTop (mkF m 45 #[.val (.ref x), .val (.int (1 : Int32)), .val (.int (0 : Int32)), .unset] []))
  refine Gets.via (fun _ k => (XS.aloadN A11 hx rfl (hb hby d15_45) rfl rfl (XS.bipush A11 hx rfl (hb hby d15_46) (XS.iloadN A11 hx rfl (hb hby d15_48) rfl k)))) ?_
  show Gets p e below _ (T10.setTop (mkF m 49 #[.val (.ref x), .val (.int (1 : Int32)), .val (.int (0 : Int32)), .unset] [(.int (1 : Int32)), (.int (10 : Int32)), (.ref x)]))
  refine X10.callS (y := (⟨"java/lang/Math", "max", "(II)I"⟩ : MethodName)) (W := 1) (w105 hw) (w106 hw) (w107 hw) (w108 hw) (by decide) (X10.payM (sf := []) (rmmax_10_1 l Z a0 hw hEL zc O2 P5 de kde OD AD em OM el ee kee OL XL FL AE mr MR  h0 X10.old ) sf0 (w108 hw) (w107 hw) (by decide) (by decide)) rfl (by rw [hml]; rfl) (argsL := [(.int (10 : Int32)), (.int (1 : Int32))]) (rest := [(.ref x)]) (lenOf pd4 rfl) rfl rfl (by show 2 * 0 + _ ≤ _; exact Nat.le_of_eq rfl) (hb hby d15_49) (by decide) (by decide) fun T12 h12 vm12 v12 X12 C12 z12 q12 => ?_
  obtain ⟨rfl, K12⟩ := q12
  rw [K12] at X12 C12
  have A13 := X12.at
  show Gets p e below _ (T12.setTop (mkF m 52 #[.val (.ref x), .val (.int (1 : Int32)), .val (.int (0 : Int32)), .unset] [(.int (10 : Int32)), (.ref x)]))
  refine X12.newR (ad := "[Ljava/lang/Object;") (w109 hw) (w110 hw) rfl (hb hby d15_52) rfl (by decide) (cap := 10) (by decide) (by decide) (by decide) (by decide) (by decide) fun T14 h14 a14 k14 X14 C14 E14 g14 Z14 O14 V14 => ?_
  have z14 := E14.1
  have l14 := ltA V14.lt
  have V14_ : Arv Z h14 a14 k14 (.object "java/lang/Object") (10 : Int32) [.null, .null, .null, .null, .null, .null, .null, .null, .null, .null] .null := padN V14 10
  have A15 := X14.at
  show Gets p e below _ (T14.setTop (mkF m 55 #[.val (.ref x), .val (.int (1 : Int32)), .val (.int (0 : Int32)), .unset] [(.ref a14), (.ref x)]))
  refine Gets.via (fun _ k => (XS.dupX1 A15 hx rfl (hb hby d15_55) rfl rfl rfl k)) ?_
  show Gets p e below _ (T14.setTop (mkF m 56 #[.val (.ref x), .val (.int (1 : Int32)), .val (.int (0 : Int32)), .unset] [(.ref a14), (.ref x), (.ref a14)]))
  have f17 : Fld Z h14 x "java/util/ArrayList" "elementData" "[Ljava/lang/Object;" (.ref de) := Pr3.ext E14
  have f18 : Exa Z h14 x "java/util/ArrayList" := Pr0.ext E14
  refine X14.putF (host := "") (Or.inl (w79 hw)) Via.refl f17 f18 (Or.inl (w80 hw)) (w58 hw) (ty := (.array (.object "java/lang/Object"))) (by decide) rfl rfl (leA (by omega)) (Safe.exa X14.hZ.alike f18 (by decide) (by decide)) rfl rfl (hb hby d15_56) fun T16 h16 X16 C16 W16 F16 Z16 => ?_
  have z16 := W16.size
  have A19 := X16.at
  show Gets p e below _ (T16.setTop (mkF m 59 #[.val (.ref x), .val (.int (1 : Int32)), .val (.int (0 : Int32)), .unset] [(.ref a14)]))
  have f20 : Fld Z h14 x "java/util/AbstractList" "modCount" "I" (.int mc) := Pr1.ext E14
  have f21 : Fld Z h16 x "java/util/AbstractList" "modCount" "I" (.int mc) := f20.other W16 (Or.inr (slot_ne (t := .int) (t' := (.array (.object "java/lang/Object"))) (Or.inl (w77 hw)) (Or.inl (w80 hw)) (by decide) (by decide) (by decide)))
  have f22 : Fld Z h14 x "java/util/ArrayList" "size" "I" (.int (0 : Int32)) := Pr2.ext E14
  have f23 : Fld Z h16 x "java/util/ArrayList" "size" "I" (.int (0 : Int32)) := f22.other W16 (Or.inr (slot_ne (t := .int) (t' := (.array (.object "java/lang/Object"))) (Or.inl (w89 hw)) (Or.inl (w80 hw)) (by decide) (by decide) (by decide)))
  have f24 : Arv Z h16 a14 k14 (.object "java/lang/Object") (10 : Int32) [.null, .null, .null, .null, .null, .null, .null, .null, .null, .null] .null := V14_.other W16 (neA (by omega))
  have f25 : Exa Z h16 a14 "[Ljava/lang/Object;" := Z14.wr W16
  exact X16.retA hret rfl rfl rfl (hb hby d15_59) (by decide) (by decide) ⟨a14, k14, rfl, (((Keep.refl h0 [x]).ext E14).wr W16 (Or.inl (List.mem_of_getElem? (i := 0) rfl))), Z16, f21, f23, F16, f24, f25, O14, (leA (by omega)), (leA (by omega))⟩
abbrev RrmGrow : Room := { frames := 2, cells := 1, slots := 10, locals := 29 }
def QrmGrow (Z : State) (de : Addr) (el : Addr) (em : Addr) (x : Addr) (mc : Int32) (h0 : Heap) (v : Option Value) (h : Heap) : Prop := ∃ (d : Addr) (kd : ClassId), v = some (.ref d) ∧ Keep h0 h [x] ∧ Exa Z h x "java/util/ArrayList" ∧ Fld Z h x "java/util/AbstractList" "modCount" "I" (.int mc) ∧ Fld Z h x "java/util/ArrayList" "size" "I" (.int (0 : Int32)) ∧ Fld Z h x "java/util/ArrayList" "elementData" "[Ljava/lang/Object;" (.ref d) ∧ Arv Z h d kd (.object "java/lang/Object") (10 : Int32) [.null, .null, .null, .null, .null, .null, .null, .null, .null, .null] .null ∧ Exa Z h d "[Ljava/lang/Object;" ∧ Ovr Z kd "java/lang/Object" ∧ Z.heap.size ≤ d ∧ h0.size ≤ d
set_option maxRecDepth 65536 in
set_option maxHeartbeats 40000000 in
theorem rmGrow (l : Launch) (Z : State) (a0 : Array Value) (hw : ∀ d ∈ tables_1, d.before a0 Z = true) (hEL : EW Z a0 ([] : List (String × Nat))) (zc : Int32) (O2 : Sta Z Z.heap "java/lang/String" "COMPACT_STRINGS" "Z" (.int zc)) (P5 : ¬ zc = 0) (de : Addr) (kde : ClassId) (OD : Sta Z Z.heap "java/util/ArrayList" "DEFAULTCAPACITY_EMPTY_ELEMENTDATA" "[Ljava/lang/Object;" (.ref de)) (AD : Arv Z Z.heap de kde (.object "java/lang/Object") (0 : Int32) [] .null) (em : Addr) (OM : Sta Z Z.heap "java/util/ImmutableCollections" "EMPTY" "Ljava/lang/Object;" (.ref em)) (el ee : Addr) (kee : ClassId) (OL : Sta Z Z.heap "java/util/ImmutableCollections" "EMPTY_LIST" "Ljava/util/ImmutableCollections$ListN;" (.ref el)) (XL : Exa Z Z.heap el "java/util/ImmutableCollections$ListN") (FL : Fld Z Z.heap el "java/util/ImmutableCollections$ListN" "elements" "[Ljava/lang/Object;" (.ref ee)) (AE : Arv Z Z.heap ee kee (.object "java/lang/Object") (0 : Int32) [] .null) (mr : Addr) (MR : Mir Z "[Ljava/lang/Object;" mr) (x : Addr) (mc : Int32) (h0 : Heap) (O0 : Old Z Z.heap.size h0) (Pr0 : Exa Z h0 x "java/util/ArrayList") (Pr1 : Fld Z h0 x "java/util/AbstractList" "modCount" "I" (.int mc)) (Pr2 : Fld Z h0 x "java/util/ArrayList" "size" "I" (.int (0 : Int32))) (Pr3 : Fld Z h0 x "java/util/ArrayList" "elementData" "[Ljava/lang/Object;" (.ref de)) (Pr4 : Z.heap.size ≤ x) : Met l Z ([] : List (String × Nat)) (⟨"java/util/ArrayList", "grow", "()[Ljava/lang/Object;"⟩ : MethodName) jdk_38_method_7_code 1 (some (.array (.object "java/lang/Object"))) [] RrmGrow [] #[(.ref x)] h0 (QrmGrow Z de el em x mc h0) := by
  refine Met.start (a0 := a0) (Ls := #[.val (.ref x)]) pn14 hEL O0 (fun m => by first | (simp [entryFrame, mkF, argsToLocals, Value.category]; done) | rfl) ?_
  intro p e s m below meth cc T0 vm0 X0 sf0_ hby hml hret hnm
  have hx := X0.hx
  have zz := X0.ge
  have A0 := X0.at
  have l1 := ltA Pr0.lt
  have l2 := ltA Pr1.lt
  have l3 := ltA Pr2.lt
  have l4 := ltA Pr3.lt
  show Gets p e below _ (T0.setTop (mkF m 0 #[.val (.ref x)] []))
  refine Gets.via (fun _ k => (XS.aloadN A0 hx rfl (hb hby d14_0) rfl rfl (XS.aloadN A0 hx rfl (hb hby d14_1) rfl rfl k))) ?_
  show Gets p e below _ (T0.setTop (mkF m 2 #[.val (.ref x)] [(.ref x), (.ref x)]))
  refine X0.getF (host := "") (Or.inl (w88 hw)) Via.refl Pr2 rfl rfl (hb hby d14_2) fun T5 X5 => ?_
  have A6 := X5.at
  show Gets p e below _ (T5.setTop (mkF m 5 #[.val (.ref x)] [(.int (0 : Int32)), (.ref x)]))
  refine Gets.via (fun _ k => (XS.iconst A6 hx rfl (hb hby d14_5) (iaddV A6 hx rfl (hb hby d14_6) rfl (v := (1 : Int32)) (by decide) k))) ?_
  show Gets p e below _ (T5.setTop (mkF m 7 #[.val (.ref x)] [(.int (1 : Int32)), (.ref x)]))
  refine X5.callP (y := (⟨"java/util/ArrayList", "grow", "(I)[Ljava/lang/Object;"⟩ : MethodName)) (W := 0) (w100 hw) (w101 hw) (w103 hw) (w102 hw) (w104 hw) (by decide) (X5.payM (sf := []) (rmGrowI l Z a0 hw hEL zc O2 P5 de kde OD AD em OM el ee kee OL XL FL AE mr MR x mc h0 X5.old Pr0 Pr1 Pr2 Pr3 Pr4) sf0 (w104 hw) (w59 hw) (by decide) (by decide)) Pr0 rfl (by rw [hml]; rfl) (argsL := [(.int (1 : Int32))]) (rest := []) (lenOf pd15 rfl) rfl rfl (by show 2 * 0 + _ ≤ _; exact Nat.le_of_eq rfl) (hb hby d14_7) (by decide) (by decide) fun T7 h7 vm7 v7 X7 C7 z7 q7 => ?_
  obtain ⟨d7, kd7, rfl, K7, g7_0, g7_1, g7_2, g7_3, g7_4, g7_5, g7_6, g7_7, g7_8⟩ := q7
  have l8 := ltA g7_0.lt
  have l9 := ltA g7_1.lt
  have l10 := ltA g7_2.lt
  have l11 := ltA g7_3.lt
  have l12 := ltA g7_4.lt
  have l13 := ltA g7_5.lt
  have A14 := X7.at
  show Gets p e below _ (T7.setTop (mkF m 10 #[.val (.ref x)] [(.ref d7)]))
  exact X7.retA hret rfl rfl rfl (hb hby d14_10) (by decide) (by decide) ⟨d7, kd7, rfl, ((Keep.refl h0 [x]).trans K7 (allS (Or.inl (List.mem_of_getElem? (i := 0) rfl)) all0)), g7_0, g7_1, g7_2, g7_3, g7_4, g7_5, g7_6, g7_7, g7_8⟩
abbrev RrmAddT0 : Room := { frames := 3, cells := 1, slots := 10, locals := 41 }
def QrmAddT0 (Z : State) (de : Addr) (el : Addr) (em : Addr) (x : Addr) (y : Addr) (mc : Int32) (h0 : Heap) (v : Option Value) (h : Heap) : Prop := ∃ (d : Addr) (kd : ClassId), v = none ∧ Keep h0 h [x] ∧ Exa Z h x "java/util/ArrayList" ∧ Fld Z h x "java/util/AbstractList" "modCount" "I" (.int mc) ∧ Fld Z h x "java/util/ArrayList" "size" "I" (.int (1 : Int32)) ∧ Fld Z h x "java/util/ArrayList" "elementData" "[Ljava/lang/Object;" (.ref d) ∧ Arv Z h d kd (.object "java/lang/Object") (10 : Int32) [(.ref y), .null, .null, .null, .null, .null, .null, .null, .null, .null] .null ∧ Exa Z h d "[Ljava/lang/Object;" ∧ Ovr Z kd "java/lang/Object" ∧ Z.heap.size ≤ d ∧ h0.size ≤ d
set_option maxRecDepth 65536 in
set_option maxHeartbeats 40000000 in
theorem rmAddT0 (l : Launch) (Z : State) (a0 : Array Value) (hw : ∀ d ∈ tables_1, d.before a0 Z = true) (hEL : EW Z a0 ([] : List (String × Nat))) (zc : Int32) (O2 : Sta Z Z.heap "java/lang/String" "COMPACT_STRINGS" "Z" (.int zc)) (P5 : ¬ zc = 0) (de : Addr) (kde : ClassId) (OD : Sta Z Z.heap "java/util/ArrayList" "DEFAULTCAPACITY_EMPTY_ELEMENTDATA" "[Ljava/lang/Object;" (.ref de)) (AD : Arv Z Z.heap de kde (.object "java/lang/Object") (0 : Int32) [] .null) (em : Addr) (OM : Sta Z Z.heap "java/util/ImmutableCollections" "EMPTY" "Ljava/lang/Object;" (.ref em)) (el ee : Addr) (kee : ClassId) (OL : Sta Z Z.heap "java/util/ImmutableCollections" "EMPTY_LIST" "Ljava/util/ImmutableCollections$ListN;" (.ref el)) (XL : Exa Z Z.heap el "java/util/ImmutableCollections$ListN") (FL : Fld Z Z.heap el "java/util/ImmutableCollections$ListN" "elements" "[Ljava/lang/Object;" (.ref ee)) (AE : Arv Z Z.heap ee kee (.object "java/lang/Object") (0 : Int32) [] .null) (mr : Addr) (MR : Mir Z "[Ljava/lang/Object;" mr) (x : Addr) (y : Addr) (mc : Int32) (h0 : Heap) (O0 : Old Z Z.heap.size h0) (Pr0 : Exa Z h0 x "java/util/ArrayList") (Pr1 : Fld Z h0 x "java/util/AbstractList" "modCount" "I" (.int mc)) (Pr2 : Fld Z h0 x "java/util/ArrayList" "size" "I" (.int (0 : Int32))) (Pr3 : Fld Z h0 x "java/util/ArrayList" "elementData" "[Ljava/lang/Object;" (.ref de)) (Pr4 : Z.heap.size ≤ x) (Pr5 : Exa Z h0 y "org/holdfast/model/Level") : Met l Z ([] : List (String × Nat)) (⟨"java/util/ArrayList", "add", "(Ljava/lang/Object;[Ljava/lang/Object;I)V"⟩ : MethodName) jdk_38_method_24_code 4 (none) [] RrmAddT0 [] #[(.ref x), (.ref y), (.ref de), (.int (0 : Int32))] h0 (QrmAddT0 Z de el em x y mc h0) := by
  refine Met.start (a0 := a0) (Ls := #[.val (.ref x), .val (.ref y), .val (.ref de), .val (.int (0 : Int32))]) pn13 hEL O0 (fun m => by first | (simp [entryFrame, mkF, argsToLocals, Value.category]; done) | rfl) ?_
  intro p e s m below meth cc T0 vm0 X0 sf0_ hby hml hret hnm
  have hx := X0.hx
  have zz := X0.ge
  have A0 := X0.at
  have l1 := ltA Pr0.lt
  have l2 := ltA Pr1.lt
  have l3 := ltA Pr2.lt
  have l4 := ltA Pr3.lt
  have l5 := ltA Pr5.lt
  show Gets p e below _ (T0.setTop (mkF m 0 #[.val (.ref x), .val (.ref y), .val (.ref de), .val (.int (0 : Int32))] []))
  refine Gets.via (fun _ k => (XS.iloadN A0 hx rfl (hb hby d13_0) rfl (XS.aloadN A0 hx rfl (hb hby d13_1) rfl rfl k))) ?_
  show Gets p e below _ (T0.setTop (mkF m 2 #[.val (.ref x), .val (.ref y), .val (.ref de), .val (.int (0 : Int32))] [(.ref de), (.int (0 : Int32))]))
  have f6 : Arv Z h0 de kde (.object "java/lang/Object") (0 : Int32) [] .null := AD.ext X0.old.2
  refine X0.alen f6 rfl rfl (hb hby d13_2) ?_
  show Gets p e below _ (T0.setTop (mkF m 3 #[.val (.ref x), .val (.ref y), .val (.ref de), .val (.int (0 : Int32))] [(.int (0 : Int32)), (.int (0 : Int32))]))
  refine Gets.via (fun _ k => (XS.icmpNo A0 hx rfl (hb hby d13_3) rfl (Jvm.Free.XT.ii_ne_f (by decide)) k)) ?_
  show Gets p e below _ (T0.setTop (mkF m 6 #[.val (.ref x), .val (.ref y), .val (.ref de), .val (.int (0 : Int32))] []))
  refine Gets.via (fun _ k => (XS.aloadN A0 hx rfl (hb hby d13_6) rfl rfl k)) ?_
  show Gets p e below _ (T0.setTop (mkF m 7 #[.val (.ref x), .val (.ref y), .val (.ref de), .val (.int (0 : Int32))] [(.ref x)]))
  refine X0.callP (y := (⟨"java/util/ArrayList", "grow", "()[Ljava/lang/Object;"⟩ : MethodName)) (W := 0) (w95 hw) (w96 hw) (w98 hw) (w97 hw) (w99 hw) (by decide) (X0.payM (sf := []) (rmGrow l Z a0 hw hEL zc O2 P5 de kde OD AD em OM el ee kee OL XL FL AE mr MR x mc h0 X0.old Pr0 Pr1 Pr2 Pr3 Pr4) sf0 (w99 hw) (w59 hw) (by decide) (by decide)) Pr0 rfl (by rw [hml]; rfl) (argsL := []) (rest := []) (lenOf pd7 rfl) rfl rfl (by show 2 * 0 + _ ≤ _; exact Nat.le_of_eq rfl) (hb hby d13_7) (by decide) (by decide) fun T7 h7 vm7 v7 X7 C7 z7 q7 => ?_
  obtain ⟨d7, kd7, rfl, K7, g7_0, g7_1, g7_2, g7_3, g7_4, g7_5, g7_6, g7_7, g7_8⟩ := q7
  have l8 := ltA g7_0.lt
  have l9 := ltA g7_1.lt
  have l10 := ltA g7_2.lt
  have l11 := ltA g7_3.lt
  have l12 := ltA g7_4.lt
  have l13 := ltA g7_5.lt
  have A14 := X7.at
  show Gets p e below _ (T7.setTop (mkF m 10 #[.val (.ref x), .val (.ref y), .val (.ref de), .val (.int (0 : Int32))] [(.ref d7)]))
  refine Gets.via (fun _ k => (XS.astoreN A14 hx rfl (hb hby d13_10) rfl rfl (l' := #[.val (.ref x), .val (.ref y), .val (.ref d7), .val (.int (0 : Int32))]) rfl (XS.aloadN A14 hx rfl (hb hby d13_11) rfl rfl (XS.iloadN A14 hx rfl (hb hby d13_12) rfl (XS.aloadN A14 hx rfl (hb hby d13_13) rfl rfl k))))) ?_
  show Gets p e below _ (T7.setTop (mkF m 14 #[.val (.ref x), .val (.ref y), .val (.ref d7), .val (.int (0 : Int32))] [(.ref y), (.int (0 : Int32)), (.ref d7)]))
  have f16 : Exa Z h7 y "org/holdfast/model/Level" := Pr5.keep K7
  refine X7.stR g7_4 (stoV g7_4 g7_6 (Ins.of_exa f16 (w111 hw))) rfl (i := 0) (by decide) (by decide) (Nat.le_of_ble_eq_true rfl) (by decide) (leA (by omega)) rfl rfl (hb hby d13_14) fun T15 h15 X15 C15 K15 V15 => ?_
  have z15 := K15.1
  have V15_ : Arv Z h15 d7 kd7 (.object "java/lang/Object") (10 : Int32) [(.ref y), .null, .null, .null, .null, .null, .null, .null, .null, .null] .null := V15
  have A17 := X15.at
  show Gets p e below _ (T15.setTop (mkF m 15 #[.val (.ref x), .val (.ref y), .val (.ref d7), .val (.int (0 : Int32))] []))
  refine Gets.via (fun _ k => (XS.aloadN A17 hx rfl (hb hby d13_15) rfl rfl (XS.iloadN A17 hx rfl (hb hby d13_16) rfl (XS.iconst A17 hx rfl (hb hby d13_17) (iaddV A17 hx rfl (hb hby d13_18) rfl (v := (1 : Int32)) (by decide) k))))) ?_
  show Gets p e below _ (T15.setTop (mkF m 19 #[.val (.ref x), .val (.ref y), .val (.ref d7), .val (.int (0 : Int32))] [(.int (1 : Int32)), (.ref x)]))
  have f19 : Fld Z h15 x "java/util/ArrayList" "size" "I" (.int (0 : Int32)) := g7_2.keep K15 (ninS (neA (by omega)) nin0)
  have f20 : Exa Z h15 x "java/util/ArrayList" := g7_0.keep K15
  refine X15.putF (host := "") (Or.inl (w88 hw)) Via.refl f19 f20 (Or.inl (w89 hw)) (w58 hw) (ty := .int) (by decide) rfl rfl (leA (by omega)) (Safe.exa X15.hZ.alike f20 (by decide) (by decide)) rfl rfl (hb hby d13_19) fun T18 h18 X18 C18 W18 F18 Z18 => ?_
  have z18 := W18.size
  have A21 := X18.at
  show Gets p e below _ (T18.setTop (mkF m 22 #[.val (.ref x), .val (.ref y), .val (.ref d7), .val (.int (0 : Int32))] []))
  have f22 : Fld Z h15 x "java/util/AbstractList" "modCount" "I" (.int mc) := g7_1.keep K15 (ninS (neA (by omega)) nin0)
  have f23 : Fld Z h18 x "java/util/AbstractList" "modCount" "I" (.int mc) := f22.other W18 (Or.inr (slot_ne (t := .int) (t' := .int) (Or.inl (w77 hw)) (Or.inl (w89 hw)) (by decide) (by decide) (by decide)))
  have f24 : Fld Z h15 x "java/util/ArrayList" "elementData" "[Ljava/lang/Object;" (.ref d7) := g7_3.keep K15 (ninS (neA (by omega)) nin0)
  have f25 : Fld Z h18 x "java/util/ArrayList" "elementData" "[Ljava/lang/Object;" (.ref d7) := f24.other W18 (Or.inr (slot_ne (t := (.array (.object "java/lang/Object"))) (t' := .int) (Or.inl (w80 hw)) (Or.inl (w89 hw)) (by decide) (by decide) (by decide)))
  have f26 : Arv Z h18 d7 kd7 (.object "java/lang/Object") (10 : Int32) [(.ref y), .null, .null, .null, .null, .null, .null, .null, .null, .null] .null := V15_.other W18 (neA (by omega))
  have f27 : Exa Z h15 d7 "[Ljava/lang/Object;" := g7_5.keep K15
  have f28 : Exa Z h18 d7 "[Ljava/lang/Object;" := f27.wr W18
  exact X18.retV hret (hb hby d13_22) (by decide) (by decide) ⟨d7, kd7, rfl, ((((Keep.refl h0 [x]).trans K7 (allS (Or.inl (List.mem_of_getElem? (i := 0) rfl)) all0)).trans K15 (allS (Or.inr (leA (by omega))) all0)).wr W18 (Or.inl (List.mem_of_getElem? (i := 0) rfl))), Z18, f23, F18, f25, f26, f28, g7_6, g7_7, g7_8⟩
abbrev RrmAdd0 : Room := { frames := 4, cells := 1, slots := 10, locals := 56 }
def QrmAdd0 (Z : State) (de : Addr) (el : Addr) (em : Addr) (x : Addr) (y : Addr) (mc : Int32) (h0 : Heap) (v : Option Value) (h : Heap) : Prop := ∃ (d : Addr) (kd : ClassId), v = some (.int (1 : Int32)) ∧ Keep h0 h [x] ∧ Exa Z h x "java/util/ArrayList" ∧ Fld Z h x "java/util/AbstractList" "modCount" "I" (.int (mc + (1 : Int32))) ∧ Fld Z h x "java/util/ArrayList" "size" "I" (.int (1 : Int32)) ∧ Fld Z h x "java/util/ArrayList" "elementData" "[Ljava/lang/Object;" (.ref d) ∧ Arv Z h d kd (.object "java/lang/Object") (10 : Int32) [(.ref y), .null, .null, .null, .null, .null, .null, .null, .null, .null] .null ∧ Exa Z h d "[Ljava/lang/Object;" ∧ Ovr Z kd "java/lang/Object" ∧ Z.heap.size ≤ d ∧ h0.size ≤ d
set_option maxRecDepth 65536 in
set_option maxHeartbeats 40000000 in
theorem rmAdd0 (l : Launch) (Z : State) (a0 : Array Value) (hw : ∀ d ∈ tables_1, d.before a0 Z = true) (hEL : EW Z a0 ([] : List (String × Nat))) (zc : Int32) (O2 : Sta Z Z.heap "java/lang/String" "COMPACT_STRINGS" "Z" (.int zc)) (P5 : ¬ zc = 0) (de : Addr) (kde : ClassId) (OD : Sta Z Z.heap "java/util/ArrayList" "DEFAULTCAPACITY_EMPTY_ELEMENTDATA" "[Ljava/lang/Object;" (.ref de)) (AD : Arv Z Z.heap de kde (.object "java/lang/Object") (0 : Int32) [] .null) (em : Addr) (OM : Sta Z Z.heap "java/util/ImmutableCollections" "EMPTY" "Ljava/lang/Object;" (.ref em)) (el ee : Addr) (kee : ClassId) (OL : Sta Z Z.heap "java/util/ImmutableCollections" "EMPTY_LIST" "Ljava/util/ImmutableCollections$ListN;" (.ref el)) (XL : Exa Z Z.heap el "java/util/ImmutableCollections$ListN") (FL : Fld Z Z.heap el "java/util/ImmutableCollections$ListN" "elements" "[Ljava/lang/Object;" (.ref ee)) (AE : Arv Z Z.heap ee kee (.object "java/lang/Object") (0 : Int32) [] .null) (mr : Addr) (MR : Mir Z "[Ljava/lang/Object;" mr) (x : Addr) (y : Addr) (mc : Int32) (h0 : Heap) (O0 : Old Z Z.heap.size h0) (Pr0 : Exa Z h0 x "java/util/ArrayList") (Pr1 : Fld Z h0 x "java/util/AbstractList" "modCount" "I" (.int mc)) (Pr2 : Fld Z h0 x "java/util/ArrayList" "size" "I" (.int (0 : Int32))) (Pr3 : Fld Z h0 x "java/util/ArrayList" "elementData" "[Ljava/lang/Object;" (.ref de)) (Pr4 : Z.heap.size ≤ x) (Pr5 : Exa Z h0 y "org/holdfast/model/Level") : Met l Z ([] : List (String × Nat)) (⟨"java/util/ArrayList", "add", "(Ljava/lang/Object;)Z"⟩ : MethodName) jdk_38_method_25_code 2 (some .boolean) [] RrmAdd0 [] #[(.ref x), (.ref y)] h0 (QrmAdd0 Z de el em x y mc h0) := by
  refine Met.start (a0 := a0) (Ls := #[.val (.ref x), .val (.ref y)]) pn12 hEL O0 (fun m => by first | (simp [entryFrame, mkF, argsToLocals, Value.category]; done) | rfl) ?_
  intro p e s m below meth cc T0 vm0 X0 sf0_ hby hml hret hnm
  have hx := X0.hx
  have zz := X0.ge
  have A0 := X0.at
  have l1 := ltA Pr0.lt
  have l2 := ltA Pr1.lt
  have l3 := ltA Pr2.lt
  have l4 := ltA Pr3.lt
  have l5 := ltA Pr5.lt
  show Gets p e below _ (T0.setTop (mkF m 0 #[.val (.ref x), .val (.ref y)] []))
  refine Gets.via (fun _ k => (XS.aloadN A0 hx rfl (hb hby d12_0) rfl rfl (XS.dup A0 hx rfl (hb hby d12_1) rfl rfl k))) ?_
  show Gets p e below _ (T0.setTop (mkF m 2 #[.val (.ref x), .val (.ref y)] [(.ref x), (.ref x)]))
  refine X0.getF (host := "") (Or.inl (w86 hw)) (Via.of (w87 hw)) Pr1 rfl rfl (hb hby d12_2) fun T6 X6 => ?_
  have A7 := X6.at
  show Gets p e below _ (T6.setTop (mkF m 5 #[.val (.ref x), .val (.ref y)] [(.int mc), (.ref x)]))
  refine Gets.via (fun _ k => (XS.iconst A7 hx rfl (hb hby d12_5) (XS.iadd A7 hx rfl (hb hby d12_6) rfl k))) ?_
  show Gets p e below _ (T6.setTop (mkF m 7 #[.val (.ref x), .val (.ref y)] [(.int (mc + (1 : Int32))), (.ref x)]))
  refine X6.putF (host := "") (Or.inl (w86 hw)) (Via.of (w87 hw)) Pr1 Pr0 (Or.inl (w77 hw)) (w58 hw) (ty := .int) (by decide) rfl rfl (leA (by omega)) (Safe.exa X6.hZ.alike Pr0 (by decide) (by decide)) rfl rfl (hb hby d12_7) fun T8 h8 X8 C8 W8 F8 Z8 => ?_
  have z8 := W8.size
  have A9 := X8.at
  show Gets p e below _ (T8.setTop (mkF m 10 #[.val (.ref x), .val (.ref y)] []))
  refine Gets.via (fun _ k => (XS.aloadN A9 hx rfl (hb hby d12_10) rfl rfl (XS.aloadN A9 hx rfl (hb hby d12_11) rfl rfl (XS.aloadN A9 hx rfl (hb hby d12_12) rfl rfl k)))) ?_
  show Gets p e below _ (T8.setTop (mkF m 13 #[.val (.ref x), .val (.ref y)] [(.ref x), (.ref y), (.ref x)]))
  have f11 : Fld Z h8 x "java/util/ArrayList" "elementData" "[Ljava/lang/Object;" (.ref de) := Pr3.other W8 (Or.inr (slot_ne (t := (.array (.object "java/lang/Object"))) (t' := .int) (Or.inl (w80 hw)) (Or.inl (w77 hw)) (by decide) (by decide) (by decide)))
  refine X8.getF (host := "") (Or.inl (w79 hw)) Via.refl f11 rfl rfl (hb hby d12_13) fun T10 X10 => ?_
  have A12 := X10.at
  show Gets p e below _ (T10.setTop (mkF m 16 #[.val (.ref x), .val (.ref y)] [(.ref de), (.ref y), (.ref x)]))
  refine Gets.via (fun _ k => (XS.aloadN A12 hx rfl (hb hby d12_16) rfl rfl k)) ?_
  show Gets p e below _ (T10.setTop (mkF m 17 #[.val (.ref x), .val (.ref y)] [(.ref x), (.ref de), (.ref y), (.ref x)]))
  have f14 : Fld Z h8 x "java/util/ArrayList" "size" "I" (.int (0 : Int32)) := Pr2.other W8 (Or.inr (slot_ne (t := .int) (t' := .int) (Or.inl (w89 hw)) (Or.inl (w77 hw)) (by decide) (by decide) (by decide)))
  refine X10.getF (host := "") (Or.inl (w88 hw)) Via.refl f14 rfl rfl (hb hby d12_17) fun T13 X13 => ?_
  have A15 := X13.at
  show Gets p e below _ (T13.setTop (mkF m 20 #[.val (.ref x), .val (.ref y)] [(.int (0 : Int32)), (.ref de), (.ref y), (.ref x)]))
  have f16 : Exa Z h8 y "org/holdfast/model/Level" := Pr5.wr W8
  refine X13.callP (y := (⟨"java/util/ArrayList", "add", "(Ljava/lang/Object;[Ljava/lang/Object;I)V"⟩ : MethodName)) (W := 0) (w90 hw) (w91 hw) (w93 hw) (w92 hw) (w94 hw) (by decide) (X13.payM (sf := []) (rmAddT0 l Z a0 hw hEL zc O2 P5 de kde OD AD em OM el ee kee OL XL FL AE mr MR x y (mc + (1 : Int32)) h8 X13.old Z8 F8 f14 f11 Pr4 f16) sf0 (w94 hw) (w59 hw) (by decide) (by decide)) Z8 rfl (by rw [hml]; rfl) (argsL := [(.ref y), (.ref de), (.int (0 : Int32))]) (rest := []) (lenOf pd16 rfl) rfl rfl (by show 2 * 0 + _ ≤ _; exact Nat.le_of_eq rfl) (hb hby d12_20) (by decide) (by decide) fun T17 h17 vm17 v17 X17 C17 z17 q17 => ?_
  obtain ⟨d17, kd17, rfl, K17, g17_0, g17_1, g17_2, g17_3, g17_4, g17_5, g17_6, g17_7, g17_8⟩ := q17
  have l18 := ltA g17_0.lt
  have l19 := ltA g17_1.lt
  have l20 := ltA g17_2.lt
  have l21 := ltA g17_3.lt
  have l22 := ltA g17_4.lt
  have l23 := ltA g17_5.lt
  have A24 := X17.at
  show Gets p e below _ (T17.setTop (mkF m 23 #[.val (.ref x), .val (.ref y)] []))
  refine Gets.via (fun _ k => (XS.iconst A24 hx rfl (hb hby d12_23) k)) ?_
  show Gets p e below _ (T17.setTop (mkF m 24 #[.val (.ref x), .val (.ref y)] [(.int (1 : Int32))]))
  exact X17.retI hret (by decide) (by simp) (hb hby d12_24) (by decide) (by decide) ⟨d17, kd17, rfl, (((Keep.refl h0 [x]).wr W8 (Or.inl (List.mem_of_getElem? (i := 0) rfl))).trans K17 (allS (Or.inl (List.mem_of_getElem? (i := 0) rfl)) all0)), g17_0, g17_1, g17_2, g17_3, g17_4, g17_5, g17_6, g17_7, (leA (by omega))⟩
abbrev RrmLaw : Room := room_1
def QrmLaw (Z : State) (de : Addr) (el : Addr) (em : Addr) (p0 : Int32) (p1 : Int32) (p2 : Int32) (p3 : Int32) (h0 : Heap) (v : Option Value) (h : Heap) : Prop := v = some (.int (1 : Int32)) ∧ Keep h0 h []
set_option maxRecDepth 65536 in
set_option maxHeartbeats 40000000 in
theorem rmLaw (l : Launch) (Z : State) (a0 : Array Value) (hw : ∀ d ∈ tables_1, d.before a0 Z = true) (hEL : EW Z a0 ([] : List (String × Nat))) (zc : Int32) (O2 : Sta Z Z.heap "java/lang/String" "COMPACT_STRINGS" "Z" (.int zc)) (P5 : ¬ zc = 0) (de : Addr) (kde : ClassId) (OD : Sta Z Z.heap "java/util/ArrayList" "DEFAULTCAPACITY_EMPTY_ELEMENTDATA" "[Ljava/lang/Object;" (.ref de)) (AD : Arv Z Z.heap de kde (.object "java/lang/Object") (0 : Int32) [] .null) (em : Addr) (OM : Sta Z Z.heap "java/util/ImmutableCollections" "EMPTY" "Ljava/lang/Object;" (.ref em)) (el ee : Addr) (kee : ClassId) (OL : Sta Z Z.heap "java/util/ImmutableCollections" "EMPTY_LIST" "Ljava/util/ImmutableCollections$ListN;" (.ref el)) (XL : Exa Z Z.heap el "java/util/ImmutableCollections$ListN") (FL : Fld Z Z.heap el "java/util/ImmutableCollections$ListN" "elements" "[Ljava/lang/Object;" (.ref ee)) (AE : Arv Z Z.heap ee kee (.object "java/lang/Object") (0 : Int32) [] .null) (mr : Addr) (MR : Mir Z "[Ljava/lang/Object;" mr) (p0 : Int32) (p1 : Int32) (p2 : Int32) (p3 : Int32) (h0 : Heap) (O0 : Old Z Z.heap.size h0)  : Met l Z ([] : List (String × Nat)) x code maxLocals ret tables_1 RrmLaw [] #[(.int p0), (.int p1), (.int p2), (.int p3)] h0 (QrmLaw Z de el em p0 p1 p2 p3 h0) := by
  refine Met.start (a0 := a0) (Ls := #[.val (.int p0), .val (.int p1), .val (.int p2), .val (.int p3), .unset, .unset, .unset, .unset, .unset, .unset, .unset]) pn40 hEL O0 (fun m => by first | (simp [entryFrame, mkF, argsToLocals, Value.category, maxLocals]; done) | rfl) ?_
  intro p e s m below meth cc T0 vm0 X0 sf0_ hby hml hret hnm
  have hx := X0.hx
  have zz := X0.ge
  have A0 := X0.at
  show Gets p e below _ (T0.setTop (mkF m 0 #[.val (.int p0), .val (.int p1), .val (.int p2), .val (.int p3), .unset, .unset, .unset, .unset, .unset, .unset, .unset] []))
  refine Gets.via (fun _ k => (XS.aconstNull A0 hx rfl (hb hby at_0) (XS.astore A0 hx rfl (hb hby at_1) rfl rfl (l' := #[.val (.int p0), .val (.int p1), .val (.int p2), .val (.int p3), .val .null, .unset, .unset, .unset, .unset, .unset, .unset]) rfl (XS.iloadN A0 hx rfl (hb hby at_3) rfl (XS.iconst A0 hx rfl (hb hby at_4) (XS.iand A0 hx rfl (hb hby at_5) rfl k)))))) ?_
  show Gets p e below _ (T0.setTop (mkF m 6 #[.val (.int p0), .val (.int p1), .val (.int p2), .val (.int p3), .val .null, .unset, .unset, .unset, .unset, .unset, .unset] [(.int (p2 &&& (1 : Int32)))]))
  by_cases b6 : (p2 &&& (1 : Int32)) = (0 : Int32)
  · refine Gets.via (fun _ k => (XS.ifNo A0 hx rfl (hb hby at_6) rfl (Jvm.Free.XT.i0_ne_f b6) k)) ?_
    show Gets p e below _ (T0.setTop (mkF m 9 #[.val (.int p0), .val (.int p1), .val (.int p2), .val (.int p3), .val .null, .unset, .unset, .unset, .unset, .unset, .unset] []))
    refine Gets.via (fun _ k => (XS.iconst A0 hx rfl (hb hby at_9) k)) ?_
    show Gets p e below _ (T0.setTop (mkF m 10 #[.val (.int p0), .val (.int p1), .val (.int p2), .val (.int p3), .val .null, .unset, .unset, .unset, .unset, .unset, .unset] [(.int (2 : Int32))]))
    refine X0.newA (aty := .char) (w0 hw) rfl (hb hby at_10) rfl (by decide) (cap := 2) (by decide) (by decide) (by decide) (by decide) fun T1 h1 a1 k1 X1 C1 E1 g1 S1 V1 => ?_
    have z1 := E1.1
    have l1 := ltA V1.lt
    have V1_ : Arv Z h1 a1 k1 .char (2 : Int32) [(.int (0 : Int32)), (.int (0 : Int32))] (.int (0 : Int32)) := padN V1 2
    have A2 := X1.at
    show Gets p e below _ (T1.setTop (mkF m 12 #[.val (.int p0), .val (.int p1), .val (.int p2), .val (.int p3), .val .null, .unset, .unset, .unset, .unset, .unset, .unset] [(.ref a1)]))
    refine Gets.via (fun _ k => (XS.astore A2 hx rfl (hb hby at_12) rfl rfl (l' := #[.val (.int p0), .val (.int p1), .val (.int p2), .val (.int p3), .val .null, .val (.ref a1), .unset, .unset, .unset, .unset, .unset]) rfl (XS.aload A2 hx rfl (hb hby at_14) rfl rfl (XS.iconst A2 hx rfl (hb hby at_16) (XS.iloadN A2 hx rfl (hb hby at_17) rfl (XS.sipush A2 hx rfl (hb hby at_18) (XS.iand A2 hx rfl (hb hby at_21) rfl k))))))) ?_
    show Gets p e below _ (T1.setTop (mkF m 22 #[.val (.int p0), .val (.int p1), .val (.int p2), .val (.int p3), .val .null, .val (.ref a1), .unset, .unset, .unset, .unset, .unset] [(.int (p0 &&& (255 : Int32))), (.int (0 : Int32)), (.ref a1)]))
    refine Gets.via (fun _ k => (i2cV A2 hx rfl (hb hby at_22) rfl (v := (p0 &&& (255 : Int32))) (i2c_m255 _) k)) ?_
    show Gets p e below _ (T1.setTop (mkF m 23 #[.val (.int p0), .val (.int p1), .val (.int p2), .val (.int p3), .val .null, .val (.ref a1), .unset, .unset, .unset, .unset, .unset] [(.int (p0 &&& (255 : Int32))), (.int (0 : Int32)), (.ref a1)]))
    refine X1.stC V1_ (i := 0) (by decide) (by decide) (Nat.le_of_ble_eq_true rfl) (by decide) (v := (p0 &&& (255 : Int32))) (i2c_m255 _) (leA (by omega)) rfl rfl (hb hby at_23) fun T3 h3 X3 C3 K3 V3 => ?_
    have z3 := K3.1
    have V3_ : Arv Z h3 a1 k1 .char (2 : Int32) [(.int (p0 &&& (255 : Int32))), (.int (0 : Int32))] (.int (0 : Int32)) := V3
    have A4 := X3.at
    show Gets p e below _ (T3.setTop (mkF m 24 #[.val (.int p0), .val (.int p1), .val (.int p2), .val (.int p3), .val .null, .val (.ref a1), .unset, .unset, .unset, .unset, .unset] []))
    refine Gets.via (fun _ k => (XS.aload A4 hx rfl (hb hby at_24) rfl rfl (XS.iconst A4 hx rfl (hb hby at_26) (XS.iloadN A4 hx rfl (hb hby at_27) rfl (XS.sipush A4 hx rfl (hb hby at_28) (XS.iand A4 hx rfl (hb hby at_31) rfl (i2cV A4 hx rfl (hb hby at_32) rfl (v := (p1 &&& (255 : Int32))) (i2c_m255 _) k))))))) ?_
    show Gets p e below _ (T3.setTop (mkF m 33 #[.val (.int p0), .val (.int p1), .val (.int p2), .val (.int p3), .val .null, .val (.ref a1), .unset, .unset, .unset, .unset, .unset] [(.int (p1 &&& (255 : Int32))), (.int (1 : Int32)), (.ref a1)]))
    refine X3.stC V3_ (i := 1) (by decide) (by decide) (Nat.le_of_ble_eq_true rfl) (by decide) (v := (p1 &&& (255 : Int32))) (i2c_m255 _) (leA (by omega)) rfl rfl (hb hby at_33) fun T5 h5 X5 C5 K5 V5 => ?_
    have z5 := K5.1
    have V5_ : Arv Z h5 a1 k1 .char (2 : Int32) [(.int (p0 &&& (255 : Int32))), (.int (p1 &&& (255 : Int32)))] (.int (0 : Int32)) := V5
    have A6 := X5.at
    show Gets p e below _ (T5.setTop (mkF m 34 #[.val (.int p0), .val (.int p1), .val (.int p2), .val (.int p3), .val .null, .val (.ref a1), .unset, .unset, .unset, .unset, .unset] []))
    refine X5.new (w1 hw) (w2 hw) (w3 hw) rfl (hb hby at_34) (by decide) (by decide) fun T7 h7 a7 X7 C7 E7 g7 Z7 S7 D7 => ?_
    have z7 := E7.1
    have l7 := ltA Z7.lt
    have A8 := X7.at
    show Gets p e below _ (T7.setTop (mkF m 37 #[.val (.int p0), .val (.int p1), .val (.int p2), .val (.int p3), .val .null, .val (.ref a1), .unset, .unset, .unset, .unset, .unset] [(.ref a7)]))
    refine Gets.via (fun _ k => (XS.dup A8 hx rfl (hb hby at_37) rfl rfl (XS.aload A8 hx rfl (hb hby at_38) rfl rfl k))) ?_
    show Gets p e below _ (T7.setTop (mkF m 40 #[.val (.int p0), .val (.int p1), .val (.int p2), .val (.int p3), .val .null, .val (.ref a1), .unset, .unset, .unset, .unset, .unset] [(.ref a1), (.ref a7), (.ref a7)]))
    have f9 : Arv Z h7 a1 k1 .char (2 : Int32) [(.int (p0 &&& (255 : Int32))), (.int (p1 &&& (255 : Int32)))] (.int (0 : Int32)) := V5_.ext E7
    refine X7.callI (y := (⟨"java/lang/String", "<init>", "([C)V"⟩ : MethodName)) (W := 1) rfl (w4 hw) (w5 hw) (w6 hw) (by decide) (payStr X7 hw (w2 hw) [(p0 &&& (255 : Int32)), (p1 &&& (255 : Int32))] 2 (leA (by omega)) Z7 (D7 (Or.inr (w29 hw)) (ty := (.array .byte)) (by decide) : Fld Z h7 a7 "java/lang/String" "value" "[B" .null) (D7 (Or.inr (w27 hw)) (ty := .byte) (by decide) : Fld Z h7 a7 "java/lang/String" "coder" "B" (.int (0 : Int32))) f9 O2 P5 rfl rfl (by decide) (by decide) (allI (m255 _) (allI (m255 _) allN)) (by decide) (by decide) S7) rfl (by rw [hml]; rfl) (a := a7) (argsL := [(.ref a1)]) (rest := [(.ref a7)]) (lenOf pd13 rfl) rfl rfl (by show 2 * 0 + _ ≤ _; exact Nat.le_of_eq rfl) (hb hby at_40) (by decide) (by decide) fun T10 h10 vm10 v10 X10 C10 z10 q10 => ?_
    obtain ⟨t10, kb10, rfl, K10, g10_0, g10_1, g10_2, g10_3, g10_4⟩ := q10
    have g10_5 : Str Z h10 a7 t10 kb10 [(p0 &&& (255 : Int32)), (p1 &&& (255 : Int32))] := ⟨g10_0, g10_1, g10_2, g10_3, (allI (m255 _) (allI (m255 _) allN)), Nat.le_of_ble_eq_true rfl⟩
    have l11 := ltA g10_5.lt
    have l12 := ltA g10_5.lb
    have A13 := X10.at
    show Gets p e below _ (T10.setTop (mkF m 43 #[.val (.int p0), .val (.int p1), .val (.int p2), .val (.int p3), .val .null, .val (.ref a1), .unset, .unset, .unset, .unset, .unset] [(.ref a7)]))
    refine Gets.via (fun _ k => (XS.astore A13 hx rfl (hb hby at_43) rfl rfl (l' := #[.val (.int p0), .val (.int p1), .val (.int p2), .val (.int p3), .val (.ref a7), .val (.ref a1), .unset, .unset, .unset, .unset, .unset]) rfl k)) ?_
    show Gets p e below _ (T10.setTop (mkF m 45 #[.val (.int p0), .val (.int p1), .val (.int p2), .val (.int p3), .val (.ref a7), .val (.ref a1), .unset, .unset, .unset, .unset, .unset] []))
    refine X10.new (w30 hw) (w31 hw) (w32 hw) rfl (hb hby at_45) (by decide) (by decide) fun T14 h14 a14 X14 C14 E14 g14 Z14 S14 D14 => ?_
    have z14 := E14.1
    have l14 := ltA Z14.lt
    have A15 := X14.at
    show Gets p e below _ (T14.setTop (mkF m 48 #[.val (.int p0), .val (.int p1), .val (.int p2), .val (.int p3), .val (.ref a7), .val (.ref a1), .unset, .unset, .unset, .unset, .unset] [(.ref a14)]))
    refine Gets.via (fun _ k => (XS.dup A15 hx rfl (hb hby at_48) rfl rfl (XS.iloadN A15 hx rfl (hb hby at_49) rfl k))) ?_
    show Gets p e below _ (T14.setTop (mkF m 50 #[.val (.int p0), .val (.int p1), .val (.int p2), .val (.int p3), .val (.ref a7), .val (.ref a1), .unset, .unset, .unset, .unset, .unset] [(.int p3), (.ref a14), (.ref a14)]))
    have hlv : ¬ ((p3 &&& (1073741823 : Int32)) + (1 : Int32)) < (1 : Int32) := lvl_ok p3
    refine X14.ldcI (w33 hw) rfl (hb hby at_50) ?_
    show Gets p e below _ (T14.setTop (mkF m 52 #[.val (.int p0), .val (.int p1), .val (.int p2), .val (.int p3), .val (.ref a7), .val (.ref a1), .unset, .unset, .unset, .unset, .unset] [(.int (1073741823 : Int32)), (.int p3), (.ref a14), (.ref a14)]))
    refine Gets.via (fun _ k => (XS.iand A15 hx rfl (hb hby at_52) rfl (XS.iconst A15 hx rfl (hb hby at_53) (XS.iadd A15 hx rfl (hb hby at_54) rfl (XS.aconstNull A15 hx rfl (hb hby at_55) k))))) ?_
    show Gets p e below _ (T14.setTop (mkF m 56 #[.val (.int p0), .val (.int p1), .val (.int p2), .val (.int p3), .val (.ref a7), .val (.ref a1), .unset, .unset, .unset, .unset, .unset] [.null, (.int ((p3 &&& (1073741823 : Int32)) + (1 : Int32))), (.ref a14), (.ref a14)]))
    refine X14.ldcO (w34 hw) (wSt hw) rfl (hb hby at_56) (n := 4) (by decide) (by decide) (by decide) (by decide) fun T17 h17 vm17 a17 X17 C17 E17 => ?_
    have z17 := E17.1
    have A18 := X17.at
    show Gets p e below _ (T17.setTop (mkF m 58 #[.val (.int p0), .val (.int p1), .val (.int p2), .val (.int p3), .val (.ref a7), .val (.ref a1), .unset, .unset, .unset, .unset, .unset] [(.ref a17), .null, (.int ((p3 &&& (1073741823 : Int32)) + (1 : Int32))), (.ref a14), (.ref a14)]))
    have f19 : Exa Z h17 a14 "org/holdfast/model/Level" := Z14.ext E17
    have f20 : Fld Z h17 a14 "org/holdfast/model/Level" "level" "I" (.int (0 : Int32)) := (D14 (Or.inr (w52 hw)) (ty := .int) (by decide) : Fld Z h14 a14 "org/holdfast/model/Level" "level" "I" (.int (0 : Int32))).ext E17
    have f21 : Fld Z h17 a14 "org/holdfast/model/Level" "caption" "Ljava/lang/String;" .null := (D14 (Or.inr (w54 hw)) (ty := (.object "java/lang/String")) (by decide) : Fld Z h14 a14 "org/holdfast/model/Level" "caption" "Ljava/lang/String;" .null).ext E17
    have f22 : Fld Z h17 a14 "org/holdfast/model/Level" "value" "Ljava/lang/String;" .null := (D14 (Or.inr (w56 hw)) (ty := (.object "java/lang/String")) (by decide) : Fld Z h14 a14 "org/holdfast/model/Level" "value" "Ljava/lang/String;" .null).ext E17
    refine X17.callI (y := (⟨"org/holdfast/model/Level", "<init>", "(ILjava/lang/String;Ljava/lang/String;)V"⟩ : MethodName)) (W := 1) rfl (w37 hw) (w38 hw) (w39 hw) (by decide) (X17.payM (sf := []) (rm6 l Z a0 hw hEL zc O2 P5 de kde OD AD em OM el ee kee OL XL FL AE mr MR a14 ((p3 &&& (1073741823 : Int32)) + (1 : Int32)) a17 h17 X17.old f19 f20 f21 f22 (leA (by omega)) hlv) sf0 (w39 hw) (w32 hw) (by decide) (by decide)) rfl (by rw [hml]; rfl) (a := a14) (argsL := [(.int ((p3 &&& (1073741823 : Int32)) + (1 : Int32))), .null, (.ref a17)]) (rest := [(.ref a14)]) (lenOf pd14 rfl) rfl rfl (by show 2 * 0 + _ ≤ _; exact Nat.le_of_eq rfl) (hb hby at_58) (by decide) (by decide) fun T23 h23 vm23 v23 X23 C23 z23 q23 => ?_
    obtain ⟨rfl, K23, g23_0⟩ := q23
    have l24 := ltA g23_0.lt
    have A25 := X23.at
    show Gets p e below _ (T23.setTop (mkF m 61 #[.val (.int p0), .val (.int p1), .val (.int p2), .val (.int p3), .val (.ref a7), .val (.ref a1), .unset, .unset, .unset, .unset, .unset] [(.ref a14)]))
    refine Gets.via (fun _ k => (XS.astore A25 hx rfl (hb hby at_61) rfl rfl (l' := #[.val (.int p0), .val (.int p1), .val (.int p2), .val (.int p3), .val (.ref a7), .val (.ref a14), .unset, .unset, .unset, .unset, .unset]) rfl k)) ?_
    show Gets p e below _ (T23.setTop (mkF m 63 #[.val (.int p0), .val (.int p1), .val (.int p2), .val (.int p3), .val (.ref a7), .val (.ref a14), .unset, .unset, .unset, .unset, .unset] []))
    refine X23.new (w57 hw) (w58 hw) (w59 hw) rfl (hb hby at_63) (by decide) (by decide) fun T26 h26 a26 X26 C26 E26 g26 Z26 S26 D26 => ?_
    have z26 := E26.1
    have l26 := ltA Z26.lt
    have A27 := X26.at
    show Gets p e below _ (T26.setTop (mkF m 66 #[.val (.int p0), .val (.int p1), .val (.int p2), .val (.int p3), .val (.ref a7), .val (.ref a14), .unset, .unset, .unset, .unset, .unset] [(.ref a26)]))
    refine Gets.via (fun _ k => (XS.dup A27 hx rfl (hb hby at_66) rfl rfl k)) ?_
    show Gets p e below _ (T26.setTop (mkF m 67 #[.val (.int p0), .val (.int p1), .val (.int p2), .val (.int p3), .val (.ref a7), .val (.ref a14), .unset, .unset, .unset, .unset, .unset] [(.ref a26), (.ref a26)]))
    refine X26.callI (y := (⟨"java/util/ArrayList", "<init>", "()V"⟩ : MethodName)) (W := 1) rfl (w60 hw) (w61 hw) (w62 hw) (by decide) (X26.payM (sf := []) (rm9 l Z a0 hw hEL zc O2 P5 de kde OD AD em OM el ee kee OL XL FL AE mr MR a26 h26 X26.old Z26 (D26 (Or.inl (w77 hw)) (ty := .int) (by decide) : Fld Z h26 a26 "java/util/AbstractList" "modCount" "I" (.int (0 : Int32))) (D26 (Or.inl (w89 hw)) (ty := .int) (by decide) : Fld Z h26 a26 "java/util/ArrayList" "size" "I" (.int (0 : Int32))) ((D26 (Or.inl (w80 hw)) (ty := (.array (.object "java/lang/Object"))) (by decide) : Fld Z h26 a26 "java/util/ArrayList" "elementData" "[Ljava/lang/Object;" .null)) (leA (by omega))) sf0 (w62 hw) (w59 hw) (by decide) (by decide)) rfl (by rw [hml]; rfl) (a := a26) (argsL := []) (rest := [(.ref a26)]) (lenOf pd0 rfl) rfl rfl (by show 2 * 0 + _ ≤ _; exact Nat.le_of_eq rfl) (hb hby at_67) (by decide) (by decide) fun T28 h28 vm28 v28 X28 C28 z28 q28 => ?_
    obtain ⟨rfl, K28, g28_0, g28_1, g28_2, g28_3⟩ := q28
    have l29 := ltA g28_0.lt
    have l30 := ltA g28_1.lt
    have l31 := ltA g28_2.lt
    have l32 := ltA g28_3.lt
    have A33 := X28.at
    show Gets p e below _ (T28.setTop (mkF m 70 #[.val (.int p0), .val (.int p1), .val (.int p2), .val (.int p3), .val (.ref a7), .val (.ref a14), .unset, .unset, .unset, .unset, .unset] [(.ref a26)]))
    refine Gets.via (fun _ k => (XS.astore A33 hx rfl (hb hby at_70) rfl rfl (l' := #[.val (.int p0), .val (.int p1), .val (.int p2), .val (.int p3), .val (.ref a7), .val (.ref a14), .val (.ref a26), .unset, .unset, .unset, .unset]) rfl (XS.aload A33 hx rfl (hb hby at_72) rfl rfl (XS.aload A33 hx rfl (hb hby at_74) rfl rfl k)))) ?_
    show Gets p e below _ (T28.setTop (mkF m 76 #[.val (.int p0), .val (.int p1), .val (.int p2), .val (.int p3), .val (.ref a7), .val (.ref a14), .val (.ref a26), .unset, .unset, .unset, .unset] [(.ref a14), (.ref a26)]))
    have f34 : Exa Z h26 a14 "org/holdfast/model/Level" := g23_0.ext E26
    have f35 : Exa Z h28 a14 "org/holdfast/model/Level" := f34.keep K28
    refine X28.callV (y := (⟨"java/util/ArrayList", "add", "(Ljava/lang/Object;)Z"⟩ : MethodName)) (z := (⟨"java/util/ArrayList", "add", "(Ljava/lang/Object;)Z"⟩ : MethodName)) (W := 0) (w81 hw) (w82 hw) (w84 hw) (w83 hw) (nfs rfl (w84 hw)) (by decide) (X28.payM (sf := []) (rmAdd0 l Z a0 hw hEL zc O2 P5 de kde OD AD em OM el ee kee OL XL FL AE mr MR a26 a14 (0 : Int32) h28 X28.old g28_0 g28_1 g28_2 g28_3 (leA (by omega)) f35) sf0 (w85 hw) (w59 hw) (by decide) (by decide)) g28_0 rfl (by rw [hml]; rfl) (argsL := [(.ref a14)]) (rest := []) (lenOf pd17 rfl) rfl rfl (by show 2 * 0 + _ ≤ _; exact Nat.le_of_eq rfl) (hb hby at_76) (by decide) (by decide) fun T36 h36 vm36 v36 X36 C36 z36 q36 => ?_
    obtain ⟨d36, kd36, rfl, K36, g36_0, g36_1, g36_2, g36_3, g36_4, g36_5, g36_6, g36_7, g36_8⟩ := q36
    have l37 := ltA g36_0.lt
    have l38 := ltA g36_1.lt
    have l39 := ltA g36_2.lt
    have l40 := ltA g36_3.lt
    have l41 := ltA g36_4.lt
    have l42 := ltA g36_5.lt
    have A43 := X36.at
    show Gets p e below _ (T36.setTop (mkF m 79 #[.val (.int p0), .val (.int p1), .val (.int p2), .val (.int p3), .val (.ref a7), .val (.ref a14), .val (.ref a26), .unset, .unset, .unset, .unset] [(.int (1 : Int32))]))
    refine Gets.via (fun _ k => (XS.pop A43 hx rfl (hb hby at_79) rfl rfl k)) ?_
    show Gets p e below _ (T36.setTop (mkF m 80 #[.val (.int p0), .val (.int p1), .val (.int p2), .val (.int p3), .val (.ref a7), .val (.ref a14), .val (.ref a26), .unset, .unset, .unset, .unset] []))
    refine X36.new (w57 hw) (w58 hw) (w59 hw) rfl (hb hby at_80) (by decide) (by decide) fun T44 h44 a44 X44 C44 E44 g44 Z44 S44 D44 => ?_
    have z44 := E44.1
    have l44 := ltA Z44.lt
    have A45 := X44.at
    show Gets p e below _ (T44.setTop (mkF m 83 #[.val (.int p0), .val (.int p1), .val (.int p2), .val (.int p3), .val (.ref a7), .val (.ref a14), .val (.ref a26), .unset, .unset, .unset, .unset] [(.ref a44)]))
    refine Gets.via (fun _ k => (XS.dup A45 hx rfl (hb hby at_83) rfl rfl k)) ?_
    show Gets p e below _ (T44.setTop (mkF m 84 #[.val (.int p0), .val (.int p1), .val (.int p2), .val (.int p3), .val (.ref a7), .val (.ref a14), .val (.ref a26), .unset, .unset, .unset, .unset] [(.ref a44), (.ref a44)]))
    refine X44.callI (y := (⟨"java/util/ArrayList", "<init>", "()V"⟩ : MethodName)) (W := 1) rfl (w60 hw) (w61 hw) (w62 hw) (by decide) (X44.payM (sf := []) (rm9 l Z a0 hw hEL zc O2 P5 de kde OD AD em OM el ee kee OL XL FL AE mr MR a44 h44 X44.old Z44 (D44 (Or.inl (w77 hw)) (ty := .int) (by decide) : Fld Z h44 a44 "java/util/AbstractList" "modCount" "I" (.int (0 : Int32))) (D44 (Or.inl (w89 hw)) (ty := .int) (by decide) : Fld Z h44 a44 "java/util/ArrayList" "size" "I" (.int (0 : Int32))) ((D44 (Or.inl (w80 hw)) (ty := (.array (.object "java/lang/Object"))) (by decide) : Fld Z h44 a44 "java/util/ArrayList" "elementData" "[Ljava/lang/Object;" .null)) (leA (by omega))) sf0 (w62 hw) (w59 hw) (by decide) (by decide)) rfl (by rw [hml]; rfl) (a := a44) (argsL := []) (rest := [(.ref a44)]) (lenOf pd0 rfl) rfl rfl (by show 2 * 0 + _ ≤ _; exact Nat.le_of_eq rfl) (hb hby at_84) (by decide) (by decide) fun T46 h46 vm46 v46 X46 C46 z46 q46 => ?_
    obtain ⟨rfl, K46, g46_0, g46_1, g46_2, g46_3⟩ := q46
    have l47 := ltA g46_0.lt
    have l48 := ltA g46_1.lt
    have l49 := ltA g46_2.lt
    have l50 := ltA g46_3.lt
    have A51 := X46.at
    show Gets p e below _ (T46.setTop (mkF m 87 #[.val (.int p0), .val (.int p1), .val (.int p2), .val (.int p3), .val (.ref a7), .val (.ref a14), .val (.ref a26), .unset, .unset, .unset, .unset] [(.ref a44)]))
    refine Gets.via (fun _ k => (XS.astore A51 hx rfl (hb hby at_87) rfl rfl (l' := #[.val (.int p0), .val (.int p1), .val (.int p2), .val (.int p3), .val (.ref a7), .val (.ref a14), .val (.ref a26), .val (.ref a44), .unset, .unset, .unset]) rfl k)) ?_
    show Gets p e below _ (T46.setTop (mkF m 89 #[.val (.int p0), .val (.int p1), .val (.int p2), .val (.int p3), .val (.ref a7), .val (.ref a14), .val (.ref a26), .val (.ref a44), .unset, .unset, .unset] []))
    refine X46.new (w112 hw) (w113 hw) (w114 hw) rfl (hb hby at_89) (by decide) (by decide) fun T52 h52 a52 X52 C52 E52 g52 Z52 S52 D52 => ?_
    have z52 := E52.1
    have l52 := ltA Z52.lt
    have A53 := X52.at
    show Gets p e below _ (T52.setTop (mkF m 92 #[.val (.int p0), .val (.int p1), .val (.int p2), .val (.int p3), .val (.ref a7), .val (.ref a14), .val (.ref a26), .val (.ref a44), .unset, .unset, .unset] [(.ref a52)]))
    refine Gets.via (fun _ k => (XS.dup A53 hx rfl (hb hby at_92) rfl rfl (XS.aload A53 hx rfl (hb hby at_93) rfl rfl (XS.aload A53 hx rfl (hb hby at_95) rfl rfl k)))) ?_
    show Gets p e below _ (T52.setTop (mkF m 97 #[.val (.int p0), .val (.int p1), .val (.int p2), .val (.int p3), .val (.ref a7), .val (.ref a14), .val (.ref a26), .val (.ref a44), .unset, .unset, .unset] [(.ref a44), (.ref a26), (.ref a52), (.ref a52)]))
    have f54 : Exa Z h44 a26 "java/util/ArrayList" := g36_0.ext E44
    have f55 : Exa Z h46 a26 "java/util/ArrayList" := f54.keep K46
    have f56 : Exa Z h52 a26 "java/util/ArrayList" := f55.ext E52
    have f57 : Fld Z h44 a26 "java/util/ArrayList" "size" "I" (.int (1 : Int32)) := g36_2.ext E44
    have f58 : Fld Z h46 a26 "java/util/ArrayList" "size" "I" (.int (1 : Int32)) := f57.keep K46 (ninS (neA (by omega)) nin0)
    have f59 : Fld Z h52 a26 "java/util/ArrayList" "size" "I" (.int (1 : Int32)) := f58.ext E52
    have f60 : Fld Z h44 a26 "java/util/ArrayList" "elementData" "[Ljava/lang/Object;" (.ref d36) := g36_3.ext E44
    have f61 : Fld Z h46 a26 "java/util/ArrayList" "elementData" "[Ljava/lang/Object;" (.ref d36) := f60.keep K46 (ninS (neA (by omega)) nin0)
    have f62 : Fld Z h52 a26 "java/util/ArrayList" "elementData" "[Ljava/lang/Object;" (.ref d36) := f61.ext E52
    have f63 : Arv Z h44 d36 kd36 (.object "java/lang/Object") (10 : Int32) [(.ref a14), .null, .null, .null, .null, .null, .null, .null, .null, .null] .null := g36_4.ext E44
    have f64 : Arv Z h46 d36 kd36 (.object "java/lang/Object") (10 : Int32) [(.ref a14), .null, .null, .null, .null, .null, .null, .null, .null, .null] .null := f63.keep K46 (ninS (neA (by omega)) nin0)
    have f65 : Arv Z h52 d36 kd36 (.object "java/lang/Object") (10 : Int32) [(.ref a14), .null, .null, .null, .null, .null, .null, .null, .null, .null] .null := f64.ext E52
    have f66 : Exa Z h44 d36 "[Ljava/lang/Object;" := g36_5.ext E44
    have f67 : Exa Z h46 d36 "[Ljava/lang/Object;" := f66.keep K46
    have f68 : Exa Z h52 d36 "[Ljava/lang/Object;" := f67.ext E52
    have f69 : Exa Z h36 a14 "org/holdfast/model/Level" := f35.keep K36
    have f70 : Exa Z h44 a14 "org/holdfast/model/Level" := f69.ext E44
    have f71 : Exa Z h46 a14 "org/holdfast/model/Level" := f70.keep K46
    have f72 : Exa Z h52 a14 "org/holdfast/model/Level" := f71.ext E52
    have f73 : Exa Z h52 a44 "java/util/ArrayList" := g46_0.ext E52
    have f74 : Fld Z h52 a44 "java/util/ArrayList" "size" "I" (.int (0 : Int32)) := g46_2.ext E52
    refine X52.callI (y := (⟨"org/holdfast/model/Designation", "<init>", "(Ljava/util/List;Ljava/util/List;)V"⟩ : MethodName)) (W := 1) rfl (w115 hw) (w116 hw) (w117 hw) (by decide) (X52.payM (sf := []) (rmDesA l Z a0 hw hEL zc O2 P5 de kde OD AD em OM el ee kee OL XL FL AE mr MR a52 a26 a44 d36 kd36 a14 h52 X52.old Z52 (D52 (Or.inr (w218 hw)) (ty := (.object "java/util/List")) (by decide) : Fld Z h52 a52 "org/holdfast/model/Designation" "enumeration" "Ljava/util/List;" .null) (D52 (Or.inr (w220 hw)) (ty := (.object "java/util/List")) (by decide) : Fld Z h52 a52 "org/holdfast/model/Designation" "chronology" "Ljava/util/List;" .null) (leA (by omega)) f56 f59 f62 f65 f68 f72 f73 f74) sf0 (w117 hw) (w114 hw) (by decide) (by decide)) rfl (by rw [hml]; rfl) (a := a52) (argsL := [(.ref a26), (.ref a44)]) (rest := [(.ref a52)]) (lenOf pd18 rfl) rfl rfl (by show 2 * 0 + _ ≤ _; exact Nat.le_of_eq rfl) (hb hby at_97) (by decide) (by decide) fun T75 h75 vm75 v75 X75 C75 z75 q75 => ?_
    obtain ⟨rfl, K75, g75_0⟩ := q75
    have l76 := ltA g75_0.lt
    have A77 := X75.at
    show Gets p e below _ (T75.setTop (mkF m 100 #[.val (.int p0), .val (.int p1), .val (.int p2), .val (.int p3), .val (.ref a7), .val (.ref a14), .val (.ref a26), .val (.ref a44), .unset, .unset, .unset] [(.ref a52)]))
    refine Gets.via (fun _ k => (XS.astore A77 hx rfl (hb hby at_100) rfl rfl (l' := #[.val (.int p0), .val (.int p1), .val (.int p2), .val (.int p3), .val (.ref a7), .val (.ref a14), .val (.ref a26), .val (.ref a44), .val (.ref a52), .unset, .unset]) rfl (XS.aconstNull A77 hx rfl (hb hby at_102) (XS.astore A77 hx rfl (hb hby at_103) rfl rfl (l' := #[.val (.int p0), .val (.int p1), .val (.int p2), .val (.int p3), .val (.ref a7), .val (.ref a14), .val (.ref a26), .val (.ref a44), .val (.ref a52), .val .null, .unset]) rfl (XS.iloadN A77 hx rfl (hb hby at_105) rfl (XS.iconst A77 hx rfl (hb hby at_106) (XS.iand A77 hx rfl (hb hby at_107) rfl k))))))) ?_
    show Gets p e below _ (T75.setTop (mkF m 108 #[.val (.int p0), .val (.int p1), .val (.int p2), .val (.int p3), .val (.ref a7), .val (.ref a14), .val (.ref a26), .val (.ref a44), .val (.ref a52), .val .null, .unset] [(.int (p2 &&& (2 : Int32)))]))
    by_cases b108 : (p2 &&& (2 : Int32)) = (0 : Int32)
    · refine Gets.via (fun _ k => (XS.ifYes A77 hx rfl (pc0 := 108) (pc' := 124) rfl (hb hby at_108) rfl (Jvm.Free.XT.i0_eq_t b108) (by decide) (by decide) k)) ?_
      show Gets p e below _ (T75.setTop (mkF m 124 #[.val (.int p0), .val (.int p1), .val (.int p2), .val (.int p3), .val (.ref a7), .val (.ref a14), .val (.ref a26), .val (.ref a44), .val (.ref a52), .val .null, .unset] []))
      refine Gets.via (fun _ k => (XS.aconstNull A77 hx rfl (hb hby at_124) (XS.aload A77 hx rfl (hb hby at_125) rfl rfl (XS.aload A77 hx rfl (hb hby at_127) rfl rfl (XS.aload A77 hx rfl (hb hby at_129) rfl rfl k))))) ?_
      show Gets p e below _ (T75.setTop (mkF m 131 #[.val (.int p0), .val (.int p1), .val (.int p2), .val (.int p3), .val (.ref a7), .val (.ref a14), .val (.ref a26), .val (.ref a44), .val (.ref a52), .val .null, .unset] [.null, (.ref a52), (.ref a7), .null]))
      refine X75.callS (y := (⟨"org/holdfast/model/EnumerationAndChronology", "coded", "(Lorg/holdfast/model/UnitType;Ljava/lang/String;Lorg/holdfast/model/Designation;Lorg/holdfast/model/Designation;)Lorg/holdfast/model/EnumerationAndChronology;"⟩ : MethodName)) (W := 0) (w230 hw) (w231 hw) (w232 hw) (w233 hw) (by decide) (X75.payM (sf := []) (rmCodedRN l Z a0 hw hEL zc O2 P5 de kde OD AD em OM el ee kee OL XL FL AE mr MR a52 a7 h75 X75.old g75_0) sf0 (w233 hw) (w232 hw) (by decide) (by decide)) rfl (by rw [hml]; rfl) (argsL := [.null, (.ref a7), (.ref a52), .null]) (rest := []) (lenOf pd19 rfl) rfl rfl (by show 2 * 0 + _ ≤ _; exact Nat.le_of_eq rfl) (hb hby at_131) (by decide) (by decide) fun T78 h78 vm78 v78 X78 C78 z78 q78 => ?_
      obtain ⟨a78, rfl, K78, g78_0, g78_1, g78_2, g78_3, g78_4, g78_5⟩ := q78
      have l79 := ltA g78_0.lt
      have l80 := ltA g78_1.lt
      have l81 := ltA g78_2.lt
      have l82 := ltA g78_3.lt
      have l83 := ltA g78_4.lt
      have l84 := ltA g78_5.lt
      have A85 := X78.at
      show Gets p e below _ (T78.setTop (mkF m 134 #[.val (.int p0), .val (.int p1), .val (.int p2), .val (.int p3), .val (.ref a7), .val (.ref a14), .val (.ref a26), .val (.ref a44), .val (.ref a52), .val .null, .unset] [(.ref a78)]))
      refine Gets.via (fun _ k => (XS.astore A85 hx rfl (hb hby at_134) rfl rfl (l' := #[.val (.int p0), .val (.int p1), .val (.int p2), .val (.int p3), .val (.ref a7), .val (.ref a14), .val (.ref a26), .val (.ref a44), .val (.ref a52), .val .null, .val (.ref a78)]) rfl (XS.aload A85 hx rfl (hb hby at_136) rfl rfl k))) ?_
      show Gets p e below _ (T78.setTop (mkF m 138 #[.val (.int p0), .val (.int p1), .val (.int p2), .val (.int p3), .val (.ref a7), .val (.ref a14), .val (.ref a26), .val (.ref a44), .val (.ref a52), .val .null, .val (.ref a78)] [(.ref a78)]))
      refine X78.callV (y := (⟨"org/holdfast/model/EnumerationAndChronology", "unitType", "()Lorg/holdfast/model/UnitType;"⟩ : MethodName)) (z := (⟨"org/holdfast/model/EnumerationAndChronology", "unitType", "()Lorg/holdfast/model/UnitType;"⟩ : MethodName)) (W := 0) (w254 hw) (w255 hw) (w257 hw) (w256 hw) (nfs rfl (w257 hw)) (by decide) (X78.payM (sf := []) (rmG_unitType_N l Z a0 hw hEL zc O2 P5 de kde OD AD em OM el ee kee OL XL FL AE mr MR a78 h78 X78.old g78_1) sf0 (w258 hw) (w232 hw) (by decide) (by decide)) g78_0 rfl (by rw [hml]; rfl) (argsL := []) (rest := []) (lenOf pd20 rfl) rfl rfl (by show 2 * 0 + _ ≤ _; exact Nat.le_of_eq rfl) (hb hby at_138) (by decide) (by decide) fun T86 h86 vm86 v86 X86 C86 z86 q86 => ?_
      obtain ⟨rfl, K86⟩ := q86
      rw [K86] at X86 C86
      have A87 := X86.at
      show Gets p e below _ (T86.setTop (mkF m 141 #[.val (.int p0), .val (.int p1), .val (.int p2), .val (.int p3), .val (.ref a7), .val (.ref a14), .val (.ref a26), .val (.ref a44), .val (.ref a52), .val .null, .val (.ref a78)] [.null]))
      refine Gets.via (fun _ k => (XS.ifnonnullNo A87 hx rfl (hb hby at_141) rfl k)) ?_
      show Gets p e below _ (T86.setTop (mkF m 144 #[.val (.int p0), .val (.int p1), .val (.int p2), .val (.int p3), .val (.ref a7), .val (.ref a14), .val (.ref a26), .val (.ref a44), .val (.ref a52), .val .null, .val (.ref a78)] []))
      refine Gets.via (fun _ k => (XS.aload A87 hx rfl (hb hby at_144) rfl rfl k)) ?_
      show Gets p e below _ (T86.setTop (mkF m 146 #[.val (.int p0), .val (.int p1), .val (.int p2), .val (.int p3), .val (.ref a7), .val (.ref a14), .val (.ref a26), .val (.ref a44), .val (.ref a52), .val .null, .val (.ref a78)] [(.ref a78)]))
      refine X86.callV (y := (⟨"org/holdfast/model/EnumerationAndChronology", "note", "()Ljava/lang/String;"⟩ : MethodName)) (z := (⟨"org/holdfast/model/EnumerationAndChronology", "note", "()Ljava/lang/String;"⟩ : MethodName)) (W := 0) (w259 hw) (w260 hw) (w262 hw) (w261 hw) (nfs rfl (w262 hw)) (by decide) (X86.payM (sf := []) (rmG_note_R l Z a0 hw hEL zc O2 P5 de kde OD AD em OM el ee kee OL XL FL AE mr MR a78 a7 h78 X86.old g78_2) sf0 (w263 hw) (w232 hw) (by decide) (by decide)) g78_0 rfl (by rw [hml]; rfl) (argsL := []) (rest := []) (lenOf pd21 rfl) rfl rfl (by show 2 * 0 + _ ≤ _; exact Nat.le_of_eq rfl) (hb hby at_146) (by decide) (by decide) fun T88 h88 vm88 v88 X88 C88 z88 q88 => ?_
      obtain ⟨rfl, K88⟩ := q88
      rw [K88] at X88 C88
      have A89 := X88.at
      show Gets p e below _ (T88.setTop (mkF m 149 #[.val (.int p0), .val (.int p1), .val (.int p2), .val (.int p3), .val (.ref a7), .val (.ref a14), .val (.ref a26), .val (.ref a44), .val (.ref a52), .val .null, .val (.ref a78)] [(.ref a7)]))
      refine Gets.via (fun _ k => (XS.aload A89 hx rfl (hb hby at_149) rfl rfl k)) ?_
      show Gets p e below _ (T88.setTop (mkF m 151 #[.val (.int p0), .val (.int p1), .val (.int p2), .val (.int p3), .val (.ref a7), .val (.ref a14), .val (.ref a26), .val (.ref a44), .val (.ref a52), .val .null, .val (.ref a78)] [(.ref a7), (.ref a7)]))
      refine X88.acmpW hx rfl rfl rfl (pc0 := 151) (pc' := 154) (same := true) rfl (hb hby at_151) rfl (by simp) (by decide) (by decide) ?_
      show Gets p e below _ (T88.setTop (mkF m 154 #[.val (.int p0), .val (.int p1), .val (.int p2), .val (.int p3), .val (.ref a7), .val (.ref a14), .val (.ref a26), .val (.ref a44), .val (.ref a52), .val .null, .val (.ref a78)] []))
      refine Gets.via (fun _ k => (XS.aload A89 hx rfl (hb hby at_154) rfl rfl k)) ?_
      show Gets p e below _ (T88.setTop (mkF m 156 #[.val (.int p0), .val (.int p1), .val (.int p2), .val (.int p3), .val (.ref a7), .val (.ref a14), .val (.ref a26), .val (.ref a44), .val (.ref a52), .val .null, .val (.ref a78)] [(.ref a78)]))
      refine X88.callV (y := (⟨"org/holdfast/model/EnumerationAndChronology", "text", "()Ljava/lang/String;"⟩ : MethodName)) (z := (⟨"org/holdfast/model/EnumerationAndChronology", "text", "()Ljava/lang/String;"⟩ : MethodName)) (W := 0) (w264 hw) (w265 hw) (w267 hw) (w266 hw) (nfs rfl (w267 hw)) (by decide) (X88.payM (sf := []) (rmG_text_N l Z a0 hw hEL zc O2 P5 de kde OD AD em OM el ee kee OL XL FL AE mr MR a78 h78 X88.old g78_3) sf0 (w268 hw) (w232 hw) (by decide) (by decide)) g78_0 rfl (by rw [hml]; rfl) (argsL := []) (rest := []) (lenOf pd21 rfl) rfl rfl (by show 2 * 0 + _ ≤ _; exact Nat.le_of_eq rfl) (hb hby at_156) (by decide) (by decide) fun T90 h90 vm90 v90 X90 C90 z90 q90 => ?_
      obtain ⟨rfl, K90⟩ := q90
      rw [K90] at X90 C90
      have A91 := X90.at
      show Gets p e below _ (T90.setTop (mkF m 159 #[.val (.int p0), .val (.int p1), .val (.int p2), .val (.int p3), .val (.ref a7), .val (.ref a14), .val (.ref a26), .val (.ref a44), .val (.ref a52), .val .null, .val (.ref a78)] [.null]))
      refine Gets.via (fun _ k => (XS.ifnonnullNo A91 hx rfl (hb hby at_159) rfl k)) ?_
      show Gets p e below _ (T90.setTop (mkF m 162 #[.val (.int p0), .val (.int p1), .val (.int p2), .val (.int p3), .val (.ref a7), .val (.ref a14), .val (.ref a26), .val (.ref a44), .val (.ref a52), .val .null, .val (.ref a78)] []))
      refine Gets.via (fun _ k => (XS.aload A91 hx rfl (hb hby at_162) rfl rfl k)) ?_
      show Gets p e below _ (T90.setTop (mkF m 164 #[.val (.int p0), .val (.int p1), .val (.int p2), .val (.int p3), .val (.ref a7), .val (.ref a14), .val (.ref a26), .val (.ref a44), .val (.ref a52), .val .null, .val (.ref a78)] [(.ref a78)]))
      refine X90.callV (y := (⟨"org/holdfast/model/EnumerationAndChronology", "designation", "()Lorg/holdfast/model/Designation;"⟩ : MethodName)) (z := (⟨"org/holdfast/model/EnumerationAndChronology", "designation", "()Lorg/holdfast/model/Designation;"⟩ : MethodName)) (W := 0) (w269 hw) (w270 hw) (w272 hw) (w271 hw) (nfs rfl (w272 hw)) (by decide) (X90.payM (sf := []) (rmG_designation_R l Z a0 hw hEL zc O2 P5 de kde OD AD em OM el ee kee OL XL FL AE mr MR a78 a52 h78 X90.old g78_4) sf0 (w273 hw) (w232 hw) (by decide) (by decide)) g78_0 rfl (by rw [hml]; rfl) (argsL := []) (rest := []) (lenOf pd22 rfl) rfl rfl (by show 2 * 0 + _ ≤ _; exact Nat.le_of_eq rfl) (hb hby at_164) (by decide) (by decide) fun T92 h92 vm92 v92 X92 C92 z92 q92 => ?_
      obtain ⟨rfl, K92⟩ := q92
      rw [K92] at X92 C92
      have A93 := X92.at
      show Gets p e below _ (T92.setTop (mkF m 167 #[.val (.int p0), .val (.int p1), .val (.int p2), .val (.int p3), .val (.ref a7), .val (.ref a14), .val (.ref a26), .val (.ref a44), .val (.ref a52), .val .null, .val (.ref a78)] [(.ref a52)]))
      refine Gets.via (fun _ k => (XS.aload A93 hx rfl (hb hby at_167) rfl rfl k)) ?_
      show Gets p e below _ (T92.setTop (mkF m 169 #[.val (.int p0), .val (.int p1), .val (.int p2), .val (.int p3), .val (.ref a7), .val (.ref a14), .val (.ref a26), .val (.ref a44), .val (.ref a52), .val .null, .val (.ref a78)] [(.ref a52), (.ref a52)]))
      refine X92.acmpW hx rfl rfl rfl (pc0 := 169) (pc' := 172) (same := true) rfl (hb hby at_169) rfl (by simp) (by decide) (by decide) ?_
      show Gets p e below _ (T92.setTop (mkF m 172 #[.val (.int p0), .val (.int p1), .val (.int p2), .val (.int p3), .val (.ref a7), .val (.ref a14), .val (.ref a26), .val (.ref a44), .val (.ref a52), .val .null, .val (.ref a78)] []))
      refine Gets.via (fun _ k => (XS.aload A93 hx rfl (hb hby at_172) rfl rfl k)) ?_
      show Gets p e below _ (T92.setTop (mkF m 174 #[.val (.int p0), .val (.int p1), .val (.int p2), .val (.int p3), .val (.ref a7), .val (.ref a14), .val (.ref a26), .val (.ref a44), .val (.ref a52), .val .null, .val (.ref a78)] [(.ref a78)]))
      refine X92.callV (y := (⟨"org/holdfast/model/EnumerationAndChronology", "ending", "()Lorg/holdfast/model/Designation;"⟩ : MethodName)) (z := (⟨"org/holdfast/model/EnumerationAndChronology", "ending", "()Lorg/holdfast/model/Designation;"⟩ : MethodName)) (W := 0) (w274 hw) (w275 hw) (w277 hw) (w276 hw) (nfs rfl (w277 hw)) (by decide) (X92.payM (sf := []) (rmG_ending_N l Z a0 hw hEL zc O2 P5 de kde OD AD em OM el ee kee OL XL FL AE mr MR a78 h78 X92.old g78_5) sf0 (w278 hw) (w232 hw) (by decide) (by decide)) g78_0 rfl (by rw [hml]; rfl) (argsL := []) (rest := []) (lenOf pd22 rfl) rfl rfl (by show 2 * 0 + _ ≤ _; exact Nat.le_of_eq rfl) (hb hby at_174) (by decide) (by decide) fun T94 h94 vm94 v94 X94 C94 z94 q94 => ?_
      obtain ⟨rfl, K94⟩ := q94
      rw [K94] at X94 C94
      have A95 := X94.at
      show Gets p e below _ (T94.setTop (mkF m 177 #[.val (.int p0), .val (.int p1), .val (.int p2), .val (.int p3), .val (.ref a7), .val (.ref a14), .val (.ref a26), .val (.ref a44), .val (.ref a52), .val .null, .val (.ref a78)] [.null]))
      refine Gets.via (fun _ k => (XS.aload A95 hx rfl (hb hby at_177) rfl rfl k)) ?_
      show Gets p e below _ (T94.setTop (mkF m 179 #[.val (.int p0), .val (.int p1), .val (.int p2), .val (.int p3), .val (.ref a7), .val (.ref a14), .val (.ref a26), .val (.ref a44), .val (.ref a52), .val .null, .val (.ref a78)] [.null, .null]))
      refine X94.acmpW hx rfl rfl rfl (pc0 := 179) (pc' := 182) (same := true) rfl (hb hby at_179) rfl (by simp) (by decide) (by decide) ?_
      show Gets p e below _ (T94.setTop (mkF m 182 #[.val (.int p0), .val (.int p1), .val (.int p2), .val (.int p3), .val (.ref a7), .val (.ref a14), .val (.ref a26), .val (.ref a44), .val (.ref a52), .val .null, .val (.ref a78)] []))
      refine Gets.via (fun _ k => (XS.iconst A95 hx rfl (hb hby at_182) (XS.goto A95 hx rfl (pc0 := 183) (pc' := 187) rfl (hb hby at_183) (by decide) (by decide) k))) ?_
      show Gets p e below _ (T94.setTop (mkF m 187 #[.val (.int p0), .val (.int p1), .val (.int p2), .val (.int p3), .val (.ref a7), .val (.ref a14), .val (.ref a26), .val (.ref a44), .val (.ref a52), .val .null, .val (.ref a78)] [(.int (1 : Int32))]))
      exact X94.retI hret (by decide) (by simp) (hb hby at_187) (by decide) (by decide) ⟨rfl, (((((((((((((((((Keep.refl h0 []).ext E1).trans K3 (allS (Or.inr (leA (by omega))) all0)).trans K5 (allS (Or.inr (leA (by omega))) all0)).ext E7).trans K10 (allS (Or.inr (leA (by omega))) all0)).ext E14).ext E17).trans K23 (allS (Or.inr (leA (by omega))) all0)).ext E26).trans K28 (allS (Or.inr (leA (by omega))) all0)).trans K36 (allS (Or.inr (leA (by omega))) all0)).ext E44).trans K46 (allS (Or.inr (leA (by omega))) all0)).ext E52).trans K75 (allS (Or.inr (leA (by omega))) all0)).trans K78 all0)⟩
    · refine Gets.via (fun _ k => (XS.ifNo A77 hx rfl (hb hby at_108) rfl (Jvm.Free.XT.i0_eq_f b108) k)) ?_
      show Gets p e below _ (T75.setTop (mkF m 111 #[.val (.int p0), .val (.int p1), .val (.int p2), .val (.int p3), .val (.ref a7), .val (.ref a14), .val (.ref a26), .val (.ref a44), .val (.ref a52), .val .null, .unset] []))
      refine X75.new (w112 hw) (w113 hw) (w114 hw) rfl (hb hby at_111) (by decide) (by decide) fun T96 h96 a96 X96 C96 E96 g96 Z96 S96 D96 => ?_
      have z96 := E96.1
      have l96 := ltA Z96.lt
      have A97 := X96.at
      show Gets p e below _ (T96.setTop (mkF m 114 #[.val (.int p0), .val (.int p1), .val (.int p2), .val (.int p3), .val (.ref a7), .val (.ref a14), .val (.ref a26), .val (.ref a44), .val (.ref a52), .val .null, .unset] [(.ref a96)]))
      refine Gets.via (fun _ k => (XS.dup A97 hx rfl (hb hby at_114) rfl rfl (XS.aload A97 hx rfl (hb hby at_115) rfl rfl (XS.aload A97 hx rfl (hb hby at_117) rfl rfl k)))) ?_
      show Gets p e below _ (T96.setTop (mkF m 119 #[.val (.int p0), .val (.int p1), .val (.int p2), .val (.int p3), .val (.ref a7), .val (.ref a14), .val (.ref a26), .val (.ref a44), .val (.ref a52), .val .null, .unset] [(.ref a26), (.ref a44), (.ref a96), (.ref a96)]))
      have f98 : Exa Z h75 a26 "java/util/ArrayList" := f56.keep K75
      have f99 : Exa Z h96 a26 "java/util/ArrayList" := f98.ext E96
      have f100 : Fld Z h75 a26 "java/util/ArrayList" "size" "I" (.int (1 : Int32)) := f59.keep K75 (ninS (neA (by omega)) nin0)
      have f101 : Fld Z h96 a26 "java/util/ArrayList" "size" "I" (.int (1 : Int32)) := f100.ext E96
      have f102 : Fld Z h75 a26 "java/util/ArrayList" "elementData" "[Ljava/lang/Object;" (.ref d36) := f62.keep K75 (ninS (neA (by omega)) nin0)
      have f103 : Fld Z h96 a26 "java/util/ArrayList" "elementData" "[Ljava/lang/Object;" (.ref d36) := f102.ext E96
      have f104 : Arv Z h75 d36 kd36 (.object "java/lang/Object") (10 : Int32) [(.ref a14), .null, .null, .null, .null, .null, .null, .null, .null, .null] .null := f65.keep K75 (ninS (neA (by omega)) nin0)
      have f105 : Arv Z h96 d36 kd36 (.object "java/lang/Object") (10 : Int32) [(.ref a14), .null, .null, .null, .null, .null, .null, .null, .null, .null] .null := f104.ext E96
      have f106 : Exa Z h75 d36 "[Ljava/lang/Object;" := f68.keep K75
      have f107 : Exa Z h96 d36 "[Ljava/lang/Object;" := f106.ext E96
      have f108 : Exa Z h75 a14 "org/holdfast/model/Level" := f72.keep K75
      have f109 : Exa Z h96 a14 "org/holdfast/model/Level" := f108.ext E96
      have f110 : Exa Z h75 a44 "java/util/ArrayList" := f73.keep K75
      have f111 : Exa Z h96 a44 "java/util/ArrayList" := f110.ext E96
      have f112 : Fld Z h75 a44 "java/util/ArrayList" "size" "I" (.int (0 : Int32)) := f74.keep K75 (ninS (neA (by omega)) nin0)
      have f113 : Fld Z h96 a44 "java/util/ArrayList" "size" "I" (.int (0 : Int32)) := f112.ext E96
      refine X96.callI (y := (⟨"org/holdfast/model/Designation", "<init>", "(Ljava/util/List;Ljava/util/List;)V"⟩ : MethodName)) (W := 1) rfl (w115 hw) (w116 hw) (w117 hw) (by decide) (X96.payM (sf := []) (rmDesB l Z a0 hw hEL zc O2 P5 de kde OD AD em OM el ee kee OL XL FL AE mr MR a96 a26 a44 d36 kd36 a14 h96 X96.old Z96 (D96 (Or.inr (w218 hw)) (ty := (.object "java/util/List")) (by decide) : Fld Z h96 a96 "org/holdfast/model/Designation" "enumeration" "Ljava/util/List;" .null) (D96 (Or.inr (w220 hw)) (ty := (.object "java/util/List")) (by decide) : Fld Z h96 a96 "org/holdfast/model/Designation" "chronology" "Ljava/util/List;" .null) (leA (by omega)) f99 f101 f103 f105 f107 f109 f111 f113) sf0 (w117 hw) (w114 hw) (by decide) (by decide)) rfl (by rw [hml]; rfl) (a := a96) (argsL := [(.ref a44), (.ref a26)]) (rest := [(.ref a96)]) (lenOf pd18 rfl) rfl rfl (by show 2 * 0 + _ ≤ _; exact Nat.le_of_eq rfl) (hb hby at_119) (by decide) (by decide) fun T114 h114 vm114 v114 X114 C114 z114 q114 => ?_
      obtain ⟨rfl, K114, g114_0⟩ := q114
      have l115 := ltA g114_0.lt
      have A116 := X114.at
      show Gets p e below _ (T114.setTop (mkF m 122 #[.val (.int p0), .val (.int p1), .val (.int p2), .val (.int p3), .val (.ref a7), .val (.ref a14), .val (.ref a26), .val (.ref a44), .val (.ref a52), .val .null, .unset] [(.ref a96)]))
      refine Gets.via (fun _ k => (XS.astore A116 hx rfl (hb hby at_122) rfl rfl (l' := #[.val (.int p0), .val (.int p1), .val (.int p2), .val (.int p3), .val (.ref a7), .val (.ref a14), .val (.ref a26), .val (.ref a44), .val (.ref a52), .val (.ref a96), .unset]) rfl (XS.aconstNull A116 hx rfl (hb hby at_124) (XS.aload A116 hx rfl (hb hby at_125) rfl rfl (XS.aload A116 hx rfl (hb hby at_127) rfl rfl (XS.aload A116 hx rfl (hb hby at_129) rfl rfl k)))))) ?_
      show Gets p e below _ (T114.setTop (mkF m 131 #[.val (.int p0), .val (.int p1), .val (.int p2), .val (.int p3), .val (.ref a7), .val (.ref a14), .val (.ref a26), .val (.ref a44), .val (.ref a52), .val (.ref a96), .unset] [(.ref a96), (.ref a52), (.ref a7), .null]))
      have f117 : Exa Z h96 a52 "org/holdfast/model/Designation" := g75_0.ext E96
      have f118 : Exa Z h114 a52 "org/holdfast/model/Designation" := f117.keep K114
      refine X114.callS (y := (⟨"org/holdfast/model/EnumerationAndChronology", "coded", "(Lorg/holdfast/model/UnitType;Ljava/lang/String;Lorg/holdfast/model/Designation;Lorg/holdfast/model/Designation;)Lorg/holdfast/model/EnumerationAndChronology;"⟩ : MethodName)) (W := 0) (w230 hw) (w231 hw) (w232 hw) (w233 hw) (by decide) (X114.payM (sf := []) (rmCodedRR l Z a0 hw hEL zc O2 P5 de kde OD AD em OM el ee kee OL XL FL AE mr MR a52 a7 a96 h114 X114.old f118) sf0 (w233 hw) (w232 hw) (by decide) (by decide)) rfl (by rw [hml]; rfl) (argsL := [.null, (.ref a7), (.ref a52), (.ref a96)]) (rest := []) (lenOf pd19 rfl) rfl rfl (by show 2 * 0 + _ ≤ _; exact Nat.le_of_eq rfl) (hb hby at_131) (by decide) (by decide) fun T119 h119 vm119 v119 X119 C119 z119 q119 => ?_
      obtain ⟨a119, rfl, K119, g119_0, g119_1, g119_2, g119_3, g119_4, g119_5⟩ := q119
      have l120 := ltA g119_0.lt
      have l121 := ltA g119_1.lt
      have l122 := ltA g119_2.lt
      have l123 := ltA g119_3.lt
      have l124 := ltA g119_4.lt
      have l125 := ltA g119_5.lt
      have A126 := X119.at
      show Gets p e below _ (T119.setTop (mkF m 134 #[.val (.int p0), .val (.int p1), .val (.int p2), .val (.int p3), .val (.ref a7), .val (.ref a14), .val (.ref a26), .val (.ref a44), .val (.ref a52), .val (.ref a96), .unset] [(.ref a119)]))
      refine Gets.via (fun _ k => (XS.astore A126 hx rfl (hb hby at_134) rfl rfl (l' := #[.val (.int p0), .val (.int p1), .val (.int p2), .val (.int p3), .val (.ref a7), .val (.ref a14), .val (.ref a26), .val (.ref a44), .val (.ref a52), .val (.ref a96), .val (.ref a119)]) rfl (XS.aload A126 hx rfl (hb hby at_136) rfl rfl k))) ?_
      show Gets p e below _ (T119.setTop (mkF m 138 #[.val (.int p0), .val (.int p1), .val (.int p2), .val (.int p3), .val (.ref a7), .val (.ref a14), .val (.ref a26), .val (.ref a44), .val (.ref a52), .val (.ref a96), .val (.ref a119)] [(.ref a119)]))
      refine X119.callV (y := (⟨"org/holdfast/model/EnumerationAndChronology", "unitType", "()Lorg/holdfast/model/UnitType;"⟩ : MethodName)) (z := (⟨"org/holdfast/model/EnumerationAndChronology", "unitType", "()Lorg/holdfast/model/UnitType;"⟩ : MethodName)) (W := 0) (w254 hw) (w255 hw) (w257 hw) (w256 hw) (nfs rfl (w257 hw)) (by decide) (X119.payM (sf := []) (rmG_unitType_N l Z a0 hw hEL zc O2 P5 de kde OD AD em OM el ee kee OL XL FL AE mr MR a119 h119 X119.old g119_1) sf0 (w258 hw) (w232 hw) (by decide) (by decide)) g119_0 rfl (by rw [hml]; rfl) (argsL := []) (rest := []) (lenOf pd20 rfl) rfl rfl (by show 2 * 0 + _ ≤ _; exact Nat.le_of_eq rfl) (hb hby at_138) (by decide) (by decide) fun T127 h127 vm127 v127 X127 C127 z127 q127 => ?_
      obtain ⟨rfl, K127⟩ := q127
      rw [K127] at X127 C127
      have A128 := X127.at
      show Gets p e below _ (T127.setTop (mkF m 141 #[.val (.int p0), .val (.int p1), .val (.int p2), .val (.int p3), .val (.ref a7), .val (.ref a14), .val (.ref a26), .val (.ref a44), .val (.ref a52), .val (.ref a96), .val (.ref a119)] [.null]))
      refine Gets.via (fun _ k => (XS.ifnonnullNo A128 hx rfl (hb hby at_141) rfl k)) ?_
      show Gets p e below _ (T127.setTop (mkF m 144 #[.val (.int p0), .val (.int p1), .val (.int p2), .val (.int p3), .val (.ref a7), .val (.ref a14), .val (.ref a26), .val (.ref a44), .val (.ref a52), .val (.ref a96), .val (.ref a119)] []))
      refine Gets.via (fun _ k => (XS.aload A128 hx rfl (hb hby at_144) rfl rfl k)) ?_
      show Gets p e below _ (T127.setTop (mkF m 146 #[.val (.int p0), .val (.int p1), .val (.int p2), .val (.int p3), .val (.ref a7), .val (.ref a14), .val (.ref a26), .val (.ref a44), .val (.ref a52), .val (.ref a96), .val (.ref a119)] [(.ref a119)]))
      refine X127.callV (y := (⟨"org/holdfast/model/EnumerationAndChronology", "note", "()Ljava/lang/String;"⟩ : MethodName)) (z := (⟨"org/holdfast/model/EnumerationAndChronology", "note", "()Ljava/lang/String;"⟩ : MethodName)) (W := 0) (w259 hw) (w260 hw) (w262 hw) (w261 hw) (nfs rfl (w262 hw)) (by decide) (X127.payM (sf := []) (rmG_note_R l Z a0 hw hEL zc O2 P5 de kde OD AD em OM el ee kee OL XL FL AE mr MR a119 a7 h119 X127.old g119_2) sf0 (w263 hw) (w232 hw) (by decide) (by decide)) g119_0 rfl (by rw [hml]; rfl) (argsL := []) (rest := []) (lenOf pd21 rfl) rfl rfl (by show 2 * 0 + _ ≤ _; exact Nat.le_of_eq rfl) (hb hby at_146) (by decide) (by decide) fun T129 h129 vm129 v129 X129 C129 z129 q129 => ?_
      obtain ⟨rfl, K129⟩ := q129
      rw [K129] at X129 C129
      have A130 := X129.at
      show Gets p e below _ (T129.setTop (mkF m 149 #[.val (.int p0), .val (.int p1), .val (.int p2), .val (.int p3), .val (.ref a7), .val (.ref a14), .val (.ref a26), .val (.ref a44), .val (.ref a52), .val (.ref a96), .val (.ref a119)] [(.ref a7)]))
      refine Gets.via (fun _ k => (XS.aload A130 hx rfl (hb hby at_149) rfl rfl k)) ?_
      show Gets p e below _ (T129.setTop (mkF m 151 #[.val (.int p0), .val (.int p1), .val (.int p2), .val (.int p3), .val (.ref a7), .val (.ref a14), .val (.ref a26), .val (.ref a44), .val (.ref a52), .val (.ref a96), .val (.ref a119)] [(.ref a7), (.ref a7)]))
      refine X129.acmpW hx rfl rfl rfl (pc0 := 151) (pc' := 154) (same := true) rfl (hb hby at_151) rfl (by simp) (by decide) (by decide) ?_
      show Gets p e below _ (T129.setTop (mkF m 154 #[.val (.int p0), .val (.int p1), .val (.int p2), .val (.int p3), .val (.ref a7), .val (.ref a14), .val (.ref a26), .val (.ref a44), .val (.ref a52), .val (.ref a96), .val (.ref a119)] []))
      refine Gets.via (fun _ k => (XS.aload A130 hx rfl (hb hby at_154) rfl rfl k)) ?_
      show Gets p e below _ (T129.setTop (mkF m 156 #[.val (.int p0), .val (.int p1), .val (.int p2), .val (.int p3), .val (.ref a7), .val (.ref a14), .val (.ref a26), .val (.ref a44), .val (.ref a52), .val (.ref a96), .val (.ref a119)] [(.ref a119)]))
      refine X129.callV (y := (⟨"org/holdfast/model/EnumerationAndChronology", "text", "()Ljava/lang/String;"⟩ : MethodName)) (z := (⟨"org/holdfast/model/EnumerationAndChronology", "text", "()Ljava/lang/String;"⟩ : MethodName)) (W := 0) (w264 hw) (w265 hw) (w267 hw) (w266 hw) (nfs rfl (w267 hw)) (by decide) (X129.payM (sf := []) (rmG_text_N l Z a0 hw hEL zc O2 P5 de kde OD AD em OM el ee kee OL XL FL AE mr MR a119 h119 X129.old g119_3) sf0 (w268 hw) (w232 hw) (by decide) (by decide)) g119_0 rfl (by rw [hml]; rfl) (argsL := []) (rest := []) (lenOf pd21 rfl) rfl rfl (by show 2 * 0 + _ ≤ _; exact Nat.le_of_eq rfl) (hb hby at_156) (by decide) (by decide) fun T131 h131 vm131 v131 X131 C131 z131 q131 => ?_
      obtain ⟨rfl, K131⟩ := q131
      rw [K131] at X131 C131
      have A132 := X131.at
      show Gets p e below _ (T131.setTop (mkF m 159 #[.val (.int p0), .val (.int p1), .val (.int p2), .val (.int p3), .val (.ref a7), .val (.ref a14), .val (.ref a26), .val (.ref a44), .val (.ref a52), .val (.ref a96), .val (.ref a119)] [.null]))
      refine Gets.via (fun _ k => (XS.ifnonnullNo A132 hx rfl (hb hby at_159) rfl k)) ?_
      show Gets p e below _ (T131.setTop (mkF m 162 #[.val (.int p0), .val (.int p1), .val (.int p2), .val (.int p3), .val (.ref a7), .val (.ref a14), .val (.ref a26), .val (.ref a44), .val (.ref a52), .val (.ref a96), .val (.ref a119)] []))
      refine Gets.via (fun _ k => (XS.aload A132 hx rfl (hb hby at_162) rfl rfl k)) ?_
      show Gets p e below _ (T131.setTop (mkF m 164 #[.val (.int p0), .val (.int p1), .val (.int p2), .val (.int p3), .val (.ref a7), .val (.ref a14), .val (.ref a26), .val (.ref a44), .val (.ref a52), .val (.ref a96), .val (.ref a119)] [(.ref a119)]))
      refine X131.callV (y := (⟨"org/holdfast/model/EnumerationAndChronology", "designation", "()Lorg/holdfast/model/Designation;"⟩ : MethodName)) (z := (⟨"org/holdfast/model/EnumerationAndChronology", "designation", "()Lorg/holdfast/model/Designation;"⟩ : MethodName)) (W := 0) (w269 hw) (w270 hw) (w272 hw) (w271 hw) (nfs rfl (w272 hw)) (by decide) (X131.payM (sf := []) (rmG_designation_R l Z a0 hw hEL zc O2 P5 de kde OD AD em OM el ee kee OL XL FL AE mr MR a119 a52 h119 X131.old g119_4) sf0 (w273 hw) (w232 hw) (by decide) (by decide)) g119_0 rfl (by rw [hml]; rfl) (argsL := []) (rest := []) (lenOf pd22 rfl) rfl rfl (by show 2 * 0 + _ ≤ _; exact Nat.le_of_eq rfl) (hb hby at_164) (by decide) (by decide) fun T133 h133 vm133 v133 X133 C133 z133 q133 => ?_
      obtain ⟨rfl, K133⟩ := q133
      rw [K133] at X133 C133
      have A134 := X133.at
      show Gets p e below _ (T133.setTop (mkF m 167 #[.val (.int p0), .val (.int p1), .val (.int p2), .val (.int p3), .val (.ref a7), .val (.ref a14), .val (.ref a26), .val (.ref a44), .val (.ref a52), .val (.ref a96), .val (.ref a119)] [(.ref a52)]))
      refine Gets.via (fun _ k => (XS.aload A134 hx rfl (hb hby at_167) rfl rfl k)) ?_
      show Gets p e below _ (T133.setTop (mkF m 169 #[.val (.int p0), .val (.int p1), .val (.int p2), .val (.int p3), .val (.ref a7), .val (.ref a14), .val (.ref a26), .val (.ref a44), .val (.ref a52), .val (.ref a96), .val (.ref a119)] [(.ref a52), (.ref a52)]))
      refine X133.acmpW hx rfl rfl rfl (pc0 := 169) (pc' := 172) (same := true) rfl (hb hby at_169) rfl (by simp) (by decide) (by decide) ?_
      show Gets p e below _ (T133.setTop (mkF m 172 #[.val (.int p0), .val (.int p1), .val (.int p2), .val (.int p3), .val (.ref a7), .val (.ref a14), .val (.ref a26), .val (.ref a44), .val (.ref a52), .val (.ref a96), .val (.ref a119)] []))
      refine Gets.via (fun _ k => (XS.aload A134 hx rfl (hb hby at_172) rfl rfl k)) ?_
      show Gets p e below _ (T133.setTop (mkF m 174 #[.val (.int p0), .val (.int p1), .val (.int p2), .val (.int p3), .val (.ref a7), .val (.ref a14), .val (.ref a26), .val (.ref a44), .val (.ref a52), .val (.ref a96), .val (.ref a119)] [(.ref a119)]))
      refine X133.callV (y := (⟨"org/holdfast/model/EnumerationAndChronology", "ending", "()Lorg/holdfast/model/Designation;"⟩ : MethodName)) (z := (⟨"org/holdfast/model/EnumerationAndChronology", "ending", "()Lorg/holdfast/model/Designation;"⟩ : MethodName)) (W := 0) (w274 hw) (w275 hw) (w277 hw) (w276 hw) (nfs rfl (w277 hw)) (by decide) (X133.payM (sf := []) (rmG_ending_R l Z a0 hw hEL zc O2 P5 de kde OD AD em OM el ee kee OL XL FL AE mr MR a119 a96 h119 X133.old g119_5) sf0 (w278 hw) (w232 hw) (by decide) (by decide)) g119_0 rfl (by rw [hml]; rfl) (argsL := []) (rest := []) (lenOf pd22 rfl) rfl rfl (by show 2 * 0 + _ ≤ _; exact Nat.le_of_eq rfl) (hb hby at_174) (by decide) (by decide) fun T135 h135 vm135 v135 X135 C135 z135 q135 => ?_
      obtain ⟨rfl, K135⟩ := q135
      rw [K135] at X135 C135
      have A136 := X135.at
      show Gets p e below _ (T135.setTop (mkF m 177 #[.val (.int p0), .val (.int p1), .val (.int p2), .val (.int p3), .val (.ref a7), .val (.ref a14), .val (.ref a26), .val (.ref a44), .val (.ref a52), .val (.ref a96), .val (.ref a119)] [(.ref a96)]))
      refine Gets.via (fun _ k => (XS.aload A136 hx rfl (hb hby at_177) rfl rfl k)) ?_
      show Gets p e below _ (T135.setTop (mkF m 179 #[.val (.int p0), .val (.int p1), .val (.int p2), .val (.int p3), .val (.ref a7), .val (.ref a14), .val (.ref a26), .val (.ref a44), .val (.ref a52), .val (.ref a96), .val (.ref a119)] [(.ref a96), (.ref a96)]))
      refine X135.acmpW hx rfl rfl rfl (pc0 := 179) (pc' := 182) (same := true) rfl (hb hby at_179) rfl (by simp) (by decide) (by decide) ?_
      show Gets p e below _ (T135.setTop (mkF m 182 #[.val (.int p0), .val (.int p1), .val (.int p2), .val (.int p3), .val (.ref a7), .val (.ref a14), .val (.ref a26), .val (.ref a44), .val (.ref a52), .val (.ref a96), .val (.ref a119)] []))
      refine Gets.via (fun _ k => (XS.iconst A136 hx rfl (hb hby at_182) (XS.goto A136 hx rfl (pc0 := 183) (pc' := 187) rfl (hb hby at_183) (by decide) (by decide) k))) ?_
      show Gets p e below _ (T135.setTop (mkF m 187 #[.val (.int p0), .val (.int p1), .val (.int p2), .val (.int p3), .val (.ref a7), .val (.ref a14), .val (.ref a26), .val (.ref a44), .val (.ref a52), .val (.ref a96), .val (.ref a119)] [(.int (1 : Int32))]))
      exact X135.retI hret (by decide) (by simp) (hb hby at_187) (by decide) (by decide) ⟨rfl, (((((((((((((((((((Keep.refl h0 []).ext E1).trans K3 (allS (Or.inr (leA (by omega))) all0)).trans K5 (allS (Or.inr (leA (by omega))) all0)).ext E7).trans K10 (allS (Or.inr (leA (by omega))) all0)).ext E14).ext E17).trans K23 (allS (Or.inr (leA (by omega))) all0)).ext E26).trans K28 (allS (Or.inr (leA (by omega))) all0)).trans K36 (allS (Or.inr (leA (by omega))) all0)).ext E44).trans K46 (allS (Or.inr (leA (by omega))) all0)).ext E52).trans K75 (allS (Or.inr (leA (by omega))) all0)).ext E96).trans K114 (allS (Or.inr (leA (by omega))) all0)).trans K119 all0)⟩
  · refine Gets.via (fun _ k => (XS.ifYes A0 hx rfl (pc0 := 6) (pc' := 45) rfl (hb hby at_6) rfl (Jvm.Free.XT.i0_ne_t b6) (by decide) (by decide) k)) ?_
    show Gets p e below _ (T0.setTop (mkF m 45 #[.val (.int p0), .val (.int p1), .val (.int p2), .val (.int p3), .val .null, .unset, .unset, .unset, .unset, .unset, .unset] []))
    refine X0.new (w30 hw) (w31 hw) (w32 hw) rfl (hb hby at_45) (by decide) (by decide) fun T137 h137 a137 X137 C137 E137 g137 Z137 S137 D137 => ?_
    have z137 := E137.1
    have l137 := ltA Z137.lt
    have A138 := X137.at
    show Gets p e below _ (T137.setTop (mkF m 48 #[.val (.int p0), .val (.int p1), .val (.int p2), .val (.int p3), .val .null, .unset, .unset, .unset, .unset, .unset, .unset] [(.ref a137)]))
    refine Gets.via (fun _ k => (XS.dup A138 hx rfl (hb hby at_48) rfl rfl (XS.iloadN A138 hx rfl (hb hby at_49) rfl k))) ?_
    show Gets p e below _ (T137.setTop (mkF m 50 #[.val (.int p0), .val (.int p1), .val (.int p2), .val (.int p3), .val .null, .unset, .unset, .unset, .unset, .unset, .unset] [(.int p3), (.ref a137), (.ref a137)]))
    have hlv : ¬ ((p3 &&& (1073741823 : Int32)) + (1 : Int32)) < (1 : Int32) := lvl_ok p3
    refine X137.ldcI (w33 hw) rfl (hb hby at_50) ?_
    show Gets p e below _ (T137.setTop (mkF m 52 #[.val (.int p0), .val (.int p1), .val (.int p2), .val (.int p3), .val .null, .unset, .unset, .unset, .unset, .unset, .unset] [(.int (1073741823 : Int32)), (.int p3), (.ref a137), (.ref a137)]))
    refine Gets.via (fun _ k => (XS.iand A138 hx rfl (hb hby at_52) rfl (XS.iconst A138 hx rfl (hb hby at_53) (XS.iadd A138 hx rfl (hb hby at_54) rfl (XS.aconstNull A138 hx rfl (hb hby at_55) k))))) ?_
    show Gets p e below _ (T137.setTop (mkF m 56 #[.val (.int p0), .val (.int p1), .val (.int p2), .val (.int p3), .val .null, .unset, .unset, .unset, .unset, .unset, .unset] [.null, (.int ((p3 &&& (1073741823 : Int32)) + (1 : Int32))), (.ref a137), (.ref a137)]))
    refine X137.ldcO (w34 hw) (wSt hw) rfl (hb hby at_56) (n := 4) (by decide) (by decide) (by decide) (by decide) fun T140 h140 vm140 a140 X140 C140 E140 => ?_
    have z140 := E140.1
    have A141 := X140.at
    show Gets p e below _ (T140.setTop (mkF m 58 #[.val (.int p0), .val (.int p1), .val (.int p2), .val (.int p3), .val .null, .unset, .unset, .unset, .unset, .unset, .unset] [(.ref a140), .null, (.int ((p3 &&& (1073741823 : Int32)) + (1 : Int32))), (.ref a137), (.ref a137)]))
    have f142 : Exa Z h140 a137 "org/holdfast/model/Level" := Z137.ext E140
    have f143 : Fld Z h140 a137 "org/holdfast/model/Level" "level" "I" (.int (0 : Int32)) := (D137 (Or.inr (w52 hw)) (ty := .int) (by decide) : Fld Z h137 a137 "org/holdfast/model/Level" "level" "I" (.int (0 : Int32))).ext E140
    have f144 : Fld Z h140 a137 "org/holdfast/model/Level" "caption" "Ljava/lang/String;" .null := (D137 (Or.inr (w54 hw)) (ty := (.object "java/lang/String")) (by decide) : Fld Z h137 a137 "org/holdfast/model/Level" "caption" "Ljava/lang/String;" .null).ext E140
    have f145 : Fld Z h140 a137 "org/holdfast/model/Level" "value" "Ljava/lang/String;" .null := (D137 (Or.inr (w56 hw)) (ty := (.object "java/lang/String")) (by decide) : Fld Z h137 a137 "org/holdfast/model/Level" "value" "Ljava/lang/String;" .null).ext E140
    refine X140.callI (y := (⟨"org/holdfast/model/Level", "<init>", "(ILjava/lang/String;Ljava/lang/String;)V"⟩ : MethodName)) (W := 1) rfl (w37 hw) (w38 hw) (w39 hw) (by decide) (X140.payM (sf := []) (rm6 l Z a0 hw hEL zc O2 P5 de kde OD AD em OM el ee kee OL XL FL AE mr MR a137 ((p3 &&& (1073741823 : Int32)) + (1 : Int32)) a140 h140 X140.old f142 f143 f144 f145 (leA (by omega)) hlv) sf0 (w39 hw) (w32 hw) (by decide) (by decide)) rfl (by rw [hml]; rfl) (a := a137) (argsL := [(.int ((p3 &&& (1073741823 : Int32)) + (1 : Int32))), .null, (.ref a140)]) (rest := [(.ref a137)]) (lenOf pd14 rfl) rfl rfl (by show 2 * 0 + _ ≤ _; exact Nat.le_of_eq rfl) (hb hby at_58) (by decide) (by decide) fun T146 h146 vm146 v146 X146 C146 z146 q146 => ?_
    obtain ⟨rfl, K146, g146_0⟩ := q146
    have l147 := ltA g146_0.lt
    have A148 := X146.at
    show Gets p e below _ (T146.setTop (mkF m 61 #[.val (.int p0), .val (.int p1), .val (.int p2), .val (.int p3), .val .null, .unset, .unset, .unset, .unset, .unset, .unset] [(.ref a137)]))
    refine Gets.via (fun _ k => (XS.astore A148 hx rfl (hb hby at_61) rfl rfl (l' := #[.val (.int p0), .val (.int p1), .val (.int p2), .val (.int p3), .val .null, .val (.ref a137), .unset, .unset, .unset, .unset, .unset]) rfl k)) ?_
    show Gets p e below _ (T146.setTop (mkF m 63 #[.val (.int p0), .val (.int p1), .val (.int p2), .val (.int p3), .val .null, .val (.ref a137), .unset, .unset, .unset, .unset, .unset] []))
    refine X146.new (w57 hw) (w58 hw) (w59 hw) rfl (hb hby at_63) (by decide) (by decide) fun T149 h149 a149 X149 C149 E149 g149 Z149 S149 D149 => ?_
    have z149 := E149.1
    have l149 := ltA Z149.lt
    have A150 := X149.at
    show Gets p e below _ (T149.setTop (mkF m 66 #[.val (.int p0), .val (.int p1), .val (.int p2), .val (.int p3), .val .null, .val (.ref a137), .unset, .unset, .unset, .unset, .unset] [(.ref a149)]))
    refine Gets.via (fun _ k => (XS.dup A150 hx rfl (hb hby at_66) rfl rfl k)) ?_
    show Gets p e below _ (T149.setTop (mkF m 67 #[.val (.int p0), .val (.int p1), .val (.int p2), .val (.int p3), .val .null, .val (.ref a137), .unset, .unset, .unset, .unset, .unset] [(.ref a149), (.ref a149)]))
    refine X149.callI (y := (⟨"java/util/ArrayList", "<init>", "()V"⟩ : MethodName)) (W := 1) rfl (w60 hw) (w61 hw) (w62 hw) (by decide) (X149.payM (sf := []) (rm9 l Z a0 hw hEL zc O2 P5 de kde OD AD em OM el ee kee OL XL FL AE mr MR a149 h149 X149.old Z149 (D149 (Or.inl (w77 hw)) (ty := .int) (by decide) : Fld Z h149 a149 "java/util/AbstractList" "modCount" "I" (.int (0 : Int32))) (D149 (Or.inl (w89 hw)) (ty := .int) (by decide) : Fld Z h149 a149 "java/util/ArrayList" "size" "I" (.int (0 : Int32))) ((D149 (Or.inl (w80 hw)) (ty := (.array (.object "java/lang/Object"))) (by decide) : Fld Z h149 a149 "java/util/ArrayList" "elementData" "[Ljava/lang/Object;" .null)) (leA (by omega))) sf0 (w62 hw) (w59 hw) (by decide) (by decide)) rfl (by rw [hml]; rfl) (a := a149) (argsL := []) (rest := [(.ref a149)]) (lenOf pd0 rfl) rfl rfl (by show 2 * 0 + _ ≤ _; exact Nat.le_of_eq rfl) (hb hby at_67) (by decide) (by decide) fun T151 h151 vm151 v151 X151 C151 z151 q151 => ?_
    obtain ⟨rfl, K151, g151_0, g151_1, g151_2, g151_3⟩ := q151
    have l152 := ltA g151_0.lt
    have l153 := ltA g151_1.lt
    have l154 := ltA g151_2.lt
    have l155 := ltA g151_3.lt
    have A156 := X151.at
    show Gets p e below _ (T151.setTop (mkF m 70 #[.val (.int p0), .val (.int p1), .val (.int p2), .val (.int p3), .val .null, .val (.ref a137), .unset, .unset, .unset, .unset, .unset] [(.ref a149)]))
    refine Gets.via (fun _ k => (XS.astore A156 hx rfl (hb hby at_70) rfl rfl (l' := #[.val (.int p0), .val (.int p1), .val (.int p2), .val (.int p3), .val .null, .val (.ref a137), .val (.ref a149), .unset, .unset, .unset, .unset]) rfl (XS.aload A156 hx rfl (hb hby at_72) rfl rfl (XS.aload A156 hx rfl (hb hby at_74) rfl rfl k)))) ?_
    show Gets p e below _ (T151.setTop (mkF m 76 #[.val (.int p0), .val (.int p1), .val (.int p2), .val (.int p3), .val .null, .val (.ref a137), .val (.ref a149), .unset, .unset, .unset, .unset] [(.ref a137), (.ref a149)]))
    have f157 : Exa Z h149 a137 "org/holdfast/model/Level" := g146_0.ext E149
    have f158 : Exa Z h151 a137 "org/holdfast/model/Level" := f157.keep K151
    refine X151.callV (y := (⟨"java/util/ArrayList", "add", "(Ljava/lang/Object;)Z"⟩ : MethodName)) (z := (⟨"java/util/ArrayList", "add", "(Ljava/lang/Object;)Z"⟩ : MethodName)) (W := 0) (w81 hw) (w82 hw) (w84 hw) (w83 hw) (nfs rfl (w84 hw)) (by decide) (X151.payM (sf := []) (rmAdd0 l Z a0 hw hEL zc O2 P5 de kde OD AD em OM el ee kee OL XL FL AE mr MR a149 a137 (0 : Int32) h151 X151.old g151_0 g151_1 g151_2 g151_3 (leA (by omega)) f158) sf0 (w85 hw) (w59 hw) (by decide) (by decide)) g151_0 rfl (by rw [hml]; rfl) (argsL := [(.ref a137)]) (rest := []) (lenOf pd17 rfl) rfl rfl (by show 2 * 0 + _ ≤ _; exact Nat.le_of_eq rfl) (hb hby at_76) (by decide) (by decide) fun T159 h159 vm159 v159 X159 C159 z159 q159 => ?_
    obtain ⟨d159, kd159, rfl, K159, g159_0, g159_1, g159_2, g159_3, g159_4, g159_5, g159_6, g159_7, g159_8⟩ := q159
    have l160 := ltA g159_0.lt
    have l161 := ltA g159_1.lt
    have l162 := ltA g159_2.lt
    have l163 := ltA g159_3.lt
    have l164 := ltA g159_4.lt
    have l165 := ltA g159_5.lt
    have A166 := X159.at
    show Gets p e below _ (T159.setTop (mkF m 79 #[.val (.int p0), .val (.int p1), .val (.int p2), .val (.int p3), .val .null, .val (.ref a137), .val (.ref a149), .unset, .unset, .unset, .unset] [(.int (1 : Int32))]))
    refine Gets.via (fun _ k => (XS.pop A166 hx rfl (hb hby at_79) rfl rfl k)) ?_
    show Gets p e below _ (T159.setTop (mkF m 80 #[.val (.int p0), .val (.int p1), .val (.int p2), .val (.int p3), .val .null, .val (.ref a137), .val (.ref a149), .unset, .unset, .unset, .unset] []))
    refine X159.new (w57 hw) (w58 hw) (w59 hw) rfl (hb hby at_80) (by decide) (by decide) fun T167 h167 a167 X167 C167 E167 g167 Z167 S167 D167 => ?_
    have z167 := E167.1
    have l167 := ltA Z167.lt
    have A168 := X167.at
    show Gets p e below _ (T167.setTop (mkF m 83 #[.val (.int p0), .val (.int p1), .val (.int p2), .val (.int p3), .val .null, .val (.ref a137), .val (.ref a149), .unset, .unset, .unset, .unset] [(.ref a167)]))
    refine Gets.via (fun _ k => (XS.dup A168 hx rfl (hb hby at_83) rfl rfl k)) ?_
    show Gets p e below _ (T167.setTop (mkF m 84 #[.val (.int p0), .val (.int p1), .val (.int p2), .val (.int p3), .val .null, .val (.ref a137), .val (.ref a149), .unset, .unset, .unset, .unset] [(.ref a167), (.ref a167)]))
    refine X167.callI (y := (⟨"java/util/ArrayList", "<init>", "()V"⟩ : MethodName)) (W := 1) rfl (w60 hw) (w61 hw) (w62 hw) (by decide) (X167.payM (sf := []) (rm9 l Z a0 hw hEL zc O2 P5 de kde OD AD em OM el ee kee OL XL FL AE mr MR a167 h167 X167.old Z167 (D167 (Or.inl (w77 hw)) (ty := .int) (by decide) : Fld Z h167 a167 "java/util/AbstractList" "modCount" "I" (.int (0 : Int32))) (D167 (Or.inl (w89 hw)) (ty := .int) (by decide) : Fld Z h167 a167 "java/util/ArrayList" "size" "I" (.int (0 : Int32))) ((D167 (Or.inl (w80 hw)) (ty := (.array (.object "java/lang/Object"))) (by decide) : Fld Z h167 a167 "java/util/ArrayList" "elementData" "[Ljava/lang/Object;" .null)) (leA (by omega))) sf0 (w62 hw) (w59 hw) (by decide) (by decide)) rfl (by rw [hml]; rfl) (a := a167) (argsL := []) (rest := [(.ref a167)]) (lenOf pd0 rfl) rfl rfl (by show 2 * 0 + _ ≤ _; exact Nat.le_of_eq rfl) (hb hby at_84) (by decide) (by decide) fun T169 h169 vm169 v169 X169 C169 z169 q169 => ?_
    obtain ⟨rfl, K169, g169_0, g169_1, g169_2, g169_3⟩ := q169
    have l170 := ltA g169_0.lt
    have l171 := ltA g169_1.lt
    have l172 := ltA g169_2.lt
    have l173 := ltA g169_3.lt
    have A174 := X169.at
    show Gets p e below _ (T169.setTop (mkF m 87 #[.val (.int p0), .val (.int p1), .val (.int p2), .val (.int p3), .val .null, .val (.ref a137), .val (.ref a149), .unset, .unset, .unset, .unset] [(.ref a167)]))
    refine Gets.via (fun _ k => (XS.astore A174 hx rfl (hb hby at_87) rfl rfl (l' := #[.val (.int p0), .val (.int p1), .val (.int p2), .val (.int p3), .val .null, .val (.ref a137), .val (.ref a149), .val (.ref a167), .unset, .unset, .unset]) rfl k)) ?_
    show Gets p e below _ (T169.setTop (mkF m 89 #[.val (.int p0), .val (.int p1), .val (.int p2), .val (.int p3), .val .null, .val (.ref a137), .val (.ref a149), .val (.ref a167), .unset, .unset, .unset] []))
    refine X169.new (w112 hw) (w113 hw) (w114 hw) rfl (hb hby at_89) (by decide) (by decide) fun T175 h175 a175 X175 C175 E175 g175 Z175 S175 D175 => ?_
    have z175 := E175.1
    have l175 := ltA Z175.lt
    have A176 := X175.at
    show Gets p e below _ (T175.setTop (mkF m 92 #[.val (.int p0), .val (.int p1), .val (.int p2), .val (.int p3), .val .null, .val (.ref a137), .val (.ref a149), .val (.ref a167), .unset, .unset, .unset] [(.ref a175)]))
    refine Gets.via (fun _ k => (XS.dup A176 hx rfl (hb hby at_92) rfl rfl (XS.aload A176 hx rfl (hb hby at_93) rfl rfl (XS.aload A176 hx rfl (hb hby at_95) rfl rfl k)))) ?_
    show Gets p e below _ (T175.setTop (mkF m 97 #[.val (.int p0), .val (.int p1), .val (.int p2), .val (.int p3), .val .null, .val (.ref a137), .val (.ref a149), .val (.ref a167), .unset, .unset, .unset] [(.ref a167), (.ref a149), (.ref a175), (.ref a175)]))
    have f177 : Exa Z h167 a149 "java/util/ArrayList" := g159_0.ext E167
    have f178 : Exa Z h169 a149 "java/util/ArrayList" := f177.keep K169
    have f179 : Exa Z h175 a149 "java/util/ArrayList" := f178.ext E175
    have f180 : Fld Z h167 a149 "java/util/ArrayList" "size" "I" (.int (1 : Int32)) := g159_2.ext E167
    have f181 : Fld Z h169 a149 "java/util/ArrayList" "size" "I" (.int (1 : Int32)) := f180.keep K169 (ninS (neA (by omega)) nin0)
    have f182 : Fld Z h175 a149 "java/util/ArrayList" "size" "I" (.int (1 : Int32)) := f181.ext E175
    have f183 : Fld Z h167 a149 "java/util/ArrayList" "elementData" "[Ljava/lang/Object;" (.ref d159) := g159_3.ext E167
    have f184 : Fld Z h169 a149 "java/util/ArrayList" "elementData" "[Ljava/lang/Object;" (.ref d159) := f183.keep K169 (ninS (neA (by omega)) nin0)
    have f185 : Fld Z h175 a149 "java/util/ArrayList" "elementData" "[Ljava/lang/Object;" (.ref d159) := f184.ext E175
    have f186 : Arv Z h167 d159 kd159 (.object "java/lang/Object") (10 : Int32) [(.ref a137), .null, .null, .null, .null, .null, .null, .null, .null, .null] .null := g159_4.ext E167
    have f187 : Arv Z h169 d159 kd159 (.object "java/lang/Object") (10 : Int32) [(.ref a137), .null, .null, .null, .null, .null, .null, .null, .null, .null] .null := f186.keep K169 (ninS (neA (by omega)) nin0)
    have f188 : Arv Z h175 d159 kd159 (.object "java/lang/Object") (10 : Int32) [(.ref a137), .null, .null, .null, .null, .null, .null, .null, .null, .null] .null := f187.ext E175
    have f189 : Exa Z h167 d159 "[Ljava/lang/Object;" := g159_5.ext E167
    have f190 : Exa Z h169 d159 "[Ljava/lang/Object;" := f189.keep K169
    have f191 : Exa Z h175 d159 "[Ljava/lang/Object;" := f190.ext E175
    have f192 : Exa Z h159 a137 "org/holdfast/model/Level" := f158.keep K159
    have f193 : Exa Z h167 a137 "org/holdfast/model/Level" := f192.ext E167
    have f194 : Exa Z h169 a137 "org/holdfast/model/Level" := f193.keep K169
    have f195 : Exa Z h175 a137 "org/holdfast/model/Level" := f194.ext E175
    have f196 : Exa Z h175 a167 "java/util/ArrayList" := g169_0.ext E175
    have f197 : Fld Z h175 a167 "java/util/ArrayList" "size" "I" (.int (0 : Int32)) := g169_2.ext E175
    refine X175.callI (y := (⟨"org/holdfast/model/Designation", "<init>", "(Ljava/util/List;Ljava/util/List;)V"⟩ : MethodName)) (W := 1) rfl (w115 hw) (w116 hw) (w117 hw) (by decide) (X175.payM (sf := []) (rmDesA l Z a0 hw hEL zc O2 P5 de kde OD AD em OM el ee kee OL XL FL AE mr MR a175 a149 a167 d159 kd159 a137 h175 X175.old Z175 (D175 (Or.inr (w218 hw)) (ty := (.object "java/util/List")) (by decide) : Fld Z h175 a175 "org/holdfast/model/Designation" "enumeration" "Ljava/util/List;" .null) (D175 (Or.inr (w220 hw)) (ty := (.object "java/util/List")) (by decide) : Fld Z h175 a175 "org/holdfast/model/Designation" "chronology" "Ljava/util/List;" .null) (leA (by omega)) f179 f182 f185 f188 f191 f195 f196 f197) sf0 (w117 hw) (w114 hw) (by decide) (by decide)) rfl (by rw [hml]; rfl) (a := a175) (argsL := [(.ref a149), (.ref a167)]) (rest := [(.ref a175)]) (lenOf pd18 rfl) rfl rfl (by show 2 * 0 + _ ≤ _; exact Nat.le_of_eq rfl) (hb hby at_97) (by decide) (by decide) fun T198 h198 vm198 v198 X198 C198 z198 q198 => ?_
    obtain ⟨rfl, K198, g198_0⟩ := q198
    have l199 := ltA g198_0.lt
    have A200 := X198.at
    show Gets p e below _ (T198.setTop (mkF m 100 #[.val (.int p0), .val (.int p1), .val (.int p2), .val (.int p3), .val .null, .val (.ref a137), .val (.ref a149), .val (.ref a167), .unset, .unset, .unset] [(.ref a175)]))
    refine Gets.via (fun _ k => (XS.astore A200 hx rfl (hb hby at_100) rfl rfl (l' := #[.val (.int p0), .val (.int p1), .val (.int p2), .val (.int p3), .val .null, .val (.ref a137), .val (.ref a149), .val (.ref a167), .val (.ref a175), .unset, .unset]) rfl (XS.aconstNull A200 hx rfl (hb hby at_102) (XS.astore A200 hx rfl (hb hby at_103) rfl rfl (l' := #[.val (.int p0), .val (.int p1), .val (.int p2), .val (.int p3), .val .null, .val (.ref a137), .val (.ref a149), .val (.ref a167), .val (.ref a175), .val .null, .unset]) rfl (XS.iloadN A200 hx rfl (hb hby at_105) rfl (XS.iconst A200 hx rfl (hb hby at_106) (XS.iand A200 hx rfl (hb hby at_107) rfl k))))))) ?_
    show Gets p e below _ (T198.setTop (mkF m 108 #[.val (.int p0), .val (.int p1), .val (.int p2), .val (.int p3), .val .null, .val (.ref a137), .val (.ref a149), .val (.ref a167), .val (.ref a175), .val .null, .unset] [(.int (p2 &&& (2 : Int32)))]))
    by_cases b108 : (p2 &&& (2 : Int32)) = (0 : Int32)
    · refine Gets.via (fun _ k => (XS.ifYes A200 hx rfl (pc0 := 108) (pc' := 124) rfl (hb hby at_108) rfl (Jvm.Free.XT.i0_eq_t b108) (by decide) (by decide) k)) ?_
      show Gets p e below _ (T198.setTop (mkF m 124 #[.val (.int p0), .val (.int p1), .val (.int p2), .val (.int p3), .val .null, .val (.ref a137), .val (.ref a149), .val (.ref a167), .val (.ref a175), .val .null, .unset] []))
      refine Gets.via (fun _ k => (XS.aconstNull A200 hx rfl (hb hby at_124) (XS.aload A200 hx rfl (hb hby at_125) rfl rfl (XS.aload A200 hx rfl (hb hby at_127) rfl rfl (XS.aload A200 hx rfl (hb hby at_129) rfl rfl k))))) ?_
      show Gets p e below _ (T198.setTop (mkF m 131 #[.val (.int p0), .val (.int p1), .val (.int p2), .val (.int p3), .val .null, .val (.ref a137), .val (.ref a149), .val (.ref a167), .val (.ref a175), .val .null, .unset] [.null, (.ref a175), .null, .null]))
      refine X198.callS (y := (⟨"org/holdfast/model/EnumerationAndChronology", "coded", "(Lorg/holdfast/model/UnitType;Ljava/lang/String;Lorg/holdfast/model/Designation;Lorg/holdfast/model/Designation;)Lorg/holdfast/model/EnumerationAndChronology;"⟩ : MethodName)) (W := 0) (w230 hw) (w231 hw) (w232 hw) (w233 hw) (by decide) (X198.payM (sf := []) (rmCodedNN l Z a0 hw hEL zc O2 P5 de kde OD AD em OM el ee kee OL XL FL AE mr MR a175 h198 X198.old g198_0) sf0 (w233 hw) (w232 hw) (by decide) (by decide)) rfl (by rw [hml]; rfl) (argsL := [.null, .null, (.ref a175), .null]) (rest := []) (lenOf pd19 rfl) rfl rfl (by show 2 * 0 + _ ≤ _; exact Nat.le_of_eq rfl) (hb hby at_131) (by decide) (by decide) fun T201 h201 vm201 v201 X201 C201 z201 q201 => ?_
      obtain ⟨a201, rfl, K201, g201_0, g201_1, g201_2, g201_3, g201_4, g201_5⟩ := q201
      have l202 := ltA g201_0.lt
      have l203 := ltA g201_1.lt
      have l204 := ltA g201_2.lt
      have l205 := ltA g201_3.lt
      have l206 := ltA g201_4.lt
      have l207 := ltA g201_5.lt
      have A208 := X201.at
      show Gets p e below _ (T201.setTop (mkF m 134 #[.val (.int p0), .val (.int p1), .val (.int p2), .val (.int p3), .val .null, .val (.ref a137), .val (.ref a149), .val (.ref a167), .val (.ref a175), .val .null, .unset] [(.ref a201)]))
      refine Gets.via (fun _ k => (XS.astore A208 hx rfl (hb hby at_134) rfl rfl (l' := #[.val (.int p0), .val (.int p1), .val (.int p2), .val (.int p3), .val .null, .val (.ref a137), .val (.ref a149), .val (.ref a167), .val (.ref a175), .val .null, .val (.ref a201)]) rfl (XS.aload A208 hx rfl (hb hby at_136) rfl rfl k))) ?_
      show Gets p e below _ (T201.setTop (mkF m 138 #[.val (.int p0), .val (.int p1), .val (.int p2), .val (.int p3), .val .null, .val (.ref a137), .val (.ref a149), .val (.ref a167), .val (.ref a175), .val .null, .val (.ref a201)] [(.ref a201)]))
      refine X201.callV (y := (⟨"org/holdfast/model/EnumerationAndChronology", "unitType", "()Lorg/holdfast/model/UnitType;"⟩ : MethodName)) (z := (⟨"org/holdfast/model/EnumerationAndChronology", "unitType", "()Lorg/holdfast/model/UnitType;"⟩ : MethodName)) (W := 0) (w254 hw) (w255 hw) (w257 hw) (w256 hw) (nfs rfl (w257 hw)) (by decide) (X201.payM (sf := []) (rmG_unitType_N l Z a0 hw hEL zc O2 P5 de kde OD AD em OM el ee kee OL XL FL AE mr MR a201 h201 X201.old g201_1) sf0 (w258 hw) (w232 hw) (by decide) (by decide)) g201_0 rfl (by rw [hml]; rfl) (argsL := []) (rest := []) (lenOf pd20 rfl) rfl rfl (by show 2 * 0 + _ ≤ _; exact Nat.le_of_eq rfl) (hb hby at_138) (by decide) (by decide) fun T209 h209 vm209 v209 X209 C209 z209 q209 => ?_
      obtain ⟨rfl, K209⟩ := q209
      rw [K209] at X209 C209
      have A210 := X209.at
      show Gets p e below _ (T209.setTop (mkF m 141 #[.val (.int p0), .val (.int p1), .val (.int p2), .val (.int p3), .val .null, .val (.ref a137), .val (.ref a149), .val (.ref a167), .val (.ref a175), .val .null, .val (.ref a201)] [.null]))
      refine Gets.via (fun _ k => (XS.ifnonnullNo A210 hx rfl (hb hby at_141) rfl k)) ?_
      show Gets p e below _ (T209.setTop (mkF m 144 #[.val (.int p0), .val (.int p1), .val (.int p2), .val (.int p3), .val .null, .val (.ref a137), .val (.ref a149), .val (.ref a167), .val (.ref a175), .val .null, .val (.ref a201)] []))
      refine Gets.via (fun _ k => (XS.aload A210 hx rfl (hb hby at_144) rfl rfl k)) ?_
      show Gets p e below _ (T209.setTop (mkF m 146 #[.val (.int p0), .val (.int p1), .val (.int p2), .val (.int p3), .val .null, .val (.ref a137), .val (.ref a149), .val (.ref a167), .val (.ref a175), .val .null, .val (.ref a201)] [(.ref a201)]))
      refine X209.callV (y := (⟨"org/holdfast/model/EnumerationAndChronology", "note", "()Ljava/lang/String;"⟩ : MethodName)) (z := (⟨"org/holdfast/model/EnumerationAndChronology", "note", "()Ljava/lang/String;"⟩ : MethodName)) (W := 0) (w259 hw) (w260 hw) (w262 hw) (w261 hw) (nfs rfl (w262 hw)) (by decide) (X209.payM (sf := []) (rmG_note_N l Z a0 hw hEL zc O2 P5 de kde OD AD em OM el ee kee OL XL FL AE mr MR a201 h201 X209.old g201_2) sf0 (w263 hw) (w232 hw) (by decide) (by decide)) g201_0 rfl (by rw [hml]; rfl) (argsL := []) (rest := []) (lenOf pd21 rfl) rfl rfl (by show 2 * 0 + _ ≤ _; exact Nat.le_of_eq rfl) (hb hby at_146) (by decide) (by decide) fun T211 h211 vm211 v211 X211 C211 z211 q211 => ?_
      obtain ⟨rfl, K211⟩ := q211
      rw [K211] at X211 C211
      have A212 := X211.at
      show Gets p e below _ (T211.setTop (mkF m 149 #[.val (.int p0), .val (.int p1), .val (.int p2), .val (.int p3), .val .null, .val (.ref a137), .val (.ref a149), .val (.ref a167), .val (.ref a175), .val .null, .val (.ref a201)] [.null]))
      refine Gets.via (fun _ k => (XS.aload A212 hx rfl (hb hby at_149) rfl rfl k)) ?_
      show Gets p e below _ (T211.setTop (mkF m 151 #[.val (.int p0), .val (.int p1), .val (.int p2), .val (.int p3), .val .null, .val (.ref a137), .val (.ref a149), .val (.ref a167), .val (.ref a175), .val .null, .val (.ref a201)] [.null, .null]))
      refine X211.acmpW hx rfl rfl rfl (pc0 := 151) (pc' := 154) (same := true) rfl (hb hby at_151) rfl (by simp) (by decide) (by decide) ?_
      show Gets p e below _ (T211.setTop (mkF m 154 #[.val (.int p0), .val (.int p1), .val (.int p2), .val (.int p3), .val .null, .val (.ref a137), .val (.ref a149), .val (.ref a167), .val (.ref a175), .val .null, .val (.ref a201)] []))
      refine Gets.via (fun _ k => (XS.aload A212 hx rfl (hb hby at_154) rfl rfl k)) ?_
      show Gets p e below _ (T211.setTop (mkF m 156 #[.val (.int p0), .val (.int p1), .val (.int p2), .val (.int p3), .val .null, .val (.ref a137), .val (.ref a149), .val (.ref a167), .val (.ref a175), .val .null, .val (.ref a201)] [(.ref a201)]))
      refine X211.callV (y := (⟨"org/holdfast/model/EnumerationAndChronology", "text", "()Ljava/lang/String;"⟩ : MethodName)) (z := (⟨"org/holdfast/model/EnumerationAndChronology", "text", "()Ljava/lang/String;"⟩ : MethodName)) (W := 0) (w264 hw) (w265 hw) (w267 hw) (w266 hw) (nfs rfl (w267 hw)) (by decide) (X211.payM (sf := []) (rmG_text_N l Z a0 hw hEL zc O2 P5 de kde OD AD em OM el ee kee OL XL FL AE mr MR a201 h201 X211.old g201_3) sf0 (w268 hw) (w232 hw) (by decide) (by decide)) g201_0 rfl (by rw [hml]; rfl) (argsL := []) (rest := []) (lenOf pd21 rfl) rfl rfl (by show 2 * 0 + _ ≤ _; exact Nat.le_of_eq rfl) (hb hby at_156) (by decide) (by decide) fun T213 h213 vm213 v213 X213 C213 z213 q213 => ?_
      obtain ⟨rfl, K213⟩ := q213
      rw [K213] at X213 C213
      have A214 := X213.at
      show Gets p e below _ (T213.setTop (mkF m 159 #[.val (.int p0), .val (.int p1), .val (.int p2), .val (.int p3), .val .null, .val (.ref a137), .val (.ref a149), .val (.ref a167), .val (.ref a175), .val .null, .val (.ref a201)] [.null]))
      refine Gets.via (fun _ k => (XS.ifnonnullNo A214 hx rfl (hb hby at_159) rfl k)) ?_
      show Gets p e below _ (T213.setTop (mkF m 162 #[.val (.int p0), .val (.int p1), .val (.int p2), .val (.int p3), .val .null, .val (.ref a137), .val (.ref a149), .val (.ref a167), .val (.ref a175), .val .null, .val (.ref a201)] []))
      refine Gets.via (fun _ k => (XS.aload A214 hx rfl (hb hby at_162) rfl rfl k)) ?_
      show Gets p e below _ (T213.setTop (mkF m 164 #[.val (.int p0), .val (.int p1), .val (.int p2), .val (.int p3), .val .null, .val (.ref a137), .val (.ref a149), .val (.ref a167), .val (.ref a175), .val .null, .val (.ref a201)] [(.ref a201)]))
      refine X213.callV (y := (⟨"org/holdfast/model/EnumerationAndChronology", "designation", "()Lorg/holdfast/model/Designation;"⟩ : MethodName)) (z := (⟨"org/holdfast/model/EnumerationAndChronology", "designation", "()Lorg/holdfast/model/Designation;"⟩ : MethodName)) (W := 0) (w269 hw) (w270 hw) (w272 hw) (w271 hw) (nfs rfl (w272 hw)) (by decide) (X213.payM (sf := []) (rmG_designation_R l Z a0 hw hEL zc O2 P5 de kde OD AD em OM el ee kee OL XL FL AE mr MR a201 a175 h201 X213.old g201_4) sf0 (w273 hw) (w232 hw) (by decide) (by decide)) g201_0 rfl (by rw [hml]; rfl) (argsL := []) (rest := []) (lenOf pd22 rfl) rfl rfl (by show 2 * 0 + _ ≤ _; exact Nat.le_of_eq rfl) (hb hby at_164) (by decide) (by decide) fun T215 h215 vm215 v215 X215 C215 z215 q215 => ?_
      obtain ⟨rfl, K215⟩ := q215
      rw [K215] at X215 C215
      have A216 := X215.at
      show Gets p e below _ (T215.setTop (mkF m 167 #[.val (.int p0), .val (.int p1), .val (.int p2), .val (.int p3), .val .null, .val (.ref a137), .val (.ref a149), .val (.ref a167), .val (.ref a175), .val .null, .val (.ref a201)] [(.ref a175)]))
      refine Gets.via (fun _ k => (XS.aload A216 hx rfl (hb hby at_167) rfl rfl k)) ?_
      show Gets p e below _ (T215.setTop (mkF m 169 #[.val (.int p0), .val (.int p1), .val (.int p2), .val (.int p3), .val .null, .val (.ref a137), .val (.ref a149), .val (.ref a167), .val (.ref a175), .val .null, .val (.ref a201)] [(.ref a175), (.ref a175)]))
      refine X215.acmpW hx rfl rfl rfl (pc0 := 169) (pc' := 172) (same := true) rfl (hb hby at_169) rfl (by simp) (by decide) (by decide) ?_
      show Gets p e below _ (T215.setTop (mkF m 172 #[.val (.int p0), .val (.int p1), .val (.int p2), .val (.int p3), .val .null, .val (.ref a137), .val (.ref a149), .val (.ref a167), .val (.ref a175), .val .null, .val (.ref a201)] []))
      refine Gets.via (fun _ k => (XS.aload A216 hx rfl (hb hby at_172) rfl rfl k)) ?_
      show Gets p e below _ (T215.setTop (mkF m 174 #[.val (.int p0), .val (.int p1), .val (.int p2), .val (.int p3), .val .null, .val (.ref a137), .val (.ref a149), .val (.ref a167), .val (.ref a175), .val .null, .val (.ref a201)] [(.ref a201)]))
      refine X215.callV (y := (⟨"org/holdfast/model/EnumerationAndChronology", "ending", "()Lorg/holdfast/model/Designation;"⟩ : MethodName)) (z := (⟨"org/holdfast/model/EnumerationAndChronology", "ending", "()Lorg/holdfast/model/Designation;"⟩ : MethodName)) (W := 0) (w274 hw) (w275 hw) (w277 hw) (w276 hw) (nfs rfl (w277 hw)) (by decide) (X215.payM (sf := []) (rmG_ending_N l Z a0 hw hEL zc O2 P5 de kde OD AD em OM el ee kee OL XL FL AE mr MR a201 h201 X215.old g201_5) sf0 (w278 hw) (w232 hw) (by decide) (by decide)) g201_0 rfl (by rw [hml]; rfl) (argsL := []) (rest := []) (lenOf pd22 rfl) rfl rfl (by show 2 * 0 + _ ≤ _; exact Nat.le_of_eq rfl) (hb hby at_174) (by decide) (by decide) fun T217 h217 vm217 v217 X217 C217 z217 q217 => ?_
      obtain ⟨rfl, K217⟩ := q217
      rw [K217] at X217 C217
      have A218 := X217.at
      show Gets p e below _ (T217.setTop (mkF m 177 #[.val (.int p0), .val (.int p1), .val (.int p2), .val (.int p3), .val .null, .val (.ref a137), .val (.ref a149), .val (.ref a167), .val (.ref a175), .val .null, .val (.ref a201)] [.null]))
      refine Gets.via (fun _ k => (XS.aload A218 hx rfl (hb hby at_177) rfl rfl k)) ?_
      show Gets p e below _ (T217.setTop (mkF m 179 #[.val (.int p0), .val (.int p1), .val (.int p2), .val (.int p3), .val .null, .val (.ref a137), .val (.ref a149), .val (.ref a167), .val (.ref a175), .val .null, .val (.ref a201)] [.null, .null]))
      refine X217.acmpW hx rfl rfl rfl (pc0 := 179) (pc' := 182) (same := true) rfl (hb hby at_179) rfl (by simp) (by decide) (by decide) ?_
      show Gets p e below _ (T217.setTop (mkF m 182 #[.val (.int p0), .val (.int p1), .val (.int p2), .val (.int p3), .val .null, .val (.ref a137), .val (.ref a149), .val (.ref a167), .val (.ref a175), .val .null, .val (.ref a201)] []))
      refine Gets.via (fun _ k => (XS.iconst A218 hx rfl (hb hby at_182) (XS.goto A218 hx rfl (pc0 := 183) (pc' := 187) rfl (hb hby at_183) (by decide) (by decide) k))) ?_
      show Gets p e below _ (T217.setTop (mkF m 187 #[.val (.int p0), .val (.int p1), .val (.int p2), .val (.int p3), .val .null, .val (.ref a137), .val (.ref a149), .val (.ref a167), .val (.ref a175), .val .null, .val (.ref a201)] [(.int (1 : Int32))]))
      exact X217.retI hret (by decide) (by simp) (hb hby at_187) (by decide) (by decide) ⟨rfl, ((((((((((((Keep.refl h0 []).ext E137).ext E140).trans K146 (allS (Or.inr (leA (by omega))) all0)).ext E149).trans K151 (allS (Or.inr (leA (by omega))) all0)).trans K159 (allS (Or.inr (leA (by omega))) all0)).ext E167).trans K169 (allS (Or.inr (leA (by omega))) all0)).ext E175).trans K198 (allS (Or.inr (leA (by omega))) all0)).trans K201 all0)⟩
    · refine Gets.via (fun _ k => (XS.ifNo A200 hx rfl (hb hby at_108) rfl (Jvm.Free.XT.i0_eq_f b108) k)) ?_
      show Gets p e below _ (T198.setTop (mkF m 111 #[.val (.int p0), .val (.int p1), .val (.int p2), .val (.int p3), .val .null, .val (.ref a137), .val (.ref a149), .val (.ref a167), .val (.ref a175), .val .null, .unset] []))
      refine X198.new (w112 hw) (w113 hw) (w114 hw) rfl (hb hby at_111) (by decide) (by decide) fun T219 h219 a219 X219 C219 E219 g219 Z219 S219 D219 => ?_
      have z219 := E219.1
      have l219 := ltA Z219.lt
      have A220 := X219.at
      show Gets p e below _ (T219.setTop (mkF m 114 #[.val (.int p0), .val (.int p1), .val (.int p2), .val (.int p3), .val .null, .val (.ref a137), .val (.ref a149), .val (.ref a167), .val (.ref a175), .val .null, .unset] [(.ref a219)]))
      refine Gets.via (fun _ k => (XS.dup A220 hx rfl (hb hby at_114) rfl rfl (XS.aload A220 hx rfl (hb hby at_115) rfl rfl (XS.aload A220 hx rfl (hb hby at_117) rfl rfl k)))) ?_
      show Gets p e below _ (T219.setTop (mkF m 119 #[.val (.int p0), .val (.int p1), .val (.int p2), .val (.int p3), .val .null, .val (.ref a137), .val (.ref a149), .val (.ref a167), .val (.ref a175), .val .null, .unset] [(.ref a149), (.ref a167), (.ref a219), (.ref a219)]))
      have f221 : Exa Z h198 a149 "java/util/ArrayList" := f179.keep K198
      have f222 : Exa Z h219 a149 "java/util/ArrayList" := f221.ext E219
      have f223 : Fld Z h198 a149 "java/util/ArrayList" "size" "I" (.int (1 : Int32)) := f182.keep K198 (ninS (neA (by omega)) nin0)
      have f224 : Fld Z h219 a149 "java/util/ArrayList" "size" "I" (.int (1 : Int32)) := f223.ext E219
      have f225 : Fld Z h198 a149 "java/util/ArrayList" "elementData" "[Ljava/lang/Object;" (.ref d159) := f185.keep K198 (ninS (neA (by omega)) nin0)
      have f226 : Fld Z h219 a149 "java/util/ArrayList" "elementData" "[Ljava/lang/Object;" (.ref d159) := f225.ext E219
      have f227 : Arv Z h198 d159 kd159 (.object "java/lang/Object") (10 : Int32) [(.ref a137), .null, .null, .null, .null, .null, .null, .null, .null, .null] .null := f188.keep K198 (ninS (neA (by omega)) nin0)
      have f228 : Arv Z h219 d159 kd159 (.object "java/lang/Object") (10 : Int32) [(.ref a137), .null, .null, .null, .null, .null, .null, .null, .null, .null] .null := f227.ext E219
      have f229 : Exa Z h198 d159 "[Ljava/lang/Object;" := f191.keep K198
      have f230 : Exa Z h219 d159 "[Ljava/lang/Object;" := f229.ext E219
      have f231 : Exa Z h198 a137 "org/holdfast/model/Level" := f195.keep K198
      have f232 : Exa Z h219 a137 "org/holdfast/model/Level" := f231.ext E219
      have f233 : Exa Z h198 a167 "java/util/ArrayList" := f196.keep K198
      have f234 : Exa Z h219 a167 "java/util/ArrayList" := f233.ext E219
      have f235 : Fld Z h198 a167 "java/util/ArrayList" "size" "I" (.int (0 : Int32)) := f197.keep K198 (ninS (neA (by omega)) nin0)
      have f236 : Fld Z h219 a167 "java/util/ArrayList" "size" "I" (.int (0 : Int32)) := f235.ext E219
      refine X219.callI (y := (⟨"org/holdfast/model/Designation", "<init>", "(Ljava/util/List;Ljava/util/List;)V"⟩ : MethodName)) (W := 1) rfl (w115 hw) (w116 hw) (w117 hw) (by decide) (X219.payM (sf := []) (rmDesB l Z a0 hw hEL zc O2 P5 de kde OD AD em OM el ee kee OL XL FL AE mr MR a219 a149 a167 d159 kd159 a137 h219 X219.old Z219 (D219 (Or.inr (w218 hw)) (ty := (.object "java/util/List")) (by decide) : Fld Z h219 a219 "org/holdfast/model/Designation" "enumeration" "Ljava/util/List;" .null) (D219 (Or.inr (w220 hw)) (ty := (.object "java/util/List")) (by decide) : Fld Z h219 a219 "org/holdfast/model/Designation" "chronology" "Ljava/util/List;" .null) (leA (by omega)) f222 f224 f226 f228 f230 f232 f234 f236) sf0 (w117 hw) (w114 hw) (by decide) (by decide)) rfl (by rw [hml]; rfl) (a := a219) (argsL := [(.ref a167), (.ref a149)]) (rest := [(.ref a219)]) (lenOf pd18 rfl) rfl rfl (by show 2 * 0 + _ ≤ _; exact Nat.le_of_eq rfl) (hb hby at_119) (by decide) (by decide) fun T237 h237 vm237 v237 X237 C237 z237 q237 => ?_
      obtain ⟨rfl, K237, g237_0⟩ := q237
      have l238 := ltA g237_0.lt
      have A239 := X237.at
      show Gets p e below _ (T237.setTop (mkF m 122 #[.val (.int p0), .val (.int p1), .val (.int p2), .val (.int p3), .val .null, .val (.ref a137), .val (.ref a149), .val (.ref a167), .val (.ref a175), .val .null, .unset] [(.ref a219)]))
      refine Gets.via (fun _ k => (XS.astore A239 hx rfl (hb hby at_122) rfl rfl (l' := #[.val (.int p0), .val (.int p1), .val (.int p2), .val (.int p3), .val .null, .val (.ref a137), .val (.ref a149), .val (.ref a167), .val (.ref a175), .val (.ref a219), .unset]) rfl (XS.aconstNull A239 hx rfl (hb hby at_124) (XS.aload A239 hx rfl (hb hby at_125) rfl rfl (XS.aload A239 hx rfl (hb hby at_127) rfl rfl (XS.aload A239 hx rfl (hb hby at_129) rfl rfl k)))))) ?_
      show Gets p e below _ (T237.setTop (mkF m 131 #[.val (.int p0), .val (.int p1), .val (.int p2), .val (.int p3), .val .null, .val (.ref a137), .val (.ref a149), .val (.ref a167), .val (.ref a175), .val (.ref a219), .unset] [(.ref a219), (.ref a175), .null, .null]))
      have f240 : Exa Z h219 a175 "org/holdfast/model/Designation" := g198_0.ext E219
      have f241 : Exa Z h237 a175 "org/holdfast/model/Designation" := f240.keep K237
      refine X237.callS (y := (⟨"org/holdfast/model/EnumerationAndChronology", "coded", "(Lorg/holdfast/model/UnitType;Ljava/lang/String;Lorg/holdfast/model/Designation;Lorg/holdfast/model/Designation;)Lorg/holdfast/model/EnumerationAndChronology;"⟩ : MethodName)) (W := 0) (w230 hw) (w231 hw) (w232 hw) (w233 hw) (by decide) (X237.payM (sf := []) (rmCodedNR l Z a0 hw hEL zc O2 P5 de kde OD AD em OM el ee kee OL XL FL AE mr MR a175 a219 h237 X237.old f241) sf0 (w233 hw) (w232 hw) (by decide) (by decide)) rfl (by rw [hml]; rfl) (argsL := [.null, .null, (.ref a175), (.ref a219)]) (rest := []) (lenOf pd19 rfl) rfl rfl (by show 2 * 0 + _ ≤ _; exact Nat.le_of_eq rfl) (hb hby at_131) (by decide) (by decide) fun T242 h242 vm242 v242 X242 C242 z242 q242 => ?_
      obtain ⟨a242, rfl, K242, g242_0, g242_1, g242_2, g242_3, g242_4, g242_5⟩ := q242
      have l243 := ltA g242_0.lt
      have l244 := ltA g242_1.lt
      have l245 := ltA g242_2.lt
      have l246 := ltA g242_3.lt
      have l247 := ltA g242_4.lt
      have l248 := ltA g242_5.lt
      have A249 := X242.at
      show Gets p e below _ (T242.setTop (mkF m 134 #[.val (.int p0), .val (.int p1), .val (.int p2), .val (.int p3), .val .null, .val (.ref a137), .val (.ref a149), .val (.ref a167), .val (.ref a175), .val (.ref a219), .unset] [(.ref a242)]))
      refine Gets.via (fun _ k => (XS.astore A249 hx rfl (hb hby at_134) rfl rfl (l' := #[.val (.int p0), .val (.int p1), .val (.int p2), .val (.int p3), .val .null, .val (.ref a137), .val (.ref a149), .val (.ref a167), .val (.ref a175), .val (.ref a219), .val (.ref a242)]) rfl (XS.aload A249 hx rfl (hb hby at_136) rfl rfl k))) ?_
      show Gets p e below _ (T242.setTop (mkF m 138 #[.val (.int p0), .val (.int p1), .val (.int p2), .val (.int p3), .val .null, .val (.ref a137), .val (.ref a149), .val (.ref a167), .val (.ref a175), .val (.ref a219), .val (.ref a242)] [(.ref a242)]))
      refine X242.callV (y := (⟨"org/holdfast/model/EnumerationAndChronology", "unitType", "()Lorg/holdfast/model/UnitType;"⟩ : MethodName)) (z := (⟨"org/holdfast/model/EnumerationAndChronology", "unitType", "()Lorg/holdfast/model/UnitType;"⟩ : MethodName)) (W := 0) (w254 hw) (w255 hw) (w257 hw) (w256 hw) (nfs rfl (w257 hw)) (by decide) (X242.payM (sf := []) (rmG_unitType_N l Z a0 hw hEL zc O2 P5 de kde OD AD em OM el ee kee OL XL FL AE mr MR a242 h242 X242.old g242_1) sf0 (w258 hw) (w232 hw) (by decide) (by decide)) g242_0 rfl (by rw [hml]; rfl) (argsL := []) (rest := []) (lenOf pd20 rfl) rfl rfl (by show 2 * 0 + _ ≤ _; exact Nat.le_of_eq rfl) (hb hby at_138) (by decide) (by decide) fun T250 h250 vm250 v250 X250 C250 z250 q250 => ?_
      obtain ⟨rfl, K250⟩ := q250
      rw [K250] at X250 C250
      have A251 := X250.at
      show Gets p e below _ (T250.setTop (mkF m 141 #[.val (.int p0), .val (.int p1), .val (.int p2), .val (.int p3), .val .null, .val (.ref a137), .val (.ref a149), .val (.ref a167), .val (.ref a175), .val (.ref a219), .val (.ref a242)] [.null]))
      refine Gets.via (fun _ k => (XS.ifnonnullNo A251 hx rfl (hb hby at_141) rfl k)) ?_
      show Gets p e below _ (T250.setTop (mkF m 144 #[.val (.int p0), .val (.int p1), .val (.int p2), .val (.int p3), .val .null, .val (.ref a137), .val (.ref a149), .val (.ref a167), .val (.ref a175), .val (.ref a219), .val (.ref a242)] []))
      refine Gets.via (fun _ k => (XS.aload A251 hx rfl (hb hby at_144) rfl rfl k)) ?_
      show Gets p e below _ (T250.setTop (mkF m 146 #[.val (.int p0), .val (.int p1), .val (.int p2), .val (.int p3), .val .null, .val (.ref a137), .val (.ref a149), .val (.ref a167), .val (.ref a175), .val (.ref a219), .val (.ref a242)] [(.ref a242)]))
      refine X250.callV (y := (⟨"org/holdfast/model/EnumerationAndChronology", "note", "()Ljava/lang/String;"⟩ : MethodName)) (z := (⟨"org/holdfast/model/EnumerationAndChronology", "note", "()Ljava/lang/String;"⟩ : MethodName)) (W := 0) (w259 hw) (w260 hw) (w262 hw) (w261 hw) (nfs rfl (w262 hw)) (by decide) (X250.payM (sf := []) (rmG_note_N l Z a0 hw hEL zc O2 P5 de kde OD AD em OM el ee kee OL XL FL AE mr MR a242 h242 X250.old g242_2) sf0 (w263 hw) (w232 hw) (by decide) (by decide)) g242_0 rfl (by rw [hml]; rfl) (argsL := []) (rest := []) (lenOf pd21 rfl) rfl rfl (by show 2 * 0 + _ ≤ _; exact Nat.le_of_eq rfl) (hb hby at_146) (by decide) (by decide) fun T252 h252 vm252 v252 X252 C252 z252 q252 => ?_
      obtain ⟨rfl, K252⟩ := q252
      rw [K252] at X252 C252
      have A253 := X252.at
      show Gets p e below _ (T252.setTop (mkF m 149 #[.val (.int p0), .val (.int p1), .val (.int p2), .val (.int p3), .val .null, .val (.ref a137), .val (.ref a149), .val (.ref a167), .val (.ref a175), .val (.ref a219), .val (.ref a242)] [.null]))
      refine Gets.via (fun _ k => (XS.aload A253 hx rfl (hb hby at_149) rfl rfl k)) ?_
      show Gets p e below _ (T252.setTop (mkF m 151 #[.val (.int p0), .val (.int p1), .val (.int p2), .val (.int p3), .val .null, .val (.ref a137), .val (.ref a149), .val (.ref a167), .val (.ref a175), .val (.ref a219), .val (.ref a242)] [.null, .null]))
      refine X252.acmpW hx rfl rfl rfl (pc0 := 151) (pc' := 154) (same := true) rfl (hb hby at_151) rfl (by simp) (by decide) (by decide) ?_
      show Gets p e below _ (T252.setTop (mkF m 154 #[.val (.int p0), .val (.int p1), .val (.int p2), .val (.int p3), .val .null, .val (.ref a137), .val (.ref a149), .val (.ref a167), .val (.ref a175), .val (.ref a219), .val (.ref a242)] []))
      refine Gets.via (fun _ k => (XS.aload A253 hx rfl (hb hby at_154) rfl rfl k)) ?_
      show Gets p e below _ (T252.setTop (mkF m 156 #[.val (.int p0), .val (.int p1), .val (.int p2), .val (.int p3), .val .null, .val (.ref a137), .val (.ref a149), .val (.ref a167), .val (.ref a175), .val (.ref a219), .val (.ref a242)] [(.ref a242)]))
      refine X252.callV (y := (⟨"org/holdfast/model/EnumerationAndChronology", "text", "()Ljava/lang/String;"⟩ : MethodName)) (z := (⟨"org/holdfast/model/EnumerationAndChronology", "text", "()Ljava/lang/String;"⟩ : MethodName)) (W := 0) (w264 hw) (w265 hw) (w267 hw) (w266 hw) (nfs rfl (w267 hw)) (by decide) (X252.payM (sf := []) (rmG_text_N l Z a0 hw hEL zc O2 P5 de kde OD AD em OM el ee kee OL XL FL AE mr MR a242 h242 X252.old g242_3) sf0 (w268 hw) (w232 hw) (by decide) (by decide)) g242_0 rfl (by rw [hml]; rfl) (argsL := []) (rest := []) (lenOf pd21 rfl) rfl rfl (by show 2 * 0 + _ ≤ _; exact Nat.le_of_eq rfl) (hb hby at_156) (by decide) (by decide) fun T254 h254 vm254 v254 X254 C254 z254 q254 => ?_
      obtain ⟨rfl, K254⟩ := q254
      rw [K254] at X254 C254
      have A255 := X254.at
      show Gets p e below _ (T254.setTop (mkF m 159 #[.val (.int p0), .val (.int p1), .val (.int p2), .val (.int p3), .val .null, .val (.ref a137), .val (.ref a149), .val (.ref a167), .val (.ref a175), .val (.ref a219), .val (.ref a242)] [.null]))
      refine Gets.via (fun _ k => (XS.ifnonnullNo A255 hx rfl (hb hby at_159) rfl k)) ?_
      show Gets p e below _ (T254.setTop (mkF m 162 #[.val (.int p0), .val (.int p1), .val (.int p2), .val (.int p3), .val .null, .val (.ref a137), .val (.ref a149), .val (.ref a167), .val (.ref a175), .val (.ref a219), .val (.ref a242)] []))
      refine Gets.via (fun _ k => (XS.aload A255 hx rfl (hb hby at_162) rfl rfl k)) ?_
      show Gets p e below _ (T254.setTop (mkF m 164 #[.val (.int p0), .val (.int p1), .val (.int p2), .val (.int p3), .val .null, .val (.ref a137), .val (.ref a149), .val (.ref a167), .val (.ref a175), .val (.ref a219), .val (.ref a242)] [(.ref a242)]))
      refine X254.callV (y := (⟨"org/holdfast/model/EnumerationAndChronology", "designation", "()Lorg/holdfast/model/Designation;"⟩ : MethodName)) (z := (⟨"org/holdfast/model/EnumerationAndChronology", "designation", "()Lorg/holdfast/model/Designation;"⟩ : MethodName)) (W := 0) (w269 hw) (w270 hw) (w272 hw) (w271 hw) (nfs rfl (w272 hw)) (by decide) (X254.payM (sf := []) (rmG_designation_R l Z a0 hw hEL zc O2 P5 de kde OD AD em OM el ee kee OL XL FL AE mr MR a242 a175 h242 X254.old g242_4) sf0 (w273 hw) (w232 hw) (by decide) (by decide)) g242_0 rfl (by rw [hml]; rfl) (argsL := []) (rest := []) (lenOf pd22 rfl) rfl rfl (by show 2 * 0 + _ ≤ _; exact Nat.le_of_eq rfl) (hb hby at_164) (by decide) (by decide) fun T256 h256 vm256 v256 X256 C256 z256 q256 => ?_
      obtain ⟨rfl, K256⟩ := q256
      rw [K256] at X256 C256
      have A257 := X256.at
      show Gets p e below _ (T256.setTop (mkF m 167 #[.val (.int p0), .val (.int p1), .val (.int p2), .val (.int p3), .val .null, .val (.ref a137), .val (.ref a149), .val (.ref a167), .val (.ref a175), .val (.ref a219), .val (.ref a242)] [(.ref a175)]))
      refine Gets.via (fun _ k => (XS.aload A257 hx rfl (hb hby at_167) rfl rfl k)) ?_
      show Gets p e below _ (T256.setTop (mkF m 169 #[.val (.int p0), .val (.int p1), .val (.int p2), .val (.int p3), .val .null, .val (.ref a137), .val (.ref a149), .val (.ref a167), .val (.ref a175), .val (.ref a219), .val (.ref a242)] [(.ref a175), (.ref a175)]))
      refine X256.acmpW hx rfl rfl rfl (pc0 := 169) (pc' := 172) (same := true) rfl (hb hby at_169) rfl (by simp) (by decide) (by decide) ?_
      show Gets p e below _ (T256.setTop (mkF m 172 #[.val (.int p0), .val (.int p1), .val (.int p2), .val (.int p3), .val .null, .val (.ref a137), .val (.ref a149), .val (.ref a167), .val (.ref a175), .val (.ref a219), .val (.ref a242)] []))
      refine Gets.via (fun _ k => (XS.aload A257 hx rfl (hb hby at_172) rfl rfl k)) ?_
      show Gets p e below _ (T256.setTop (mkF m 174 #[.val (.int p0), .val (.int p1), .val (.int p2), .val (.int p3), .val .null, .val (.ref a137), .val (.ref a149), .val (.ref a167), .val (.ref a175), .val (.ref a219), .val (.ref a242)] [(.ref a242)]))
      refine X256.callV (y := (⟨"org/holdfast/model/EnumerationAndChronology", "ending", "()Lorg/holdfast/model/Designation;"⟩ : MethodName)) (z := (⟨"org/holdfast/model/EnumerationAndChronology", "ending", "()Lorg/holdfast/model/Designation;"⟩ : MethodName)) (W := 0) (w274 hw) (w275 hw) (w277 hw) (w276 hw) (nfs rfl (w277 hw)) (by decide) (X256.payM (sf := []) (rmG_ending_R l Z a0 hw hEL zc O2 P5 de kde OD AD em OM el ee kee OL XL FL AE mr MR a242 a219 h242 X256.old g242_5) sf0 (w278 hw) (w232 hw) (by decide) (by decide)) g242_0 rfl (by rw [hml]; rfl) (argsL := []) (rest := []) (lenOf pd22 rfl) rfl rfl (by show 2 * 0 + _ ≤ _; exact Nat.le_of_eq rfl) (hb hby at_174) (by decide) (by decide) fun T258 h258 vm258 v258 X258 C258 z258 q258 => ?_
      obtain ⟨rfl, K258⟩ := q258
      rw [K258] at X258 C258
      have A259 := X258.at
      show Gets p e below _ (T258.setTop (mkF m 177 #[.val (.int p0), .val (.int p1), .val (.int p2), .val (.int p3), .val .null, .val (.ref a137), .val (.ref a149), .val (.ref a167), .val (.ref a175), .val (.ref a219), .val (.ref a242)] [(.ref a219)]))
      refine Gets.via (fun _ k => (XS.aload A259 hx rfl (hb hby at_177) rfl rfl k)) ?_
      show Gets p e below _ (T258.setTop (mkF m 179 #[.val (.int p0), .val (.int p1), .val (.int p2), .val (.int p3), .val .null, .val (.ref a137), .val (.ref a149), .val (.ref a167), .val (.ref a175), .val (.ref a219), .val (.ref a242)] [(.ref a219), (.ref a219)]))
      refine X258.acmpW hx rfl rfl rfl (pc0 := 179) (pc' := 182) (same := true) rfl (hb hby at_179) rfl (by simp) (by decide) (by decide) ?_
      show Gets p e below _ (T258.setTop (mkF m 182 #[.val (.int p0), .val (.int p1), .val (.int p2), .val (.int p3), .val .null, .val (.ref a137), .val (.ref a149), .val (.ref a167), .val (.ref a175), .val (.ref a219), .val (.ref a242)] []))
      refine Gets.via (fun _ k => (XS.iconst A259 hx rfl (hb hby at_182) (XS.goto A259 hx rfl (pc0 := 183) (pc' := 187) rfl (hb hby at_183) (by decide) (by decide) k))) ?_
      show Gets p e below _ (T258.setTop (mkF m 187 #[.val (.int p0), .val (.int p1), .val (.int p2), .val (.int p3), .val .null, .val (.ref a137), .val (.ref a149), .val (.ref a167), .val (.ref a175), .val (.ref a219), .val (.ref a242)] [(.int (1 : Int32))]))
      exact X258.retI hret (by decide) (by simp) (hb hby at_187) (by decide) (by decide) ⟨rfl, ((((((((((((((Keep.refl h0 []).ext E137).ext E140).trans K146 (allS (Or.inr (leA (by omega))) all0)).ext E149).trans K151 (allS (Or.inr (leA (by omega))) all0)).trans K159 (allS (Or.inr (leA (by omega))) all0)).ext E167).trans K169 (allS (Or.inr (leA (by omega))) all0)).ext E175).trans K198 (allS (Or.inr (leA (by omega))) all0)).ext E219).trans K237 (allS (Or.inr (leA (by omega))) all0)).trans K242 all0)⟩
set_option maxRecDepth 65536 in
set_option maxHeartbeats 40000000 in
theorem comes_1 {Post : Tables → Env → Array Value → State → Outcome → State → Prop} (hpost : ∀ tb e args s v u, (limb_1_1.after args s (.returned v) u = true ∧ limb_1_2.after args s (.returned v) u = true ∧ True) → FramedW s (.returned v) u (Jvm.fieldLocs frame_1_writes args s ++ Jvm.arrayLocs frame_1_arrays args s ++ Jvm.staticLocs frame_1_statics s) 48 3264 → Post tb e args s (.returned v) u) :
    ArmFor flags0 classFile x code maxLocals ret World_1 tables_1 room_1 Calls_1 rest_1 Pre_1 Post := by
  intro l hfl _ _ p e ha hc hk s m args below hf hA hF happ hP
  obtain ⟨hcalls, hrest, hpre⟩ := hP
  obtain ⟨-, -, -, hnamed, -, -, -, hat⟩ := (Spec.applies_iff hf).mp happ
  obtain ⟨hg, hn⟩ := and_e (Cond.before_iff.mp (show (Jvm.Cond.and given_1 narrow_1).before args s = true from hpre))
  obtain ⟨h1, h2⟩ := and_e hg
  obtain ⟨w0, w1, w2, w3, rfl⟩ : ∃ w0 w1 w2 w3 : Value, args = #[w0, w1, w2, w3] := by
    have hs : args.size = 4 := by simpa [Cond.value, given_1] using h1
    obtain ⟨L⟩ := args
    match L, hs with
    | [w0, w1, w2, w3], _ => exact ⟨w0, w1, w2, w3, rfl⟩
  have hw := fun d (hd : d ∈ tables_1) => atoms_spec (ws := Jvm.Cond.code x code maxLocals ret :: tables_1) hat d (List.mem_cons_of_mem _ hd)
  obtain ⟨u0, r0⟩ := and_e h2
  obtain ⟨i0, e0⟩ := is_v u0
  obtain rfl : w0 = (.int i0) := Option.some.inj e0
  obtain ⟨u1, r1⟩ := and_e r0
  obtain ⟨i1, e1⟩ := is_v u1
  obtain rfl : w1 = (.int i1) := Option.some.inj e1
  obtain ⟨u2, r2⟩ := and_e r1
  obtain ⟨i2, e2⟩ := is_v u2
  obtain rfl : w2 = (.int i2) := Option.some.inj e2
  obtain ⟨i3, e3⟩ := is_v r2
  obtain rfl : w3 = (.int i3) := Option.some.inj e3
  obtain ⟨hst, hown0⟩ := atoms_of _ (rest_1_c_eq ▸ (show rest_1_c.before _ s = true from hrest))
  obtain ⟨zc, ez⟩ := is_v (Cond.before_iff.mp (hst _ (List.mem_of_getElem? (i := 1) rfl)))
  have O2 : Sta s s.heap "java/lang/String" "COMPACT_STRINGS" "Z" (.int zc) := Sta.start ez (Or.inl (hst _ (List.mem_of_getElem? (i := 0) rfl)))
  have P5 : ¬ zc = 0 := gotF (Cond.eq_ints ez (Term.int_eval (0))) (not_v (Cond.before_iff.mp (hst _ (List.mem_of_getElem? (i := 2) rfl))))
  have hEL : EW s #[(.int i0), (.int i1), (.int i2), (.int i3)] ([] : List (String × Nat)) := EW.nil
  have hCH : CHv s ([] : List (String × Nat)) s.vm s.heap := fun p hp => nomatch hp
  have hfit : Fit s := fun {y c} hc i hi => by
    obtain ⟨ha, rfl⟩ := Array.getElem?_eq_some_iff.mp hc
    have q := List.all_eq_true.mp ((Array.all_eq_true_iff_forall_mem.mp hF) _ (Array.getElem_mem ha)) i (List.mem_range.mpr hi)
    simpa [Array.getElem?_eq_getElem hi] using q
  have xD := Cond.before_iff.mp (hst _ (List.mem_of_getElem? (i := 15) rfl))
  obtain ⟨de, vD⟩ := arr_v xD
  have OD : Sta s s.heap "java/util/ArrayList" "DEFAULTCAPACITY_EMPTY_ELEMENTDATA" "[Ljava/lang/Object;" (.ref de) := Sta.start vD (Or.inr ⟨(w59 hw), hst _ (List.mem_of_getElem? (i := 11) rfl)⟩)
  obtain ⟨kde, AD⟩ := arv0 hfit vD xD (Cond.before_iff.mp (hst _ (List.mem_of_getElem? (i := 17) rfl)))
  obtain ⟨em, vM⟩ := exa_v (Cond.before_iff.mp (hst _ (List.mem_of_getElem? (i := 20) rfl)))
  have OM : Sta s s.heap "java/util/ImmutableCollections" "EMPTY" "Ljava/lang/Object;" (.ref em) := Sta.start vM (Or.inl (hst _ (List.mem_of_getElem? (i := 19) rfl)))
  have xL := Cond.before_iff.mp (hst _ (List.mem_of_getElem? (i := 26) rfl))
  obtain ⟨el, vL⟩ := exa_v xL
  have OL : Sta s s.heap "java/util/ImmutableCollections" "EMPTY_LIST" "Ljava/util/ImmutableCollections$ListN;" (.ref el) := Sta.start vL (Or.inl (hst _ (List.mem_of_getElem? (i := 25) rfl)))
  have XL : Exa s s.heap el "java/util/ImmutableCollections$ListN" := Exa.start vL xL
  have xE := Cond.before_iff.mp (hst _ (List.mem_of_getElem? (i := 30) rfl))
  obtain ⟨ee, vE⟩ := arr_v xE
  have FL : Fld s s.heap el "java/util/ImmutableCollections$ListN" "elements" "[Ljava/lang/Object;" (.ref ee) := Fld.start ((fld_at vL).symm.trans vE)
  obtain ⟨kee, AE⟩ := arv0 hfit vE xE (Cond.before_iff.mp (hst _ (List.mem_of_getElem? (i := 32) rfl)))
  obtain ⟨mr, MR⟩ : ∃ mr, Mir s "[Ljava/lang/Object;" mr := by obtain ⟨cc, kk, mm, q1, q2, q3, q4⟩ := hcalls.1; exact ⟨mm, cc, kk, q1, q2, q3, q4⟩
  obtain ⟨n, o, h1, h2, h3, v, L, rfl, ⟨⟨rfl, -⟩, N, -⟩, -, hq⟩ := rmLaw l s _ hw hEL zc O2 P5 de kde OD AD em OM el ee kee OL XL FL AE mr MR i0 i1 i2 i3 s.heap (Old.start s) p e ha hc hk s m _ below hf ((Spec.applies_iff_loose hf).mp happ).1 ⟨rfl, State.Warmed39.refl s, rfl, hCH, fun _ q => nomatch q⟩ trivial
  refine ⟨n, _, h1, h2, h3, hpost _ _ _ _ _ _ ⟨Cond.after_iff.mpr rfl, Cond.after_iff.mpr (eq_i res_at (Term.int_eval (1)) rfl), trivial⟩ ⟨hq.1, hq.2.1, hq.2.2.1, (hq.2.2.2.sift fun y hy => Or.inr (N y hy)).mono (by decide) (by decide)⟩⟩
theorem main_1_1 : Claimed_1_1 := comes_1 fun _ _ _ _ _ _ h hF => ⟨h.1, hF⟩
theorem main_1_2 : Claimed_1_2 := comes_1 fun _ _ _ _ _ _ h hF => ⟨h.2.1, hF⟩
end Jvm.Pilot.@@N@@
namespace Jvm.Pilot.@@N@@
open Jvm Jvm.ClassFile Sem Op Lib Jvm.Free Jvm.Stand Jvm.Pilot.@@N@@.Jvm.D
/-! MADE BY PROGRAM (witnessworld.py) out of the Statement's table words and the real class files: 42 classes; the members and pool entries that the words name. The judged class is class 1, her method 1. -/
namespace start1
open Jvm.ClassFile
def u (s : String) : CpInfo := .utf8 (stringToUtf16 s)
/-- a pool by its gaps: so many unusable entries, then the entry; so many at the end -/
def gap : Nat → List CpInfo → List CpInfo
  | 0, r => r
  | n + 1, r => .unusable :: gap n r
def poolList (es : List (Nat × CpInfo)) (last : Nat) : List CpInfo := es.foldr (fun e r => gap e.1 (e.2 :: r)) (gap last [])
def pool (es : List (Nat × CpInfo)) (last : Nat) : Array CpInfo := ⟨poolList es last⟩
def fileOf (pool : Array CpInfo) (this : Nat) (attrs : Array Attribute := #[]) (ms : Array MethodInfo := #[]) (fl : Nat := 33) (sup : Nat := 0) (ifs : Array Nat := #[]) (fds : Array FieldInfo := #[]) : ClassFile where
  minorVersion := 0
  majorVersion := 65
  constantPool := pool
  accessFlags := fl
  thisClass := this
  superClass := sup
  interfaces := ifs
  fields := fds
  methods := ms
  attributes := attrs
def plain (name : String) (sup : Option ClassId) : Class where
  name := name
  kind := .ordinary
  loader := none
  accessFlags := 33
  super := sup
  interfaces := #[]
  cf := none
  fields := #[]
  methods := #[]
  instanceTypes := #[]
  staticTypes := #[]
  resolved := #[]
  callSites := []
  init := .initialized
  statics := none
  mirror := none

def pool0 : Array CpInfo := pool [(5, u "<init>"), (0, u "()V"), (1, .class_ 10), (1, u "java/lang/Object"), (0, u "getClass"), (0, u "()Ljava/lang/Class;")] 111

def k0c0 : Code := { maxStack := 0, maxLocals := 1, code := object_method_1_code, exceptionTable := #[], attributes := #[] }
def k0m0 : Method := { name := "<init>", desc := "()V", sig := { parameters := [], returnType := none }, accessFlags := 1, code := some k0c0 }
def k0m1 : Method := { name := "getClass", desc := "()Ljava/lang/Class;", sig := { parameters := [], returnType := some (.object "java/lang/Class") }, accessFlags := 273, code := none }
/-- java/lang/Object -/
def k0 : Class := { plain "java/lang/Object" none with
  accessFlags := 33
  interfaces := #[]
  cf := some (fileOf pool0 8 #[] #[{ accessFlags := 1, nameIndex := 5, descriptorIndex := 6, attributes := #[] }, { accessFlags := 273, nameIndex := 11, descriptorIndex := 12, attributes := #[] }] 33 0 #[] #[])
  fields := #[]
  methods := #[k0m0, k0m1]
  instanceTypes := #[]
  staticTypes := #[]
  resolved := Array.replicate 124 none
  statics := none }

def pool1 : Array CpInfo := pool [(2, .class_ 4), (0, .nameAndType 5 6), (0, u "java/lang/Object"), (0, u "<init>"), (0, u "()V"), (0, .class_ 8), (0, u "java/lang/String"), (0, .methodref 7 10), (0, .nameAndType 5 11), (0, u "([C)V"), (0, .class_ 13), (0, u "org/holdfast/model/Level"), (0, .integer 1073741823), (0, .string 16), (0, u "v"), (0, .methodref 12 18), (0, .nameAndType 5 19), (0, u "(ILjava/lang/String;Ljava/lang/String;)V"), (0, .class_ 21), (0, u "java/util/ArrayList"), (0, .methodref 20 3), (0, .methodref 20 24), (0, .nameAndType 25 26), (0, u "add"), (0, u "(Ljava/lang/Object;)Z"), (0, .class_ 28), (0, u "org/holdfast/model/Designation"), (0, .methodref 27 30), (0, .nameAndType 5 31), (0, u "(Ljava/util/List;Ljava/util/List;)V"), (0, .methodref 33 34), (0, .class_ 35), (0, .nameAndType 36 37), (0, u "org/holdfast/model/EnumerationAndChronology"), (0, u "coded"), (0, u "(Lorg/holdfast/model/UnitType;Ljava/lang/String;Lorg/holdfast/model/Designation;Lorg/holdfast/model/Designation;)Lorg/holdfast/model/EnumerationAndChronology;"), (0, .methodref 33 39), (0, .nameAndType 40 41), (0, u "unitType"), (0, u "()Lorg/holdfast/model/UnitType;"), (0, .methodref 33 43), (0, .nameAndType 44 45), (0, u "note"), (0, u "()Ljava/lang/String;"), (0, .methodref 33 47), (0, .nameAndType 48 45), (0, u "text"), (0, .methodref 33 50), (0, .nameAndType 51 52), (0, u "designation"), (0, u "()Lorg/holdfast/model/Designation;"), (0, .methodref 33 54), (0, .nameAndType 55 52), (0, u "ending"), (0, .class_ 57), (0, u "org/holdfast/model/EnumerationAndChronologyCodedPinLaw"), (2, u "law"), (0, u "(IIII)Z")] 3

def k1m0 : Method := { name := "<init>", desc := "()V", sig := { parameters := [], returnType := none }, accessFlags := 1, code := none }
def k1c1 : Code := { maxStack := 5, maxLocals := 11, code := code, exceptionTable := #[], attributes := #[] }
def k1m1 : Method := { name := "law", desc := "(IIII)Z", sig := { parameters := [.int, .int, .int, .int], returnType := some .boolean }, accessFlags := 9, code := some k1c1 }
/-- org/holdfast/model/EnumerationAndChronologyCodedPinLaw -/
def k1 : Class := { plain "org/holdfast/model/EnumerationAndChronologyCodedPinLaw" (some 0) with
  accessFlags := 49
  interfaces := #[]
  cf := some (fileOf pool1 56 #[] #[{ accessFlags := 1, nameIndex := 5, descriptorIndex := 6, attributes := #[] }, { accessFlags := 9, nameIndex := 60, descriptorIndex := 61, attributes := #[] }] 49 2 #[] #[])
  fields := #[]
  methods := #[k1m0, k1m1]
  instanceTypes := #[]
  staticTypes := #[]
  resolved := Array.replicate 65 none
  statics := none }

def pool2 : Array CpInfo := pool [(1, .class_ 2), (0, u "java/io/Serializable"), (0, .class_ 4), (0, u "java/lang/Object")] 2

/-- java/io/Serializable -/
def k2 : Class := { plain "java/io/Serializable" (some 0) with
  accessFlags := 1537
  interfaces := #[]
  cf := some (fileOf pool2 1 #[] #[] 1537 3 #[] #[])
  fields := #[]
  methods := #[]
  instanceTypes := #[]
  staticTypes := #[]
  resolved := Array.replicate 7 none
  statics := none }

def pool3 : Array CpInfo := pool [(1, .class_ 2), (0, u "java/lang/Comparable"), (0, .class_ 4), (0, u "java/lang/Object")] 7

/-- java/lang/Comparable -/
def k3 : Class := { plain "java/lang/Comparable" (some 0) with
  accessFlags := 1537
  interfaces := #[]
  cf := some (fileOf pool3 1 #[] #[] 1537 3 #[] #[])
  fields := #[]
  methods := #[]
  instanceTypes := #[]
  staticTypes := #[]
  resolved := Array.replicate 12 none
  statics := none }

def pool4 : Array CpInfo := pool [(2, .class_ 4), (1, u "java/lang/CharSequence"), (42, .class_ 48), (0, u "java/lang/CharSequence$1CodePointIterator"), (10, .class_ 60), (0, u "java/lang/CharSequence$1CharIterator"), (5, .class_ 67), (0, u "java/lang/Object")] 63

/-- java/lang/CharSequence -/
def k4 : Class := { plain "java/lang/CharSequence" (some 0) with
  accessFlags := 1537
  interfaces := #[]
  cf := some (fileOf pool4 2 #[.nestMembers #[47, 59]] #[] 1537 66 #[] #[])
  fields := #[]
  methods := #[]
  instanceTypes := #[]
  staticTypes := #[]
  resolved := Array.replicate 131 none
  statics := none }

def pool5 : Array CpInfo := pool [(1, .class_ 2), (0, u "java/lang/constant/Constable"), (0, .class_ 4), (0, u "java/lang/Object")] 6

/-- java/lang/constant/Constable -/
def k5 : Class := { plain "java/lang/constant/Constable" (some 0) with
  accessFlags := 1537
  interfaces := #[]
  cf := some (fileOf pool5 1 #[] #[] 1537 3 #[] #[])
  fields := #[]
  methods := #[]
  instanceTypes := #[]
  staticTypes := #[]
  resolved := Array.replicate 11 none
  statics := none }

def pool6 : Array CpInfo := pool [(1, .class_ 2), (0, u "java/lang/constant/ConstantDesc"), (0, .class_ 4), (0, u "java/lang/Object")] 32

/-- java/lang/constant/ConstantDesc -/
def k6 : Class := { plain "java/lang/constant/ConstantDesc" (some 0) with
  accessFlags := 1537
  interfaces := #[]
  cf := some (fileOf pool6 1 #[] #[] 1537 3 #[] #[])
  fields := #[]
  methods := #[]
  instanceTypes := #[]
  staticTypes := #[]
  resolved := Array.replicate 37 none
  statics := none }

def pool7 : Array CpInfo := pool [(1, .methodref 2 3), (0, .class_ 4), (0, .nameAndType 5 6), (0, u "java/lang/Object"), (0, u "<init>"), (0, u "()V"), (2, .fieldref 10 11), (0, .class_ 12), (0, .nameAndType 13 14), (0, u "java/lang/String"), (0, u "value"), (0, u "[B"), (0, .fieldref 10 16), (0, .nameAndType 17 18), (0, u "coder"), (0, u "B"), (2, u "hash"), (0, u "I"), (2, u "hashIsZero"), (0, u "Z"), (0, .methodref 10 28), (0, .nameAndType 5 29), (0, u "([CIILjava/lang/Void;)V"), (8, .fieldref 10 39), (0, .nameAndType 40 26), (0, u "COMPACT_STRINGS"), (1, .class_ 44), (1, u "java/lang/StringUTF16"), (0, u "compress"), (1, .methodref 42 48), (0, .nameAndType 49 50), (0, u "coderFromArrayLen"), (0, u "([BI)B"), (126, .methodref 42 178), (0, .nameAndType 45 179), (0, u "([CII)[B"), (395, .class_ 576), (0, u "java/lang/CharSequence"), (22, u "CASE_INSENSITIVE_ORDER"), (0, u "Ljava/util/Comparator;"), (409, u "([C)V"), (90, u "serialPersistentFields"), (0, u "[Ljava/io/ObjectStreamField;"), (0, .class_ 1104), (0, u "java/lang/String$CaseInsensitiveComparator"), (1, .class_ 1107), (0, u "java/io/Serializable"), (0, .class_ 1109), (0, u "java/lang/Comparable"), (0, .class_ 1111), (0, u "java/lang/constant/Constable"), (0, .class_ 1113), (0, u "java/lang/constant/ConstantDesc"), (2, u "serialVersionUID"), (0, u "J"), (3, u "REPL"), (0, u "C"), (2, u "LATIN1"), (1, u "UTF16")] 323

def k7m0 : Method := { name := "<init>", desc := "()V", sig := { parameters := [], returnType := none }, accessFlags := 1, code := none }
def k7c1 : Code := { maxStack := 5, maxLocals := 2, code := jdk_42_method_3_code, exceptionTable := #[], attributes := #[] }
def k7m1 : Method := { name := "<init>", desc := "([C)V", sig := { parameters := [(.array .char)], returnType := none }, accessFlags := 1, code := some k7c1 }
def k7c2 : Code := { maxStack := 4, maxLocals := 6, code := jdk_42_method_149_code, exceptionTable := #[], attributes := #[] }
def k7m2 : Method := { name := "<init>", desc := "([CIILjava/lang/Void;)V", sig := { parameters := [(.array .char), .int, .int, (.object "java/lang/Void")], returnType := none }, accessFlags := 2, code := some k7c2 }
/-- java/lang/String -/
def k7 : Class := { plain "java/lang/String" (some 0) with
  accessFlags := 49
  interfaces := #[2, 3, 4, 5, 6]
  cf := some (fileOf pool7 10 #[.nestMembers #[1103]] #[{ accessFlags := 1, nameIndex := 5, descriptorIndex := 6, attributes := #[] }, { accessFlags := 1, nameIndex := 5, descriptorIndex := 1010, attributes := #[] }, { accessFlags := 2, nameIndex := 5, descriptorIndex := 29, attributes := #[] }] 49 2 #[1106, 1108, 575, 1110, 1112] #[{ accessFlags := 18, nameIndex := 13, descriptorIndex := 14, attributes := #[] }, { accessFlags := 18, nameIndex := 17, descriptorIndex := 18, attributes := #[] }, { accessFlags := 2, nameIndex := 21, descriptorIndex := 22, attributes := #[] }, { accessFlags := 2, nameIndex := 25, descriptorIndex := 26, attributes := #[] }, { accessFlags := 26, nameIndex := 1116, descriptorIndex := 1117, attributes := #[] }, { accessFlags := 24, nameIndex := 40, descriptorIndex := 26, attributes := #[] }, { accessFlags := 26, nameIndex := 1101, descriptorIndex := 1102, attributes := #[] }, { accessFlags := 26, nameIndex := 1121, descriptorIndex := 1122, attributes := #[] }, { accessFlags := 25, nameIndex := 599, descriptorIndex := 600, attributes := #[] }, { accessFlags := 24, nameIndex := 1125, descriptorIndex := 18, attributes := #[] }, { accessFlags := 24, nameIndex := 1127, descriptorIndex := 18, attributes := #[] }])
  fields := #[{ name := "value", type := (.array .byte), accessFlags := 18, slot := 0, constantValue := 0 }, { name := "coder", type := .byte, accessFlags := 18, slot := 1, constantValue := 0 }, { name := "hash", type := .int, accessFlags := 2, slot := 2, constantValue := 0 }, { name := "hashIsZero", type := .boolean, accessFlags := 2, slot := 3, constantValue := 0 }, { name := "serialVersionUID", type := .long, accessFlags := 26, slot := 0, constantValue := 0 }, { name := "COMPACT_STRINGS", type := .boolean, accessFlags := 24, slot := 1, constantValue := 0 }, { name := "serialPersistentFields", type := (.array (.object "java/io/ObjectStreamField")), accessFlags := 26, slot := 2, constantValue := 0 }, { name := "REPL", type := .char, accessFlags := 26, slot := 3, constantValue := 0 }, { name := "CASE_INSENSITIVE_ORDER", type := (.object "java/util/Comparator"), accessFlags := 25, slot := 4, constantValue := 0 }, { name := "LATIN1", type := .byte, accessFlags := 24, slot := 5, constantValue := 0 }, { name := "UTF16", type := .byte, accessFlags := 24, slot := 6, constantValue := 0 }]
  methods := #[k7m0, k7m1, k7m2]
  instanceTypes := #[(.array .byte), .byte, .int, .boolean]
  staticTypes := #[.long, .boolean, (.array (.object "java/io/ObjectStreamField")), .char, (.object "java/util/Comparator"), .byte, .byte]
  resolved := Array.replicate 1451 none
  statics := some 0 }

def pool8 : Array CpInfo := pool [(6, .class_ 8), (1, u "java/lang/Object"), (0, u "<init>"), (0, u "()V"), (1, .class_ 14), (1, u "java/lang/StringUTF16"), (31, u "$assertionsDisabled"), (0, u "Z"), (13, u "HI_BYTE_SHIFT"), (0, u "I"), (2, u "LO_BYTE_SHIFT"), (49, .methodref 12 116), (0, .nameAndType 117 118), (0, u "compress"), (0, u "([CI[BII)I"), (3, u "([CII)[B"), (138, u "coderFromArrayLen"), (0, u "([BI)B"), (106, .class_ 371), (1, u "java/lang/StringUTF16$LinesSpliterator"), (58, u "MAX_LENGTH"), (196, .class_ 628), (0, u "java/lang/StringUTF16$CodePointsSpliterator"), (0, .class_ 630), (0, u "java/lang/StringUTF16$CharsSpliterator")] 4

def k8m0 : Method := { name := "<init>", desc := "()V", sig := { parameters := [], returnType := none }, accessFlags := 0, code := none }
def k8c1 : Code := { maxStack := 2, maxLocals := 2, code := jdk_52_method_15_code, exceptionTable := #[], attributes := #[] }
def k8m1 : Method := { name := "coderFromArrayLen", desc := "([BI)B", sig := { parameters := [(.array .byte), .int], returnType := some .byte }, accessFlags := 8, code := some k8c1 }
def k8c2 : Code := { maxStack := 5, maxLocals := 6, code := jdk_52_method_16_code, exceptionTable := #[], attributes := #[] }
def k8m2 : Method := { name := "compress", desc := "([CII)[B", sig := { parameters := [(.array .char), .int, .int], returnType := some (.array .byte) }, accessFlags := 9, code := some k8c2 }
def k8c3 : Code := { maxStack := 3, maxLocals := 7, code := jdk_52_method_21_code, exceptionTable := #[], attributes := #[] }
def k8m3 : Method := { name := "compress", desc := "([CI[BII)I", sig := { parameters := [(.array .char), .int, (.array .byte), .int, .int], returnType := some .int }, accessFlags := 9, code := some k8c3 }
/-- java/lang/StringUTF16 -/
def k8 : Class := { plain "java/lang/StringUTF16" (some 0) with
  accessFlags := 48
  interfaces := #[]
  cf := some (fileOf pool8 12 #[.nestMembers #[627, 629, 369]] #[{ accessFlags := 0, nameIndex := 9, descriptorIndex := 10, attributes := #[] }, { accessFlags := 8, nameIndex := 261, descriptorIndex := 262, attributes := #[] }, { accessFlags := 9, nameIndex := 117, descriptorIndex := 122, attributes := #[] }, { accessFlags := 9, nameIndex := 117, descriptorIndex := 118, attributes := #[] }] 48 6 #[] #[{ accessFlags := 26, nameIndex := 61, descriptorIndex := 62, attributes := #[] }, { accessFlags := 26, nameIndex := 65, descriptorIndex := 62, attributes := #[] }, { accessFlags := 24, nameIndex := 430, descriptorIndex := 62, attributes := #[] }, { accessFlags := 4120, nameIndex := 46, descriptorIndex := 47, attributes := #[] }])
  fields := #[{ name := "HI_BYTE_SHIFT", type := .int, accessFlags := 26, slot := 0, constantValue := 0 }, { name := "LO_BYTE_SHIFT", type := .int, accessFlags := 26, slot := 1, constantValue := 0 }, { name := "MAX_LENGTH", type := .int, accessFlags := 24, slot := 2, constantValue := 0 }, { name := "$assertionsDisabled", type := .boolean, accessFlags := 4120, slot := 3, constantValue := 0 }]
  methods := #[k8m0, k8m1, k8m2, k8m3]
  instanceTypes := #[]
  staticTypes := #[.int, .int, .int, .boolean]
  resolved := Array.replicate 635 none
  statics := none }

def pool9 : Array CpInfo := pool [(1, .methodref 2 3), (0, .class_ 4), (0, .nameAndType 5 6), (0, u "java/lang/Object"), (0, u "<init>"), (0, u "()V"), (0, .class_ 8), (0, u "java/lang/Record")] 13

def k9c0 : Code := { maxStack := 1, maxLocals := 1, code := jdk_30_method_1_code, exceptionTable := #[], attributes := #[] }
def k9m0 : Method := { name := "<init>", desc := "()V", sig := { parameters := [], returnType := none }, accessFlags := 4, code := some k9c0 }
/-- java/lang/Record -/
def k9 : Class := { plain "java/lang/Record" (some 0) with
  accessFlags := 1057
  interfaces := #[]
  cf := some (fileOf pool9 7 #[] #[{ accessFlags := 4, nameIndex := 5, descriptorIndex := 6, attributes := #[] }] 1057 2 #[] #[])
  fields := #[]
  methods := #[k9m0]
  instanceTypes := #[]
  staticTypes := #[]
  resolved := Array.replicate 22 none
  statics := none }

def pool10 : Array CpInfo := pool [(1, .methodref 2 3), (0, .class_ 4), (0, .nameAndType 5 6), (0, u "java/lang/Record"), (0, u "<init>"), (0, u "()V"), (0, .string 8), (0, u "value"), (0, .methodref 10 11), (0, .class_ 12), (0, .nameAndType 13 14), (0, u "java/util/Objects"), (0, u "requireNonNull"), (0, u "(Ljava/lang/Object;Ljava/lang/String;)Ljava/lang/Object;"), (9, .fieldref 25 26), (0, .class_ 27), (0, .nameAndType 28 29), (0, u "org/holdfast/model/Level"), (0, u "level"), (0, u "I"), (0, .fieldref 25 31), (0, .nameAndType 32 33), (0, u "caption"), (0, u "Ljava/lang/String;"), (0, .fieldref 25 35), (0, .nameAndType 8 33), (12, u "(ILjava/lang/String;Ljava/lang/String;)V")] 39

def k10c0 : Code := { maxStack := 3, maxLocals := 4, code := prog_41_method_1_code, exceptionTable := #[], attributes := #[] }
def k10m0 : Method := { name := "<init>", desc := "(ILjava/lang/String;Ljava/lang/String;)V", sig := { parameters := [.int, (.object "java/lang/String"), (.object "java/lang/String")], returnType := none }, accessFlags := 1, code := some k10c0 }
/-- org/holdfast/model/Level -/
def k10 : Class := { plain "org/holdfast/model/Level" (some 9) with
  accessFlags := 49
  interfaces := #[]
  cf := some (fileOf pool10 25 #[] #[{ accessFlags := 1, nameIndex := 5, descriptorIndex := 48, attributes := #[] }] 49 2 #[] #[{ accessFlags := 18, nameIndex := 28, descriptorIndex := 29, attributes := #[] }, { accessFlags := 18, nameIndex := 32, descriptorIndex := 33, attributes := #[] }, { accessFlags := 18, nameIndex := 8, descriptorIndex := 33, attributes := #[] }])
  fields := #[{ name := "level", type := .int, accessFlags := 18, slot := 0, constantValue := 0 }, { name := "caption", type := (.object "java/lang/String"), accessFlags := 18, slot := 1, constantValue := 0 }, { name := "value", type := (.object "java/lang/String"), accessFlags := 18, slot := 2, constantValue := 0 }]
  methods := #[k10m0]
  instanceTypes := #[.int, (.object "java/lang/String"), (.object "java/lang/String")]
  staticTypes := #[]
  resolved := Array.replicate 88 none
  statics := none }

def pool11 : Array CpInfo := pool [(2, .class_ 4), (1, u "java/lang/Object"), (0, u "<init>"), (0, u "()V"), (35, .class_ 44), (1, u "java/util/Objects"), (0, u "requireNonNull"), (0, u "(Ljava/lang/Object;)Ljava/lang/Object;"), (47, u "(Ljava/lang/Object;Ljava/lang/String;)Ljava/lang/Object;")] 89

def k11m0 : Method := { name := "<init>", desc := "()V", sig := { parameters := [], returnType := none }, accessFlags := 2, code := none }
def k11c1 : Code := { maxStack := 2, maxLocals := 1, code := jdk_31_method_10_code, exceptionTable := #[], attributes := #[] }
def k11m1 : Method := { name := "requireNonNull", desc := "(Ljava/lang/Object;)Ljava/lang/Object;", sig := { parameters := [(.object "java/lang/Object")], returnType := some (.object "java/lang/Object") }, accessFlags := 9, code := some k11c1 }
def k11c2 : Code := { maxStack := 3, maxLocals := 2, code := jdk_31_method_11_code, exceptionTable := #[], attributes := #[] }
def k11m2 : Method := { name := "requireNonNull", desc := "(Ljava/lang/Object;Ljava/lang/String;)Ljava/lang/Object;", sig := { parameters := [(.object "java/lang/Object"), (.object "java/lang/String")], returnType := some (.object "java/lang/Object") }, accessFlags := 9, code := some k11c2 }
/-- java/util/Objects -/
def k11 : Class := { plain "java/util/Objects" (some 0) with
  accessFlags := 49
  interfaces := #[]
  cf := some (fileOf pool11 42 #[] #[{ accessFlags := 2, nameIndex := 5, descriptorIndex := 6, attributes := #[] }, { accessFlags := 9, nameIndex := 45, descriptorIndex := 46, attributes := #[] }, { accessFlags := 9, nameIndex := 45, descriptorIndex := 94, attributes := #[] }] 49 2 #[] #[])
  fields := #[]
  methods := #[k11m0, k11m1, k11m2]
  instanceTypes := #[]
  staticTypes := #[]
  resolved := Array.replicate 184 none
  statics := none }

def pool12 : Array CpInfo := pool [(8, .class_ 10), (1, u "java/lang/Iterable"), (24, .class_ 36), (0, u "java/lang/Object")] 25

/-- java/lang/Iterable -/
def k12 : Class := { plain "java/lang/Iterable" (some 0) with
  accessFlags := 1537
  interfaces := #[]
  cf := some (fileOf pool12 8 #[] #[] 1537 35 #[] #[])
  fields := #[]
  methods := #[]
  instanceTypes := #[]
  staticTypes := #[]
  resolved := Array.replicate 62 none
  statics := none }

def pool13 : Array CpInfo := pool [(10, .class_ 12), (1, u "java/util/Collection"), (0, u "toArray"), (16, u "()Z"), (29, .class_ 61), (0, u "java/lang/Object"), (0, .class_ 63), (0, u "java/lang/Iterable"), (2, u "isEmpty"), (3, u "()[Ljava/lang/Object;")] 44

def k13m0 : Method := { name := "isEmpty", desc := "()Z", sig := { parameters := [], returnType := some .boolean }, accessFlags := 1025, code := none }
def k13m1 : Method := { name := "toArray", desc := "()[Ljava/lang/Object;", sig := { parameters := [], returnType := some (.array (.object "java/lang/Object")) }, accessFlags := 1025, code := none }
/-- java/util/Collection -/
def k13 : Class := { plain "java/util/Collection" (some 0) with
  accessFlags := 1537
  interfaces := #[12]
  cf := some (fileOf pool13 10 #[] #[{ accessFlags := 1025, nameIndex := 66, descriptorIndex := 30, attributes := #[] }, { accessFlags := 1025, nameIndex := 13, descriptorIndex := 70, attributes := #[] }] 1537 60 #[62] #[])
  fields := #[]
  methods := #[k13m0, k13m1]
  instanceTypes := #[]
  staticTypes := #[]
  resolved := Array.replicate 115 none
  statics := none }

def pool14 : Array CpInfo := pool [(1, .methodref 2 3), (0, .class_ 4), (0, .nameAndType 5 6), (0, u "java/lang/Object"), (0, u "<init>"), (0, u "()V"), (1, .class_ 10), (1, u "java/util/AbstractCollection"), (66, .class_ 78), (0, u "java/util/Collection")] 81

def k14c0 : Code := { maxStack := 1, maxLocals := 1, code := jdk_22_method_1_code, exceptionTable := #[], attributes := #[] }
def k14m0 : Method := { name := "<init>", desc := "()V", sig := { parameters := [], returnType := none }, accessFlags := 4, code := some k14c0 }
/-- java/util/AbstractCollection -/
def k14 : Class := { plain "java/util/AbstractCollection" (some 0) with
  accessFlags := 1057
  interfaces := #[13]
  cf := some (fileOf pool14 8 #[] #[{ accessFlags := 4, nameIndex := 5, descriptorIndex := 6, attributes := #[] }] 1057 2 #[77] #[])
  fields := #[]
  methods := #[k14m0]
  instanceTypes := #[]
  staticTypes := #[]
  resolved := Array.replicate 160 none
  statics := none }

def pool15 : Array CpInfo := pool [(8, .class_ 10), (1, u "java/util/SequencedCollection"), (15, .class_ 27), (0, u "java/lang/Object"), (0, .class_ 29), (0, u "java/util/Collection")] 27

/-- java/util/SequencedCollection -/
def k15 : Class := { plain "java/util/SequencedCollection" (some 0) with
  accessFlags := 1537
  interfaces := #[13]
  cf := some (fileOf pool15 8 #[] #[] 1537 26 #[28] #[])
  fields := #[]
  methods := #[]
  instanceTypes := #[]
  staticTypes := #[]
  resolved := Array.replicate 57 none
  statics := none }

def pool16 : Array CpInfo := pool [(8, .class_ 10), (1, u "java/util/List"), (7, u "()Z"), (12, u "(Ljava/lang/Object;)V"), (16, u "<init>"), (18, u "isEmpty"), (20, u "of"), (1, .fieldref 91 92), (0, .class_ 93), (0, .nameAndType 94 95), (0, u "java/util/ImmutableCollections"), (0, u "EMPTY_LIST"), (0, u "Ljava/util/ImmutableCollections$ListN;"), (0, .class_ 97), (0, u "java/util/ImmutableCollections$List12"), (0, .methodref 96 99), (0, .nameAndType 48 31), (3, .class_ 104), (0, u "java/lang/Object"), (3, u "([Ljava/lang/Object;)Ljava/util/List;"), (3, .methodref 91 113), (0, .nameAndType 114 115), (0, u "listCopy"), (0, u "(Ljava/util/Collection;)Ljava/util/List;"), (3, u "()Ljava/util/List;"), (0, .class_ 121), (0, u "java/util/SequencedCollection"), (112, u "copyOf")] 16

def k16m0 : Method := { name := "isEmpty", desc := "()Z", sig := { parameters := [], returnType := some .boolean }, accessFlags := 1025, code := none }
def k16c1 : Code := { maxStack := 1, maxLocals := 0, code := jdk_40_method_36_code, exceptionTable := #[], attributes := #[] }
def k16m1 : Method := { name := "of", desc := "()Ljava/util/List;", sig := { parameters := [], returnType := some (.object "java/util/List") }, accessFlags := 9, code := some k16c1 }
def k16c2 : Code := { maxStack := 5, maxLocals := 2, code := jdk_40_method_47_code, exceptionTable := #[], attributes := #[] }
def k16m2 : Method := { name := "of", desc := "([Ljava/lang/Object;)Ljava/util/List;", sig := { parameters := [(.array (.object "java/lang/Object"))], returnType := some (.object "java/util/List") }, accessFlags := 137, code := some k16c2 }
def k16c3 : Code := { maxStack := 1, maxLocals := 1, code := jdk_40_method_48_code, exceptionTable := #[], attributes := #[] }
def k16m3 : Method := { name := "copyOf", desc := "(Ljava/util/Collection;)Ljava/util/List;", sig := { parameters := [(.object "java/util/Collection")], returnType := some (.object "java/util/List") }, accessFlags := 9, code := some k16c3 }
/-- java/util/List -/
def k16 : Class := { plain "java/util/List" (some 0) with
  accessFlags := 1537
  interfaces := #[15]
  cf := some (fileOf pool16 8 #[] #[{ accessFlags := 1025, nameIndex := 67, descriptorIndex := 18, attributes := #[] }, { accessFlags := 9, nameIndex := 88, descriptorIndex := 119, attributes := #[] }, { accessFlags := 137, nameIndex := 88, descriptorIndex := 108, attributes := #[] }, { accessFlags := 9, nameIndex := 234, descriptorIndex := 115, attributes := #[] }] 1537 103 #[120] #[])
  fields := #[]
  methods := #[k16m0, k16m1, k16m2, k16m3]
  instanceTypes := #[]
  staticTypes := #[]
  resolved := Array.replicate 251 none
  statics := none }

def pool17 : Array CpInfo := pool [(1, .methodref 2 3), (0, .class_ 4), (0, .nameAndType 5 6), (0, u "java/util/AbstractCollection"), (0, u "<init>"), (0, u "()V"), (0, .fieldref 8 9), (0, .class_ 10), (0, .nameAndType 11 12), (0, u "java/util/AbstractList"), (0, u "modCount"), (0, u "I"), (64, .class_ 78), (0, u "java/util/AbstractList$Itr"), (3, .class_ 83), (0, u "java/util/AbstractList$ListItr"), (9, .class_ 94), (0, u "java/util/AbstractList$RandomAccessSubList"), (3, .class_ 99), (0, u "java/util/AbstractList$SubList"), (33, .class_ 134), (0, u "java/util/List"), (73, .class_ 209), (0, u "java/util/AbstractList$SubList$1"), (0, .class_ 211), (0, u "java/util/AbstractList$RandomAccessSpliterator")] 6

def k17c0 : Code := { maxStack := 2, maxLocals := 1, code := jdk_39_method_1_code, exceptionTable := #[], attributes := #[] }
def k17m0 : Method := { name := "<init>", desc := "()V", sig := { parameters := [], returnType := none }, accessFlags := 4, code := some k17c0 }
/-- java/util/AbstractList -/
def k17 : Class := { plain "java/util/AbstractList" (some 14) with
  accessFlags := 1057
  interfaces := #[16]
  cf := some (fileOf pool17 8 #[.nestMembers #[93, 98, 208, 210, 82, 77]] #[{ accessFlags := 4, nameIndex := 5, descriptorIndex := 6, attributes := #[] }] 1057 2 #[133] #[{ accessFlags := 132, nameIndex := 11, descriptorIndex := 12, attributes := #[] }])
  fields := #[{ name := "modCount", type := .int, accessFlags := 132, slot := 0, constantValue := 0 }]
  methods := #[k17m0]
  instanceTypes := #[.int]
  staticTypes := #[]
  resolved := Array.replicate 218 none
  statics := none }

def pool18 : Array CpInfo := pool [(1, .class_ 2), (0, u "java/util/RandomAccess"), (0, .class_ 4), (0, u "java/lang/Object")] 2

/-- java/util/RandomAccess -/
def k18 : Class := { plain "java/util/RandomAccess" (some 0) with
  accessFlags := 1537
  interfaces := #[]
  cf := some (fileOf pool18 1 #[] #[] 1537 3 #[] #[])
  fields := #[]
  methods := #[]
  instanceTypes := #[]
  staticTypes := #[]
  resolved := Array.replicate 7 none
  statics := none }

def pool19 : Array CpInfo := pool [(1, .class_ 2), (0, u "java/lang/Cloneable"), (0, .class_ 4), (0, u "java/lang/Object")] 2

/-- java/lang/Cloneable -/
def k19 : Class := { plain "java/lang/Cloneable" (some 0) with
  accessFlags := 1537
  interfaces := #[]
  cf := some (fileOf pool19 1 #[] #[] 1537 3 #[] #[])
  fields := #[]
  methods := #[]
  instanceTypes := #[]
  staticTypes := #[]
  resolved := Array.replicate 7 none
  statics := none }

def pool20 : Array CpInfo := pool [(1, .methodref 2 3), (0, .class_ 4), (0, .nameAndType 5 6), (0, u "java/util/AbstractList"), (0, u "<init>"), (0, u "()V"), (0, .class_ 8), (0, u "java/lang/Object"), (0, .fieldref 10 11), (0, .class_ 12), (0, .nameAndType 13 14), (0, u "java/util/ArrayList"), (0, u "elementData"), (0, u "[Ljava/lang/Object;"), (2, u "EMPTY_ELEMENTDATA"), (21, .fieldref 10 40), (0, .nameAndType 41 14), (0, u "DEFAULTCAPACITY_EMPTY_ELEMENTDATA"), (4, u "toArray"), (0, u "()[Ljava/lang/Object;"), (0, .fieldref 10 49), (0, .nameAndType 50 51), (0, u "size"), (0, u "I"), (6, .class_ 60), (1, u "java/util/Arrays"), (0, u "copyOf"), (1, .fieldref 10 64), (0, .nameAndType 65 51), (0, u "modCount"), (0, .methodref 58 67), (0, .nameAndType 61 68), (0, u "([Ljava/lang/Object;I)[Ljava/lang/Object;"), (0, .methodref 10 70), (0, .nameAndType 71 72), (0, u "grow"), (0, u "(I)[Ljava/lang/Object;"), (6, .methodref 80 81), (0, .class_ 82), (0, .nameAndType 83 84), (0, u "java/lang/Math"), (0, u "max"), (0, u "(II)I"), (11, u "(Ljava/lang/Object;)Z"), (32, .methodref 10 130), (0, .nameAndType 71 47), (0, .methodref 10 132), (0, .nameAndType 133 134), (0, u "add"), (0, u "(Ljava/lang/Object;[Ljava/lang/Object;I)V"), (13, .class_ 149), (0, u "java/util/List"), (23, u "()Z"), (88, .class_ 263), (0, u "java/util/ArrayList$ListItr"), (3, .class_ 268), (0, u "java/util/ArrayList$Itr"), (7, .class_ 277), (0, u "java/util/ArrayList$SubList"), (12, .class_ 291), (0, u "java/util/ArrayList$ArrayListSpliterator"), (37, .class_ 330), (0, u "java/util/RandomAccess"), (0, .class_ 332), (0, u "java/lang/Cloneable"), (0, .class_ 334), (0, u "java/io/Serializable"), (0, u "serialVersionUID"), (0, u "J"), (3, u "DEFAULT_CAPACITY"), (22, u "isEmpty"), (136, .class_ 501), (0, u "java/util/ArrayList$SubList$2"), (0, .class_ 503), (0, u "java/util/ArrayList$SubList$1")] 5

def k20c0 : Code := { maxStack := 2, maxLocals := 1, code := jdk_38_method_2_code, exceptionTable := #[], attributes := #[] }
def k20m0 : Method := { name := "<init>", desc := "()V", sig := { parameters := [], returnType := none }, accessFlags := 1, code := some k20c0 }
def k20c1 : Code := { maxStack := 4, maxLocals := 4, code := jdk_38_method_6_code, exceptionTable := #[], attributes := #[] }
def k20m1 : Method := { name := "grow", desc := "(I)[Ljava/lang/Object;", sig := { parameters := [.int], returnType := some (.array (.object "java/lang/Object")) }, accessFlags := 2, code := some k20c1 }
def k20c2 : Code := { maxStack := 3, maxLocals := 1, code := jdk_38_method_7_code, exceptionTable := #[], attributes := #[] }
def k20m2 : Method := { name := "grow", desc := "()[Ljava/lang/Object;", sig := { parameters := [], returnType := some (.array (.object "java/lang/Object")) }, accessFlags := 2, code := some k20c2 }
def k20c3 : Code := { maxStack := 1, maxLocals := 1, code := jdk_38_method_9_code, exceptionTable := #[], attributes := #[] }
def k20m3 : Method := { name := "isEmpty", desc := "()Z", sig := { parameters := [], returnType := some .boolean }, accessFlags := 1, code := some k20c3 }
def k20c4 : Code := { maxStack := 2, maxLocals := 1, code := jdk_38_method_16_code, exceptionTable := #[], attributes := #[] }
def k20m4 : Method := { name := "toArray", desc := "()[Ljava/lang/Object;", sig := { parameters := [], returnType := some (.array (.object "java/lang/Object")) }, accessFlags := 1, code := some k20c4 }
def k20c5 : Code := { maxStack := 3, maxLocals := 4, code := jdk_38_method_24_code, exceptionTable := #[], attributes := #[] }
def k20m5 : Method := { name := "add", desc := "(Ljava/lang/Object;[Ljava/lang/Object;I)V", sig := { parameters := [(.object "java/lang/Object"), (.array (.object "java/lang/Object")), .int], returnType := none }, accessFlags := 2, code := some k20c5 }
def k20c6 : Code := { maxStack := 4, maxLocals := 2, code := jdk_38_method_25_code, exceptionTable := #[], attributes := #[] }
def k20m6 : Method := { name := "add", desc := "(Ljava/lang/Object;)Z", sig := { parameters := [(.object "java/lang/Object")], returnType := some .boolean }, accessFlags := 1, code := some k20c6 }
/-- java/util/ArrayList -/
def k20 : Class := { plain "java/util/ArrayList" (some 17) with
  accessFlags := 33
  interfaces := #[16, 18, 19, 2]
  cf := some (fileOf pool20 10 #[.nestMembers #[290, 276, 500, 502, 262, 267]] #[{ accessFlags := 1, nameIndex := 5, descriptorIndex := 6, attributes := #[] }, { accessFlags := 2, nameIndex := 71, descriptorIndex := 72, attributes := #[] }, { accessFlags := 2, nameIndex := 71, descriptorIndex := 47, attributes := #[] }, { accessFlags := 1, nameIndex := 363, descriptorIndex := 173, attributes := #[] }, { accessFlags := 1, nameIndex := 46, descriptorIndex := 47, attributes := #[] }, { accessFlags := 2, nameIndex := 133, descriptorIndex := 134, attributes := #[] }, { accessFlags := 1, nameIndex := 133, descriptorIndex := 96, attributes := #[] }] 33 2 #[148, 329, 331, 333] #[{ accessFlags := 26, nameIndex := 335, descriptorIndex := 336, attributes := #[] }, { accessFlags := 26, nameIndex := 340, descriptorIndex := 51, attributes := #[] }, { accessFlags := 26, nameIndex := 17, descriptorIndex := 14, attributes := #[] }, { accessFlags := 26, nameIndex := 41, descriptorIndex := 14, attributes := #[] }, { accessFlags := 128, nameIndex := 13, descriptorIndex := 14, attributes := #[] }, { accessFlags := 2, nameIndex := 50, descriptorIndex := 51, attributes := #[] }])
  fields := #[{ name := "serialVersionUID", type := .long, accessFlags := 26, slot := 0, constantValue := 0 }, { name := "DEFAULT_CAPACITY", type := .int, accessFlags := 26, slot := 1, constantValue := 0 }, { name := "EMPTY_ELEMENTDATA", type := (.array (.object "java/lang/Object")), accessFlags := 26, slot := 2, constantValue := 0 }, { name := "DEFAULTCAPACITY_EMPTY_ELEMENTDATA", type := (.array (.object "java/lang/Object")), accessFlags := 26, slot := 3, constantValue := 0 }, { name := "elementData", type := (.array (.object "java/lang/Object")), accessFlags := 128, slot := 1, constantValue := 0 }, { name := "size", type := .int, accessFlags := 2, slot := 2, constantValue := 0 }]
  methods := #[k20m0, k20m1, k20m2, k20m3, k20m4, k20m5, k20m6]
  instanceTypes := #[.int, (.array (.object "java/lang/Object")), .int]
  staticTypes := #[.long, .int, (.array (.object "java/lang/Object")), (.array (.object "java/lang/Object"))]
  resolved := Array.replicate 509 none
  statics := some 1 }

def pool21 : Array CpInfo := pool [(1, .class_ 2), (0, u "java/lang/Math"), (1, .class_ 6), (1, u "java/lang/Object"), (0, u "<init>"), (0, u "()V"), (89, .class_ 100), (1, u "java/lang/Math$RandomNumberGeneratorHolder"), (71, u "negativeZeroFloatBits"), (0, u "J"), (2, u "negativeZeroDoubleBits"), (21, u "max"), (2, u "min"), (43, u "$assertionsDisabled"), (0, u "Z"), (88, u "(II)I"), (2, u "twoToTheDoubleScaleDown"), (0, u "D"), (4, u "twoToTheDoubleScaleUp"), (9, u "E"), (3, u "PI"), (2, u "TAU"), (2, u "DEGREES_TO_RADIANS"), (0, u "RADIANS_TO_DEGREES")] 94

def k21m0 : Method := { name := "<init>", desc := "()V", sig := { parameters := [], returnType := none }, accessFlags := 2, code := none }
def k21c1 : Code := { maxStack := 2, maxLocals := 2, code := jdk_29_method_65_code, exceptionTable := #[], attributes := #[] }
def k21m1 : Method := { name := "max", desc := "(II)I", sig := { parameters := [.int, .int], returnType := some .int }, accessFlags := 9, code := some k21c1 }
def k21c2 : Code := { maxStack := 2, maxLocals := 2, code := jdk_29_method_69_code, exceptionTable := #[], attributes := #[] }
def k21m2 : Method := { name := "min", desc := "(II)I", sig := { parameters := [.int, .int], returnType := some .int }, accessFlags := 9, code := some k21c2 }
/-- java/lang/Math -/
def k21 : Class := { plain "java/lang/Math" (some 0) with
  accessFlags := 49
  interfaces := #[]
  cf := some (fileOf pool21 1 #[.nestMembers #[98]] #[{ accessFlags := 2, nameIndex := 7, descriptorIndex := 8, attributes := #[] }, { accessFlags := 9, nameIndex := 198, descriptorIndex := 335, attributes := #[] }, { accessFlags := 9, nameIndex := 201, descriptorIndex := 335, attributes := #[] }] 49 4 #[] #[{ accessFlags := 25, nameIndex := 354, descriptorIndex := 339, attributes := #[] }, { accessFlags := 25, nameIndex := 358, descriptorIndex := 339, attributes := #[] }, { accessFlags := 25, nameIndex := 361, descriptorIndex := 339, attributes := #[] }, { accessFlags := 26, nameIndex := 364, descriptorIndex := 339, attributes := #[] }, { accessFlags := 26, nameIndex := 365, descriptorIndex := 339, attributes := #[] }, { accessFlags := 26, nameIndex := 172, descriptorIndex := 173, attributes := #[] }, { accessFlags := 26, nameIndex := 176, descriptorIndex := 173, attributes := #[] }, { accessFlags := 8, nameIndex := 344, descriptorIndex := 339, attributes := #[] }, { accessFlags := 8, nameIndex := 338, descriptorIndex := 339, attributes := #[] }, { accessFlags := 4120, nameIndex := 245, descriptorIndex := 246, attributes := #[] }])
  fields := #[{ name := "E", type := .double, accessFlags := 25, slot := 0, constantValue := 0 }, { name := "PI", type := .double, accessFlags := 25, slot := 1, constantValue := 0 }, { name := "TAU", type := .double, accessFlags := 25, slot := 2, constantValue := 0 }, { name := "DEGREES_TO_RADIANS", type := .double, accessFlags := 26, slot := 3, constantValue := 0 }, { name := "RADIANS_TO_DEGREES", type := .double, accessFlags := 26, slot := 4, constantValue := 0 }, { name := "negativeZeroFloatBits", type := .long, accessFlags := 26, slot := 5, constantValue := 0 }, { name := "negativeZeroDoubleBits", type := .long, accessFlags := 26, slot := 6, constantValue := 0 }, { name := "twoToTheDoubleScaleUp", type := .double, accessFlags := 8, slot := 7, constantValue := 0 }, { name := "twoToTheDoubleScaleDown", type := .double, accessFlags := 8, slot := 8, constantValue := 0 }, { name := "$assertionsDisabled", type := .boolean, accessFlags := 4120, slot := 9, constantValue := 0 }]
  methods := #[k21m0, k21m1, k21m2]
  instanceTypes := #[]
  staticTypes := #[.double, .double, .double, .double, .double, .long, .long, .double, .double, .boolean]
  resolved := Array.replicate 460 none
  statics := none }

def pool22 : Array CpInfo := pool [(1, .methodref 2 3), (0, .class_ 4), (0, .nameAndType 5 6), (0, u "java/lang/Record"), (0, u "<init>"), (0, u "()V"), (0, .interfaceMethodref 8 9), (0, .class_ 10), (0, .nameAndType 11 12), (0, u "java/util/List"), (0, u "copyOf"), (0, u "(Ljava/util/Collection;)Ljava/util/List;"), (0, .interfaceMethodref 8 14), (0, .nameAndType 15 16), (0, u "isEmpty"), (0, u "()Z"), (7, .fieldref 25 26), (0, .class_ 27), (0, .nameAndType 28 29), (0, u "org/holdfast/model/Designation"), (0, u "enumeration"), (0, u "Ljava/util/List;"), (0, .fieldref 25 31), (0, .nameAndType 32 29), (0, u "chronology"), (14, u "(Ljava/util/List;Ljava/util/List;)V")] 31

def k22c0 : Code := { maxStack := 3, maxLocals := 3, code := prog_21_method_1_code, exceptionTable := #[], attributes := #[] }
def k22m0 : Method := { name := "<init>", desc := "(Ljava/util/List;Ljava/util/List;)V", sig := { parameters := [(.object "java/util/List"), (.object "java/util/List")], returnType := none }, accessFlags := 1, code := some k22c0 }
/-- org/holdfast/model/Designation -/
def k22 : Class := { plain "org/holdfast/model/Designation" (some 9) with
  accessFlags := 49
  interfaces := #[]
  cf := some (fileOf pool22 25 #[] #[{ accessFlags := 1, nameIndex := 5, descriptorIndex := 47, attributes := #[] }] 49 2 #[] #[{ accessFlags := 18, nameIndex := 28, descriptorIndex := 29, attributes := #[] }, { accessFlags := 18, nameIndex := 32, descriptorIndex := 29, attributes := #[] }])
  fields := #[{ name := "enumeration", type := (.object "java/util/List"), accessFlags := 18, slot := 0, constantValue := 0 }, { name := "chronology", type := (.object "java/util/List"), accessFlags := 18, slot := 1, constantValue := 0 }]
  methods := #[k22m0]
  instanceTypes := #[(.object "java/util/List"), (.object "java/util/List")]
  staticTypes := #[]
  resolved := Array.replicate 79 none
  statics := none }

def pool23 : Array CpInfo := pool [(2, .class_ 4), (1, u "java/lang/Object"), (0, u "<init>"), (0, u "()V"), (3, .class_ 11), (0, u "java/util/ImmutableCollections$List12"), (0, .class_ 13), (0, u "java/util/ImmutableCollections$ListN"), (3, u "Z"), (0, .class_ 19), (0, u "java/util/List"), (0, .interfaceMethodref 21 22), (0, .class_ 23), (0, .nameAndType 24 25), (0, u "java/util/Collection"), (0, u "isEmpty"), (0, u "()Z"), (0, .interfaceMethodref 18 27), (0, .nameAndType 28 29), (0, u "of"), (0, u "()Ljava/util/List;"), (0, .interfaceMethodref 21 31), (0, .nameAndType 32 33), (0, u "toArray"), (0, u "()[Ljava/lang/Object;"), (0, .interfaceMethodref 18 35), (0, .nameAndType 28 36), (0, u "([Ljava/lang/Object;)Ljava/util/List;"), (10, .class_ 49), (1, u "java/util/ImmutableCollections"), (0, u "$assertionsDisabled"), (5, u "[Ljava/lang/Object;"), (5, u "EMPTY_LIST"), (0, u "Ljava/util/ImmutableCollections$ListN;"), (8, u "EMPTY_LIST_NULLS"), (22, u "SALT32L"), (0, u "J"), (2, u "REVERSE"), (6, u "archivedObjects"), (2, u "EMPTY"), (0, u "Ljava/lang/Object;"), (0, .class_ 112), (0, u "java/util/ImmutableCollections$SetN"), (5, u "EMPTY_SET"), (0, u "Ljava/util/ImmutableCollections$SetN;"), (0, .class_ 121), (0, u "java/util/ImmutableCollections$MapN"), (3, u "EMPTY_MAP"), (0, u "Ljava/util/ImmutableCollections$MapN;"), (4, u "EXPAND_FACTOR"), (0, u "I"), (9, u "listCopy"), (0, u "(Ljava/util/Collection;)Ljava/util/List;"), (25, .class_ 170), (0, u "java/util/ImmutableCollections$MapN$MapNIterator"), (0, .class_ 172), (0, u "java/util/ImmutableCollections$MapN$1"), (0, .class_ 174), (0, u "java/util/ImmutableCollections$Map1"), (0, .class_ 176), (0, u "java/util/ImmutableCollections$AbstractImmutableMap"), (0, .class_ 178), (0, u "java/util/ImmutableCollections$SetN$SetNIterator"), (0, .class_ 180), (0, u "java/util/ImmutableCollections$Set12"), (0, .class_ 182), (0, u "java/util/ImmutableCollections$Set12$1"), (0, .class_ 184), (0, u "java/util/ImmutableCollections$AbstractImmutableSet"), (0, .class_ 186), (0, u "java/util/ImmutableCollections$SubList"), (0, .class_ 188), (0, u "java/util/ImmutableCollections$ListItr"), (0, .class_ 190), (0, u "java/util/ImmutableCollections$AbstractImmutableList"), (0, .class_ 192), (0, u "java/util/ImmutableCollections$AbstractImmutableCollection"), (0, .class_ 194), (0, u "java/util/ImmutableCollections$Access"), (0, .class_ 196), (0, u "java/util/ImmutableCollections$Access$1")] 16

def k23m0 : Method := { name := "<init>", desc := "()V", sig := { parameters := [], returnType := none }, accessFlags := 2, code := none }
def k23c1 : Code := { maxStack := 1, maxLocals := 2, code := jdk_56_method_3_code, exceptionTable := #[], attributes := #[] }
def k23m1 : Method := { name := "listCopy", desc := "(Ljava/util/Collection;)Ljava/util/List;", sig := { parameters := [(.object "java/util/Collection")], returnType := some (.object "java/util/List") }, accessFlags := 8, code := some k23c1 }
/-- java/util/ImmutableCollections -/
def k23 : Class := { plain "java/util/ImmutableCollections" (some 0) with
  accessFlags := 32
  interfaces := #[]
  cf := some (fileOf pool23 47 #[.nestMembers #[120, 169, 171, 173, 175, 111, 177, 179, 181, 183, 12, 10, 185, 187, 189, 191, 193, 195]] #[{ accessFlags := 2, nameIndex := 5, descriptorIndex := 6, attributes := #[] }, { accessFlags := 8, nameIndex := 142, descriptorIndex := 143, attributes := #[] }] 32 2 #[] #[{ accessFlags := 26, nameIndex := 95, descriptorIndex := 96, attributes := #[] }, { accessFlags := 26, nameIndex := 99, descriptorIndex := 17, attributes := #[] }, { accessFlags := 10, nameIndex := 106, descriptorIndex := 56, attributes := #[] }, { accessFlags := 26, nameIndex := 109, descriptorIndex := 110, attributes := #[] }, { accessFlags := 24, nameIndex := 62, descriptorIndex := 63, attributes := #[] }, { accessFlags := 24, nameIndex := 72, descriptorIndex := 63, attributes := #[] }, { accessFlags := 24, nameIndex := 118, descriptorIndex := 119, attributes := #[] }, { accessFlags := 24, nameIndex := 125, descriptorIndex := 126, attributes := #[] }, { accessFlags := 24, nameIndex := 131, descriptorIndex := 132, attributes := #[] }, { accessFlags := 4120, nameIndex := 50, descriptorIndex := 17, attributes := #[] }])
  fields := #[{ name := "SALT32L", type := .long, accessFlags := 26, slot := 0, constantValue := 0 }, { name := "REVERSE", type := .boolean, accessFlags := 26, slot := 1, constantValue := 0 }, { name := "archivedObjects", type := (.array (.object "java/lang/Object")), accessFlags := 10, slot := 2, constantValue := 0 }, { name := "EMPTY", type := (.object "java/lang/Object"), accessFlags := 26, slot := 3, constantValue := 0 }, { name := "EMPTY_LIST", type := (.object "java/util/ImmutableCollections$ListN"), accessFlags := 24, slot := 4, constantValue := 0 }, { name := "EMPTY_LIST_NULLS", type := (.object "java/util/ImmutableCollections$ListN"), accessFlags := 24, slot := 5, constantValue := 0 }, { name := "EMPTY_SET", type := (.object "java/util/ImmutableCollections$SetN"), accessFlags := 24, slot := 6, constantValue := 0 }, { name := "EMPTY_MAP", type := (.object "java/util/ImmutableCollections$MapN"), accessFlags := 24, slot := 7, constantValue := 0 }, { name := "EXPAND_FACTOR", type := .int, accessFlags := 24, slot := 8, constantValue := 0 }, { name := "$assertionsDisabled", type := .boolean, accessFlags := 4120, slot := 9, constantValue := 0 }]
  methods := #[k23m0, k23m1]
  instanceTypes := #[]
  staticTypes := #[.long, .boolean, (.array (.object "java/lang/Object")), (.object "java/lang/Object"), (.object "java/util/ImmutableCollections$ListN"), (.object "java/util/ImmutableCollections$ListN"), (.object "java/util/ImmutableCollections$SetN"), (.object "java/util/ImmutableCollections$MapN"), .int, .boolean]
  resolved := Array.replicate 213 none
  statics := some 2 }

def pool24 : Array CpInfo := pool [(1, .methodref 2 3), (0, .class_ 4), (0, .nameAndType 5 6), (0, u "java/util/AbstractCollection"), (0, u "<init>"), (0, u "()V"), (1, .class_ 10), (1, u "java/util/ImmutableCollections"), (2, .class_ 14), (0, u "java/util/ImmutableCollections$AbstractImmutableCollection")] 41

def k24c0 : Code := { maxStack := 1, maxLocals := 1, code := jdk_47_method_1_code, exceptionTable := #[], attributes := #[] }
def k24m0 : Method := { name := "<init>", desc := "()V", sig := { parameters := [], returnType := none }, accessFlags := 0, code := some k24c0 }
/-- java/util/ImmutableCollections$AbstractImmutableCollection -/
def k24 : Class := { plain "java/util/ImmutableCollections$AbstractImmutableCollection" (some 14) with
  accessFlags := 1056
  interfaces := #[]
  cf := some (fileOf pool24 13 #[.nestHost 8] #[{ accessFlags := 0, nameIndex := 5, descriptorIndex := 6, attributes := #[] }] 1056 2 #[] #[])
  fields := #[]
  methods := #[k24m0]
  instanceTypes := #[]
  staticTypes := #[]
  resolved := Array.replicate 56 none
  statics := none }

def pool25 : Array CpInfo := pool [(1, .methodref 2 3), (0, .class_ 4), (0, .nameAndType 5 6), (0, u "java/util/ImmutableCollections$AbstractImmutableCollection"), (0, u "<init>"), (0, u "()V"), (1, .class_ 10), (1, u "java/util/ImmutableCollections"), (3, .class_ 16), (1, u "java/util/ImmutableCollections$AbstractImmutableList"), (60, .class_ 78), (0, u "java/util/List"), (45, .class_ 125), (0, u "java/util/RandomAccess")] 70

def k25c0 : Code := { maxStack := 1, maxLocals := 1, code := jdk_46_method_1_code, exceptionTable := #[], attributes := #[] }
def k25m0 : Method := { name := "<init>", desc := "()V", sig := { parameters := [], returnType := none }, accessFlags := 0, code := some k25c0 }
/-- java/util/ImmutableCollections$AbstractImmutableList -/
def k25 : Class := { plain "java/util/ImmutableCollections$AbstractImmutableList" (some 24) with
  accessFlags := 1056
  interfaces := #[16, 18]
  cf := some (fileOf pool25 14 #[.nestHost 8] #[{ accessFlags := 0, nameIndex := 5, descriptorIndex := 6, attributes := #[] }] 1056 2 #[77, 124] #[])
  fields := #[]
  methods := #[k25m0]
  instanceTypes := #[]
  staticTypes := #[]
  resolved := Array.replicate 196 none
  statics := none }

def pool26 : Array CpInfo := pool [(1, .methodref 2 3), (0, .class_ 4), (0, .nameAndType 5 6), (0, u "java/util/ImmutableCollections$AbstractImmutableList"), (0, u "<init>"), (0, u "()V"), (0, .methodref 8 9), (0, .class_ 10), (0, .nameAndType 11 12), (0, u "java/util/Objects"), (0, u "requireNonNull"), (0, u "(Ljava/lang/Object;)Ljava/lang/Object;"), (0, .fieldref 14 15), (0, .class_ 16), (0, .nameAndType 17 18), (0, u "java/util/ImmutableCollections$List12"), (0, u "e0"), (0, u "Ljava/lang/Object;"), (0, .fieldref 20 21), (0, .class_ 22), (0, .nameAndType 23 18), (0, u "java/util/ImmutableCollections"), (0, u "EMPTY"), (0, .fieldref 14 25), (0, .nameAndType 26 18), (0, u "e1"), (43, .class_ 71), (0, u "java/io/Serializable"), (4, u "(Ljava/lang/Object;)V"), (11, u "isEmpty"), (0, u "()Z")] 35

def k26c0 : Code := { maxStack := 2, maxLocals := 2, code := jdk_44_method_1_code, exceptionTable := #[], attributes := #[] }
def k26m0 : Method := { name := "<init>", desc := "(Ljava/lang/Object;)V", sig := { parameters := [(.object "java/lang/Object")], returnType := none }, accessFlags := 0, code := some k26c0 }
def k26c1 : Code := { maxStack := 1, maxLocals := 1, code := jdk_44_method_4_code, exceptionTable := #[], attributes := #[] }
def k26m1 : Method := { name := "isEmpty", desc := "()Z", sig := { parameters := [], returnType := some .boolean }, accessFlags := 1, code := some k26c1 }
/-- java/util/ImmutableCollections$List12 -/
def k26 : Class := { plain "java/util/ImmutableCollections$List12" (some 25) with
  accessFlags := 48
  interfaces := #[2]
  cf := some (fileOf pool26 14 #[.nestHost 20] #[{ accessFlags := 0, nameIndex := 5, descriptorIndex := 76, attributes := #[] }, { accessFlags := 1, nameIndex := 88, descriptorIndex := 89, attributes := #[] }] 48 2 #[70] #[{ accessFlags := 18, nameIndex := 17, descriptorIndex := 18, attributes := #[] }, { accessFlags := 18, nameIndex := 26, descriptorIndex := 18, attributes := #[] }])
  fields := #[{ name := "e0", type := (.object "java/lang/Object"), accessFlags := 18, slot := 0, constantValue := 0 }, { name := "e1", type := (.object "java/lang/Object"), accessFlags := 18, slot := 1, constantValue := 0 }]
  methods := #[k26m0, k26m1]
  instanceTypes := #[(.object "java/lang/Object"), (.object "java/lang/Object")]
  staticTypes := #[]
  resolved := Array.replicate 125 none
  statics := none }

def pool27 : Array CpInfo := pool [(2, .class_ 4), (1, u "java/util/ImmutableCollections$AbstractImmutableList"), (2, .fieldref 8 9), (0, .class_ 10), (0, .nameAndType 11 12), (0, u "java/util/ImmutableCollections$ListN"), (0, u "elements"), (0, u "[Ljava/lang/Object;"), (2, u "allowNulls"), (0, u "Z"), (42, .class_ 60), (0, u "java/io/Serializable"), (13, u "isEmpty"), (0, u "()Z"), (38, .class_ 115), (0, u "java/util/ImmutableCollections")] 3

def k27c0 : Code := { maxStack := 1, maxLocals := 1, code := jdk_45_method_2_code, exceptionTable := #[], attributes := #[] }
def k27m0 : Method := { name := "isEmpty", desc := "()Z", sig := { parameters := [], returnType := some .boolean }, accessFlags := 1, code := some k27c0 }
/-- java/util/ImmutableCollections$ListN -/
def k27 : Class := { plain "java/util/ImmutableCollections$ListN" (some 25) with
  accessFlags := 48
  interfaces := #[2]
  cf := some (fileOf pool27 8 #[.nestHost 114] #[{ accessFlags := 1, nameIndex := 74, descriptorIndex := 75, attributes := #[] }] 48 2 #[59] #[{ accessFlags := 18, nameIndex := 11, descriptorIndex := 12, attributes := #[] }, { accessFlags := 18, nameIndex := 15, descriptorIndex := 16, attributes := #[] }])
  fields := #[{ name := "elements", type := (.array (.object "java/lang/Object")), accessFlags := 18, slot := 0, constantValue := 0 }, { name := "allowNulls", type := .boolean, accessFlags := 18, slot := 1, constantValue := 0 }]
  methods := #[k27m0]
  instanceTypes := #[(.array (.object "java/lang/Object")), .boolean]
  staticTypes := #[]
  resolved := Array.replicate 119 none
  statics := none }

def pool28 : Array CpInfo := pool [(2, .class_ 4), (1, u "java/lang/Object"), (0, u "<init>"), (0, u "()V"), (7, .class_ 16), (1, u "java/util/Arrays"), (57, .class_ 76), (1, u "java/util/Arrays$NaturalOrder"), (9, .methodref 2 87), (0, .nameAndType 88 89), (0, u "getClass"), (0, u "()Ljava/lang/Class;"), (20, .class_ 111), (0, u "[Ljava/lang/Object;"), (1, .class_ 115), (1, u "java/util/Arrays$LegacyMergeSort"), (1, u "Z"), (32, .methodref 151 152), (0, .class_ 153), (0, .nameAndType 154 155), (0, u "java/lang/System"), (0, u "arraycopy"), (0, u "(Ljava/lang/Object;ILjava/lang/Object;II)V"), (144, .methodref 14 301), (0, .nameAndType 302 303), (0, u "copyOf"), (0, u "([Ljava/lang/Object;ILjava/lang/Class;)[Ljava/lang/Object;"), (0, .methodref 305 306), (0, .class_ 307), (0, .nameAndType 308 309), (0, u "java/lang/Math"), (0, u "min"), (0, u "(II)I"), (65, .class_ 376), (0, u "java/util/Arrays$ArrayList"), (68, u "$assertionsDisabled"), (269, u "MIN_ARRAY_SORT_GRAN"), (0, u "I"), (2, u "INSERTIONSORT_THRESHOLD"), (140, u "([Ljava/lang/Object;I)[Ljava/lang/Object;"), (114, .class_ 976), (0, u "java/util/Arrays$ArrayItr")] 52

def k28m0 : Method := { name := "<init>", desc := "()V", sig := { parameters := [], returnType := none }, accessFlags := 2, code := none }
def k28c1 : Code := { maxStack := 3, maxLocals := 2, code := jdk_65_method_119_code, exceptionTable := #[], attributes := #[] }
def k28m1 : Method := { name := "copyOf", desc := "([Ljava/lang/Object;I)[Ljava/lang/Object;", sig := { parameters := [(.array (.object "java/lang/Object")), .int], returnType := some (.array (.object "java/lang/Object")) }, accessFlags := 9, code := some k28c1 }
def k28c2 : Code := { maxStack := 6, maxLocals := 4, code := jdk_65_method_120_code, exceptionTable := #[], attributes := #[] }
def k28m2 : Method := { name := "copyOf", desc := "([Ljava/lang/Object;ILjava/lang/Class;)[Ljava/lang/Object;", sig := { parameters := [(.array (.object "java/lang/Object")), .int, (.object "java/lang/Class")], returnType := some (.array (.object "java/lang/Object")) }, accessFlags := 9, code := some k28c2 }
/-- java/util/Arrays -/
def k28 : Class := { plain "java/util/Arrays" (some 0) with
  accessFlags := 49
  interfaces := #[]
  cf := some (fileOf pool28 14 #[.nestMembers #[975, 375, 113, 74]] #[{ accessFlags := 2, nameIndex := 5, descriptorIndex := 6, attributes := #[] }, { accessFlags := 9, nameIndex := 302, descriptorIndex := 860, attributes := #[] }, { accessFlags := 9, nameIndex := 302, descriptorIndex := 303, attributes := #[] }] 49 2 #[] #[{ accessFlags := 26, nameIndex := 715, descriptorIndex := 716, attributes := #[] }, { accessFlags := 26, nameIndex := 719, descriptorIndex := 716, attributes := #[] }, { accessFlags := 4120, nameIndex := 445, descriptorIndex := 117, attributes := #[] }])
  fields := #[{ name := "MIN_ARRAY_SORT_GRAN", type := .int, accessFlags := 26, slot := 0, constantValue := 0 }, { name := "INSERTIONSORT_THRESHOLD", type := .int, accessFlags := 26, slot := 1, constantValue := 0 }, { name := "$assertionsDisabled", type := .boolean, accessFlags := 4120, slot := 2, constantValue := 0 }]
  methods := #[k28m0, k28m1, k28m2]
  instanceTypes := #[]
  staticTypes := #[.int, .int, .boolean]
  resolved := Array.replicate 1029 none
  statics := none }

def pool29 : Array CpInfo := pool [(2, .class_ 4), (1, u "java/lang/Object"), (0, u "<init>"), (0, u "()V"), (1, .class_ 10), (1, u "java/lang/System"), (0, u "allowSecurityManager"), (0, u "I"), (16, u "cons"), (0, u "Ljava/io/Console;"), (77, .class_ 110), (1, u "java/lang/System$CallersHolder"), (43, u "initialErrStream"), (0, u "Ljava/io/PrintStream;"), (19, u "security"), (0, u "Ljava/lang/SecurityManager;"), (31, .class_ 209), (0, u "java/lang/System$1"), (7, u "props"), (0, u "Ljava/util/Properties;"), (2, u "lineSeparator"), (0, u "Ljava/lang/String;"), (96, .class_ 321), (1, u "java/lang/System$LoggerFinder"), (5, .class_ 328), (0, u "java/lang/System$Logger"), (67, u "err"), (2, u "out"), (91, u "notSupportedJnuEncoding"), (15, u "in"), (17, u "initialIn"), (0, u "Ljava/io/InputStream;"), (35, u "bootLayer"), (0, u "Ljava/lang/ModuleLayer;"), (99, .class_ 664), (0, u "java/lang/System$2"), (9, u "NEVER"), (2, u "MAYBE"), (49, u "arraycopy"), (0, u "(Ljava/lang/Object;ILjava/lang/Object;II)V"), (72, .class_ 802), (0, u "java/lang/System$Logger$Level")] 31

def k29m0 : Method := { name := "<init>", desc := "()V", sig := { parameters := [], returnType := none }, accessFlags := 2, code := none }
def k29m1 : Method := { name := "arraycopy", desc := "(Ljava/lang/Object;ILjava/lang/Object;II)V", sig := { parameters := [(.object "java/lang/Object"), .int, (.object "java/lang/Object"), .int, .int], returnType := none }, accessFlags := 265, code := none }
/-- java/lang/System -/
def k29 : Class := { plain "java/lang/System" (some 0) with
  accessFlags := 49
  interfaces := #[]
  cf := some (fileOf pool29 8 #[.nestMembers #[319, 327, 801, 108, 663, 208]] #[{ accessFlags := 2, nameIndex := 5, descriptorIndex := 6, attributes := #[] }, { accessFlags := 265, nameIndex := 727, descriptorIndex := 728, attributes := #[] }] 49 2 #[] #[{ accessFlags := 25, nameIndex := 507, descriptorIndex := 526, attributes := #[] }, { accessFlags := 25, nameIndex := 399, descriptorIndex := 155, attributes := #[] }, { accessFlags := 25, nameIndex := 396, descriptorIndex := 155, attributes := #[] }, { accessFlags := 10, nameIndex := 525, descriptorIndex := 526, attributes := #[] }, { accessFlags := 26, nameIndex := 674, descriptorIndex := 12, attributes := #[] }, { accessFlags := 26, nameIndex := 677, descriptorIndex := 12, attributes := #[] }, { accessFlags := 10, nameIndex := 11, descriptorIndex := 12, attributes := #[] }, { accessFlags := 74, nameIndex := 175, descriptorIndex := 176, attributes := #[] }, { accessFlags := 10, nameIndex := 491, descriptorIndex := 222, attributes := #[] }, { accessFlags := 74, nameIndex := 29, descriptorIndex := 30, attributes := #[] }, { accessFlags := 74, nameIndex := 154, descriptorIndex := 155, attributes := #[] }, { accessFlags := 10, nameIndex := 217, descriptorIndex := 218, attributes := #[] }, { accessFlags := 10, nameIndex := 221, descriptorIndex := 222, attributes := #[] }, { accessFlags := 8, nameIndex := 562, descriptorIndex := 563, attributes := #[] }])
  fields := #[{ name := "in", type := (.object "java/io/InputStream"), accessFlags := 25, slot := 0, constantValue := 0 }, { name := "out", type := (.object "java/io/PrintStream"), accessFlags := 25, slot := 1, constantValue := 0 }, { name := "err", type := (.object "java/io/PrintStream"), accessFlags := 25, slot := 2, constantValue := 0 }, { name := "initialIn", type := (.object "java/io/InputStream"), accessFlags := 10, slot := 3, constantValue := 0 }, { name := "NEVER", type := .int, accessFlags := 26, slot := 4, constantValue := 0 }, { name := "MAYBE", type := .int, accessFlags := 26, slot := 5, constantValue := 0 }, { name := "allowSecurityManager", type := .int, accessFlags := 10, slot := 6, constantValue := 0 }, { name := "security", type := (.object "java/lang/SecurityManager"), accessFlags := 74, slot := 7, constantValue := 0 }, { name := "notSupportedJnuEncoding", type := (.object "java/lang/String"), accessFlags := 10, slot := 8, constantValue := 0 }, { name := "cons", type := (.object "java/io/Console"), accessFlags := 74, slot := 9, constantValue := 0 }, { name := "initialErrStream", type := (.object "java/io/PrintStream"), accessFlags := 74, slot := 10, constantValue := 0 }, { name := "props", type := (.object "java/util/Properties"), accessFlags := 10, slot := 11, constantValue := 0 }, { name := "lineSeparator", type := (.object "java/lang/String"), accessFlags := 10, slot := 12, constantValue := 0 }, { name := "bootLayer", type := (.object "java/lang/ModuleLayer"), accessFlags := 8, slot := 13, constantValue := 0 }]
  methods := #[k29m0, k29m1]
  instanceTypes := #[]
  staticTypes := #[(.object "java/io/InputStream"), (.object "java/io/PrintStream"), (.object "java/io/PrintStream"), (.object "java/io/InputStream"), .int, .int, .int, (.object "java/lang/SecurityManager"), (.object "java/lang/String"), (.object "java/io/Console"), (.object "java/io/PrintStream"), (.object "java/util/Properties"), (.object "java/lang/String"), (.object "java/lang/ModuleLayer")]
  resolved := Array.replicate 834 none
  statics := none }

def pool30 : Array CpInfo := pool [(1, .methodref 2 3), (0, .class_ 4), (0, .nameAndType 5 6), (0, u "java/lang/Record"), (0, u "<init>"), (0, u "()V"), (9, .fieldref 17 18), (0, .class_ 19), (0, .nameAndType 20 21), (0, u "org/holdfast/model/EnumerationAndChronology"), (0, u "unitType"), (0, u "Lorg/holdfast/model/UnitType;"), (0, .fieldref 17 23), (0, .nameAndType 24 25), (0, u "note"), (0, u "Ljava/lang/String;"), (0, .fieldref 17 27), (0, .nameAndType 28 25), (0, u "text"), (0, .fieldref 17 30), (0, .nameAndType 31 32), (0, u "designation"), (0, u "Lorg/holdfast/model/Designation;"), (0, .fieldref 17 34), (0, .nameAndType 35 32), (0, u "ending"), (1, .methodref 38 39), (0, .class_ 40), (0, .nameAndType 41 42), (0, u "java/util/Objects"), (0, u "requireNonNull"), (0, u "(Ljava/lang/Object;Ljava/lang/String;)Ljava/lang/Object;"), (2, .methodref 17 46), (0, .nameAndType 5 47), (0, u "(Lorg/holdfast/model/UnitType;Ljava/lang/String;Ljava/lang/String;Lorg/holdfast/model/Designation;Lorg/holdfast/model/Designation;)V"), (0, .string 31), (0, .class_ 50), (0, u "org/holdfast/model/Designation"), (19, u "coded"), (0, u "(Lorg/holdfast/model/UnitType;Ljava/lang/String;Lorg/holdfast/model/Designation;Lorg/holdfast/model/Designation;)Lorg/holdfast/model/EnumerationAndChronology;"), (0, u "()Ljava/lang/String;"), (2, u "()Lorg/holdfast/model/UnitType;"), (0, u "()Lorg/holdfast/model/Designation;")] 24

def k30c0 : Code := { maxStack := 3, maxLocals := 6, code := prog_29_method_1_code, exceptionTable := #[], attributes := #[] }
def k30m0 : Method := { name := "<init>", desc := "(Lorg/holdfast/model/UnitType;Ljava/lang/String;Ljava/lang/String;Lorg/holdfast/model/Designation;Lorg/holdfast/model/Designation;)V", sig := { parameters := [(.object "org/holdfast/model/UnitType"), (.object "java/lang/String"), (.object "java/lang/String"), (.object "org/holdfast/model/Designation"), (.object "org/holdfast/model/Designation")], returnType := none }, accessFlags := 1, code := some k30c0 }
def k30c1 : Code := { maxStack := 7, maxLocals := 4, code := prog_29_method_3_code, exceptionTable := #[], attributes := #[] }
def k30m1 : Method := { name := "coded", desc := "(Lorg/holdfast/model/UnitType;Ljava/lang/String;Lorg/holdfast/model/Designation;Lorg/holdfast/model/Designation;)Lorg/holdfast/model/EnumerationAndChronology;", sig := { parameters := [(.object "org/holdfast/model/UnitType"), (.object "java/lang/String"), (.object "org/holdfast/model/Designation"), (.object "org/holdfast/model/Designation")], returnType := some (.object "org/holdfast/model/EnumerationAndChronology") }, accessFlags := 9, code := some k30c1 }
def k30c2 : Code := { maxStack := 1, maxLocals := 1, code := prog_29_method_7_code, exceptionTable := #[], attributes := #[] }
def k30m2 : Method := { name := "unitType", desc := "()Lorg/holdfast/model/UnitType;", sig := { parameters := [], returnType := some (.object "org/holdfast/model/UnitType") }, accessFlags := 1, code := some k30c2 }
def k30c3 : Code := { maxStack := 1, maxLocals := 1, code := prog_29_method_8_code, exceptionTable := #[], attributes := #[] }
def k30m3 : Method := { name := "note", desc := "()Ljava/lang/String;", sig := { parameters := [], returnType := some (.object "java/lang/String") }, accessFlags := 1, code := some k30c3 }
def k30c4 : Code := { maxStack := 1, maxLocals := 1, code := prog_29_method_9_code, exceptionTable := #[], attributes := #[] }
def k30m4 : Method := { name := "text", desc := "()Ljava/lang/String;", sig := { parameters := [], returnType := some (.object "java/lang/String") }, accessFlags := 1, code := some k30c4 }
def k30c5 : Code := { maxStack := 1, maxLocals := 1, code := prog_29_method_10_code, exceptionTable := #[], attributes := #[] }
def k30m5 : Method := { name := "designation", desc := "()Lorg/holdfast/model/Designation;", sig := { parameters := [], returnType := some (.object "org/holdfast/model/Designation") }, accessFlags := 1, code := some k30c5 }
def k30c6 : Code := { maxStack := 1, maxLocals := 1, code := prog_29_method_11_code, exceptionTable := #[], attributes := #[] }
def k30m6 : Method := { name := "ending", desc := "()Lorg/holdfast/model/Designation;", sig := { parameters := [], returnType := some (.object "org/holdfast/model/Designation") }, accessFlags := 1, code := some k30c6 }
/-- org/holdfast/model/EnumerationAndChronology -/
def k30 : Class := { plain "org/holdfast/model/EnumerationAndChronology" (some 9) with
  accessFlags := 49
  interfaces := #[]
  cf := some (fileOf pool30 17 #[] #[{ accessFlags := 1, nameIndex := 5, descriptorIndex := 47, attributes := #[] }, { accessFlags := 9, nameIndex := 70, descriptorIndex := 71, attributes := #[] }, { accessFlags := 1, nameIndex := 20, descriptorIndex := 75, attributes := #[] }, { accessFlags := 1, nameIndex := 24, descriptorIndex := 72, attributes := #[] }, { accessFlags := 1, nameIndex := 28, descriptorIndex := 72, attributes := #[] }, { accessFlags := 1, nameIndex := 31, descriptorIndex := 76, attributes := #[] }, { accessFlags := 1, nameIndex := 35, descriptorIndex := 76, attributes := #[] }] 49 2 #[] #[{ accessFlags := 18, nameIndex := 20, descriptorIndex := 21, attributes := #[] }, { accessFlags := 18, nameIndex := 24, descriptorIndex := 25, attributes := #[] }, { accessFlags := 18, nameIndex := 28, descriptorIndex := 25, attributes := #[] }, { accessFlags := 18, nameIndex := 31, descriptorIndex := 32, attributes := #[] }, { accessFlags := 18, nameIndex := 35, descriptorIndex := 32, attributes := #[] }])
  fields := #[{ name := "unitType", type := (.object "org/holdfast/model/UnitType"), accessFlags := 18, slot := 0, constantValue := 0 }, { name := "note", type := (.object "java/lang/String"), accessFlags := 18, slot := 1, constantValue := 0 }, { name := "text", type := (.object "java/lang/String"), accessFlags := 18, slot := 2, constantValue := 0 }, { name := "designation", type := (.object "org/holdfast/model/Designation"), accessFlags := 18, slot := 3, constantValue := 0 }, { name := "ending", type := (.object "org/holdfast/model/Designation"), accessFlags := 18, slot := 4, constantValue := 0 }]
  methods := #[k30m0, k30m1, k30m2, k30m3, k30m4, k30m5, k30m6]
  instanceTypes := #[(.object "org/holdfast/model/UnitType"), (.object "java/lang/String"), (.object "java/lang/String"), (.object "org/holdfast/model/Designation"), (.object "org/holdfast/model/Designation")]
  staticTypes := #[]
  resolved := Array.replicate 101 none
  statics := none }

def pool31 : Array CpInfo := pool [(4, .class_ 6), (1, u "java/lang/Object"), (0, u "<init>"), (0, u "()V"), (5, .class_ 16), (1, u "java/lang/StringLatin1"), (104, u "$assertionsDisabled"), (0, u "Z"), (98, .class_ 223), (1, u "java/lang/StringLatin1$LinesSpliterator"), (166, .class_ 391), (0, u "java/lang/StringLatin1$CharsSpliterator")] 3

def k31m0 : Method := { name := "<init>", desc := "()V", sig := { parameters := [], returnType := none }, accessFlags := 0, code := none }
/-- java/lang/StringLatin1 -/
def k31 : Class := { plain "java/lang/StringLatin1" (some 0) with
  accessFlags := 48
  interfaces := #[]
  cf := some (fileOf pool31 14 #[.nestMembers #[390, 221]] #[{ accessFlags := 0, nameIndex := 7, descriptorIndex := 8, attributes := #[] }] 48 4 #[] #[{ accessFlags := 4120, nameIndex := 121, descriptorIndex := 122, attributes := #[] }])
  fields := #[{ name := "$assertionsDisabled", type := .boolean, accessFlags := 4120, slot := 0, constantValue := 0 }]
  methods := #[k31m0]
  instanceTypes := #[]
  staticTypes := #[.boolean]
  resolved := Array.replicate 395 none
  statics := none }

def pool32 : Array CpInfo := pool [(2, .class_ 4), (1, u "java/lang/Object"), (0, u "<init>"), (0, u "()V"), (17, .class_ 26), (1, u "jdk/internal/util/Preconditions"), (28, .class_ 56), (0, u "jdk/internal/util/Preconditions$4"), (57, .class_ 115), (0, u "jdk/internal/util/Preconditions$1"), (7, u "SIOOBE_FORMATTER"), (0, u "Ljava/util/function/BiFunction;"), (0, .class_ 126), (0, u "jdk/internal/util/Preconditions$2"), (3, u "AIOOBE_FORMATTER"), (0, .class_ 132), (0, u "jdk/internal/util/Preconditions$3"), (3, u "IOOBE_FORMATTER")] 57

def k32m0 : Method := { name := "<init>", desc := "()V", sig := { parameters := [], returnType := none }, accessFlags := 1, code := none }
/-- jdk/internal/util/Preconditions -/
def k32 : Class := { plain "jdk/internal/util/Preconditions" (some 0) with
  accessFlags := 33
  interfaces := #[]
  cf := some (fileOf pool32 24 #[.nestMembers #[55, 131, 125, 114]] #[{ accessFlags := 1, nameIndex := 5, descriptorIndex := 6, attributes := #[] }] 33 2 #[] #[{ accessFlags := 25, nameIndex := 123, descriptorIndex := 124, attributes := #[] }, { accessFlags := 25, nameIndex := 130, descriptorIndex := 124, attributes := #[] }, { accessFlags := 25, nameIndex := 136, descriptorIndex := 124, attributes := #[] }])
  fields := #[{ name := "SIOOBE_FORMATTER", type := (.object "java/util/function/BiFunction"), accessFlags := 25, slot := 0, constantValue := 0 }, { name := "AIOOBE_FORMATTER", type := (.object "java/util/function/BiFunction"), accessFlags := 25, slot := 1, constantValue := 0 }, { name := "IOOBE_FORMATTER", type := (.object "java/util/function/BiFunction"), accessFlags := 25, slot := 2, constantValue := 0 }]
  methods := #[k32m0]
  instanceTypes := #[]
  staticTypes := #[(.object "java/util/function/BiFunction"), (.object "java/util/function/BiFunction"), (.object "java/util/function/BiFunction")]
  resolved := Array.replicate 194 none
  statics := some 3 }

def pool33 : Array CpInfo := pool [(9, u "<init>"), (6, .class_ 18), (1, u "java/lang/Object"), (0, u "()V"), (1, .class_ 23), (1, u "jdk/internal/util/ArraysSupport"), (0, u "LOG2_ARRAY_LONG_INDEX_SCALE"), (0, u "I"), (2, u "U"), (0, u "Ljdk/internal/misc/Unsafe;"), (8, u "BIG_ENDIAN"), (0, u "Z"), (8, u "LOG2_BYTE_BIT_SIZE"), (4, u "LOG2_ARRAY_INT_INDEX_SCALE"), (54, u "JLA"), (0, u "Ljdk/internal/access/JavaLangAccess;"), (11, u "LOG2_ARRAY_BOOLEAN_INDEX_SCALE"), (9, u "LOG2_ARRAY_BYTE_INDEX_SCALE"), (5, u "LOG2_ARRAY_CHAR_INDEX_SCALE"), (5, u "LOG2_ARRAY_SHORT_INDEX_SCALE"), (18, u "LOG2_ARRAY_FLOAT_INDEX_SCALE"), (24, u "LOG2_ARRAY_DOUBLE_INDEX_SCALE"), (89, u "T_BOOLEAN"), (2, u "T_CHAR"), (1, u "T_FLOAT"), (1, u "T_DOUBLE"), (1, u "T_BYTE"), (1, u "T_SHORT"), (1, u "T_INT"), (1, u "T_LONG"), (1, u "SOFT_MAX_ARRAY_LENGTH")] 83

def k33m0 : Method := { name := "<init>", desc := "()V", sig := { parameters := [], returnType := none }, accessFlags := 2, code := none }
/-- jdk/internal/util/ArraysSupport -/
def k33 : Class := { plain "jdk/internal/util/ArraysSupport" (some 0) with
  accessFlags := 33
  interfaces := #[]
  cf := some (fileOf pool33 21 #[] #[{ accessFlags := 2, nameIndex := 9, descriptorIndex := 19, attributes := #[] }] 33 16 #[] #[{ accessFlags := 24, nameIndex := 28, descriptorIndex := 29, attributes := #[] }, { accessFlags := 26, nameIndex := 38, descriptorIndex := 39, attributes := #[] }, { accessFlags := 25, nameIndex := 121, descriptorIndex := 25, attributes := #[] }, { accessFlags := 25, nameIndex := 131, descriptorIndex := 25, attributes := #[] }, { accessFlags := 25, nameIndex := 137, descriptorIndex := 25, attributes := #[] }, { accessFlags := 25, nameIndex := 143, descriptorIndex := 25, attributes := #[] }, { accessFlags := 25, nameIndex := 53, descriptorIndex := 25, attributes := #[] }, { accessFlags := 25, nameIndex := 24, descriptorIndex := 25, attributes := #[] }, { accessFlags := 25, nameIndex := 162, descriptorIndex := 25, attributes := #[] }, { accessFlags := 25, nameIndex := 187, descriptorIndex := 25, attributes := #[] }, { accessFlags := 26, nameIndex := 48, descriptorIndex := 25, attributes := #[] }, { accessFlags := 25, nameIndex := 277, descriptorIndex := 25, attributes := #[] }, { accessFlags := 25, nameIndex := 280, descriptorIndex := 25, attributes := #[] }, { accessFlags := 25, nameIndex := 282, descriptorIndex := 25, attributes := #[] }, { accessFlags := 25, nameIndex := 284, descriptorIndex := 25, attributes := #[] }, { accessFlags := 25, nameIndex := 286, descriptorIndex := 25, attributes := #[] }, { accessFlags := 25, nameIndex := 288, descriptorIndex := 25, attributes := #[] }, { accessFlags := 25, nameIndex := 290, descriptorIndex := 25, attributes := #[] }, { accessFlags := 25, nameIndex := 292, descriptorIndex := 25, attributes := #[] }, { accessFlags := 26, nameIndex := 108, descriptorIndex := 109, attributes := #[] }, { accessFlags := 25, nameIndex := 294, descriptorIndex := 25, attributes := #[] }])
  fields := #[{ name := "U", type := (.object "jdk/internal/misc/Unsafe"), accessFlags := 24, slot := 0, constantValue := 0 }, { name := "BIG_ENDIAN", type := .boolean, accessFlags := 26, slot := 1, constantValue := 0 }, { name := "LOG2_ARRAY_BOOLEAN_INDEX_SCALE", type := .int, accessFlags := 25, slot := 2, constantValue := 0 }, { name := "LOG2_ARRAY_BYTE_INDEX_SCALE", type := .int, accessFlags := 25, slot := 3, constantValue := 0 }, { name := "LOG2_ARRAY_CHAR_INDEX_SCALE", type := .int, accessFlags := 25, slot := 4, constantValue := 0 }, { name := "LOG2_ARRAY_SHORT_INDEX_SCALE", type := .int, accessFlags := 25, slot := 5, constantValue := 0 }, { name := "LOG2_ARRAY_INT_INDEX_SCALE", type := .int, accessFlags := 25, slot := 6, constantValue := 0 }, { name := "LOG2_ARRAY_LONG_INDEX_SCALE", type := .int, accessFlags := 25, slot := 7, constantValue := 0 }, { name := "LOG2_ARRAY_FLOAT_INDEX_SCALE", type := .int, accessFlags := 25, slot := 8, constantValue := 0 }, { name := "LOG2_ARRAY_DOUBLE_INDEX_SCALE", type := .int, accessFlags := 25, slot := 9, constantValue := 0 }, { name := "LOG2_BYTE_BIT_SIZE", type := .int, accessFlags := 26, slot := 10, constantValue := 0 }, { name := "T_BOOLEAN", type := .int, accessFlags := 25, slot := 11, constantValue := 0 }, { name := "T_CHAR", type := .int, accessFlags := 25, slot := 12, constantValue := 0 }, { name := "T_FLOAT", type := .int, accessFlags := 25, slot := 13, constantValue := 0 }, { name := "T_DOUBLE", type := .int, accessFlags := 25, slot := 14, constantValue := 0 }, { name := "T_BYTE", type := .int, accessFlags := 25, slot := 15, constantValue := 0 }, { name := "T_SHORT", type := .int, accessFlags := 25, slot := 16, constantValue := 0 }, { name := "T_INT", type := .int, accessFlags := 25, slot := 17, constantValue := 0 }, { name := "T_LONG", type := .int, accessFlags := 25, slot := 18, constantValue := 0 }, { name := "JLA", type := (.object "jdk/internal/access/JavaLangAccess"), accessFlags := 26, slot := 19, constantValue := 0 }, { name := "SOFT_MAX_ARRAY_LENGTH", type := .int, accessFlags := 25, slot := 20, constantValue := 0 }]
  methods := #[k33m0]
  instanceTypes := #[]
  staticTypes := #[(.object "jdk/internal/misc/Unsafe"), .boolean, .int, .int, .int, .int, .int, .int, .int, .int, .int, .int, .int, .int, .int, .int, .int, .int, .int, (.object "jdk/internal/access/JavaLangAccess"), .int]
  resolved := Array.replicate 378 none
  statics := none }

def pool34 : Array CpInfo := pool [(1, u "java/lang/Class"), (0, .class_ 1), (0, u "java/lang/Object"), (0, .class_ 3)] 0

/-- java/lang/Class -/
def k34 : Class := { plain "java/lang/Class" (some 0) with
  accessFlags := 49
  interfaces := #[]
  cf := some (fileOf pool34 2 #[] #[] 49 4 #[] #[])
  fields := #[]
  methods := #[]
  instanceTypes := #[]
  staticTypes := #[]
  resolved := Array.replicate 5 none
  statics := none }

/-- the primitive byte -/
def k35 : Class := { plain "byte" none with kind := .primitive 'B', accessFlags := 0x411 }
/-- [B -/
def k36 : Class := { plain "[B" (some 0) with kind := .array 35 .byte, interfaces := #[19, 2], accessFlags := 1041 }

/-- the primitive char -/
def k37 : Class := { plain "char" none with kind := .primitive 'C', accessFlags := 0x411 }
/-- [C -/
def k38 : Class := { plain "[C" (some 0) with kind := .array 37 .char, interfaces := #[19, 2], accessFlags := 1041 }

/-- the primitive int -/
def k39 : Class := { plain "int" none with kind := .primitive 'I', accessFlags := 0x411 }
/-- [I -/
def k40 : Class := { plain "[I" (some 0) with kind := .array 39 .int, interfaces := #[19, 2], accessFlags := 1041 }

/-- [Ljava/lang/Object; -/
def k41 : Class := { plain "[Ljava/lang/Object;" (some 0) with mirror := some 4, kind := .array 0 (.object "java/lang/Object"), interfaces := #[19, 2], accessFlags := 1041 }

def heap : Heap := #[{ cls := 7, slots := #[.long 0, .int 1, .null, .int 0, .null, .int 0, .int 0], vm := .statics 7 },
  { cls := 20, slots := #[.long 0, .int 0, .ref 7, .ref 8], vm := .statics 20 },
  { cls := 23, slots := #[.long 0, .int 0, .null, .ref 9, .ref 6, .null, .null, .null, .int 0, .int 1], vm := .statics 23 },
  { cls := 32, slots := #[.null, .null, .null], vm := .statics 32 },
  { cls := 34, slots := #[], vm := .mirror 41 },
  { cls := 41, slots := #[], vm := .none },
  { cls := 27, slots := #[.ref 5, .int 0], vm := .none },
  { cls := 41, slots := #[], vm := .none },
  { cls := 41, slots := #[], vm := .none },
  { cls := 0, slots := #[], vm := .none }]
def classes : Array Class := #[k0, k1, k2, k3, k4, k5, k6, k7, k8, k9, k10, k11, k12, k13, k14, k15, k16, k17, k18, k19, k20, k21, k22, k23, k24, k25, k26, k27, k28, k29, k30, k31, k32, k33, k34, k35, k36, k37, k38, k39, k40, k41]
def interned : List (Array UInt16 × Addr) := []
def slotsUsed : Nat := 26
def theMethod : MethodId := ⟨1, 1⟩
def args0 : Array Value := #[.int 5, .int 5, .int 5, .int 5]
def aboutOver (below : List Frame) : State where
  vm := { classes := classes, interned := interned.toArray }
  heap := heap
  slotsUsed := slotsUsed
  threads := #[{ frames := .invoking theMethod args0 :: below }]
def below0 : List Frame := [.native { method := ⟨0, 0⟩, args := #[] }]
def about1 : State := aboutOver below0
def p0 : Program := .bare "" "" ""
def e0 : Env := launch0.env 0 0 0
theorem w_frames : about1.frames = Frame.invoking theMethod args0 :: below0 := rfl
set_option maxRecDepth 65536 in
theorem w_args : argsFit about1.vm theMethod args0 = true := by decide +kernel
set_option maxRecDepth 65536 in
theorem w_heap : heapFits about1 = true := by decide +kernel
set_option maxRecDepth 65536 in
theorem w_runnable : about1.curStatus? = some .runnable := by decide +kernel
set_option maxRecDepth 65536 in
theorem w_alone : about1.alone = true := by decide +kernel
set_option maxRecDepth 65536 in
theorem w_named : about1.methodNamed? x = some theMethod := by decide +kernel
set_option maxRecDepth 65536 in
theorem w_hears : about1.hears theMethod below0 = true := by decide +kernel
set_option maxRecDepth 65536 in
theorem w_ripe : about1.ripe theMethod args0 below0 = true := by decide +kernel
theorem w_running : about1.status = .running := rfl
set_option maxRecDepth 65536 in
theorem w_room : about1.hasRoom e0.platform room_1 = true :=
  launch0.hasRoom_least _ room_1 (by decide +kernel) (by decide +kernel) (by decide +kernel) (by decide +kernel) (by decide +kernel) (by decide +kernel)
theorem allAtoms_all (ts : List Jvm.Cond) (a : Array Jvm.Value) (st : Jvm.State) : (allAtoms ts).before a st = ts.all (fun c => c.before a st) := by
  induction ts with
  | nil => rfl
  | cons c t ih =>
    show (Jvm.Cond.and c (allAtoms t)).before a st = _
    rw [Jvm.Cond.before_and, ih, List.all_cons]
def words1 : List Jvm.Cond := Jvm.Cond.code x code maxLocals ret :: tables_1
/-- a 'code' word, met by the world's own term for the bytes: nothing is compared byte by byte -/
theorem code_word {y : MethodName} {bytes : ByteArray} {mx : Nat} {rt : Option FieldType} {a : Array Value} {s : State} {m : MethodId} {meth : Method} {c : Code} (h1 : s.methodNamed? y = some m) (h2 : s.vm.method? m = some meth) (h3 : meth.code = some c) (h4 : c.code = bytes)
    (h5 : (c.maxLocals == mx && c.exceptionTable.isEmpty && decide (c.maxStack ≤ mostOperands) && decide (meth.sig.returnType = rt) && !meth.locks && decide (parseMethodDescriptor y.desc = some meth.sig)) = true) : (Jvm.Cond.code y bytes mx rt).before a s = true := by
  simp only [Bool.and_eq_true, beq_iff_eq, Bool.not_eq_true', decide_eq_true_eq] at h5
  obtain ⟨⟨⟨⟨⟨g1, g2⟩, g3⟩, g4⟩, g5⟩, g6⟩ := h5
  simp [Cond.before, Cond.holds, Cond.value, h1, h2, h3, h4, g1, g2, g3, g4, g5, g6]
def isCode : Jvm.Cond → Bool
  | .code _ _ _ _ => true
  | _ => false
theorem all_split {L : List Jvm.Cond} {P : Jvm.Cond → Bool} (h1 : L.all (fun c => isCode c || P c) = true) (h2 : ∀ c ∈ L.filter isCode, P c = true) : L.all P = true := by
  refine List.all_eq_true.mpr fun c hc => ?_
  have h := List.all_eq_true.mp h1 c hc
  rcases Bool.eq_false_or_eq_true (isCode c) with hi | hi
  · exact h2 c (List.mem_filter.mpr ⟨hc, hi⟩)
  · simpa [hi] using h
set_option maxRecDepth 65536 in
theorem w_c0 : (Jvm.Cond.code x code maxLocals ret).before args0 about1 = true := code_word (m := ⟨1, 1⟩) (meth := k1m1) (c := k1c1) (by decide +kernel) rfl rfl rfl (by decide +kernel)
set_option maxRecDepth 65536 in
theorem w_c1 : (Jvm.Cond.code ({ cls := "java/lang/String", name := "<init>", desc := "([C)V" } : Jvm.MethodName) jdk_42_method_3_code (2 : Nat) (Option.none : Option Jvm.ClassFile.FieldType)).before args0 about1 = true := code_word (m := ⟨7, 1⟩) (meth := k7m1) (c := k7c1) (by decide +kernel) rfl rfl rfl (by decide +kernel)
set_option maxRecDepth 65536 in
theorem w_c2 : (Jvm.Cond.code ({ cls := "java/lang/String", name := "<init>", desc := "([CIILjava/lang/Void;)V" } : Jvm.MethodName) jdk_42_method_149_code (6 : Nat) (Option.none : Option Jvm.ClassFile.FieldType)).before args0 about1 = true := code_word (m := ⟨7, 2⟩) (meth := k7m2) (c := k7c2) (by decide +kernel) rfl rfl rfl (by decide +kernel)
set_option maxRecDepth 65536 in
theorem w_c3 : (Jvm.Cond.code ({ cls := "java/lang/Object", name := "<init>", desc := "()V" } : Jvm.MethodName) object_method_1_code (1 : Nat) (Option.none : Option Jvm.ClassFile.FieldType)).before args0 about1 = true := code_word (m := ⟨0, 0⟩) (meth := k0m0) (c := k0c0) (by decide +kernel) rfl rfl rfl (by decide +kernel)
set_option maxRecDepth 65536 in
theorem w_c4 : (Jvm.Cond.code ({ cls := "java/lang/StringUTF16", name := "compress", desc := "([CII)[B" } : Jvm.MethodName) jdk_52_method_16_code (6 : Nat) (Option.some (Jvm.ClassFile.FieldType.array Jvm.ClassFile.FieldType.byte))).before args0 about1 = true := code_word (m := ⟨8, 2⟩) (meth := k8m2) (c := k8c2) (by decide +kernel) rfl rfl rfl (by decide +kernel)
set_option maxRecDepth 65536 in
theorem w_c5 : (Jvm.Cond.code ({ cls := "java/lang/StringUTF16", name := "compress", desc := "([CI[BII)I" } : Jvm.MethodName) jdk_52_method_21_code (7 : Nat) (Option.some Jvm.ClassFile.FieldType.int)).before args0 about1 = true := code_word (m := ⟨8, 3⟩) (meth := k8m3) (c := k8c3) (by decide +kernel) rfl rfl rfl (by decide +kernel)
set_option maxRecDepth 65536 in
theorem w_c6 : (Jvm.Cond.code ({ cls := "java/lang/StringUTF16", name := "coderFromArrayLen", desc := "([BI)B" } : Jvm.MethodName) jdk_52_method_15_code (2 : Nat) (Option.some Jvm.ClassFile.FieldType.byte)).before args0 about1 = true := code_word (m := ⟨8, 1⟩) (meth := k8m1) (c := k8c1) (by decide +kernel) rfl rfl rfl (by decide +kernel)
set_option maxRecDepth 65536 in
theorem w_c7 : (Jvm.Cond.code ({ cls := "org/holdfast/model/Level", name := "<init>", desc := "(ILjava/lang/String;Ljava/lang/String;)V" } : Jvm.MethodName) prog_41_method_1_code (4 : Nat) (Option.none : Option Jvm.ClassFile.FieldType)).before args0 about1 = true := code_word (m := ⟨10, 0⟩) (meth := k10m0) (c := k10c0) (by decide +kernel) rfl rfl rfl (by decide +kernel)
set_option maxRecDepth 65536 in
theorem w_c8 : (Jvm.Cond.code ({ cls := "java/lang/Record", name := "<init>", desc := "()V" } : Jvm.MethodName) jdk_30_method_1_code (1 : Nat) (Option.none : Option Jvm.ClassFile.FieldType)).before args0 about1 = true := code_word (m := ⟨9, 0⟩) (meth := k9m0) (c := k9c0) (by decide +kernel) rfl rfl rfl (by decide +kernel)
set_option maxRecDepth 65536 in
theorem w_c9 : (Jvm.Cond.code ({ cls := "java/util/Objects", name := "requireNonNull", desc := "(Ljava/lang/Object;Ljava/lang/String;)Ljava/lang/Object;" } : Jvm.MethodName) jdk_31_method_11_code (2 : Nat) (Option.some (Jvm.ClassFile.FieldType.object "java/lang/Object"))).before args0 about1 = true := code_word (m := ⟨11, 2⟩) (meth := k11m2) (c := k11c2) (by decide +kernel) rfl rfl rfl (by decide +kernel)
set_option maxRecDepth 65536 in
theorem w_c10 : (Jvm.Cond.code ({ cls := "java/util/ArrayList", name := "<init>", desc := "()V" } : Jvm.MethodName) jdk_38_method_2_code (1 : Nat) (Option.none : Option Jvm.ClassFile.FieldType)).before args0 about1 = true := code_word (m := ⟨20, 0⟩) (meth := k20m0) (c := k20c0) (by decide +kernel) rfl rfl rfl (by decide +kernel)
set_option maxRecDepth 65536 in
theorem w_c11 : (Jvm.Cond.code ({ cls := "java/util/AbstractList", name := "<init>", desc := "()V" } : Jvm.MethodName) jdk_39_method_1_code (1 : Nat) (Option.none : Option Jvm.ClassFile.FieldType)).before args0 about1 = true := code_word (m := ⟨17, 0⟩) (meth := k17m0) (c := k17c0) (by decide +kernel) rfl rfl rfl (by decide +kernel)
set_option maxRecDepth 65536 in
theorem w_c12 : (Jvm.Cond.code ({ cls := "java/util/AbstractCollection", name := "<init>", desc := "()V" } : Jvm.MethodName) jdk_22_method_1_code (1 : Nat) (Option.none : Option Jvm.ClassFile.FieldType)).before args0 about1 = true := code_word (m := ⟨14, 0⟩) (meth := k14m0) (c := k14c0) (by decide +kernel) rfl rfl rfl (by decide +kernel)
set_option maxRecDepth 65536 in
theorem w_c13 : (Jvm.Cond.code ({ cls := "java/util/ArrayList", name := "add", desc := "(Ljava/lang/Object;)Z" } : Jvm.MethodName) jdk_38_method_25_code (2 : Nat) (Option.some Jvm.ClassFile.FieldType.boolean)).before args0 about1 = true := code_word (m := ⟨20, 6⟩) (meth := k20m6) (c := k20c6) (by decide +kernel) rfl rfl rfl (by decide +kernel)
set_option maxRecDepth 65536 in
theorem w_c14 : (Jvm.Cond.code ({ cls := "java/util/ArrayList", name := "add", desc := "(Ljava/lang/Object;[Ljava/lang/Object;I)V" } : Jvm.MethodName) jdk_38_method_24_code (4 : Nat) (Option.none : Option Jvm.ClassFile.FieldType)).before args0 about1 = true := code_word (m := ⟨20, 5⟩) (meth := k20m5) (c := k20c5) (by decide +kernel) rfl rfl rfl (by decide +kernel)
set_option maxRecDepth 65536 in
theorem w_c15 : (Jvm.Cond.code ({ cls := "java/util/ArrayList", name := "grow", desc := "()[Ljava/lang/Object;" } : Jvm.MethodName) jdk_38_method_7_code (1 : Nat) (Option.some (Jvm.ClassFile.FieldType.array (Jvm.ClassFile.FieldType.object "java/lang/Object")))).before args0 about1 = true := code_word (m := ⟨20, 2⟩) (meth := k20m2) (c := k20c2) (by decide +kernel) rfl rfl rfl (by decide +kernel)
set_option maxRecDepth 65536 in
theorem w_c16 : (Jvm.Cond.code ({ cls := "java/util/ArrayList", name := "grow", desc := "(I)[Ljava/lang/Object;" } : Jvm.MethodName) jdk_38_method_6_code (4 : Nat) (Option.some (Jvm.ClassFile.FieldType.array (Jvm.ClassFile.FieldType.object "java/lang/Object")))).before args0 about1 = true := code_word (m := ⟨20, 1⟩) (meth := k20m1) (c := k20c1) (by decide +kernel) rfl rfl rfl (by decide +kernel)
set_option maxRecDepth 65536 in
theorem w_c17 : (Jvm.Cond.code ({ cls := "java/lang/Math", name := "max", desc := "(II)I" } : Jvm.MethodName) jdk_29_method_65_code (2 : Nat) (Option.some Jvm.ClassFile.FieldType.int)).before args0 about1 = true := code_word (m := ⟨21, 1⟩) (meth := k21m1) (c := k21c1) (by decide +kernel) rfl rfl rfl (by decide +kernel)
set_option maxRecDepth 65536 in
theorem w_c18 : (Jvm.Cond.code ({ cls := "org/holdfast/model/Designation", name := "<init>", desc := "(Ljava/util/List;Ljava/util/List;)V" } : Jvm.MethodName) prog_21_method_1_code (3 : Nat) (Option.none : Option Jvm.ClassFile.FieldType)).before args0 about1 = true := code_word (m := ⟨22, 0⟩) (meth := k22m0) (c := k22c0) (by decide +kernel) rfl rfl rfl (by decide +kernel)
set_option maxRecDepth 65536 in
theorem w_c19 : (Jvm.Cond.code ({ cls := "java/util/List", name := "copyOf", desc := "(Ljava/util/Collection;)Ljava/util/List;" } : Jvm.MethodName) jdk_40_method_48_code (1 : Nat) (Option.some (Jvm.ClassFile.FieldType.object "java/util/List"))).before args0 about1 = true := code_word (m := ⟨16, 3⟩) (meth := k16m3) (c := k16c3) (by decide +kernel) rfl rfl rfl (by decide +kernel)
set_option maxRecDepth 65536 in
theorem w_c20 : (Jvm.Cond.code ({ cls := "java/util/ImmutableCollections", name := "listCopy", desc := "(Ljava/util/Collection;)Ljava/util/List;" } : Jvm.MethodName) jdk_56_method_3_code (2 : Nat) (Option.some (Jvm.ClassFile.FieldType.object "java/util/List"))).before args0 about1 = true := code_word (m := ⟨23, 1⟩) (meth := k23m1) (c := k23c1) (by decide +kernel) rfl rfl rfl (by decide +kernel)
set_option maxRecDepth 65536 in
theorem w_c21 : (Jvm.Cond.code ({ cls := "java/util/ArrayList", name := "isEmpty", desc := "()Z" } : Jvm.MethodName) jdk_38_method_9_code (1 : Nat) (Option.some Jvm.ClassFile.FieldType.boolean)).before args0 about1 = true := code_word (m := ⟨20, 3⟩) (meth := k20m3) (c := k20c3) (by decide +kernel) rfl rfl rfl (by decide +kernel)
set_option maxRecDepth 65536 in
theorem w_c22 : (Jvm.Cond.code ({ cls := "java/util/ArrayList", name := "toArray", desc := "()[Ljava/lang/Object;" } : Jvm.MethodName) jdk_38_method_16_code (1 : Nat) (Option.some (Jvm.ClassFile.FieldType.array (Jvm.ClassFile.FieldType.object "java/lang/Object")))).before args0 about1 = true := code_word (m := ⟨20, 4⟩) (meth := k20m4) (c := k20c4) (by decide +kernel) rfl rfl rfl (by decide +kernel)
set_option maxRecDepth 65536 in
theorem w_c23 : (Jvm.Cond.code ({ cls := "java/util/Arrays", name := "copyOf", desc := "([Ljava/lang/Object;I)[Ljava/lang/Object;" } : Jvm.MethodName) jdk_65_method_119_code (2 : Nat) (Option.some (Jvm.ClassFile.FieldType.array (Jvm.ClassFile.FieldType.object "java/lang/Object")))).before args0 about1 = true := code_word (m := ⟨28, 1⟩) (meth := k28m1) (c := k28c1) (by decide +kernel) rfl rfl rfl (by decide +kernel)
set_option maxRecDepth 65536 in
theorem w_c24 : (Jvm.Cond.code ({ cls := "java/util/Arrays", name := "copyOf", desc := "([Ljava/lang/Object;ILjava/lang/Class;)[Ljava/lang/Object;" } : Jvm.MethodName) jdk_65_method_120_code (4 : Nat) (Option.some (Jvm.ClassFile.FieldType.array (Jvm.ClassFile.FieldType.object "java/lang/Object")))).before args0 about1 = true := code_word (m := ⟨28, 2⟩) (meth := k28m2) (c := k28c2) (by decide +kernel) rfl rfl rfl (by decide +kernel)
set_option maxRecDepth 65536 in
theorem w_c25 : (Jvm.Cond.code ({ cls := "java/lang/Math", name := "min", desc := "(II)I" } : Jvm.MethodName) jdk_29_method_69_code (2 : Nat) (Option.some Jvm.ClassFile.FieldType.int)).before args0 about1 = true := code_word (m := ⟨21, 2⟩) (meth := k21m2) (c := k21c2) (by decide +kernel) rfl rfl rfl (by decide +kernel)
set_option maxRecDepth 65536 in
theorem w_c26 : (Jvm.Cond.code ({ cls := "java/util/List", name := "of", desc := "([Ljava/lang/Object;)Ljava/util/List;" } : Jvm.MethodName) jdk_40_method_47_code (2 : Nat) (Option.some (Jvm.ClassFile.FieldType.object "java/util/List"))).before args0 about1 = true := code_word (m := ⟨16, 2⟩) (meth := k16m2) (c := k16c2) (by decide +kernel) rfl rfl rfl (by decide +kernel)
set_option maxRecDepth 65536 in
theorem w_c27 : (Jvm.Cond.code ({ cls := "java/util/ImmutableCollections$List12", name := "<init>", desc := "(Ljava/lang/Object;)V" } : Jvm.MethodName) jdk_44_method_1_code (2 : Nat) (Option.none : Option Jvm.ClassFile.FieldType)).before args0 about1 = true := code_word (m := ⟨26, 0⟩) (meth := k26m0) (c := k26c0) (by decide +kernel) rfl rfl rfl (by decide +kernel)
set_option maxRecDepth 65536 in
theorem w_c28 : (Jvm.Cond.code ({ cls := "java/util/ImmutableCollections$AbstractImmutableList", name := "<init>", desc := "()V" } : Jvm.MethodName) jdk_46_method_1_code (1 : Nat) (Option.none : Option Jvm.ClassFile.FieldType)).before args0 about1 = true := code_word (m := ⟨25, 0⟩) (meth := k25m0) (c := k25c0) (by decide +kernel) rfl rfl rfl (by decide +kernel)
set_option maxRecDepth 65536 in
theorem w_c29 : (Jvm.Cond.code ({ cls := "java/util/ImmutableCollections$AbstractImmutableCollection", name := "<init>", desc := "()V" } : Jvm.MethodName) jdk_47_method_1_code (1 : Nat) (Option.none : Option Jvm.ClassFile.FieldType)).before args0 about1 = true := code_word (m := ⟨24, 0⟩) (meth := k24m0) (c := k24c0) (by decide +kernel) rfl rfl rfl (by decide +kernel)
set_option maxRecDepth 65536 in
theorem w_c30 : (Jvm.Cond.code ({ cls := "java/util/Objects", name := "requireNonNull", desc := "(Ljava/lang/Object;)Ljava/lang/Object;" } : Jvm.MethodName) jdk_31_method_10_code (1 : Nat) (Option.some (Jvm.ClassFile.FieldType.object "java/lang/Object"))).before args0 about1 = true := code_word (m := ⟨11, 1⟩) (meth := k11m1) (c := k11c1) (by decide +kernel) rfl rfl rfl (by decide +kernel)
set_option maxRecDepth 65536 in
theorem w_c31 : (Jvm.Cond.code ({ cls := "java/util/List", name := "of", desc := "()Ljava/util/List;" } : Jvm.MethodName) jdk_40_method_36_code (0 : Nat) (Option.some (Jvm.ClassFile.FieldType.object "java/util/List"))).before args0 about1 = true := code_word (m := ⟨16, 1⟩) (meth := k16m1) (c := k16c1) (by decide +kernel) rfl rfl rfl (by decide +kernel)
set_option maxRecDepth 65536 in
theorem w_c32 : (Jvm.Cond.code ({ cls := "java/util/ImmutableCollections$List12", name := "isEmpty", desc := "()Z" } : Jvm.MethodName) jdk_44_method_4_code (1 : Nat) (Option.some Jvm.ClassFile.FieldType.boolean)).before args0 about1 = true := code_word (m := ⟨26, 1⟩) (meth := k26m1) (c := k26c1) (by decide +kernel) rfl rfl rfl (by decide +kernel)
set_option maxRecDepth 65536 in
theorem w_c33 : (Jvm.Cond.code ({ cls := "java/util/ImmutableCollections$ListN", name := "isEmpty", desc := "()Z" } : Jvm.MethodName) jdk_45_method_2_code (1 : Nat) (Option.some Jvm.ClassFile.FieldType.boolean)).before args0 about1 = true := code_word (m := ⟨27, 0⟩) (meth := k27m0) (c := k27c0) (by decide +kernel) rfl rfl rfl (by decide +kernel)
set_option maxRecDepth 65536 in
theorem w_c34 : (Jvm.Cond.code ({ cls := "org/holdfast/model/EnumerationAndChronology", name := "coded", desc := "(Lorg/holdfast/model/UnitType;Ljava/lang/String;Lorg/holdfast/model/Designation;Lorg/holdfast/model/Designation;)Lorg/holdfast/model/EnumerationAndChronology;" } : Jvm.MethodName) prog_29_method_3_code (4 : Nat) (Option.some (Jvm.ClassFile.FieldType.object "org/holdfast/model/EnumerationAndChronology"))).before args0 about1 = true := code_word (m := ⟨30, 1⟩) (meth := k30m1) (c := k30c1) (by decide +kernel) rfl rfl rfl (by decide +kernel)
set_option maxRecDepth 65536 in
theorem w_c35 : (Jvm.Cond.code ({ cls := "org/holdfast/model/EnumerationAndChronology", name := "<init>", desc := "(Lorg/holdfast/model/UnitType;Ljava/lang/String;Ljava/lang/String;Lorg/holdfast/model/Designation;Lorg/holdfast/model/Designation;)V" } : Jvm.MethodName) prog_29_method_1_code (6 : Nat) (Option.none : Option Jvm.ClassFile.FieldType)).before args0 about1 = true := code_word (m := ⟨30, 0⟩) (meth := k30m0) (c := k30c0) (by decide +kernel) rfl rfl rfl (by decide +kernel)
set_option maxRecDepth 65536 in
theorem w_c36 : (Jvm.Cond.code ({ cls := "org/holdfast/model/EnumerationAndChronology", name := "unitType", desc := "()Lorg/holdfast/model/UnitType;" } : Jvm.MethodName) prog_29_method_7_code (1 : Nat) (Option.some (Jvm.ClassFile.FieldType.object "org/holdfast/model/UnitType"))).before args0 about1 = true := code_word (m := ⟨30, 2⟩) (meth := k30m2) (c := k30c2) (by decide +kernel) rfl rfl rfl (by decide +kernel)
set_option maxRecDepth 65536 in
theorem w_c37 : (Jvm.Cond.code ({ cls := "org/holdfast/model/EnumerationAndChronology", name := "note", desc := "()Ljava/lang/String;" } : Jvm.MethodName) prog_29_method_8_code (1 : Nat) (Option.some (Jvm.ClassFile.FieldType.object "java/lang/String"))).before args0 about1 = true := code_word (m := ⟨30, 3⟩) (meth := k30m3) (c := k30c3) (by decide +kernel) rfl rfl rfl (by decide +kernel)
set_option maxRecDepth 65536 in
theorem w_c38 : (Jvm.Cond.code ({ cls := "org/holdfast/model/EnumerationAndChronology", name := "text", desc := "()Ljava/lang/String;" } : Jvm.MethodName) prog_29_method_9_code (1 : Nat) (Option.some (Jvm.ClassFile.FieldType.object "java/lang/String"))).before args0 about1 = true := code_word (m := ⟨30, 4⟩) (meth := k30m4) (c := k30c4) (by decide +kernel) rfl rfl rfl (by decide +kernel)
set_option maxRecDepth 65536 in
theorem w_c39 : (Jvm.Cond.code ({ cls := "org/holdfast/model/EnumerationAndChronology", name := "designation", desc := "()Lorg/holdfast/model/Designation;" } : Jvm.MethodName) prog_29_method_10_code (1 : Nat) (Option.some (Jvm.ClassFile.FieldType.object "org/holdfast/model/Designation"))).before args0 about1 = true := code_word (m := ⟨30, 5⟩) (meth := k30m5) (c := k30c5) (by decide +kernel) rfl rfl rfl (by decide +kernel)
set_option maxRecDepth 65536 in
theorem w_c40 : (Jvm.Cond.code ({ cls := "org/holdfast/model/EnumerationAndChronology", name := "ending", desc := "()Lorg/holdfast/model/Designation;" } : Jvm.MethodName) prog_29_method_11_code (1 : Nat) (Option.some (Jvm.ClassFile.FieldType.object "org/holdfast/model/Designation"))).before args0 about1 = true := code_word (m := ⟨30, 6⟩) (meth := k30m6) (c := k30c6) (by decide +kernel) rfl rfl rfl (by decide +kernel)
def codes1 : List Jvm.Cond := [Jvm.Cond.code x code maxLocals ret, Jvm.Cond.code ({ cls := "java/lang/String", name := "<init>", desc := "([C)V" } : Jvm.MethodName) jdk_42_method_3_code (2 : Nat) (Option.none : Option Jvm.ClassFile.FieldType), Jvm.Cond.code ({ cls := "java/lang/String", name := "<init>", desc := "([CIILjava/lang/Void;)V" } : Jvm.MethodName) jdk_42_method_149_code (6 : Nat) (Option.none : Option Jvm.ClassFile.FieldType), Jvm.Cond.code ({ cls := "java/lang/Object", name := "<init>", desc := "()V" } : Jvm.MethodName) object_method_1_code (1 : Nat) (Option.none : Option Jvm.ClassFile.FieldType), Jvm.Cond.code ({ cls := "java/lang/StringUTF16", name := "compress", desc := "([CII)[B" } : Jvm.MethodName) jdk_52_method_16_code (6 : Nat) (Option.some (Jvm.ClassFile.FieldType.array Jvm.ClassFile.FieldType.byte)), Jvm.Cond.code ({ cls := "java/lang/StringUTF16", name := "compress", desc := "([CI[BII)I" } : Jvm.MethodName) jdk_52_method_21_code (7 : Nat) (Option.some Jvm.ClassFile.FieldType.int), Jvm.Cond.code ({ cls := "java/lang/StringUTF16", name := "coderFromArrayLen", desc := "([BI)B" } : Jvm.MethodName) jdk_52_method_15_code (2 : Nat) (Option.some Jvm.ClassFile.FieldType.byte), Jvm.Cond.code ({ cls := "org/holdfast/model/Level", name := "<init>", desc := "(ILjava/lang/String;Ljava/lang/String;)V" } : Jvm.MethodName) prog_41_method_1_code (4 : Nat) (Option.none : Option Jvm.ClassFile.FieldType), Jvm.Cond.code ({ cls := "java/lang/Record", name := "<init>", desc := "()V" } : Jvm.MethodName) jdk_30_method_1_code (1 : Nat) (Option.none : Option Jvm.ClassFile.FieldType), Jvm.Cond.code ({ cls := "java/util/Objects", name := "requireNonNull", desc := "(Ljava/lang/Object;Ljava/lang/String;)Ljava/lang/Object;" } : Jvm.MethodName) jdk_31_method_11_code (2 : Nat) (Option.some (Jvm.ClassFile.FieldType.object "java/lang/Object")), Jvm.Cond.code ({ cls := "java/util/ArrayList", name := "<init>", desc := "()V" } : Jvm.MethodName) jdk_38_method_2_code (1 : Nat) (Option.none : Option Jvm.ClassFile.FieldType), Jvm.Cond.code ({ cls := "java/util/AbstractList", name := "<init>", desc := "()V" } : Jvm.MethodName) jdk_39_method_1_code (1 : Nat) (Option.none : Option Jvm.ClassFile.FieldType), Jvm.Cond.code ({ cls := "java/util/AbstractCollection", name := "<init>", desc := "()V" } : Jvm.MethodName) jdk_22_method_1_code (1 : Nat) (Option.none : Option Jvm.ClassFile.FieldType), Jvm.Cond.code ({ cls := "java/util/ArrayList", name := "add", desc := "(Ljava/lang/Object;)Z" } : Jvm.MethodName) jdk_38_method_25_code (2 : Nat) (Option.some Jvm.ClassFile.FieldType.boolean), Jvm.Cond.code ({ cls := "java/util/ArrayList", name := "add", desc := "(Ljava/lang/Object;[Ljava/lang/Object;I)V" } : Jvm.MethodName) jdk_38_method_24_code (4 : Nat) (Option.none : Option Jvm.ClassFile.FieldType), Jvm.Cond.code ({ cls := "java/util/ArrayList", name := "grow", desc := "()[Ljava/lang/Object;" } : Jvm.MethodName) jdk_38_method_7_code (1 : Nat) (Option.some (Jvm.ClassFile.FieldType.array (Jvm.ClassFile.FieldType.object "java/lang/Object"))), Jvm.Cond.code ({ cls := "java/util/ArrayList", name := "grow", desc := "(I)[Ljava/lang/Object;" } : Jvm.MethodName) jdk_38_method_6_code (4 : Nat) (Option.some (Jvm.ClassFile.FieldType.array (Jvm.ClassFile.FieldType.object "java/lang/Object"))), Jvm.Cond.code ({ cls := "java/lang/Math", name := "max", desc := "(II)I" } : Jvm.MethodName) jdk_29_method_65_code (2 : Nat) (Option.some Jvm.ClassFile.FieldType.int), Jvm.Cond.code ({ cls := "org/holdfast/model/Designation", name := "<init>", desc := "(Ljava/util/List;Ljava/util/List;)V" } : Jvm.MethodName) prog_21_method_1_code (3 : Nat) (Option.none : Option Jvm.ClassFile.FieldType), Jvm.Cond.code ({ cls := "java/util/List", name := "copyOf", desc := "(Ljava/util/Collection;)Ljava/util/List;" } : Jvm.MethodName) jdk_40_method_48_code (1 : Nat) (Option.some (Jvm.ClassFile.FieldType.object "java/util/List")), Jvm.Cond.code ({ cls := "java/util/ImmutableCollections", name := "listCopy", desc := "(Ljava/util/Collection;)Ljava/util/List;" } : Jvm.MethodName) jdk_56_method_3_code (2 : Nat) (Option.some (Jvm.ClassFile.FieldType.object "java/util/List")), Jvm.Cond.code ({ cls := "java/util/ArrayList", name := "isEmpty", desc := "()Z" } : Jvm.MethodName) jdk_38_method_9_code (1 : Nat) (Option.some Jvm.ClassFile.FieldType.boolean), Jvm.Cond.code ({ cls := "java/util/ArrayList", name := "toArray", desc := "()[Ljava/lang/Object;" } : Jvm.MethodName) jdk_38_method_16_code (1 : Nat) (Option.some (Jvm.ClassFile.FieldType.array (Jvm.ClassFile.FieldType.object "java/lang/Object"))), Jvm.Cond.code ({ cls := "java/util/Arrays", name := "copyOf", desc := "([Ljava/lang/Object;I)[Ljava/lang/Object;" } : Jvm.MethodName) jdk_65_method_119_code (2 : Nat) (Option.some (Jvm.ClassFile.FieldType.array (Jvm.ClassFile.FieldType.object "java/lang/Object"))), Jvm.Cond.code ({ cls := "java/util/Arrays", name := "copyOf", desc := "([Ljava/lang/Object;ILjava/lang/Class;)[Ljava/lang/Object;" } : Jvm.MethodName) jdk_65_method_120_code (4 : Nat) (Option.some (Jvm.ClassFile.FieldType.array (Jvm.ClassFile.FieldType.object "java/lang/Object"))), Jvm.Cond.code ({ cls := "java/lang/Math", name := "min", desc := "(II)I" } : Jvm.MethodName) jdk_29_method_69_code (2 : Nat) (Option.some Jvm.ClassFile.FieldType.int), Jvm.Cond.code ({ cls := "java/util/List", name := "of", desc := "([Ljava/lang/Object;)Ljava/util/List;" } : Jvm.MethodName) jdk_40_method_47_code (2 : Nat) (Option.some (Jvm.ClassFile.FieldType.object "java/util/List")), Jvm.Cond.code ({ cls := "java/util/ImmutableCollections$List12", name := "<init>", desc := "(Ljava/lang/Object;)V" } : Jvm.MethodName) jdk_44_method_1_code (2 : Nat) (Option.none : Option Jvm.ClassFile.FieldType), Jvm.Cond.code ({ cls := "java/util/ImmutableCollections$AbstractImmutableList", name := "<init>", desc := "()V" } : Jvm.MethodName) jdk_46_method_1_code (1 : Nat) (Option.none : Option Jvm.ClassFile.FieldType), Jvm.Cond.code ({ cls := "java/util/ImmutableCollections$AbstractImmutableCollection", name := "<init>", desc := "()V" } : Jvm.MethodName) jdk_47_method_1_code (1 : Nat) (Option.none : Option Jvm.ClassFile.FieldType), Jvm.Cond.code ({ cls := "java/util/Objects", name := "requireNonNull", desc := "(Ljava/lang/Object;)Ljava/lang/Object;" } : Jvm.MethodName) jdk_31_method_10_code (1 : Nat) (Option.some (Jvm.ClassFile.FieldType.object "java/lang/Object")), Jvm.Cond.code ({ cls := "java/util/List", name := "of", desc := "()Ljava/util/List;" } : Jvm.MethodName) jdk_40_method_36_code (0 : Nat) (Option.some (Jvm.ClassFile.FieldType.object "java/util/List")), Jvm.Cond.code ({ cls := "java/util/ImmutableCollections$List12", name := "isEmpty", desc := "()Z" } : Jvm.MethodName) jdk_44_method_4_code (1 : Nat) (Option.some Jvm.ClassFile.FieldType.boolean), Jvm.Cond.code ({ cls := "java/util/ImmutableCollections$ListN", name := "isEmpty", desc := "()Z" } : Jvm.MethodName) jdk_45_method_2_code (1 : Nat) (Option.some Jvm.ClassFile.FieldType.boolean), Jvm.Cond.code ({ cls := "org/holdfast/model/EnumerationAndChronology", name := "coded", desc := "(Lorg/holdfast/model/UnitType;Ljava/lang/String;Lorg/holdfast/model/Designation;Lorg/holdfast/model/Designation;)Lorg/holdfast/model/EnumerationAndChronology;" } : Jvm.MethodName) prog_29_method_3_code (4 : Nat) (Option.some (Jvm.ClassFile.FieldType.object "org/holdfast/model/EnumerationAndChronology")), Jvm.Cond.code ({ cls := "org/holdfast/model/EnumerationAndChronology", name := "<init>", desc := "(Lorg/holdfast/model/UnitType;Ljava/lang/String;Ljava/lang/String;Lorg/holdfast/model/Designation;Lorg/holdfast/model/Designation;)V" } : Jvm.MethodName) prog_29_method_1_code (6 : Nat) (Option.none : Option Jvm.ClassFile.FieldType), Jvm.Cond.code ({ cls := "org/holdfast/model/EnumerationAndChronology", name := "unitType", desc := "()Lorg/holdfast/model/UnitType;" } : Jvm.MethodName) prog_29_method_7_code (1 : Nat) (Option.some (Jvm.ClassFile.FieldType.object "org/holdfast/model/UnitType")), Jvm.Cond.code ({ cls := "org/holdfast/model/EnumerationAndChronology", name := "note", desc := "()Ljava/lang/String;" } : Jvm.MethodName) prog_29_method_8_code (1 : Nat) (Option.some (Jvm.ClassFile.FieldType.object "java/lang/String")), Jvm.Cond.code ({ cls := "org/holdfast/model/EnumerationAndChronology", name := "text", desc := "()Ljava/lang/String;" } : Jvm.MethodName) prog_29_method_9_code (1 : Nat) (Option.some (Jvm.ClassFile.FieldType.object "java/lang/String")), Jvm.Cond.code ({ cls := "org/holdfast/model/EnumerationAndChronology", name := "designation", desc := "()Lorg/holdfast/model/Designation;" } : Jvm.MethodName) prog_29_method_10_code (1 : Nat) (Option.some (Jvm.ClassFile.FieldType.object "org/holdfast/model/Designation")), Jvm.Cond.code ({ cls := "org/holdfast/model/EnumerationAndChronology", name := "ending", desc := "()Lorg/holdfast/model/Designation;" } : Jvm.MethodName) prog_29_method_11_code (1 : Nat) (Option.some (Jvm.ClassFile.FieldType.object "org/holdfast/model/Designation"))]
set_option maxRecDepth 65536 in
theorem codes_eq : words1.filter isCode = codes1 := rfl
theorem w_codes : ∀ c ∈ words1.filter isCode, c.before args0 about1 = true := by
  rw [codes_eq]
  intro c hc
  simp only [codes1, List.mem_cons, List.not_mem_nil, or_false] at hc
  rcases hc with rfl | rfl | rfl | rfl | rfl | rfl | rfl | rfl | rfl | rfl | rfl | rfl | rfl | rfl | rfl | rfl | rfl | rfl | rfl | rfl | rfl | rfl | rfl | rfl | rfl | rfl | rfl | rfl | rfl | rfl | rfl | rfl | rfl | rfl | rfl | rfl | rfl | rfl | rfl | rfl | rfl
  · exact w_c0
  · exact w_c1
  · exact w_c2
  · exact w_c3
  · exact w_c4
  · exact w_c5
  · exact w_c6
  · exact w_c7
  · exact w_c8
  · exact w_c9
  · exact w_c10
  · exact w_c11
  · exact w_c12
  · exact w_c13
  · exact w_c14
  · exact w_c15
  · exact w_c16
  · exact w_c17
  · exact w_c18
  · exact w_c19
  · exact w_c20
  · exact w_c21
  · exact w_c22
  · exact w_c23
  · exact w_c24
  · exact w_c25
  · exact w_c26
  · exact w_c27
  · exact w_c28
  · exact w_c29
  · exact w_c30
  · exact w_c31
  · exact w_c32
  · exact w_c33
  · exact w_c34
  · exact w_c35
  · exact w_c36
  · exact w_c37
  · exact w_c38
  · exact w_c39
  · exact w_c40
set_option maxRecDepth 65536 in
theorem w_t1 : (words1.take 24).all (fun c => isCode c || c.before args0 about1) = true := by decide +kernel
set_option maxRecDepth 65536 in
theorem w_t2 : ((words1.drop 24).take 24).all (fun c => isCode c || c.before args0 about1) = true := by decide +kernel
set_option maxRecDepth 65536 in
theorem w_t3 : (((words1.drop 24).drop 24).take 24).all (fun c => isCode c || c.before args0 about1) = true := by decide +kernel
set_option maxRecDepth 65536 in
theorem w_t4 : ((((words1.drop 24).drop 24).drop 24).take 24).all (fun c => isCode c || c.before args0 about1) = true := by decide +kernel
set_option maxRecDepth 65536 in
theorem w_t5 : (((((words1.drop 24).drop 24).drop 24).drop 24).take 24).all (fun c => isCode c || c.before args0 about1) = true := by decide +kernel
set_option maxRecDepth 65536 in
theorem w_t6 : ((((((words1.drop 24).drop 24).drop 24).drop 24).drop 24).take 24).all (fun c => isCode c || c.before args0 about1) = true := by decide +kernel
set_option maxRecDepth 65536 in
theorem w_t7 : (((((((words1.drop 24).drop 24).drop 24).drop 24).drop 24).drop 24).take 24).all (fun c => isCode c || c.before args0 about1) = true := by decide +kernel
set_option maxRecDepth 65536 in
theorem w_t8 : ((((((((words1.drop 24).drop 24).drop 24).drop 24).drop 24).drop 24).drop 24).take 24).all (fun c => isCode c || c.before args0 about1) = true := by decide +kernel
set_option maxRecDepth 65536 in
theorem w_t9 : (((((((((words1.drop 24).drop 24).drop 24).drop 24).drop 24).drop 24).drop 24).drop 24).take 24).all (fun c => isCode c || c.before args0 about1) = true := by decide +kernel
set_option maxRecDepth 65536 in
theorem w_t10 : ((((((((((words1.drop 24).drop 24).drop 24).drop 24).drop 24).drop 24).drop 24).drop 24).drop 24).take 24).all (fun c => isCode c || c.before args0 about1) = true := by decide +kernel
set_option maxRecDepth 65536 in
theorem w_t11 : (((((((((((words1.drop 24).drop 24).drop 24).drop 24).drop 24).drop 24).drop 24).drop 24).drop 24).drop 24).take 24).all (fun c => isCode c || c.before args0 about1) = true := by decide +kernel
set_option maxRecDepth 65536 in
theorem w_t12 : (((((((((((words1.drop 24).drop 24).drop 24).drop 24).drop 24).drop 24).drop 24).drop 24).drop 24).drop 24).drop 24).all (fun c => isCode c || c.before args0 about1) = true := by decide +kernel
theorem w_tables : (allAtoms (Jvm.Cond.code x code maxLocals ret :: tables_1)).before args0 about1 = true := by
  rw [allAtoms_all]
  show words1.all (fun c => c.before args0 about1) = true
  refine all_split ?_ w_codes
  rw [← List.take_append_drop 24 words1, List.all_append, w_t1, ← List.take_append_drop 24 (words1.drop 24), List.all_append, w_t2, ← List.take_append_drop 24 ((words1.drop 24).drop 24), List.all_append, w_t3, ← List.take_append_drop 24 (((words1.drop 24).drop 24).drop 24), List.all_append, w_t4, ← List.take_append_drop 24 ((((words1.drop 24).drop 24).drop 24).drop 24), List.all_append, w_t5, ← List.take_append_drop 24 (((((words1.drop 24).drop 24).drop 24).drop 24).drop 24), List.all_append, w_t6, ← List.take_append_drop 24 ((((((words1.drop 24).drop 24).drop 24).drop 24).drop 24).drop 24), List.all_append, w_t7, ← List.take_append_drop 24 (((((((words1.drop 24).drop 24).drop 24).drop 24).drop 24).drop 24).drop 24), List.all_append, w_t8, ← List.take_append_drop 24 ((((((((words1.drop 24).drop 24).drop 24).drop 24).drop 24).drop 24).drop 24).drop 24), List.all_append, w_t9, ← List.take_append_drop 24 (((((((((words1.drop 24).drop 24).drop 24).drop 24).drop 24).drop 24).drop 24).drop 24).drop 24), List.all_append, w_t10, ← List.take_append_drop 24 ((((((((((words1.drop 24).drop 24).drop 24).drop 24).drop 24).drop 24).drop 24).drop 24).drop 24).drop 24), List.all_append, w_t11, w_t12]
  rfl
set_option maxRecDepth 65536 in
theorem w_rest : rest_1_c.before args0 about1 = true := by decide +kernel
set_option maxRecDepth 65536 in
theorem w_case : (Jvm.Cond.and given_1 narrow_1).before args0 about1 = true := by decide +kernel
theorem w_applies : (headSpec (Jvm.Cond.code x code maxLocals ret :: tables_1) room_1).applies x e0.platform about1 = true :=
  (Spec.applies_iff w_frames).mpr ⟨w_running, w_runnable, w_alone, w_named, w_hears, w_ripe, w_room, w_tables⟩
theorem atStart : AtStart classFile x code maxLocals ret World_1 tables_1 room_1 Calls_1 rest_1 Pre_1 launch0 p0 e0 about1 theMethod args0 below0 :=
  ⟨lists_1, trivial, launch0.admits_env _ _ _, launch0.least_env, fairChoices_fair.cas, fairChoices_fair.clock, w_frames, w_args, w_heap, w_applies, ⟨⟨41, k41, 4, by decide +kernel, rfl, rfl, _, rfl, rfl⟩, trivial⟩, w_rest, w_case⟩
end start1
theorem witness_1 : WitnessClaimed_1 := ⟨start1.p0, start1.e0, start1.about1, start1.theMethod, start1.args0, start1.below0, start1.atStart⟩
end Jvm.Pilot.@@N@@
