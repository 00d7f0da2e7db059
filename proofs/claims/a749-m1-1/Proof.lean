import JvmDerived
import JvmDerived.Pilot.@@N@@Statement
import JvmDerived.Pilot.@@N@@Code
set_option linter.unusedVariables false
set_option linter.unusedSimpArgs false
set_option maxRecDepth 65536
set_option maxHeartbeats 40000000
namespace Jvm.Ow
open Jvm Jvm.ClassFile Sem Op Lib Jvm.Free Jvm.Stand Jvm.LawKit Jvm.RoadKit Bundle
theorem ltA {a b : Nat} (h : a < b) : a < b := h
theorem leA {a b : Nat} (h : a ≤ b) : a ≤ b := h
theorem neA {a b : Nat} (h : a ≠ b) : a ≠ b := h
abbrev vI (x : Int32) : Slot := .val (.int x)
abbrev vR (a : Addr) : Slot := .val (.ref a)
theorem mroom {x W : Nat} {rest : List Value} (hx : x = 0) (h : (rest.map fun v => v.category).sum = W) : 2 * x + (rest.map fun v => v.category).sum ≤ W := by subst hx; omega
theorem sz {n k x : Nat} (h : x = k) (q : n = k) : n = x := q.trans h.symm
section Base
variable {p : Program} {l : Launch} {e : Env} {R : Room} {s : State} {m : MethodId} {args : Array Value} {below : List Frame} {meth : Method} {c : Code} {own : String} {Z : State} {a0 : Array Value} {EL : List (String × Nat)} {h0 : Heap} {T : State} {h h' : Heap} {vm vm' : Vm} {cells slots : Nat} {P : Outcome → State → Prop} {g : JFrame}
/-- from t the invocation comes to an end at which P holds -/
def Gets (p : Program) (e : Env) (below : List Frame) (P : Outcome → State → Prop) (t : State) : Prop := ∃ u o, Steps p.tables e below t u ∧ u.status = .running ∧ Ended u below o ∧ P o u
theorem Gets.via {t t' : State} (h : ∀ u, Steps p.tables e below t' u → Steps p.tables e below t u) (k : Gets p e below P t') : Gets p e below P t := by
  obtain ⟨u, o, h1, h2⟩ := k
  exact ⟨u, o, h _ h1, h2⟩
theorem Gets.steps {t t' : State} (h : Steps p.tables e below t t') (k : Gets p e below P t') : Gets p e below P t := k.via fun _ q => h.trans q
/-- where a walk stands: over the start with the tables at hand; what it may have interned; what the literals hold; nothing of the law's start written -/
def Wk (p : Program) (l : Launch) (e : Env) (R : Room) (s : State) (m : MethodId) (args : Array Value) (below : List Frame) (meth : Method) (c : Code) (own : String) (Z : State) (a0 : Array Value) (EL : List (String × Nat)) (h0 : Heap) (T : State) (h : Heap) (vm : Vm) (cells slots : Nat) : Prop :=
  ∃ (locs : List Loc) (k : Nat), Stand p l e R (s.setVm vm) m args below meth c T locs cells slots ∧ T.heap = h ∧ s.Since vm k ∧ k ≤ h.size ∧ Z.Warmed39 vm ∧ vm.findClass own = some m.cls ∧ CHr Z EL s.vm h0 vm h ∧ Fr Z.heap.size locs ∧ Old Z Z.heap.size h ∧ p.tables.exec = Jvm.exec ∧ EW Z a0 EL ∧ s.heap = h0 ∧ meth.locks = false
/-- what an invocation leaves -/
def Out (s : State) (Z : State) (EL : List (String × Nat)) (rm : Room) (Q : Option Value → Vm → Heap → Prop) (o : Outcome) (u : State) : Prop :=
  ∃ (v : Option Value) (L : List Loc), o = .returned v ∧ (Q v u.vm u.heap ∧ Fr Z.heap.size L ∧ Old Z Z.heap.size u.heap) ∧ CHr Z EL s.vm s.heap u.vm u.heap ∧ ReturnedEndW s o u L rm.cells rm.slots
/-- a contract -/
def Met (l : Launch) (Z : State) (EL : List (String × Nat)) (y : MethodName) (bytes : ByteArray) (maxL : Nat) (ret : Option FieldType) (ws : List Jvm.Cond) (rm : Room) (sf : List Addr) (as : Array Value) (h : Heap) (Q : Option Value → Vm → Heap → Prop) : Prop :=
  MetFree l y (head1 (Jvm.Cond.code y bytes maxL ret :: ws) rm) (fun a U => a = as ∧ Z.Warmed39 U.vm ∧ U.heap = h ∧ CHv Z EL U.vm h ∧ ∀ x ∈ sf, Safe Z EL U.vm h x) (fun _ _ _ _ _ => True) (fun _ U o U' => Out U Z EL rm Q o U')
theorem Met.start {y : MethodName} {bytes : ByteArray} {maxL : Nat} {ret : Option FieldType} {ws : List Jvm.Cond} {rm : Room} {sf : List Addr} {as : Array Value} {Q : Option Value → Vm → Heap → Prop} (hp : plainFor y = true) (hEL : EW Z a0 EL) (hO : Old Z Z.heap.size h) {Ls : Array Slot} (hent : ∀ m, entryFrame m as maxL = mkF m 0 Ls [])
    (body : ∀ p e s m below meth c T vm, Wk p l e rm s m as below meth c y.cls Z a0 EL h T h vm 0 0 → (∀ x ∈ sf, Safe Z EL vm h x) → c.code = bytes → c.maxLocals = maxL → meth.sig.returnType = ret → meth.name = y.name → Gets p e below (Out s Z EL rm Q) (T.setTop (mkF m 0 Ls []))) :
    Met l Z EL y bytes maxL ret ws rm sf as h Q := by
  refine MetFree.of_bodySF hp hisR ?_
  intro p e s m args below meth c s₁ Bd hml0 hP hK
  obtain ⟨rfl, hZ, hh, hC, hsf⟩ := hP
  have e0 : s₁.heap = h := by rw [← hh, Bd.state]; rfl
  have X0 : Stand p l e rm s m args below meth c s₁ [] 0 0 := Stand.of_body Bd
  have hown : s.vm.findClass y.cls = some m.cls := findClass_of_methodNamed Bd.named
  have W0 : Wk p l e rm s m args below meth c y.cls Z a0 EL h s₁ h s.vm 0 0 :=
    ⟨[], 0, X0, e0, ⟨State.Warmed39.refl s, fun j q hj hq => absurd (Array.getElem?_eq_some_iff.mp hq).1 (Nat.not_lt.mpr hj)⟩, Nat.zero_le _, hZ, hown, CHr.refl hC, Fr.nil _, hO, Bd.exec, hEL, hh, Bd.notSynchronized⟩
  have k := body p e s m below meth c s₁ s.vm W0 hsf Bd.bytes hml0 Bd.returns (name_of_methodNamed Bd.named Bd.method).1
  obtain ⟨u, o, h1, h2, h3, h4⟩ := k
  exact ⟨u, o, castTop (hent m) h1, h2, h3, h4⟩
theorem Wk.at (X : Wk p l e R s m args below meth c own Z a0 EL h0 T h vm cells slots) : At T m c below := by obtain ⟨_, _, X, -⟩ := X; exact X.here
theorem Wk.hx (X : Wk p l e R s m args below meth c own Z a0 EL h0 T h vm cells slots) : p.tables.exec = Jvm.exec := by obtain ⟨_, _, -, -, -, -, -, -, -, -, -, q, -⟩ := X; exact q
theorem Wk.hZ (X : Wk p l e R s m args below meth c own Z a0 EL h0 T h vm cells slots) : Z.Warmed39 vm := by obtain ⟨_, _, -, -, -, -, q, -⟩ := X; exact q
theorem Wk.eT (X : Wk p l e R s m args below meth c own Z a0 EL h0 T h vm cells slots) : T.heap = h := by obtain ⟨_, _, -, q, -⟩ := X; exact q
theorem Wk.old (X : Wk p l e R s m args below meth c own Z a0 EL h0 T h vm cells slots) : Old Z Z.heap.size h := by obtain ⟨_, _, -, -, -, -, -, -, -, -, q, -⟩ := X; exact q
theorem Wk.chv (X : Wk p l e R s m args below meth c own Z a0 EL h0 T h vm cells slots) : CHv Z EL vm h := by obtain ⟨_, _, -, -, -, -, -, -, q, -⟩ := X; exact q.1
theorem Wk.ew (X : Wk p l e R s m args below meth c own Z a0 EL h0 T h vm cells slots) : EW Z a0 EL := by obtain ⟨_, _, -, -, -, -, -, -, -, -, -, -, q, -⟩ := X; exact q
theorem Wk.ge (X : Wk p l e R s m args below meth c own Z a0 EL h0 T h vm cells slots) : Z.heap.size ≤ h.size := X.old.2.1
theorem Wk.sta (X : Wk p l e R s m args below meth c own Z a0 EL h0 T h vm cells slots) {C n d : String} {v : Value} (F : Sta Z Z.heap C n d v) : Sta Z h C n d v := F.ext X.old.2
theorem Wk.more (X : Wk p l e R s m args below meth c own Z a0 EL h0 T h vm cells slots) {cells' slots' : Nat} (q1 : cells ≤ cells') (q2 : slots ≤ slots') : Wk p l e R s m args below meth c own Z a0 EL h0 T h vm cells' slots' := by
  obtain ⟨locs, k, Y, r⟩ := X; exact ⟨locs, k, Y.mono q1 q2, r⟩
/-- a step that leaves heap and base -/
theorem Wk.still (X : Wk p l e R s m args below meth c own Z a0 EL h0 T h vm cells slots) {T' : State} (hY : ∀ locs, Stand p l e R (s.setVm vm) m args below meth c T locs cells slots → Stand p l e R (s.setVm vm) m args below meth c T' locs cells slots) (hT : T'.heap = h) : Wk p l e R s m args below meth c own Z a0 EL h0 T' h vm cells slots := by
  obtain ⟨locs, k, Y, -, r⟩ := X; exact ⟨locs, k, hY _ Y, hT, r⟩
theorem Wk.getF (X : Wk p l e R s m args below meth c own Z a0 EL h0 T h vm cells slots) {R0 O n d host : String} {index : Nat} (w : (Jvm.Cond.fieldLink own index R0 n d).before a0 Z = true ∨ (Jvm.Cond.fieldLinkNest own index R0 n d host).before a0 Z = true) (via : Via Z R0 O n d) {a : Addr} {v : Value} (F : Fld Z h a O n d v)
    (hg : g.method = m) {rest : List Value} (hs : g.stack = .ref a :: rest) (hd : decode c.code g.pc = .ok (.getfield index, 3))
    (k : ∀ T', Wk p l e R s m args below meth c own Z a0 EL h0 T' h vm cells slots → Gets p e below P (T'.setTop { g with pc := g.pc + 3, stack := v :: rest })) : Gets p e below P (T.setTop g) := by
  obtain ⟨locs, j, Y, eT, hS, hk, hZ, hown, hC, N, hO, hx, r⟩ := X
  obtain ⟨T', Y', e', st⟩ := RoadKit.getF Y hx hZ hown w via eT F hg hs hd
  exact (k T' ⟨locs, j, Y', e', hS, hk, hZ, hown, hC, N, hO, hx, r⟩).via st
theorem Wk.getS (X : Wk p l e R s m args below meth c own Z a0 EL h0 T h vm cells slots) {R0 O n d host : String} {index : Nat} (w : (Jvm.Cond.fieldLink own index R0 n d).before a0 Z = true ∨ (Jvm.Cond.fieldLinkNest own index R0 n d host).before a0 Z = true) (via : Via Z R0 O n d) {v : Value} (F : Sta Z h O n d v)
    (hg : g.method = m) (hd : decode c.code g.pc = .ok (.getstatic index, 3))
    (k : ∀ T', Wk p l e R s m args below meth c own Z a0 EL h0 T' h vm cells slots → Gets p e below P (T'.setTop { g with pc := g.pc + 3, stack := v :: g.stack })) : Gets p e below P (T.setTop g) := by
  obtain ⟨locs, j, Y, eT, hS, hk, hZ, hown, hC, N, hO, hx, r⟩ := X
  obtain ⟨T', Y', e', st⟩ := RoadKit.getS2 Y hx hZ hown w via eT F hg hd
  exact (k T' ⟨locs, j, Y', e', hS, hk, hZ, hown, hC, N, hO, hx, r⟩).via st
theorem Wk.cast (X : Wk p l e R s m args below meth c own Z a0 EL h0 T h vm cells slots) {K : String} {index : Nat} (w : (Jvm.Cond.classLink own index K).before a0 Z = true) {a : Addr} (F : Ins Z h a K true)
    (hg : g.method = m) {rest : List Value} (hs : g.stack = .ref a :: rest) (hd : decode c.code g.pc = .ok (.checkcast index, 3))
    (k : ∀ T', Wk p l e R s m args below meth c own Z a0 EL h0 T' h vm cells slots → Gets p e below P (T'.setTop { g with pc := g.pc + 3 })) : Gets p e below P (T.setTop g) := by
  obtain ⟨locs, j, Y, eT, hS, hk, hZ, hown, hC, N, hO, hx, r⟩ := X
  obtain ⟨T', Y', e', st⟩ := RoadKit.castY Y hx hZ hown w eT F hg hs hd
  exact (k T' ⟨locs, j, Y', e', hS, hk, hZ, hown, hC, N, hO, hx, r⟩).via st
theorem Wk.inst (X : Wk p l e R s m args below meth c own Z a0 EL h0 T h vm cells slots) {K : String} {index : Nat} (w : (Jvm.Cond.classLink own index K).before a0 Z = true) {a : Addr} (F : Ins Z h a K true)
    (hg : g.method = m) {rest : List Value} (hs : g.stack = .ref a :: rest) (hd : decode c.code g.pc = .ok (.instanceof index, 3))
    (k : ∀ T', Wk p l e R s m args below meth c own Z a0 EL h0 T' h vm cells slots → Gets p e below P (T'.setTop { g with pc := g.pc + 3, stack := .int 1 :: rest })) : Gets p e below P (T.setTop g) := by
  obtain ⟨locs, j, Y, eT, hS, hk, hZ, hown, hC, N, hO, hx, r⟩ := X
  obtain ⟨T', Y', e', st⟩ := RoadKit.instY Y hx hZ hown w eT F hg hs hd
  exact (k T' ⟨locs, j, Y', e', hS, hk, hZ, hown, hC, N, hO, hx, r⟩).via st
theorem Wk.objInit (X : Wk p l e R s m args below meth c own Z a0 EL h0 T h vm cells slots) {idx : Nat} (w1 : (Jvm.Cond.methodLink own idx Lib.objectInit).before a0 Z = true) (w2 : (Jvm.Cond.instanceMethod Lib.objectInit).before a0 Z = true) (w3 : (Jvm.Cond.code Lib.objectInit ⟨#[0xb1]⟩ 1 none).before a0 Z = true)
    (hg : g.method = m) (hsize : g.locals.size = c.maxLocals) {a : Addr} {rest : List Value} (hs : g.stack = .ref a :: rest) (hd : decode c.code g.pc = .ok (.invokespecial idx, 3)) (hf : 1 ≤ R.frames) {W : Nat} (hW : 2 * g.monitorRoom + (rest.map fun v => v.category).sum ≤ W) (hl : W + 12 ≤ R.locals)
    (k : ∀ T', Wk p l e R s m args below meth c own Z a0 EL h0 T' h vm cells slots → Gets p e below P (T'.setTop { g with pc := g.pc + 3, stack := rest })) : Gets p e below P (T.setTop g) := by
  obtain ⟨locs, j, Y, eT, hS, hk, hZ, hown, hC, N, hO, hx, r⟩ := X
  obtain ⟨T', Y', e', st⟩ := RoadKit.initO Y hx hZ hown w1 w2 w3 eT hg hsize hs hd hf hW hl
  exact (k T' ⟨locs, j, Y', e', hS, hk, hZ, hown, hC, N, hO, hx, r⟩).via st
theorem Wk.new (X : Wk p l e R s m args below meth c own Z a0 EL h0 T h vm cells slots) {C : String} {index n : Nat} (w : (Jvm.Cond.classLink own index C).before a0 Z = true) (wi : (Jvm.Cond.instantiable C n).before a0 Z = true) (wz : (Jvm.Cond.initialized C).before a0 Z = true)
    (hg : g.method = m) (hd : decode c.code g.pc = .ok (.new index, 3)) (hc : cells + 1 ≤ R.cells) (hl : slots + n ≤ R.slots)
    (k : ∀ T' h' a, Wk p l e R s m args below meth c own Z a0 EL h0 T' h' vm (cells + 1) (slots + n) → CHr Z EL vm h vm h' → Ext h h' → a = h.size → Exa Z h' a C → Safe Z EL vm h' a → (∀ {O nm d : String} {ty : FieldType}, Laid Z a0 C O nm d → parseFieldDescriptor d = some ty → Fld Z h' a O nm d (defaultValue ty)) → Gets p e below P (T'.setTop { g with pc := g.pc + 3, stack := .ref a :: g.stack })) : Gets p e below P (T.setTop g) := by
  obtain ⟨locs, j, Y, eT, hS, hk, hZ, hown, hC, N, hO, hx, r⟩ := X
  obtain ⟨T', h', Y', e', E, A, D, -, st⟩ := RoadKit.newO Y hx hZ hown w wi wz eT hg hd hc hl
  have C1 : CHr Z EL vm h vm h' := CHr.ext E hC.1
  exact (k T' h' h.size ⟨locs, j, Y', e', hS, Nat.le_trans hk E.1, hZ, hown, hC.trans C1, N, hO.ext E, hx, r⟩ C1 E rfl A (Safe.ext E hC.1 (Safe.new (Nat.le_refl _))) D).via st
theorem Wk.newA (X : Wk p l e R s m args below meth c own Z a0 EL h0 T h vm cells slots) {aty : ArrayType} (w : (Jvm.Cond.arrayClass (newarray.typeOf aty)).before a0 Z = true) (hg : g.method = m) (hd : decode c.code g.pc = .ok (.newarray aty, 2)) {n : Int32} {rest : List Value} (hs : g.stack = .int n :: rest)
    (hn : ¬ n < 0) {cap : Nat} (hcap : n.toNatClampNeg ≤ cap) (hb : cap * 8 ≤ 536870912) (hc : cells + 1 ≤ R.cells) (hl : slots + cap ≤ R.slots)
    (k : ∀ T' h' a kc, Wk p l e R s m args below meth c own Z a0 EL h0 T' h' vm (cells + 1) (slots + cap) → CHr Z EL vm h vm h' → Ext h h' → a = h.size → Safe Z EL vm h' a → Arv Z h' a kc (newarray.typeOf aty) n [] (defaultValue (newarray.typeOf aty)) → Gets p e below P (T'.setTop { g with pc := g.pc + 2, stack := .ref a :: rest })) : Gets p e below P (T.setTop g) := by
  obtain ⟨locs, j, Y, eT, hS, hk, hZ, hown, hC, N, hO, hx, r⟩ := X
  obtain ⟨T', h', kc, Y', e', E, A, st⟩ := RoadKit.newP Y hx hZ w eT hg hd hs hn hcap hb hc hl
  have C1 : CHr Z EL vm h vm h' := CHr.ext E hC.1
  exact (k T' h' h.size kc ⟨locs, j, Y', e', hS, Nat.le_trans hk E.1, hZ, hown, hC.trans C1, N, hO.ext E, hx, r⟩ C1 E rfl (Safe.ext E hC.1 (Safe.new (Nat.le_refl _))) (Arv.new A hn)).via st
theorem Wk.putF (X : Wk p l e R s m args below meth c own Z a0 EL h0 T h vm cells slots) {R0 O n d host C : String} {index kk : Nat} {ty : FieldType} (w : (Jvm.Cond.fieldLink own index R0 n d).before a0 Z = true ∨ (Jvm.Cond.fieldLinkNest own index R0 n d host).before a0 Z = true) (via : Via Z R0 O n d)
    {a : Addr} {v old : Value} (F : Fld Z h a O n d old) (E : Exa Z h a C) (L : (Jvm.Cond.lays C O n d).before a0 Z = true ∨ ((Jvm.Cond.laysFinal C O n d).before a0 Z = true ∧ own = O ∧ meth.name = "<init>")) (wi : (Jvm.Cond.instantiable C kk).before a0 Z = true)
    (hty : parseFieldDescriptor d = some ty) (hn : narrow ty v = v) (hf : fits ty v = true) (hge : Z.heap.size ≤ a) (S : Safe Z EL vm h a) (hg : g.method = m) {rest : List Value} (hs : g.stack = v :: .ref a :: rest) (hd : decode c.code g.pc = .ok (.putfield index, 3))
    (k : ∀ T' h', Wk p l e R s m args below meth c own Z a0 EL h0 T' h' vm cells slots → CHr Z EL vm h vm h' → Wr h h' a (RoadKit.slotOf Z O n d) v → Fld Z h' a O n d v → Exa Z h' a C → Gets p e below P (T'.setTop { g with pc := g.pc + 3, stack := rest })) : Gets p e below P (T.setTop g) := by
  obtain ⟨locs, j, Y, eT, hS, hk, hZ, hown, hC, N, hO, hx, r⟩ := X
  obtain ⟨T', h', Y', e', W, st⟩ := RoadKit.putF Y hx hZ hown w via eT F E L wi hty hn hf hg hs hd
  have C1 : CHr Z EL vm h vm h' := CHr.wr W S hC.1
  exact (k T' h' ⟨_, j, Y', e', hS, Nat.le_trans hk (Nat.le_of_eq W.size.symm), hZ, hown, hC.trans C1, Fr.snoc Y' N hge, hO.wr W hge, hx, r⟩ C1 W (F.same W) (E.wr W)).via st
theorem padN {k : ClassId} {ty : FieldType} {z : Int32} {d : Value} {a : Addr} (F : Arv Z h a k ty z [] d) (n : Nat) : Arv Z h a k ty z (List.replicate n d) d := F.pad fun i => by
  rw [List.getD_eq_getElem?_getD, List.getElem?_replicate]; split <;> simp
theorem Wk.stC (X : Wk p l e R s m args below meth c own Z a0 EL h0 T h vm cells slots) {a : Addr} {kc : ClassId} {n : Int32} {vs : List Value} {dv : Value} (A : Arv Z h a kc .char n vs dv) {j x : Int32} {i : Nat} (hj0 : ¬ j < 0) (hj : j.toNatClampNeg = i) (hi : i < vs.length) (hin : i < n.toNatClampNeg) {v : Int32} (hv : nar .char x = v)
    (hge : Z.heap.size ≤ a) (hg : g.method = m) {rest : List Value} (hs : g.stack = .int x :: .int j :: .ref a :: rest) (hd : decode c.code g.pc = .ok (.castore, 1))
    (k : ∀ T' h', Wk p l e R s m args below meth c own Z a0 EL h0 T' h' vm cells slots → CHr Z EL vm h vm h' → Keep h h' [a] → Arv Z h' a kc .char n (vs.set i (.int v)) dv → Gets p e below P (T'.setTop { g with pc := g.pc + 1, stack := rest })) : Gets p e below P (T.setTop g) := by
  obtain ⟨locs, j', Y, eT, hS, hk, hZ, hown, hC, N, hO, hx, r⟩ := X
  obtain ⟨cl, A1, A2, A3, A4, A5, A6⟩ := A
  obtain ⟨T', h', Y', e', W, st⟩ := RoadKit.stC Y hx hZ eT A1 (j := j) (x := x) (fun q => q.elim hj0 (fun q => by rw [A3, hj] at q; omega)) hg hs hd
  have C1 : CHr Z EL vm h vm h' := CHr.wr W (Safe.arr hZ.alike A1 (by decide)) hC.1
  subst hv
  exact (k T' h' ⟨_, j', Y', e', hS, Nat.le_trans hk (Nat.le_of_eq W.size.symm), hZ, hown, hC.trans C1, Fr.snoc Y' N hge, hO.wr W hge, hx, r⟩ C1 (Keep.of_wr W) (Arv.set A1 A2 A3 A4 A5 A6 (fits_nar_char x) W i hj hi)).via st
theorem Wk.stB (X : Wk p l e R s m args below meth c own Z a0 EL h0 T h vm cells slots) {a : Addr} {kc : ClassId} {n : Int32} {vs : List Value} {dv : Value} (A : Arv Z h a kc .byte n vs dv) {j x : Int32} {i : Nat} (hj0 : ¬ j < 0) (hj : j.toNatClampNeg = i) (hi : i < vs.length) (hin : i < n.toNatClampNeg) {v : Int32} (hv : nar .byte x = v) (S : Safe Z EL vm h a)
    (hge : Z.heap.size ≤ a) (hg : g.method = m) {rest : List Value} (hs : g.stack = .int x :: .int j :: .ref a :: rest) (hd : decode c.code g.pc = .ok (.bastore, 1))
    (k : ∀ T' h', Wk p l e R s m args below meth c own Z a0 EL h0 T' h' vm cells slots → CHr Z EL vm h vm h' → Keep h h' [a] → Arv Z h' a kc .byte n (vs.set i (.int v)) dv → Gets p e below P (T'.setTop { g with pc := g.pc + 1, stack := rest })) : Gets p e below P (T.setTop g) := by
  obtain ⟨locs, j', Y, eT, hS, hk, hZ, hown, hC, N, hO, hx, r⟩ := X
  obtain ⟨cl, A1, A2, A3, A4, A5, A6⟩ := A
  obtain ⟨T', h', Y', e', W, st⟩ := RoadKit.stB Y hx hZ eT A1 (j := j) (x := x) (fun q => q.elim hj0 (fun q => by rw [A3, hj] at q; omega)) hg hs hd
  have C1 : CHr Z EL vm h vm h' := CHr.wr W S hC.1
  subst hv
  exact (k T' h' ⟨_, j', Y', e', hS, Nat.le_trans hk (Nat.le_of_eq W.size.symm), hZ, hown, hC.trans C1, Fr.snoc Y' N hge, hO.wr W hge, hx, r⟩ C1 (Keep.of_wr W) (Arv.set A1 A2 A3 A4 A5 A6 (fits_nar_byte x) W i hj hi)).via st
theorem Wk.alen (X : Wk p l e R s m args below meth c own Z a0 EL h0 T h vm cells slots) {a : Addr} {kc : ClassId} {ty : FieldType} {n : Int32} {vs : List Value} {dv : Value} (A : Arv Z h a kc ty n vs dv)
    (hg : g.method = m) {rest : List Value} (hs : g.stack = .ref a :: rest) (hd : decode c.code g.pc = .ok (.arraylength, 1))
    (k : Gets p e below P (T.setTop { g with pc := g.pc + 1, stack := .int n :: rest })) : Gets p e below P (T.setTop g) := by
  obtain ⟨locs, j', Y, eT, hS, hk, hZ, hown, hC, N, hO, hx, r⟩ := X
  obtain ⟨cl, A1, A2, A3, A4, A5, A6⟩ := A
  refine k.via fun u q => ?_
  refine Y.arraylength hx (by rw [eT]; exact A1.1) (State.isArrayOf_alike hZ.alike A1.2.1) hg hs hd _ ?_
  rw [A3, (back32 A4).1]; exact q
theorem Wk.ldC (X : Wk p l e R s m args below meth c own Z a0 EL h0 T h vm cells slots) {a : Addr} {kc : ClassId} {n : Int32} {vs : List Value} {dv v : Value} (A : Arv Z h a kc .char n vs dv) {j : Int32} {i : Nat} (hj0 : ¬ j < 0) (hj : j.toNatClampNeg = i) (hin : i < n.toNatClampNeg) (hv : vs.getD i dv = v)
    (hg : g.method = m) {rest : List Value} (hs : g.stack = .int j :: .ref a :: rest) (hd : decode c.code g.pc = .ok (.caload, 1))
    (k : Gets p e below P (T.setTop { g with pc := g.pc + 1, stack := v :: rest })) : Gets p e below P (T.setTop g) := by
  obtain ⟨locs, j', Y, eT, hS, hk, hZ, hown, hC, N, hO, hx, r⟩ := X
  obtain ⟨cl, A1, A2, A3, A4, A5, A6⟩ := A
  refine k.via fun u q => ?_
  exact Y.caload hx (j := j) (v := v) (by rw [eT]; exact A1.1) (State.isArrayOf_alike hZ.alike A1.2.1) A1.2.2 (fun q => q.elim hj0 (fun q => by rw [A3, hj] at q; omega)) (by rw [hj, A5 i (by rw [A3]; exact hin), hv]) hg hs hd _ q
theorem Wk.ldB (X : Wk p l e R s m args below meth c own Z a0 EL h0 T h vm cells slots) {a : Addr} {kc : ClassId} {n : Int32} {vs : List Value} {dv v : Value} (A : Arv Z h a kc .byte n vs dv) {j : Int32} {i : Nat} (hj0 : ¬ j < 0) (hj : j.toNatClampNeg = i) (hin : i < n.toNatClampNeg) (hv : vs.getD i dv = v)
    (hg : g.method = m) {rest : List Value} (hs : g.stack = .int j :: .ref a :: rest) (hd : decode c.code g.pc = .ok (.baload, 1))
    (k : Gets p e below P (T.setTop { g with pc := g.pc + 1, stack := v :: rest })) : Gets p e below P (T.setTop g) := by
  obtain ⟨locs, j', Y, eT, hS, hk, hZ, hown, hC, N, hO, hx, r⟩ := X
  obtain ⟨cl, A1, A2, A3, A4, A5, A6⟩ := A
  refine k.via fun u q => ?_
  exact Y.baloadBytes hx (j := j) (v := v) (by rw [eT]; exact A1.1) (State.isArrayOf_alike hZ.alike A1.2.1) A1.2.2 (fun q => q.elim hj0 (fun q => by rw [A3, hj] at q; omega)) (by rw [hj, A5 i (by rw [A3]; exact hin), hv]) hg hs hd _ q
theorem Wk.ldR (X : Wk p l e R s m args below meth c own Z a0 EL h0 T h vm cells slots) {a : Addr} {kc : ClassId} {ty : FieldType} {n : Int32} {vs : List Value} {dv v : Value} (A : Arv Z h a kc ty n vs dv) (hty : ty.isReference = true) {j : Int32} {i : Nat} (hj0 : ¬ j < 0) (hj : j.toNatClampNeg = i) (hin : i < n.toNatClampNeg) (hv : vs.getD i dv = v)
    (hg : g.method = m) {rest : List Value} (hs : g.stack = .int j :: .ref a :: rest) (hd : decode c.code g.pc = .ok (.aaload, 1))
    (k : Gets p e below P (T.setTop { g with pc := g.pc + 1, stack := v :: rest })) : Gets p e below P (T.setTop g) := by
  obtain ⟨locs, j', Y, eT, hS, hk, hZ, hown, hC, N, hO, hx, r⟩ := X
  obtain ⟨cl, A1, A2, A3, A4, A5, A6⟩ := A
  refine k.via fun u q => ?_
  exact Y.aaload hx (j := j) (v := v) (by rw [eT]; exact A1.1) (State.isArrayOf_alike hZ.alike A1.2.1) hty A1.2.2 (fun q => q.elim hj0 (fun q => by rw [A3, hj] at q; omega)) (by rw [hj, A5 i (by rw [A3]; exact hin), hv]) hg hs hd _ q
theorem Wk.ldcI (X : Wk p l e R s m args below meth c own Z a0 EL h0 T h vm cells slots) {index : Nat} {v : Int32} (w : (Jvm.Cond.constant own index v).before a0 Z = true) (hg : g.method = m) (hd : decode c.code g.pc = .ok (.ldc index, 2))
    (k : Gets p e below P (T.setTop { g with pc := g.pc + 2, stack := .int v :: g.stack })) : Gets p e below P (T.setTop g) := by
  obtain ⟨locs, j', Y, eT, hS, hk, hZ, hown, hC, N, hO, hx, r⟩ := X
  exact k.via fun u q => Y.ldcI hx hown (mv (s := s.setVm vm) hZ w) hg hd q
theorem Wk.ldcJ (X : Wk p l e R s m args below meth c own Z a0 EL h0 T h vm cells slots) {index : Nat} {v : Int64} (w : (Jvm.Cond.constantLong own index v).before a0 Z = true) (hg : g.method = m) (hd : decode c.code g.pc = .ok (.ldc2_w index, 3))
    (k : Gets p e below P (T.setTop { g with pc := g.pc + 3, stack := .long v :: g.stack })) : Gets p e below P (T.setTop g) := by
  obtain ⟨locs, j', Y, eT, hS, hk, hZ, hown, hC, N, hO, hx, r⟩ := X
  exact k.via fun u q => Y.ldc2J hx hown (mv (s := s.setVm vm) hZ w) hg hd q
theorem Wk.acmpW (X : Wk p l e R s m args below meth c own Z a0 EL h0 T h vm cells slots) (hx : p.tables.exec = Jvm.exec) (hg : g.method = m) {cd : ACond} {x y : Value} (h1 : x.isRef = true) (h2 : y.isRef = true) {rest : List Value} {o : Int} {pc0 pc' : Nat} {same : Bool} (hpc : g.pc = pc0)
    (hd : decode c.code g.pc = .ok (.if_acmp cd o, 3)) (hs : g.stack = y :: x :: rest) (hq : decide (x = y) = same) (ho : 0 ≤ (pc0 : Int) + o) (hp : pc' = if acV cd same = true then ((pc0 : Int) + o).toNat else pc0 + 3)
    (k : Gets p e below P (T.setTop { g with pc := pc', stack := rest })) : Gets p e below P (T.setTop g) := by
  obtain ⟨locs, j', Y, -⟩ := X
  exact k.via fun u q => RoadKit.acmp Y hx hg h1 h2 hpc hd hs hq ho hp q
theorem plainS {K : String} {x y : MethodName} (w : (Jvm.Cond.selects K x y).before a0 Z = true) (hy : y.cls = K) : ∃ t kt, Z.vm.findClass K = some t ∧ Z.vm.classes[t]? = some kt ∧ kt.isInterface = false := by
  obtain ⟨c2, r2, m2, q1, q2, q3, q4, kP, hkP, hkPi⟩ := Cond.selects_spec w
  exact ⟨m2.cls, kP, hy ▸ findClass_of_methodNamed q3, hkP, hkPi⟩
theorem plainI {K : String} {n : Nat} (w : (Jvm.Cond.instantiable K n).before a0 Z = true) : ∃ t kt, Z.vm.findClass K = some t ∧ Z.vm.classes[t]? = some kt ∧ kt.isInterface = false := by
  obtain ⟨c, k, h1, h2, -, h3, -⟩ := Cond.instantiable_spec w
  exact ⟨c, k, h1, h2, by simp at h3; exact h3.1⟩
theorem ns_root {O K : String} (w : (Jvm.Cond.noSuperclass O).before a0 Z = true) (hk : ∃ t kt, Z.vm.findClass K = some t ∧ Z.vm.classes[t]? = some kt ∧ kt.isInterface = false) (hn : O ≠ K) : NS Z O K := by
  obtain ⟨c, k, h1, h2, h3, -, -⟩ := Cond.noSuperclass_spec w
  obtain ⟨t, kt, g1, -⟩ := hk
  have ne := ids_ne h1 g1 hn
  refine ⟨c, t, h1, g1, fun fuel => ?_⟩
  cases fuel with
  | zero => rfl
  | succ f => simp [Vm.isSubclassAux, ne, h2, h3]
theorem ns_no {C S K : String} (w : (Jvm.Cond.superclass C S).before a0 Z = true) (hk : ∃ t kt, Z.vm.findClass K = some t ∧ Z.vm.classes[t]? = some kt ∧ kt.isInterface = false) (n : NS Z C K) (hn : C ≠ K) : ∃ c t, Z.vm.findClass C = some c ∧ Z.vm.findClass K = some t ∧ Z.vm.assignable c t = false := by
  obtain ⟨c, t, h0, g0, n3⟩ := n
  obtain ⟨p, k, kp, h1, h2, h3, h4, h5, -, h7⟩ := Cond.superclass_spec h0 w
  obtain ⟨t', kt, g1, g2, g3⟩ := hk
  cases g0.symm.trans g1
  have ne := ids_ne h0 g0 hn
  refine ⟨c, t, h0, g0, ?_⟩
  show Z.vm.assignableAux (255 + 1) c t = false
  cases hk : kt.kind <;> simp [Vm.assignableAux, ne, h2, g2, h5, hk, g3, Vm.isSubclass, n3]
theorem Wk.instNo (X : Wk p l e R s m args below meth c own Z a0 EL h0 T h vm cells slots) {K C : String} {index : Nat} (w : (Jvm.Cond.classLink own index K).before a0 Z = true) {a : Addr} (E : Exa Z h a C) (F : ∃ c t, Z.vm.findClass C = some c ∧ Z.vm.findClass K = some t ∧ Z.vm.assignable c t = false)
    (hg : g.method = m) {rest : List Value} (hs : g.stack = .ref a :: rest) (hd : decode c.code g.pc = .ok (.instanceof index, 3))
    (k : ∀ T', Wk p l e R s m args below meth c own Z a0 EL h0 T' h vm cells slots → Gets p e below P (T'.setTop { g with pc := g.pc + 3, stack := .int 0 :: rest })) : Gets p e below P (T.setTop g) := by
  obtain ⟨locs, j, Y, eT, hS, hk, hZ, hown, hC, N, hO, hx, r⟩ := X
  obtain ⟨T', Y', e', st⟩ := RoadKit.instNo Y hx hZ hown w eT E F hg hs hd
  exact (k T' ⟨locs, j, Y', e', hS, hk, hZ, hown, hC, N, hO, hx, r⟩).via st
theorem Wk.getC (X : Wk p l e R s m args below meth c own Z a0 EL h0 T h vm cells slots) {C : String} {index : Nat}
    (w1 : (Jvm.Cond.methodLink own index ⟨"java/lang/Object", "getClass", "()Ljava/lang/Class;"⟩).before a0 Z = true) (w2 : (Jvm.Cond.declares ⟨"java/lang/Object", "getClass", "()Ljava/lang/Class;"⟩).before a0 Z = true) (w3 : (Jvm.Cond.noSuperclass "java/lang/Object").before a0 Z = true) (w4 : (Jvm.Cond.selects C ⟨"java/lang/Object", "getClass", "()Ljava/lang/Class;"⟩ ⟨"java/lang/Object", "getClass", "()Ljava/lang/Class;"⟩).before a0 Z = true)
    (w5 : (Jvm.Cond.instanceMethod ⟨"java/lang/Object", "getClass", "()Ljava/lang/Class;"⟩).before a0 Z = true) (w6 : (Jvm.Cond.native ⟨"java/lang/Object", "getClass", "()Ljava/lang/Class;"⟩).before a0 Z = true) {a : Addr} (E : Exa Z h a C) {mr : Addr} (M : Mir Z C mr)
    (hg : g.method = m) (hsize : g.locals.size = c.maxLocals) {rest : List Value} (hs : g.stack = .ref a :: rest) (hd : decode c.code g.pc = .ok (.invokevirtual index, 3)) (hf : 1 ≤ R.frames) {W : Nat} (hW : 2 * g.monitorRoom + (rest.map fun v => v.category).sum ≤ W) (hl : W + (nativeFrameWords "java/lang/Object" "getClass" 1 + 11) ≤ R.locals)
    (k : ∀ T', Wk p l e R s m args below meth c own Z a0 EL h0 T' h vm cells slots → Gets p e below P (T'.setTop { g with pc := g.pc + 3, stack := .ref mr :: rest })) : Gets p e below P (T.setTop g) := by
  obtain ⟨locs, j, Y, eT, hS, hk, hZ, hown, hC, N, hO, hx, r⟩ := X
  obtain ⟨T', Y', e', st⟩ := RoadKit.gcls Y hx hZ hown w1 w2 w3 w4 w5 w6 eT E M hg hsize hs hd hf hW hl
  exact (k T' ⟨locs, j, Y', e', hS, hk, hZ, hown, hC, N, hO, hx, r⟩).via st
theorem mir_eval {C : String} {mr : Addr} (hal : Z.vm.Alike s.vm) (M : Mir Z C mr) : (Term.mirror C).eval args s none [] s = some (.ref mr) := by
  obtain ⟨cc, kc, m1, m2, m3, -⟩ := M
  obtain ⟨k', q1, q2⟩ := hal.2.2 _ _ m2
  have q3 : s.vm.findClass C = some cc := by rw [hal.findClass]; exact m1
  have q4 : k'.mirror = some mr := by rw [q2]; exact m3
  simp [Term.eval, q3, q1, q4]
theorem Wk.ldcM (X : Wk p l e R s m args below meth c own Z a0 EL h0 T h vm cells slots) {C : String} {index : Nat} (w : (Jvm.Cond.classLink own index C).before a0 Z = true) {mr : Addr} (M : Mir Z C mr) (hg : g.method = m) (hd : decode c.code g.pc = .ok (.ldc index, 2))
    (k : ∀ T', Wk p l e R s m args below meth c own Z a0 EL h0 T' h vm cells slots → Gets p e below P (T'.setTop { g with pc := g.pc + 2, stack := .ref mr :: g.stack })) : Gets p e below P (T.setTop g) := by
  obtain ⟨locs, j, Y, eT, hS, hk, hZ, hown, hC, N, hO, hx, r⟩ := X
  obtain ⟨vm', Y', st⟩ := Y.ldcMirror hx hown (mv (s := s.setVm vm) hZ w) (mir_eval (s := s.setVm vm) hZ.alike M) hg hd
  exact (k _ ⟨locs, j, Y', eT, hS, hk, hZ, hown, hC, N, hO, hx, r⟩).via st
theorem Wk.newR (X : Wk p l e R s m args below meth c own Z a0 EL h0 T h vm cells slots) {C : String} {index : Nat} (w1 : (Jvm.Cond.classLink own index C).before a0 Z = true) (w2 : (Jvm.Cond.arrayOver (.object C)).before a0 Z = true) (hg : g.method = m) (hd : decode c.code g.pc = .ok (.anewarray index, 3)) {n : Int32} {rest : List Value} (hs : g.stack = .int n :: rest)
    (hn : ¬ n < 0) {cap : Nat} (hcap : n.toNatClampNeg ≤ cap) (hb : cap * 8 ≤ 536870912) (hc : cells + 1 ≤ R.cells) (hl : slots + cap ≤ R.slots) {ad : String} (had : "[" ++ (FieldType.object C).toString = ad)
    (k : ∀ T' h' a kc, Wk p l e R s m args below meth c own Z a0 EL h0 T' h' vm (cells + 1) (slots + cap) → CHr Z EL vm h vm h' → Ext h h' → a = h.size → Exa Z h' a ad → Ovr Z kc C → Arv Z h' a kc (.object C) n [] .null → Gets p e below P (T'.setTop { g with pc := g.pc + 3, stack := .ref a :: rest })) : Gets p e below P (T.setTop g) := by
  obtain ⟨locs, j, Y, eT, hS, hk, hZ, hown, hC, N, hO, hx, r⟩ := X
  obtain ⟨T', h', kc, Y', e', E, A, Ea, Ov, st⟩ := RoadKit.newRE Y hx hZ hown w1 w2 eT hg hd hs hn hcap hb hc hl had
  have C1 : CHr Z EL vm h vm h' := CHr.ext E hC.1
  exact (k T' h' h.size kc ⟨locs, j, Y', e', hS, Nat.le_trans hk E.1, hZ, hown, hC.trans C1, N, hO.ext E, hx, r⟩ C1 E rfl Ea Ov (Arv.new A hn)).via st
theorem stoV {a y : Addr} {kc : ClassId} {ty : FieldType} {n : Int32} {vs : List Value} {dv : Value} {C : String} (A : Arv Z h a kc ty n vs dv) (O : Ovr Z kc C) (I : Ins Z h y C true) : Sto Z h a (.ref y) := by
  obtain ⟨cl, A1, A2, -⟩ := A; exact Sto.ofV A1 A2 O I
theorem Wk.stR (X : Wk p l e R s m args below meth c own Z a0 EL h0 T h vm cells slots) {a : Addr} {kc : ClassId} {C : String} {n : Int32} {vs : List Value} {dv : Value} (A : Arv Z h a kc (.object C) n vs dv) {v : Value} (F : Sto Z h a v) (hvr : fits (.object C) v = true) {j : Int32} {i : Nat} (hj0 : ¬ j < 0) (hj : j.toNatClampNeg = i) (hi : i < vs.length) (hin : i < n.toNatClampNeg)
    (hge : Z.heap.size ≤ a) (hg : g.method = m) {rest : List Value} (hs : g.stack = v :: .int j :: .ref a :: rest) (hd : decode c.code g.pc = .ok (.aastore, 1))
    (k : ∀ T' h', Wk p l e R s m args below meth c own Z a0 EL h0 T' h' vm cells slots → CHr Z EL vm h vm h' → Keep h h' [a] → Arv Z h' a kc (.object C) n (vs.set i v) dv → Gets p e below P (T'.setTop { g with pc := g.pc + 1, stack := rest })) : Gets p e below P (T.setTop g) := by
  obtain ⟨locs, j', Y, eT, hS, hk, hZ, hown, hC, N, hO, hx, r⟩ := X
  obtain ⟨cl, A1, A2, A3, A4, A5, A6⟩ := A
  obtain ⟨T', h', Y', e', W, st⟩ := RoadKit.stR Y hx hZ eT A1 (j := j) (fun q => q.elim hj0 (fun q => by rw [A3, hj] at q; omega)) rfl F hg hs hd
  have C1 : CHr Z EL vm h vm h' := CHr.wr W (Safe.arr hZ.alike A1 (by simp)) hC.1
  exact (k T' h' ⟨_, j', Y', e', hS, Nat.le_trans hk (Nat.le_of_eq W.size.symm), hZ, hown, hC.trans C1, Fr.snoc Y' N hge, hO.wr W hge, hx, r⟩ C1 (Keep.of_wr W) (Arv.set A1 A2 A3 A4 A5 A6 hvr W i hj hi)).via st
theorem Wk.copy (X : Wk p l e R s m args below meth c own Z a0 EL h0 T h vm cells slots) {index : Nat}
    (w1 : (Jvm.Cond.methodLink own index Jvm.Stand.acN).before a0 Z = true) (w2 : (Jvm.Cond.native Jvm.Stand.acN).before a0 Z = true) (w3 : (Jvm.Cond.static Jvm.Stand.acN).before a0 Z = true) (w4 : (Jvm.Cond.initialized "java/lang/System").before a0 Z = true)
    {a b : Addr} {k k' : ClassId} {ty ty' : FieldType} {z z' sp dp nn : Int32} {vs vd us : List Value} {dv dd : Value} (A : Arv Z h a k ty z vs dv) (B : Arv Z h b k' ty' z' vd dd) (hty : (ty = ty' ∧ refKind ty = false) ∨ (refKind ty = true ∧ refKind ty' = true ∧ StoL Z h b us))
    (h1 : ¬ sp < 0) (h2 : ¬ dp < 0) (h3 : ¬ nn < 0) (h4 : sp.toNatClampNeg + nn.toNatClampNeg ≤ z.toNatClampNeg) (h5 : dp.toNatClampNeg + nn.toNatClampNeg ≤ z'.toNatClampNeg)
    (hus : us = (List.range nn.toNatClampNeg).map fun i => vs.getD (sp.toNatClampNeg + i) dv) (hl : dp.toNatClampNeg + nn.toNatClampNeg ≤ vd.length) (ge : Z.heap.size ≤ b) (S : Safe Z EL vm h b)
    (hg : g.method = m) (hsize : g.locals.size = c.maxLocals) {rest : List Value} (hs : g.stack = .int nn :: .int dp :: .ref b :: .int sp :: .ref a :: rest) (hd : decode c.code g.pc = .ok (.invokestatic index, 3))
    (hf : 1 ≤ R.frames) {W : Nat} (hW : 2 * g.monitorRoom + (rest.map fun v => v.category).sum ≤ W) (hlo : W + (nativeFrameWords "java/lang/System" "arraycopy" 5 + 11) ≤ R.locals)
    (kk : ∀ T' h', Wk p l e R s m args below meth c own Z a0 EL h0 T' h' vm cells slots → CHr Z EL vm h vm h' → Keep h h' [b] → Arv Z h' b k' ty' z' (vd.take dp.toNatClampNeg ++ us ++ vd.drop (dp.toNatClampNeg + nn.toNatClampNeg)) dd → Gets p e below P (T'.setTop { g with pc := g.pc + 3, stack := rest })) : Gets p e below P (T.setTop g) := by
  obtain ⟨locs, j, Y, eT, hS, hk, hZ, hown, hC, N, hO, hx, r⟩ := X
  obtain ⟨T', h', L, Y', e', N', K, B', st⟩ := RoadKit.cpA Y hx hZ hown w1 w2 w3 w4 eT A B hty h1 h2 h3 h4 h5 hus hl N ge hg hsize hs hd hf hW hlo
  have C1 : CHr Z EL vm h vm h' := CHr.keep K (sfS S sf0) hC.1
  exact (kk T' h' ⟨L, j, Y', e', hS, Nat.le_trans hk K.1, hZ, hown, hC.trans C1, N', hO.keep K (allS ge all0), hx, r⟩ C1 K B').via st
/-- ldc of a String constant, what it holds not asked -/
theorem Wk.ldcO (X : Wk p l e R s m args below meth c own Z a0 EL h0 T h vm cells slots) {text : String} {index : Nat} (w : (Jvm.Cond.stringLink own index text).before a0 Z = true) (wS : ∀ a ∈ Bundle.stringAtoms, a.before a0 Z = true)
    (hg : g.method = m) (hd : decode c.code g.pc = .ok (.ldc index, 2)) {n : Nat} (hn : 4 * text.toList.length ≤ n) (hbig : n ≤ 536870912) (hc : cells + 2 ≤ R.cells) (hl : slots + (n + 4) ≤ R.slots)
    (k : ∀ T' h' vm' a, Wk p l e R s m args below meth c own Z a0 EL h0 T' h' vm' (cells + 2) (slots + (n + 4)) → CHr Z EL vm h vm' h' → Ext h h' → Gets p e below P (T'.setTop { g with pc := g.pc + 2, stack := .ref a :: g.stack })) : Gets p e below P (T.setTop g) := by
  obtain ⟨locs, j, Y, eT, hS, hk, hZ, hown, hC, N, hO, hx, hEL, r⟩ := X
  obtain ⟨a, T', h', k1, Y', e', E, hS', hk', hZ', hown', C1, -, st⟩ := RoadKit.ldcOH Y hx hZ hown w wS eT hS hk hEL hC.1 hg hd hn hbig hc hl
  exact (k T' h' T'.vm a ⟨locs, k1, Y', e', hS', hk', hZ', hown', hC.trans C1, N, hO.ext E, hx, hEL, r⟩ C1 E).via st
/-- ldc of a String constant that is read -/
theorem Wk.ldcC (X : Wk p l e R s m args below meth c own Z a0 EL h0 T h vm cells slots) {text : String} {index : Nat} (w : (Jvm.Cond.stringLink own index text).before a0 Z = true) (wS : ∀ a ∈ Bundle.stringAtoms, a.before a0 Z = true) (hmem : (own, index) ∈ EL)
    {vs : List Value} {z : Int32} (ht : (∀ c ∈ text.toList, c.toNat < 256) ∧ text.toList.map (fun c => Value.int (Jvm.Lit.byteI c.toNat.toUInt16)) = vs) (hz : ¬ z < 0) (hvl : z.toNatClampNeg = vs.length)
    (hg : g.method = m) (hd : decode c.code g.pc = .ok (.ldc index, 2)) {n : Nat} (hn : 4 * text.toList.length ≤ n) (hbig : n ≤ 536870912) (hc : cells + 2 ≤ R.cells) (hl : slots + (n + 4) ≤ R.slots)
    (k : ∀ T' h' vm' a b kb, Wk p l e R s m args below meth c own Z a0 EL h0 T' h' vm' (cells + 2) (slots + (n + 4)) → CHr Z EL vm h vm' h' → Ext h h' → Exa Z h' a "java/lang/String" → Fld Z h' a "java/lang/String" "coder" "B" (.int 0) → Fld Z h' a "java/lang/String" "value" "[B" (.ref b) → Arv Z h' b kb .byte z vs (.int 0) → (∀ x, Safe Z EL vm' h' x → x ≠ a ∧ x ≠ b) → Gets p e below P (T'.setTop { g with pc := g.pc + 2, stack := .ref a :: g.stack })) : Gets p e below P (T.setTop g) := by
  obtain ⟨locs, j, Y, eT, hS, hk, hZ, hown, hC, N, hO, hx, hEL, r⟩ := X
  obtain ⟨a, T', h', k1, b, kb, Y', e', E, hS', hk', hZ', hown', q1, q2, q3, q4, -, -, C1, -, q5, st⟩ := RoadKit.ldcCH Y hx hZ hown w wS eT hS hk hEL hmem hC.1 ht hz hvl hg hd hn hbig hc hl
  exact (k T' h' T'.vm a b kb ⟨locs, k1, Y', e', hS', hk', hZ', hown', hC.trans C1, N, hO.ext E, hx, hEL, r⟩ C1 E q1 q2 q3 q4 q5).via st
/-- who pays a call, in one shape -/
def Pay (l : Launch) (R : Room) (p : Program) (e : Env) (below : List Frame) (s : State) (args : Array Value) (y : MethodName) (len W : Nat) (Z : State) (EL : List (String × Nat)) (vm : Vm) (h : Heap) (as : Array Value) (rc rs : Nat) (Q : Option Value → Vm → Heap → Prop) : Prop :=
  BackS l R p e below (s.setVm vm) args y len W (fun A a => a = as ∧ A.U.heap = h ∧ A.cells + rc ≤ R.cells ∧ A.slots + rs ≤ R.slots)
    (fun A _ v B => ∃ L, (Q v B.U.vm B.U.heap ∧ Fr Z.heap.size L ∧ Old Z Z.heap.size B.U.heap) ∧ B.locs = A.locs ++ L ∧ B.cells = A.cells + rc ∧ B.slots = A.slots + rs ∧ CHr Z EL vm h B.U.vm B.U.heap)
theorem safe_later {x : Addr} (C : CHr Z EL vm h vm' h) (S : Safe Z EL vm h x) : Safe Z EL vm' h x := by
  by_cases q : x < h.size
  · exact C.safe q S
  · exact Safe.new (Nat.not_lt.mp q)
theorem Wk.payM (X : Wk p l e R s m args below meth c own Z a0 EL h0 T h vm cells slots) {y : MethodName} {bytes : ByteArray} {maxL : Nat} {ret : Option FieldType} {rm : Room} {sf : List Addr} {as : Array Value} {Q : Option Value → Vm → Heap → Prop} {len W : Nat} (M : Met l Z EL y bytes maxL ret [] rm sf as h Q) (hsf : ∀ x ∈ sf, Safe Z EL vm h x)
    (wc : (Jvm.Cond.code y bytes maxL ret).before a0 Z = true) (wz : (Jvm.Cond.initialized y.cls).before a0 Z = true) (hf : rm.frames + 1 ≤ R.frames) (hl : W + (maxL + 11) + rm.locals ≤ R.locals) : Pay l R p e below s args y len W Z EL vm h as rm.cells rm.slots Q := by
  have hZ := X.hZ
  have hEL := X.ew
  have H := X.chv
  exact BackS.of_freeW (bytes := bytes) (maxL := maxL) (ret := ret) (E := fun _ first o t L k n => k = rm.cells ∧ n = rm.slots ∧ (∃ v, o = .returned v ∧ (Q v t.vm t.heap ∧ Fr Z.heap.size L ∧ Old Z Z.heap.size t.heap)) ∧ CHr Z EL first.vm first.heap t.vm t.heap) M hf hl
    (fun m meth c A a Y hp => have hU : Z.Warmed39 A.U.vm := wtrans (s := s.setVm vm) hZ Y.warmed
      ⟨by show (Jvm.Cond.and _ .tt).before a A.U = true; rw [Cond.before_and, mv hU wc]; rfl, mv hU wc, mv hU wz, hp.2.2.1, hp.2.2.2⟩)
    (fun m meth c A a g mk Y hp => ⟨hp.1, wtrans (s := s.setVm vm) hZ Y.warmed, hp.2.1, (CHv.at Y hZ hEL H).1, fun x hx => safe_later (vm' := A.U.vm) (CHv.at Y hZ hEL H) (hsf x hx)⟩) (fun _ _ _ _ _ _ _ _ _ => trivial)
    (fun _ _ _ _ ⟨v, L, h1, h2, h3, h4⟩ => ⟨L, _, _, h4, rfl, rfl, ⟨v, h1, h2⟩, h3⟩)
    (fun m meth c A a g mk v t L k n Y hp _ _ ⟨e1, e2, ⟨v', e3, e4⟩, e5⟩ => by
      cases e3; subst e1 e2
      refine ⟨L, e4, rfl, rfl, rfl, (CHv.at Y hZ hEL H).trans ?_⟩
      rw [← hp.2.1]; exact e5)
/-- a narrow payer of the library's -/
theorem Wk.payN (X : Wk p l e R s m args below meth c own Z a0 EL h0 T h vm cells slots) {y : MethodName} {as : Array Value} {rc rs : Nat} {Qn : Option Value → Heap → List Loc → Prop} {Q : Option Value → Heap → Prop} {len W : Nat} {ws : List Addr}
    (hK : Back l R p e below (s.setVm vm) args y len W (fun A a => a = as ∧ A.U.heap = h ∧ A.cells + rc ≤ R.cells ∧ A.slots + rs ≤ R.slots) (fun A _ v B => ∃ L, Qn v B.U.heap L ∧ B.locs = A.locs ++ L ∧ B.cells = A.cells + rc ∧ B.slots = A.slots + rs))
    (hq : ∀ v u L, Qn v u L → Fr Z.heap.size L ∧ Keep h u ws ∧ Q v u) (hws : ∀ x ∈ ws, Z.heap.size ≤ x) (hsafe : ∀ x ∈ ws, Safe Z EL vm h x) : Pay l R p e below s args y len W Z EL vm h as rc rs (fun v _ u => Q v u) := by
  intro m' meth' c' A g' ig mk a Y hg hsize hd hW hn hpre
  obtain ⟨v, B, Y', ⟨L, q1, q2, q3, q4⟩, hsteps⟩ := hK m' meth' c' A g' ig mk a Y hg hsize hd hW hn hpre
  obtain ⟨N, K, q5⟩ := hq _ _ _ q1
  have C1 : CHr Z EL vm h vm B.U.heap := CHr.keep K hsafe X.chv
  have C2 := CHv.at Y' X.hZ X.ew C1.1
  exact ⟨v, B, Y'.retabled Y'.warmed.wide, Y'.warmed.since _, by rw [hpre.2.1]; exact K.1, ⟨L, ⟨q5, N, X.old.keep K hws⟩, q2, q3, q4, C1.trans C2⟩, hsteps⟩
theorem Wk.after (X : Wk p l e R s m args below meth c own Z a0 EL h0 T h vm cells slots) {locs : List Loc} {j : Nat} (hS : s.Since vm j) (hk : j ≤ h.size) (hC : CHr Z EL s.vm h0 vm h) (N : Fr Z.heap.size locs) (hO : Old Z Z.heap.size h) (hown : vm.findClass own = some m.cls)
    {B : Pt} {L : List Loc} {rc rs : Nat} (Y : Stand p l e R ((s.setVm vm).setVm B.U.vm) m args below meth c B.U B.locs B.cells B.slots) (S : (s.setVm vm).Since B.U.vm B.U.heap.size) (hgr : h.size ≤ B.U.heap.size) (q2 : B.locs = locs ++ L) (q3 : B.cells = cells + rc) (q4 : B.slots = slots + rs) (NL : Fr Z.heap.size L) (OL : Old Z Z.heap.size B.U.heap) (C1 : CHr Z EL vm h B.U.vm B.U.heap) :
    Wk p l e R s m args below meth c own Z a0 EL h0 B.U B.U.heap B.U.vm (cells + rc) (slots + rs) := by
  refine ⟨locs ++ L, B.U.heap.size, ?_, rfl, hS.trans S (Nat.le_trans hk hgr), Nat.le_refl _, State.Warmed39.trans (t := s.setVm vm) X.hZ S.1, ?_, hC.trans C1, N.app NL, OL, X.hx, X.ew, ?_⟩
  · rw [← q2, ← q3, ← q4]; exact Y
  · rw [S.1.alike.findClass]; exact hown
  · obtain ⟨_, _, -, -, -, -, -, -, -, -, -, -, -, r⟩ := X; exact r
theorem Wk.callS (X : Wk p l e R s m args below meth c own Z a0 EL h0 T h vm cells slots) {index : Nat} {y : MethodName} {bytes : ByteArray} {maxL : Nat} {ret : Option FieldType} (w1 : (Jvm.Cond.methodLink own index y).before a0 Z = true) (w2 : (Jvm.Cond.static y).before a0 Z = true) (w3 : (Jvm.Cond.initialized y.cls).before a0 Z = true) (w4 : (Jvm.Cond.code y bytes maxL ret).before a0 Z = true)
    (hy : y.cls ≠ "java/lang/invoke/MethodHandle" ∧ y.cls ≠ "java/lang/invoke/VarHandle") {W rc rs : Nat} {as : Array Value} {Q : Option Value → Vm → Heap → Prop} (hK : Pay l R p e below s args y 3 W Z EL vm h as rc rs Q)
    (hg : g.method = m) (hsize : g.locals.size = c.maxLocals) {argsL rest : List Value} (hlen : ∀ sig, parseMethodDescriptor y.desc = some sig → argsL.length = sig.parameters.length) (hstack : g.stack = argsL.reverse ++ rest) (has : argsL.toArray = as) (hW : 2 * g.monitorRoom + (rest.map fun v => v.category).sum ≤ W)
    (hdg : decode c.code g.pc = .ok (.invokestatic index, 3)) (hc : cells + rc ≤ R.cells) (hs : slots + rs ≤ R.slots)
    (k : ∀ T' h' vm' v, Wk p l e R s m args below meth c own Z a0 EL h0 T' h' vm' (cells + rc) (slots + rs) → CHr Z EL vm h vm' h' → h.size ≤ h'.size → Q v vm' h' → Gets p e below P (T'.setTop { g with pc := g.pc + 3, stack := v.toList ++ rest })) : Gets p e below P (T.setTop g) := by
  have X' := X
  obtain ⟨locs, j, Y, eT, hS, hk, hZ, hown, hC, N, hO, hx, r⟩ := X
  obtain ⟨v, vm₁, B, hW1, Y', S, hgr, ⟨L, ⟨q1, NL, OL⟩, q2, q3, q4, C1⟩, st⟩ := RoadKit.callSS Y hx hown (mv (s := s.setVm vm) hZ w1) (mv (s := s.setVm vm) hZ w2) (mv (s := s.setVm vm) hZ w3) (mv (s := s.setVm vm) hZ w4) hy hK hg hsize hlen hstack hW hdg (fun vm₁ _ => ⟨has, eT, hc, hs⟩)
  exact (k B.U B.U.heap B.U.vm v (X'.after hS hk hC N hO hown Y' S (eT ▸ hgr) q2 q3 q4 NL OL C1) C1 (eT ▸ hgr) q1).steps st
theorem Wk.callI (X : Wk p l e R s m args below meth c own Z a0 EL h0 T h vm cells slots) {index : Nat} {y : MethodName} {bytes : ByteArray} {maxL : Nat} (hy1 : y.name = "<init>") (w1 : (Jvm.Cond.methodLink own index y).before a0 Z = true) (w2 : (Jvm.Cond.instanceMethod y).before a0 Z = true) (w4 : (Jvm.Cond.code y bytes maxL none).before a0 Z = true)
    (hy : y.cls ≠ "java/lang/invoke/MethodHandle" ∧ y.cls ≠ "java/lang/invoke/VarHandle") {W rc rs : Nat} {as : Array Value} {Q : Option Value → Vm → Heap → Prop} (hK : Pay l R p e below s args y 3 W Z EL vm h as rc rs Q)
    (hg : g.method = m) (hsize : g.locals.size = c.maxLocals) {a : Addr} {argsL rest : List Value} (hlen : ∀ sig, parseMethodDescriptor y.desc = some sig → argsL.length = sig.parameters.length) (hstack : g.stack = argsL.reverse ++ .ref a :: rest) (has : (Value.ref a :: argsL).toArray = as) (hW : 2 * g.monitorRoom + (rest.map fun v => v.category).sum ≤ W)
    (hdg : decode c.code g.pc = .ok (.invokespecial index, 3)) (hc : cells + rc ≤ R.cells) (hs : slots + rs ≤ R.slots)
    (k : ∀ T' h' vm' v, Wk p l e R s m args below meth c own Z a0 EL h0 T' h' vm' (cells + rc) (slots + rs) → CHr Z EL vm h vm' h' → h.size ≤ h'.size → Q v vm' h' → Gets p e below P (T'.setTop { g with pc := g.pc + 3, stack := v.toList ++ rest })) : Gets p e below P (T.setTop g) := by
  have X' := X
  obtain ⟨locs, j, Y, eT, hS, hk, hZ, hown, hC, N, hO, hx, r⟩ := X
  obtain ⟨v, vm₁, B, hW1, Y', S, hgr, ⟨L, ⟨q1, NL, OL⟩, q2, q3, q4, C1⟩, st⟩ := Y.specialBackS hx hy1 hown (mv (s := s.setVm vm) hZ w1) (mv (s := s.setVm vm) hZ w2) (mv (s := s.setVm vm) hZ w4) hy hK hg hsize (Steps.refl _) hlen hstack hW hdg (fun vm₁ _ => ⟨has, eT, hc, hs⟩)
  exact (k B.U B.U.heap B.U.vm v (X'.after hS hk hC N hO hown Y' S (eT ▸ hgr) q2 q3 q4 NL OL C1) C1 (eT ▸ hgr) q1).steps st
theorem Wk.callIN (X : Wk p l e R s m args below meth c own Z a0 EL h0 T h vm cells slots) {index : Nat} {host : String} {y : MethodName} {bytes : ByteArray} {maxL : Nat} (hy1 : y.name = "<init>") (w1 : (Jvm.Cond.methodLinkNest own index y host).before a0 Z = true) (w2 : (Jvm.Cond.instanceMethod y).before a0 Z = true) (w4 : (Jvm.Cond.code y bytes maxL none).before a0 Z = true)
    (hy : y.cls ≠ "java/lang/invoke/MethodHandle" ∧ y.cls ≠ "java/lang/invoke/VarHandle") {W rc rs : Nat} {as : Array Value} {Q : Option Value → Vm → Heap → Prop} (hK : Pay l R p e below s args y 3 W Z EL vm h as rc rs Q)
    (hg : g.method = m) (hsize : g.locals.size = c.maxLocals) {a : Addr} {argsL rest : List Value} (hlen : ∀ sig, parseMethodDescriptor y.desc = some sig → argsL.length = sig.parameters.length) (hstack : g.stack = argsL.reverse ++ .ref a :: rest) (has : (Value.ref a :: argsL).toArray = as) (hW : 2 * g.monitorRoom + (rest.map fun v => v.category).sum ≤ W)
    (hdg : decode c.code g.pc = .ok (.invokespecial index, 3)) (hc : cells + rc ≤ R.cells) (hs : slots + rs ≤ R.slots)
    (k : ∀ T' h' vm' v, Wk p l e R s m args below meth c own Z a0 EL h0 T' h' vm' (cells + rc) (slots + rs) → CHr Z EL vm h vm' h' → h.size ≤ h'.size → Q v vm' h' → Gets p e below P (T'.setTop { g with pc := g.pc + 3, stack := v.toList ++ rest })) : Gets p e below P (T.setTop g) := by
  have X' := X
  obtain ⟨locs, j, Y, eT, hS, hk, hZ, hown, hC, N, hO, hx, r⟩ := X
  obtain ⟨v, vm₁, B, hW1, Y', S, hgr, ⟨L, ⟨q1, NL, OL⟩, q2, q3, q4, C1⟩, st⟩ := Y.specialBackNestS hx hy1 hown (Cond.methodLinkNest_wide (s := Z) hZ w1 :) (mv (s := s.setVm vm) hZ w2) (mv (s := s.setVm vm) hZ w4) hy hK hg hsize (Steps.refl _) hlen hstack hW hdg (fun vm₁ _ => ⟨has, eT, hc, hs⟩)
  exact (k B.U B.U.heap B.U.vm v (X'.after hS hk hC N hO hown Y' S (eT ▸ hgr) q2 q3 q4 NL OL C1) C1 (eT ▸ hgr) q1).steps st
theorem Wk.callV (X : Wk p l e R s m args below meth c own Z a0 EL h0 T h vm cells slots) {C : String} {index : Nat} {y z : MethodName} (w1 : (Jvm.Cond.methodLink own index y).before a0 Z = true) (w2 : (Jvm.Cond.declares y).before a0 Z = true) (w3 : (Jvm.Cond.selects C y z).before a0 Z = true) (w4 : (Jvm.Cond.instanceMethod z).before a0 Z = true)
    (hnf : ∀ s' : State, Z.Warmed39 s'.vm → NotFace s' y)
    (hy : y.cls ≠ "java/lang/invoke/MethodHandle" ∧ y.cls ≠ "java/lang/invoke/VarHandle") {W rc rs : Nat} {as : Array Value} {Q : Option Value → Vm → Heap → Prop} (hK : Pay l R p e below s args z 3 W Z EL vm h as rc rs Q) {b : Addr} (E : Exa Z h b C)
    (hg : g.method = m) (hsize : g.locals.size = c.maxLocals) {argsL rest : List Value} (hlen : ∀ sig, parseMethodDescriptor y.desc = some sig → argsL.length = sig.parameters.length) (hstack : g.stack = argsL.reverse ++ .ref b :: rest) (has : (Value.ref b :: argsL).toArray = as) (hW : 2 * g.monitorRoom + (rest.map fun v => v.category).sum ≤ W)
    (hdg : decode c.code g.pc = .ok (.invokevirtual index, 3)) (hc : cells + rc ≤ R.cells) (hs : slots + rs ≤ R.slots)
    (k : ∀ T' h' vm' v, Wk p l e R s m args below meth c own Z a0 EL h0 T' h' vm' (cells + rc) (slots + rs) → CHr Z EL vm h vm' h' → h.size ≤ h'.size → Q v vm' h' → Gets p e below P (T'.setTop { g with pc := g.pc + 3, stack := v.toList ++ rest })) : Gets p e below P (T.setTop g) := by
  have X' := X
  obtain ⟨locs, j, Y, eT, hS, hk, hZ, hown, hC, N, hO, hx, r⟩ := X
  obtain ⟨cq, kq, qa, qb, qc⟩ := RoadKit.isOf (s := s.setVm vm) hZ eT E
  obtain ⟨v, vm₁, B, hW1, Y', S, hgr, ⟨L, ⟨q1, NL, OL⟩, q2, q3, q4, C1⟩, st⟩ := Y.virtualBackS hx hown (mv (s := s.setVm vm) hZ w1) (mv (s := s.setVm vm) hZ w2) (hnf (s.setVm vm) hZ) (mv (s := s.setVm vm) hZ w3) (mv (s := s.setVm vm) hZ w4) hy hK qa qc hg hsize (Steps.refl _) hlen hstack hW hdg (fun vm₁ _ => ⟨has, eT, hc, hs⟩)
  exact (k B.U B.U.heap B.U.vm v (X'.after hS hk hC N hO hown Y' S (eT ▸ hgr) q2 q3 q4 NL OL C1) C1 (eT ▸ hgr) q1).steps st
theorem Wk.callP (X : Wk p l e R s m args below meth c own Z a0 EL h0 T h vm cells slots) {C C2 : String} {index : Nat} {y : MethodName} {bytes : ByteArray} {maxL : Nat} {ret : Option FieldType} (w1 : (Jvm.Cond.methodLink own index y).before a0 Z = true) (w2 : (Jvm.Cond.instanceMethod y).before a0 Z = true) (w3 : (Jvm.Cond.selects C2 y y).before a0 Z = true) (w4 : (Jvm.Cond.privateMethod y).before a0 Z = true) (w5 : (Jvm.Cond.code y bytes maxL ret).before a0 Z = true)
    (hy : y.cls ≠ "java/lang/invoke/MethodHandle" ∧ y.cls ≠ "java/lang/invoke/VarHandle") {W rc rs : Nat} {as : Array Value} {Q : Option Value → Vm → Heap → Prop} (hK : Pay l R p e below s args y 3 W Z EL vm h as rc rs Q) {b : Addr} (E : Exa Z h b C)
    (hg : g.method = m) (hsize : g.locals.size = c.maxLocals) {argsL rest : List Value} (hlen : ∀ sig, parseMethodDescriptor y.desc = some sig → argsL.length = sig.parameters.length) (hstack : g.stack = argsL.reverse ++ .ref b :: rest) (has : (Value.ref b :: argsL).toArray = as) (hW : 2 * g.monitorRoom + (rest.map fun v => v.category).sum ≤ W)
    (hdg : decode c.code g.pc = .ok (.invokevirtual index, 3)) (hc : cells + rc ≤ R.cells) (hs : slots + rs ≤ R.slots)
    (k : ∀ T' h' vm' v, Wk p l e R s m args below meth c own Z a0 EL h0 T' h' vm' (cells + rc) (slots + rs) → CHr Z EL vm h vm' h' → h.size ≤ h'.size → Q v vm' h' → Gets p e below P (T'.setTop { g with pc := g.pc + 3, stack := v.toList ++ rest })) : Gets p e below P (T.setTop g) := by
  have X' := X
  obtain ⟨locs, j, Y, eT, hS, hk, hZ, hown, hC, N, hO, hx, r⟩ := X
  obtain ⟨cell, hcell, hobj⟩ := Exa.cell E
  obtain ⟨c2, r2, m2, u1, u2, u3, u4, kP, hkP, hkPi⟩ := Cond.selects_spec (mv (s := s.setVm vm) (args := args) hZ w3)
  have hsel := Jvm.Stand.selects_self_of_private (findClass_of_methodNamed u3) hkP hkPi (Cond.privateMethod_at (mvP (s := s.setVm vm) hZ w4 (args := #[]))) (mv (s := s.setVm vm) (args := args) hZ w2) hy
  obtain ⟨v, vm₁, B, hW1, Y', S, hgr, ⟨L, ⟨q1, NL, OL⟩, q2, q3, q4, C1⟩, st⟩ := Y.privateBackS hx hown (mv (s := s.setVm vm) hZ w1) (mv (s := s.setVm vm) hZ w2) hsel (Cond.privateMethod_at (mvP (s := s.setVm vm) hZ w4 (args := #[]))) (mv (s := s.setVm vm) hZ w5) hy hK hg hsize (Steps.refl _) (a := b) (by rw [eT]; exact hcell) hobj hlen hstack hW hdg (fun vm₁ _ => ⟨has, eT, hc, hs⟩)
  exact (k B.U B.U.heap B.U.vm v (X'.after hS hk hC N hO hown Y' S (eT ▸ hgr) q2 q3 q4 NL OL C1) C1 (eT ▸ hgr) q1).steps st
theorem nfs {y z : MethodName} {C : String} (hc : y = z) (w : (Jvm.Cond.selects C y z).before a0 Z = true) : ∀ s' : State, Z.Warmed39 s'.vm → NotFace s' y := fun s' hZ => by
  subst hc; exact notFace_of_selects (args := #[]) (mv (s := s') hZ w)
theorem nfs2 {y y' : MethodName} {C : String} (hc : y.cls = y'.cls) (w : (Jvm.Cond.selects C y' y').before a0 Z = true) : ∀ s' : State, Z.Warmed39 s'.vm → NotFace s' y := fun s' hZ r0 h0 => by
  obtain ⟨c2, r2, m2, q1, q2, q3, q4, kP, hkP, hkPi⟩ := Cond.selects_spec (mv (s := s') (args := #[]) hZ w)
  have e1 := findClass_of_methodNamed h0
  have e2 := findClass_of_methodNamed q3
  rw [hc, e2] at e1
  exact ⟨kP, by rw [← Option.some.inj e1]; exact hkP, hkPi⟩
theorem Wk.callF (X : Wk p l e R s m args below meth c own Z a0 EL h0 T h vm cells slots) {C : String} {index count : Nat} {xi y : MethodName} (w1 : (Jvm.Cond.methodLink own index xi).before a0 Z = true) (w2 : (Jvm.Cond.declares xi).before a0 Z = true) (w3 : (Jvm.Cond.interfaceMethod xi.cls xi.cls xi.name xi.desc).before a0 Z = true) (e3 : ((Jvm.Cond.interfaceMethod xi.cls xi.cls xi.name xi.desc).onTables && (Jvm.Cond.interfaceMethod xi.cls xi.cls xi.name xi.desc).keepsFace) = true) (w4 : (Jvm.Cond.selects C xi y).before a0 Z = true) (w5 : (Jvm.Cond.instanceMethod y).before a0 Z = true)
    (w6 : (Jvm.Cond.publicMethod y).before a0 Z = true) (w7 : (Jvm.Cond.unhidden C xi.name xi.desc).before a0 Z = true) (w8 : (Jvm.Cond.castable C xi.cls).before a0 Z = true)
    (hy : xi.cls ≠ "java/lang/invoke/MethodHandle" ∧ xi.cls ≠ "java/lang/invoke/VarHandle") {W rc rs : Nat} {as : Array Value} {Q : Option Value → Vm → Heap → Prop} (hK : Pay l R p e below s args y 5 W Z EL vm h as rc rs Q) {b : Addr} (E : Exa Z h b C)
    (hg : g.method = m) (hsize : g.locals.size = c.maxLocals) {argsL rest : List Value} (hlen : ∀ sig, parseMethodDescriptor xi.desc = some sig → argsL.length = sig.parameters.length) (hstack : g.stack = argsL.reverse ++ .ref b :: rest) (has : (Value.ref b :: argsL).toArray = as) (hW : 2 * g.monitorRoom + (rest.map fun v => v.category).sum ≤ W)
    (hdg : decode c.code g.pc = .ok (.invokeinterface index count, 5)) (hc : cells + rc ≤ R.cells) (hs : slots + rs ≤ R.slots)
    (k : ∀ T' h' vm' v, Wk p l e R s m args below meth c own Z a0 EL h0 T' h' vm' (cells + rc) (slots + rs) → CHr Z EL vm h vm' h' → h.size ≤ h'.size → Q v vm' h' → Gets p e below P (T'.setTop { g with pc := g.pc + 5, stack := v.toList ++ rest })) : Gets p e below P (T.setTop g) := by
  have X' := X
  obtain ⟨locs, j, Y, eT, hS, hk, hZ, hown, hC, N, hO, hx, r⟩ := X
  obtain ⟨cq, kq, qa, qb, qc⟩ := RoadKit.isOf (s := s.setVm vm) hZ eT E
  obtain ⟨v, vm₁, B, hW1, Y', S, hgr, ⟨L, ⟨q1, NL, OL⟩, q2, q3, q4, C1⟩, st⟩ := Y.interfaceBackS hx hown (mv (s := s.setVm vm) hZ w1) (mv (s := s.setVm vm) hZ w2) (mv (s := s.setVm vm) hZ w3 e3) (mv (s := s.setVm vm) hZ w4) (mv (s := s.setVm vm) hZ w5) (mv (s := s.setVm vm) hZ w6) (mv (s := s.setVm vm) hZ w7) (mv (s := s.setVm vm) hZ w8) hy hK qa qb qc hg hsize (Steps.refl _) hlen hstack hW hdg (fun vm₁ _ => ⟨has, eT, hc, hs⟩)
  exact (k B.U B.U.heap B.U.vm v (X'.after hS hk hC N hO hown Y' S (eT ▸ hgr) q2 q3 q4 NL OL C1) C1 (eT ▸ hgr) q1).steps st
theorem Wk.done (X : Wk p l e R s m args below meth c own Z a0 EL h0 T h vm cells slots) {Q : Option Value → Vm → Heap → Prop} {rm : Room} {v : Option Value} (hv : meth.sig.returnType = none → v = none) (hc : cells ≤ rm.cells) (hs : slots ≤ rm.slots) (q : ∀ vm', CHr Z EL vm h vm' h → Q v vm' h)
    (st : ∀ fs, Stand p l e R (s.setVm vm) m args below meth c T [] cells slots ∨ True → (∀ (f : JFrame) (acts : List Action), f.method = m → f.locked = none → f.entered = [] → (doReturn e (T.setTop f) acts v).1 = T.setFrames fs) → Steps p.tables e below (T.setTop g) (T.setFrames fs)) : Gets p e below (Out s Z EL rm Q) (T.setTop g) := by
  obtain ⟨locs, j, Y, eT, hS, hk, hZ, hown, hC, N, hO, hx, hEL, hh, hlk⟩ := X
  obtain ⟨fs, hr, hrun, hended, hq⟩ := Y.leaveW hS (by rw [eT]; exact hk) (v := v) hv
  refine ⟨_, _, st fs (Or.inr trivial) hr, hrun, hended, v, locs, rfl, ⟨?_, N, ?_⟩, ?_, ?_⟩
  · show Q v T.vm T.heap; rw [eT]; exact q _ (CHv.at Y hZ hEL hC.1)
  · show Old Z Z.heap.size T.heap; rw [eT]; exact hO
  · show CHr Z EL s.vm s.heap T.vm T.heap
    rw [hh, eT]
    exact hC.trans (CHv.at Y hZ hEL hC.1)
  · obtain ⟨r1, r2, r3, r4⟩ := hq
    exact ⟨r1, r2, r3, r4.mono hc hs⟩
theorem Wk.retV (X : Wk p l e R s m args below meth c own Z a0 EL h0 T h vm cells slots) {Q : Option Value → Vm → Heap → Prop} {rm : Room} (hret : meth.sig.returnType = none) {pc : Nat} {Ls : Array Slot} (hd : decode c.code pc = .ok (.return_, 1)) (hc : cells ≤ rm.cells) (hs : slots ≤ rm.slots) (q : ∀ vm', CHr Z EL vm h vm' h → Q none vm' h) : Gets p e below (Out s Z EL rm Q) (T.setTop (mkF m pc Ls [])) := by
  have X' := X
  obtain ⟨locs, j, Y, -⟩ := X'
  exact X.done (fun _ => rfl) hc hs q fun fs _ hr => Y.returnOut X.hx hret hd hr
theorem Wk.ret (X : Wk p l e R s m args below meth c own Z a0 EL h0 T h vm cells slots) {Q : Option Value → Vm → Heap → Prop} {rm : Room} {t : FieldType} {w : Value} {i : Instr} (hret : meth.sig.returnType = some t) {pc : Nat} {Ls : Array Slot} {rest : List Value} (hn : narrow t w = w)
    (hi : (i = .ireturn ∧ (t = .int ∨ t = .boolean ∨ t = .byte ∨ t = .char ∨ t = .short) ∧ ∃ z, w = .int z) ∨ (i = .lreturn ∧ t = .long ∧ ∃ z, w = .long z) ∨ (i = .dreturn ∧ t = .double ∧ ∃ z, w = .double z) ∨ (i = .freturn ∧ t = .float ∧ ∃ z, w = .float z) ∨ (i = .areturn ∧ t.isReference = true ∧ w.isRef = true))
    (hd : decode c.code pc = .ok (i, 1)) (hc : cells ≤ rm.cells) (hs : slots ≤ rm.slots) (q : ∀ vm', CHr Z EL vm h vm' h → Q (some w) vm' h) : Gets p e below (Out s Z EL rm Q) (T.setTop (mkF m pc Ls (w :: rest))) := by
  have X' := X
  obtain ⟨locs, j, Y, -⟩ := X'
  exact X.done (fun z => by rw [hret] at z; cases z) hc hs q fun fs _ hr => RoadKit.retOut Y X.hx hret hn hi hd hr
theorem Wk.retA (X : Wk p l e R s m args below meth c own Z a0 EL h0 T h vm cells slots) {Q : Option Value → Vm → Heap → Prop} {rm : Room} {t : FieldType} {w : Value} (hret : meth.sig.returnType = some t) {pc : Nat} {Ls : Array Slot} {rest : List Value} (hn : narrow t w = w) (ht : t.isReference = true) (hw : w.isRef = true)
    (hd : decode c.code pc = .ok (.areturn, 1)) (hc : cells ≤ rm.cells) (hs : slots ≤ rm.slots) (q : ∀ vm', CHr Z EL vm h vm' h → Q (some w) vm' h) : Gets p e below (Out s Z EL rm Q) (T.setTop (mkF m pc Ls (w :: rest))) :=
  X.ret hret hn (Or.inr (Or.inr (Or.inr (Or.inr ⟨rfl, ht, hw⟩)))) hd hc hs q
theorem Wk.retI (X : Wk p l e R s m args below meth c own Z a0 EL h0 T h vm cells slots) {Q : Option Value → Vm → Heap → Prop} {rm : Room} {t : FieldType} {x : Int32} (hret : meth.sig.returnType = some t) {pc : Nat} {Ls : Array Slot} {rest : List Value} (hn : narrow t (.int x) = .int x) (ht : t = .int ∨ t = .boolean ∨ t = .byte ∨ t = .char ∨ t = .short)
    (hd : decode c.code pc = .ok (.ireturn, 1)) (hc : cells ≤ rm.cells) (hs : slots ≤ rm.slots) (q : ∀ vm', CHr Z EL vm h vm' h → Q (some (.int x)) vm' h) : Gets p e below (Out s Z EL rm Q) (T.setTop (mkF m pc Ls (.int x :: rest))) :=
  X.ret hret hn (Or.inl ⟨rfl, ht, x, rfl⟩) hd hc hs q
variable {a b : Addr} {k : ClassId} {cs : List Int32} {ws : List Addr}
/-- a Latin-1 String at a, its bytes at b, spelling cs -/
def Str (Z : State) (h : Heap) (a b : Addr) (k : ClassId) (cs : List Int32) : Prop := Exa Z h a "java/lang/String" ∧ Fld Z h a "java/lang/String" "coder" "B" (.int (0 : Int32)) ∧ Fld Z h a "java/lang/String" "value" "[B" (.ref b) ∧ Arv Z h b k .byte (Int32.ofNat cs.length) ((cs.map fun c => c.toInt8.toInt32).map Value.int) (.int (0 : Int32)) ∧ (∀ c ∈ cs, ¬ c < 0 ∧ ¬ (255 : Int32) < c) ∧ cs.length ≤ 4000
theorem Str.ext (F : Str Z h a b k cs) (E : Ext h h') : Str Z h' a b k cs := ⟨F.1.ext E, F.2.1.ext E, F.2.2.1.ext E, F.2.2.2.1.ext E, F.2.2.2.2⟩
theorem Str.keep (F : Str Z h a b k cs) (K : Keep h h' ws) (q : a ∉ ws) (r : b ∉ ws) : Str Z h' a b k cs := ⟨F.1.keep K, F.2.1.keep K q, F.2.2.1.keep K q, F.2.2.2.1.keep K r, F.2.2.2.2⟩
theorem Str.lt (F : Str Z h a b k cs) : a < h.size := F.1.lt
theorem Str.lb (F : Str Z h a b k cs) : b < h.size := F.2.2.2.1.lt
theorem Arv.nty {a b : Addr} {k k' : ClassId} {ty ty' : FieldType} {n n' : Int32} {vs vs' : List Value} {d d' : Value} (A : Arv Z h a k ty n vs d) (B : Arv Z h b k' ty' n' vs' d') (q : ty ≠ ty') : a ≠ b := fun z => by
  subst z
  obtain ⟨c, ⟨A1, ⟨-, kk, A2, cm, A3⟩, -⟩, -⟩ := A
  obtain ⟨c', ⟨B1, ⟨-, kk', B2, cm', B3⟩, -⟩, -⟩ := B
  rw [A1] at B1; cases B1
  rw [A2] at B2; cases B2
  rw [A3] at B3; cases B3
  exact q rfl
end Base
section Vals
variable {tb : Tables} [Ours tb] {e : Env} {below : List Frame} {T target : State} {m : MethodId} {c : Code} {g : JFrame}
theorem i2cV (h : At T m c below) (hx : tb.exec = Jvm.exec) (hg : g.method = m) {x v : Int32} {rest : List Value} (hd : decode c.code g.pc = .ok (.i2c, 1)) (hs : g.stack = .int x :: rest) (hv : x.toUInt32.toUInt16.toUInt32.toInt32 = v)
    (hr : Steps tb e below (T.setTop { g with pc := g.pc + 1, stack := .int v :: rest }) target) : Steps tb e below (T.setTop g) target := by subst hv; exact XS.i2c h hx hg hd hs hr
theorem iincV (h : At T m c below) (hx : tb.exec = Jvm.exec) (hg : g.method = m) {k : Nat} {cst : Int} {x v : Int32} {l' : Array Slot} (hd : decode c.code g.pc = .ok (.iinc k cst, 3)) (hl : g.locals[k]? = some (.val (.int x))) (hv : x + Int32.ofInt cst = v) (hl' : storeLocals g.locals k (.int v) = some l')
    (hr : Steps tb e below (T.setTop { g with pc := g.pc + 3, locals := l' }) target) : Steps tb e below (T.setTop g) target := by subst hv; exact XS.iinc h hx hg hd hl hl' hr
theorem iaddV (h : At T m c below) (hx : tb.exec = Jvm.exec) (hg : g.method = m) {x y v : Int32} {rest : List Value} (hd : decode c.code g.pc = .ok (.iadd, 1)) (hs : g.stack = .int y :: .int x :: rest) (hv : x + y = v)
    (hr : Steps tb e below (T.setTop { g with pc := g.pc + 1, stack := .int v :: rest }) target) : Steps tb e below (T.setTop g) target := by subst hv; exact XS.iadd h hx hg hd hs hr
theorem isubV (h : At T m c below) (hx : tb.exec = Jvm.exec) (hg : g.method = m) {x y v : Int32} {rest : List Value} (hd : decode c.code g.pc = .ok (.isub, 1)) (hs : g.stack = .int y :: .int x :: rest) (hv : x - y = v)
    (hr : Steps tb e below (T.setTop { g with pc := g.pc + 1, stack := .int v :: rest }) target) : Steps tb e below (T.setTop g) target := by subst hv; exact XS.isub h hx hg hd hs hr
theorem iushrV (h : At T m c below) (hx : tb.exec = Jvm.exec) (hg : g.method = m) {x y v : Int32} {rest : List Value} (hd : decode c.code g.pc = .ok (.iushr, 1)) (hs : g.stack = .int y :: .int x :: rest) (hv : Jvm.Free.XT.ushr x y = v)
    (hr : Steps tb e below (T.setTop { g with pc := g.pc + 1, stack := .int v :: rest }) target) : Steps tb e below (T.setTop g) target := by subst hv; exact Jvm.Free.XT.iushr h hx hg hd hs hr
theorem ishlV (h : At T m c below) (hx : tb.exec = Jvm.exec) (hg : g.method = m) {x y v : Int32} {rest : List Value} (hd : decode c.code g.pc = .ok (.ishl, 1)) (hs : g.stack = .int y :: .int x :: rest) (hv : x <<< (y &&& (31 : Int32)) = v)
    (hr : Steps tb e below (T.setTop { g with pc := g.pc + 1, stack := .int v :: rest }) target) : Steps tb e below (T.setTop g) target := by subst hv; exact Jvm.Free.XT.ishl h hx hg hd hs hr
theorem ishrV (h : At T m c below) (hx : tb.exec = Jvm.exec) (hg : g.method = m) {x y v : Int32} {rest : List Value} (hd : decode c.code g.pc = .ok (.ishr, 1)) (hs : g.stack = .int y :: .int x :: rest) (hv : x >>> (y &&& (31 : Int32)) = v)
    (hr : Steps tb e below (T.setTop { g with pc := g.pc + 1, stack := .int v :: rest }) target) : Steps tb e below (T.setTop g) target := by subst hv; exact Jvm.Free.XT.ishr h hx hg hd hs hr
theorem i2bV (h : At T m c below) (hx : tb.exec = Jvm.exec) (hg : g.method = m) {x v : Int32} {rest : List Value} (hd : decode c.code g.pc = .ok (.i2b, 1)) (hs : g.stack = .int x :: rest) (hv : x.toInt8.toInt32 = v)
    (hr : Steps tb e below (T.setTop { g with pc := g.pc + 1, stack := .int v :: rest }) target) : Steps tb e below (T.setTop g) target := by subst hv; exact XS.i2b h hx hg hd hs hr
theorem iremV (h : At T m c below) (hx : tb.exec = Jvm.exec) (hg : g.method = m) {x y : Int32} {rest : List Value} (hd : decode c.code g.pc = .ok (.irem, 1)) (hs : g.stack = .int y :: .int x :: rest) (hy : y ≠ 0)
    (hr : Steps tb e below (T.setTop { g with pc := g.pc + 1, stack := .int (x % y) :: rest }) target) : Steps tb e below (T.setTop g) target := by
  have q : x - x / y * y = x % y := irem_eq_mod x y
  exact XS.irem h hx hg hd hs hy (by rw [q]; exact hr)
/-- (char) of an int -/
def i2c (x : Int32) : Int32 := x.toUInt32.toUInt16.toUInt32.toInt32
theorem i2c_in {x : Int32} (h0 : ¬ x < 0) (h1 : ¬ (65535 : Int32) < x) : x.toUInt32.toUInt16.toUInt32.toInt32 = x := by
  have q := c_i2c x
  apply Int32.toInt_inj.mp
  have e0 : (0 : Int32).toInt = 0 := by decide
  have e1 : (65535 : Int32).toInt = 65535 := by decide
  rw [Int32.lt_iff_toInt_lt, e0] at h0
  rw [Int32.lt_iff_toInt_lt, e1] at h1
  omega
theorem m255 (x : Int32) : ¬ (x &&& (255 : Int32)) < 0 ∧ ¬ (255 : Int32) < (x &&& (255 : Int32)) := by
  have q := c_and x (255 : Int32) (by decide)
  have e0 : (0 : Int32).toInt = 0 := by decide
  have e1 : (255 : Int32).toInt = 255 := by decide
  constructor
  · rw [Int32.lt_iff_toInt_lt, e0]; omega
  · rw [Int32.lt_iff_toInt_lt, e1]; rw [e1] at q; omega
theorem lt_of {a b c : Int32} (h : ¬ a < b) (hb : b.toInt ≤ c.toInt) : True := trivial
theorem i2c_m255 (x : Int32) : (x &&& (255 : Int32)).toUInt32.toUInt16.toUInt32.toInt32 = x &&& (255 : Int32) := i2c_in (m255 x).1 fun q => (m255 x).2 (by
  have e1 : (255 : Int32).toInt = 255 := by decide
  have e2 : (65535 : Int32).toInt = 65535 := by decide
  rw [Int32.lt_iff_toInt_lt] at q ⊢; omega)
theorem i2c_i2c (x : Int32) : (i2c x).toUInt32.toUInt16.toUInt32.toInt32 = i2c x := by
  have q := c_i2c x
  have e0 : (0 : Int32).toInt = 0 := by decide
  have e1 : (65535 : Int32).toInt = 65535 := by decide
  refine i2c_in ?_ ?_
  · rw [Int32.lt_iff_toInt_lt, e0]; unfold i2c; omega
  · rw [Int32.lt_iff_toInt_lt, e1]; unfold i2c; omega
theorem m255L (x : Int64) : ¬ (x &&& (255 : Int64)).toInt32 < 0 ∧ ¬ (255 : Int32) < (x &&& (255 : Int64)).toInt32 := by
  have q := c_maskL x (255 : Int64) 8 (by decide) (by decide)
  have r := Jvm.Free.XT.narrowInt (x := x &&& (255 : Int64)) ⟨by omega, by omega⟩
  have e0 : (0 : Int32).toInt = 0 := by decide
  have e1 : (255 : Int32).toInt = 255 := by decide
  constructor
  · rw [Int32.lt_iff_toInt_lt, e0]; omega
  · rw [Int32.lt_iff_toInt_lt, e1]; omega
theorem i2c_small {x : Int32} (h : ¬ x < 0 ∧ ¬ (255 : Int32) < x) : x.toUInt32.toUInt16.toUInt32.toInt32 = x := i2c_in h.1 fun q => h.2 (by
  have e1 : (255 : Int32).toInt = 255 := by decide
  have e2 : (65535 : Int32).toInt = 65535 := by decide
  rw [Int32.lt_iff_toInt_lt] at q ⊢; omega)
theorem nar_small {x : Int32} (h : ¬ x < 0 ∧ ¬ (255 : Int32) < x) : narrow .char (.int x) = .int x := by
  show Value.int _ = _
  rw [i2c_small h]
theorem nar_b (x : Int32) : nar .byte x.toInt8.toInt32 = x.toInt8.toInt32 := by simp [nar]
theorem allI {P : Int32 → Prop} {y : Int32} {L : List Int32} (q : P y) (r : ∀ x ∈ L, P x) : ∀ x ∈ y :: L, P x := fun x z => (List.mem_cons.mp z).elim (fun u => u ▸ q) (r x)
theorem allN {P : Int32 → Prop} : ∀ x ∈ ([] : List Int32), P x := fun _ q => nomatch q
end Vals
end Jvm.Ow

/- laws to paste: Road.backV, Road.lenW, Road.chN, Road.codOf (cut by pick.py; bodies as the Statement names them) -/
namespace Jvm.Pilot.@@N@@
namespace StrChars
open Jvm Sem ClassFile Op Lib Jvm.Stand Jvm.Free.XT Jvm.Free.ALB Jvm.Free.JM Jvm.Free
open Jvm.Lib.Cold (StaticIs)
/-- a char array whose places are chars -/
def Ch (a : Addr) (A : Cell) (U : State) : Prop := Arr .char a A U ∧ Typed .char A
theorem Ch.mv {a : Addr} {A : Cell} {U U' : State} (h : Ch a A U) (hal : U.vm.Alike U'.vm) (hh : U'.heap = U.heap) : Ch a A U' := ⟨h.1.mv hal hh, h.2⟩
theorem Ch.keep {a : Addr} {A : Cell} {U U' : State} (h : Ch a A U) (hal : U.vm.Alike U'.vm) (hk : U'.heap[a]? = some A) : Ch a A U' := ⟨h.1.keep hal hk, h.2⟩
/-- what place i of a char[]'s cell holds -/
def cv (A : Cell) (i : Nat) : Int32 := match A.slots[i]? with | some (.int x) => x | _ => 0
theorem Ch.get {a : Addr} {A : Cell} {U : State} (h : Ch a A U) {i : Nat} (hi : i < A.slots.size) : A.slots[i]? = some (.int (cv A i)) := by
  have e := Array.getElem?_eq_getElem hi
  have f := h.2 i _ e
  unfold cv; rw [e]
  generalize A.slots[i] = v at f
  cases v <;> simp [fits] at f ⊢
/-- the byte that i2b leaves of a char -/
def lo8 (x : Int32) : Int32 := x.toInt8.toInt32
theorem fits_lo8 (y : Int32) : fits .byte (.int (lo8 y)) = true := by
  have h1 := y.toInt8.le_toInt
  have h2 := y.toInt8.toInt_lt
  simp only [lo8, fits, Bool.and_eq_true, decide_eq_true_eq, Int32.le_iff_toInt_le, Int8.toInt_toInt32, show (-128 : Int32).toInt = -128 from by decide, show (127 : Int32).toInt = 127 from by decide]
  omega
/-- A' is A but that each place j of lo .. hi - 1 holds f j -/
def Laid (A A' : Cell) (lo hi : Nat) (f : Nat → Value) : Prop := A'.cls = A.cls ∧ A'.vm = A.vm ∧ A'.slots.size = A.slots.size ∧ ∀ i, A'.slots[i]? = if lo ≤ i ∧ i < hi then some (f i) else A.slots[i]?
theorem Laid.zero (A : Cell) (lo : Nat) (f : Nat → Value) : Laid A A lo (lo + 0) f := ⟨rfl, rfl, rfl, fun i => by rw [if_neg (by omega)]⟩
theorem Laid.step {A Ak : Cell} {lo k : Nat} {f : Nat → Value} {v : Value} (h : Laid A Ak lo k f) (hlo : lo ≤ k) (hk : k < Ak.slots.size) (hv : v = f k) : Laid A (Ak.setSlot k v) lo (k + 1) f := by
  refine ⟨h.1, h.2.1, by simpa [Cell.setSlot] using h.2.2.1, fun i => ?_⟩
  by_cases e : k = i
  · subst e; rw [Cell.slots_setSlot_self v hk, if_pos (by omega), hv]
  · rw [Cell.slots_setSlot_ne v e, h.2.2.2 i]
    by_cases q : lo ≤ i ∧ i < k
    · rw [if_pos q, if_pos (by omega)]
    · rw [if_neg q, if_neg (by omega)]
def U16 : String := "java/lang/StringUTF16"
namespace Cmp5
def yN : MethodName := ⟨"java/lang/StringUTF16", "compress", "([CI[BII)I"⟩
abbrev yB : ByteArray := jdk_52_method_21_code
theorem d0 : decode yB 0 = .ok (.iconst 0, 1) := by decide +kernel
theorem d1 : decode yB 1 = .ok (.istore 5, 2) := by decide +kernel
theorem d3 : decode yB 3 = .ok (.iload 5, 2) := by decide +kernel
theorem d5 : decode yB 5 = .ok (.iload 4, 2) := by decide +kernel
theorem d7 : decode yB 7 = .ok (.if_icmp (.ge) 37, 3) := by decide +kernel
theorem d10 : decode yB 10 = .ok (.aload_n 0, 1) := by decide +kernel
theorem d11 : decode yB 11 = .ok (.iload_n 1, 1) := by decide +kernel
theorem d12 : decode yB 12 = .ok (.caload, 1) := by decide +kernel
theorem d13 : decode yB 13 = .ok (.istore 6, 2) := by decide +kernel
theorem d15 : decode yB 15 = .ok (.iload 6, 2) := by decide +kernel
theorem d17 : decode yB 17 = .ok (.sipush 255, 3) := by decide +kernel
theorem d20 : decode yB 20 = .ok (.if_icmp (.le) 6, 3) := by decide +kernel
theorem d26 : decode yB 26 = .ok (.aload_n 2, 1) := by decide +kernel
theorem d27 : decode yB 27 = .ok (.iload_n 3, 1) := by decide +kernel
theorem d28 : decode yB 28 = .ok (.iload 6, 2) := by decide +kernel
theorem d30 : decode yB 30 = .ok (.i2b, 1) := by decide +kernel
theorem d31 : decode yB 31 = .ok (.bastore, 1) := by decide +kernel
theorem d32 : decode yB 32 = .ok (.iinc 1 1, 3) := by decide +kernel
theorem d35 : decode yB 35 = .ok (.iinc 3 1, 3) := by decide +kernel
theorem d38 : decode yB 38 = .ok (.iinc 5 1, 3) := by decide +kernel
theorem d41 : decode yB 41 = .ok (.goto (-38), 3) := by decide +kernel
theorem d44 : decode yB 44 = .ok (.iload 4, 2) := by decide +kernel
theorem d46 : decode yB 46 = .ok (.ireturn, 1) := by decide +kernel
def site : List Cond := []
def tab : Cond := tabOf yN yB 7 (some .int) site
def P (b : Addr) (A : Cell) (d : Addr) (B : Cell) (o q len : Nat) (args : Array Value) (s : State) : Prop := args = #[.ref b, .int (Int32.ofNat o), .ref d, .int (Int32.ofNat q), .int (Int32.ofNat len)] ∧ Ch b A s ∧ Arr .byte d B s ∧ b ≠ d ∧ o + len ≤ A.slots.size ∧ q + len ≤ B.slots.size ∧ ∀ i, i < len → ¬ 255 < cv A (o + i)
def E (b : Addr) (A : Cell) (d : Addr) (B : Cell) (o q len : Nat) (r : Option Value) (s u : State) : Prop := r = some (.int (Int32.ofNat len)) ∧ ∃ B', Put d B' s u ∧ Laid B B' q (q + len) (fun j => Value.int (lo8 (cv A (o + (j - q)))))
/-- no char of the range above 255: len; the places written hold each char's low byte -/
theorem law (l : Launch) (b : Addr) (A : Cell) (d : Addr) (B : Cell) (o q len : Nat) : Law l yN 5 5 0 0 yB 7 (some .int) site (P b A d B o q len) (E b A d B o q len) (copyLocs d q len) 0 0 := by
  refine Law.of_walk (plainFor_of_name (by decide +kernel)) (by decide +kernel) (by decide +kernel) (by decide) (fun _ _ h => by rw [h.1]; rfl) (fun _ U U' hal hh h => ⟨h.1, h.2.1.mv hal hh, h.2.2.1.mv hal hh, h.2.2.2⟩) (fun r U U' V V' h1 hal h2 h => ⟨h.1, h.2.elim fun B' q => ⟨B', q.1.mv h1 h2, q.2⟩⟩) ?_
  intro p e s m args below meth c s₁ X0 hexec hbytes hml hret hlk hnm hown hh0 W hP
  obtain ⟨rfl, hA, hB, hne, l1, l2, hp⟩ := hP
  have c1 : Steps p.tables e below (s₁.setTop (entryFrame m #[.ref b, .int (Int32.ofNat o), .ref d, .int (Int32.ofNat q), .int (Int32.ofNat len)] 7)) (s₁.setTop (mkF m 0 #[.val (.ref b), .val (.int (Int32.ofNat o)), .val (.ref d), .val (.int (Int32.ofNat q)), .val (.int (Int32.ofNat len)), .unset, .unset] [])) := entry rfl
  have hA0 := hA.1.mv X0.warmed.alike hh0
  have hB0 := hB.mv X0.warmed.alike hh0
  have a31 := hA.1.2.2.2
  have c2 : Steps p.tables e below (s₁.setTop (entryFrame m #[.ref b, .int (Int32.ofNat o), .ref d, .int (Int32.ofNat q), .int (Int32.ofNat len)] 7)) (s₁.setTop (mkF m 3 #[.val (.ref b), .val (.int (Int32.ofNat o)), .val (.ref d), .val (.int (Int32.ofNat q)), .val (.int (Int32.ofNat len)), .val (.int 0), .unset] [])) := c1.trans (by
    refine iconstV X0.here hexec rfl 0 (hb hbytes d0) (by decide) ?_
    refine XS.istore X0.here hexec rfl (hb hbytes d1) rfl rfl ?_
    exact Steps.refl _)
  have loop : ∀ (r i : Nat), i + r = len → ∀ (z : Slot), (z = .unset ∨ ∃ w, z = .val w ∧ w.category = 1) → ∀ (Tl : State) (Bk : Cell), Stand p l e { frames := 0, locals := 0, cells := 0, slots := 0 } s m #[.ref b, .int (Int32.ofNat o), .ref d, .int (Int32.ofNat q), .int (Int32.ofNat len)] below meth c Tl ([] ++ copyLocs d q i) 0 0 → Put d Bk s₁ Tl → Laid B Bk q (q + i) (fun j => Value.int (lo8 (cv A (o + (j - q))))) →
      Steps p.tables e below (s₁.setTop (entryFrame m #[.ref b, .int (Int32.ofNat o), .ref d, .int (Int32.ofNat q), .int (Int32.ofNat len)] 7)) (Tl.setTop (mkF m 3 #[.val (.ref b), .val (.int (Int32.ofNat (o + i))), .val (.ref d), .val (.int (Int32.ofNat (q + i))), .val (.int (Int32.ofNat len)), .val (.int (Int32.ofNat i)), z] [])) → ∃ (T' : State) (B' : Cell) (z' : Slot), Stand p l e { frames := 0, locals := 0, cells := 0, slots := 0 } s m #[.ref b, .int (Int32.ofNat o), .ref d, .int (Int32.ofNat q), .int (Int32.ofNat len)] below meth c T' ([] ++ copyLocs d q len) 0 0 ∧ Put d B' s₁ T' ∧ Laid B B' q (q + len) (fun j => Value.int (lo8 (cv A (o + (j - q))))) ∧
      Steps p.tables e below (s₁.setTop (entryFrame m #[.ref b, .int (Int32.ofNat o), .ref d, .int (Int32.ofNat q), .int (Int32.ofNat len)] 7)) (T'.setTop (mkF m 3 #[.val (.ref b), .val (.int (Int32.ofNat (o + len))), .val (.ref d), .val (.int (Int32.ofNat (q + len))), .val (.int (Int32.ofNat len)), .val (.int (Int32.ofNat len)), z'] [])) := by
    intro r
    induction r with
    | zero =>
      intro i hi z hz Tl Bk Xl pl fl cl
      have hil : i = len := by omega
      rw [hil] at Xl fl cl
      exact ⟨Tl, Bk, z, Xl, pl, fl, cl⟩
    | succ r ih =>
      intro i hi z hz Tl Bk Xl pl fl cl
      have all := X0.warmed.alike.symm.trans Xl.warmed.alike
      have hAl := hA0.keep all (pl.other hne hA0.1)
      have hBk := hB0.like all pl.1 fl.1 fl.2.1 fl.2.2.1
      have hlt : q + i < Bk.slots.size := by rw [fl.2.2.1]; omega
      have c3 : Steps p.tables e below (s₁.setTop (entryFrame m #[.ref b, .int (Int32.ofNat o), .ref d, .int (Int32.ofNat q), .int (Int32.ofNat len)] 7)) (Tl.setTop (mkF m 12 #[.val (.ref b), .val (.int (Int32.ofNat (o + i))), .val (.ref d), .val (.int (Int32.ofNat (q + i))), .val (.int (Int32.ofNat len)), .val (.int (Int32.ofNat i)), z] [.int (Int32.ofNat (o + i)), .ref b])) := cl.trans (by
        refine XS.iload Xl.here hexec rfl (hb hbytes d3) rfl ?_
        refine XS.iload Xl.here hexec rfl (hb hbytes d5) rfl ?_
        refine XS.icmpNo Xl.here hexec rfl (hb hbytes d7) rfl (ii_ge_f (lt32 (by omega) (by omega))) ?_
        refine XS.aloadN Xl.here hexec rfl (hb hbytes d10) rfl rfl ?_
        refine XS.iloadN Xl.here hexec rfl (hb hbytes d11) rfl ?_
        exact Steps.refl _)
      have c4 : Steps p.tables e below (s₁.setTop (entryFrame m #[.ref b, .int (Int32.ofNat o), .ref d, .int (Int32.ofNat q), .int (Int32.ofNat len)] 7)) (Tl.setTop (mkF m 13 #[.val (.ref b), .val (.int (Int32.ofNat (o + i))), .val (.ref d), .val (.int (Int32.ofNat (q + i))), .val (.int (Int32.ofNat len)), .val (.int (Int32.ofNat i)), z] [.int (cv A (o + i))])) := c3.trans (by
        refine Xl.aget hexec hAl rfl (hA.get (i := o + i) (by omega)) rfl rfl (hb hbytes d12) ?_
        exact Steps.refl _)
      have c5 : Steps p.tables e below (s₁.setTop (entryFrame m #[.ref b, .int (Int32.ofNat o), .ref d, .int (Int32.ofNat q), .int (Int32.ofNat len)] 7)) (Tl.setTop (mkF m 15 #[.val (.ref b), .val (.int (Int32.ofNat (o + i))), .val (.ref d), .val (.int (Int32.ofNat (q + i))), .val (.int (Int32.ofNat len)), .val (.int (Int32.ofNat i)), .val (.int (cv A (o + i)))] [])) := c4.trans (by
        refine XS.istoreS Xl.here hexec rfl (hb hbytes d13) rfl rfl hz ?_
        exact Steps.refl _)
      have c6 : Steps p.tables e below (s₁.setTop (entryFrame m #[.ref b, .int (Int32.ofNat o), .ref d, .int (Int32.ofNat q), .int (Int32.ofNat len)] 7)) (Tl.setTop (mkF m 31 #[.val (.ref b), .val (.int (Int32.ofNat (o + i))), .val (.ref d), .val (.int (Int32.ofNat (q + i))), .val (.int (Int32.ofNat len)), .val (.int (Int32.ofNat i)), .val (.int (cv A (o + i)))] [.int (lo8 (cv A (o + i))), .int (Int32.ofNat (q + i)), .ref d])) := c5.trans (by
        refine XS.iload Xl.here hexec rfl (hb hbytes d15) rfl ?_
        refine sipushV Xl.here hexec rfl 255 (hb hbytes d17) (by decide) ?_
        refine XS.icmpYes Xl.here hexec rfl (pc0 := 20) rfl (hb hbytes d20) rfl (ii_le_t (hp i (by omega))) (by decide) rfl ?_
        refine XS.aloadN Xl.here hexec rfl (hb hbytes d26) rfl rfl ?_
        refine XS.iloadN Xl.here hexec rfl (hb hbytes d27) rfl ?_
        refine XS.iload Xl.here hexec rfl (hb hbytes d28) rfl ?_
        refine i2b Xl.here hexec rfl (hb hbytes d30) rfl ?_
        exact Steps.refl _)
      obtain ⟨T7, X7, p7, st7⟩ := Xl.aput hexec hBk rfl hlt rfl (fits_lo8 (cv A (o + i))) (g := (mkF m 31 #[.val (.ref b), .val (.int (Int32.ofNat (o + i))), .val (.ref d), .val (.int (Int32.ofNat (q + i))), .val (.int (Int32.ofNat len)), .val (.int (Int32.ofNat i)), .val (.int (cv A (o + i)))] [.int (lo8 (cv A (o + i))), .int (Int32.ofNat (q + i)), .ref d])) rfl (rest := []) rfl (hb hbytes d31)
      have c8 : Steps p.tables e below (s₁.setTop (entryFrame m #[.ref b, .int (Int32.ofNat o), .ref d, .int (Int32.ofNat q), .int (Int32.ofNat len)] 7)) (T7.setTop (mkF m 32 #[.val (.ref b), .val (.int (Int32.ofNat (o + i))), .val (.ref d), .val (.int (Int32.ofNat (q + i))), .val (.int (Int32.ofNat len)), .val (.int (Int32.ofNat i)), .val (.int (cv A (o + i)))] [])) := c6.trans (st7 _ (Steps.refl _))
      have c9 : Steps p.tables e below (s₁.setTop (entryFrame m #[.ref b, .int (Int32.ofNat o), .ref d, .int (Int32.ofNat q), .int (Int32.ofNat len)] 7)) (T7.setTop (mkF m 3 #[.val (.ref b), .val (.int (Int32.ofNat (o + i) + 1)), .val (.ref d), .val (.int (Int32.ofNat (q + i) + 1)), .val (.int (Int32.ofNat len)), .val (.int (Int32.ofNat i + 1)), .val (.int (cv A (o + i)))] [])) := c8.trans (by
        refine iincV X7.here hexec rfl 1 (hb hbytes d32) (by decide) rfl rfl ?_
        refine iincV X7.here hexec rfl 1 (hb hbytes d35) (by decide) rfl rfl ?_
        refine iincV X7.here hexec rfl 1 (hb hbytes d38) (by decide) rfl rfl ?_
        refine XS.goto X7.here hexec rfl (pc0 := 41) rfl (hb hbytes d41) (by decide) rfl ?_
        exact Steps.refl _)
      have c10 : Steps p.tables e below (s₁.setTop (entryFrame m #[.ref b, .int (Int32.ofNat o), .ref d, .int (Int32.ofNat q), .int (Int32.ofNat len)] 7)) (T7.setTop (mkF m 3 #[.val (.ref b), .val (.int (Int32.ofNat (o + (i + 1)))), .val (.ref d), .val (.int (Int32.ofNat (q + (i + 1)))), .val (.int (Int32.ofNat len)), .val (.int (Int32.ofNat (i + 1))), .val (.int (cv A (o + i)))] [])) := by
        have := c9
        rw [succ32, succ32, succ32] at this
        exact this
      exact ih (i + 1) (by omega) _ (Or.inr ⟨_, rfl, rfl⟩) T7 _ (by rw [copyLocs_step, ← List.append_assoc]; exact X7) (pl.trans p7) (fl.step (by omega) hlt (by simp)) c10
  obtain ⟨T9, B9, z9, X9, p9, f9, g9⟩ := loop len 0 (by omega) .unset (Or.inl rfl) s₁ B (by simpa [copyLocs] using X0) ⟨hB0.1, fun _ _ => rfl, rfl⟩ (Laid.zero _ _ _) c2
  have c11 : Steps p.tables e below (s₁.setTop (entryFrame m #[.ref b, .int (Int32.ofNat o), .ref d, .int (Int32.ofNat q), .int (Int32.ofNat len)] 7)) (T9.setTop (mkF m 46 #[.val (.ref b), .val (.int (Int32.ofNat (o + len))), .val (.ref d), .val (.int (Int32.ofNat (q + len))), .val (.int (Int32.ofNat len)), .val (.int (Int32.ofNat len)), z9] [.int (Int32.ofNat len)])) := g9.trans (by
    refine XS.iload X9.here hexec rfl (hb hbytes d3) rfl ?_
    refine XS.iload X9.here hexec rfl (hb hbytes d5) rfl ?_
    refine XS.icmpYes X9.here hexec rfl (pc0 := 7) rfl (hb hbytes d7) rfl (ii_ge_t (nlt32 (by omega) (Nat.le_refl _))) (by decide) rfl ?_
    refine XS.iload X9.here hexec rfl (hb hbytes d44) rfl ?_
    exact Steps.refl _)
  exact ⟨T9, some (.int (Int32.ofNat len)), _, _, _, X9, by simp, rfl, rfl, (fun h => by cases h), ⟨rfl, B9, p9.from hh0, f9⟩, fun fs hl => c11.trans (X9.ireturnOut hexec hret rfl (Or.inl rfl) (hb hbytes d46) hl)⟩
end Cmp5
namespace Cmp3
def yN : MethodName := ⟨"java/lang/StringUTF16", "compress", "([CII)[B"⟩
abbrev yB : ByteArray := jdk_52_method_16_code
theorem d0 : decode yB 0 = .ok (.iload_n 2, 1) := by decide +kernel
theorem d1 : decode yB 1 = .ok (.newarray .byte, 2) := by decide +kernel
theorem d3 : decode yB 3 = .ok (.astore_n 3, 1) := by decide +kernel
theorem d4 : decode yB 4 = .ok (.aload_n 0, 1) := by decide +kernel
theorem d5 : decode yB 5 = .ok (.iload_n 1, 1) := by decide +kernel
theorem d6 : decode yB 6 = .ok (.aload_n 3, 1) := by decide +kernel
theorem d7 : decode yB 7 = .ok (.iconst 0, 1) := by decide +kernel
theorem d8 : decode yB 8 = .ok (.iload_n 2, 1) := by decide +kernel
theorem d9 : decode yB 9 = .ok (.invokestatic 115, 3) := by decide +kernel
theorem d12 : decode yB 12 = .ok (.istore 4, 2) := by decide +kernel
theorem d14 : decode yB 14 = .ok (.iload 4, 2) := by decide +kernel
theorem d16 : decode yB 16 = .ok (.iload_n 2, 1) := by decide +kernel
theorem d17 : decode yB 17 = .ok (.if_icmp (.eq) 40, 3) := by decide +kernel
theorem d57 : decode yB 57 = .ok (.aload_n 3, 1) := by decide +kernel
theorem d58 : decode yB 58 = .ok (.areturn, 1) := by decide +kernel
def site : List Cond := [.arrayClass .byte, Cmp5.tab] ++ staticW U16 115 Cmp5.yN
def tab : Cond := tabOf yN yB 6 (some (.array .byte)) site
def P (b : Addr) (A : Cell) (o len : Nat) (args : Array Value) (s : State) : Prop := args = #[.ref b, .int (Int32.ofNat o), .int (Int32.ofNat len)] ∧ Ch b A s ∧ o + len ≤ A.slots.size ∧ len ≤ 536870912 ∧ ∀ i, i < len → ¬ 255 < cv A (o + i)
def E (b : Addr) (A : Cell) (o len : Nat) (r : Option Value) (s u : State) : Prop := NewArr .byte "[B" len (fun j => .int (lo8 (cv A (o + j)))) r s u ∧ u.heap.size = s.heap.size + 1
/-- no char of the range above 255: a new byte[] of their low bytes -/
theorem law (l : Launch) (b : Addr) (A : Cell) (o len : Nat) : Law l yN 3 3 1 18 yB 6 (some (.array .byte)) site (P b A o len) (E b A o len) [] 1 len := by
  refine Law.of_walk (plainFor_of_name (by decide +kernel)) (by decide +kernel) (by decide +kernel) (by decide) (fun _ _ h => by rw [h.1]; rfl) (fun _ U U' hal hh h => ⟨h.1, h.2.1.mv hal hh, h.2.2⟩) (fun r U U' V V' h1 hal h2 h => ⟨NewArr.mv r U U' V V' h1 hal h2 h.1, by rw [h1, h2]; exact h.2⟩) ?_
  intro p e s m args below meth c s₁ X0 hexec hbytes hml hret hlk hnm hown hh0 W hP
  obtain ⟨rfl, hA, l1, l2, hp⟩ := hP
  have a31 := hA.1.2.2.2
  have c1 : Steps p.tables e below (s₁.setTop (entryFrame m #[.ref b, .int (Int32.ofNat o), .int (Int32.ofNat len)] 6)) (s₁.setTop (mkF m 0 #[.val (.ref b), .val (.int (Int32.ofNat o)), .val (.int (Int32.ofNat len)), .unset, .unset, .unset] [])) := entry rfl
  have c2 : Steps p.tables e below (s₁.setTop (entryFrame m #[.ref b, .int (Int32.ofNat o), .int (Int32.ofNat len)] 6)) (s₁.setTop (mkF m 1 #[.val (.ref b), .val (.int (Int32.ofNat o)), .val (.int (Int32.ofNat len)), .unset, .unset, .unset] [.int (Int32.ofNat len)])) := c1.trans (by
    refine XS.iloadN X0.here hexec rfl (hb hbytes d0) rfl ?_
    exact Steps.refl _)
  obtain ⟨T3, B3, X3, ba3, bs3, bv3, bh3, bf3, st3⟩ := X0.anew hexec (atype := .byte) (wk W (.arrayClass .byte)) rfl (by show len * 1 ≤ _; omega) (by omega) (g := (mkF m 1 #[.val (.ref b), .val (.int (Int32.ofNat o)), .val (.int (Int32.ofNat len)), .unset, .unset, .unset] [.int (Int32.ofNat len)])) rfl (hb hbytes d1) (rest := []) rfl (Nat.le_refl _) (by show 0 + len ≤ len; omega)
  rw [hh0] at ba3 st3
  have kp3 : XT.Kept s T3 := (XT.Kept.of_eq hh0).push bh3
  have hA3 := hA.keep X3.warmed.alike (kp3 _ _ hA.1.1)
  have hne : b ≠ s.heap.size := hA.1.ne
  have c4 : Steps p.tables e below (s₁.setTop (entryFrame m #[.ref b, .int (Int32.ofNat o), .int (Int32.ofNat len)] 6)) (T3.setTop (mkF m 3 #[.val (.ref b), .val (.int (Int32.ofNat o)), .val (.int (Int32.ofNat len)), .unset, .unset, .unset] [.ref s.heap.size])) := c2.trans (st3 _ (Steps.refl _))
  have c5 : Steps p.tables e below (s₁.setTop (entryFrame m #[.ref b, .int (Int32.ofNat o), .int (Int32.ofNat len)] 6)) (T3.setTop (mkF m 9 #[.val (.ref b), .val (.int (Int32.ofNat o)), .val (.int (Int32.ofNat len)), .val (.ref s.heap.size), .unset, .unset] [.int (Int32.ofNat len), .int 0, .ref s.heap.size, .int (Int32.ofNat o), .ref b])) := c4.trans (by
    refine XS.astoreN X3.here hexec rfl (hb hbytes d3) rfl rfl rfl ?_
    refine XS.aloadN X3.here hexec rfl (hb hbytes d4) rfl rfl ?_
    refine XS.iloadN X3.here hexec rfl (hb hbytes d5) rfl ?_
    refine XS.aloadN X3.here hexec rfl (hb hbytes d6) rfl rfl ?_
    refine iconstV X3.here hexec rfl 0 (hb hbytes d7) (by decide) ?_
    refine XS.iloadN X3.here hexec rfl (hb hbytes d8) rfl ?_
    exact Steps.refl _)
  obtain ⟨v6, T6, X6, E6, g6⟩ := X3.callS hexec (Cmp5.law l b A s.heap.size B3 o 0 len) hown (wks W (staticW U16 115 Cmp5.yN)) (wk W Cmp5.tab) (W := 0) (Nat.le_of_ble_eq_true rfl) (Nat.le_of_ble_eq_true rfl) (Nat.le_refl _) (by show 0 + len + 0 ≤ len; omega) (g := (mkF m 9 #[.val (.ref b), .val (.int (Int32.ofNat o)), .val (.int (Int32.ofNat len)), .val (.ref s.heap.size), .unset, .unset] [.int (Int32.ofNat len), .int (Int32.ofNat 0), .ref s.heap.size, .int (Int32.ofNat o), .ref b])) rfl (by rw [hml]; rfl) c5 (argsL := [.ref b, .int (Int32.ofNat o), .ref s.heap.size, .int (Int32.ofNat 0), .int (Int32.ofNat len)]) (rest := []) rfl rfl (by show 2 * 0 + 0 ≤ _; decide) (hb hbytes d9) (⟨rfl, hA3, ba3, hne, l1, by rw [bs3]; simp, hp⟩)
  obtain ⟨rfl, B6, p6, f6⟩ := E6
  have c7 : Steps p.tables e below (s₁.setTop (entryFrame m #[.ref b, .int (Int32.ofNat o), .int (Int32.ofNat len)] 6)) (T6.setTop (mkF m 12 #[.val (.ref b), .val (.int (Int32.ofNat o)), .val (.int (Int32.ofNat len)), .val (.ref s.heap.size), .unset, .unset] [.int (Int32.ofNat len)])) := g6
  have c8 : Steps p.tables e below (s₁.setTop (entryFrame m #[.ref b, .int (Int32.ofNat o), .int (Int32.ofNat len)] 6)) (T6.setTop (mkF m 58 #[.val (.ref b), .val (.int (Int32.ofNat o)), .val (.int (Int32.ofNat len)), .val (.ref s.heap.size), .val (.int (Int32.ofNat len)), .unset] [.ref s.heap.size])) := c7.trans (by
    refine XS.istore X6.here hexec rfl (hb hbytes d12) rfl rfl ?_
    refine XS.iload X6.here hexec rfl (hb hbytes d14) rfl ?_
    refine XS.iloadN X6.here hexec rfl (hb hbytes d16) rfl ?_
    refine XS.icmpYes X6.here hexec rfl (pc0 := 17) rfl (hb hbytes d17) rfl (ii_eq_t rfl) (by decide) rfl ?_
    refine XS.aloadN X6.here hexec rfl (hb hbytes d57) rfl rfl ?_
    exact Steps.refl _)
  have X8 := X6.wide (L' := []) (cells' := 1) (slots' := len) (fun x hx hlt => by
    simp only [List.nil_append, copyLocs, List.mem_map, List.mem_range] at hx
    obtain ⟨i, -, rfl⟩ := hx
    exact absurd hlt (Nat.lt_irrefl _)) (Nat.le_refl _) (by omega)
  exact ⟨T6, some (.ref s.heap.size), _, _, _, X8, rfl, rfl, rfl, (fun h => by cases h), ⟨⟨rfl, B6, ba3.like (X3.warmed.alike.symm.trans X6.warmed.alike) p6.1 f6.1 f6.2.1 f6.2.2.1, f6.2.1.trans bv3, by rw [X6.warmed.alike.findClass, f6.1]; exact bf3, by rw [f6.2.2.1, bs3]; simp, fun j hj => by rw [f6.2.2.2 j, if_pos (by omega)]; rfl, kp3.put p6 (Nat.le_refl _)⟩, by rw [p6.2.2, bh3, hh0]; simp⟩, fun fs hl => c8.trans (X8.areturnOut hexec rfl hret rfl (hb hbytes d58) hl)⟩
end Cmp3
namespace CodL
def yN : MethodName := ⟨"java/lang/StringUTF16", "coderFromArrayLen", "([BI)B"⟩
abbrev yB : ByteArray := jdk_52_method_15_code
theorem d0 : decode yB 0 = .ok (.iload_n 1, 1) := by decide +kernel
theorem d1 : decode yB 1 = .ok (.aload_n 0, 1) := by decide +kernel
theorem d2 : decode yB 2 = .ok (.arraylength, 1) := by decide +kernel
theorem d3 : decode yB 3 = .ok (.isub, 1) := by decide +kernel
theorem d4 : decode yB 4 = .ok (.bipush 31, 2) := by decide +kernel
theorem d6 : decode yB 6 = .ok (.iushr, 1) := by decide +kernel
theorem d7 : decode yB 7 = .ok (.i2b, 1) := by decide +kernel
theorem d8 : decode yB 8 = .ok (.ireturn, 1) := by decide +kernel
def site : List Cond := []
def tab : Cond := tabOf yN yB 2 (some .byte) site
def P (d : Addr) (B : Cell) (args : Array Value) (s : State) : Prop := args = #[.ref d, .int (Int32.ofNat B.slots.size)] ∧ Arr .byte d B s
def E (r : Option Value) (s u : State) : Prop := XT.PureE (some (.int 0)) r s u
/-- an array as long as the number of chars: LATIN1 -/
theorem law (l : Launch) (d : Addr) (B : Cell) : Law l yN 2 2 0 0 yB 2 (some .byte) site (P d B) E [] 0 0 := by
  refine Law.of_walk (plainFor_of_name (by decide +kernel)) (by decide +kernel) (by decide +kernel) (by decide) (fun _ _ h => by rw [h.1]; rfl) (fun _ U U' hal hh h => ⟨h.1, h.2.mv hal hh⟩) (fun r U U' V V' h1 hal h2 h => XT.PureE.mv r U U' V V' h1 hal h2 h) ?_
  intro p e s m args below meth c s₁ X0 hexec hbytes hml hret hlk hnm hown hh0 W hP
  obtain ⟨rfl, hB⟩ := hP
  have hB0 := hB.mv X0.warmed.alike hh0
  have c1 : Steps p.tables e below (s₁.setTop (entryFrame m #[.ref d, .int (Int32.ofNat B.slots.size)] 2)) (s₁.setTop (mkF m 0 #[.val (.ref d), .val (.int (Int32.ofNat B.slots.size))] [])) := entry rfl
  have c2 : Steps p.tables e below (s₁.setTop (entryFrame m #[.ref d, .int (Int32.ofNat B.slots.size)] 2)) (s₁.setTop (mkF m 2 #[.val (.ref d), .val (.int (Int32.ofNat B.slots.size))] [.ref d, .int (Int32.ofNat B.slots.size)])) := c1.trans (by
    refine XS.iloadN X0.here hexec rfl (hb hbytes d0) rfl ?_
    refine XS.aloadN X0.here hexec rfl (hb hbytes d1) rfl rfl ?_
    exact Steps.refl _)
  have c3 : Steps p.tables e below (s₁.setTop (entryFrame m #[.ref d, .int (Int32.ofNat B.slots.size)] 2)) (s₁.setTop (mkF m 8 #[.val (.ref d), .val (.int (Int32.ofNat B.slots.size))] [.int (lo8 (ushr (Int32.ofNat B.slots.size - Int32.ofNat B.slots.size) 31))])) := c2.trans (by
    refine X0.alen hexec hB0 rfl rfl (hb hbytes d2) ?_
    refine XS.isub X0.here hexec rfl (hb hbytes d3) rfl ?_
    refine bipushV X0.here hexec rfl 31 (hb hbytes d4) (by decide) ?_
    refine iushr X0.here hexec rfl (hb hbytes d6) rfl ?_
    refine i2b X0.here hexec rfl (hb hbytes d7) rfl ?_
    exact Steps.refl _)
  have e0 : lo8 (ushr (Int32.ofNat B.slots.size - Int32.ofNat B.slots.size) 31) = 0 := by rw [Int32.sub_self]; decide
  rw [e0] at c3
  exact ⟨s₁, some (.int 0), _, _, _, X0, rfl, rfl, rfl, (fun h => by cases h), ⟨rfl, hh0⟩, fun fs hl => c3.trans (X0.ireturnOut hexec hret rfl (Or.inr (Or.inr (Or.inl rfl))) (hb hbytes d8) hl)⟩
end CodL
/-- the String at a is Latin-1 over a new byte[] (the heap's one new cell): the low bytes of the len chars of A from o on; every cell but a is kept -/
def Got (a : Addr) (D : Cell) (fV fC : Field) (A : Cell) (o len : Nat) (r : Option Value) (s u : State) : Prop := r = none ∧ ∃ D' V : Cell, Blank "java/lang/String" a D' u ∧ Same D D' [fV.slot, fC.slot] ∧ D'.slots[fV.slot]? = some (.ref s.heap.size) ∧ D'.slots[fC.slot]? = some (.int 0) ∧ Arr .byte s.heap.size V u ∧ V.vm = .none ∧ u.vm.findClass "[B" = some V.cls ∧ V.slots.size = len ∧ (∀ j, j < len → V.slots[j]? = some (.int (lo8 (cv A (o + j))))) ∧ (∀ (y : Addr) (c : Cell), y ≠ a → s.heap[y]? = some c → u.heap[y]? = some c) ∧ u.heap.size = s.heap.size + 1
theorem Got.mv {a : Addr} {D A : Cell} {fV fC : Field} {o len : Nat} : ∀ r (U U' V V' : State), U'.heap = U.heap → V.vm.Alike V'.vm → V'.heap = V.heap → Got a D fV fC A o len r U V → Got a D fV fC A o len r U' V' :=
  fun r U U' V V' h1 hal h2 ⟨e0, D', X, a1, a2, a3, a4, a5, a6, a7, a8, a9, a10, a11⟩ => ⟨e0, D', X, a1.mv hal h2, a2, by rw [h1]; exact a3, a4, by rw [h1]; exact a5.mv hal h2, a6, by rw [hal.findClass]; exact a7, a8, a9, by rw [h1, h2]; exact a10, by rw [h1, h2]; exact a11⟩
namespace New4
def yN : MethodName := ⟨"java/lang/String", "<init>", "([CIILjava/lang/Void;)V"⟩
abbrev yB : ByteArray := jdk_42_method_149_code
theorem d0 : decode yB 0 = .ok (.aload_n 0, 1) := by decide +kernel
theorem d1 : decode yB 1 = .ok (.invokespecial 1, 3) := by decide +kernel
theorem d4 : decode yB 4 = .ok (.iload_n 3, 1) := by decide +kernel
theorem d5 : decode yB 5 = .ok (.ifCond (.ne) 22, 3) := by decide +kernel
theorem d27 : decode yB 27 = .ok (.getstatic 38, 3) := by decide +kernel
theorem d30 : decode yB 30 = .ok (.ifCond (.eq) 28, 3) := by decide +kernel
theorem d33 : decode yB 33 = .ok (.aload_n 1, 1) := by decide +kernel
theorem d34 : decode yB 34 = .ok (.iload_n 2, 1) := by decide +kernel
theorem d35 : decode yB 35 = .ok (.iload_n 3, 1) := by decide +kernel
theorem d36 : decode yB 36 = .ok (.invokestatic 177, 3) := by decide +kernel
theorem d39 : decode yB 39 = .ok (.astore 5, 2) := by decide +kernel
theorem d41 : decode yB 41 = .ok (.aload_n 0, 1) := by decide +kernel
theorem d42 : decode yB 42 = .ok (.aload 5, 2) := by decide +kernel
theorem d44 : decode yB 44 = .ok (.iload_n 3, 1) := by decide +kernel
theorem d45 : decode yB 45 = .ok (.invokestatic 47, 3) := by decide +kernel
theorem d48 : decode yB 48 = .ok (.putfield 15, 3) := by decide +kernel
theorem d51 : decode yB 51 = .ok (.aload_n 0, 1) := by decide +kernel
theorem d52 : decode yB 52 = .ok (.aload 5, 2) := by decide +kernel
theorem d54 : decode yB 54 = .ok (.putfield 9, 3) := by decide +kernel
theorem d57 : decode yB 57 = .ok (.return_, 1) := by decide +kernel
def site : List Cond := [.fieldLink "java/lang/String" 38 "java/lang/String" "COMPACT_STRINGS" "Z", Cmp3.tab, CodL.tab, .laysFinal "java/lang/String" "java/lang/String" "value" "[B", .fieldLink "java/lang/String" 9 "java/lang/String" "value" "[B", .laysFinal "java/lang/String" "java/lang/String" "coder" "B", .fieldLink "java/lang/String" 15 "java/lang/String" "coder" "B"] ++ objW "java/lang/String" 1 ++ staticW "java/lang/String" 177 Cmp3.yN ++ staticW "java/lang/String" 47 CodL.yN
def tab : Cond := tabOf yN yB 6 none site
def P (a : Addr) (D : Cell) (fV fC : Field) (b : Addr) (A : Cell) (z : Int32) (o len : Nat) (args : Array Value) (s : State) : Prop := args = #[.ref a, .ref b, .int (Int32.ofNat o), .int (Int32.ofNat len), .null] ∧ Blank "java/lang/String" a D s ∧ Found "java/lang/String" "value" "[B" fV s ∧ Found "java/lang/String" "coder" "B" fC s ∧ Ch b A s ∧ StaticIs s "java/lang/String" "COMPACT_STRINGS" "Z" (.int z) ∧ ¬ z = 0 ∧ 0 < len ∧ o + len ≤ A.slots.size ∧ len ≤ 536870912 ∧ ∀ i, i < len → ¬ 255 < cv A (o + i)
def E (a : Addr) (D : Cell) (fV fC : Field) (A : Cell) (o len : Nat) (r : Option Value) (s u : State) : Prop := Got a D fV fC A o len r s u
/-- len > 0, no char of the range above 255: a Latin-1 String of their low bytes -/
theorem law (l : Launch) (a : Addr) (D : Cell) (fV fC : Field) (b : Addr) (A : Cell) (z : Int32) (o len : Nat) : Law l yN 5 4 2 35 yB 6 none site (P a D fV fC b A z o len) (E a D fV fC A o len) [⟨a, fC.slot⟩, ⟨a, fV.slot⟩] 1 len := by
  refine Law.of_walk (plainFor_of_name (by decide +kernel)) (by decide +kernel) (by decide +kernel) (by decide) (fun _ _ h => by rw [h.1]; rfl) (fun _ U U' hal hh h => ⟨h.1, h.2.1.mv hal hh, h.2.2.1.al hal, h.2.2.2.1.al hal, h.2.2.2.2.1.mv hal hh, h.2.2.2.2.2.1.there hal hh, h.2.2.2.2.2.2⟩) (fun r U U' V V' h1 hal h2 h => Got.mv r U U' V V' h1 hal h2 h) ?_
  intro p e s m args below meth c s₁ X0 hexec hbytes hml hret hlk hnm hown hh0 W hP
  obtain ⟨rfl, hB, f1, f2, hA, s1, hz, l0, l1, l2, hp⟩ := hP
  have a31 := hA.1.2.2.2
  have c1 : Steps p.tables e below (s₁.setTop (entryFrame m #[.ref a, .ref b, .int (Int32.ofNat o), .int (Int32.ofNat len), .null] 6)) (s₁.setTop (mkF m 0 #[.val (.ref a), .val (.ref b), .val (.int (Int32.ofNat o)), .val (.int (Int32.ofNat len)), .val .null, .unset] [])) := entry rfl
  have c2 : Steps p.tables e below (s₁.setTop (entryFrame m #[.ref a, .ref b, .int (Int32.ofNat o), .int (Int32.ofNat len), .null] 6)) (s₁.setTop (mkF m 1 #[.val (.ref a), .val (.ref b), .val (.int (Int32.ofNat o)), .val (.int (Int32.ofNat len)), .val .null, .unset] [.ref a])) := c1.trans (by
    refine XS.aloadN X0.here hexec rfl (hb hbytes d0) rfl rfl ?_
    exact Steps.refl _)
  obtain ⟨T3, X3, q3, st3⟩ := X0.oinit hexec hown (wks W (objW "java/lang/String" 1)) (g := (mkF m 1 #[.val (.ref a), .val (.ref b), .val (.int (Int32.ofNat o)), .val (.int (Int32.ofNat len)), .val .null, .unset] [.ref a])) rfl (by rw [hml]; rfl) (rest := []) rfl (hb hbytes d1) (W := 0) (by show 2 * 0 + 0 ≤ _; decide) (Nat.le_of_ble_eq_true rfl) (Nat.le_of_ble_eq_true rfl)
  have hh3 := q3.trans hh0
  have c4 : Steps p.tables e below (s₁.setTop (entryFrame m #[.ref a, .ref b, .int (Int32.ofNat o), .int (Int32.ofNat len), .null] 6)) (T3.setTop (mkF m 27 #[.val (.ref a), .val (.ref b), .val (.int (Int32.ofNat o)), .val (.int (Int32.ofNat len)), .val .null, .unset] [])) := (c2.trans (st3 _ (Steps.refl _))).trans (by
    refine XS.iloadN X3.here hexec rfl (hb hbytes d4) rfl ?_
    refine XS.ifYes X3.here hexec rfl (pc0 := 5) rfl (hb hbytes d5) rfl (i0_ne_t (nz32 (by omega) l0)) (by decide) rfl ?_
    exact Steps.refl _)
  obtain ⟨T5, X5, q5, st5⟩ := X3.sget hexec hown (wk W (.fieldLink "java/lang/String" 38 "java/lang/String" "COMPACT_STRINGS" "Z")) s1 (fun _ _ h => by rw [hh3]; exact h) (g := (mkF m 27 #[.val (.ref a), .val (.ref b), .val (.int (Int32.ofNat o)), .val (.int (Int32.ofNat len)), .val .null, .unset] [])) rfl (hb hbytes d27)
  have hh5 := q5.trans hh3
  have c6 : Steps p.tables e below (s₁.setTop (entryFrame m #[.ref a, .ref b, .int (Int32.ofNat o), .int (Int32.ofNat len), .null] 6)) (T5.setTop (mkF m 30 #[.val (.ref a), .val (.ref b), .val (.int (Int32.ofNat o)), .val (.int (Int32.ofNat len)), .val .null, .unset] [.int z])) := c4.trans (st5 _ (Steps.refl _))
  have c7 : Steps p.tables e below (s₁.setTop (entryFrame m #[.ref a, .ref b, .int (Int32.ofNat o), .int (Int32.ofNat len), .null] 6)) (T5.setTop (mkF m 36 #[.val (.ref a), .val (.ref b), .val (.int (Int32.ofNat o)), .val (.int (Int32.ofNat len)), .val .null, .unset] [.int (Int32.ofNat len), .int (Int32.ofNat o), .ref b])) := c6.trans (by
    refine XS.ifNo X5.here hexec rfl (hb hbytes d30) rfl (i0_eq_f hz) ?_
    refine XS.aloadN X5.here hexec rfl (hb hbytes d33) rfl rfl ?_
    refine XS.iloadN X5.here hexec rfl (hb hbytes d34) rfl ?_
    refine XS.iloadN X5.here hexec rfl (hb hbytes d35) rfl ?_
    exact Steps.refl _)
  obtain ⟨v8, T8, X8, E8, g8⟩ := X5.callS hexec (Cmp3.law l b A o len) hown (wks W (staticW "java/lang/String" 177 Cmp3.yN)) (wk W Cmp3.tab) (W := 0) (Nat.le_of_ble_eq_true rfl) (Nat.le_of_ble_eq_true rfl) (Nat.le_refl _) (by show 0 + len ≤ len; omega) (g := (mkF m 36 #[.val (.ref a), .val (.ref b), .val (.int (Int32.ofNat o)), .val (.int (Int32.ofNat len)), .val .null, .unset] [.int (Int32.ofNat len), .int (Int32.ofNat o), .ref b])) rfl (by rw [hml]; rfl) c7 (argsL := [.ref b, .int (Int32.ofNat o), .int (Int32.ofNat len)]) (rest := []) rfl rfl (by show 2 * 0 + 0 ≤ _; decide) (hb hbytes d36) (⟨rfl, hA.mv X5.warmed.alike hh5, l1, l2, hp⟩)
  obtain ⟨e8, z8⟩ := E8
  obtain ⟨rfl, N, n1, n2, n3, n4, n5, n6⟩ := NewArr.mv _ T5 s _ _ hh5.symm (Vm.Alike.refl _) rfl e8
  rw [hh5] at z8
  have hB1 := hB.keep X8.warmed.alike (n6 _ _ hB.1)
  have hne : s.heap.size ≠ a := (Nat.ne_of_lt (Array.getElem?_eq_some_iff.mp hB.1).1).symm
  have c9 : Steps p.tables e below (s₁.setTop (entryFrame m #[.ref a, .ref b, .int (Int32.ofNat o), .int (Int32.ofNat len), .null] 6)) (T8.setTop (mkF m 39 #[.val (.ref a), .val (.ref b), .val (.int (Int32.ofNat o)), .val (.int (Int32.ofNat len)), .val .null, .unset] [.ref s.heap.size])) := g8
  have c10 : Steps p.tables e below (s₁.setTop (entryFrame m #[.ref a, .ref b, .int (Int32.ofNat o), .int (Int32.ofNat len), .null] 6)) (T8.setTop (mkF m 45 #[.val (.ref a), .val (.ref b), .val (.int (Int32.ofNat o)), .val (.int (Int32.ofNat len)), .val .null, .val (.ref s.heap.size)] [.int (Int32.ofNat N.slots.size), .ref s.heap.size, .ref a])) := by
    have hc : Steps p.tables e below (s₁.setTop (entryFrame m #[.ref a, .ref b, .int (Int32.ofNat o), .int (Int32.ofNat len), .null] 6)) (T8.setTop (mkF m 45 #[.val (.ref a), .val (.ref b), .val (.int (Int32.ofNat o)), .val (.int (Int32.ofNat len)), .val .null, .val (.ref s.heap.size)] [.int (Int32.ofNat len), .ref s.heap.size, .ref a])) := c9.trans (by
      refine XS.astore X8.here hexec rfl (hb hbytes d39) rfl rfl rfl ?_
      refine XS.aloadN X8.here hexec rfl (hb hbytes d41) rfl rfl ?_
      refine XS.aload X8.here hexec rfl (hb hbytes d42) rfl rfl ?_
      refine XS.iloadN X8.here hexec rfl (hb hbytes d44) rfl ?_
      exact Steps.refl _)
    rw [n4]; exact hc
  obtain ⟨v11, T11, X11, E11, g11⟩ := X8.callS hexec (CodL.law l s.heap.size N) hown (wks W (staticW "java/lang/String" 47 CodL.yN)) (wk W CodL.tab) (W := 1) (Nat.le_of_ble_eq_true rfl) (Nat.le_of_ble_eq_true rfl) (Nat.le_refl _) (by show 0 + len + 0 ≤ len; omega) (g := (mkF m 45 #[.val (.ref a), .val (.ref b), .val (.int (Int32.ofNat o)), .val (.int (Int32.ofNat len)), .val .null, .val (.ref s.heap.size)] [.int (Int32.ofNat N.slots.size), .ref s.heap.size, .ref a])) rfl (by rw [hml]; rfl) c10 (argsL := [.ref s.heap.size, .int (Int32.ofNat N.slots.size)]) (rest := [.ref a]) rfl rfl (by show 2 * 0 + (1 + 0) ≤ _; decide) (hb hbytes d45) (⟨rfl, n1⟩)
  obtain ⟨rfl, q11⟩ := E11
  have hB11 := hB1.mv (X8.warmed.alike.symm.trans X11.warmed.alike) q11
  have c12 : Steps p.tables e below (s₁.setTop (entryFrame m #[.ref a, .ref b, .int (Int32.ofNat o), .int (Int32.ofNat len), .null] 6)) (T11.setTop (mkF m 48 #[.val (.ref a), .val (.ref b), .val (.int (Int32.ofNat o)), .val (.int (Int32.ofNat len)), .val .null, .val (.ref s.heap.size)] [.int 0, .ref a])) := g11
  obtain ⟨T13, X13, p13, bl13, sl13, st13⟩ := X11.finit hexec hown (wk W (.fieldLink "java/lang/String" 15 "java/lang/String" "coder" "B")) (Or.inr ⟨_, (wk W (.laysFinal "java/lang/String" "java/lang/String" "coder" "B"))⟩) (Or.inl ⟨rfl, hnm⟩) f2 (Or.inl rfl) hB11 (t := .byte) (by decide +kernel) rfl (g := (mkF m 48 #[.val (.ref a), .val (.ref b), .val (.int (Int32.ofNat o)), .val (.int (Int32.ofNat len)), .val .null, .val (.ref s.heap.size)] [.int 0, .ref a])) rfl (rest := []) rfl (hb hbytes d48)
  have c14 : Steps p.tables e below (s₁.setTop (entryFrame m #[.ref a, .ref b, .int (Int32.ofNat o), .int (Int32.ofNat len), .null] 6)) (T13.setTop (mkF m 54 #[.val (.ref a), .val (.ref b), .val (.int (Int32.ofNat o)), .val (.int (Int32.ofNat len)), .val .null, .val (.ref s.heap.size)] [.ref s.heap.size, .ref a])) := (c12.trans (st13 _ (Steps.refl _))).trans (by
    refine XS.aloadN X13.here hexec rfl (hb hbytes d51) rfl rfl ?_
    refine XS.aload X13.here hexec rfl (hb hbytes d52) rfl rfl ?_
    exact Steps.refl _)
  obtain ⟨T15, X15, p15, bl15, sl15, st15⟩ := X13.finit hexec hown (wk W (.fieldLink "java/lang/String" 9 "java/lang/String" "value" "[B")) (Or.inr ⟨_, (wk W (.laysFinal "java/lang/String" "java/lang/String" "value" "[B"))⟩) (Or.inl ⟨rfl, hnm⟩) f1 (Or.inl rfl) bl13 (t := (.array .byte)) (by decide +kernel) rfl (g := (mkF m 54 #[.val (.ref a), .val (.ref b), .val (.int (Int32.ofNat o)), .val (.int (Int32.ofNat len)), .val .null, .val (.ref s.heap.size)] [.ref s.heap.size, .ref a])) rfl (rest := []) rfl (hb hbytes d54)
  have c16 : Steps p.tables e below (s₁.setTop (entryFrame m #[.ref a, .ref b, .int (Int32.ofNat o), .int (Int32.ofNat len), .null] 6)) (T15.setTop (mkF m 57 #[.val (.ref a), .val (.ref b), .val (.int (Int32.ofNat o)), .val (.int (Int32.ofNat len)), .val .null, .val (.ref s.heap.size)] [])) := c14.trans (st15 _ (Steps.refl _))
  have ap := apart (Or.inr ⟨_, (wk W (.laysFinal "java/lang/String" "java/lang/String" "value" "[B"))⟩) (Or.inr ⟨_, (wk W (.laysFinal "java/lang/String" "java/lang/String" "coder" "B"))⟩) f1 f2 (t₁ := .array .byte) (t₂ := .byte) (by decide +kernel) (by decide +kernel) (by decide)
  have al := X8.warmed.alike.symm.trans X15.warmed.alike
  have n7 : T11.heap[s.heap.size]? = some N := by rw [q11]; exact n1.1
  exact ⟨T15, none, _, _, _, X15, by simp, rfl, by omega, (fun _ => rfl), ⟨rfl, _, N, bl15, ((Same.refl D _).set _ (by simp)).set _ (by simp), sl15, (Cell.slots_setSlot_ne _ ap).trans sl13, n1.keep al (p15.other hne (p13.other hne n7)), n2, by rw [al.findClass]; exact n3, n4, n5, fun y c h1 h2 => p15.other h1 (p13.other h1 (by rw [q11]; exact n6 y c h2)), by rw [p15.2.2, p13.2.2, q11]; exact z8⟩, fun fs hl => c16.trans (X15.returnOut hexec hret (hb hbytes d57) hl)⟩
end New4
namespace New1
def yN : MethodName := ⟨"java/lang/String", "<init>", "([C)V"⟩
abbrev yB : ByteArray := jdk_42_method_3_code
theorem d0 : decode yB 0 = .ok (.aload_n 0, 1) := by decide +kernel
theorem d1 : decode yB 1 = .ok (.aload_n 1, 1) := by decide +kernel
theorem d2 : decode yB 2 = .ok (.iconst 0, 1) := by decide +kernel
theorem d3 : decode yB 3 = .ok (.aload_n 1, 1) := by decide +kernel
theorem d4 : decode yB 4 = .ok (.arraylength, 1) := by decide +kernel
theorem d5 : decode yB 5 = .ok (.aconst_null, 1) := by decide +kernel
theorem d6 : decode yB 6 = .ok (.invokespecial 27, 3) := by decide +kernel
theorem d9 : decode yB 9 = .ok (.return_, 1) := by decide +kernel
def site : List Cond := [New4.tab] ++ initW "java/lang/String" 27 New4.yN
def tab : Cond := tabOf yN yB 2 none site
def P (a : Addr) (D : Cell) (fV fC : Field) (b : Addr) (A : Cell) (z : Int32) (args : Array Value) (s : State) : Prop := args = #[.ref a, .ref b] ∧ Blank "java/lang/String" a D s ∧ Found "java/lang/String" "value" "[B" fV s ∧ Found "java/lang/String" "coder" "B" fC s ∧ Ch b A s ∧ StaticIs s "java/lang/String" "COMPACT_STRINGS" "Z" (.int z) ∧ ¬ z = 0 ∧ 0 < A.slots.size ∧ A.slots.size ≤ 536870912 ∧ ∀ i, i < A.slots.size → ¬ 255 < cv A i
def E (a : Addr) (D : Cell) (fV fC : Field) (A : Cell) (r : Option Value) (s u : State) : Prop := Got a D fV fC A 0 A.slots.size r s u
/-- new String(chars), not empty, no char above 255: a Latin-1 String of their low bytes -/
theorem law (l : Launch) (a : Addr) (D : Cell) (fV fC : Field) (b : Addr) (A : Cell) (z : Int32) : Law l yN 2 1 3 52 yB 2 none site (P a D fV fC b A z) (E a D fV fC A) [⟨a, fC.slot⟩, ⟨a, fV.slot⟩] 1 A.slots.size := by
  refine Law.of_walk (plainFor_of_name (by decide +kernel)) (by decide +kernel) (by decide +kernel) (by decide) (fun _ _ h => by rw [h.1]; rfl) (fun _ U U' hal hh h => ⟨h.1, h.2.1.mv hal hh, h.2.2.1.al hal, h.2.2.2.1.al hal, h.2.2.2.2.1.mv hal hh, h.2.2.2.2.2.1.there hal hh, h.2.2.2.2.2.2⟩) (fun r U U' V V' h1 hal h2 h => Got.mv r U U' V V' h1 hal h2 h) ?_
  intro p e s m args below meth c s₁ X0 hexec hbytes hml hret hlk hnm hown hh0 W hP
  obtain ⟨rfl, hB, f1, f2, hA, s1, hz, l0, l2, hp⟩ := hP
  have c1 : Steps p.tables e below (s₁.setTop (entryFrame m #[.ref a, .ref b] 2)) (s₁.setTop (mkF m 0 #[.val (.ref a), .val (.ref b)] [])) := entry rfl
  have c2 : Steps p.tables e below (s₁.setTop (entryFrame m #[.ref a, .ref b] 2)) (s₁.setTop (mkF m 6 #[.val (.ref a), .val (.ref b)] [.null, .int (Int32.ofNat A.slots.size), .int 0, .ref b, .ref a])) := c1.trans (by
    refine XS.aloadN X0.here hexec rfl (hb hbytes d0) rfl rfl ?_
    refine XS.aloadN X0.here hexec rfl (hb hbytes d1) rfl rfl ?_
    refine iconstV X0.here hexec rfl 0 (hb hbytes d2) (by decide) ?_
    refine XS.aloadN X0.here hexec rfl (hb hbytes d3) rfl rfl ?_
    refine X0.alen hexec (hA.1.mv X0.warmed.alike hh0) rfl rfl (hb hbytes d4) ?_
    refine XS.aconstNull X0.here hexec rfl (hb hbytes d5) ?_
    exact Steps.refl _)
  obtain ⟨v3, T3, X3, E3, g3⟩ := X0.callN hexec (New4.law l a D fV fC b A z 0 A.slots.size) rfl hown (wks W (initW "java/lang/String" 27 New4.yN)) (W New4.tab (by simp only [site, List.mem_cons, List.mem_append, true_or, or_true])) (W := 0) (Nat.le_of_ble_eq_true rfl) (Nat.le_of_ble_eq_true rfl) (Nat.le_refl _) (by show 0 + A.slots.size ≤ A.slots.size; omega) (g := (mkF m 6 #[.val (.ref a), .val (.ref b)] [.null, .int (Int32.ofNat A.slots.size), .int (Int32.ofNat 0), .ref b, .ref a])) rfl (by rw [hml]; rfl) c2 (argsL := [.ref b, .int (Int32.ofNat 0), .int (Int32.ofNat A.slots.size), .null]) (rest := []) rfl rfl (by show 2 * 0 + 0 ≤ _; decide) (hb hbytes d6) (⟨rfl, hB.mv X0.warmed.alike hh0, f1.al X0.warmed.alike, f2.al X0.warmed.alike, hA.mv X0.warmed.alike hh0, s1.there X0.warmed.alike hh0, hz, l0, by omega, l2, fun i hi => by rw [Nat.zero_add]; exact hp i hi⟩)
  have e0 := Got.mv _ s₁ s _ _ hh0.symm (Vm.Alike.refl _) rfl E3
  obtain rfl := e0.1
  have c4 : Steps p.tables e below (s₁.setTop (entryFrame m #[.ref a, .ref b] 2)) (T3.setTop (mkF m 9 #[.val (.ref a), .val (.ref b)] [])) := g3
  exact ⟨T3, none, _, _, _, X3, by simp, rfl, by omega, (fun _ => rfl), e0, fun fs hl => c4.trans (X3.returnOut hexec hret (hb hbytes d9) hl)⟩
theorem pays {l : Launch} {R : Room} {p : Program} {e : Env} {below : List Frame} {s : State} {sargs : Array Value} {len W : Nat} (a : Addr) (D : Cell) (fV fC : Field) (b : Addr) (A : Cell) (z : Int32) (htab : tab.before sargs s = true) (hfr : 4 ≤ R.frames) (hlo : W + 65 ≤ R.locals) :
    Back l R p e below s sargs yN len W (fun A₁ a₁ => A₁.cells + 1 ≤ R.cells ∧ A₁.slots + A.slots.size ≤ R.slots ∧ P a D fV fC b A z a₁ A₁.U) (fun A₁ _ v₁ B₁ => E a D fV fC A v₁ A₁.U B₁.U ∧ B₁.locs = A₁.locs ++ [⟨a, fC.slot⟩, ⟨a, fV.slot⟩] ∧ B₁.cells = A₁.cells + 1 ∧ B₁.slots = A₁.slots + A.slots.size) :=
  (law l a D fV fC b A z).pays htab hfr (by omega)
end New1
/-- the byte, read back as charAt reads it, is the char -/
theorem lo8_mask {x : Int32} (h0 : ¬ x < 0) (h1 : ¬ 255 < x) : lo8 x &&& 255 = x := by
  have t : ∀ k : Fin 256, lo8 (Int32.ofNat k.val) &&& 255 = Int32.ofNat k.val := by decide +kernel
  rw [Int32.lt_iff_toInt_lt] at h0 h1
  have e0 : (0 : Int32).toInt = 0 := rfl
  have e1 : (255 : Int32).toInt = 255 := rfl
  obtain ⟨k, hk⟩ : ∃ k : Nat, x.toInt = k := ⟨x.toInt.toNat, by omega⟩
  have hx : x = Int32.ofNat k := Int32.toInt_inj.mp (by rw [hk, Int32.toInt_ofNat_small (by omega)])
  rw [hx]
  exact t ⟨k, by omega⟩
end StrChars
namespace StrChars.Road
open Jvm Sem ClassFile Op Lib Jvm.Stand Jvm.Free Jvm.Free.XT
open Jvm.Lib.Cold (StaticIs)
abbrev ST : String := "java/lang/String"
/-- every table word that New1's law asks, flat -/
abbrev words : List Jvm.Cond := [.code New1.yN New1.yB 2 none, .initialized ST, .methodLink ST 27 New4.yN, .instanceMethod New4.yN,
  .code New4.yN New4.yB 6 none, .fieldLink ST 38 ST "COMPACT_STRINGS" "Z", .laysFinal ST ST "value" "[B", .fieldLink ST 9 ST "value" "[B", .laysFinal ST ST "coder" "B", .fieldLink ST 15 ST "coder" "B",
  .methodLink ST 1 Lib.objectInit, .instanceMethod Lib.objectInit, .code Lib.objectInit ⟨#[0xb1]⟩ 1 none, .methodLink ST 177 Cmp3.yN, .static Cmp3.yN, .methodLink ST 47 CodL.yN, .static CodL.yN,
  .code Cmp3.yN Cmp3.yB 6 (some (.array .byte)), .initialized U16, .arrayClass .byte, .methodLink U16 115 Cmp5.yN, .static Cmp5.yN, .code Cmp5.yN Cmp5.yB 7 (some .int), .code CodL.yN CodL.yB 2 (some .byte)]
theorem tab_of {a : Array Value} {s : State} (h : ∀ w ∈ words, w.before a s = true) : New1.tab.before a s = true := by
  have h5 : Cmp5.tab.before a s = true := unparts (wk h (.code Cmp5.yN Cmp5.yB 7 (some .int))) (wks h (.initialized Cmp5.yN.cls :: Cmp5.site))
  have hc : CodL.tab.before a s = true := unparts (wk h (.code CodL.yN CodL.yB 2 (some .byte))) (wks h (.initialized CodL.yN.cls :: CodL.site))
  have q5 : ∀ w ∈ Cmp5.tab :: words, w.before a s = true := fun w hw => (List.mem_cons.mp hw).elim (fun e => e ▸ h5) (h w)
  have h3 : Cmp3.tab.before a s = true := unparts (wk q5 (.code Cmp3.yN Cmp3.yB 6 (some (.array .byte)))) (wks q5 (.initialized Cmp3.yN.cls :: Cmp3.site))
  have q3 : ∀ w ∈ Cmp3.tab :: CodL.tab :: words, w.before a s = true := fun w hw => (List.mem_cons.mp hw).elim (fun e => e ▸ h3) fun hw => (List.mem_cons.mp hw).elim (fun e => e ▸ hc) (h w)
  have h4 : New4.tab.before a s = true := unparts (wk q3 (.code New4.yN New4.yB 6 none)) (wks q3 (.initialized New4.yN.cls :: New4.site))
  have q4 : ∀ w ∈ New4.tab :: words, w.before a s = true := fun w hw => (List.mem_cons.mp hw).elim (fun e => e ▸ h4) (h w)
  exact unparts (wk q4 (.code New1.yN New1.yB 2 none)) (wks q4 (.initialized New1.yN.cls :: New1.site))
/-- the words ride from the start Z to the walk's own state -/
theorem moved {Z s : State} {a0 args : Array Value} (hZ : Z.Warmed39 s.vm) (hw : ∀ d ∈ words, d.before a0 Z = true) : ∀ d ∈ words, d.before args s = true := fun d hd => by
  have q := hw d hd
  have t : ∀ d ∈ words, d = .arrayClass .byte ∨ (d.onTables && d.keepsFace) = true := by decide +kernel
  rcases t d hd with rfl | t
  · exact RoadKit.mvA hZ q
  · exact RoadKit.mv hZ q t
/-- WHAT COMES BACK, over the tables of the start Z: h the heap at the call, h' behind it -/
def Q (Z : State) (x : Addr) (A : Cell) (h : Heap) (v : Option Value) (h' : Heap) (L : List Loc) : Prop := v = none ∧ (∀ y ∈ L, y.base = x) ∧ RoadKit.Keep h h' [x] ∧ h'.size = h.size + 1 ∧ RoadKit.Exa Z h' x ST ∧ RoadKit.Fld Z h' x ST "value" "[B" (.ref h.size) ∧ RoadKit.Fld Z h' x ST "coder" "B" (.int 0) ∧
  (∃ V : Cell, RoadKit.Arr Z h' h.size V .byte ∧ V.vm = .none ∧ Z.vm.findClass "[B" = some V.cls ∧ V.slots.size = A.slots.size ∧ ∀ j, j < A.slots.size → V.slots[j]? = some (.int (lo8 (cv A j)))) ∧
  ∀ (O n d : String) (w : Value), RoadKit.Fld Z h x O n d w → RoadKit.slotOf Z O n d ≠ RoadKit.slotOf Z ST "value" "[B" → RoadKit.slotOf Z O n d ≠ RoadKit.slotOf Z ST "coder" "B" → RoadKit.Fld Z h' x O n d w
/-- **new String(chars) AT A CALL, IN THE ROAD'S FORM**: for specialBack behind newO: x the fresh String, b the char[] with the cell A -/
theorem back {p : Program} {l : Launch} {e : Env} {R : Room} {s : State} {args : Array Value} {below : List Frame} {len W : Nat} {Z : State} {a0 : Array Value} {h : Heap} (hZ : Z.Warmed39 s.vm) (hw : ∀ d ∈ words, d.before a0 Z = true) {kI : Nat} (wi : (Jvm.Cond.instantiable ST kI).before a0 Z = true)
    {x b : Addr} {A : Cell} {z : Int32} {v0 c0 : Value} (E : RoadKit.Exa Z h x ST) (V : RoadKit.Fld Z h x ST "value" "[B" v0) (C : RoadKit.Fld Z h x ST "coder" "B" c0) (K : RoadKit.Arr Z h b A .char) (hty : Typed .char A) (S : RoadKit.Sta Z h ST "COMPACT_STRINGS" "Z" (.int z)) (hz : ¬ z = 0)
    (l0 : 0 < A.slots.size) (l2 : A.slots.size ≤ 536870912) (hp : ∀ i, i < A.slots.size → ¬ 255 < cv A i) (hfr : 4 ≤ R.frames) (hlo : W + 65 ≤ R.locals) :
    Back l R p e below s args New1.yN len W (fun P a => a = #[.ref x, .ref b] ∧ P.U.heap = h ∧ P.cells + 1 ≤ R.cells ∧ P.slots + A.slots.size ≤ R.slots)
      (fun P _ v B => ∃ L, Q Z x A h v B.U.heap L ∧ B.locs = P.locs ++ L ∧ B.cells = P.cells + 1 ∧ B.slots = P.slots + A.slots.size) := by
  intro m meth c P g ig mk a X hg hsize hdg hW hn hp'
  obtain ⟨rfl, rfl, r1, r2⟩ := hp'
  have al : Z.vm.Alike P.U.vm := hZ.alike.trans X.warmed.alike
  obtain ⟨D, cfV, kV, iV, fV, hD, gV, stV, knV, obV, asV, slV⟩ := id V
  obtain ⟨D', cfC, kC, iC, fC, hD', gC, stC, -, -, asC, slC⟩ := id C
  cases hD.symm.trans hD'
  obtain ⟨D2, kD, e1, e2, e3, e4, e5⟩ := id E
  cases hD.symm.trans e1
  obtain ⟨c2, k2, i1, i2, i3, -⟩ := Cond.instantiable_spec wi
  cases e2.symm.trans i1
  cases e3.symm.trans i2
  obtain ⟨kU, u1, u2⟩ := al.2.2 _ _ e3
  have hB : Blank ST x D P.U := ⟨hD, ⟨knV, fun q hq => by rw [hq] at obV; cases obV⟩, by rw [al.findClass]; exact e2, kU, u1, by rw [u2]; exact i3, by rw [u2]; exact e5 i3⟩
  have F1 : Found ST "value" "[B" fV P.U := ⟨SBG.found_only al ⟨cfV, kV, iV, gV⟩, stV⟩
  have F2 : Found ST "coder" "B" fC P.U := ⟨SBG.found_only al ⟨cfC, kC, iC, gC⟩, stC⟩
  have hA : Ch b A P.U := ⟨⟨K.1, State.isArrayOf_alike al K.2.1, K.2.2, by omega⟩, hty⟩
  have hS : StaticIs P.U ST "COMPACT_STRINGS" "Z" (.int z) := by
    obtain ⟨cfS, iS, kS, fS, st, cS, t1, t2, t3, t4, t5, t6, t7⟩ := S
    exact StaticIs.there (s := { Z with heap := P.U.heap }) ⟨cfS, iS, kS, fS, st, cS, t1, t2, t3, t4, t5, (fun q => by rw [q] at t6; cases t6), t7⟩ al rfl
  obtain ⟨v, B, X', ⟨⟨hv, E', V', q1, q2, q3, q4, q5, q6, q7, q8, q9, q10, q11⟩, hl, hc, hs⟩, st⟩ := New1.pays x D fV fC b A z (tab_of (moved hZ hw)) hfr hlo m meth c P g ig mk _ X hg hsize hdg hW hn ⟨r1, r2, rfl, hB, F1, F2, hA, hS, hz, l0, l2, hp⟩
  have al' : Z.vm.Alike B.U.vm := hZ.alike.trans X'.warmed.alike
  have hsz : E'.slots.size = D.slots.size := by
    obtain ⟨-, -, -, kB, w1, w2, w3⟩ := q1
    obtain ⟨kB', y1, y2⟩ := al'.2.2 _ _ e3
    rw [q2.2.1] at w1
    cases w1.symm.trans y1
    rw [w3, e5 i3, y2]
  refine ⟨v, B, X', ⟨_, ⟨hv, ?_, ⟨by omega, fun y cy hy hn' => q10 y cy (by simpa using hn') hy, fun y cy hy => ?_⟩, q11, ⟨E', _, q1.1, by rw [q2.2.1]; exact e2, by rw [q2.2.1]; exact e3, by rw [q2.1]; exact obV, fun _ => by rw [hsz]; exact e5 i3⟩,
    ⟨E', cfV, kV, iV, fV, q1.1, gV, stV, by rw [q2.1]; exact knV, by rw [q2.1]; exact obV, by rw [q2.2.1]; exact asV, q3⟩, ⟨E', cfC, kC, iC, fC, q1.1, gC, stC, by rw [q2.1]; exact knV, by rw [q2.1]; exact obV, by rw [q2.2.1]; exact asC, q4⟩,
    ⟨V', ⟨q5.1, State.isArrayOf_alike al'.symm q5.2.1, q5.2.2.1⟩, q6, by rw [← al'.findClass]; exact q7, q8, fun j hj => by have := q9 j hj; rwa [Nat.zero_add] at this⟩, fun O n d w F n1 n2 => ?_⟩, hl, hc, hs⟩, st⟩
  · intro y hy
    simp only [List.mem_cons, List.not_mem_nil, or_false] at hy
    rcases hy with rfl | rfl <;> rfl
  · by_cases q : y = x
    · subst q
      cases hD.symm.trans hy
      exact ⟨E', q1.1, q2.2.1, q2.1, hsz⟩
    · exact ⟨cy, q10 y cy q hy, rfl, rfl, rfl⟩
  · obtain ⟨D3, cf, k, i, f, g1, g2, g3, g4, g5, g6, g7⟩ := F
    cases hD.symm.trans g1
    simp only [RoadKit.slotOf, g2, gV, gC, Option.map_some, Option.getD_some] at n1 n2
    exact ⟨E', cf, k, i, f, q1.1, g2, g3, by rw [q2.1]; exact g4, by rw [q2.1]; exact g5, by rw [q2.2.1]; exact g6, by rw [q2.2.2 f.slot (by simp [n1, n2])]; exact g7⟩
end StrChars.Road
namespace StrChars.Road
open Jvm Sem ClassFile Op Lib Jvm.Stand Jvm.Free Jvm.Free.XT
/-- WHAT COMES BACK, the byte[] as a list of values -/
def QA (Z : State) (x : Addr) (zn : Int32) (cs : List Int32) (h : Heap) (v : Option Value) (h' : Heap) (L : List Loc) : Prop := v = none ∧ (∀ y ∈ L, y.base = x) ∧ RoadKit.Keep h h' [x] ∧ h'.size = h.size + 1 ∧ RoadKit.Exa Z h' x ST ∧ RoadKit.Fld Z h' x ST "value" "[B" (.ref h.size) ∧ RoadKit.Fld Z h' x ST "coder" "B" (.int 0) ∧
  (∃ kb, Z.vm.findClass "[B" = some kb ∧ RoadKit.Arv Z h' h.size kb .byte zn (cs.map fun c => .int (lo8 c)) (.int 0)) ∧
  ∀ (O n d : String) (w : Value), RoadKit.Fld Z h x O n d w → RoadKit.slotOf Z O n d ≠ RoadKit.slotOf Z ST "value" "[B" → RoadKit.slotOf Z O n d ≠ RoadKit.slotOf Z ST "coder" "B" → RoadKit.Fld Z h' x O n d w
/-- **new String(chars) AT A CALL, THE ARRAYS AS LISTS**: the char[] at b holds cs, not empty, no char above 255 -/
theorem backArv {p : Program} {l : Launch} {e : Env} {R : Room} {s : State} {args : Array Value} {below : List Frame} {len W : Nat} {Z : State} {a0 : Array Value} {h : Heap} (hZ : Z.Warmed39 s.vm) (hw : ∀ d ∈ words, d.before a0 Z = true) {kI : Nat} (wi : (Jvm.Cond.instantiable ST kI).before a0 Z = true)
    {x b : Addr} {k : ClassId} {zn z : Int32} {cs : List Int32} {dv v0 c0 : Value} (E : RoadKit.Exa Z h x ST) (V : RoadKit.Fld Z h x ST "value" "[B" v0) (C : RoadKit.Fld Z h x ST "coder" "B" c0) (K : RoadKit.Arv Z h b k .char zn (cs.map Value.int) dv) (S : RoadKit.Sta Z h ST "COMPACT_STRINGS" "Z" (.int z)) (hz : ¬ z = 0)
    (hlen : zn.toNatClampNeg = cs.length) (h0 : 0 < cs.length) (hbig : cs.length ≤ 536870912) (hall : ∀ c ∈ cs, ¬ 255 < c) (hfr : 4 ≤ R.frames) (hlo : W + 65 ≤ R.locals) :
    Back l R p e below s args New1.yN len W (fun P a => a = #[.ref x, .ref b] ∧ P.U.heap = h ∧ P.cells + 1 ≤ R.cells ∧ P.slots + cs.length ≤ R.slots)
      (fun P _ v B => ∃ L, QA Z x zn cs h v B.U.heap L ∧ B.locs = P.locs ++ L ∧ B.cells = P.cells + 1 ∧ B.slots = P.slots + cs.length) := by
  obtain ⟨A, K1, K2, K3, K4, K5, K6⟩ := K
  have e : A.slots.size = cs.length := K3.trans hlen
  have hat : ∀ (i : Nat) (hi : i < cs.length), A.slots[i]? = some (.int cs[i]) := fun i hi => by rw [K5 i (by omega)]; simp [List.getD_eq_getElem?_getD, hi]
  have hcv : ∀ (i : Nat) (hi : i < cs.length), cv A i = cs[i] := fun i hi => by unfold cv; rw [hat i hi]
  have hty : Typed .char A := fun i v hv => by
    have hi : i < A.slots.size := (Array.getElem?_eq_some_iff.mp hv).1
    have q := K5 i hi
    rw [hv] at q
    rw [Option.some.inj q]
    exact K6 i hi
  refine Back.mono (back hZ hw wi E V C K1 hty S hz (by omega) (by omega) (fun i hi => by rw [hcv i (by omega)]; exact hall _ (List.getElem_mem _)) hfr hlo) (fun P a hp => ⟨hp.1, hp.2.1, hp.2.2.1, by rw [e]; exact hp.2.2.2⟩) (fun P a v B hp hq => ?_)
  obtain ⟨L, ⟨q1, q2, q3, q4, q5, q6, q7, ⟨V', v1, v2, v3, v4, v5⟩, q9⟩, hl, hc, hs⟩ := hq
  refine ⟨L, ⟨q1, q2, q3, q4, q5, q6, q7, ⟨V'.cls, v3, V', v1, rfl, by rw [v4, e, hlen], K4, fun i hi => ?_, fun i hi => ?_⟩, q9⟩, hl, hc, by rw [hs, e]⟩
  · have hi' : i < cs.length := by omega
    rw [v5 i (by omega), hcv i hi']; simp [List.getD_eq_getElem?_getD, hi']
  · have hi' : i < cs.length := by omega
    simp only [List.getD_eq_getElem?_getD, List.getElem?_map, List.getElem?_eq_getElem hi', Option.map_some, Option.getD_some]
    exact fits_lo8 _
end StrChars.Road
namespace StrChars.Road
open Jvm Sem ClassFile Op Lib Jvm.Stand Jvm.Free Jvm.Free.XT
/-- WHAT COMES BACK, in the writer's own shape -/
def QV (Z : State) (x : Addr) (N : Int32) (bs : List Int32) (h : Heap) (n0 : Nat) (v : Option Value) (h' : Heap) (L : List Loc) : Prop := v = none ∧ RoadKit.Fr n0 L ∧ RoadKit.Keep h h' [x] ∧ RoadKit.Exa Z h' x ST ∧ RoadKit.Fld Z h' x ST "coder" "B" (.int 0) ∧
  ∃ (t : Addr) (kb : ClassId), n0 ≤ t ∧ h.size ≤ t ∧ ¬ t = x ∧ RoadKit.Fld Z h' x ST "value" "[B" (.ref t) ∧ RoadKit.Arv Z h' t kb .byte N (bs.map Value.int) (.int 0)
/-- **new String(chars) AT A CALL, FOR THE WRITER**: a char[] of n known ints, each 0 to 255 -/
theorem backV {p : Program} {l : Launch} {e : Env} {R : Room} {s : State} {args : Array Value} {below : List Frame} {len W : Nat} {Z : State} {a0 : Array Value} {h : Heap} (hZ : Z.Warmed39 s.vm) (hw : ∀ d ∈ words, d.before a0 Z = true) {kI : Nat} (wi : (Jvm.Cond.instantiable ST kI).before a0 Z = true)
    {x b : Addr} {kC : ClassId} {cs bs : List Int32} {d v0 c0 : Value} {z N : Int32} {n n0 : Nat} (hx0 : n0 ≤ x) (hh0 : n0 ≤ h.size) (E : RoadKit.Exa Z h x ST) (V : RoadKit.Fld Z h x ST "value" "[B" v0) (C : RoadKit.Fld Z h x ST "coder" "B" c0) (K : RoadKit.Arv Z h b kC .char N (cs.map Value.int) d) (S : RoadKit.Sta Z h ST "COMPACT_STRINGS" "Z" (.int z)) (hz : ¬ z = 0)
    (hn : cs.length = n) (hN : N = Int32.ofNat n) (l0 : 0 < n) (l2 : n ≤ 4000) (hp : ∀ c ∈ cs, ¬ c < 0 ∧ ¬ (255 : Int32) < c) (hb : bs = cs.map (fun c => c.toInt8.toInt32)) (hfr : 4 ≤ R.frames) (hlo : W + 65 ≤ R.locals) :
    Back l R p e below s args (⟨"java/lang/String", "<init>", "([C)V"⟩ : MethodName) len W (fun P a => a = #[.ref x, .ref b] ∧ P.U.heap = h ∧ P.cells + 1 ≤ R.cells ∧ P.slots + n ≤ R.slots)
      (fun P _ v B => ∃ L, QV Z x N bs h n0 v B.U.heap L ∧ B.locs = P.locs ++ L ∧ B.cells = P.cells + 1 ∧ B.slots = P.slots + n) := by
  subst hn hN hb
  refine Back.mono (backArv hZ hw wi E V C K S hz (n32 (by omega)) l0 (by omega) (fun c hc => (hp c hc).2) hfr hlo) (fun P a hp => hp) (fun P a v B hp hq => ?_)
  obtain ⟨L, ⟨q1, q2, q3, q4, q5, q6, q7, ⟨kb, v1, v2⟩, q9⟩, hl, hc, hs⟩ := hq
  exact ⟨L, ⟨q1, fun y hy => by rw [q2 y hy]; exact hx0, q3, q5, q7, h.size, kb, hh0, Nat.le_refl _, Nat.ne_of_gt E.lt, q6, by rw [List.map_map]; exact v2⟩, hl, hc, hs⟩
end StrChars.Road
namespace StrChars
open Jvm Sem ClassFile Op Lib Jvm.Stand Jvm.Free.XT Jvm.Free.ALB Jvm.Free.JM Jvm.Free
open Jvm.Lib.Cold (StaticIs)
def hi8 (x : Int32) : Int32 := lo8 (x >>> ((8 : Int32) &&& 31))
/-- what StringUTF16.getChar makes of two bytes -/
def pairCh (u v : Int32) : Int32 := (((u &&& 255) <<< ((0 : Int32) &&& 31)) ||| ((v &&& 255) <<< ((8 : Int32) &&& 31))).toUInt32.toUInt16.toUInt32.toInt32
theorem shr0 (c : Int32) : c >>> ((0 : Int32) &&& 31) = c := by
  have e : ((0 : Int32) &&& 31) = 0 := by decide
  rw [e]
  apply Int32.toBitVec_inj.mp
  rw [Int32.toBitVec_shiftRight]
  have e1 : ((0 : Int32).toBitVec.smod 32) = 0#32 := by decide
  rw [e1, BitVec.sshiftRight_eq']
  exact BitVec.sshiftRight_zero
theorem lo8_and (x : Int32) : (lo8 x &&& 255).toBitVec.toNat = x.toBitVec.toNat % 256 := by
  have h : (lo8 x).toBitVec = (x.toBitVec.signExtend 8).signExtend 32 := by rw [lo8, Int8.toBitVec_toInt32, Int32.toBitVec_toInt8]
  rw [Int32.toBitVec_and, BitVec.toNat_and, h]
  have e : ((x.toBitVec.signExtend 8).signExtend 32).toNat % 256 = x.toBitVec.toNat % 256 := by
    rw [BitVec.toNat_signExtend]
    have hlt := x.toBitVec.isLt
    simp only [BitVec.toNat_setWidth, BitVec.toNat_signExtend]
    split <;> split <;> omega
  rw [← e]
  exact Nat.and_two_pow_sub_one_eq_mod _ 8
theorem pair_says {c : Int32} (h0 : ¬ c < 0) (h1 : ¬ 65535 < c) : pairCh (lo8 c) (hi8 c) = c := by
  rw [Int32.lt_iff_toInt_lt] at h0 h1
  have e0 : (0 : Int32).toInt = 0 := rfl
  have e1 : (65535 : Int32).toInt = 65535 := rfl
  have hc : c.toInt = c.toBitVec.toNat := by
    have := c.toBitVec.isLt
    have e : c.toInt = c.toBitVec.toInt := rfl
    rw [e] at h0 h1
    rw [e]
    rw [BitVec.toInt_eq_toNat_cond] at h0 h1 ⊢
    split at h0 <;> split <;> omega
  have hn : c.toBitVec.toNat < 65536 := by omega
  have a1 := lo8_and c
  have a2 : (hi8 c &&& 255).toBitVec.toNat = c.toBitVec.toNat / 256 := by
    rw [hi8, lo8_and]
    have e : ((8 : Int32) &&& 31) = 8 := by decide
    rw [e, Int32.toBitVec_shiftRight]
    have e2 : ((8 : Int32).toBitVec.smod 32) = 8#32 := by decide
    rw [e2, BitVec.sshiftRight_eq', BitVec.toNat_sshiftRight_of_msb_false (by rw [BitVec.msb_eq_false_iff_two_mul_lt]; omega)]
    show c.toBitVec.toNat >>> 8 % 256 = _
    rw [Nat.shiftRight_eq_div_pow]
    omega
  unfold pairCh
  apply Int32.toBitVec_inj.mp
  apply BitVec.eq_of_toNat_eq
  have f0 : ((0 : Int32) &&& 31) = 0 := by decide
  have f8 : ((8 : Int32) &&& 31) = 8 := by decide
  rw [f0, f8]
  have g : (((lo8 c &&& 255) <<< (0 : Int32)) ||| ((hi8 c &&& 255) <<< (8 : Int32))).toBitVec.toNat = c.toBitVec.toNat := by
    rw [Int32.toBitVec_or, Int32.toBitVec_shiftLeft, Int32.toBitVec_shiftLeft]
    have s0 : ((0 : Int32).toBitVec.smod 32) = 0#32 := by decide
    have s8 : ((8 : Int32).toBitVec.smod 32) = 8#32 := by decide
    rw [s0, s8, BitVec.toNat_or]
    simp only [BitVec.shiftLeft_eq', BitVec.toNat_shiftLeft, a1, a2]
    show (c.toBitVec.toNat % 256) <<< 0 % 2 ^ 32 ||| (c.toBitVec.toNat / 256) <<< 8 % 2 ^ 32 = _
    rw [Nat.shiftLeft_zero, Nat.mod_eq_of_lt (show c.toBitVec.toNat % 256 < 2 ^ 32 by omega), Nat.mod_eq_of_lt (show (c.toBitVec.toNat / 256) <<< 8 < 2 ^ 32 by rw [Nat.shiftLeft_eq]; omega), Nat.or_comm, ← Nat.shiftLeft_add_eq_or_of_lt (by omega), Nat.shiftLeft_eq]
    omega
  show BitVec.toNat (((((lo8 c &&& 255) <<< (0 : Int32)) ||| ((hi8 c &&& 255) <<< (8 : Int32))).toBitVec.setWidth 16).setWidth 32) = _
  rw [BitVec.toNat_setWidth, BitVec.toNat_setWidth, g]
  omega
end StrChars
namespace StrChars
open Jvm Sem ClassFile Op Lib Jvm.Stand Jvm.Free.XT Jvm.Free.ALB Jvm.Free.JM Jvm.Free
open Jvm.Lib.Cold (StaticIs)
theorem shr1 {n : Nat} (h : 2 * n < 2 ^ 31) : Int32.ofNat (2 * n) >>> ((1 : Int32) &&& 31) = Int32.ofNat n := by
  have e : ((1 : Int32) &&& 31) = 1 := by decide
  rw [e]
  apply Int32.toBitVec_inj.mp
  rw [Int32.toBitVec_shiftRight]
  have e1 : ((1 : Int32).toBitVec.smod 32) = 1#32 := by decide
  have hm : (BitVec.ofNat 32 (2 * n)).toNat = 2 * n := by rw [BitVec.toNat_ofNat, Nat.mod_eq_of_lt (by omega)]
  rw [e1, BitVec.sshiftRight_eq']
  apply BitVec.eq_of_toNat_eq
  show ((BitVec.ofNat 32 (2 * n)).sshiftRight 1).toNat = (BitVec.ofNat 32 n).toNat
  rw [BitVec.toNat_sshiftRight_of_msb_false (by rw [BitVec.msb_eq_false_iff_two_mul_lt, hm]; omega), hm, BitVec.toNat_ofNat, Nat.shiftRight_eq_div_pow]
  omega
/-- charAt's cast of a byte read back -/
def chr8 (u : Int32) : Int32 := (u &&& 255).toUInt32.toUInt16.toUInt32.toInt32
theorem chr8_lo8 {c : Int32} (h0 : ¬ c < 0) (h1 : ¬ 255 < c) : chr8 (lo8 c) = c := by
  have t : ∀ k : Fin 256, (Int32.ofNat k.val).toUInt32.toUInt16.toUInt32.toInt32 = Int32.ofNat k.val := by decide +kernel
  unfold chr8
  rw [lo8_mask h0 h1]
  rw [Int32.lt_iff_toInt_lt] at h0 h1
  have e0 : (0 : Int32).toInt = 0 := rfl
  have e1 : (255 : Int32).toInt = 255 := rfl
  obtain ⟨k, hk⟩ : ∃ k : Nat, c.toInt = k := ⟨c.toInt.toNat, by omega⟩
  have hx : c = Int32.ofNat k := Int32.toInt_inj.mp (by rw [hk, Int32.toInt_ofNat_small (by omega)])
  rw [hx]
  exact t ⟨k, by omega⟩
theorem narrow_ch {c : Int32} (h0 : ¬ c < 0) (h1 : ¬ 65535 < c) : narrow .char (.int c) = .int c := by
  have q : narrow .char (.int (pairCh (lo8 c) (hi8 c))) = .int (pairCh (lo8 c) (hi8 c)) := narrow_c _
  rwa [pair_says h0 h1] at q
/-- the array's cell V codes the n chars f 0 .. f (n - 1) by the coder cd, as the JDK does: coder 1 just where some char is above 255 -/
def Cod (cd : Int32) (n : Nat) (f : Nat → Int32) (V : Cell) : Prop := (cd = 0 ∧ V.slots.size = n ∧ ∀ j, j < n → V.slots[j]? = some (.int (lo8 (f j))) ∧ ¬ 255 < f j) ∨ (cd = 1 ∧ V.slots.size = 2 * n ∧ (∀ j, j < n → V.slots[2 * j]? = some (.int (lo8 (f j))) ∧ V.slots[2 * j + 1]? = some (.int (hi8 (f j)))) ∧ ∃ j, j < n ∧ 255 < f j)
theorem Cod.cd {cd : Int32} {n : Nat} {f : Nat → Int32} {V : Cell} (h : Cod cd n f V) : cd = 0 ∨ cd = 1 := h.imp (fun q => q.1) fun q => q.1
theorem Cod.len {cd : Int32} {n : Nat} {f : Nat → Int32} {V : Cell} (h : Cod cd n f V) (hs : V.slots.size < 2 ^ 31) : Int32.ofNat V.slots.size >>> (cd &&& 31) = Int32.ofNat n := by
  rcases h with ⟨rfl, h, -⟩ | ⟨rfl, h, -⟩
  · rw [shr0, h]
  · rw [h, shr1 (by omega)]
/-- **x is a String of the n chars f 0 .. f (n - 1)**, Latin-1 or UTF-16; its array at t has the cell V -/
def Txt (x t : Addr) (V : Cell) (cd : Int32) (n : Nat) (f : Nat → Int32) (U : State) : Prop := Exact "java/lang/String" x U ∧ Has x "java/lang/String" "value" "[B" (.ref t) U ∧ Has x "java/lang/String" "coder" "B" (.int cd) U ∧ XT.Arr .byte t V U ∧ Cod cd n f V ∧ ∀ j, j < n → ¬ f j < 0 ∧ ¬ 65535 < f j
theorem Txt.mv {x t : Addr} {V : Cell} {cd : Int32} {n : Nat} {f : Nat → Int32} {U U' : State} (h : Txt x t V cd n f U) (hal : U.vm.Alike U'.vm) (hh : U'.heap = U.heap) : Txt x t V cd n f U' := ⟨h.1.mv hal hh, h.2.1.mv hal hh, h.2.2.1.mv hal hh, h.2.2.2.1.mv hal hh, h.2.2.2.2⟩
namespace Cdr
def yN : MethodName := ⟨"java/lang/String", "coder", "()B"⟩
abbrev yB : ByteArray := jdk_42_method_152_code
theorem d0 : decode yB 0 = .ok (.getstatic 38, 3) := by decide +kernel
theorem d3 : decode yB 3 = .ok (.ifCond (.eq) 10, 3) := by decide +kernel
theorem d6 : decode yB 6 = .ok (.aload_n 0, 1) := by decide +kernel
theorem d7 : decode yB 7 = .ok (.getfield 15, 3) := by decide +kernel
theorem d10 : decode yB 10 = .ok (.goto 4, 3) := by decide +kernel
theorem d14 : decode yB 14 = .ok (.ireturn, 1) := by decide +kernel
def site : List Cond := [.fieldLink "java/lang/String" 38 "java/lang/String" "COMPACT_STRINGS" "Z", .fieldLink "java/lang/String" 15 "java/lang/String" "coder" "B"]
def tab : Cond := tabOf yN yB 1 (some .byte) site
def P (x : Addr) (cd z : Int32) (args : Array Value) (s : State) : Prop := args = #[.ref x] ∧ Has x "java/lang/String" "coder" "B" (.int cd) s ∧ (cd = 0 ∨ cd = 1) ∧ StaticIs s "java/lang/String" "COMPACT_STRINGS" "Z" (.int z) ∧ ¬ z = 0
def E (cd : Int32) (r : Option Value) (s u : State) : Prop := XT.PureE (some (.int cd)) r s u
theorem law (l : Launch) (x : Addr) (cd z : Int32) : Law l yN 1 0 0 0 yB 1 (some .byte) site (P x cd z) (E cd) [] 0 0 := by
  refine Law.of_walk (plainFor_of_name (by decide +kernel)) (by decide +kernel) (by decide +kernel) (by decide) (fun _ _ h => by rw [h.1]; rfl) (fun _ U U' hal hh h => ⟨h.1, h.2.1.mv hal hh, h.2.2.1, h.2.2.2.1.there hal hh, h.2.2.2.2⟩) (fun r U U' V V' h1 hal h2 h => XT.PureE.mv r U U' V V' h1 hal h2 h) ?_
  intro p e s m args below meth c s₁ X0 hexec hbytes hml hret hlk hnm hown hh0 W hP
  obtain ⟨rfl, hx, hc, s1, hz⟩ := hP
  have c1 : Steps p.tables e below (s₁.setTop (entryFrame m #[.ref x] 1)) (s₁.setTop (mkF m 0 #[.val (.ref x)] [])) := entry rfl
  obtain ⟨T2, X2, q2, st2⟩ := X0.sget hexec hown (wk W (.fieldLink "java/lang/String" 38 "java/lang/String" "COMPACT_STRINGS" "Z")) s1 (fun _ _ h => by rw [hh0]; exact h) (g := (mkF m 0 #[.val (.ref x)] [])) rfl (hb hbytes d0)
  have hh2 := q2.trans hh0
  have c3 : Steps p.tables e below (s₁.setTop (entryFrame m #[.ref x] 1)) (T2.setTop (mkF m 7 #[.val (.ref x)] [.ref x])) := (c1.trans (st2 _ (Steps.refl _))).trans (by
    refine XS.ifNo X2.here hexec rfl (hb hbytes d3) rfl (i0_eq_f hz) ?_
    refine XS.aloadN X2.here hexec rfl (hb hbytes d6) rfl rfl ?_
    exact Steps.refl _)
  obtain ⟨T4, X4, q4, st4⟩ := X2.hget hexec hown (wk W (.fieldLink "java/lang/String" 15 "java/lang/String" "coder" "B")) (hx.mv X2.warmed.alike hh2) (g := (mkF m 7 #[.val (.ref x)] [.ref x])) rfl (rest := []) rfl (hb hbytes d7)
  have c5 : Steps p.tables e below (s₁.setTop (entryFrame m #[.ref x] 1)) (T4.setTop (mkF m 14 #[.val (.ref x)] [.int cd])) := (c3.trans (st4 _ (Steps.refl _))).trans (by
    refine XS.goto X4.here hexec rfl (pc0 := 10) rfl (hb hbytes d10) (by decide) rfl ?_
    exact Steps.refl _)
  exact ⟨T4, some (.int cd), _, _, _, X4, rfl, rfl, rfl, (fun h => by cases h), ⟨rfl, q4.trans hh2⟩, fun fs hl => c5.trans (X4.ireturnOut hexec hret (by rcases hc with rfl | rfl <;> rfl) (Or.inr (Or.inr (Or.inl rfl))) (hb hbytes d14) hl)⟩
end Cdr
namespace Len
def yN : MethodName := ⟨"java/lang/String", "length", "()I"⟩
abbrev yB : ByteArray := jdk_42_method_54_code
theorem d0 : decode yB 0 = .ok (.aload_n 0, 1) := by decide +kernel
theorem d1 : decode yB 1 = .ok (.getfield 9, 3) := by decide +kernel
theorem d4 : decode yB 4 = .ok (.arraylength, 1) := by decide +kernel
theorem d5 : decode yB 5 = .ok (.aload_n 0, 1) := by decide +kernel
theorem d6 : decode yB 6 = .ok (.invokevirtual 335, 3) := by decide +kernel
theorem d9 : decode yB 9 = .ok (.ishr, 1) := by decide +kernel
theorem d10 : decode yB 10 = .ok (.ireturn, 1) := by decide +kernel
def site : List Cond := [.fieldLink "java/lang/String" 9 "java/lang/String" "value" "[B", Cdr.tab] ++ virtW "java/lang/String" 335 "java/lang/String" Cdr.yN Cdr.yN
def tab : Cond := tabOf yN yB 1 (some .int) site
def P (x t : Addr) (V : Cell) (cd : Int32) (n : Nat) (f : Nat → Int32) (z : Int32) (args : Array Value) (s : State) : Prop := args = #[.ref x] ∧ Txt x t V cd n f s ∧ StaticIs s "java/lang/String" "COMPACT_STRINGS" "Z" (.int z) ∧ ¬ z = 0
def E (n : Nat) (r : Option Value) (s u : State) : Prop := XT.PureE (some (.int (Int32.ofNat n))) r s u
/-- length() of a String of n chars, in either coding -/
theorem law (l : Launch) (x t : Addr) (V : Cell) (cd : Int32) (n : Nat) (f : Nat → Int32) (z : Int32) : Law l yN 1 0 1 13 yB 1 (some .int) site (P x t V cd n f z) (E n) [] 0 0 := by
  refine Law.of_walk (plainFor_of_name (by decide +kernel)) (by decide +kernel) (by decide +kernel) (by decide) (fun _ _ h => by rw [h.1]; rfl) (fun _ U U' hal hh h => ⟨h.1, h.2.1.mv hal hh, h.2.2.1.there hal hh, h.2.2.2⟩) (fun r U U' V V' h1 hal h2 h => XT.PureE.mv r U U' V V' h1 hal h2 h) ?_
  intro p e s m args below meth c s₁ X0 hexec hbytes hml hret hlk hnm hown hh0 W hP
  obtain ⟨rfl, hx, s1, hz⟩ := hP
  have v31 := hx.2.2.2.1.2.2.2
  have c1 : Steps p.tables e below (s₁.setTop (entryFrame m #[.ref x] 1)) (s₁.setTop (mkF m 1 #[.val (.ref x)] [.ref x])) := Steps.trans (entry rfl) (by
    show Steps p.tables e below (s₁.setTop (mkF m 0 #[.val (.ref x)] [])) _
    refine XS.aloadN X0.here hexec rfl (hb hbytes d0) rfl rfl ?_
    exact Steps.refl _)
  obtain ⟨T2, X2, q2, st2⟩ := X0.hget hexec hown (wk W (.fieldLink "java/lang/String" 9 "java/lang/String" "value" "[B")) (hx.mv X0.warmed.alike hh0).2.1 (g := (mkF m 1 #[.val (.ref x)] [.ref x])) rfl (rest := []) rfl (hb hbytes d1)
  have hh2 := q2.trans hh0
  have hx2 := hx.mv X2.warmed.alike hh2
  have c3 : Steps p.tables e below (s₁.setTop (entryFrame m #[.ref x] 1)) (T2.setTop (mkF m 6 #[.val (.ref x)] [.ref x, .int (Int32.ofNat V.slots.size)])) := (c1.trans (st2 _ (Steps.refl _))).trans (by
    refine X2.alen hexec hx2.2.2.2.1 rfl rfl (hb hbytes d4) ?_
    refine XS.aloadN X2.here hexec rfl (hb hbytes d5) rfl rfl ?_
    exact Steps.refl _)
  obtain ⟨v4, T4, X4, E4, g4⟩ := X2.callV hexec (Cdr.law l x cd z) hown (wks W (virtW "java/lang/String" 335 "java/lang/String" Cdr.yN Cdr.yN)) rfl (by decide) (wk W Cdr.tab) (W := 1) (Nat.le_of_ble_eq_true rfl) (Nat.le_of_ble_eq_true rfl) (Nat.le_refl _) (Nat.le_refl _) (hx2.1.fc X2.warmed.alike) hx2.1.is (g := (mkF m 6 #[.val (.ref x)] [.ref x, .int (Int32.ofNat V.slots.size)])) rfl (by rw [hml]; rfl) c3 (argsL := []) (rest := [.int (Int32.ofNat V.slots.size)]) rfl rfl (by show 2 * 0 + (1 + 0) ≤ _; decide) (hb hbytes d6) (⟨rfl, hx2.2.2.1, hx.2.2.2.2.1.cd, s1.there X2.warmed.alike hh2, hz⟩)
  obtain ⟨rfl, q4⟩ := E4
  have c5 : Steps p.tables e below (s₁.setTop (entryFrame m #[.ref x] 1)) (T4.setTop (mkF m 10 #[.val (.ref x)] [.int (Int32.ofNat V.slots.size >>> (cd &&& 31))])) := Steps.trans g4 (by
    refine ishr X4.here hexec rfl (hb hbytes d9) rfl ?_
    exact Steps.refl _)
  rw [hx.2.2.2.2.1.len v31] at c5
  exact ⟨T4, some (.int (Int32.ofNat n)), _, _, _, X4, rfl, rfl, rfl, (fun h => by cases h), ⟨rfl, q4.trans hh2⟩, fun fs hl => c5.trans (X4.ireturnOut hexec hret rfl (Or.inl rfl) (hb hbytes d10) hl)⟩
theorem pays {l : Launch} {R : Room} {p : Program} {e : Env} {below : List Frame} {s : State} {sargs : Array Value} {len W : Nat} (x t : Addr) (V : Cell) (cd : Int32) (n : Nat) (f : Nat → Int32) (z : Int32) (htab : tab.before sargs s = true) (hfr : 2 ≤ R.frames) (hlo : W + 25 ≤ R.locals) :
    Back l R p e below s sargs yN len W (fun A₁ a₁ => A₁.cells + 0 ≤ R.cells ∧ A₁.slots + 0 ≤ R.slots ∧ P x t V cd n f z a₁ A₁.U) (fun A₁ _ v₁ B₁ => E n v₁ A₁.U B₁.U ∧ B₁.locs = A₁.locs ++ [] ∧ B₁.cells = A₁.cells + 0 ∧ B₁.slots = A₁.slots + 0) :=
  (law l x t V cd n f z).pays htab hfr (by omega)
end Len
namespace IsL
def yN : MethodName := ⟨"java/lang/String", "isLatin1", "()Z"⟩
abbrev yB : ByteArray := jdk_42_method_154_code
theorem d0 : decode yB 0 = .ok (.getstatic 38, 3) := by decide +kernel
theorem d3 : decode yB 3 = .ok (.ifCond (.eq) 14, 3) := by decide +kernel
theorem d6 : decode yB 6 = .ok (.aload_n 0, 1) := by decide +kernel
theorem d7 : decode yB 7 = .ok (.getfield 15, 3) := by decide +kernel
theorem d10 : decode yB 10 = .ok (.ifCond (.ne) 7, 3) := by decide +kernel
theorem d13 : decode yB 13 = .ok (.iconst 1, 1) := by decide +kernel
theorem d14 : decode yB 14 = .ok (.goto 4, 3) := by decide +kernel
theorem d17 : decode yB 17 = .ok (.iconst 0, 1) := by decide +kernel
theorem d18 : decode yB 18 = .ok (.ireturn, 1) := by decide +kernel
def site : List Cond := [.fieldLink "java/lang/String" 38 "java/lang/String" "COMPACT_STRINGS" "Z", .fieldLink "java/lang/String" 15 "java/lang/String" "coder" "B"]
def tab : Cond := tabOf yN yB 1 (some .boolean) site
def P (x : Addr) (cd z : Int32) (args : Array Value) (s : State) : Prop := args = #[.ref x] ∧ Has x "java/lang/String" "coder" "B" (.int cd) s ∧ (cd = 0 ∨ cd = 1) ∧ StaticIs s "java/lang/String" "COMPACT_STRINGS" "Z" (.int z) ∧ ¬ z = 0
def E (cd : Int32) (r : Option Value) (s u : State) : Prop := XT.PureE (some (.int (1 - cd))) r s u
theorem law (l : Launch) (x : Addr) (cd z : Int32) : Law l yN 1 0 0 0 yB 1 (some .boolean) site (P x cd z) (E cd) [] 0 0 := by
  refine Law.of_walk (plainFor_of_name (by decide +kernel)) (by decide +kernel) (by decide +kernel) (by decide) (fun _ _ h => by rw [h.1]; rfl) (fun _ U U' hal hh h => ⟨h.1, h.2.1.mv hal hh, h.2.2.1, h.2.2.2.1.there hal hh, h.2.2.2.2⟩) (fun r U U' V V' h1 hal h2 h => XT.PureE.mv r U U' V V' h1 hal h2 h) ?_
  intro p e s m args below meth c s₁ X0 hexec hbytes hml hret hlk hnm hown hh0 W hP
  obtain ⟨rfl, hx, hc, s1, hz⟩ := hP
  have c1 : Steps p.tables e below (s₁.setTop (entryFrame m #[.ref x] 1)) (s₁.setTop (mkF m 0 #[.val (.ref x)] [])) := entry rfl
  obtain ⟨T2, X2, q2, st2⟩ := X0.sget hexec hown (wk W (.fieldLink "java/lang/String" 38 "java/lang/String" "COMPACT_STRINGS" "Z")) s1 (fun _ _ h => by rw [hh0]; exact h) (g := (mkF m 0 #[.val (.ref x)] [])) rfl (hb hbytes d0)
  have hh2 := q2.trans hh0
  have c3 : Steps p.tables e below (s₁.setTop (entryFrame m #[.ref x] 1)) (T2.setTop (mkF m 7 #[.val (.ref x)] [.ref x])) := (c1.trans (st2 _ (Steps.refl _))).trans (by
    refine XS.ifNo X2.here hexec rfl (hb hbytes d3) rfl (i0_eq_f hz) ?_
    refine XS.aloadN X2.here hexec rfl (hb hbytes d6) rfl rfl ?_
    exact Steps.refl _)
  obtain ⟨T4, X4, q4, st4⟩ := X2.hget hexec hown (wk W (.fieldLink "java/lang/String" 15 "java/lang/String" "coder" "B")) (hx.mv X2.warmed.alike hh2) (g := (mkF m 7 #[.val (.ref x)] [.ref x])) rfl (rest := []) rfl (hb hbytes d7)
  have c5 : Steps p.tables e below (s₁.setTop (entryFrame m #[.ref x] 1)) (T4.setTop (mkF m 10 #[.val (.ref x)] [.int cd])) := c3.trans (st4 _ (Steps.refl _))
  have c6 : Steps p.tables e below (s₁.setTop (entryFrame m #[.ref x] 1)) (T4.setTop (mkF m 18 #[.val (.ref x)] [.int (1 - cd)])) := by
    rcases hc with rfl | rfl
    · exact c5.trans (by
        refine XS.ifNo X4.here hexec rfl (hb hbytes d10) rfl (i0_ne_f rfl) ?_
        refine iconstV X4.here hexec rfl 1 (hb hbytes d13) (by decide) ?_
        refine XS.goto X4.here hexec rfl (pc0 := 14) rfl (hb hbytes d14) (by decide) rfl ?_
        exact Steps.refl _)
    · exact c5.trans (by
        refine XS.ifYes X4.here hexec rfl (pc0 := 10) rfl (hb hbytes d10) rfl (i0_ne_t (by decide)) (by decide) rfl ?_
        refine iconstV X4.here hexec rfl 0 (hb hbytes d17) (by decide) ?_
        exact Steps.refl _)
  exact ⟨T4, some (.int (1 - cd)), _, _, _, X4, rfl, rfl, rfl, (fun h => by cases h), ⟨rfl, q4.trans hh2⟩, fun fs hl => c6.trans (X4.ireturnOut hexec hret (by rcases hc with rfl | rfl <;> rfl) (Or.inr (Or.inl rfl)) (hb hbytes d18) hl)⟩
end IsL
namespace LChA
def yN : MethodName := ⟨"java/lang/StringLatin1", "charAt", "([BI)C"⟩
abbrev yB : ByteArray := jdk_43_method_2_code
theorem d0 : decode yB 0 = .ok (.iload_n 1, 1) := by decide +kernel
theorem d1 : decode yB 1 = .ok (.aload_n 0, 1) := by decide +kernel
theorem d2 : decode yB 2 = .ok (.arraylength, 1) := by decide +kernel
theorem d3 : decode yB 3 = .ok (.invokestatic 9, 3) := by decide +kernel
theorem d6 : decode yB 6 = .ok (.aload_n 0, 1) := by decide +kernel
theorem d7 : decode yB 7 = .ok (.iload_n 1, 1) := by decide +kernel
theorem d8 : decode yB 8 = .ok (.baload, 1) := by decide +kernel
theorem d9 : decode yB 9 = .ok (.sipush 255, 3) := by decide +kernel
theorem d12 : decode yB 12 = .ok (.iand, 1) := by decide +kernel
theorem d13 : decode yB 13 = .ok (.i2c, 1) := by decide +kernel
theorem d14 : decode yB 14 = .ok (.ireturn, 1) := by decide +kernel
def site : List Cond := [JO.Str_checkIndex.tab] ++ staticW "java/lang/StringLatin1" 9 JO.Str_checkIndex.yN
def tab : Cond := tabOf yN yB 2 (some .char) site
def P (t : Addr) (V : Cell) (i : Nat) (u : Int32) (fm : Value) (args : Array Value) (s : State) : Prop := args = #[.ref t, .int (Int32.ofNat i)] ∧ XT.Arr .byte t V s ∧ V.slots[i]? = some (.int u) ∧ (StaticIs s "jdk/internal/util/Preconditions" "SIOOBE_FORMATTER" "Ljava/util/function/BiFunction;" fm ∧ fm.isRef = true)
def E (u : Int32) (r : Option Value) (s w : State) : Prop := XT.PureE (some (.int (chr8 u))) r s w
theorem law (l : Launch) (t : Addr) (V : Cell) (i : Nat) (u : Int32) (fm : Value) : Law l yN 2 2 2 27 yB 2 (some .char) site (P t V i u fm) (E u) [] 0 0 := by
  refine Law.of_walk (plainFor_of_name (by decide +kernel)) (by decide +kernel) (by decide +kernel) (by decide) (fun _ _ h => by rw [h.1]; rfl) (fun _ U U' hal hh h => ⟨h.1, h.2.1.mv hal hh, h.2.2.1, h.2.2.2.1.there hal hh, h.2.2.2.2⟩) (fun r U U' V V' h1 hal h2 h => XT.PureE.mv r U U' V V' h1 hal h2 h) ?_
  intro p e s m args below meth c s₁ X0 hexec hbytes hml hret hlk hnm hown hh0 W hP
  obtain ⟨rfl, hV, hu, s1, rf⟩ := hP
  have v31 := hV.2.2.2
  have hi : i < V.slots.size := (Array.getElem?_eq_some_iff.mp hu).1
  have c1 : Steps p.tables e below (s₁.setTop (entryFrame m #[.ref t, .int (Int32.ofNat i)] 2)) (s₁.setTop (mkF m 0 #[.val (.ref t), .val (.int (Int32.ofNat i))] [])) := entry rfl
  have c2 : Steps p.tables e below (s₁.setTop (entryFrame m #[.ref t, .int (Int32.ofNat i)] 2)) (s₁.setTop (mkF m 3 #[.val (.ref t), .val (.int (Int32.ofNat i))] [.int (Int32.ofNat V.slots.size), .int (Int32.ofNat i)])) := c1.trans (by
    refine XS.iloadN X0.here hexec rfl (hb hbytes d0) rfl ?_
    refine XS.aloadN X0.here hexec rfl (hb hbytes d1) rfl rfl ?_
    refine X0.alen hexec (hV.mv X0.warmed.alike hh0) rfl rfl (hb hbytes d2) ?_
    exact Steps.refl _)
  obtain ⟨v3, T3, X3, E3, g3⟩ := X0.callS hexec (JO.Str_checkIndex.law l (Int32.ofNat i) (Int32.ofNat V.slots.size) fm) hown (wks W (staticW "java/lang/StringLatin1" 9 JO.Str_checkIndex.yN)) (wk W JO.Str_checkIndex.tab) (W := 0) (Nat.le_of_ble_eq_true rfl) (Nat.le_of_ble_eq_true rfl) (Nat.le_refl _) (Nat.le_refl _) (g := (mkF m 3 #[.val (.ref t), .val (.int (Int32.ofNat i))] [.int (Int32.ofNat V.slots.size), .int (Int32.ofNat i)])) rfl (by rw [hml]; rfl) c2 (argsL := [.int (Int32.ofNat i), .int (Int32.ofNat V.slots.size)]) (rest := []) rfl rfl (by show 2 * 0 + 0 ≤ _; decide) (hb hbytes d3) (⟨rfl, rf, s1.there X0.warmed.alike hh0, Int32.ofNat_not_neg (by omega), lt32 v31 hi⟩)
  obtain ⟨rfl, q3⟩ := E3
  have hh3 := q3.trans hh0
  have c4 : Steps p.tables e below (s₁.setTop (entryFrame m #[.ref t, .int (Int32.ofNat i)] 2)) (T3.setTop (mkF m 14 #[.val (.ref t), .val (.int (Int32.ofNat i))] [.int (chr8 u)])) := Steps.trans g3 (by
    refine XS.aloadN X3.here hexec rfl (hb hbytes d6) rfl rfl ?_
    refine XS.iloadN X3.here hexec rfl (hb hbytes d7) rfl ?_
    refine X3.aget hexec (hV.mv X3.warmed.alike hh3) rfl hu rfl rfl (hb hbytes d8) ?_
    refine sipushV X3.here hexec rfl 255 (hb hbytes d9) (by decide) ?_
    refine XS.iand X3.here hexec rfl (hb hbytes d12) rfl ?_
    refine i2c X3.here hexec rfl (hb hbytes d13) rfl ?_
    exact Steps.refl _)
  exact ⟨T3, some (.int (chr8 u)), _, _, _, X3, rfl, rfl, rfl, (fun h => by cases h), ⟨rfl, hh3⟩, fun fs hl => c4.trans (X3.ireturnOut hexec hret (narrow_c _) (Or.inr (Or.inr (Or.inr (Or.inl rfl)))) (hb hbytes d14) hl)⟩
end LChA
end StrChars
namespace StrChars.Road
open Jvm Sem ClassFile Op Lib Jvm.Stand Jvm.Free Jvm.Free.XT
open Jvm.Lib.Cold (StaticIs)
theorem consq {a : Array Value} {s : State} {c : Jvm.Cond} {L : List Jvm.Cond} (h0 : c.before a s = true) (h : ∀ w ∈ L, w.before a s = true) : ∀ w ∈ c :: L, w.before a s = true := fun w hw => (List.mem_cons.mp hw).elim (fun e => e ▸ h0) (h w)
/-- the words of String.length(), either coding -/
abbrev wordsLen : List Jvm.Cond := [.code Len.yN Len.yB 1 (some .int), .initialized ST, .fieldLink ST 9 ST "value" "[B", .fieldLink ST 38 ST "COMPACT_STRINGS" "Z", .fieldLink ST 15 ST "coder" "B", .code Cdr.yN Cdr.yB 1 (some .byte), .methodLink ST 335 Cdr.yN, .declares Cdr.yN, .selects ST Cdr.yN Cdr.yN, .instanceMethod Cdr.yN]
theorem tabLen_of {a : Array Value} {s : State} (h : ∀ w ∈ wordsLen, w.before a s = true) : Len.tab.before a s = true := by
  have hc : Cdr.tab.before a s = true := unparts (wk h (.code Cdr.yN Cdr.yB 1 (some .byte))) (wks h (.initialized Cdr.yN.cls :: Cdr.site))
  have q := consq hc h
  exact unparts (wk q (.code Len.yN Len.yB 1 (some .int))) (wks q (.initialized Len.yN.cls :: Len.site))
theorem movedLen {Z s : State} {a0 args : Array Value} (hZ : Z.Warmed39 s.vm) (hw : ∀ d ∈ wordsLen, d.before a0 Z = true) : ∀ d ∈ wordsLen, d.before args s = true := fun d hd => by
  have q := hw d hd
  have t : ∀ d ∈ wordsLen, d = .arrayClass .byte ∨ (d.onTables && d.keepsFace) = true := by decide +kernel
  rcases t d hd with rfl | t
  · exact RoadKit.mvA hZ q
  · exact RoadKit.mv hZ q t
/-- the bytes of the chars cs, low before high -/
def wideBytes : List Int32 → List Value
  | [] => []
  | c :: cs => .int (lo8 c) :: .int (hi8 c) :: wideBytes cs
theorem wide_lo (d : Value) : ∀ (cs : List Int32) (j : Nat), j < cs.length → (wideBytes cs).getD (2 * j) d = .int (lo8 (cs.getD j 0))
  | [], j, h => absurd h (Nat.not_lt_zero j)
  | c :: cs, 0, _ => rfl
  | c :: cs, j + 1, h => by
    have q := wide_lo d cs j (by simpa using h)
    rw [show 2 * (j + 1) = 2 * j + 1 + 1 from by omega]
    simpa [wideBytes] using q
theorem wide_hi (d : Value) : ∀ (cs : List Int32) (j : Nat), j < cs.length → (wideBytes cs).getD (2 * j + 1) d = .int (hi8 (cs.getD j 0))
  | [], j, h => absurd h (Nat.not_lt_zero j)
  | c :: cs, 0, _ => rfl
  | c :: cs, j + 1, h => by
    have q := wide_hi d cs j (by simpa using h)
    rw [show 2 * (j + 1) + 1 = 2 * j + 1 + 1 + 1 from by omega]
    simpa [wideBytes] using q
theorem low_at (d : Value) (cs : List Int32) (j : Nat) (h : j < cs.length) : (cs.map fun c => Value.int (lo8 c)).getD j d = .int (lo8 (cs.getD j 0)) := by
  simp [List.getD_eq_getElem?_getD, h]
/-- an array of N2 bytes vs codes the chars cs by the coder cd -/
def CodA (cs : List Int32) (cd N2 : Int32) (vs : List Value) : Prop := (cd = 0 ∧ N2 = Int32.ofNat cs.length ∧ vs = (cs.map fun c => Value.int (lo8 c)) ∧ ∀ c ∈ cs, ¬ 255 < c) ∨ (cd = 1 ∧ N2 = Int32.ofNat (2 * cs.length) ∧ vs = wideBytes cs ∧ ∃ c ∈ cs, 255 < c)
theorem CodA.cod {cs : List Int32} {cd N2 : Int32} {vs : List Value} {V : Cell} (h : CodA cs cd N2 vs) (hn : 2 * cs.length < 2 ^ 31) (hs : V.slots.size = N2.toNatClampNeg) (hv : RoadKit.Has V vs (.int 0)) : Cod cd cs.length (fun j => cs.getD j 0) V := by
  rcases h with ⟨rfl, rfl, rfl, h⟩ | ⟨rfl, rfl, rfl, c, hc, hw⟩
  · rw [n32 (by omega)] at hs
    exact Or.inl ⟨rfl, hs, fun j hj => ⟨by rw [hv j (by omega), low_at _ _ _ hj], by
      have e : cs.getD j 0 = cs[j] := by simp [List.getD_eq_getElem?_getD, hj]
      show ¬ 255 < cs.getD j 0
      rw [e]; exact h _ (List.getElem_mem _)⟩⟩
  · rw [n32 (by omega)] at hs
    obtain ⟨j, hj, rfl⟩ := List.getElem_of_mem hc
    exact Or.inr ⟨rfl, hs, fun j hj => ⟨by rw [hv _ (by omega), wide_lo _ _ _ hj], by rw [hv _ (by omega), wide_hi _ _ _ hj]⟩, j, hj, by
      have e : cs.getD j 0 = cs[j] := by simp [List.getD_eq_getElem?_getD, hj]
      show 255 < cs.getD j 0
      rw [e]; exact hw⟩
/-- an object of exactly java/lang/String, its two fields found: as the laws ask it -/
theorem strObj {Z U : State} {a0 : Array Value} {kI : Nat} (wi : (Jvm.Cond.instantiable ST kI).before a0 Z = true) (al : Z.vm.Alike U.vm) {x : Addr} {v0 c0 : Value} (E : RoadKit.Exa Z U.heap x ST) (V : RoadKit.Fld Z U.heap x ST "value" "[B" v0) (C : RoadKit.Fld Z U.heap x ST "coder" "B" c0) :
    ∃ (D : Cell) (fV fC : Field), Blank ST x D U ∧ Found ST "value" "[B" fV U ∧ Found ST "coder" "B" fC U ∧ D.slots[fV.slot]? = some v0 ∧ D.slots[fC.slot]? = some c0 ∧ RoadKit.slotOf Z ST "value" "[B" = fV.slot ∧ RoadKit.slotOf Z ST "coder" "B" = fC.slot := by
  obtain ⟨D, cfV, kV, iV, fV, hD, gV, stV, knV, obV, asV, slV⟩ := V
  obtain ⟨D', cfC, kC, iC, fC, hD', gC, stC, -, -, asC, slC⟩ := C
  cases hD.symm.trans hD'
  obtain ⟨D2, kD, e1, e2, e3, e4, e5⟩ := E
  cases hD.symm.trans e1
  obtain ⟨c2, k2, i1, i2, i3, -⟩ := Cond.instantiable_spec wi
  cases e2.symm.trans i1
  cases e3.symm.trans i2
  obtain ⟨kU, u1, u2⟩ := al.2.2 _ _ e3
  exact ⟨D, fV, fC, ⟨hD, ⟨knV, fun q hq => by rw [hq] at obV; cases obV⟩, by rw [al.findClass]; exact e2, kU, u1, by rw [u2]; exact i3, by rw [u2]; exact e5 i3⟩, ⟨SBG.found_only al ⟨cfV, kV, iV, gV⟩, stV⟩, ⟨SBG.found_only al ⟨cfC, kC, iC, gC⟩, stC⟩, slV, slC, by simp [RoadKit.slotOf, gV], by simp [RoadKit.slotOf, gC]⟩
theorem sta_is {Z U : State} (al : Z.vm.Alike U.vm) {C n d : String} {v : Value} (S : RoadKit.Sta Z U.heap C n d v) : StaticIs U C n d v := by
  obtain ⟨cfS, iS, kS, fS, st, cS, t1, t2, t3, t4, t5, t6, t7⟩ := S
  exact StaticIs.there (s := { Z with heap := U.heap }) ⟨cfS, iS, kS, fS, st, cS, t1, t2, t3, t4, t5, (fun q => by rw [q] at t6; cases t6), t7⟩ al rfl
/-- **length() OF SUCH A STRING** -/
theorem lenW {p : Program} {l : Launch} {e : Env} {R : Room} {s : State} {args : Array Value} {below : List Frame} {len W : Nat} {Z : State} {a0 : Array Value} {h : Heap} (hZ : Z.Warmed39 s.vm) (hw : ∀ d ∈ wordsLen, d.before a0 Z = true) {kI : Nat} (wi : (Jvm.Cond.instantiable ST kI).before a0 Z = true)
    {x t : Addr} {kb : ClassId} {cs : List Int32} {cd N2 z : Int32} {vs : List Value} (E : RoadKit.Exa Z h x ST) (V : RoadKit.Fld Z h x ST "value" "[B" (.ref t)) (C : RoadKit.Fld Z h x ST "coder" "B" (.int cd)) (K : RoadKit.Arv Z h t kb .byte N2 vs (.int 0)) (hc : CodA cs cd N2 vs) (hb : ∀ c ∈ cs, ¬ c < 0 ∧ ¬ (65535 : Int32) < c)
    (S : RoadKit.Sta Z h ST "COMPACT_STRINGS" "Z" (.int z)) (hz : ¬ z = 0) (l2 : cs.length ≤ 4000) (hfr : 2 ≤ R.frames) (hlo : W + 25 ≤ R.locals) :
    Back l R p e below s args (⟨"java/lang/String", "length", "()I"⟩ : MethodName) len W (fun P a => a = #[.ref x] ∧ P.U.heap = h ∧ P.cells + 0 ≤ R.cells ∧ P.slots + 0 ≤ R.slots)
      (fun P _ v B => ∃ L, (v = some (.int (Int32.ofNat cs.length)) ∧ L = [] ∧ B.U.heap = h) ∧ B.locs = P.locs ++ L ∧ B.cells = P.cells + 0 ∧ B.slots = P.slots + 0) := by
  obtain ⟨A, K1, K2, K3, K4, K5, K6⟩ := K
  have hcod := hc.cod (by omega) K3 K5
  intro m meth c P g ig mk a X hg hsize hdg hW hn hp'
  obtain ⟨rfl, rfl, r1, r2⟩ := hp'
  have al : Z.vm.Alike P.U.vm := hZ.alike.trans X.warmed.alike
  obtain ⟨D, fV, fC, hB, F1, F2, g1, g2, -, -⟩ := strObj wi al E V C
  have hx : Txt x t A cd cs.length (fun j => cs.getD j 0) P.U := ⟨⟨_, hB.2.2.1, D, hB.1, rfl, by cases q : D.vm <;> first | rfl | exact absurd q (hB.2.1.2 _)⟩, Has.of hB F1 g1, Has.of hB F2 g2, ⟨K1.1, State.isArrayOf_alike al K1.2.1, K1.2.2, by rcases hcod with ⟨-, q, -⟩ | ⟨-, q, -⟩ <;> omega⟩, hcod, fun j hj => by
    have e : cs.getD j 0 = cs[j] := by simp [List.getD_eq_getElem?_getD, hj]
    show ¬ cs.getD j 0 < 0 ∧ ¬ 65535 < cs.getD j 0
    rw [e]; exact hb _ (List.getElem_mem _)⟩
  obtain ⟨v, B, X', ⟨⟨hv, hh⟩, hl, hk, hs⟩, st⟩ := Len.pays x t A cd cs.length (fun j => cs.getD j 0) z (tabLen_of (movedLen hZ hw)) hfr hlo m meth c P g ig mk _ X hg hsize hdg hW hn ⟨r1, r2, rfl, hx, sta_is al S, hz⟩
  exact ⟨v, B, X', ⟨[], ⟨hv, rfl, hh⟩, hl, hk, hs⟩, st⟩
end StrChars.Road
namespace StrChars.Road
open Jvm Sem ClassFile Op Lib Jvm.Stand Jvm.Free Jvm.Free.XT
open Jvm.Lib.Cold (StaticIs)
/-- the road's facts of a String, as the laws ask it -/
theorem txt_of {Z U : State} {a0 : Array Value} {kI : Nat} (wi : (Jvm.Cond.instantiable ST kI).before a0 Z = true) (al : Z.vm.Alike U.vm) {x t : Addr} {kb : ClassId} {cs : List Int32} {cd N2 : Int32} {vs : List Value} (E : RoadKit.Exa Z U.heap x ST) (V : RoadKit.Fld Z U.heap x ST "value" "[B" (.ref t)) (C : RoadKit.Fld Z U.heap x ST "coder" "B" (.int cd)) (K : RoadKit.Arv Z U.heap t kb .byte N2 vs (.int 0)) (hc : CodA cs cd N2 vs) (hb : ∀ c ∈ cs, ¬ c < 0 ∧ ¬ (65535 : Int32) < c) (l2 : cs.length ≤ 4000) :
    ∃ A, Txt x t A cd cs.length (fun j => cs.getD j 0) U := by
  obtain ⟨A, K1, K2, K3, K4, K5, K6⟩ := K
  have hcod := hc.cod (by omega) K3 K5
  obtain ⟨D, fV, fC, hB, F1, F2, g1, g2, -, -⟩ := strObj wi al E V C
  exact ⟨A, ⟨_, hB.2.2.1, D, hB.1, rfl, by cases q : D.vm <;> first | rfl | exact absurd q (hB.2.1.2 _)⟩, Has.of hB F1 g1, Has.of hB F2 g2, ⟨K1.1, State.isArrayOf_alike al K1.2.1, K1.2.2, by rcases hcod with ⟨-, q, -⟩ | ⟨-, q, -⟩ <;> omega⟩, hcod, fun j hj => by
    have e : cs.getD j 0 = cs[j] := by simp [List.getD_eq_getElem?_getD, hj]
    show ¬ cs.getD j 0 < 0 ∧ ¬ 65535 < cs.getD j 0
    rw [e]; exact hb _ (List.getElem_mem _)⟩
end StrChars.Road
namespace StrChars
open Jvm Sem ClassFile Op Lib Jvm.Stand Jvm.Free.XT Jvm.Free.ALB Jvm.Free.JM Jvm.Free
open Jvm.Lib.Cold (StaticIs)
namespace ChN
def yN : MethodName := ⟨"java/lang/String", "charAt", "(I)C"⟩
abbrev yB : ByteArray := jdk_42_method_56_code
theorem d0 : decode yB 0 = .ok (.aload_n 0, 1) := by decide +kernel
theorem d1 : decode yB 1 = .ok (.invokevirtual 492, 3) := by decide +kernel
theorem d4 : decode yB 4 = .ok (.ifCond (.eq) 12, 3) := by decide +kernel
theorem d7 : decode yB 7 = .ok (.aload_n 0, 1) := by decide +kernel
theorem d8 : decode yB 8 = .ok (.getfield 9, 3) := by decide +kernel
theorem d11 : decode yB 11 = .ok (.iload_n 1, 1) := by decide +kernel
theorem d12 : decode yB 12 = .ok (.invokestatic 495, 3) := by decide +kernel
theorem d15 : decode yB 15 = .ok (.ireturn, 1) := by decide +kernel
def site : List Cond := [.fieldLink "java/lang/String" 9 "java/lang/String" "value" "[B", IsL.tab, LChA.tab] ++ virtW "java/lang/String" 492 "java/lang/String" IsL.yN IsL.yN ++ staticW "java/lang/String" 495 LChA.yN
def tab : Cond := tabOf yN yB 2 (some .char) site
def P (x t : Addr) (V : Cell) (n : Nat) (f : Nat → Int32) (z : Int32) (fm : Value) (i : Nat) (args : Array Value) (s : State) : Prop := args = #[.ref x, .int (Int32.ofNat i)] ∧ Txt x t V 0 n f s ∧ i < n ∧ StaticIs s "java/lang/String" "COMPACT_STRINGS" "Z" (.int z) ∧ ¬ z = 0 ∧ StaticIs s "jdk/internal/util/Preconditions" "SIOOBE_FORMATTER" "Ljava/util/function/BiFunction;" fm ∧ fm.isRef = true
def E (f : Nat → Int32) (i : Nat) (r : Option Value) (s u : State) : Prop := XT.PureE (some (.int (f i))) r s u
/-- charAt(i) of a Latin-1 String of n chars, i < n: f i -/
theorem law (l : Launch) (x t : Addr) (V : Cell) (n : Nat) (f : Nat → Int32) (z : Int32) (fm : Value) (i : Nat) : Law l yN 2 1 3 40 yB 2 (some .char) site (P x t V n f z fm i) (E f i) [] 0 0 := by
  refine Law.of_walk (plainFor_of_name (by decide +kernel)) (by decide +kernel) (by decide +kernel) (by decide) (fun _ _ h => by rw [h.1]; rfl) (fun _ U U' hal hh h => ⟨h.1, h.2.1.mv hal hh, h.2.2.1, h.2.2.2.1.there hal hh, h.2.2.2.2.1, h.2.2.2.2.2.1.there hal hh, h.2.2.2.2.2.2⟩) (fun r U U' V V' h1 hal h2 h => XT.PureE.mv r U U' V V' h1 hal h2 h) ?_
  intro p e s m args below meth c s₁ X0 hexec hbytes hml hret hlk hnm hown hh0 W hP
  obtain ⟨rfl, hx, hi, s1, hz, s3, rf⟩ := hP
  have v31 := hx.2.2.2.1.2.2.2
  have hr := hx.2.2.2.2.2 i hi
  have hx0 := hx.mv X0.warmed.alike hh0
  have c1 : Steps p.tables e below (s₁.setTop (entryFrame m #[.ref x, .int (Int32.ofNat i)] 2)) (s₁.setTop (mkF m 1 #[.val (.ref x), .val (.int (Int32.ofNat i))] [.ref x])) := Steps.trans (entry rfl) (by
    show Steps p.tables e below (s₁.setTop (mkF m 0 #[.val (.ref x), .val (.int (Int32.ofNat i))] [])) _
    refine XS.aloadN X0.here hexec rfl (hb hbytes d0) rfl rfl ?_
    exact Steps.refl _)
  obtain ⟨v2, T2, X2, E2, g2⟩ := X0.callV hexec (IsL.law l x 0 z) hown (wks W (virtW "java/lang/String" 492 "java/lang/String" IsL.yN IsL.yN)) rfl (by decide) (wk W IsL.tab) (W := 0) (Nat.le_of_ble_eq_true rfl) (Nat.le_of_ble_eq_true rfl) (Nat.le_refl _) (Nat.le_refl _) (hx0.1.fc X0.warmed.alike) hx0.1.is (g := (mkF m 1 #[.val (.ref x), .val (.int (Int32.ofNat i))] [.ref x])) rfl (by rw [hml]; rfl) c1 (argsL := []) (rest := []) rfl rfl (by show 2 * 0 + 0 ≤ _; decide) (hb hbytes d1) (⟨rfl, hx0.2.2.1, hx.2.2.2.2.1.cd, s1.there X0.warmed.alike hh0, hz⟩)
  obtain ⟨rfl, q2⟩ := E2
  have hh2 := q2.trans hh0
  have hx2 := hx.mv X2.warmed.alike hh2
  obtain ⟨-, k1, k2⟩ | ⟨k0, -⟩ := hx.2.2.2.2.1
  · have c3 : Steps p.tables e below (s₁.setTop (entryFrame m #[.ref x, .int (Int32.ofNat i)] 2)) (T2.setTop (mkF m 8 #[.val (.ref x), .val (.int (Int32.ofNat i))] [.ref x])) := Steps.trans g2 (by
      refine XS.ifNo X2.here hexec rfl (hb hbytes d4) rfl (i0_eq_f (by decide)) ?_
      refine XS.aloadN X2.here hexec rfl (hb hbytes d7) rfl rfl ?_
      exact Steps.refl _)
    obtain ⟨T4, X4, q4, st4⟩ := X2.hget hexec hown (wk W (.fieldLink "java/lang/String" 9 "java/lang/String" "value" "[B")) hx2.2.1 (g := (mkF m 8 #[.val (.ref x), .val (.int (Int32.ofNat i))] [.ref x])) rfl (rest := []) rfl (hb hbytes d8)
    have hh4 := q4.trans hh2
    have c5 : Steps p.tables e below (s₁.setTop (entryFrame m #[.ref x, .int (Int32.ofNat i)] 2)) (T4.setTop (mkF m 12 #[.val (.ref x), .val (.int (Int32.ofNat i))] [.int (Int32.ofNat i), .ref t])) := (c3.trans (st4 _ (Steps.refl _))).trans (by
      refine XS.iloadN X4.here hexec rfl (hb hbytes d11) rfl ?_
      exact Steps.refl _)
    obtain ⟨v6, T6, X6, E6, g6⟩ := X4.callS hexec (LChA.law l t V i (lo8 (f i)) fm) hown (wks W (staticW "java/lang/String" 495 LChA.yN)) (wk W LChA.tab) (W := 0) (Nat.le_of_ble_eq_true rfl) (Nat.le_of_ble_eq_true rfl) (Nat.le_refl _) (Nat.le_refl _) (g := (mkF m 12 #[.val (.ref x), .val (.int (Int32.ofNat i))] [.int (Int32.ofNat i), .ref t])) rfl (by rw [hml]; rfl) c5 (argsL := [.ref t, .int (Int32.ofNat i)]) (rest := []) rfl rfl (by show 2 * 0 + 0 ≤ _; decide) (hb hbytes d12) (⟨rfl, hx.2.2.2.1.mv X4.warmed.alike hh4, (k2 i hi).1, s3.there X4.warmed.alike hh4, rf⟩)
    obtain ⟨rfl, q6⟩ := E6
    rw [chr8_lo8 hr.1 (k2 i hi).2] at g6
    exact ⟨T6, some (.int (f i)), _, _, _, X6, rfl, rfl, rfl, (fun h => by cases h), ⟨rfl, q6.trans hh4⟩, fun fs hl => Steps.trans g6 (X6.ireturnOut hexec hret (narrow_ch hr.1 hr.2) (Or.inr (Or.inr (Or.inr (Or.inl rfl)))) (hb hbytes d15) hl)⟩
  · exact absurd k0 (by decide)
theorem pays {l : Launch} {R : Room} {p : Program} {e : Env} {below : List Frame} {s : State} {sargs : Array Value} {len W : Nat} (x t : Addr) (V : Cell) (n : Nat) (f : Nat → Int32) (z : Int32) (fm : Value) (i : Nat) (htab : tab.before sargs s = true) (hfr : 4 ≤ R.frames) (hlo : W + 53 ≤ R.locals) :
    Back l R p e below s sargs yN len W (fun A₁ a₁ => A₁.cells + 0 ≤ R.cells ∧ A₁.slots + 0 ≤ R.slots ∧ P x t V n f z fm i a₁ A₁.U) (fun A₁ _ v₁ B₁ => E f i v₁ A₁.U B₁.U ∧ B₁.locs = A₁.locs ++ [] ∧ B₁.cells = A₁.cells + 0 ∧ B₁.slots = A₁.slots + 0) :=
  (law l x t V n f z fm i).pays htab hfr (by omega)
end ChN
end StrChars
namespace StrChars.Road
open Jvm Sem ClassFile Op Lib Jvm.Stand Jvm.Free Jvm.Free.XT
open Jvm.Lib.Cold (StaticIs)
/-- the words of String.charAt(int), the Latin-1 road alone -/
abbrev wordsChN : List Jvm.Cond := [.code ChN.yN ChN.yB 2 (some .char), .initialized ST, .fieldLink ST 9 ST "value" "[B", .fieldLink ST 38 ST "COMPACT_STRINGS" "Z", .fieldLink ST 15 ST "coder" "B", .code IsL.yN IsL.yB 1 (some .boolean), .methodLink ST 492 IsL.yN, .declares IsL.yN, .selects ST IsL.yN IsL.yN, .instanceMethod IsL.yN,
  .methodLink ST 495 LChA.yN, .static LChA.yN, .code LChA.yN LChA.yB 2 (some .char), .initialized "java/lang/StringLatin1", .methodLink "java/lang/StringLatin1" 9 JO.Str_checkIndex.yN, .static JO.Str_checkIndex.yN, .code JO.Str_checkIndex.yN JO.Str_checkIndex.yB 2 none,
  .fieldLink ST 1053 "jdk/internal/util/Preconditions" "SIOOBE_FORMATTER" "Ljava/util/function/BiFunction;", .methodLink ST 1059 JC.PreCheck.yN, .static JC.PreCheck.yN, .code JC.PreCheck.yN JC.PreCheck.yB 3 (some .int), .initialized "jdk/internal/util/Preconditions"]
theorem tabChN_of {a : Array Value} {s : State} (h : ∀ w ∈ wordsChN, w.before a s = true) : ChN.tab.before a s = true := by
  have hp : JC.PreCheck.tab.before a s = true := unparts (wk h (.code JC.PreCheck.yN JC.PreCheck.yB 3 (some .int))) (wks h (.initialized JC.PreCheck.yN.cls :: JC.PreCheck.site))
  have qk := consq hp h
  have hk : JO.Str_checkIndex.tab.before a s = true := unparts (wk qk (.code JO.Str_checkIndex.yN JO.Str_checkIndex.yB 2 none)) (wks qk (.initialized JO.Str_checkIndex.yN.cls :: JO.Str_checkIndex.site))
  have ql := consq hk h
  have hl : LChA.tab.before a s = true := unparts (wk ql (.code LChA.yN LChA.yB 2 (some .char))) (wks ql (.initialized LChA.yN.cls :: LChA.site))
  have hi : IsL.tab.before a s = true := unparts (wk h (.code IsL.yN IsL.yB 1 (some .boolean))) (wks h (.initialized IsL.yN.cls :: IsL.site))
  have q := consq hi (consq hl h)
  exact unparts (wk q (.code ChN.yN ChN.yB 2 (some .char))) (wks q (.initialized ChN.yN.cls :: ChN.site))
theorem movedChN {Z s : State} {a0 args : Array Value} (hZ : Z.Warmed39 s.vm) (hw : ∀ d ∈ wordsChN, d.before a0 Z = true) : ∀ d ∈ wordsChN, d.before args s = true := fun d hd => by
  have t : ∀ d ∈ wordsChN, (d.onTables && d.keepsFace) = true := by decide +kernel
  exact RoadKit.mv hZ (hw d hd) (t d hd)
/-- **charAt(i) OF A LATIN-1 STRING**, i < n: the char -/
theorem chN {p : Program} {l : Launch} {e : Env} {R : Room} {s : State} {args : Array Value} {below : List Frame} {len W : Nat} {Z : State} {a0 : Array Value} {h : Heap} (hZ : Z.Warmed39 s.vm) (hw : ∀ d ∈ wordsChN, d.before a0 Z = true) {kI : Nat} (wi : (Jvm.Cond.instantiable ST kI).before a0 Z = true)
    {x t : Addr} {kb : ClassId} {cs : List Int32} {N2 z : Int32} {vs : List Value} {fm : Value} {i : Nat} {j : Int32} (E : RoadKit.Exa Z h x ST) (V : RoadKit.Fld Z h x ST "value" "[B" (.ref t)) (C : RoadKit.Fld Z h x ST "coder" "B" (.int 0)) (K : RoadKit.Arv Z h t kb .byte N2 vs (.int 0)) (hc : CodA cs 0 N2 vs) (hb : ∀ c ∈ cs, ¬ c < 0 ∧ ¬ (65535 : Int32) < c)
    (S : RoadKit.Sta Z h ST "COMPACT_STRINGS" "Z" (.int z)) (hz : ¬ z = 0) (F : RoadKit.Sta Z h "jdk/internal/util/Preconditions" "SIOOBE_FORMATTER" "Ljava/util/function/BiFunction;" fm) (rf : fm.isRef = true) (l2 : cs.length ≤ 4000) (hi : i < cs.length) (hj : j = Int32.ofNat i) (hfr : 4 ≤ R.frames) (hlo : W + 53 ≤ R.locals) :
    Back l R p e below s args (⟨"java/lang/String", "charAt", "(I)C"⟩ : MethodName) len W (fun P a => a = #[.ref x, .int j] ∧ P.U.heap = h ∧ P.cells + 0 ≤ R.cells ∧ P.slots + 0 ≤ R.slots)
      (fun P _ v B => ∃ L, (v = some (.int (cs.getD i 0)) ∧ L = [] ∧ B.U.heap = h) ∧ B.locs = P.locs ++ L ∧ B.cells = P.cells + 0 ∧ B.slots = P.slots + 0) := by
  subst hj
  intro m meth c P g ig mk a X hg hsize hdg hW hn hp'
  obtain ⟨rfl, rfl, r1, r2⟩ := hp'
  have al : Z.vm.Alike P.U.vm := hZ.alike.trans X.warmed.alike
  obtain ⟨A, hx⟩ := txt_of wi al E V C K hc hb l2
  obtain ⟨v, B, X', ⟨⟨hv, hh⟩, hl, hk, hs⟩, st⟩ := ChN.pays x t A cs.length (fun j => cs.getD j 0) z fm i (tabChN_of (movedChN hZ hw)) hfr hlo m meth c P g ig mk _ X hg hsize hdg hW hn ⟨r1, r2, rfl, hx, hi, sta_is al S, hz, sta_is al F, rf⟩
  exact ⟨v, B, X', ⟨[], ⟨hv, rfl, hh⟩, hl, hk, hs⟩, st⟩
/-- what backV says of its String, as the contracts of this text ask it: cs's low bytes, coder 0 -/
theorem codOf {cs : List Int32} {n : Nat} (hn : cs.length = n) (hb : ∀ c ∈ cs, ¬ 255 < c) : CodA cs 0 (Int32.ofNat n) ((cs.map lo8).map Value.int) := Or.inl ⟨rfl, by rw [hn], by simp [List.map_map, Function.comp_def], hb⟩
end StrChars.Road
end Jvm.Pilot.@@N@@

namespace Jvm.Pilot.@@N@@
open Jvm Jvm.ClassFile Sem Op Lib Jvm.Free Jvm.Stand Jvm.LawKit Jvm.RoadKit Bundle Jvm.Ow Jvm.Pilot.@@N@@.Jvm.D
theorem wSt {a0 : Array Value} {Z : State} (hw : ∀ d ∈ tables_1, d.before a0 Z = true) : ∀ d ∈ Bundle.stringAtoms, d.before a0 Z = true := fun d hd => hw d ((by decide +kernel : ∀ d ∈ Bundle.stringAtoms, d ∈ tables_1) d hd)
theorem nref {t : FieldType} {w : Value} (h : w.isRef = true) : narrow t w = w := by cases w <;> first | (cases t <;> rfl) | cases h
theorem fref {C : String} {w : Value} (h : w.isRef = true) : fits (.object C) w = true := by cases w <;> first | rfl | cases h

theorem wCh {a0 : Array Value} {Z : State} (hw : ∀ d ∈ tables_1, d.before a0 Z = true) : ∀ d ∈ StrChars.Road.words, d.before a0 Z = true := fun d hd => hw d ((by decide +kernel : ∀ d ∈ StrChars.Road.words, d ∈ tables_1) d hd)
/-- what new String(chars) leaves -/
def QStr (Z : State) (x : Addr) (N : Int32) (cs : List Int32) (h : Heap) (v : Option Value) (u : Heap) : Prop := ∃ (t : Addr) (kb : ClassId), v = none ∧ Keep h u [x] ∧ Exa Z u x "java/lang/String" ∧ Fld Z u x "java/lang/String" "coder" "B" (.int (0 : Int32)) ∧ Fld Z u x "java/lang/String" "value" "[B" (.ref t) ∧ Arv Z u t kb .byte N ((cs.map fun c => c.toInt8.toInt32).map Value.int) (.int (0 : Int32)) ∧ h.size ≤ t
theorem payStr {p : Program} {l : Launch} {e : Env} {R : Room} {s : State} {m : MethodId} {args : Array Value} {below : List Frame} {meth : Method} {c : Code} {own : String} {Z : State} {a0 : Array Value} {EL : List (String × Nat)} {h0 : Heap} {T : State} {h : Heap} {vm : Vm} {cells slots : Nat} (X : Wk p l e R s m args below meth c own Z a0 EL h0 T h vm cells slots) {len W : Nat} (hw : ∀ d ∈ tables_1, d.before a0 Z = true) (wi : (Jvm.Cond.instantiable "java/lang/String" 4).before a0 Z = true)
    {x b : Addr} {kC : ClassId} (cs : List Int32) {d v0 c0 : Value} {z N : Int32} (n : Nat) (hx0 : Z.heap.size ≤ x) (E : Exa Z h x "java/lang/String") (V : Fld Z h x "java/lang/String" "value" "[B" v0) (C : Fld Z h x "java/lang/String" "coder" "B" c0) (K : Arv Z h b kC .char N (cs.map Value.int) d) (S : Sta Z Z.heap "java/lang/String" "COMPACT_STRINGS" "Z" (.int z)) (hz : ¬ z = 0)
    (hn : cs.length = n) (hN : N = Int32.ofNat n) (l0 : 0 < n) (l2 : n ≤ 4000) (hp : ∀ c ∈ cs, ¬ c < 0 ∧ ¬ (255 : Int32) < c) (hfr : 4 ≤ R.frames) (hlo : W + 65 ≤ R.locals) (sf : Safe Z EL vm h x) :
    Pay l R p e below s args (⟨"java/lang/String", "<init>", "([C)V"⟩ : MethodName) len W Z EL vm h #[.ref x, .ref b] 1 n (fun v _ u => QStr Z x N cs h v u) :=
  X.payN (ws := [x]) (StrChars.Road.backV (s := s.setVm vm) (n0 := Z.heap.size) X.hZ (wCh hw) wi hx0 X.ge E V C K (X.sta S) hz hn hN l0 l2 hp rfl hfr hlo)
    (fun v u L q => by obtain ⟨q1, q2, q3, q4, q5, t, kb, q6, q7, q8, q9, q10⟩ := q; exact ⟨q2, q3, t, kb, q1, q3, q4, q5, q9, q10, q7⟩) (allS hx0 all0) (sfS sf sf0)

theorem wide_of {cs : List Int32} (H : ∀ c ∈ cs, ¬ c < 0 ∧ ¬ (255 : Int32) < c) : ∀ c ∈ cs, ¬ c < 0 ∧ ¬ (65535 : Int32) < c := fun c hc => ⟨(H c hc).1, fun q => (H c hc).2 (by
  have e1 : (255 : Int32).toInt = 255 := by decide
  have e2 : (65535 : Int32).toInt = 65535 := by decide
  rw [Int32.lt_iff_toInt_lt] at q ⊢; omega)⟩
theorem cod_of {Z : State} {h : Heap} {a b : Addr} {k : ClassId} {cs : List Int32} (F : Str Z h a b k cs) : StrChars.Road.CodA cs 0 (Int32.ofNat cs.length) ((cs.map fun c => c.toInt8.toInt32).map Value.int) := StrChars.Road.codOf rfl fun c hc => (F.2.2.2.2.1 c hc).2

theorem wLen {a0 : Array Value} {Z : State} (hw : ∀ d ∈ tables_1, d.before a0 Z = true) : ∀ d ∈ StrChars.Road.wordsLen, d.before a0 Z = true := fun d hd => hw d ((by decide +kernel : ∀ d ∈ StrChars.Road.wordsLen, d ∈ tables_1) d hd)
theorem payLen {p : Program} {l : Launch} {e : Env} {R : Room} {s : State} {m : MethodId} {args : Array Value} {below : List Frame} {meth : Method} {c : Code} {own : String} {Z : State} {a0 : Array Value} {EL : List (String × Nat)} {h0 : Heap} {T : State} {h : Heap} {vm : Vm} {cells slots : Nat} (X : Wk p l e R s m args below meth c own Z a0 EL h0 T h vm cells slots) {len W : Nat} (hw : ∀ d ∈ tables_1, d.before a0 Z = true) (wi : (Jvm.Cond.instantiable "java/lang/String" 4).before a0 Z = true) {x t : Addr} {kb : ClassId} {cs : List Int32} (S1 : Str Z h x t kb cs) {z : Int32} (S : Sta Z Z.heap "java/lang/String" "COMPACT_STRINGS" "Z" (.int z)) (hz : ¬ z = 0) (hfr : 2 ≤ R.frames) (hlo : W + 25 ≤ R.locals) :
    Pay l R p e below s args (⟨"java/lang/String", "length", "()I"⟩ : MethodName) len W Z EL vm h #[.ref x] 0 0 (fun v _ u => v = some (.int (Int32.ofNat cs.length)) ∧ u = h) :=
  X.payN (ws := []) (Qn := fun v u L => v = some (.int (Int32.ofNat cs.length)) ∧ L = [] ∧ u = h) (StrChars.Road.lenW (s := s.setVm vm) X.hZ (wLen hw) wi S1.1 S1.2.2.1 S1.2.1 S1.2.2.2.1 (cod_of S1) (wide_of S1.2.2.2.2.1) (X.sta S) hz S1.2.2.2.2.2 hfr hlo)
    (fun v u L q => by obtain ⟨rfl, rfl, rfl⟩ := q; exact ⟨Fr.nil _, Keep.refl _ _, rfl, rfl⟩) all0 sf0

theorem wCN {a0 : Array Value} {Z : State} (hw : ∀ d ∈ tables_1, d.before a0 Z = true) : ∀ d ∈ StrChars.Road.wordsChN, d.before a0 Z = true := fun d hd => hw d ((by decide +kernel : ∀ d ∈ StrChars.Road.wordsChN, d ∈ tables_1) d hd)
theorem payCh {p : Program} {l : Launch} {e : Env} {R : Room} {s : State} {m : MethodId} {args : Array Value} {below : List Frame} {meth : Method} {c : Code} {own : String} {Z : State} {a0 : Array Value} {EL : List (String × Nat)} {h0 : Heap} {T : State} {h : Heap} {vm : Vm} {cells slots : Nat} (X : Wk p l e R s m args below meth c own Z a0 EL h0 T h vm cells slots) {len W : Nat} (hw : ∀ d ∈ tables_1, d.before a0 Z = true) (wi : (Jvm.Cond.instantiable "java/lang/String" 4).before a0 Z = true) {x t : Addr} {kb : ClassId} {cs : List Int32} (S1 : Str Z h x t kb cs) {z : Int32} (S : Sta Z Z.heap "java/lang/String" "COMPACT_STRINGS" "Z" (.int z)) (hz : ¬ z = 0) {fm : Value} (F : Sta Z Z.heap "jdk/internal/util/Preconditions" "SIOOBE_FORMATTER" "Ljava/util/function/BiFunction;" fm) (rf : fm.isRef = true) (i : Nat) {j : Int32} (hi : i < cs.length) (hj : j = Int32.ofNat i) (hfr : 4 ≤ R.frames) (hlo : W + 53 ≤ R.locals) :
    Pay l R p e below s args (⟨"java/lang/String", "charAt", "(I)C"⟩ : MethodName) len W Z EL vm h #[.ref x, .int j] 0 0 (fun v _ u => v = some (.int (cs.getD i 0)) ∧ u = h) :=
  X.payN (ws := []) (Qn := fun v u L => v = some (.int (cs.getD i 0)) ∧ L = [] ∧ u = h) (StrChars.Road.chN (s := s.setVm vm) X.hZ (wCN hw) wi S1.1 S1.2.2.1 S1.2.1 S1.2.2.2.1 (cod_of S1) (wide_of S1.2.2.2.2.1) (X.sta S) hz (X.sta F) rf S1.2.2.2.2.2 hi hj hfr hlo)
    (fun v u L q => by obtain ⟨rfl, rfl, rfl⟩ := q; exact ⟨Fr.nil _, Keep.refl _ _, rfl, rfl⟩) all0 sf0

theorem toN {n : Nat} (h : n ≤ 4000) : (Int32.ofNat n).toNatClampNeg = n := by
  have e1 := Int32.toInt_ofNat_small (n := n) (by omega)
  show (Int32.ofNat n).toInt.toNat = n
  rw [show (Int32.ofNat n).toInt = (n : Int) from e1]; rfl
theorem toI {n : Nat} (h : n ≤ 4000) : (Int32.ofNat n).toInt = (n : Int) := Int32.toInt_ofNat_small (n := n) (by omega)
theorem of_nlt {a b : Nat} (ha : a ≤ 4000) (hb : b ≤ 4000) (h : a ≤ b) : ¬ Int32.ofNat b < Int32.ofNat a := by
  rw [Int32.lt_iff_toInt_lt, toI ha, toI hb]; omega
theorem of_pos {a : Nat} (ha : a ≤ 4000) : ¬ Int32.ofNat a < (0 : Int32) := of_nlt (a := 0) (by omega) ha (Nat.zero_le _)
theorem of_inj {a b : Nat} (ha : a ≤ 4000) (hb : b ≤ 4000) (h : Int32.ofNat a = Int32.ofNat b) : a = b := by
  have := congrArg Int32.toInt h
  rw [toI ha, toI hb] at this; omega
theorem of_add (i k : Nat) : Int32.ofNat i + Int32.ofNat k = Int32.ofNat (i + k) := (Int32.ofNat_add i k).symm
theorem of_sub {i j : Nat} (h : i ≤ j) (hj : j ≤ 4000) : Int32.ofNat j - Int32.ofNat i = Int32.ofNat (j - i) := by
  apply Int32.toInt_inj.mp
  rw [Int32.toInt_sub, toI hj, toI (by omega), toI (by omega)]
  exact (Int.bmod_eq_of_le (by omega) (by omega)).trans (by omega)
theorem of_subl {i k n : Nat} (h : i + k ≤ n) (hn : n ≤ 4000) : ¬ (Int32.ofNat n - Int32.ofNat i) < Int32.ofNat k := by
  rw [Int32.lt_iff_toInt_lt, Int32.toInt_sub, toI hn, toI (by omega), toI (by omega), Int.bmod_eq_of_le (by omega) (by omega)]; omega
def slcV (vs : List Value) (i k : Nat) : List Value := (List.range k).map fun q => vs.getD (i + q) (Value.int (0 : Int32))
theorem copied {vs : List Value} {i k : Nat} (hi : i ≤ 4000) (hk : k ≤ 4000) : (List.replicate k (Value.int (0 : Int32))).take (0 : Int32).toNatClampNeg ++ (List.range (Int32.ofNat k).toNatClampNeg).map (fun q => vs.getD ((Int32.ofNat i).toNatClampNeg + q) (Value.int (0 : Int32))) ++ (List.replicate k (Value.int (0 : Int32))).drop ((0 : Int32).toNatClampNeg + (Int32.ofNat k).toNatClampNeg) = slcV vs i k := by
  rw [toN hk, toN hi, show (0 : Int32).toNatClampNeg = 0 from rfl]
  simp only [List.take_zero, List.nil_append, Nat.zero_add]
  rw [List.drop_of_length_le (by simp), List.append_nil]; rfl
theorem slc_by {cs : List Int32} {i k : Nat} (h : i + k ≤ cs.length) : slcV ((cs.map fun c => c.toInt8.toInt32).map Value.int) i k = ((((cs.drop i).take k).map fun c => c.toInt8.toInt32).map Value.int) := by
  unfold slcV
  apply List.ext_getElem
  · simp; omega
  · intro n h1 h2
    simp at h1
    simp [List.getD_eq_getElem?_getD, show i + n < cs.length by omega]
theorem slc_len {cs : List Int32} {i k : Nat} (h : i + k ≤ cs.length) : ((cs.drop i).take k).length = k := by simp; omega
theorem eq_of_le {a b : Int32} (h : ¬ b < a) (k : ¬ a < b) : a = b := by
  apply Int32.toInt_inj.mp
  rw [Int32.lt_iff_toInt_lt] at h k; omega
theorem slc_all {cs : List Int32} {i k : Nat} (h : i = 0) (h2 : i + k = cs.length) : cs = ((cs.drop i).take k) := by
  subst h; rw [List.drop_zero, show k = cs.length by omega, List.take_length]

def Good (cs ds : List Int32) (lo hi : Int32) : Prop := Int32.ofNat ds.length = hi - lo ∧ ∀ i : Nat, i < 5 → Int32.ofNat i < hi - lo → (i < ds.length ∧ ¬ lo + Int32.ofNat i < 0 ∧ (lo + Int32.ofNat i).toNatClampNeg < (5 : Int32).toNatClampNeg ∧ ds.getD i 0 = cs.getD (lo + Int32.ofNat i).toNatClampNeg 0)
theorem getD_map (cs : List Int32) (i : Nat) (d : Int32) : (cs.map Value.int).getD i (.int d) = .int (cs.getD i d) := by simp [List.getD_eq_getElem?_getD]

def sp (x : Int32) : Bool := x == 32 || x == 9 || x == 13 || x == 10
def trimL (cs : List Int32) : List Int32 := ((cs.dropWhile sp).reverse.dropWhile sp).reverse
theorem sp_no {P : Prop} [Decidable P] (h : (if P then (1 : Int32) else 0) = 0) : ¬ P := fun q => by rw [if_pos q] at h; exact absurd h (by decide)
theorem sp_yes {P : Prop} [Decidable P] (h : ¬ (if P then (1 : Int32) else 0) = 0) : P := Decidable.byContradiction fun q => h (if_neg q)
theorem sz6 (x : Int32) : ((x &&& (2147483647 : Int32)) % (6 : Int32)) = 0 ∨ ((x &&& (2147483647 : Int32)) % (6 : Int32)) = 1 ∨ ((x &&& (2147483647 : Int32)) % (6 : Int32)) = 2 ∨ ((x &&& (2147483647 : Int32)) % (6 : Int32)) = 3 ∨ ((x &&& (2147483647 : Int32)) % (6 : Int32)) = 4 ∨ ((x &&& (2147483647 : Int32)) % (6 : Int32)) = 5 := by
  have q := c_and x (2147483647 : Int32) (by decide)
  have r := (c_irem (x &&& (2147483647 : Int32)) (6 : Int32) 6 (by decide)).1 q.1
  have e0 : (0 : Int32).toInt = 0 := by decide
  have e1 : (1 : Int32).toInt = 1 := by decide
  have e2 : (2 : Int32).toInt = 2 := by decide
  have e3 : (3 : Int32).toInt = 3 := by decide
  have e4 : (4 : Int32).toInt = 4 := by decide
  have e5 : (5 : Int32).toInt = 5 := by decide
  simp only [← Int32.toInt_inj, e0, e1, e2, e3, e4, e5]; omega
theorem good_0_0 (c0 c1 c2 c3 c4 : Int32) : Good [c0, c1, c2, c3, c4] [] (0 : Int32) (0 : Int32) := by
  refine ⟨by show Int32.ofNat 0 = (0 : Int32) - (0 : Int32); decide, fun i hi h => ?_⟩
  rcases i with _ | _ | _ | _ | _ | i
  · exact absurd h (by decide)
  · exact absurd h (by decide)
  · exact absurd h (by decide)
  · exact absurd h (by decide)
  · exact absurd h (by decide)
  · omega
theorem good_0_1 (c0 c1 c2 c3 c4 : Int32) : Good [c0, c1, c2, c3, c4] [c0] (0 : Int32) (1 : Int32) := by
  refine ⟨by show Int32.ofNat 1 = (1 : Int32) - (0 : Int32); decide, fun i hi h => ?_⟩
  rcases i with _ | _ | _ | _ | _ | i
  · exact ⟨Nat.le_of_ble_eq_true rfl, by decide, by decide, rfl⟩
  · exact absurd h (by decide)
  · exact absurd h (by decide)
  · exact absurd h (by decide)
  · exact absurd h (by decide)
  · omega
theorem good_0_2 (c0 c1 c2 c3 c4 : Int32) : Good [c0, c1, c2, c3, c4] [c0, c1] (0 : Int32) (2 : Int32) := by
  refine ⟨by show Int32.ofNat 2 = (2 : Int32) - (0 : Int32); decide, fun i hi h => ?_⟩
  rcases i with _ | _ | _ | _ | _ | i
  · exact ⟨Nat.le_of_ble_eq_true rfl, by decide, by decide, rfl⟩
  · exact ⟨Nat.le_of_ble_eq_true rfl, by decide, by decide, rfl⟩
  · exact absurd h (by decide)
  · exact absurd h (by decide)
  · exact absurd h (by decide)
  · omega
theorem good_0_3 (c0 c1 c2 c3 c4 : Int32) : Good [c0, c1, c2, c3, c4] [c0, c1, c2] (0 : Int32) (3 : Int32) := by
  refine ⟨by show Int32.ofNat 3 = (3 : Int32) - (0 : Int32); decide, fun i hi h => ?_⟩
  rcases i with _ | _ | _ | _ | _ | i
  · exact ⟨Nat.le_of_ble_eq_true rfl, by decide, by decide, rfl⟩
  · exact ⟨Nat.le_of_ble_eq_true rfl, by decide, by decide, rfl⟩
  · exact ⟨Nat.le_of_ble_eq_true rfl, by decide, by decide, rfl⟩
  · exact absurd h (by decide)
  · exact absurd h (by decide)
  · omega
theorem good_0_4 (c0 c1 c2 c3 c4 : Int32) : Good [c0, c1, c2, c3, c4] [c0, c1, c2, c3] (0 : Int32) (4 : Int32) := by
  refine ⟨by show Int32.ofNat 4 = (4 : Int32) - (0 : Int32); decide, fun i hi h => ?_⟩
  rcases i with _ | _ | _ | _ | _ | i
  · exact ⟨Nat.le_of_ble_eq_true rfl, by decide, by decide, rfl⟩
  · exact ⟨Nat.le_of_ble_eq_true rfl, by decide, by decide, rfl⟩
  · exact ⟨Nat.le_of_ble_eq_true rfl, by decide, by decide, rfl⟩
  · exact ⟨Nat.le_of_ble_eq_true rfl, by decide, by decide, rfl⟩
  · exact absurd h (by decide)
  · omega
theorem good_0_5 (c0 c1 c2 c3 c4 : Int32) : Good [c0, c1, c2, c3, c4] [c0, c1, c2, c3, c4] (0 : Int32) (5 : Int32) := by
  refine ⟨by show Int32.ofNat 5 = (5 : Int32) - (0 : Int32); decide, fun i hi h => ?_⟩
  rcases i with _ | _ | _ | _ | _ | i
  · exact ⟨Nat.le_of_ble_eq_true rfl, by decide, by decide, rfl⟩
  · exact ⟨Nat.le_of_ble_eq_true rfl, by decide, by decide, rfl⟩
  · exact ⟨Nat.le_of_ble_eq_true rfl, by decide, by decide, rfl⟩
  · exact ⟨Nat.le_of_ble_eq_true rfl, by decide, by decide, rfl⟩
  · exact ⟨Nat.le_of_ble_eq_true rfl, by decide, by decide, rfl⟩
  · omega
theorem good_1_1 (c0 c1 c2 c3 c4 : Int32) : Good [c0, c1, c2, c3, c4] [] (1 : Int32) (1 : Int32) := by
  refine ⟨by show Int32.ofNat 0 = (1 : Int32) - (1 : Int32); decide, fun i hi h => ?_⟩
  rcases i with _ | _ | _ | _ | _ | i
  · exact absurd h (by decide)
  · exact absurd h (by decide)
  · exact absurd h (by decide)
  · exact absurd h (by decide)
  · exact absurd h (by decide)
  · omega
theorem good_1_2 (c0 c1 c2 c3 c4 : Int32) : Good [c0, c1, c2, c3, c4] [c1] (1 : Int32) (2 : Int32) := by
  refine ⟨by show Int32.ofNat 1 = (2 : Int32) - (1 : Int32); decide, fun i hi h => ?_⟩
  rcases i with _ | _ | _ | _ | _ | i
  · exact ⟨Nat.le_of_ble_eq_true rfl, by decide, by decide, rfl⟩
  · exact absurd h (by decide)
  · exact absurd h (by decide)
  · exact absurd h (by decide)
  · exact absurd h (by decide)
  · omega
theorem good_1_3 (c0 c1 c2 c3 c4 : Int32) : Good [c0, c1, c2, c3, c4] [c1, c2] (1 : Int32) (3 : Int32) := by
  refine ⟨by show Int32.ofNat 2 = (3 : Int32) - (1 : Int32); decide, fun i hi h => ?_⟩
  rcases i with _ | _ | _ | _ | _ | i
  · exact ⟨Nat.le_of_ble_eq_true rfl, by decide, by decide, rfl⟩
  · exact ⟨Nat.le_of_ble_eq_true rfl, by decide, by decide, rfl⟩
  · exact absurd h (by decide)
  · exact absurd h (by decide)
  · exact absurd h (by decide)
  · omega
theorem good_1_4 (c0 c1 c2 c3 c4 : Int32) : Good [c0, c1, c2, c3, c4] [c1, c2, c3] (1 : Int32) (4 : Int32) := by
  refine ⟨by show Int32.ofNat 3 = (4 : Int32) - (1 : Int32); decide, fun i hi h => ?_⟩
  rcases i with _ | _ | _ | _ | _ | i
  · exact ⟨Nat.le_of_ble_eq_true rfl, by decide, by decide, rfl⟩
  · exact ⟨Nat.le_of_ble_eq_true rfl, by decide, by decide, rfl⟩
  · exact ⟨Nat.le_of_ble_eq_true rfl, by decide, by decide, rfl⟩
  · exact absurd h (by decide)
  · exact absurd h (by decide)
  · omega
theorem good_1_5 (c0 c1 c2 c3 c4 : Int32) : Good [c0, c1, c2, c3, c4] [c1, c2, c3, c4] (1 : Int32) (5 : Int32) := by
  refine ⟨by show Int32.ofNat 4 = (5 : Int32) - (1 : Int32); decide, fun i hi h => ?_⟩
  rcases i with _ | _ | _ | _ | _ | i
  · exact ⟨Nat.le_of_ble_eq_true rfl, by decide, by decide, rfl⟩
  · exact ⟨Nat.le_of_ble_eq_true rfl, by decide, by decide, rfl⟩
  · exact ⟨Nat.le_of_ble_eq_true rfl, by decide, by decide, rfl⟩
  · exact ⟨Nat.le_of_ble_eq_true rfl, by decide, by decide, rfl⟩
  · exact absurd h (by decide)
  · omega
theorem good_2_2 (c0 c1 c2 c3 c4 : Int32) : Good [c0, c1, c2, c3, c4] [] (2 : Int32) (2 : Int32) := by
  refine ⟨by show Int32.ofNat 0 = (2 : Int32) - (2 : Int32); decide, fun i hi h => ?_⟩
  rcases i with _ | _ | _ | _ | _ | i
  · exact absurd h (by decide)
  · exact absurd h (by decide)
  · exact absurd h (by decide)
  · exact absurd h (by decide)
  · exact absurd h (by decide)
  · omega
theorem good_2_3 (c0 c1 c2 c3 c4 : Int32) : Good [c0, c1, c2, c3, c4] [c2] (2 : Int32) (3 : Int32) := by
  refine ⟨by show Int32.ofNat 1 = (3 : Int32) - (2 : Int32); decide, fun i hi h => ?_⟩
  rcases i with _ | _ | _ | _ | _ | i
  · exact ⟨Nat.le_of_ble_eq_true rfl, by decide, by decide, rfl⟩
  · exact absurd h (by decide)
  · exact absurd h (by decide)
  · exact absurd h (by decide)
  · exact absurd h (by decide)
  · omega
theorem good_2_4 (c0 c1 c2 c3 c4 : Int32) : Good [c0, c1, c2, c3, c4] [c2, c3] (2 : Int32) (4 : Int32) := by
  refine ⟨by show Int32.ofNat 2 = (4 : Int32) - (2 : Int32); decide, fun i hi h => ?_⟩
  rcases i with _ | _ | _ | _ | _ | i
  · exact ⟨Nat.le_of_ble_eq_true rfl, by decide, by decide, rfl⟩
  · exact ⟨Nat.le_of_ble_eq_true rfl, by decide, by decide, rfl⟩
  · exact absurd h (by decide)
  · exact absurd h (by decide)
  · exact absurd h (by decide)
  · omega
theorem good_2_5 (c0 c1 c2 c3 c4 : Int32) : Good [c0, c1, c2, c3, c4] [c2, c3, c4] (2 : Int32) (5 : Int32) := by
  refine ⟨by show Int32.ofNat 3 = (5 : Int32) - (2 : Int32); decide, fun i hi h => ?_⟩
  rcases i with _ | _ | _ | _ | _ | i
  · exact ⟨Nat.le_of_ble_eq_true rfl, by decide, by decide, rfl⟩
  · exact ⟨Nat.le_of_ble_eq_true rfl, by decide, by decide, rfl⟩
  · exact ⟨Nat.le_of_ble_eq_true rfl, by decide, by decide, rfl⟩
  · exact absurd h (by decide)
  · exact absurd h (by decide)
  · omega
theorem good_3_3 (c0 c1 c2 c3 c4 : Int32) : Good [c0, c1, c2, c3, c4] [] (3 : Int32) (3 : Int32) := by
  refine ⟨by show Int32.ofNat 0 = (3 : Int32) - (3 : Int32); decide, fun i hi h => ?_⟩
  rcases i with _ | _ | _ | _ | _ | i
  · exact absurd h (by decide)
  · exact absurd h (by decide)
  · exact absurd h (by decide)
  · exact absurd h (by decide)
  · exact absurd h (by decide)
  · omega
theorem good_3_4 (c0 c1 c2 c3 c4 : Int32) : Good [c0, c1, c2, c3, c4] [c3] (3 : Int32) (4 : Int32) := by
  refine ⟨by show Int32.ofNat 1 = (4 : Int32) - (3 : Int32); decide, fun i hi h => ?_⟩
  rcases i with _ | _ | _ | _ | _ | i
  · exact ⟨Nat.le_of_ble_eq_true rfl, by decide, by decide, rfl⟩
  · exact absurd h (by decide)
  · exact absurd h (by decide)
  · exact absurd h (by decide)
  · exact absurd h (by decide)
  · omega
theorem good_3_5 (c0 c1 c2 c3 c4 : Int32) : Good [c0, c1, c2, c3, c4] [c3, c4] (3 : Int32) (5 : Int32) := by
  refine ⟨by show Int32.ofNat 2 = (5 : Int32) - (3 : Int32); decide, fun i hi h => ?_⟩
  rcases i with _ | _ | _ | _ | _ | i
  · exact ⟨Nat.le_of_ble_eq_true rfl, by decide, by decide, rfl⟩
  · exact ⟨Nat.le_of_ble_eq_true rfl, by decide, by decide, rfl⟩
  · exact absurd h (by decide)
  · exact absurd h (by decide)
  · exact absurd h (by decide)
  · omega
theorem good_4_4 (c0 c1 c2 c3 c4 : Int32) : Good [c0, c1, c2, c3, c4] [] (4 : Int32) (4 : Int32) := by
  refine ⟨by show Int32.ofNat 0 = (4 : Int32) - (4 : Int32); decide, fun i hi h => ?_⟩
  rcases i with _ | _ | _ | _ | _ | i
  · exact absurd h (by decide)
  · exact absurd h (by decide)
  · exact absurd h (by decide)
  · exact absurd h (by decide)
  · exact absurd h (by decide)
  · omega
theorem good_4_5 (c0 c1 c2 c3 c4 : Int32) : Good [c0, c1, c2, c3, c4] [c4] (4 : Int32) (5 : Int32) := by
  refine ⟨by show Int32.ofNat 1 = (5 : Int32) - (4 : Int32); decide, fun i hi h => ?_⟩
  rcases i with _ | _ | _ | _ | _ | i
  · exact ⟨Nat.le_of_ble_eq_true rfl, by decide, by decide, rfl⟩
  · exact absurd h (by decide)
  · exact absurd h (by decide)
  · exact absurd h (by decide)
  · exact absurd h (by decide)
  · omega
theorem good_5_5 (c0 c1 c2 c3 c4 : Int32) : Good [c0, c1, c2, c3, c4] [] (5 : Int32) (5 : Int32) := by
  refine ⟨by show Int32.ofNat 0 = (5 : Int32) - (5 : Int32); decide, fun i hi h => ?_⟩
  rcases i with _ | _ | _ | _ | _ | i
  · exact absurd h (by decide)
  · exact absurd h (by decide)
  · exact absurd h (by decide)
  · exact absurd h (by decide)
  · exact absurd h (by decide)
  · omega
theorem fin0 {c0 c1 c2 c3 c4 lo0 lo1 lo2 lo3 lo4 hi0 hi1 hi2 hi3 hi4 : Int32} {ds : List Int32} (d : ds = trimL ([c0, c1, c2, c3, c4].take (0 : Int32).toNatClampNeg)) (q4 : lo4 = if (4 : Int32) < (0 : Int32) ∧ ¬ sp c4 = true then (4 : Int32) else (0 : Int32)) (q3 : lo3 = if (3 : Int32) < (0 : Int32) ∧ ¬ sp c3 = true then (3 : Int32) else lo4) (q2 : lo2 = if (2 : Int32) < (0 : Int32) ∧ ¬ sp c2 = true then (2 : Int32) else lo3) (q1 : lo1 = if (1 : Int32) < (0 : Int32) ∧ ¬ sp c1 = true then (1 : Int32) else lo2) (q0 : lo0 = if (0 : Int32) < (0 : Int32) ∧ ¬ sp c0 = true then (0 : Int32) else lo1) (r0 : hi0 = if (0 : Int32) < (0 : Int32) ∧ ¬ sp c0 = true then (1 : Int32) else lo0) (r1 : hi1 = if (1 : Int32) < (0 : Int32) ∧ ¬ sp c1 = true then (2 : Int32) else hi0) (r2 : hi2 = if (2 : Int32) < (0 : Int32) ∧ ¬ sp c2 = true then (3 : Int32) else hi1) (r3 : hi3 = if (3 : Int32) < (0 : Int32) ∧ ¬ sp c3 = true then (4 : Int32) else hi2) (r4 : hi4 = if (4 : Int32) < (0 : Int32) ∧ ¬ sp c4 = true then (5 : Int32) else hi3) : Good [c0, c1, c2, c3, c4] ds lo0 hi4 := by
  rw [if_neg (fun z => absurd z.1 (by decide))] at q0 r0
  rw [if_neg (fun z => absurd z.1 (by decide))] at q1 r1
  rw [if_neg (fun z => absurd z.1 (by decide))] at q2 r2
  rw [if_neg (fun z => absurd z.1 (by decide))] at q3 r3
  rw [if_neg (fun z => absurd z.1 (by decide))] at q4 r4
  replace d : ds = trimL [] := d
  replace d : ds = [] := d
  subst q4 q3 q2 q1 q0 r0 r1 r2 r3 r4 d
  exact good_0_0 c0 c1 c2 c3 c4
theorem fin1 {c0 c1 c2 c3 c4 lo0 lo1 lo2 lo3 lo4 hi0 hi1 hi2 hi3 hi4 : Int32} {ds : List Int32} (d : ds = trimL ([c0, c1, c2, c3, c4].take (1 : Int32).toNatClampNeg)) (q4 : lo4 = if (4 : Int32) < (1 : Int32) ∧ ¬ sp c4 = true then (4 : Int32) else (1 : Int32)) (q3 : lo3 = if (3 : Int32) < (1 : Int32) ∧ ¬ sp c3 = true then (3 : Int32) else lo4) (q2 : lo2 = if (2 : Int32) < (1 : Int32) ∧ ¬ sp c2 = true then (2 : Int32) else lo3) (q1 : lo1 = if (1 : Int32) < (1 : Int32) ∧ ¬ sp c1 = true then (1 : Int32) else lo2) (q0 : lo0 = if (0 : Int32) < (1 : Int32) ∧ ¬ sp c0 = true then (0 : Int32) else lo1) (r0 : hi0 = if (0 : Int32) < (1 : Int32) ∧ ¬ sp c0 = true then (1 : Int32) else lo0) (r1 : hi1 = if (1 : Int32) < (1 : Int32) ∧ ¬ sp c1 = true then (2 : Int32) else hi0) (r2 : hi2 = if (2 : Int32) < (1 : Int32) ∧ ¬ sp c2 = true then (3 : Int32) else hi1) (r3 : hi3 = if (3 : Int32) < (1 : Int32) ∧ ¬ sp c3 = true then (4 : Int32) else hi2) (r4 : hi4 = if (4 : Int32) < (1 : Int32) ∧ ¬ sp c4 = true then (5 : Int32) else hi3) : Good [c0, c1, c2, c3, c4] ds lo0 hi4 := by
  rw [if_neg (fun z => absurd z.1 (by decide))] at q1 r1
  rw [if_neg (fun z => absurd z.1 (by decide))] at q2 r2
  rw [if_neg (fun z => absurd z.1 (by decide))] at q3 r3
  rw [if_neg (fun z => absurd z.1 (by decide))] at q4 r4
  replace d : ds = trimL [c0] := d
  cases e0 : sp c0
  · rw [if_pos ⟨by decide, by rw [e0]; decide⟩] at q0 r0
    simp [trimL, e0] at d
    subst q4 q3 q2 q1 q0 r0 r1 r2 r3 r4 d
    exact good_0_1 c0 c1 c2 c3 c4
  · rw [if_neg (fun z => z.2 e0)] at q0 r0
    simp [trimL, e0] at d
    subst q4 q3 q2 q1 q0 r0 r1 r2 r3 r4 d
    exact good_1_1 c0 c1 c2 c3 c4
theorem fin2 {c0 c1 c2 c3 c4 lo0 lo1 lo2 lo3 lo4 hi0 hi1 hi2 hi3 hi4 : Int32} {ds : List Int32} (d : ds = trimL ([c0, c1, c2, c3, c4].take (2 : Int32).toNatClampNeg)) (q4 : lo4 = if (4 : Int32) < (2 : Int32) ∧ ¬ sp c4 = true then (4 : Int32) else (2 : Int32)) (q3 : lo3 = if (3 : Int32) < (2 : Int32) ∧ ¬ sp c3 = true then (3 : Int32) else lo4) (q2 : lo2 = if (2 : Int32) < (2 : Int32) ∧ ¬ sp c2 = true then (2 : Int32) else lo3) (q1 : lo1 = if (1 : Int32) < (2 : Int32) ∧ ¬ sp c1 = true then (1 : Int32) else lo2) (q0 : lo0 = if (0 : Int32) < (2 : Int32) ∧ ¬ sp c0 = true then (0 : Int32) else lo1) (r0 : hi0 = if (0 : Int32) < (2 : Int32) ∧ ¬ sp c0 = true then (1 : Int32) else lo0) (r1 : hi1 = if (1 : Int32) < (2 : Int32) ∧ ¬ sp c1 = true then (2 : Int32) else hi0) (r2 : hi2 = if (2 : Int32) < (2 : Int32) ∧ ¬ sp c2 = true then (3 : Int32) else hi1) (r3 : hi3 = if (3 : Int32) < (2 : Int32) ∧ ¬ sp c3 = true then (4 : Int32) else hi2) (r4 : hi4 = if (4 : Int32) < (2 : Int32) ∧ ¬ sp c4 = true then (5 : Int32) else hi3) : Good [c0, c1, c2, c3, c4] ds lo0 hi4 := by
  rw [if_neg (fun z => absurd z.1 (by decide))] at q2 r2
  rw [if_neg (fun z => absurd z.1 (by decide))] at q3 r3
  rw [if_neg (fun z => absurd z.1 (by decide))] at q4 r4
  replace d : ds = trimL [c0, c1] := d
  cases e0 : sp c0
  · cases e1 : sp c1
    · rw [if_pos ⟨by decide, by rw [e0]; decide⟩] at q0 r0
      rw [if_pos ⟨by decide, by rw [e1]; decide⟩] at q1 r1
      simp [trimL, e0, e1] at d
      subst q4 q3 q2 q1 q0 r0 r1 r2 r3 r4 d
      exact good_0_2 c0 c1 c2 c3 c4
    · rw [if_pos ⟨by decide, by rw [e0]; decide⟩] at q0 r0
      rw [if_neg (fun z => z.2 e1)] at q1 r1
      simp [trimL, e0, e1] at d
      subst q4 q3 q2 q1 q0 r0 r1 r2 r3 r4 d
      exact good_0_1 c0 c1 c2 c3 c4
  · cases e1 : sp c1
    · rw [if_neg (fun z => z.2 e0)] at q0 r0
      rw [if_pos ⟨by decide, by rw [e1]; decide⟩] at q1 r1
      simp [trimL, e0, e1] at d
      subst q4 q3 q2 q1 q0 r0 r1 r2 r3 r4 d
      exact good_1_2 c0 c1 c2 c3 c4
    · rw [if_neg (fun z => z.2 e0)] at q0 r0
      rw [if_neg (fun z => z.2 e1)] at q1 r1
      simp [trimL, e0, e1] at d
      subst q4 q3 q2 q1 q0 r0 r1 r2 r3 r4 d
      exact good_2_2 c0 c1 c2 c3 c4
theorem fin3 {c0 c1 c2 c3 c4 lo0 lo1 lo2 lo3 lo4 hi0 hi1 hi2 hi3 hi4 : Int32} {ds : List Int32} (d : ds = trimL ([c0, c1, c2, c3, c4].take (3 : Int32).toNatClampNeg)) (q4 : lo4 = if (4 : Int32) < (3 : Int32) ∧ ¬ sp c4 = true then (4 : Int32) else (3 : Int32)) (q3 : lo3 = if (3 : Int32) < (3 : Int32) ∧ ¬ sp c3 = true then (3 : Int32) else lo4) (q2 : lo2 = if (2 : Int32) < (3 : Int32) ∧ ¬ sp c2 = true then (2 : Int32) else lo3) (q1 : lo1 = if (1 : Int32) < (3 : Int32) ∧ ¬ sp c1 = true then (1 : Int32) else lo2) (q0 : lo0 = if (0 : Int32) < (3 : Int32) ∧ ¬ sp c0 = true then (0 : Int32) else lo1) (r0 : hi0 = if (0 : Int32) < (3 : Int32) ∧ ¬ sp c0 = true then (1 : Int32) else lo0) (r1 : hi1 = if (1 : Int32) < (3 : Int32) ∧ ¬ sp c1 = true then (2 : Int32) else hi0) (r2 : hi2 = if (2 : Int32) < (3 : Int32) ∧ ¬ sp c2 = true then (3 : Int32) else hi1) (r3 : hi3 = if (3 : Int32) < (3 : Int32) ∧ ¬ sp c3 = true then (4 : Int32) else hi2) (r4 : hi4 = if (4 : Int32) < (3 : Int32) ∧ ¬ sp c4 = true then (5 : Int32) else hi3) : Good [c0, c1, c2, c3, c4] ds lo0 hi4 := by
  rw [if_neg (fun z => absurd z.1 (by decide))] at q3 r3
  rw [if_neg (fun z => absurd z.1 (by decide))] at q4 r4
  replace d : ds = trimL [c0, c1, c2] := d
  cases e0 : sp c0
  · cases e1 : sp c1
    · cases e2 : sp c2
      · rw [if_pos ⟨by decide, by rw [e0]; decide⟩] at q0 r0
        rw [if_pos ⟨by decide, by rw [e1]; decide⟩] at q1 r1
        rw [if_pos ⟨by decide, by rw [e2]; decide⟩] at q2 r2
        simp [trimL, e0, e1, e2] at d
        subst q4 q3 q2 q1 q0 r0 r1 r2 r3 r4 d
        exact good_0_3 c0 c1 c2 c3 c4
      · rw [if_pos ⟨by decide, by rw [e0]; decide⟩] at q0 r0
        rw [if_pos ⟨by decide, by rw [e1]; decide⟩] at q1 r1
        rw [if_neg (fun z => z.2 e2)] at q2 r2
        simp [trimL, e0, e1, e2] at d
        subst q4 q3 q2 q1 q0 r0 r1 r2 r3 r4 d
        exact good_0_2 c0 c1 c2 c3 c4
    · cases e2 : sp c2
      · rw [if_pos ⟨by decide, by rw [e0]; decide⟩] at q0 r0
        rw [if_neg (fun z => z.2 e1)] at q1 r1
        rw [if_pos ⟨by decide, by rw [e2]; decide⟩] at q2 r2
        simp [trimL, e0, e1, e2] at d
        subst q4 q3 q2 q1 q0 r0 r1 r2 r3 r4 d
        exact good_0_3 c0 c1 c2 c3 c4
      · rw [if_pos ⟨by decide, by rw [e0]; decide⟩] at q0 r0
        rw [if_neg (fun z => z.2 e1)] at q1 r1
        rw [if_neg (fun z => z.2 e2)] at q2 r2
        simp [trimL, e0, e1, e2] at d
        subst q4 q3 q2 q1 q0 r0 r1 r2 r3 r4 d
        exact good_0_1 c0 c1 c2 c3 c4
  · cases e1 : sp c1
    · cases e2 : sp c2
      · rw [if_neg (fun z => z.2 e0)] at q0 r0
        rw [if_pos ⟨by decide, by rw [e1]; decide⟩] at q1 r1
        rw [if_pos ⟨by decide, by rw [e2]; decide⟩] at q2 r2
        simp [trimL, e0, e1, e2] at d
        subst q4 q3 q2 q1 q0 r0 r1 r2 r3 r4 d
        exact good_1_3 c0 c1 c2 c3 c4
      · rw [if_neg (fun z => z.2 e0)] at q0 r0
        rw [if_pos ⟨by decide, by rw [e1]; decide⟩] at q1 r1
        rw [if_neg (fun z => z.2 e2)] at q2 r2
        simp [trimL, e0, e1, e2] at d
        subst q4 q3 q2 q1 q0 r0 r1 r2 r3 r4 d
        exact good_1_2 c0 c1 c2 c3 c4
    · cases e2 : sp c2
      · rw [if_neg (fun z => z.2 e0)] at q0 r0
        rw [if_neg (fun z => z.2 e1)] at q1 r1
        rw [if_pos ⟨by decide, by rw [e2]; decide⟩] at q2 r2
        simp [trimL, e0, e1, e2] at d
        subst q4 q3 q2 q1 q0 r0 r1 r2 r3 r4 d
        exact good_2_3 c0 c1 c2 c3 c4
      · rw [if_neg (fun z => z.2 e0)] at q0 r0
        rw [if_neg (fun z => z.2 e1)] at q1 r1
        rw [if_neg (fun z => z.2 e2)] at q2 r2
        simp [trimL, e0, e1, e2] at d
        subst q4 q3 q2 q1 q0 r0 r1 r2 r3 r4 d
        exact good_3_3 c0 c1 c2 c3 c4
theorem fin4 {c0 c1 c2 c3 c4 lo0 lo1 lo2 lo3 lo4 hi0 hi1 hi2 hi3 hi4 : Int32} {ds : List Int32} (d : ds = trimL ([c0, c1, c2, c3, c4].take (4 : Int32).toNatClampNeg)) (q4 : lo4 = if (4 : Int32) < (4 : Int32) ∧ ¬ sp c4 = true then (4 : Int32) else (4 : Int32)) (q3 : lo3 = if (3 : Int32) < (4 : Int32) ∧ ¬ sp c3 = true then (3 : Int32) else lo4) (q2 : lo2 = if (2 : Int32) < (4 : Int32) ∧ ¬ sp c2 = true then (2 : Int32) else lo3) (q1 : lo1 = if (1 : Int32) < (4 : Int32) ∧ ¬ sp c1 = true then (1 : Int32) else lo2) (q0 : lo0 = if (0 : Int32) < (4 : Int32) ∧ ¬ sp c0 = true then (0 : Int32) else lo1) (r0 : hi0 = if (0 : Int32) < (4 : Int32) ∧ ¬ sp c0 = true then (1 : Int32) else lo0) (r1 : hi1 = if (1 : Int32) < (4 : Int32) ∧ ¬ sp c1 = true then (2 : Int32) else hi0) (r2 : hi2 = if (2 : Int32) < (4 : Int32) ∧ ¬ sp c2 = true then (3 : Int32) else hi1) (r3 : hi3 = if (3 : Int32) < (4 : Int32) ∧ ¬ sp c3 = true then (4 : Int32) else hi2) (r4 : hi4 = if (4 : Int32) < (4 : Int32) ∧ ¬ sp c4 = true then (5 : Int32) else hi3) : Good [c0, c1, c2, c3, c4] ds lo0 hi4 := by
  rw [if_neg (fun z => absurd z.1 (by decide))] at q4 r4
  replace d : ds = trimL [c0, c1, c2, c3] := d
  cases e0 : sp c0
  · cases e1 : sp c1
    · cases e2 : sp c2
      · cases e3 : sp c3
        · rw [if_pos ⟨by decide, by rw [e0]; decide⟩] at q0 r0
          rw [if_pos ⟨by decide, by rw [e1]; decide⟩] at q1 r1
          rw [if_pos ⟨by decide, by rw [e2]; decide⟩] at q2 r2
          rw [if_pos ⟨by decide, by rw [e3]; decide⟩] at q3 r3
          simp [trimL, e0, e1, e2, e3] at d
          subst q4 q3 q2 q1 q0 r0 r1 r2 r3 r4 d
          exact good_0_4 c0 c1 c2 c3 c4
        · rw [if_pos ⟨by decide, by rw [e0]; decide⟩] at q0 r0
          rw [if_pos ⟨by decide, by rw [e1]; decide⟩] at q1 r1
          rw [if_pos ⟨by decide, by rw [e2]; decide⟩] at q2 r2
          rw [if_neg (fun z => z.2 e3)] at q3 r3
          simp [trimL, e0, e1, e2, e3] at d
          subst q4 q3 q2 q1 q0 r0 r1 r2 r3 r4 d
          exact good_0_3 c0 c1 c2 c3 c4
      · cases e3 : sp c3
        · rw [if_pos ⟨by decide, by rw [e0]; decide⟩] at q0 r0
          rw [if_pos ⟨by decide, by rw [e1]; decide⟩] at q1 r1
          rw [if_neg (fun z => z.2 e2)] at q2 r2
          rw [if_pos ⟨by decide, by rw [e3]; decide⟩] at q3 r3
          simp [trimL, e0, e1, e2, e3] at d
          subst q4 q3 q2 q1 q0 r0 r1 r2 r3 r4 d
          exact good_0_4 c0 c1 c2 c3 c4
        · rw [if_pos ⟨by decide, by rw [e0]; decide⟩] at q0 r0
          rw [if_pos ⟨by decide, by rw [e1]; decide⟩] at q1 r1
          rw [if_neg (fun z => z.2 e2)] at q2 r2
          rw [if_neg (fun z => z.2 e3)] at q3 r3
          simp [trimL, e0, e1, e2, e3] at d
          subst q4 q3 q2 q1 q0 r0 r1 r2 r3 r4 d
          exact good_0_2 c0 c1 c2 c3 c4
    · cases e2 : sp c2
      · cases e3 : sp c3
        · rw [if_pos ⟨by decide, by rw [e0]; decide⟩] at q0 r0
          rw [if_neg (fun z => z.2 e1)] at q1 r1
          rw [if_pos ⟨by decide, by rw [e2]; decide⟩] at q2 r2
          rw [if_pos ⟨by decide, by rw [e3]; decide⟩] at q3 r3
          simp [trimL, e0, e1, e2, e3] at d
          subst q4 q3 q2 q1 q0 r0 r1 r2 r3 r4 d
          exact good_0_4 c0 c1 c2 c3 c4
        · rw [if_pos ⟨by decide, by rw [e0]; decide⟩] at q0 r0
          rw [if_neg (fun z => z.2 e1)] at q1 r1
          rw [if_pos ⟨by decide, by rw [e2]; decide⟩] at q2 r2
          rw [if_neg (fun z => z.2 e3)] at q3 r3
          simp [trimL, e0, e1, e2, e3] at d
          subst q4 q3 q2 q1 q0 r0 r1 r2 r3 r4 d
          exact good_0_3 c0 c1 c2 c3 c4
      · cases e3 : sp c3
        · rw [if_pos ⟨by decide, by rw [e0]; decide⟩] at q0 r0
          rw [if_neg (fun z => z.2 e1)] at q1 r1
          rw [if_neg (fun z => z.2 e2)] at q2 r2
          rw [if_pos ⟨by decide, by rw [e3]; decide⟩] at q3 r3
          simp [trimL, e0, e1, e2, e3] at d
          subst q4 q3 q2 q1 q0 r0 r1 r2 r3 r4 d
          exact good_0_4 c0 c1 c2 c3 c4
        · rw [if_pos ⟨by decide, by rw [e0]; decide⟩] at q0 r0
          rw [if_neg (fun z => z.2 e1)] at q1 r1
          rw [if_neg (fun z => z.2 e2)] at q2 r2
          rw [if_neg (fun z => z.2 e3)] at q3 r3
          simp [trimL, e0, e1, e2, e3] at d
          subst q4 q3 q2 q1 q0 r0 r1 r2 r3 r4 d
          exact good_0_1 c0 c1 c2 c3 c4
  · cases e1 : sp c1
    · cases e2 : sp c2
      · cases e3 : sp c3
        · rw [if_neg (fun z => z.2 e0)] at q0 r0
          rw [if_pos ⟨by decide, by rw [e1]; decide⟩] at q1 r1
          rw [if_pos ⟨by decide, by rw [e2]; decide⟩] at q2 r2
          rw [if_pos ⟨by decide, by rw [e3]; decide⟩] at q3 r3
          simp [trimL, e0, e1, e2, e3] at d
          subst q4 q3 q2 q1 q0 r0 r1 r2 r3 r4 d
          exact good_1_4 c0 c1 c2 c3 c4
        · rw [if_neg (fun z => z.2 e0)] at q0 r0
          rw [if_pos ⟨by decide, by rw [e1]; decide⟩] at q1 r1
          rw [if_pos ⟨by decide, by rw [e2]; decide⟩] at q2 r2
          rw [if_neg (fun z => z.2 e3)] at q3 r3
          simp [trimL, e0, e1, e2, e3] at d
          subst q4 q3 q2 q1 q0 r0 r1 r2 r3 r4 d
          exact good_1_3 c0 c1 c2 c3 c4
      · cases e3 : sp c3
        · rw [if_neg (fun z => z.2 e0)] at q0 r0
          rw [if_pos ⟨by decide, by rw [e1]; decide⟩] at q1 r1
          rw [if_neg (fun z => z.2 e2)] at q2 r2
          rw [if_pos ⟨by decide, by rw [e3]; decide⟩] at q3 r3
          simp [trimL, e0, e1, e2, e3] at d
          subst q4 q3 q2 q1 q0 r0 r1 r2 r3 r4 d
          exact good_1_4 c0 c1 c2 c3 c4
        · rw [if_neg (fun z => z.2 e0)] at q0 r0
          rw [if_pos ⟨by decide, by rw [e1]; decide⟩] at q1 r1
          rw [if_neg (fun z => z.2 e2)] at q2 r2
          rw [if_neg (fun z => z.2 e3)] at q3 r3
          simp [trimL, e0, e1, e2, e3] at d
          subst q4 q3 q2 q1 q0 r0 r1 r2 r3 r4 d
          exact good_1_2 c0 c1 c2 c3 c4
    · cases e2 : sp c2
      · cases e3 : sp c3
        · rw [if_neg (fun z => z.2 e0)] at q0 r0
          rw [if_neg (fun z => z.2 e1)] at q1 r1
          rw [if_pos ⟨by decide, by rw [e2]; decide⟩] at q2 r2
          rw [if_pos ⟨by decide, by rw [e3]; decide⟩] at q3 r3
          simp [trimL, e0, e1, e2, e3] at d
          subst q4 q3 q2 q1 q0 r0 r1 r2 r3 r4 d
          exact good_2_4 c0 c1 c2 c3 c4
        · rw [if_neg (fun z => z.2 e0)] at q0 r0
          rw [if_neg (fun z => z.2 e1)] at q1 r1
          rw [if_pos ⟨by decide, by rw [e2]; decide⟩] at q2 r2
          rw [if_neg (fun z => z.2 e3)] at q3 r3
          simp [trimL, e0, e1, e2, e3] at d
          subst q4 q3 q2 q1 q0 r0 r1 r2 r3 r4 d
          exact good_2_3 c0 c1 c2 c3 c4
      · cases e3 : sp c3
        · rw [if_neg (fun z => z.2 e0)] at q0 r0
          rw [if_neg (fun z => z.2 e1)] at q1 r1
          rw [if_neg (fun z => z.2 e2)] at q2 r2
          rw [if_pos ⟨by decide, by rw [e3]; decide⟩] at q3 r3
          simp [trimL, e0, e1, e2, e3] at d
          subst q4 q3 q2 q1 q0 r0 r1 r2 r3 r4 d
          exact good_3_4 c0 c1 c2 c3 c4
        · rw [if_neg (fun z => z.2 e0)] at q0 r0
          rw [if_neg (fun z => z.2 e1)] at q1 r1
          rw [if_neg (fun z => z.2 e2)] at q2 r2
          rw [if_neg (fun z => z.2 e3)] at q3 r3
          simp [trimL, e0, e1, e2, e3] at d
          subst q4 q3 q2 q1 q0 r0 r1 r2 r3 r4 d
          exact good_4_4 c0 c1 c2 c3 c4
theorem fin5 {c0 c1 c2 c3 c4 lo0 lo1 lo2 lo3 lo4 hi0 hi1 hi2 hi3 hi4 : Int32} {ds : List Int32} (d : ds = trimL ([c0, c1, c2, c3, c4].take (5 : Int32).toNatClampNeg)) (q4 : lo4 = if (4 : Int32) < (5 : Int32) ∧ ¬ sp c4 = true then (4 : Int32) else (5 : Int32)) (q3 : lo3 = if (3 : Int32) < (5 : Int32) ∧ ¬ sp c3 = true then (3 : Int32) else lo4) (q2 : lo2 = if (2 : Int32) < (5 : Int32) ∧ ¬ sp c2 = true then (2 : Int32) else lo3) (q1 : lo1 = if (1 : Int32) < (5 : Int32) ∧ ¬ sp c1 = true then (1 : Int32) else lo2) (q0 : lo0 = if (0 : Int32) < (5 : Int32) ∧ ¬ sp c0 = true then (0 : Int32) else lo1) (r0 : hi0 = if (0 : Int32) < (5 : Int32) ∧ ¬ sp c0 = true then (1 : Int32) else lo0) (r1 : hi1 = if (1 : Int32) < (5 : Int32) ∧ ¬ sp c1 = true then (2 : Int32) else hi0) (r2 : hi2 = if (2 : Int32) < (5 : Int32) ∧ ¬ sp c2 = true then (3 : Int32) else hi1) (r3 : hi3 = if (3 : Int32) < (5 : Int32) ∧ ¬ sp c3 = true then (4 : Int32) else hi2) (r4 : hi4 = if (4 : Int32) < (5 : Int32) ∧ ¬ sp c4 = true then (5 : Int32) else hi3) : Good [c0, c1, c2, c3, c4] ds lo0 hi4 := by
  replace d : ds = trimL [c0, c1, c2, c3, c4] := d
  cases e0 : sp c0
  · cases e1 : sp c1
    · cases e2 : sp c2
      · cases e3 : sp c3
        · cases e4 : sp c4
          · rw [if_pos ⟨by decide, by rw [e0]; decide⟩] at q0 r0
            rw [if_pos ⟨by decide, by rw [e1]; decide⟩] at q1 r1
            rw [if_pos ⟨by decide, by rw [e2]; decide⟩] at q2 r2
            rw [if_pos ⟨by decide, by rw [e3]; decide⟩] at q3 r3
            rw [if_pos ⟨by decide, by rw [e4]; decide⟩] at q4 r4
            simp [trimL, e0, e1, e2, e3, e4] at d
            subst q4 q3 q2 q1 q0 r0 r1 r2 r3 r4 d
            exact good_0_5 c0 c1 c2 c3 c4
          · rw [if_pos ⟨by decide, by rw [e0]; decide⟩] at q0 r0
            rw [if_pos ⟨by decide, by rw [e1]; decide⟩] at q1 r1
            rw [if_pos ⟨by decide, by rw [e2]; decide⟩] at q2 r2
            rw [if_pos ⟨by decide, by rw [e3]; decide⟩] at q3 r3
            rw [if_neg (fun z => z.2 e4)] at q4 r4
            simp [trimL, e0, e1, e2, e3, e4] at d
            subst q4 q3 q2 q1 q0 r0 r1 r2 r3 r4 d
            exact good_0_4 c0 c1 c2 c3 c4
        · cases e4 : sp c4
          · rw [if_pos ⟨by decide, by rw [e0]; decide⟩] at q0 r0
            rw [if_pos ⟨by decide, by rw [e1]; decide⟩] at q1 r1
            rw [if_pos ⟨by decide, by rw [e2]; decide⟩] at q2 r2
            rw [if_neg (fun z => z.2 e3)] at q3 r3
            rw [if_pos ⟨by decide, by rw [e4]; decide⟩] at q4 r4
            simp [trimL, e0, e1, e2, e3, e4] at d
            subst q4 q3 q2 q1 q0 r0 r1 r2 r3 r4 d
            exact good_0_5 c0 c1 c2 c3 c4
          · rw [if_pos ⟨by decide, by rw [e0]; decide⟩] at q0 r0
            rw [if_pos ⟨by decide, by rw [e1]; decide⟩] at q1 r1
            rw [if_pos ⟨by decide, by rw [e2]; decide⟩] at q2 r2
            rw [if_neg (fun z => z.2 e3)] at q3 r3
            rw [if_neg (fun z => z.2 e4)] at q4 r4
            simp [trimL, e0, e1, e2, e3, e4] at d
            subst q4 q3 q2 q1 q0 r0 r1 r2 r3 r4 d
            exact good_0_3 c0 c1 c2 c3 c4
      · cases e3 : sp c3
        · cases e4 : sp c4
          · rw [if_pos ⟨by decide, by rw [e0]; decide⟩] at q0 r0
            rw [if_pos ⟨by decide, by rw [e1]; decide⟩] at q1 r1
            rw [if_neg (fun z => z.2 e2)] at q2 r2
            rw [if_pos ⟨by decide, by rw [e3]; decide⟩] at q3 r3
            rw [if_pos ⟨by decide, by rw [e4]; decide⟩] at q4 r4
            simp [trimL, e0, e1, e2, e3, e4] at d
            subst q4 q3 q2 q1 q0 r0 r1 r2 r3 r4 d
            exact good_0_5 c0 c1 c2 c3 c4
          · rw [if_pos ⟨by decide, by rw [e0]; decide⟩] at q0 r0
            rw [if_pos ⟨by decide, by rw [e1]; decide⟩] at q1 r1
            rw [if_neg (fun z => z.2 e2)] at q2 r2
            rw [if_pos ⟨by decide, by rw [e3]; decide⟩] at q3 r3
            rw [if_neg (fun z => z.2 e4)] at q4 r4
            simp [trimL, e0, e1, e2, e3, e4] at d
            subst q4 q3 q2 q1 q0 r0 r1 r2 r3 r4 d
            exact good_0_4 c0 c1 c2 c3 c4
        · cases e4 : sp c4
          · rw [if_pos ⟨by decide, by rw [e0]; decide⟩] at q0 r0
            rw [if_pos ⟨by decide, by rw [e1]; decide⟩] at q1 r1
            rw [if_neg (fun z => z.2 e2)] at q2 r2
            rw [if_neg (fun z => z.2 e3)] at q3 r3
            rw [if_pos ⟨by decide, by rw [e4]; decide⟩] at q4 r4
            simp [trimL, e0, e1, e2, e3, e4] at d
            subst q4 q3 q2 q1 q0 r0 r1 r2 r3 r4 d
            exact good_0_5 c0 c1 c2 c3 c4
          · rw [if_pos ⟨by decide, by rw [e0]; decide⟩] at q0 r0
            rw [if_pos ⟨by decide, by rw [e1]; decide⟩] at q1 r1
            rw [if_neg (fun z => z.2 e2)] at q2 r2
            rw [if_neg (fun z => z.2 e3)] at q3 r3
            rw [if_neg (fun z => z.2 e4)] at q4 r4
            simp [trimL, e0, e1, e2, e3, e4] at d
            subst q4 q3 q2 q1 q0 r0 r1 r2 r3 r4 d
            exact good_0_2 c0 c1 c2 c3 c4
    · cases e2 : sp c2
      · cases e3 : sp c3
        · cases e4 : sp c4
          · rw [if_pos ⟨by decide, by rw [e0]; decide⟩] at q0 r0
            rw [if_neg (fun z => z.2 e1)] at q1 r1
            rw [if_pos ⟨by decide, by rw [e2]; decide⟩] at q2 r2
            rw [if_pos ⟨by decide, by rw [e3]; decide⟩] at q3 r3
            rw [if_pos ⟨by decide, by rw [e4]; decide⟩] at q4 r4
            simp [trimL, e0, e1, e2, e3, e4] at d
            subst q4 q3 q2 q1 q0 r0 r1 r2 r3 r4 d
            exact good_0_5 c0 c1 c2 c3 c4
          · rw [if_pos ⟨by decide, by rw [e0]; decide⟩] at q0 r0
            rw [if_neg (fun z => z.2 e1)] at q1 r1
            rw [if_pos ⟨by decide, by rw [e2]; decide⟩] at q2 r2
            rw [if_pos ⟨by decide, by rw [e3]; decide⟩] at q3 r3
            rw [if_neg (fun z => z.2 e4)] at q4 r4
            simp [trimL, e0, e1, e2, e3, e4] at d
            subst q4 q3 q2 q1 q0 r0 r1 r2 r3 r4 d
            exact good_0_4 c0 c1 c2 c3 c4
        · cases e4 : sp c4
          · rw [if_pos ⟨by decide, by rw [e0]; decide⟩] at q0 r0
            rw [if_neg (fun z => z.2 e1)] at q1 r1
            rw [if_pos ⟨by decide, by rw [e2]; decide⟩] at q2 r2
            rw [if_neg (fun z => z.2 e3)] at q3 r3
            rw [if_pos ⟨by decide, by rw [e4]; decide⟩] at q4 r4
            simp [trimL, e0, e1, e2, e3, e4] at d
            subst q4 q3 q2 q1 q0 r0 r1 r2 r3 r4 d
            exact good_0_5 c0 c1 c2 c3 c4
          · rw [if_pos ⟨by decide, by rw [e0]; decide⟩] at q0 r0
            rw [if_neg (fun z => z.2 e1)] at q1 r1
            rw [if_pos ⟨by decide, by rw [e2]; decide⟩] at q2 r2
            rw [if_neg (fun z => z.2 e3)] at q3 r3
            rw [if_neg (fun z => z.2 e4)] at q4 r4
            simp [trimL, e0, e1, e2, e3, e4] at d
            subst q4 q3 q2 q1 q0 r0 r1 r2 r3 r4 d
            exact good_0_3 c0 c1 c2 c3 c4
      · cases e3 : sp c3
        · cases e4 : sp c4
          · rw [if_pos ⟨by decide, by rw [e0]; decide⟩] at q0 r0
            rw [if_neg (fun z => z.2 e1)] at q1 r1
            rw [if_neg (fun z => z.2 e2)] at q2 r2
            rw [if_pos ⟨by decide, by rw [e3]; decide⟩] at q3 r3
            rw [if_pos ⟨by decide, by rw [e4]; decide⟩] at q4 r4
            simp [trimL, e0, e1, e2, e3, e4] at d
            subst q4 q3 q2 q1 q0 r0 r1 r2 r3 r4 d
            exact good_0_5 c0 c1 c2 c3 c4
          · rw [if_pos ⟨by decide, by rw [e0]; decide⟩] at q0 r0
            rw [if_neg (fun z => z.2 e1)] at q1 r1
            rw [if_neg (fun z => z.2 e2)] at q2 r2
            rw [if_pos ⟨by decide, by rw [e3]; decide⟩] at q3 r3
            rw [if_neg (fun z => z.2 e4)] at q4 r4
            simp [trimL, e0, e1, e2, e3, e4] at d
            subst q4 q3 q2 q1 q0 r0 r1 r2 r3 r4 d
            exact good_0_4 c0 c1 c2 c3 c4
        · cases e4 : sp c4
          · rw [if_pos ⟨by decide, by rw [e0]; decide⟩] at q0 r0
            rw [if_neg (fun z => z.2 e1)] at q1 r1
            rw [if_neg (fun z => z.2 e2)] at q2 r2
            rw [if_neg (fun z => z.2 e3)] at q3 r3
            rw [if_pos ⟨by decide, by rw [e4]; decide⟩] at q4 r4
            simp [trimL, e0, e1, e2, e3, e4] at d
            subst q4 q3 q2 q1 q0 r0 r1 r2 r3 r4 d
            exact good_0_5 c0 c1 c2 c3 c4
          · rw [if_pos ⟨by decide, by rw [e0]; decide⟩] at q0 r0
            rw [if_neg (fun z => z.2 e1)] at q1 r1
            rw [if_neg (fun z => z.2 e2)] at q2 r2
            rw [if_neg (fun z => z.2 e3)] at q3 r3
            rw [if_neg (fun z => z.2 e4)] at q4 r4
            simp [trimL, e0, e1, e2, e3, e4] at d
            subst q4 q3 q2 q1 q0 r0 r1 r2 r3 r4 d
            exact good_0_1 c0 c1 c2 c3 c4
  · cases e1 : sp c1
    · cases e2 : sp c2
      · cases e3 : sp c3
        · cases e4 : sp c4
          · rw [if_neg (fun z => z.2 e0)] at q0 r0
            rw [if_pos ⟨by decide, by rw [e1]; decide⟩] at q1 r1
            rw [if_pos ⟨by decide, by rw [e2]; decide⟩] at q2 r2
            rw [if_pos ⟨by decide, by rw [e3]; decide⟩] at q3 r3
            rw [if_pos ⟨by decide, by rw [e4]; decide⟩] at q4 r4
            simp [trimL, e0, e1, e2, e3, e4] at d
            subst q4 q3 q2 q1 q0 r0 r1 r2 r3 r4 d
            exact good_1_5 c0 c1 c2 c3 c4
          · rw [if_neg (fun z => z.2 e0)] at q0 r0
            rw [if_pos ⟨by decide, by rw [e1]; decide⟩] at q1 r1
            rw [if_pos ⟨by decide, by rw [e2]; decide⟩] at q2 r2
            rw [if_pos ⟨by decide, by rw [e3]; decide⟩] at q3 r3
            rw [if_neg (fun z => z.2 e4)] at q4 r4
            simp [trimL, e0, e1, e2, e3, e4] at d
            subst q4 q3 q2 q1 q0 r0 r1 r2 r3 r4 d
            exact good_1_4 c0 c1 c2 c3 c4
        · cases e4 : sp c4
          · rw [if_neg (fun z => z.2 e0)] at q0 r0
            rw [if_pos ⟨by decide, by rw [e1]; decide⟩] at q1 r1
            rw [if_pos ⟨by decide, by rw [e2]; decide⟩] at q2 r2
            rw [if_neg (fun z => z.2 e3)] at q3 r3
            rw [if_pos ⟨by decide, by rw [e4]; decide⟩] at q4 r4
            simp [trimL, e0, e1, e2, e3, e4] at d
            subst q4 q3 q2 q1 q0 r0 r1 r2 r3 r4 d
            exact good_1_5 c0 c1 c2 c3 c4
          · rw [if_neg (fun z => z.2 e0)] at q0 r0
            rw [if_pos ⟨by decide, by rw [e1]; decide⟩] at q1 r1
            rw [if_pos ⟨by decide, by rw [e2]; decide⟩] at q2 r2
            rw [if_neg (fun z => z.2 e3)] at q3 r3
            rw [if_neg (fun z => z.2 e4)] at q4 r4
            simp [trimL, e0, e1, e2, e3, e4] at d
            subst q4 q3 q2 q1 q0 r0 r1 r2 r3 r4 d
            exact good_1_3 c0 c1 c2 c3 c4
      · cases e3 : sp c3
        · cases e4 : sp c4
          · rw [if_neg (fun z => z.2 e0)] at q0 r0
            rw [if_pos ⟨by decide, by rw [e1]; decide⟩] at q1 r1
            rw [if_neg (fun z => z.2 e2)] at q2 r2
            rw [if_pos ⟨by decide, by rw [e3]; decide⟩] at q3 r3
            rw [if_pos ⟨by decide, by rw [e4]; decide⟩] at q4 r4
            simp [trimL, e0, e1, e2, e3, e4] at d
            subst q4 q3 q2 q1 q0 r0 r1 r2 r3 r4 d
            exact good_1_5 c0 c1 c2 c3 c4
          · rw [if_neg (fun z => z.2 e0)] at q0 r0
            rw [if_pos ⟨by decide, by rw [e1]; decide⟩] at q1 r1
            rw [if_neg (fun z => z.2 e2)] at q2 r2
            rw [if_pos ⟨by decide, by rw [e3]; decide⟩] at q3 r3
            rw [if_neg (fun z => z.2 e4)] at q4 r4
            simp [trimL, e0, e1, e2, e3, e4] at d
            subst q4 q3 q2 q1 q0 r0 r1 r2 r3 r4 d
            exact good_1_4 c0 c1 c2 c3 c4
        · cases e4 : sp c4
          · rw [if_neg (fun z => z.2 e0)] at q0 r0
            rw [if_pos ⟨by decide, by rw [e1]; decide⟩] at q1 r1
            rw [if_neg (fun z => z.2 e2)] at q2 r2
            rw [if_neg (fun z => z.2 e3)] at q3 r3
            rw [if_pos ⟨by decide, by rw [e4]; decide⟩] at q4 r4
            simp [trimL, e0, e1, e2, e3, e4] at d
            subst q4 q3 q2 q1 q0 r0 r1 r2 r3 r4 d
            exact good_1_5 c0 c1 c2 c3 c4
          · rw [if_neg (fun z => z.2 e0)] at q0 r0
            rw [if_pos ⟨by decide, by rw [e1]; decide⟩] at q1 r1
            rw [if_neg (fun z => z.2 e2)] at q2 r2
            rw [if_neg (fun z => z.2 e3)] at q3 r3
            rw [if_neg (fun z => z.2 e4)] at q4 r4
            simp [trimL, e0, e1, e2, e3, e4] at d
            subst q4 q3 q2 q1 q0 r0 r1 r2 r3 r4 d
            exact good_1_2 c0 c1 c2 c3 c4
    · cases e2 : sp c2
      · cases e3 : sp c3
        · cases e4 : sp c4
          · rw [if_neg (fun z => z.2 e0)] at q0 r0
            rw [if_neg (fun z => z.2 e1)] at q1 r1
            rw [if_pos ⟨by decide, by rw [e2]; decide⟩] at q2 r2
            rw [if_pos ⟨by decide, by rw [e3]; decide⟩] at q3 r3
            rw [if_pos ⟨by decide, by rw [e4]; decide⟩] at q4 r4
            simp [trimL, e0, e1, e2, e3, e4] at d
            subst q4 q3 q2 q1 q0 r0 r1 r2 r3 r4 d
            exact good_2_5 c0 c1 c2 c3 c4
          · rw [if_neg (fun z => z.2 e0)] at q0 r0
            rw [if_neg (fun z => z.2 e1)] at q1 r1
            rw [if_pos ⟨by decide, by rw [e2]; decide⟩] at q2 r2
            rw [if_pos ⟨by decide, by rw [e3]; decide⟩] at q3 r3
            rw [if_neg (fun z => z.2 e4)] at q4 r4
            simp [trimL, e0, e1, e2, e3, e4] at d
            subst q4 q3 q2 q1 q0 r0 r1 r2 r3 r4 d
            exact good_2_4 c0 c1 c2 c3 c4
        · cases e4 : sp c4
          · rw [if_neg (fun z => z.2 e0)] at q0 r0
            rw [if_neg (fun z => z.2 e1)] at q1 r1
            rw [if_pos ⟨by decide, by rw [e2]; decide⟩] at q2 r2
            rw [if_neg (fun z => z.2 e3)] at q3 r3
            rw [if_pos ⟨by decide, by rw [e4]; decide⟩] at q4 r4
            simp [trimL, e0, e1, e2, e3, e4] at d
            subst q4 q3 q2 q1 q0 r0 r1 r2 r3 r4 d
            exact good_2_5 c0 c1 c2 c3 c4
          · rw [if_neg (fun z => z.2 e0)] at q0 r0
            rw [if_neg (fun z => z.2 e1)] at q1 r1
            rw [if_pos ⟨by decide, by rw [e2]; decide⟩] at q2 r2
            rw [if_neg (fun z => z.2 e3)] at q3 r3
            rw [if_neg (fun z => z.2 e4)] at q4 r4
            simp [trimL, e0, e1, e2, e3, e4] at d
            subst q4 q3 q2 q1 q0 r0 r1 r2 r3 r4 d
            exact good_2_3 c0 c1 c2 c3 c4
      · cases e3 : sp c3
        · cases e4 : sp c4
          · rw [if_neg (fun z => z.2 e0)] at q0 r0
            rw [if_neg (fun z => z.2 e1)] at q1 r1
            rw [if_neg (fun z => z.2 e2)] at q2 r2
            rw [if_pos ⟨by decide, by rw [e3]; decide⟩] at q3 r3
            rw [if_pos ⟨by decide, by rw [e4]; decide⟩] at q4 r4
            simp [trimL, e0, e1, e2, e3, e4] at d
            subst q4 q3 q2 q1 q0 r0 r1 r2 r3 r4 d
            exact good_3_5 c0 c1 c2 c3 c4
          · rw [if_neg (fun z => z.2 e0)] at q0 r0
            rw [if_neg (fun z => z.2 e1)] at q1 r1
            rw [if_neg (fun z => z.2 e2)] at q2 r2
            rw [if_pos ⟨by decide, by rw [e3]; decide⟩] at q3 r3
            rw [if_neg (fun z => z.2 e4)] at q4 r4
            simp [trimL, e0, e1, e2, e3, e4] at d
            subst q4 q3 q2 q1 q0 r0 r1 r2 r3 r4 d
            exact good_3_4 c0 c1 c2 c3 c4
        · cases e4 : sp c4
          · rw [if_neg (fun z => z.2 e0)] at q0 r0
            rw [if_neg (fun z => z.2 e1)] at q1 r1
            rw [if_neg (fun z => z.2 e2)] at q2 r2
            rw [if_neg (fun z => z.2 e3)] at q3 r3
            rw [if_pos ⟨by decide, by rw [e4]; decide⟩] at q4 r4
            simp [trimL, e0, e1, e2, e3, e4] at d
            subst q4 q3 q2 q1 q0 r0 r1 r2 r3 r4 d
            exact good_4_5 c0 c1 c2 c3 c4
          · rw [if_neg (fun z => z.2 e0)] at q0 r0
            rw [if_neg (fun z => z.2 e1)] at q1 r1
            rw [if_neg (fun z => z.2 e2)] at q2 r2
            rw [if_neg (fun z => z.2 e3)] at q3 r3
            rw [if_neg (fun z => z.2 e4)] at q4 r4
            simp [trimL, e0, e1, e2, e3, e4] at d
            subst q4 q3 q2 q1 q0 r0 r1 r2 r3 r4 d
            exact good_5_5 c0 c1 c2 c3 c4
theorem fin {N c0 c1 c2 c3 c4 lo0 lo1 lo2 lo3 lo4 hi0 hi1 hi2 hi3 hi4 : Int32} {ds : List Int32} (hN : N = 0 ∨ N = 1 ∨ N = 2 ∨ N = 3 ∨ N = 4 ∨ N = 5) (d : ds = trimL ([c0, c1, c2, c3, c4].take N.toNatClampNeg)) (q4 : lo4 = if (4 : Int32) < N ∧ ¬ sp c4 = true then (4 : Int32) else N) (q3 : lo3 = if (3 : Int32) < N ∧ ¬ sp c3 = true then (3 : Int32) else lo4) (q2 : lo2 = if (2 : Int32) < N ∧ ¬ sp c2 = true then (2 : Int32) else lo3) (q1 : lo1 = if (1 : Int32) < N ∧ ¬ sp c1 = true then (1 : Int32) else lo2) (q0 : lo0 = if (0 : Int32) < N ∧ ¬ sp c0 = true then (0 : Int32) else lo1) (r0 : hi0 = if (0 : Int32) < N ∧ ¬ sp c0 = true then (1 : Int32) else lo0) (r1 : hi1 = if (1 : Int32) < N ∧ ¬ sp c1 = true then (2 : Int32) else hi0) (r2 : hi2 = if (2 : Int32) < N ∧ ¬ sp c2 = true then (3 : Int32) else hi1) (r3 : hi3 = if (3 : Int32) < N ∧ ¬ sp c3 = true then (4 : Int32) else hi2) (r4 : hi4 = if (4 : Int32) < N ∧ ¬ sp c4 = true then (5 : Int32) else hi3) : Good [c0, c1, c2, c3, c4] ds lo0 hi4 := by
  rcases hN with rfl | rfl | rfl | rfl | rfl | rfl
  · exact fin0 d q4 q3 q2 q1 q0 r0 r1 r2 r3 r4
  · exact fin1 d q4 q3 q2 q1 q0 r0 r1 r2 r3 r4
  · exact fin2 d q4 q3 q2 q1 q0 r0 r1 r2 r3 r4
  · exact fin3 d q4 q3 q2 q1 q0 r0 r1 r2 r3 r4
  · exact fin4 d q4 q3 q2 q1 q0 r0 r1 r2 r3 r4
  · exact fin5 d q4 q3 q2 q1 q0 r0 r1 r2 r3 r4

abbrev HW (a0 : Array Value) (Z : State) : Prop := ∀ d ∈ tables_1, d.before a0 Z = true
theorem hw_at {a0 : Array Value} {Z : State} (hw : HW a0 Z) (i : Nat) {d : Jvm.Cond} (h : tables_1[i]? = some d) : d.before a0 Z = true := hw _ (List.mem_of_getElem? h)
abbrev Cx (Z : State) (a0 : Array Value) (zc : Int32) (fm : Value) : Prop := HW a0 Z ∧ (EW Z a0 consts_1) ∧ (Sta Z Z.heap "java/lang/String" "COMPACT_STRINGS" "Z" (.int zc)) ∧ (¬ zc = 0) ∧ (Sta Z Z.heap "jdk/internal/util/Preconditions" "SIOOBE_FORMATTER" "Ljava/util/function/BiFunction;" fm) ∧ (fm.isRef = true)
variable {l : Launch} {Z : State} {a0 : Array Value} {zc : Int32} {fm : Value}
theorem w0 (hw : HW a0 Z) : (Jvm.Cond.arrayClass Jvm.ClassFile.FieldType.char).before a0 Z = true := hw_at hw 0 rfl
theorem w1 (hw : HW a0 Z) : (Jvm.Cond.methodLink "org/holdfast/model/ContentWithoutSpacePinLaw" (7 : Nat) ({ cls := "org/holdfast/model/ContentWithoutSpacePinLaw", name := "ch", desc := "(I)C" } : Jvm.MethodName)).before a0 Z = true := hw_at hw 1 rfl
theorem w2 (hw : HW a0 Z) : (Jvm.Cond.static ({ cls := "org/holdfast/model/ContentWithoutSpacePinLaw", name := "ch", desc := "(I)C" } : Jvm.MethodName)).before a0 Z = true := hw_at hw 2 rfl
theorem w3 (hw : HW a0 Z) : (Jvm.Cond.initialized "org/holdfast/model/ContentWithoutSpacePinLaw").before a0 Z = true := hw_at hw 3 rfl
theorem w4 (hw : HW a0 Z) : (Jvm.Cond.code ({ cls := "org/holdfast/model/ContentWithoutSpacePinLaw", name := "ch", desc := "(I)C" } : Jvm.MethodName) method_4_code (2 : Nat) (Option.some Jvm.ClassFile.FieldType.char)).before a0 Z = true := hw_at hw 4 rfl
theorem w5 (hw : HW a0 Z) : (Jvm.Cond.constant "org/holdfast/model/ContentWithoutSpacePinLaw" (13 : Nat) (2147483647 : Int32)).before a0 Z = true := hw_at hw 5 rfl
theorem w6 (hw : HW a0 Z) : (Jvm.Cond.methodLink "org/holdfast/model/ContentWithoutSpacePinLaw" (14 : Nat) ({ cls := "org/holdfast/model/ContentWithoutSpacePinLaw", name := "prefix", desc := "([CI)Ljava/lang/String;" } : Jvm.MethodName)).before a0 Z = true := hw_at hw 6 rfl
theorem w7 (hw : HW a0 Z) : (Jvm.Cond.static ({ cls := "org/holdfast/model/ContentWithoutSpacePinLaw", name := "prefix", desc := "([CI)Ljava/lang/String;" } : Jvm.MethodName)).before a0 Z = true := hw_at hw 7 rfl
theorem w8 (hw : HW a0 Z) : (Jvm.Cond.code ({ cls := "org/holdfast/model/ContentWithoutSpacePinLaw", name := "prefix", desc := "([CI)Ljava/lang/String;" } : Jvm.MethodName) method_5_code (2 : Nat) (Option.some (Jvm.ClassFile.FieldType.object "java/lang/String"))).before a0 Z = true := hw_at hw 8 rfl
theorem w9 (hw : HW a0 Z) : (Jvm.Cond.classLink "org/holdfast/model/ContentWithoutSpacePinLaw" (29 : Nat) "java/lang/String").before a0 Z = true := hw_at hw 9 rfl
theorem w10 (hw : HW a0 Z) : (Jvm.Cond.instantiable "java/lang/String" (4 : Nat)).before a0 Z = true := hw_at hw 10 rfl
theorem w11 (hw : HW a0 Z) : (Jvm.Cond.initialized "java/lang/String").before a0 Z = true := hw_at hw 11 rfl
theorem w12 (hw : HW a0 Z) : (Jvm.Cond.methodLink "org/holdfast/model/ContentWithoutSpacePinLaw" (37 : Nat) ({ cls := "java/lang/String", name := "<init>", desc := "([C)V" } : Jvm.MethodName)).before a0 Z = true := hw_at hw 12 rfl
theorem w13 (hw : HW a0 Z) : (Jvm.Cond.instanceMethod ({ cls := "java/lang/String", name := "<init>", desc := "([C)V" } : Jvm.MethodName)).before a0 Z = true := hw_at hw 13 rfl
theorem w14 (hw : HW a0 Z) : (Jvm.Cond.code ({ cls := "java/lang/String", name := "<init>", desc := "([C)V" } : Jvm.MethodName) jdk_42_method_3_code (2 : Nat) (Option.none : Option Jvm.ClassFile.FieldType)).before a0 Z = true := hw_at hw 14 rfl
theorem w15 (hw : HW a0 Z) : (Jvm.Cond.methodLink "java/lang/String" (27 : Nat) ({ cls := "java/lang/String", name := "<init>", desc := "([CIILjava/lang/Void;)V" } : Jvm.MethodName)).before a0 Z = true := hw_at hw 15 rfl
theorem w16 (hw : HW a0 Z) : (Jvm.Cond.instanceMethod ({ cls := "java/lang/String", name := "<init>", desc := "([CIILjava/lang/Void;)V" } : Jvm.MethodName)).before a0 Z = true := hw_at hw 16 rfl
theorem w18 (hw : HW a0 Z) : (Jvm.Cond.code ({ cls := "java/lang/String", name := "<init>", desc := "([CIILjava/lang/Void;)V" } : Jvm.MethodName) jdk_42_method_149_code (6 : Nat) (Option.none : Option Jvm.ClassFile.FieldType)).before a0 Z = true := hw_at hw 18 rfl
theorem w19 (hw : HW a0 Z) : (Jvm.Cond.methodLink "java/lang/String" (1 : Nat) ({ cls := "java/lang/Object", name := "<init>", desc := "()V" } : Jvm.MethodName)).before a0 Z = true := hw_at hw 19 rfl
theorem w20 (hw : HW a0 Z) : (Jvm.Cond.instanceMethod ({ cls := "java/lang/Object", name := "<init>", desc := "()V" } : Jvm.MethodName)).before a0 Z = true := hw_at hw 20 rfl
theorem w21 (hw : HW a0 Z) : (Jvm.Cond.code ({ cls := "java/lang/Object", name := "<init>", desc := "()V" } : Jvm.MethodName) object_method_1_code (1 : Nat) (Option.none : Option Jvm.ClassFile.FieldType)).before a0 Z = true := hw_at hw 21 rfl
theorem w22 (hw : HW a0 Z) : (Jvm.Cond.fieldLink "java/lang/String" (38 : Nat) "java/lang/String" "COMPACT_STRINGS" "Z").before a0 Z = true := hw_at hw 22 rfl
theorem w27 (hw : HW a0 Z) : (Jvm.Cond.arrayClass Jvm.ClassFile.FieldType.byte).before a0 Z = true := hw_at hw 27 rfl
theorem w34 (hw : HW a0 Z) : (Jvm.Cond.fieldLink "java/lang/String" (15 : Nat) "java/lang/String" "coder" "B").before a0 Z = true := hw_at hw 34 rfl
theorem w35 (hw : HW a0 Z) : (Jvm.Cond.laysFinal "java/lang/String" "java/lang/String" "coder" "B").before a0 Z = true := hw_at hw 35 rfl
theorem w36 (hw : HW a0 Z) : (Jvm.Cond.fieldLink "java/lang/String" (9 : Nat) "java/lang/String" "value" "[B").before a0 Z = true := hw_at hw 36 rfl
theorem w37 (hw : HW a0 Z) : (Jvm.Cond.laysFinal "java/lang/String" "java/lang/String" "value" "[B").before a0 Z = true := hw_at hw 37 rfl
theorem w38 (hw : HW a0 Z) : (Jvm.Cond.methodLink "org/holdfast/model/ContentWithoutSpacePinLaw" (18 : Nat) ({ cls := "org/holdfast/model/Content", name := "withoutSpace", desc := "(Ljava/lang/String;)Ljava/lang/String;" } : Jvm.MethodName)).before a0 Z = true := hw_at hw 38 rfl
theorem w39 (hw : HW a0 Z) : (Jvm.Cond.static ({ cls := "org/holdfast/model/Content", name := "withoutSpace", desc := "(Ljava/lang/String;)Ljava/lang/String;" } : Jvm.MethodName)).before a0 Z = true := hw_at hw 39 rfl
theorem w40 (hw : HW a0 Z) : (Jvm.Cond.initialized "org/holdfast/model/Content").before a0 Z = true := hw_at hw 40 rfl
theorem w41 (hw : HW a0 Z) : (Jvm.Cond.code ({ cls := "org/holdfast/model/Content", name := "withoutSpace", desc := "(Ljava/lang/String;)Ljava/lang/String;" } : Jvm.MethodName) prog_17_method_4_code (3 : Nat) (Option.some (Jvm.ClassFile.FieldType.object "java/lang/String"))).before a0 Z = true := hw_at hw 41 rfl
theorem w42 (hw : HW a0 Z) : (Jvm.Cond.methodLink "org/holdfast/model/Content" (132 : Nat) ({ cls := "java/lang/String", name := "length", desc := "()I" } : Jvm.MethodName)).before a0 Z = true := hw_at hw 42 rfl
theorem w43 (hw : HW a0 Z) : (Jvm.Cond.declares ({ cls := "java/lang/String", name := "length", desc := "()I" } : Jvm.MethodName)).before a0 Z = true := hw_at hw 43 rfl
theorem w44 (hw : HW a0 Z) : (Jvm.Cond.instanceMethod ({ cls := "java/lang/String", name := "length", desc := "()I" } : Jvm.MethodName)).before a0 Z = true := hw_at hw 44 rfl
theorem w45 (hw : HW a0 Z) : (Jvm.Cond.selects "java/lang/String" ({ cls := "java/lang/String", name := "length", desc := "()I" } : Jvm.MethodName) ({ cls := "java/lang/String", name := "length", desc := "()I" } : Jvm.MethodName)).before a0 Z = true := hw_at hw 45 rfl
theorem w52 (hw : HW a0 Z) : (Jvm.Cond.methodLink "org/holdfast/model/Content" (135 : Nat) ({ cls := "java/lang/String", name := "charAt", desc := "(I)C" } : Jvm.MethodName)).before a0 Z = true := hw_at hw 52 rfl
theorem w53 (hw : HW a0 Z) : (Jvm.Cond.declares ({ cls := "java/lang/String", name := "charAt", desc := "(I)C" } : Jvm.MethodName)).before a0 Z = true := hw_at hw 53 rfl
theorem w54 (hw : HW a0 Z) : (Jvm.Cond.instanceMethod ({ cls := "java/lang/String", name := "charAt", desc := "(I)C" } : Jvm.MethodName)).before a0 Z = true := hw_at hw 54 rfl
theorem w55 (hw : HW a0 Z) : (Jvm.Cond.selects "java/lang/String" ({ cls := "java/lang/String", name := "charAt", desc := "(I)C" } : Jvm.MethodName) ({ cls := "java/lang/String", name := "charAt", desc := "(I)C" } : Jvm.MethodName)).before a0 Z = true := hw_at hw 55 rfl
theorem w57 (hw : HW a0 Z) : (Jvm.Cond.methodLink "java/lang/String" (492 : Nat) ({ cls := "java/lang/String", name := "isLatin1", desc := "()Z" } : Jvm.MethodName)).before a0 Z = true := hw_at hw 57 rfl
theorem w58 (hw : HW a0 Z) : (Jvm.Cond.declares ({ cls := "java/lang/String", name := "isLatin1", desc := "()Z" } : Jvm.MethodName)).before a0 Z = true := hw_at hw 58 rfl
theorem w59 (hw : HW a0 Z) : (Jvm.Cond.instanceMethod ({ cls := "java/lang/String", name := "isLatin1", desc := "()Z" } : Jvm.MethodName)).before a0 Z = true := hw_at hw 59 rfl
theorem w60 (hw : HW a0 Z) : (Jvm.Cond.selects "java/lang/String" ({ cls := "java/lang/String", name := "isLatin1", desc := "()Z" } : Jvm.MethodName) ({ cls := "java/lang/String", name := "isLatin1", desc := "()Z" } : Jvm.MethodName)).before a0 Z = true := hw_at hw 60 rfl
theorem w61 (hw : HW a0 Z) : (Jvm.Cond.code ({ cls := "java/lang/String", name := "isLatin1", desc := "()Z" } : Jvm.MethodName) jdk_42_method_154_code (1 : Nat) (Option.some Jvm.ClassFile.FieldType.boolean)).before a0 Z = true := hw_at hw 61 rfl
theorem w64 (hw : HW a0 Z) : (Jvm.Cond.initialized "java/lang/StringLatin1").before a0 Z = true := hw_at hw 64 rfl
theorem w69 (hw : HW a0 Z) : (Jvm.Cond.fieldLink "java/lang/String" (1053 : Nat) "jdk/internal/util/Preconditions" "SIOOBE_FORMATTER" "Ljava/util/function/BiFunction;").before a0 Z = true := hw_at hw 69 rfl
theorem w70 (hw : HW a0 Z) : (Jvm.Cond.initialized "jdk/internal/util/Preconditions").before a0 Z = true := hw_at hw 70 rfl
theorem w74 (hw : HW a0 Z) : (Jvm.Cond.methodLink "org/holdfast/model/Content" (139 : Nat) ({ cls := "org/holdfast/model/Content", name := "isSpace", desc := "(C)Z" } : Jvm.MethodName)).before a0 Z = true := hw_at hw 74 rfl
theorem w75 (hw : HW a0 Z) : (Jvm.Cond.static ({ cls := "org/holdfast/model/Content", name := "isSpace", desc := "(C)Z" } : Jvm.MethodName)).before a0 Z = true := hw_at hw 75 rfl
theorem w76 (hw : HW a0 Z) : (Jvm.Cond.code ({ cls := "org/holdfast/model/Content", name := "isSpace", desc := "(C)Z" } : Jvm.MethodName) prog_17_method_6_code (1 : Nat) (Option.some Jvm.ClassFile.FieldType.boolean)).before a0 Z = true := hw_at hw 76 rfl
theorem w77 (hw : HW a0 Z) : (Jvm.Cond.methodLink "org/holdfast/model/Content" (143 : Nat) ({ cls := "java/lang/String", name := "substring", desc := "(II)Ljava/lang/String;" } : Jvm.MethodName)).before a0 Z = true := hw_at hw 77 rfl
theorem w78 (hw : HW a0 Z) : (Jvm.Cond.declares ({ cls := "java/lang/String", name := "substring", desc := "(II)Ljava/lang/String;" } : Jvm.MethodName)).before a0 Z = true := hw_at hw 78 rfl
theorem w79 (hw : HW a0 Z) : (Jvm.Cond.instanceMethod ({ cls := "java/lang/String", name := "substring", desc := "(II)Ljava/lang/String;" } : Jvm.MethodName)).before a0 Z = true := hw_at hw 79 rfl
theorem w80 (hw : HW a0 Z) : (Jvm.Cond.selects "java/lang/String" ({ cls := "java/lang/String", name := "substring", desc := "(II)Ljava/lang/String;" } : Jvm.MethodName) ({ cls := "java/lang/String", name := "substring", desc := "(II)Ljava/lang/String;" } : Jvm.MethodName)).before a0 Z = true := hw_at hw 80 rfl
theorem w81 (hw : HW a0 Z) : (Jvm.Cond.code ({ cls := "java/lang/String", name := "substring", desc := "(II)Ljava/lang/String;" } : Jvm.MethodName) jdk_42_method_92_code (5 : Nat) (Option.some (Jvm.ClassFile.FieldType.object "java/lang/String"))).before a0 Z = true := hw_at hw 81 rfl
theorem w82 (hw : HW a0 Z) : (Jvm.Cond.methodLink "java/lang/String" (505 : Nat) ({ cls := "java/lang/String", name := "length", desc := "()I" } : Jvm.MethodName)).before a0 Z = true := hw_at hw 82 rfl
theorem w83 (hw : HW a0 Z) : (Jvm.Cond.methodLink "java/lang/String" (521 : Nat) ({ cls := "java/lang/String", name := "checkBoundsBeginEnd", desc := "(III)V" } : Jvm.MethodName)).before a0 Z = true := hw_at hw 83 rfl
theorem w84 (hw : HW a0 Z) : (Jvm.Cond.static ({ cls := "java/lang/String", name := "checkBoundsBeginEnd", desc := "(III)V" } : Jvm.MethodName)).before a0 Z = true := hw_at hw 84 rfl
theorem w85 (hw : HW a0 Z) : (Jvm.Cond.code ({ cls := "java/lang/String", name := "checkBoundsBeginEnd", desc := "(III)V" } : Jvm.MethodName) jdk_42_method_158_code (3 : Nat) (Option.none : Option Jvm.ClassFile.FieldType)).before a0 Z = true := hw_at hw 85 rfl
theorem w86 (hw : HW a0 Z) : (Jvm.Cond.methodLink "java/lang/String" (1062 : Nat) ({ cls := "jdk/internal/util/Preconditions", name := "checkFromToIndex", desc := "(IIILjava/util/function/BiFunction;)I" } : Jvm.MethodName)).before a0 Z = true := hw_at hw 86 rfl
theorem w87 (hw : HW a0 Z) : (Jvm.Cond.static ({ cls := "jdk/internal/util/Preconditions", name := "checkFromToIndex", desc := "(IIILjava/util/function/BiFunction;)I" } : Jvm.MethodName)).before a0 Z = true := hw_at hw 87 rfl
theorem w88 (hw : HW a0 Z) : (Jvm.Cond.code ({ cls := "jdk/internal/util/Preconditions", name := "checkFromToIndex", desc := "(IIILjava/util/function/BiFunction;)I" } : Jvm.MethodName) jdk_41_method_12_code (4 : Nat) (Option.some Jvm.ClassFile.FieldType.int)).before a0 Z = true := hw_at hw 88 rfl
theorem w89 (hw : HW a0 Z) : (Jvm.Cond.methodLink "org/holdfast/model/ContentWithoutSpacePinLaw" (24 : Nat) ({ cls := "org/holdfast/model/ContentWithoutSpacePinLaw", name := "sp", desc := "(C)Z" } : Jvm.MethodName)).before a0 Z = true := hw_at hw 89 rfl
theorem w90 (hw : HW a0 Z) : (Jvm.Cond.static ({ cls := "org/holdfast/model/ContentWithoutSpacePinLaw", name := "sp", desc := "(C)Z" } : Jvm.MethodName)).before a0 Z = true := hw_at hw 90 rfl
theorem w91 (hw : HW a0 Z) : (Jvm.Cond.code ({ cls := "org/holdfast/model/ContentWithoutSpacePinLaw", name := "sp", desc := "(C)Z" } : Jvm.MethodName) method_3_code (1 : Nat) (Option.some Jvm.ClassFile.FieldType.boolean)).before a0 Z = true := hw_at hw 91 rfl
theorem w92 (hw : HW a0 Z) : (Jvm.Cond.methodLink "org/holdfast/model/ContentWithoutSpacePinLaw" (28 : Nat) ({ cls := "java/lang/String", name := "length", desc := "()I" } : Jvm.MethodName)).before a0 Z = true := hw_at hw 92 rfl
theorem w93 (hw : HW a0 Z) : (Jvm.Cond.methodLink "org/holdfast/model/ContentWithoutSpacePinLaw" (34 : Nat) ({ cls := "java/lang/String", name := "charAt", desc := "(I)C" } : Jvm.MethodName)).before a0 Z = true := hw_at hw 93 rfl
theorem w94 (hw : HW a0 Z) : (Jvm.Cond.methodLink "java/lang/String" (685 : Nat) ({ cls := "java/lang/StringLatin1", name := "newString", desc := "([BII)Ljava/lang/String;" } : Jvm.MethodName)).before a0 Z = true := hw_at hw 94 rfl
theorem w95 (hw : HW a0 Z) : (Jvm.Cond.static ({ cls := "java/lang/StringLatin1", name := "newString", desc := "([BII)Ljava/lang/String;" } : Jvm.MethodName)).before a0 Z = true := hw_at hw 95 rfl
theorem w96 (hw : HW a0 Z) : (Jvm.Cond.code ({ cls := "java/lang/StringLatin1", name := "newString", desc := "([BII)Ljava/lang/String;" } : Jvm.MethodName) jdk_43_method_47_code (3 : Nat) (Option.some (Jvm.ClassFile.FieldType.object "java/lang/String"))).before a0 Z = true := hw_at hw 96 rfl
theorem w97 (hw : HW a0 Z) : (Jvm.Cond.classLink "java/lang/StringLatin1" (1 : Nat) "java/lang/String").before a0 Z = true := hw_at hw 97 rfl
theorem w98 (hw : HW a0 Z) : (Jvm.Cond.methodLink "java/lang/StringLatin1" (232 : Nat) ({ cls := "java/util/Arrays", name := "copyOfRange", desc := "([BII)[B" } : Jvm.MethodName)).before a0 Z = true := hw_at hw 98 rfl
theorem w99 (hw : HW a0 Z) : (Jvm.Cond.static ({ cls := "java/util/Arrays", name := "copyOfRange", desc := "([BII)[B" } : Jvm.MethodName)).before a0 Z = true := hw_at hw 99 rfl
theorem w100 (hw : HW a0 Z) : (Jvm.Cond.initialized "java/util/Arrays").before a0 Z = true := hw_at hw 100 rfl
theorem w101 (hw : HW a0 Z) : (Jvm.Cond.code ({ cls := "java/util/Arrays", name := "copyOfRange", desc := "([BII)[B" } : Jvm.MethodName) jdk_65_method_132_code (3 : Nat) (Option.some (Jvm.ClassFile.FieldType.array Jvm.ClassFile.FieldType.byte))).before a0 Z = true := hw_at hw 101 rfl
theorem w102 (hw : HW a0 Z) : (Jvm.Cond.methodLink "java/util/Arrays" (339 : Nat) ({ cls := "java/util/Arrays", name := "copyOfRangeByte", desc := "([BII)[B" } : Jvm.MethodName)).before a0 Z = true := hw_at hw 102 rfl
theorem w103 (hw : HW a0 Z) : (Jvm.Cond.static ({ cls := "java/util/Arrays", name := "copyOfRangeByte", desc := "([BII)[B" } : Jvm.MethodName)).before a0 Z = true := hw_at hw 103 rfl
theorem w104 (hw : HW a0 Z) : (Jvm.Cond.code ({ cls := "java/util/Arrays", name := "copyOfRangeByte", desc := "([BII)[B" } : Jvm.MethodName) jdk_65_method_133_code (5 : Nat) (Option.some (Jvm.ClassFile.FieldType.array Jvm.ClassFile.FieldType.byte))).before a0 Z = true := hw_at hw 104 rfl
theorem w105 (hw : HW a0 Z) : (Jvm.Cond.methodLink "java/util/Arrays" (343 : Nat) ({ cls := "java/util/Arrays", name := "checkLength", desc := "(II)V" } : Jvm.MethodName)).before a0 Z = true := hw_at hw 105 rfl
theorem w106 (hw : HW a0 Z) : (Jvm.Cond.static ({ cls := "java/util/Arrays", name := "checkLength", desc := "(II)V" } : Jvm.MethodName)).before a0 Z = true := hw_at hw 106 rfl
theorem w107 (hw : HW a0 Z) : (Jvm.Cond.code ({ cls := "java/util/Arrays", name := "checkLength", desc := "(II)V" } : Jvm.MethodName) jdk_65_method_131_code (2 : Nat) (Option.none : Option Jvm.ClassFile.FieldType)).before a0 Z = true := hw_at hw 107 rfl
theorem w108 (hw : HW a0 Z) : (Jvm.Cond.methodLink "java/util/Arrays" (304 : Nat) ({ cls := "java/lang/Math", name := "min", desc := "(II)I" } : Jvm.MethodName)).before a0 Z = true := hw_at hw 108 rfl
theorem w109 (hw : HW a0 Z) : (Jvm.Cond.static ({ cls := "java/lang/Math", name := "min", desc := "(II)I" } : Jvm.MethodName)).before a0 Z = true := hw_at hw 109 rfl
theorem w110 (hw : HW a0 Z) : (Jvm.Cond.initialized "java/lang/Math").before a0 Z = true := hw_at hw 110 rfl
theorem w111 (hw : HW a0 Z) : (Jvm.Cond.code ({ cls := "java/lang/Math", name := "min", desc := "(II)I" } : Jvm.MethodName) jdk_29_method_69_code (2 : Nat) (Option.some Jvm.ClassFile.FieldType.int)).before a0 Z = true := hw_at hw 111 rfl
theorem w112 (hw : HW a0 Z) : (Jvm.Cond.methodLink "java/util/Arrays" (150 : Nat) ({ cls := "java/lang/System", name := "arraycopy", desc := "(Ljava/lang/Object;ILjava/lang/Object;II)V" } : Jvm.MethodName)).before a0 Z = true := hw_at hw 112 rfl
theorem w113 (hw : HW a0 Z) : (Jvm.Cond.static ({ cls := "java/lang/System", name := "arraycopy", desc := "(Ljava/lang/Object;ILjava/lang/Object;II)V" } : Jvm.MethodName)).before a0 Z = true := hw_at hw 113 rfl
theorem w114 (hw : HW a0 Z) : (Jvm.Cond.initialized "java/lang/System").before a0 Z = true := hw_at hw 114 rfl
theorem w115 (hw : HW a0 Z) : (Jvm.Cond.native ({ cls := "java/lang/System", name := "arraycopy", desc := "(Ljava/lang/Object;ILjava/lang/Object;II)V" } : Jvm.MethodName)).before a0 Z = true := hw_at hw 115 rfl
theorem w116 (hw : HW a0 Z) : (Jvm.Cond.methodLink "java/lang/StringLatin1" (112 : Nat) ({ cls := "java/lang/String", name := "<init>", desc := "([BB)V" } : Jvm.MethodName)).before a0 Z = true := hw_at hw 116 rfl
theorem w117 (hw : HW a0 Z) : (Jvm.Cond.instanceMethod ({ cls := "java/lang/String", name := "<init>", desc := "([BB)V" } : Jvm.MethodName)).before a0 Z = true := hw_at hw 117 rfl
theorem w118 (hw : HW a0 Z) : (Jvm.Cond.code ({ cls := "java/lang/String", name := "<init>", desc := "([BB)V" } : Jvm.MethodName) jdk_42_method_151_code (3 : Nat) (Option.none : Option Jvm.ClassFile.FieldType)).before a0 Z = true := hw_at hw 118 rfl
theorem w119 (hw : HW a0 Z) : (Jvm.Cond.stringLink "java/lang/String" (7 : Nat) "").before a0 Z = true := hw_at hw 119 rfl
theorem w122 (hw : HW a0 Z) : (Jvm.Cond.stringLink "java/lang/StringLatin1" (151 : Nat) "").before a0 Z = true := hw_at hw 122 rfl
abbrev B0 : ByteArray := method_4_code
abbrev B1 : ByteArray := method_5_code
abbrev B2 : ByteArray := jdk_42_method_3_code
abbrev B3 : ByteArray := jdk_42_method_149_code
abbrev B8 : ByteArray := prog_17_method_4_code
abbrev B12 : ByteArray := jdk_42_method_154_code
abbrev B16 : ByteArray := prog_17_method_6_code
abbrev B17 : ByteArray := jdk_42_method_92_code
abbrev B18 : ByteArray := jdk_42_method_158_code
abbrev B19 : ByteArray := jdk_41_method_12_code
abbrev B20 : ByteArray := method_3_code
abbrev B21 : ByteArray := jdk_43_method_47_code
abbrev B22 : ByteArray := jdk_65_method_132_code
abbrev B23 : ByteArray := jdk_65_method_133_code
abbrev B24 : ByteArray := jdk_65_method_131_code
abbrev B25 : ByteArray := jdk_29_method_69_code
abbrev B26 : ByteArray := jdk_42_method_151_code
theorem d0_0 : decode B0 0 = .ok (.iload_n 0, 1) := by decide +kernel
theorem d0_1 : decode B0 1 = .ok (.sipush 256, 3) := by decide +kernel
theorem d0_4 : decode B0 4 = .ok (.iand, 1) := by decide +kernel
theorem d0_5 : decode B0 5 = .ok (.ifCond .eq 36, 3) := by decide +kernel
theorem d0_8 : decode B0 8 = .ok (.iload_n 0, 1) := by decide +kernel
theorem d0_9 : decode B0 9 = .ok (.bipush 9, 2) := by decide +kernel
theorem d0_11 : decode B0 11 = .ok (.iushr, 1) := by decide +kernel
theorem d0_12 : decode B0 12 = .ok (.iconst 3, 1) := by decide +kernel
theorem d0_13 : decode B0 13 = .ok (.iand, 1) := by decide +kernel
theorem d0_14 : decode B0 14 = .ok (.istore_n 1, 1) := by decide +kernel
theorem d0_15 : decode B0 15 = .ok (.iload_n 1, 1) := by decide +kernel
theorem d0_16 : decode B0 16 = .ok (.ifCond .ne 6, 3) := by decide +kernel
theorem d0_19 : decode B0 19 = .ok (.bipush 32, 2) := by decide +kernel
theorem d0_21 : decode B0 21 = .ok (.ireturn, 1) := by decide +kernel
theorem d0_22 : decode B0 22 = .ok (.iload_n 1, 1) := by decide +kernel
theorem d0_23 : decode B0 23 = .ok (.iconst 1, 1) := by decide +kernel
theorem d0_24 : decode B0 24 = .ok (.if_icmp .ne 6, 3) := by decide +kernel
theorem d0_27 : decode B0 27 = .ok (.bipush 9, 2) := by decide +kernel
theorem d0_29 : decode B0 29 = .ok (.ireturn, 1) := by decide +kernel
theorem d0_30 : decode B0 30 = .ok (.iload_n 1, 1) := by decide +kernel
theorem d0_31 : decode B0 31 = .ok (.iconst 2, 1) := by decide +kernel
theorem d0_32 : decode B0 32 = .ok (.if_icmp .ne 6, 3) := by decide +kernel
theorem d0_35 : decode B0 35 = .ok (.bipush 13, 2) := by decide +kernel
theorem d0_37 : decode B0 37 = .ok (.ireturn, 1) := by decide +kernel
theorem d0_38 : decode B0 38 = .ok (.bipush 10, 2) := by decide +kernel
theorem d0_40 : decode B0 40 = .ok (.ireturn, 1) := by decide +kernel
theorem d0_41 : decode B0 41 = .ok (.iload_n 0, 1) := by decide +kernel
theorem d0_42 : decode B0 42 = .ok (.sipush 255, 3) := by decide +kernel
theorem d0_45 : decode B0 45 = .ok (.iand, 1) := by decide +kernel
theorem d0_46 : decode B0 46 = .ok (.i2c, 1) := by decide +kernel
theorem d0_47 : decode B0 47 = .ok (.ireturn, 1) := by decide +kernel
theorem d1_0 : decode B1 0 = .ok (.iload_n 1, 1) := by decide +kernel
theorem d1_1 : decode B1 1 = .ok (.ifCond .ne 14, 3) := by decide +kernel
theorem d1_4 : decode B1 4 = .ok (.new 29, 3) := by decide +kernel
theorem d1_7 : decode B1 7 = .ok (.dup, 1) := by decide +kernel
theorem d1_8 : decode B1 8 = .ok (.iconst 0, 1) := by decide +kernel
theorem d1_9 : decode B1 9 = .ok (.newarray .char, 2) := by decide +kernel
theorem d1_11 : decode B1 11 = .ok (.invokespecial 37, 3) := by decide +kernel
theorem d1_14 : decode B1 14 = .ok (.areturn, 1) := by decide +kernel
theorem d1_15 : decode B1 15 = .ok (.iload_n 1, 1) := by decide +kernel
theorem d1_16 : decode B1 16 = .ok (.iconst 1, 1) := by decide +kernel
theorem d1_17 : decode B1 17 = .ok (.if_icmp .ne 20, 3) := by decide +kernel
theorem d1_20 : decode B1 20 = .ok (.new 29, 3) := by decide +kernel
theorem d1_23 : decode B1 23 = .ok (.dup, 1) := by decide +kernel
theorem d1_24 : decode B1 24 = .ok (.iconst 1, 1) := by decide +kernel
theorem d1_25 : decode B1 25 = .ok (.newarray .char, 2) := by decide +kernel
theorem d1_27 : decode B1 27 = .ok (.dup, 1) := by decide +kernel
theorem d1_28 : decode B1 28 = .ok (.iconst 0, 1) := by decide +kernel
theorem d1_29 : decode B1 29 = .ok (.aload_n 0, 1) := by decide +kernel
theorem d1_30 : decode B1 30 = .ok (.iconst 0, 1) := by decide +kernel
theorem d1_31 : decode B1 31 = .ok (.caload, 1) := by decide +kernel
theorem d1_32 : decode B1 32 = .ok (.castore, 1) := by decide +kernel
theorem d1_33 : decode B1 33 = .ok (.invokespecial 37, 3) := by decide +kernel
theorem d1_36 : decode B1 36 = .ok (.areturn, 1) := by decide +kernel
theorem d1_37 : decode B1 37 = .ok (.iload_n 1, 1) := by decide +kernel
theorem d1_38 : decode B1 38 = .ok (.iconst 2, 1) := by decide +kernel
theorem d1_39 : decode B1 39 = .ok (.if_icmp .ne 26, 3) := by decide +kernel
theorem d1_42 : decode B1 42 = .ok (.new 29, 3) := by decide +kernel
theorem d1_45 : decode B1 45 = .ok (.dup, 1) := by decide +kernel
theorem d1_46 : decode B1 46 = .ok (.iconst 2, 1) := by decide +kernel
theorem d1_47 : decode B1 47 = .ok (.newarray .char, 2) := by decide +kernel
theorem d1_49 : decode B1 49 = .ok (.dup, 1) := by decide +kernel
theorem d1_50 : decode B1 50 = .ok (.iconst 0, 1) := by decide +kernel
theorem d1_51 : decode B1 51 = .ok (.aload_n 0, 1) := by decide +kernel
theorem d1_52 : decode B1 52 = .ok (.iconst 0, 1) := by decide +kernel
theorem d1_53 : decode B1 53 = .ok (.caload, 1) := by decide +kernel
theorem d1_54 : decode B1 54 = .ok (.castore, 1) := by decide +kernel
theorem d1_55 : decode B1 55 = .ok (.dup, 1) := by decide +kernel
theorem d1_56 : decode B1 56 = .ok (.iconst 1, 1) := by decide +kernel
theorem d1_57 : decode B1 57 = .ok (.aload_n 0, 1) := by decide +kernel
theorem d1_58 : decode B1 58 = .ok (.iconst 1, 1) := by decide +kernel
theorem d1_59 : decode B1 59 = .ok (.caload, 1) := by decide +kernel
theorem d1_60 : decode B1 60 = .ok (.castore, 1) := by decide +kernel
theorem d1_61 : decode B1 61 = .ok (.invokespecial 37, 3) := by decide +kernel
theorem d1_64 : decode B1 64 = .ok (.areturn, 1) := by decide +kernel
theorem d1_65 : decode B1 65 = .ok (.iload_n 1, 1) := by decide +kernel
theorem d1_66 : decode B1 66 = .ok (.iconst 3, 1) := by decide +kernel
theorem d1_67 : decode B1 67 = .ok (.if_icmp .ne 32, 3) := by decide +kernel
theorem d1_70 : decode B1 70 = .ok (.new 29, 3) := by decide +kernel
theorem d1_73 : decode B1 73 = .ok (.dup, 1) := by decide +kernel
theorem d1_74 : decode B1 74 = .ok (.iconst 3, 1) := by decide +kernel
theorem d1_75 : decode B1 75 = .ok (.newarray .char, 2) := by decide +kernel
theorem d1_77 : decode B1 77 = .ok (.dup, 1) := by decide +kernel
theorem d1_78 : decode B1 78 = .ok (.iconst 0, 1) := by decide +kernel
theorem d1_79 : decode B1 79 = .ok (.aload_n 0, 1) := by decide +kernel
theorem d1_80 : decode B1 80 = .ok (.iconst 0, 1) := by decide +kernel
theorem d1_81 : decode B1 81 = .ok (.caload, 1) := by decide +kernel
theorem d1_82 : decode B1 82 = .ok (.castore, 1) := by decide +kernel
theorem d1_83 : decode B1 83 = .ok (.dup, 1) := by decide +kernel
theorem d1_84 : decode B1 84 = .ok (.iconst 1, 1) := by decide +kernel
theorem d1_85 : decode B1 85 = .ok (.aload_n 0, 1) := by decide +kernel
theorem d1_86 : decode B1 86 = .ok (.iconst 1, 1) := by decide +kernel
theorem d1_87 : decode B1 87 = .ok (.caload, 1) := by decide +kernel
theorem d1_88 : decode B1 88 = .ok (.castore, 1) := by decide +kernel
theorem d1_89 : decode B1 89 = .ok (.dup, 1) := by decide +kernel
theorem d1_90 : decode B1 90 = .ok (.iconst 2, 1) := by decide +kernel
theorem d1_91 : decode B1 91 = .ok (.aload_n 0, 1) := by decide +kernel
theorem d1_92 : decode B1 92 = .ok (.iconst 2, 1) := by decide +kernel
theorem d1_93 : decode B1 93 = .ok (.caload, 1) := by decide +kernel
theorem d1_94 : decode B1 94 = .ok (.castore, 1) := by decide +kernel
theorem d1_95 : decode B1 95 = .ok (.invokespecial 37, 3) := by decide +kernel
theorem d1_98 : decode B1 98 = .ok (.areturn, 1) := by decide +kernel
theorem d1_99 : decode B1 99 = .ok (.iload_n 1, 1) := by decide +kernel
theorem d1_100 : decode B1 100 = .ok (.iconst 4, 1) := by decide +kernel
theorem d1_101 : decode B1 101 = .ok (.if_icmp .ne 38, 3) := by decide +kernel
theorem d1_104 : decode B1 104 = .ok (.new 29, 3) := by decide +kernel
theorem d1_107 : decode B1 107 = .ok (.dup, 1) := by decide +kernel
theorem d1_108 : decode B1 108 = .ok (.iconst 4, 1) := by decide +kernel
theorem d1_109 : decode B1 109 = .ok (.newarray .char, 2) := by decide +kernel
theorem d1_111 : decode B1 111 = .ok (.dup, 1) := by decide +kernel
theorem d1_112 : decode B1 112 = .ok (.iconst 0, 1) := by decide +kernel
theorem d1_113 : decode B1 113 = .ok (.aload_n 0, 1) := by decide +kernel
theorem d1_114 : decode B1 114 = .ok (.iconst 0, 1) := by decide +kernel
theorem d1_115 : decode B1 115 = .ok (.caload, 1) := by decide +kernel
theorem d1_116 : decode B1 116 = .ok (.castore, 1) := by decide +kernel
theorem d1_117 : decode B1 117 = .ok (.dup, 1) := by decide +kernel
theorem d1_118 : decode B1 118 = .ok (.iconst 1, 1) := by decide +kernel
theorem d1_119 : decode B1 119 = .ok (.aload_n 0, 1) := by decide +kernel
theorem d1_120 : decode B1 120 = .ok (.iconst 1, 1) := by decide +kernel
theorem d1_121 : decode B1 121 = .ok (.caload, 1) := by decide +kernel
theorem d1_122 : decode B1 122 = .ok (.castore, 1) := by decide +kernel
theorem d1_123 : decode B1 123 = .ok (.dup, 1) := by decide +kernel
theorem d1_124 : decode B1 124 = .ok (.iconst 2, 1) := by decide +kernel
theorem d1_125 : decode B1 125 = .ok (.aload_n 0, 1) := by decide +kernel
theorem d1_126 : decode B1 126 = .ok (.iconst 2, 1) := by decide +kernel
theorem d1_127 : decode B1 127 = .ok (.caload, 1) := by decide +kernel
theorem d1_128 : decode B1 128 = .ok (.castore, 1) := by decide +kernel
theorem d1_129 : decode B1 129 = .ok (.dup, 1) := by decide +kernel
theorem d1_130 : decode B1 130 = .ok (.iconst 3, 1) := by decide +kernel
theorem d1_131 : decode B1 131 = .ok (.aload_n 0, 1) := by decide +kernel
theorem d1_132 : decode B1 132 = .ok (.iconst 3, 1) := by decide +kernel
theorem d1_133 : decode B1 133 = .ok (.caload, 1) := by decide +kernel
theorem d1_134 : decode B1 134 = .ok (.castore, 1) := by decide +kernel
theorem d1_135 : decode B1 135 = .ok (.invokespecial 37, 3) := by decide +kernel
theorem d1_138 : decode B1 138 = .ok (.areturn, 1) := by decide +kernel
theorem d1_139 : decode B1 139 = .ok (.new 29, 3) := by decide +kernel
theorem d1_142 : decode B1 142 = .ok (.dup, 1) := by decide +kernel
theorem d1_143 : decode B1 143 = .ok (.iconst 5, 1) := by decide +kernel
theorem d1_144 : decode B1 144 = .ok (.newarray .char, 2) := by decide +kernel
theorem d1_146 : decode B1 146 = .ok (.dup, 1) := by decide +kernel
theorem d1_147 : decode B1 147 = .ok (.iconst 0, 1) := by decide +kernel
theorem d1_148 : decode B1 148 = .ok (.aload_n 0, 1) := by decide +kernel
theorem d1_149 : decode B1 149 = .ok (.iconst 0, 1) := by decide +kernel
theorem d1_150 : decode B1 150 = .ok (.caload, 1) := by decide +kernel
theorem d1_151 : decode B1 151 = .ok (.castore, 1) := by decide +kernel
theorem d1_152 : decode B1 152 = .ok (.dup, 1) := by decide +kernel
theorem d1_153 : decode B1 153 = .ok (.iconst 1, 1) := by decide +kernel
theorem d1_154 : decode B1 154 = .ok (.aload_n 0, 1) := by decide +kernel
theorem d1_155 : decode B1 155 = .ok (.iconst 1, 1) := by decide +kernel
theorem d1_156 : decode B1 156 = .ok (.caload, 1) := by decide +kernel
theorem d1_157 : decode B1 157 = .ok (.castore, 1) := by decide +kernel
theorem d1_158 : decode B1 158 = .ok (.dup, 1) := by decide +kernel
theorem d1_159 : decode B1 159 = .ok (.iconst 2, 1) := by decide +kernel
theorem d1_160 : decode B1 160 = .ok (.aload_n 0, 1) := by decide +kernel
theorem d1_161 : decode B1 161 = .ok (.iconst 2, 1) := by decide +kernel
theorem d1_162 : decode B1 162 = .ok (.caload, 1) := by decide +kernel
theorem d1_163 : decode B1 163 = .ok (.castore, 1) := by decide +kernel
theorem d1_164 : decode B1 164 = .ok (.dup, 1) := by decide +kernel
theorem d1_165 : decode B1 165 = .ok (.iconst 3, 1) := by decide +kernel
theorem d1_166 : decode B1 166 = .ok (.aload_n 0, 1) := by decide +kernel
theorem d1_167 : decode B1 167 = .ok (.iconst 3, 1) := by decide +kernel
theorem d1_168 : decode B1 168 = .ok (.caload, 1) := by decide +kernel
theorem d1_169 : decode B1 169 = .ok (.castore, 1) := by decide +kernel
theorem d1_170 : decode B1 170 = .ok (.dup, 1) := by decide +kernel
theorem d1_171 : decode B1 171 = .ok (.iconst 4, 1) := by decide +kernel
theorem d1_172 : decode B1 172 = .ok (.aload_n 0, 1) := by decide +kernel
theorem d1_173 : decode B1 173 = .ok (.iconst 4, 1) := by decide +kernel
theorem d1_174 : decode B1 174 = .ok (.caload, 1) := by decide +kernel
theorem d1_175 : decode B1 175 = .ok (.castore, 1) := by decide +kernel
theorem d1_176 : decode B1 176 = .ok (.invokespecial 37, 3) := by decide +kernel
theorem d1_179 : decode B1 179 = .ok (.areturn, 1) := by decide +kernel
theorem d2_0 : decode B2 0 = .ok (.aload_n 0, 1) := by decide +kernel
theorem d2_1 : decode B2 1 = .ok (.aload_n 1, 1) := by decide +kernel
theorem d2_2 : decode B2 2 = .ok (.iconst 0, 1) := by decide +kernel
theorem d2_3 : decode B2 3 = .ok (.aload_n 1, 1) := by decide +kernel
theorem d2_4 : decode B2 4 = .ok (.arraylength, 1) := by decide +kernel
theorem d2_5 : decode B2 5 = .ok (.aconst_null, 1) := by decide +kernel
theorem d2_6 : decode B2 6 = .ok (.invokespecial 27, 3) := by decide +kernel
theorem d2_9 : decode B2 9 = .ok (.return_, 1) := by decide +kernel
theorem d3_0 : decode B3 0 = .ok (.aload_n 0, 1) := by decide +kernel
theorem d3_1 : decode B3 1 = .ok (.invokespecial 1, 3) := by decide +kernel
theorem d3_4 : decode B3 4 = .ok (.iload_n 3, 1) := by decide +kernel
theorem d3_5 : decode B3 5 = .ok (.ifCond .ne 22, 3) := by decide +kernel
theorem d3_8 : decode B3 8 = .ok (.aload_n 0, 1) := by decide +kernel
theorem d3_9 : decode B3 9 = .ok (.ldc 7, 2) := by decide +kernel
theorem d3_11 : decode B3 11 = .ok (.getfield 9, 3) := by decide +kernel
theorem d3_14 : decode B3 14 = .ok (.putfield 9, 3) := by decide +kernel
theorem d3_17 : decode B3 17 = .ok (.aload_n 0, 1) := by decide +kernel
theorem d3_18 : decode B3 18 = .ok (.ldc 7, 2) := by decide +kernel
theorem d3_20 : decode B3 20 = .ok (.getfield 15, 3) := by decide +kernel
theorem d3_23 : decode B3 23 = .ok (.putfield 15, 3) := by decide +kernel
theorem d3_26 : decode B3 26 = .ok (.return_, 1) := by decide +kernel
theorem d8_0 : decode B8 0 = .ok (.iconst 0, 1) := by decide +kernel
theorem d8_1 : decode B8 1 = .ok (.istore_n 1, 1) := by decide +kernel
theorem d8_2 : decode B8 2 = .ok (.aload_n 0, 1) := by decide +kernel
theorem d8_3 : decode B8 3 = .ok (.invokevirtual 132, 3) := by decide +kernel
theorem d8_6 : decode B8 6 = .ok (.istore_n 2, 1) := by decide +kernel
theorem d8_7 : decode B8 7 = .ok (.iload_n 1, 1) := by decide +kernel
theorem d8_8 : decode B8 8 = .ok (.iload_n 2, 1) := by decide +kernel
theorem d8_9 : decode B8 9 = .ok (.if_icmp .ge 20, 3) := by decide +kernel
theorem d8_12 : decode B8 12 = .ok (.aload_n 0, 1) := by decide +kernel
theorem d8_13 : decode B8 13 = .ok (.iload_n 1, 1) := by decide +kernel
theorem d8_14 : decode B8 14 = .ok (.invokevirtual 135, 3) := by decide +kernel
theorem d8_17 : decode B8 17 = .ok (.invokestatic 139, 3) := by decide +kernel
theorem d8_20 : decode B8 20 = .ok (.ifCond .eq 9, 3) := by decide +kernel
theorem d8_23 : decode B8 23 = .ok (.iinc 1 1, 3) := by decide +kernel
theorem d8_26 : decode B8 26 = .ok (.goto (-19), 3) := by decide +kernel
theorem d8_29 : decode B8 29 = .ok (.iload_n 2, 1) := by decide +kernel
theorem d8_30 : decode B8 30 = .ok (.iload_n 1, 1) := by decide +kernel
theorem d8_31 : decode B8 31 = .ok (.if_icmp .le 22, 3) := by decide +kernel
theorem d8_34 : decode B8 34 = .ok (.aload_n 0, 1) := by decide +kernel
theorem d8_35 : decode B8 35 = .ok (.iload_n 2, 1) := by decide +kernel
theorem d8_36 : decode B8 36 = .ok (.iconst 1, 1) := by decide +kernel
theorem d8_37 : decode B8 37 = .ok (.isub, 1) := by decide +kernel
theorem d8_38 : decode B8 38 = .ok (.invokevirtual 135, 3) := by decide +kernel
theorem d8_41 : decode B8 41 = .ok (.invokestatic 139, 3) := by decide +kernel
theorem d8_44 : decode B8 44 = .ok (.ifCond .eq 9, 3) := by decide +kernel
theorem d8_47 : decode B8 47 = .ok (.iinc 2 (-1), 3) := by decide +kernel
theorem d8_50 : decode B8 50 = .ok (.goto (-21), 3) := by decide +kernel
theorem d8_53 : decode B8 53 = .ok (.aload_n 0, 1) := by decide +kernel
theorem d8_54 : decode B8 54 = .ok (.iload_n 1, 1) := by decide +kernel
theorem d8_55 : decode B8 55 = .ok (.iload_n 2, 1) := by decide +kernel
theorem d8_56 : decode B8 56 = .ok (.invokevirtual 143, 3) := by decide +kernel
theorem d8_59 : decode B8 59 = .ok (.areturn, 1) := by decide +kernel
theorem d12_0 : decode B12 0 = .ok (.getstatic 38, 3) := by decide +kernel
theorem d12_3 : decode B12 3 = .ok (.ifCond .eq 14, 3) := by decide +kernel
theorem d12_6 : decode B12 6 = .ok (.aload_n 0, 1) := by decide +kernel
theorem d12_7 : decode B12 7 = .ok (.getfield 15, 3) := by decide +kernel
theorem d12_10 : decode B12 10 = .ok (.ifCond .ne 7, 3) := by decide +kernel
theorem d12_13 : decode B12 13 = .ok (.iconst 1, 1) := by decide +kernel
theorem d12_14 : decode B12 14 = .ok (.goto 4, 3) := by decide +kernel
theorem d12_18 : decode B12 18 = .ok (.ireturn, 1) := by decide +kernel
theorem d16_0 : decode B16 0 = .ok (.iload_n 0, 1) := by decide +kernel
theorem d16_1 : decode B16 1 = .ok (.bipush 32, 2) := by decide +kernel
theorem d16_3 : decode B16 3 = .ok (.if_icmp .eq 21, 3) := by decide +kernel
theorem d16_6 : decode B16 6 = .ok (.iload_n 0, 1) := by decide +kernel
theorem d16_7 : decode B16 7 = .ok (.bipush 9, 2) := by decide +kernel
theorem d16_9 : decode B16 9 = .ok (.if_icmp .eq 15, 3) := by decide +kernel
theorem d16_12 : decode B16 12 = .ok (.iload_n 0, 1) := by decide +kernel
theorem d16_13 : decode B16 13 = .ok (.bipush 13, 2) := by decide +kernel
theorem d16_15 : decode B16 15 = .ok (.if_icmp .eq 9, 3) := by decide +kernel
theorem d16_18 : decode B16 18 = .ok (.iload_n 0, 1) := by decide +kernel
theorem d16_19 : decode B16 19 = .ok (.bipush 10, 2) := by decide +kernel
theorem d16_21 : decode B16 21 = .ok (.if_icmp .ne 7, 3) := by decide +kernel
theorem d16_24 : decode B16 24 = .ok (.iconst 1, 1) := by decide +kernel
theorem d16_25 : decode B16 25 = .ok (.goto 4, 3) := by decide +kernel
theorem d16_28 : decode B16 28 = .ok (.iconst 0, 1) := by decide +kernel
theorem d16_29 : decode B16 29 = .ok (.ireturn, 1) := by decide +kernel
theorem d17_0 : decode B17 0 = .ok (.aload_n 0, 1) := by decide +kernel
theorem d17_1 : decode B17 1 = .ok (.invokevirtual 505, 3) := by decide +kernel
theorem d17_4 : decode B17 4 = .ok (.istore_n 3, 1) := by decide +kernel
theorem d17_5 : decode B17 5 = .ok (.iload_n 1, 1) := by decide +kernel
theorem d17_6 : decode B17 6 = .ok (.iload_n 2, 1) := by decide +kernel
theorem d17_7 : decode B17 7 = .ok (.iload_n 3, 1) := by decide +kernel
theorem d17_8 : decode B17 8 = .ok (.invokestatic 521, 3) := by decide +kernel
theorem d17_11 : decode B17 11 = .ok (.iload_n 1, 1) := by decide +kernel
theorem d17_12 : decode B17 12 = .ok (.ifCond .ne 10, 3) := by decide +kernel
theorem d17_15 : decode B17 15 = .ok (.iload_n 2, 1) := by decide +kernel
theorem d17_16 : decode B17 16 = .ok (.iload_n 3, 1) := by decide +kernel
theorem d17_17 : decode B17 17 = .ok (.if_icmp .ne 5, 3) := by decide +kernel
theorem d17_20 : decode B17 20 = .ok (.aload_n 0, 1) := by decide +kernel
theorem d17_21 : decode B17 21 = .ok (.areturn, 1) := by decide +kernel
theorem d17_22 : decode B17 22 = .ok (.iload_n 2, 1) := by decide +kernel
theorem d17_23 : decode B17 23 = .ok (.iload_n 1, 1) := by decide +kernel
theorem d17_24 : decode B17 24 = .ok (.isub, 1) := by decide +kernel
theorem d17_25 : decode B17 25 = .ok (.istore 4, 2) := by decide +kernel
theorem d17_27 : decode B17 27 = .ok (.aload_n 0, 1) := by decide +kernel
theorem d17_28 : decode B17 28 = .ok (.invokevirtual 492, 3) := by decide +kernel
theorem d17_31 : decode B17 31 = .ok (.ifCond .eq 16, 3) := by decide +kernel
theorem d17_34 : decode B17 34 = .ok (.aload_n 0, 1) := by decide +kernel
theorem d17_35 : decode B17 35 = .ok (.getfield 9, 3) := by decide +kernel
theorem d17_38 : decode B17 38 = .ok (.iload_n 1, 1) := by decide +kernel
theorem d17_39 : decode B17 39 = .ok (.iload 4, 2) := by decide +kernel
theorem d17_41 : decode B17 41 = .ok (.invokestatic 685, 3) := by decide +kernel
theorem d17_44 : decode B17 44 = .ok (.goto 13, 3) := by decide +kernel
theorem d17_57 : decode B17 57 = .ok (.areturn, 1) := by decide +kernel
theorem d18_0 : decode B18 0 = .ok (.iload_n 0, 1) := by decide +kernel
theorem d18_1 : decode B18 1 = .ok (.iload_n 1, 1) := by decide +kernel
theorem d18_2 : decode B18 2 = .ok (.iload_n 2, 1) := by decide +kernel
theorem d18_3 : decode B18 3 = .ok (.getstatic 1053, 3) := by decide +kernel
theorem d18_6 : decode B18 6 = .ok (.invokestatic 1062, 3) := by decide +kernel
theorem d18_9 : decode B18 9 = .ok (.pop, 1) := by decide +kernel
theorem d18_10 : decode B18 10 = .ok (.return_, 1) := by decide +kernel
theorem d19_0 : decode B19 0 = .ok (.iload_n 0, 1) := by decide +kernel
theorem d19_1 : decode B19 1 = .ok (.ifCond .lt 13, 3) := by decide +kernel
theorem d19_4 : decode B19 4 = .ok (.iload_n 0, 1) := by decide +kernel
theorem d19_5 : decode B19 5 = .ok (.iload_n 1, 1) := by decide +kernel
theorem d19_6 : decode B19 6 = .ok (.if_icmp .gt 8, 3) := by decide +kernel
theorem d19_9 : decode B19 9 = .ok (.iload_n 1, 1) := by decide +kernel
theorem d19_10 : decode B19 10 = .ok (.iload_n 2, 1) := by decide +kernel
theorem d19_11 : decode B19 11 = .ok (.if_icmp .le 11, 3) := by decide +kernel
theorem d19_22 : decode B19 22 = .ok (.iload_n 0, 1) := by decide +kernel
theorem d19_23 : decode B19 23 = .ok (.ireturn, 1) := by decide +kernel
theorem d20_0 : decode B20 0 = .ok (.iload_n 0, 1) := by decide +kernel
theorem d20_1 : decode B20 1 = .ok (.bipush 32, 2) := by decide +kernel
theorem d20_3 : decode B20 3 = .ok (.if_icmp .eq 21, 3) := by decide +kernel
theorem d20_6 : decode B20 6 = .ok (.iload_n 0, 1) := by decide +kernel
theorem d20_7 : decode B20 7 = .ok (.bipush 9, 2) := by decide +kernel
theorem d20_9 : decode B20 9 = .ok (.if_icmp .eq 15, 3) := by decide +kernel
theorem d20_12 : decode B20 12 = .ok (.iload_n 0, 1) := by decide +kernel
theorem d20_13 : decode B20 13 = .ok (.bipush 13, 2) := by decide +kernel
theorem d20_15 : decode B20 15 = .ok (.if_icmp .eq 9, 3) := by decide +kernel
theorem d20_18 : decode B20 18 = .ok (.iload_n 0, 1) := by decide +kernel
theorem d20_19 : decode B20 19 = .ok (.bipush 10, 2) := by decide +kernel
theorem d20_21 : decode B20 21 = .ok (.if_icmp .ne 7, 3) := by decide +kernel
theorem d20_24 : decode B20 24 = .ok (.iconst 1, 1) := by decide +kernel
theorem d20_25 : decode B20 25 = .ok (.goto 4, 3) := by decide +kernel
theorem d20_28 : decode B20 28 = .ok (.iconst 0, 1) := by decide +kernel
theorem d20_29 : decode B20 29 = .ok (.ireturn, 1) := by decide +kernel
theorem d21_0 : decode B21 0 = .ok (.iload_n 2, 1) := by decide +kernel
theorem d21_1 : decode B21 1 = .ok (.ifCond .ne 6, 3) := by decide +kernel
theorem d21_4 : decode B21 4 = .ok (.ldc 151, 2) := by decide +kernel
theorem d21_6 : decode B21 6 = .ok (.areturn, 1) := by decide +kernel
theorem d21_7 : decode B21 7 = .ok (.new 1, 3) := by decide +kernel
theorem d21_10 : decode B21 10 = .ok (.dup, 1) := by decide +kernel
theorem d21_11 : decode B21 11 = .ok (.aload_n 0, 1) := by decide +kernel
theorem d21_12 : decode B21 12 = .ok (.iload_n 1, 1) := by decide +kernel
theorem d21_13 : decode B21 13 = .ok (.iload_n 1, 1) := by decide +kernel
theorem d21_14 : decode B21 14 = .ok (.iload_n 2, 1) := by decide +kernel
theorem d21_15 : decode B21 15 = .ok (.iadd, 1) := by decide +kernel
theorem d21_16 : decode B21 16 = .ok (.invokestatic 232, 3) := by decide +kernel
theorem d21_19 : decode B21 19 = .ok (.iconst 0, 1) := by decide +kernel
theorem d21_20 : decode B21 20 = .ok (.invokespecial 112, 3) := by decide +kernel
theorem d21_23 : decode B21 23 = .ok (.areturn, 1) := by decide +kernel
theorem d22_0 : decode B22 0 = .ok (.iload_n 1, 1) := by decide +kernel
theorem d22_1 : decode B22 1 = .ok (.ifCond .ne 9, 3) := by decide +kernel
theorem d22_4 : decode B22 4 = .ok (.iload_n 2, 1) := by decide +kernel
theorem d22_5 : decode B22 5 = .ok (.aload_n 0, 1) := by decide +kernel
theorem d22_6 : decode B22 6 = .ok (.arraylength, 1) := by decide +kernel
theorem d22_7 : decode B22 7 = .ok (.if_icmp .eq 10, 3) := by decide +kernel
theorem d22_10 : decode B22 10 = .ok (.aload_n 0, 1) := by decide +kernel
theorem d22_11 : decode B22 11 = .ok (.iload_n 1, 1) := by decide +kernel
theorem d22_12 : decode B22 12 = .ok (.iload_n 2, 1) := by decide +kernel
theorem d22_13 : decode B22 13 = .ok (.invokestatic 339, 3) := by decide +kernel
theorem d22_16 : decode B22 16 = .ok (.areturn, 1) := by decide +kernel
theorem d23_0 : decode B23 0 = .ok (.iload_n 1, 1) := by decide +kernel
theorem d23_1 : decode B23 1 = .ok (.iload_n 2, 1) := by decide +kernel
theorem d23_2 : decode B23 2 = .ok (.invokestatic 343, 3) := by decide +kernel
theorem d23_5 : decode B23 5 = .ok (.iload_n 2, 1) := by decide +kernel
theorem d23_6 : decode B23 6 = .ok (.iload_n 1, 1) := by decide +kernel
theorem d23_7 : decode B23 7 = .ok (.isub, 1) := by decide +kernel
theorem d23_8 : decode B23 8 = .ok (.istore_n 3, 1) := by decide +kernel
theorem d23_9 : decode B23 9 = .ok (.iload_n 3, 1) := by decide +kernel
theorem d23_10 : decode B23 10 = .ok (.newarray .byte, 2) := by decide +kernel
theorem d23_12 : decode B23 12 = .ok (.astore 4, 2) := by decide +kernel
theorem d23_14 : decode B23 14 = .ok (.aload_n 0, 1) := by decide +kernel
theorem d23_15 : decode B23 15 = .ok (.iload_n 1, 1) := by decide +kernel
theorem d23_16 : decode B23 16 = .ok (.aload 4, 2) := by decide +kernel
theorem d23_18 : decode B23 18 = .ok (.iconst 0, 1) := by decide +kernel
theorem d23_19 : decode B23 19 = .ok (.aload_n 0, 1) := by decide +kernel
theorem d23_20 : decode B23 20 = .ok (.arraylength, 1) := by decide +kernel
theorem d23_21 : decode B23 21 = .ok (.iload_n 1, 1) := by decide +kernel
theorem d23_22 : decode B23 22 = .ok (.isub, 1) := by decide +kernel
theorem d23_23 : decode B23 23 = .ok (.iload_n 3, 1) := by decide +kernel
theorem d23_24 : decode B23 24 = .ok (.invokestatic 304, 3) := by decide +kernel
theorem d23_27 : decode B23 27 = .ok (.invokestatic 150, 3) := by decide +kernel
theorem d23_30 : decode B23 30 = .ok (.aload 4, 2) := by decide +kernel
theorem d23_32 : decode B23 32 = .ok (.areturn, 1) := by decide +kernel
theorem d24_0 : decode B24 0 = .ok (.iload_n 1, 1) := by decide +kernel
theorem d24_1 : decode B24 1 = .ok (.iload_n 0, 1) := by decide +kernel
theorem d24_2 : decode B24 2 = .ok (.if_icmp .ge 35, 3) := by decide +kernel
theorem d24_37 : decode B24 37 = .ok (.return_, 1) := by decide +kernel
theorem d25_0 : decode B25 0 = .ok (.iload_n 0, 1) := by decide +kernel
theorem d25_1 : decode B25 1 = .ok (.iload_n 1, 1) := by decide +kernel
theorem d25_2 : decode B25 2 = .ok (.if_icmp .gt 7, 3) := by decide +kernel
theorem d25_5 : decode B25 5 = .ok (.iload_n 0, 1) := by decide +kernel
theorem d25_6 : decode B25 6 = .ok (.goto 4, 3) := by decide +kernel
theorem d25_9 : decode B25 9 = .ok (.iload_n 1, 1) := by decide +kernel
theorem d25_10 : decode B25 10 = .ok (.ireturn, 1) := by decide +kernel
theorem d26_0 : decode B26 0 = .ok (.aload_n 0, 1) := by decide +kernel
theorem d26_1 : decode B26 1 = .ok (.invokespecial 1, 3) := by decide +kernel
theorem d26_4 : decode B26 4 = .ok (.aload_n 0, 1) := by decide +kernel
theorem d26_5 : decode B26 5 = .ok (.aload_n 1, 1) := by decide +kernel
theorem d26_6 : decode B26 6 = .ok (.putfield 9, 3) := by decide +kernel
theorem d26_9 : decode B26 9 = .ok (.aload_n 0, 1) := by decide +kernel
theorem d26_10 : decode B26 10 = .ok (.iload_n 2, 1) := by decide +kernel
theorem d26_11 : decode B26 11 = .ok (.putfield 15, 3) := by decide +kernel
theorem d26_14 : decode B26 14 = .ok (.return_, 1) := by decide +kernel
theorem pn0 : plainFor (⟨"org/holdfast/model/ContentWithoutSpacePinLaw", "ch", "(I)C"⟩ : MethodName) = true := by first | exact plainFor_of_name (by first | (simp [plainName, overriddenIn]; done) | decide +kernel) | decide +kernel
theorem pn1 : plainFor (⟨"org/holdfast/model/ContentWithoutSpacePinLaw", "prefix", "([CI)Ljava/lang/String;"⟩ : MethodName) = true := by first | exact plainFor_of_name (by first | (simp [plainName, overriddenIn]; done) | decide +kernel) | decide +kernel
theorem pn2 : plainFor (⟨"java/lang/String", "<init>", "([C)V"⟩ : MethodName) = true := by first | exact plainFor_of_name (by first | (simp [plainName, overriddenIn]; done) | decide +kernel) | decide +kernel
theorem pn3 : plainFor (⟨"java/lang/String", "<init>", "([CIILjava/lang/Void;)V"⟩ : MethodName) = true := by first | exact plainFor_of_name (by first | (simp [plainName, overriddenIn]; done) | decide +kernel) | decide +kernel
theorem pn8 : plainFor (⟨"org/holdfast/model/Content", "withoutSpace", "(Ljava/lang/String;)Ljava/lang/String;"⟩ : MethodName) = true := by first | exact plainFor_of_name (by first | (simp [plainName, overriddenIn]; done) | decide +kernel) | decide +kernel
theorem pn12 : plainFor (⟨"java/lang/String", "isLatin1", "()Z"⟩ : MethodName) = true := by first | exact plainFor_of_name (by first | (simp [plainName, overriddenIn]; done) | decide +kernel) | decide +kernel
theorem pn16 : plainFor (⟨"org/holdfast/model/Content", "isSpace", "(C)Z"⟩ : MethodName) = true := by first | exact plainFor_of_name (by first | (simp [plainName, overriddenIn]; done) | decide +kernel) | decide +kernel
theorem pn17 : plainFor (⟨"java/lang/String", "substring", "(II)Ljava/lang/String;"⟩ : MethodName) = true := by first | exact plainFor_of_name (by first | (simp [plainName, overriddenIn]; done) | decide +kernel) | decide +kernel
theorem pn18 : plainFor (⟨"java/lang/String", "checkBoundsBeginEnd", "(III)V"⟩ : MethodName) = true := by first | exact plainFor_of_name (by first | (simp [plainName, overriddenIn]; done) | decide +kernel) | decide +kernel
theorem pn19 : plainFor (⟨"jdk/internal/util/Preconditions", "checkFromToIndex", "(IIILjava/util/function/BiFunction;)I"⟩ : MethodName) = true := by first | exact plainFor_of_name (by first | (simp [plainName, overriddenIn]; done) | decide +kernel) | decide +kernel
theorem pn20 : plainFor (⟨"org/holdfast/model/ContentWithoutSpacePinLaw", "sp", "(C)Z"⟩ : MethodName) = true := by first | exact plainFor_of_name (by first | (simp [plainName, overriddenIn]; done) | decide +kernel) | decide +kernel
theorem pn21 : plainFor (⟨"java/lang/StringLatin1", "newString", "([BII)Ljava/lang/String;"⟩ : MethodName) = true := by first | exact plainFor_of_name (by first | (simp [plainName, overriddenIn]; done) | decide +kernel) | decide +kernel
theorem pn22 : plainFor (⟨"java/util/Arrays", "copyOfRange", "([BII)[B"⟩ : MethodName) = true := by first | exact plainFor_of_name (by first | (simp [plainName, overriddenIn]; done) | decide +kernel) | decide +kernel
theorem pn23 : plainFor (⟨"java/util/Arrays", "copyOfRangeByte", "([BII)[B"⟩ : MethodName) = true := by first | exact plainFor_of_name (by first | (simp [plainName, overriddenIn]; done) | decide +kernel) | decide +kernel
theorem pn24 : plainFor (⟨"java/util/Arrays", "checkLength", "(II)V"⟩ : MethodName) = true := by first | exact plainFor_of_name (by first | (simp [plainName, overriddenIn]; done) | decide +kernel) | decide +kernel
theorem pn25 : plainFor (⟨"java/lang/Math", "min", "(II)I"⟩ : MethodName) = true := by first | exact plainFor_of_name (by first | (simp [plainName, overriddenIn]; done) | decide +kernel) | decide +kernel
theorem pn26 : plainFor (⟨"java/lang/String", "<init>", "([BB)V"⟩ : MethodName) = true := by first | exact plainFor_of_name (by first | (simp [plainName, overriddenIn]; done) | decide +kernel) | decide +kernel
theorem pn27 : plainFor x = true := by first | exact plainFor_of_name (by first | (simp [plainName, overriddenIn]; done) | decide +kernel) | decide +kernel
theorem pd0 : parseMethodDescriptor "([CIILjava/lang/Void;)V" = some ⟨[(.array .char), .int, .int, (.object "java/lang/Void")], none⟩ := by decide +kernel
theorem pd1 : parseMethodDescriptor "(IIILjava/util/function/BiFunction;)I" = some ⟨[.int, .int, .int, (.object "java/util/function/BiFunction")], some .int⟩ := by decide +kernel
theorem pd2 : parseMethodDescriptor "(II)V" = some ⟨[.int, .int], none⟩ := by decide +kernel
theorem pd3 : parseMethodDescriptor "(II)I" = some ⟨[.int, .int], some .int⟩ := by decide +kernel
theorem pd4 : parseMethodDescriptor "([BII)[B" = some ⟨[(.array .byte), .int, .int], some (.array .byte)⟩ := by decide +kernel
theorem pd5 : parseMethodDescriptor "([BB)V" = some ⟨[(.array .byte), .byte], none⟩ := by decide +kernel
theorem pd6 : parseMethodDescriptor "()I" = some ⟨[], some .int⟩ := by decide +kernel
theorem pd7 : parseMethodDescriptor "(III)V" = some ⟨[.int, .int, .int], none⟩ := by decide +kernel
theorem pd8 : parseMethodDescriptor "()Z" = some ⟨[], some .boolean⟩ := by decide +kernel
theorem pd9 : parseMethodDescriptor "([BII)Ljava/lang/String;" = some ⟨[(.array .byte), .int, .int], some (.object "java/lang/String")⟩ := by decide +kernel
theorem pd10 : parseMethodDescriptor "([C)V" = some ⟨[(.array .char)], none⟩ := by decide +kernel
theorem pd11 : parseMethodDescriptor "(I)C" = some ⟨[.int], some .char⟩ := by decide +kernel
theorem pd12 : parseMethodDescriptor "(C)Z" = some ⟨[.char], some .boolean⟩ := by decide +kernel
theorem pd13 : parseMethodDescriptor "([CI)Ljava/lang/String;" = some ⟨[(.array .char), .int], some (.object "java/lang/String")⟩ := by decide +kernel
theorem pd14 : parseMethodDescriptor "(II)Ljava/lang/String;" = some ⟨[.int, .int], some (.object "java/lang/String")⟩ := by decide +kernel
theorem pd15 : parseMethodDescriptor "(Ljava/lang/String;)Ljava/lang/String;" = some ⟨[(.object "java/lang/String")], some (.object "java/lang/String")⟩ := by decide +kernel
abbrev RrmE4 : Room := { frames := 1, cells := 4, slots := 10, locals := 12 }
def QrmE4 (Z : State) (x : Addr) (b : Addr) (h0 : Heap) (v : Option Value) (vm : Vm) (h : Heap) : Prop := ∃ (t : Addr) (kb : ClassId), v = none ∧ Keep h0 h [x] ∧ Str Z h x t kb []
theorem rmE4 (hc : Cx Z a0 zc fm) (x : Addr) (b : Addr) (h0 : Heap) (O0 : Old Z Z.heap.size h0) (Pr0 : Exa Z h0 x "java/lang/String") (Pr1 : Fld Z h0 x "java/lang/String" "coder" "B" (.int (0 : Int32))) (Pr2 : Fld Z h0 x "java/lang/String" "value" "[B" .null) (Pr3 : Z.heap.size ≤ x) : Met l Z consts_1 (⟨"java/lang/String", "<init>", "([CIILjava/lang/Void;)V"⟩ : MethodName) jdk_42_method_149_code 6 (none) [] RrmE4 [x] #[(.ref x), (.ref b), (.int (0 : Int32)), (.int (0 : Int32)), .null] h0 (QrmE4 Z x b h0) := by
  have ⟨hw, hEL, O2, P5, O4, P6⟩ := hc
  refine Met.start (a0 := a0) (Ls := #[vR x, vR b, vI (0 : Int32), vI (0 : Int32), .val .null, .unset]) pn3 hEL O0 (fun m => by first | (simp [entryFrame, mkF, argsToLocals, Value.category]; done) | rfl) ?_
  intro p e s m below meth cc T0 vm0 X0 sf0_ hby hml hret hnm
  have hx := X0.hx
  have D : ∀ {n r}, decode jdk_42_method_149_code n = r → decode cc.code n = r := fun d => hb hby d
  have zz := X0.ge
  have A0 := X0.at
  have l1 := ltA Pr0.lt
  have s2 := sf0_ x (List.mem_of_getElem? (i := 0) rfl)
  refine Gets.via (fun _ k => (XS.aloadN A0 hx rfl (D d3_0) rfl rfl k)) ?_
  refine X0.objInit (w19 hw) (w20 hw) (w21 hw) rfl (sz hml rfl) rfl (D d3_1) (by decide) (W := 0) (mroom rfl rfl) (by decide) fun T3 X3 => ?_
  have A4 := X3.at
  refine Gets.via (fun _ k => (XS.iloadN A4 hx rfl (D d3_4) rfl (XS.ifNo A4 hx rfl (D d3_5) rfl (Jvm.Free.XT.i0_ne_f (by decide)) k))) ?_
  refine Gets.via (fun _ k => (XS.aloadN A4 hx rfl (D d3_8) rfl rfl k)) ?_
  refine X3.ldcC (w119 hw) (wSt hw) (by decide) (vs := []) (z := (0 : Int32)) ⟨by decide, by decide⟩ (by decide) (by decide) rfl (D d3_9) (n := 1) (by decide) (by decide) (by decide) (by decide) fun T5 h5 vm5 a5 yb5 k5 X5 C5 E5 Z5 Fc5 Fv5 V5 q5 => ?_
  have z5 := E5.1
  have l5 := ltA Z5.lt
  have lb5 := ltA V5.lt
  have f6 := C5.safe (x := x) (ltA (by omega)) s2
  have ne7 := neA (q5 x f6).1
  have nf7 := neA (q5 x f6).2
  show Gets p e below _ (T5.setTop (mkF m 11 #[vR x, vR b, vI (0 : Int32), vI (0 : Int32), .val .null, .unset] [(.ref a5), (.ref x)]))
  refine X5.getF (host := "") (Or.inl (w36 hw)) Via.refl Fv5 rfl rfl (D d3_11) fun T8 X8 => ?_
  have f10 := Pr2.ext E5
  have f11 := Pr0.ext E5
  refine X8.putF (host := "") (Or.inl (w36 hw)) Via.refl f10 f11 (Or.inr ⟨(w37 hw), rfl, hnm⟩) (w10 hw) (ty := (.array .byte)) (by decide) rfl rfl (leA (by omega)) f6 rfl rfl (D d3_14) fun T9 h9 X9 C9 W9 F9 Z9 => ?_
  have z9 := W9.size
  have A12 := X9.at
  refine Gets.via (fun _ k => (XS.aloadN A12 hx rfl (D d3_17) rfl rfl k)) ?_
  refine X9.ldcC (w119 hw) (wSt hw) (by decide) (vs := []) (z := (0 : Int32)) ⟨by decide, by decide⟩ (by decide) (by decide) rfl (D d3_18) (n := 1) (by decide) (by decide) (by decide) (by decide) fun T13 h13 vm13 a13 yb13 k13 X13 C13 E13 Z13 Fc13 Fv13 V13 q13 => ?_
  have z13 := E13.1
  have l13 := ltA Z13.lt
  have lb13 := ltA V13.lt
  have f14 := C9.safe (x := x) (ltA (by omega)) f6
  have f15 := C13.safe (x := x) (ltA (by omega)) f14
  have ne16 := neA (q13 x f15).1
  have nf16 := neA (q13 x f15).2
  refine X13.getF (host := "") (Or.inl (w34 hw)) Via.refl Fc13 rfl rfl (D d3_20) fun T17 X17 => ?_
  show Gets p e below _ (T17.setTop (mkF m 23 #[vR x, vR b, vI (0 : Int32), vI (0 : Int32), .val .null, .unset] [(.int (0 : Int32)), (.ref x)]))
  have f19 := Pr1.ext E5
  have f20 := f19.other W9 (Or.inr (slot_ne (t := .byte) (t' := (.array .byte)) (Or.inr (w35 hw)) (Or.inr (w37 hw)) (by decide) (by decide) (by decide)))
  have f21 := f20.ext E13
  have f22 := Z9.ext E13
  refine X17.putF (host := "") (Or.inl (w34 hw)) Via.refl f21 f22 (Or.inr ⟨(w35 hw), rfl, hnm⟩) (w10 hw) (ty := .byte) (by decide) (by decide) (by decide) (leA (by omega)) f15 rfl rfl (D d3_23) fun T18 h18 X18 C18 W18 F18 Z18 => ?_
  have z18 := W18.size
  have f23 := F9.ext E13
  have f24 := f23.other W18 (Or.inr (slot_ne (t := (.array .byte)) (t' := .byte) (Or.inr (w37 hw)) (Or.inr (w35 hw)) (by decide) (by decide) (by decide)))
  have f25 := V5.other W9 (neA (by omega))
  have f26 := f25.ext E13
  have f27 := f26.other W18 (neA (by omega))
  have f28 : Str Z h18 x yb5 k5 [] := ⟨Z18, F18, f24, f27, allN, Nat.le_of_ble_eq_true rfl⟩
  exact X18.retV hret (D d3_26) (by decide) (by decide) (fun vmE CE => ⟨yb5, k5, rfl, (((((Keep.refl h0 [x]).ext E5).wr W9 (Or.inl (List.mem_of_getElem? (i := 0) rfl))).ext E13).wr W18 (Or.inl (List.mem_of_getElem? (i := 0) rfl))), f28⟩)
abbrev RrmE1 : Room := { frames := 2, cells := 4, slots := 10, locals := 29 }
def QrmE1 (Z : State) (x : Addr) (b : Addr) (kc : ClassId) (h0 : Heap) (v : Option Value) (vm : Vm) (h : Heap) : Prop := ∃ (t : Addr) (kb : ClassId), v = none ∧ Keep h0 h [x] ∧ Str Z h x t kb []
theorem rmE1 (hc : Cx Z a0 zc fm) (x : Addr) (b : Addr) (kc : ClassId) (h0 : Heap) (O0 : Old Z Z.heap.size h0) (Pr0 : Exa Z h0 x "java/lang/String") (Pr1 : Fld Z h0 x "java/lang/String" "coder" "B" (.int (0 : Int32))) (Pr2 : Fld Z h0 x "java/lang/String" "value" "[B" .null) (Pr3 : Z.heap.size ≤ x) (Pr4 : Arv Z h0 b kc .char (0 : Int32) [] (.int (0 : Int32))) : Met l Z consts_1 (⟨"java/lang/String", "<init>", "([C)V"⟩ : MethodName) jdk_42_method_3_code 2 (none) [] RrmE1 [x] #[(.ref x), (.ref b)] h0 (QrmE1 Z x b kc h0) := by
  have ⟨hw, hEL, O2, P5, O4, P6⟩ := hc
  refine Met.start (a0 := a0) (Ls := #[vR x, vR b]) pn2 hEL O0 (fun m => by first | (simp [entryFrame, mkF, argsToLocals, Value.category]; done) | rfl) ?_
  intro p e s m below meth cc T0 vm0 X0 sf0_ hby hml hret hnm
  have hx := X0.hx
  have D : ∀ {n r}, decode jdk_42_method_3_code n = r → decode cc.code n = r := fun d => hb hby d
  have zz := X0.ge
  have A0 := X0.at
  have l1 := ltA Pr0.lt
  have l2 := ltA Pr4.lt
  have s3 := sf0_ x (List.mem_of_getElem? (i := 0) rfl)
  refine Gets.via (fun _ k => (XS.aloadN A0 hx rfl (D d2_0) rfl rfl (XS.aloadN A0 hx rfl (D d2_1) rfl rfl (XS.iconst A0 hx rfl (D d2_2) (XS.aloadN A0 hx rfl (D d2_3) rfl rfl k))))) ?_
  refine X0.alen Pr4 rfl rfl (D d2_4) ?_
  refine Gets.via (fun _ k => (XS.aconstNull A0 hx rfl (D d2_5) k)) ?_
  refine X0.callI (y := (⟨"java/lang/String", "<init>", "([CIILjava/lang/Void;)V"⟩ : MethodName)) (W := 0) rfl (w15 hw) (w16 hw) (w18 hw) (by decide) (X0.payM (sf := [x]) (rmE4 hc x b h0 X0.old Pr0 Pr1 Pr2 Pr3) (sfS s3 sf0) (w18 hw) (w11 hw) (by decide) (by decide)) rfl (sz hml rfl) (a := x) (argsL := [(.ref b), (.int (0 : Int32)), (.int (0 : Int32)), .null]) (rest := []) (lenOf pd0 rfl) rfl rfl (mroom rfl rfl) (D d2_6) (by decide) (by decide) fun T4 h4 vm4 v4 X4 C4 z4 q4 => ?_
  obtain ⟨t4, kb4, rfl, K4, g4_0⟩ := q4
  have l5 := ltA g4_0.lt
  have l6 := ltA g4_0.lb
  show Gets p e below _ (T4.setTop (mkF m 9 #[vR x, vR b] []))
  exact X4.retV hret (D d2_9) (by decide) (by decide) (fun vmE CE => ⟨t4, kb4, rfl, ((Keep.refl h0 [x]).trans K4 (allS (Or.inl (List.mem_of_getElem? (i := 0) rfl)) all0)), g4_0⟩)
abbrev Rrm19 : Room := { frames := 0, cells := 0, slots := 0, locals := 0 }
def Qrm19 (Z : State) (u : Int32) (w : Int32) (n : Int32) (fq : Value) (h0 : Heap) (v : Option Value) (vm : Vm) (h : Heap) : Prop := v = some (.int u) ∧ h = h0
theorem rm19 (hc : Cx Z a0 zc fm) (u : Int32) (w : Int32) (n : Int32) (fq : Value) (h0 : Heap) (O0 : Old Z Z.heap.size h0) (Pr0 : ¬ u < (0 : Int32)) (Pr1 : ¬ w < u) (Pr2 : ¬ n < w) (Pr3 : fq.isRef = true) : Met l Z consts_1 (⟨"jdk/internal/util/Preconditions", "checkFromToIndex", "(IIILjava/util/function/BiFunction;)I"⟩ : MethodName) jdk_41_method_12_code 4 (some .int) [] Rrm19 [] #[(.int u), (.int w), (.int n), fq] h0 (Qrm19 Z u w n fq h0) := by
  have ⟨hw, hEL, O2, P5, O4, P6⟩ := hc
  refine Met.start (a0 := a0) (Ls := #[vI u, vI w, vI n, .val fq]) pn19 hEL O0 (fun m => by revert Pr3; cases fq <;> intro Pr3 <;> first | exact nomatch (show false = true from Pr3) | (first | (simp [entryFrame, mkF, argsToLocals, Value.category]; done) | rfl)) ?_
  intro p e s m below meth cc T0 vm0 X0 sf0_ hby hml hret hnm
  have hx := X0.hx
  have D : ∀ {n r}, decode jdk_41_method_12_code n = r → decode cc.code n = r := fun d => hb hby d
  have zz := X0.ge
  have A0 := X0.at
  refine Gets.via (fun _ k => (XS.iloadN A0 hx rfl (D d19_0) rfl (XS.ifNo A0 hx rfl (D d19_1) rfl (Jvm.Free.XT.i0_lt_f Pr0) k))) ?_
  refine Gets.via (fun _ k => (XS.iloadN A0 hx rfl (D d19_4) rfl (XS.iloadN A0 hx rfl (D d19_5) rfl (XS.icmpNo A0 hx rfl (D d19_6) rfl (Jvm.Free.XT.ii_gt_f Pr1) k)))) ?_
  refine Gets.via (fun _ k => (XS.iloadN A0 hx rfl (D d19_9) rfl (XS.iloadN A0 hx rfl (D d19_10) rfl (XS.icmpYes A0 hx rfl (pc0 := 11) (pc' := 22) rfl (D d19_11) rfl (Jvm.Free.XT.ii_le_t Pr2) (by decide) (by decide) k)))) ?_
  refine Gets.via (fun _ k => (XS.iloadN A0 hx rfl (D d19_22) rfl k)) ?_
  show Gets p e below _ (T0.setTop (mkF m 23 #[vI u, vI w, vI n, .val fq] [(.int u)]))
  exact X0.retI hret rfl (by simp) (D d19_23) (by decide) (by decide) (fun vmE CE => ⟨rfl, rfl⟩)
abbrev Rrm18 : Room := { frames := 1, cells := 0, slots := 0, locals := 15 }
def Qrm18 (Z : State) (u : Int32) (w : Int32) (n : Int32) (h0 : Heap) (v : Option Value) (vm : Vm) (h : Heap) : Prop := v = none ∧ h = h0
theorem rm18 (hc : Cx Z a0 zc fm) (u : Int32) (w : Int32) (n : Int32) (h0 : Heap) (O0 : Old Z Z.heap.size h0) (Pr0 : ¬ u < (0 : Int32)) (Pr1 : ¬ w < u) (Pr2 : ¬ n < w) : Met l Z consts_1 (⟨"java/lang/String", "checkBoundsBeginEnd", "(III)V"⟩ : MethodName) jdk_42_method_158_code 3 (none) [] Rrm18 [] #[(.int u), (.int w), (.int n)] h0 (Qrm18 Z u w n h0) := by
  have ⟨hw, hEL, O2, P5, O4, P6⟩ := hc
  refine Met.start (a0 := a0) (Ls := #[vI u, vI w, vI n]) pn18 hEL O0 (fun m => by first | (simp [entryFrame, mkF, argsToLocals, Value.category]; done) | rfl) ?_
  intro p e s m below meth cc T0 vm0 X0 sf0_ hby hml hret hnm
  have hx := X0.hx
  have D : ∀ {n r}, decode jdk_42_method_158_code n = r → decode cc.code n = r := fun d => hb hby d
  have zz := X0.ge
  have A0 := X0.at
  refine Gets.via (fun _ k => (XS.iloadN A0 hx rfl (D d18_0) rfl (XS.iloadN A0 hx rfl (D d18_1) rfl (XS.iloadN A0 hx rfl (D d18_2) rfl k)))) ?_
  refine X0.getS (host := "") (Or.inl (w69 hw)) Via.refl (X0.sta O4) rfl (D d18_3) fun T1 X1 => ?_
  refine X1.callS (W := 0) (w86 hw) (w87 hw) (w70 hw) (w88 hw) (by decide) (X1.payM (sf := []) (rm19 hc u w n fm h0 X1.old Pr0 Pr1 Pr2 P6) sf0 (w88 hw) (w70 hw) (by decide) (by decide)) rfl (sz hml rfl) (argsL := [(.int u), (.int w), (.int n), fm]) (rest := []) (lenOf pd1 rfl) rfl rfl (mroom rfl rfl) (D d18_6) (by decide) (by decide) fun T2 h2 vm2 v2 X2 C2 z2 q2 => ?_
  obtain ⟨rfl, K2⟩ := q2
  rw [K2] at X2 C2
  show Gets p e below _ (T2.setTop (mkF m 9 #[vI u, vI w, vI n] [(.int u)]))
  have A3 := X2.at
  refine Gets.via (fun _ k => (XS.pop A3 hx rfl (D d18_9) rfl rfl k)) ?_
  exact X2.retV hret (D d18_10) (by decide) (by decide) (fun vmE CE => ⟨rfl, rfl⟩)
abbrev Rrm12 : Room := { frames := 0, cells := 0, slots := 0, locals := 0 }
def Qrm12 (Z : State) (x : Addr) (h0 : Heap) (v : Option Value) (vm : Vm) (h : Heap) : Prop := v = some (.int (1 : Int32)) ∧ h = h0
theorem rm12 (hc : Cx Z a0 zc fm) (x : Addr) (h0 : Heap) (O0 : Old Z Z.heap.size h0) (Pr0 : Exa Z h0 x "java/lang/String") (Pr1 : Fld Z h0 x "java/lang/String" "coder" "B" (.int (0 : Int32))) : Met l Z consts_1 (⟨"java/lang/String", "isLatin1", "()Z"⟩ : MethodName) jdk_42_method_154_code 1 (some .boolean) [] Rrm12 [] #[(.ref x)] h0 (Qrm12 Z x h0) := by
  have ⟨hw, hEL, O2, P5, O4, P6⟩ := hc
  refine Met.start (a0 := a0) (Ls := #[vR x]) pn12 hEL O0 (fun m => by first | (simp [entryFrame, mkF, argsToLocals, Value.category]; done) | rfl) ?_
  intro p e s m below meth cc T0 vm0 X0 sf0_ hby hml hret hnm
  have hx := X0.hx
  have D : ∀ {n r}, decode jdk_42_method_154_code n = r → decode cc.code n = r := fun d => hb hby d
  have zz := X0.ge
  have A0 := X0.at
  have l1 := ltA Pr0.lt
  refine X0.getS (host := "") (Or.inl (w22 hw)) Via.refl (X0.sta O2) rfl (D d12_0) fun T2 X2 => ?_
  have A3 := X2.at
  refine Gets.via (fun _ k => (XS.ifNo A3 hx rfl (D d12_3) rfl (Jvm.Free.XT.i0_eq_f P5) k)) ?_
  refine Gets.via (fun _ k => (XS.aloadN A3 hx rfl (D d12_6) rfl rfl k)) ?_
  refine X2.getF (host := "") (Or.inl (w34 hw)) Via.refl Pr1 rfl rfl (D d12_7) fun T4 X4 => ?_
  have A5 := X4.at
  refine Gets.via (fun _ k => (XS.ifNo A5 hx rfl (D d12_10) rfl (Jvm.Free.XT.i0_ne_f (by decide)) k)) ?_
  show Gets p e below _ (T4.setTop (mkF m 13 #[vR x] []))
  refine Gets.via (fun _ k => (XS.iconst A5 hx rfl (D d12_13) (XS.goto A5 hx rfl (pc0 := 14) (pc' := 18) rfl (D d12_14) (by decide) (by decide) k))) ?_
  exact X4.retI hret (by decide) (by simp) (D d12_18) (by decide) (by decide) (fun vmE CE => ⟨rfl, rfl⟩)
abbrev RrmInitBB : Room := { frames := 1, cells := 0, slots := 0, locals := 12 }
def QrmInitBB (Z : State) (x : Addr) (t : Addr) (h0 : Heap) (v : Option Value) (vm : Vm) (h : Heap) : Prop := v = none ∧ Keep h0 h [x] ∧ Exa Z h x "java/lang/String" ∧ Fld Z h x "java/lang/String" "coder" "B" (.int (0 : Int32)) ∧ Fld Z h x "java/lang/String" "value" "[B" (.ref t)
theorem rmInitBB (hc : Cx Z a0 zc fm) (x : Addr) (t : Addr) (h0 : Heap) (O0 : Old Z Z.heap.size h0) (Pr0 : Exa Z h0 x "java/lang/String") (Pr1 : Fld Z h0 x "java/lang/String" "coder" "B" (.int (0 : Int32))) (Pr2 : Fld Z h0 x "java/lang/String" "value" "[B" .null) (Pr3 : Z.heap.size ≤ x) : Met l Z consts_1 (⟨"java/lang/String", "<init>", "([BB)V"⟩ : MethodName) jdk_42_method_151_code 3 (none) [] RrmInitBB [x] #[(.ref x), (.ref t), (.int (0 : Int32))] h0 (QrmInitBB Z x t h0) := by
  have ⟨hw, hEL, O2, P5, O4, P6⟩ := hc
  refine Met.start (a0 := a0) (Ls := #[vR x, vR t, vI (0 : Int32)]) pn26 hEL O0 (fun m => by first | (simp [entryFrame, mkF, argsToLocals, Value.category]; done) | rfl) ?_
  intro p e s m below meth cc T0 vm0 X0 sf0_ hby hml hret hnm
  have hx := X0.hx
  have D : ∀ {n r}, decode jdk_42_method_151_code n = r → decode cc.code n = r := fun d => hb hby d
  have zz := X0.ge
  have A0 := X0.at
  have l1 := ltA Pr0.lt
  have s2 := sf0_ x (List.mem_of_getElem? (i := 0) rfl)
  refine Gets.via (fun _ k => (XS.aloadN A0 hx rfl (D d26_0) rfl rfl k)) ?_
  refine X0.objInit (w19 hw) (w20 hw) (w21 hw) rfl (sz hml rfl) rfl (D d26_1) (by decide) (W := 0) (mroom rfl rfl) (by decide) fun T3 X3 => ?_
  have A4 := X3.at
  refine Gets.via (fun _ k => (XS.aloadN A4 hx rfl (D d26_4) rfl rfl (XS.aloadN A4 hx rfl (D d26_5) rfl rfl k))) ?_
  refine X3.putF (host := "") (Or.inl (w36 hw)) Via.refl Pr2 Pr0 (Or.inr ⟨(w37 hw), rfl, hnm⟩) (w10 hw) (ty := (.array .byte)) (by decide) rfl rfl (leA (by omega)) s2 rfl rfl (D d26_6) fun T5 h5 X5 C5 W5 F5 Z5 => ?_
  have z5 := W5.size
  show Gets p e below _ (T5.setTop (mkF m 9 #[vR x, vR t, vI (0 : Int32)] []))
  have A6 := X5.at
  refine Gets.via (fun _ k => (XS.aloadN A6 hx rfl (D d26_9) rfl rfl (XS.iloadN A6 hx rfl (D d26_10) rfl k))) ?_
  have f8 := Pr1.other W5 (Or.inr (slot_ne (t := .byte) (t' := (.array .byte)) (Or.inr (w35 hw)) (Or.inr (w37 hw)) (by decide) (by decide) (by decide)))
  have f9 := C5.safe (x := x) (ltA (by omega)) s2
  refine X5.putF (host := "") (Or.inl (w34 hw)) Via.refl f8 Z5 (Or.inr ⟨(w35 hw), rfl, hnm⟩) (w10 hw) (ty := .byte) (by decide) (by decide) (by decide) (leA (by omega)) f9 rfl rfl (D d26_11) fun T7 h7 X7 C7 W7 F7 Z7 => ?_
  have z7 := W7.size
  have f10 := F5.other W7 (Or.inr (slot_ne (t := (.array .byte)) (t' := .byte) (Or.inr (w37 hw)) (Or.inr (w35 hw)) (by decide) (by decide) (by decide)))
  exact X7.retV hret (D d26_14) (by decide) (by decide) (fun vmE CE => ⟨rfl, (((Keep.refl h0 [x]).wr W5 (Or.inl (List.mem_of_getElem? (i := 0) rfl))).wr W7 (Or.inl (List.mem_of_getElem? (i := 0) rfl))), Z7, F7, f10⟩)
abbrev Rrm24 : Room := { frames := 0, cells := 0, slots := 0, locals := 0 }
def Qrm24 (Z : State) (u : Int32) (w : Int32) (h0 : Heap) (v : Option Value) (vm : Vm) (h : Heap) : Prop := v = none ∧ h = h0
theorem rm24 (hc : Cx Z a0 zc fm) (u : Int32) (w : Int32) (h0 : Heap) (O0 : Old Z Z.heap.size h0) (Pr0 : ¬ w < u) : Met l Z consts_1 (⟨"java/util/Arrays", "checkLength", "(II)V"⟩ : MethodName) jdk_65_method_131_code 2 (none) [] Rrm24 [] #[(.int u), (.int w)] h0 (Qrm24 Z u w h0) := by
  have ⟨hw, hEL, O2, P5, O4, P6⟩ := hc
  refine Met.start (a0 := a0) (Ls := #[vI u, vI w]) pn24 hEL O0 (fun m => by first | (simp [entryFrame, mkF, argsToLocals, Value.category]; done) | rfl) ?_
  intro p e s m below meth cc T0 vm0 X0 sf0_ hby hml hret hnm
  have hx := X0.hx
  have D : ∀ {n r}, decode jdk_65_method_131_code n = r → decode cc.code n = r := fun d => hb hby d
  have zz := X0.ge
  have A0 := X0.at
  refine Gets.via (fun _ k => (XS.iloadN A0 hx rfl (D d24_0) rfl (XS.iloadN A0 hx rfl (D d24_1) rfl (XS.icmpYes A0 hx rfl (pc0 := 2) (pc' := 37) rfl (D d24_2) rfl (Jvm.Free.XT.ii_ge_t Pr0) (by decide) (by decide) k)))) ?_
  exact X0.retV hret (D d24_37) (by decide) (by decide) (fun vmE CE => ⟨rfl, rfl⟩)
abbrev RrmMin : Room := { frames := 0, cells := 0, slots := 0, locals := 0 }
def QrmMin (Z : State) (u : Int32) (w : Int32) (h0 : Heap) (v : Option Value) (vm : Vm) (h : Heap) : Prop := ∃ (r : Int32), v = some (.int r) ∧ h = h0 ∧ r = w
theorem rmMin (hc : Cx Z a0 zc fm) (u : Int32) (w : Int32) (h0 : Heap) (O0 : Old Z Z.heap.size h0) (Pr0 : ¬ u < w) : Met l Z consts_1 (⟨"java/lang/Math", "min", "(II)I"⟩ : MethodName) jdk_29_method_69_code 2 (some .int) [] RrmMin [] #[(.int u), (.int w)] h0 (QrmMin Z u w h0) := by
  have ⟨hw, hEL, O2, P5, O4, P6⟩ := hc
  refine Met.start (a0 := a0) (Ls := #[vI u, vI w]) pn25 hEL O0 (fun m => by first | (simp [entryFrame, mkF, argsToLocals, Value.category]; done) | rfl) ?_
  intro p e s m below meth cc T0 vm0 X0 sf0_ hby hml hret hnm
  have hx := X0.hx
  have D : ∀ {n r}, decode jdk_29_method_69_code n = r → decode cc.code n = r := fun d => hb hby d
  have zz := X0.ge
  have A0 := X0.at
  refine Gets.via (fun _ k => (XS.iloadN A0 hx rfl (D d25_0) rfl (XS.iloadN A0 hx rfl (D d25_1) rfl k))) ?_
  by_cases b2 : w < u
  · refine Gets.via (fun _ k => (XS.icmpYes A0 hx rfl (pc0 := 2) (pc' := 9) rfl (D d25_2) rfl (Jvm.Free.XT.ii_gt_t b2) (by decide) (by decide) k)) ?_
    refine Gets.via (fun _ k => (XS.iloadN A0 hx rfl (D d25_9) rfl k)) ?_
    exact X0.retI hret rfl (by simp) (D d25_10) (by decide) (by decide) (fun vmE CE => ⟨w, rfl, rfl, rfl⟩)
  · refine Gets.via (fun _ k => (XS.icmpNo A0 hx rfl (D d25_2) rfl (Jvm.Free.XT.ii_gt_f b2) k)) ?_
    refine Gets.via (fun _ k => (XS.iloadN A0 hx rfl (D d25_5) rfl (XS.goto A0 hx rfl (pc0 := 6) (pc' := 10) rfl (D d25_6) (by decide) (by decide) k))) ?_
    exact X0.retI hret rfl (by simp) (D d25_10) (by decide) (by decide) (fun vmE CE => ⟨u, rfl, rfl, (eq_of_le b2 Pr0)⟩)
abbrev RrmCrB : Room := { frames := 1, cells := 1, slots := 8, locals := 22 }
def QrmCrB (Z : State) (b : Addr) (kb : ClassId) (M : Nat) (vs : List Value) (i : Nat) (j : Nat) (h0 : Heap) (v : Option Value) (vm : Vm) (h : Heap) : Prop := ∃ (t : Addr) (kt : ClassId), v = some (.ref t) ∧ Keep h0 h [] ∧ Arv Z h t kt .byte (Int32.ofNat (j - i)) (slcV vs i (j - i)) (.int (0 : Int32)) ∧ h0.size ≤ t
theorem rmCrB (hc : Cx Z a0 zc fm) (b : Addr) (kb : ClassId) (M : Nat) (vs : List Value) (i : Nat) (j : Nat) (h0 : Heap) (O0 : Old Z Z.heap.size h0) (Pr0 : Arv Z h0 b kb .byte (Int32.ofNat M) vs (.int (0 : Int32))) (Pr1 : i ≤ j) (Pr2 : j ≤ M) (Pr3 : M ≤ 4000) (Pr4 : j - i ≤ 8) : Met l Z consts_1 (⟨"java/util/Arrays", "copyOfRangeByte", "([BII)[B"⟩ : MethodName) jdk_65_method_133_code 5 (some (.array .byte)) [] RrmCrB [] #[(.ref b), (.int (Int32.ofNat i)), (.int (Int32.ofNat j))] h0 (QrmCrB Z b kb M vs i j h0) := by
  have ⟨hw, hEL, O2, P5, O4, P6⟩ := hc
  refine Met.start (a0 := a0) (Ls := #[vR b, vI (Int32.ofNat i), vI (Int32.ofNat j), .unset, .unset]) pn23 hEL O0 (fun m => by first | (simp [entryFrame, mkF, argsToLocals, Value.category]; done) | rfl) ?_
  intro p e s m below meth cc T0 vm0 X0 sf0_ hby hml hret hnm
  have hx := X0.hx
  have D : ∀ {n r}, decode jdk_65_method_133_code n = r → decode cc.code n = r := fun d => hb hby d
  have zz := X0.ge
  have A0 := X0.at
  have l1 := ltA Pr0.lt
  have hnl : ¬ (Int32.ofNat j) < (Int32.ofNat i) := of_nlt (by omega) (by omega) (by omega)
  have hmn : ¬ ((Int32.ofNat M) - (Int32.ofNat i)) < (Int32.ofNat (j - i)) := of_subl (by omega) (by omega)
  refine Gets.via (fun _ k => (XS.iloadN A0 hx rfl (D d23_0) rfl (XS.iloadN A0 hx rfl (D d23_1) rfl k))) ?_
  refine X0.callS (W := 0) (w105 hw) (w106 hw) (w100 hw) (w107 hw) (by decide) (X0.payM (sf := []) (rm24 hc (Int32.ofNat i) (Int32.ofNat j) h0 X0.old hnl) sf0 (w107 hw) (w100 hw) (by decide) (by decide)) rfl (sz hml rfl) (argsL := [(.int (Int32.ofNat i)), (.int (Int32.ofNat j))]) (rest := []) (lenOf pd2 rfl) rfl rfl (mroom rfl rfl) (D d23_2) (by decide) (by decide) fun T2 h2 vm2 v2 X2 C2 z2 q2 => ?_
  obtain ⟨rfl, K2⟩ := q2
  rw [K2] at X2 C2
  have A3 := X2.at
  refine Gets.via (fun _ k => (XS.iloadN A3 hx rfl (D d23_5) rfl (XS.iloadN A3 hx rfl (D d23_6) rfl (XS.isub A3 hx rfl (D d23_7) rfl k)))) ?_
  show Gets p e below _ (T2.setTop (mkF m 8 #[vR b, vI (Int32.ofNat i), vI (Int32.ofNat j), .unset, .unset] [(.int ((Int32.ofNat j) - (Int32.ofNat i)))]))
  rw [of_sub (by omega) (by omega)]
  refine Gets.via (fun _ k => (XS.istoreN A3 hx rfl (D d23_8) rfl (l' := #[vR b, vI (Int32.ofNat i), vI (Int32.ofNat j), vI (Int32.ofNat (j - i)), .unset]) rfl (XS.iloadN A3 hx rfl (D d23_9) rfl k))) ?_
  refine X2.newA (aty := .byte) (w27 hw) rfl (D d23_10) rfl (of_pos (by omega)) (cap := 8) (by rw [toN (by omega)]; omega) (by decide) (by decide) (by decide) fun T4 h4 a4 k4 X4 C4 E4 g4 S4 V4 => ?_
  have z4 := E4.1
  have l4 := ltA V4.lt
  have V4_ : Arv Z h4 a4 k4 .byte (Int32.ofNat (j - i)) (List.replicate (j - i) (.int (0 : Int32))) (.int (0 : Int32)) := padN V4 (j - i)
  have A5 := X4.at
  refine Gets.via (fun _ k => (XS.astore A5 hx rfl (D d23_12) rfl rfl (l' := #[vR b, vI (Int32.ofNat i), vI (Int32.ofNat j), vI (Int32.ofNat (j - i)), vR a4]) rfl (XS.aloadN A5 hx rfl (D d23_14) rfl rfl (XS.iloadN A5 hx rfl (D d23_15) rfl (XS.aload A5 hx rfl (D d23_16) rfl rfl (XS.iconst A5 hx rfl (D d23_18) (XS.aloadN A5 hx rfl (D d23_19) rfl rfl k))))))) ?_
  show Gets p e below _ (T4.setTop (mkF m 20 #[vR b, vI (Int32.ofNat i), vI (Int32.ofNat j), vI (Int32.ofNat (j - i)), vR a4] [(.ref b), (.int (0 : Int32)), (.ref a4), (.int (Int32.ofNat i)), (.ref b)]))
  have f6 := Pr0.ext E4
  refine X4.alen f6 rfl rfl (D d23_20) ?_
  refine Gets.via (fun _ k => (XS.iloadN A5 hx rfl (D d23_21) rfl (XS.isub A5 hx rfl (D d23_22) rfl (XS.iloadN A5 hx rfl (D d23_23) rfl k)))) ?_
  refine X4.callS (W := 4) (w108 hw) (w109 hw) (w110 hw) (w111 hw) (by decide) (X4.payM (sf := []) (rmMin hc ((Int32.ofNat M) - (Int32.ofNat i)) (Int32.ofNat (j - i)) h4 X4.old hmn) sf0 (w111 hw) (w110 hw) (by decide) (by decide)) rfl (sz hml rfl) (argsL := [(.int ((Int32.ofNat M) - (Int32.ofNat i))), (.int (Int32.ofNat (j - i)))]) (rest := [(.int (0 : Int32)), (.ref a4), (.int (Int32.ofNat i)), (.ref b)]) (lenOf pd3 rfl) rfl rfl (mroom rfl rfl) (D d23_24) (by decide) (by decide) fun T7 h7 vm7 v7 X7 C7 z7 q7 => ?_
  obtain ⟨r7, rfl, K7, rfl⟩ := q7
  rw [K7] at X7 C7
  have f9 := C7.safe (x := a4) (ltA (by omega)) S4
  refine X7.copy (w112 hw) (w115 hw) (w113 hw) (w114 hw) f6 V4_ (Or.inl ⟨rfl, rfl⟩) (of_pos (by omega)) (by decide) (of_pos (by omega)) (by rw [toN (by omega), toN (by omega), toN (by omega)]; omega) (by rw [toN (by omega), show (0 : Int32).toNatClampNeg = 0 from rfl]; omega) rfl (by rw [toN (by omega), List.length_replicate, show (0 : Int32).toNatClampNeg = 0 from rfl]; omega) (leA (by omega)) f9 rfl (sz hml rfl) rfl (D d23_27) (by decide) (W := 0) (mroom rfl rfl) (by decide) fun T8 h8 X8 C8 K8 V8 => ?_
  have z8 := K8.1
  have V8_ : Arv Z h8 a4 k4 .byte (Int32.ofNat (j - i)) (slcV vs i (j - i)) (.int (0 : Int32)) := (copied (vs := vs) (i := i) (k := j - i) (by omega) (by omega)) ▸ V8
  show Gets p e below _ (T8.setTop (mkF m 30 #[vR b, vI (Int32.ofNat i), vI (Int32.ofNat j), vI (Int32.ofNat (j - i)), vR a4] []))
  have A10 := X8.at
  refine Gets.via (fun _ k => (XS.aload A10 hx rfl (D d23_30) rfl rfl k)) ?_
  exact X8.retA hret rfl rfl rfl (D d23_32) (by decide) (by decide) (fun vmE CE => ⟨a4, k4, rfl, (((Keep.refl h0 []).ext E4).trans K8 (allS (Or.inr (leA (by omega))) all0)), V8_, (leA (by omega))⟩)
abbrev RrmCr : Room := { frames := 2, cells := 1, slots := 8, locals := 38 }
def QrmCr (Z : State) (b : Addr) (kb : ClassId) (M : Nat) (vs : List Value) (i : Nat) (j : Nat) (h0 : Heap) (v : Option Value) (vm : Vm) (h : Heap) : Prop := ∃ (t : Addr) (kt : ClassId), v = some (.ref t) ∧ Keep h0 h [] ∧ Arv Z h t kt .byte (Int32.ofNat (j - i)) (slcV vs i (j - i)) (.int (0 : Int32)) ∧ h0.size ≤ t
theorem rmCr (hc : Cx Z a0 zc fm) (b : Addr) (kb : ClassId) (M : Nat) (vs : List Value) (i : Nat) (j : Nat) (h0 : Heap) (O0 : Old Z Z.heap.size h0) (Pr0 : Arv Z h0 b kb .byte (Int32.ofNat M) vs (.int (0 : Int32))) (Pr1 : i ≤ j) (Pr2 : j ≤ M) (Pr3 : M ≤ 4000) (Pr4 : j - i ≤ 8) (Pr5 : ¬ (i = 0 ∧ j = M)) : Met l Z consts_1 (⟨"java/util/Arrays", "copyOfRange", "([BII)[B"⟩ : MethodName) jdk_65_method_132_code 3 (some (.array .byte)) [] RrmCr [] #[(.ref b), (.int (Int32.ofNat i)), (.int (Int32.ofNat j))] h0 (QrmCr Z b kb M vs i j h0) := by
  have ⟨hw, hEL, O2, P5, O4, P6⟩ := hc
  refine Met.start (a0 := a0) (Ls := #[vR b, vI (Int32.ofNat i), vI (Int32.ofNat j)]) pn22 hEL O0 (fun m => by first | (simp [entryFrame, mkF, argsToLocals, Value.category]; done) | rfl) ?_
  intro p e s m below meth cc T0 vm0 X0 sf0_ hby hml hret hnm
  have hx := X0.hx
  have D : ∀ {n r}, decode jdk_65_method_132_code n = r → decode cc.code n = r := fun d => hb hby d
  have zz := X0.ge
  have A0 := X0.at
  have l1 := ltA Pr0.lt
  refine Gets.via (fun _ k => (XS.iloadN A0 hx rfl (D d22_0) rfl k)) ?_
  by_cases b1 : (Int32.ofNat i) = (0 : Int32)
  · refine Gets.via (fun _ k => (XS.ifNo A0 hx rfl (D d22_1) rfl (Jvm.Free.XT.i0_ne_f b1) k)) ?_
    refine Gets.via (fun _ k => (XS.iloadN A0 hx rfl (D d22_4) rfl (XS.aloadN A0 hx rfl (D d22_5) rfl rfl k))) ?_
    refine X0.alen Pr0 rfl rfl (D d22_6) ?_
    refine Gets.via (fun _ k => (XS.icmpNo A0 hx rfl (D d22_7) rfl (Jvm.Free.XT.ii_eq_f (fun q => Pr5 ⟨of_inj (by omega) (by omega) b1, of_inj (by omega) (by omega) q⟩)) k)) ?_
    refine Gets.via (fun _ k => (XS.aloadN A0 hx rfl (D d22_10) rfl rfl (XS.iloadN A0 hx rfl (D d22_11) rfl (XS.iloadN A0 hx rfl (D d22_12) rfl k)))) ?_
    show Gets p e below _ (T0.setTop (mkF m 13 #[vR b, vI (Int32.ofNat i), vI (Int32.ofNat j)] [(.int (Int32.ofNat j)), (.int (Int32.ofNat i)), (.ref b)]))
    refine X0.callS (W := 0) (w102 hw) (w103 hw) (w100 hw) (w104 hw) (by decide) (X0.payM (sf := []) (rmCrB hc b kb M vs i j h0 X0.old Pr0 Pr1 Pr2 Pr3 Pr4) sf0 (w104 hw) (w100 hw) (by decide) (by decide)) rfl (sz hml rfl) (argsL := [(.ref b), (.int (Int32.ofNat i)), (.int (Int32.ofNat j))]) (rest := []) (lenOf pd4 rfl) rfl rfl (mroom rfl rfl) (D d22_13) (by decide) (by decide) fun T2 h2 vm2 v2 X2 C2 z2 q2 => ?_
    obtain ⟨t2, kt2, rfl, K2, g2_0, g2_1⟩ := q2
    have l3 := ltA g2_0.lt
    exact X2.retA hret rfl rfl rfl (D d22_16) (by decide) (by decide) (fun vmE CE => ⟨t2, kt2, rfl, ((Keep.refl h0 []).trans K2 all0), g2_0, g2_1⟩)
  · refine Gets.via (fun _ k => (XS.ifYes A0 hx rfl (pc0 := 1) (pc' := 10) rfl (D d22_1) rfl (Jvm.Free.XT.i0_ne_t b1) (by decide) (by decide) k)) ?_
    refine Gets.via (fun _ k => (XS.aloadN A0 hx rfl (D d22_10) rfl rfl (XS.iloadN A0 hx rfl (D d22_11) rfl (XS.iloadN A0 hx rfl (D d22_12) rfl k)))) ?_
    refine X0.callS (W := 0) (w102 hw) (w103 hw) (w100 hw) (w104 hw) (by decide) (X0.payM (sf := []) (rmCrB hc b kb M vs i j h0 X0.old Pr0 Pr1 Pr2 Pr3 Pr4) sf0 (w104 hw) (w100 hw) (by decide) (by decide)) rfl (sz hml rfl) (argsL := [(.ref b), (.int (Int32.ofNat i)), (.int (Int32.ofNat j))]) (rest := []) (lenOf pd4 rfl) rfl rfl (mroom rfl rfl) (D d22_13) (by decide) (by decide) fun T4 h4 vm4 v4 X4 C4 z4 q4 => ?_
    obtain ⟨t4, kt4, rfl, K4, g4_0, g4_1⟩ := q4
    have l5 := ltA g4_0.lt
    exact X4.retA hret rfl rfl rfl (D d22_16) (by decide) (by decide) (fun vmE CE => ⟨t4, kt4, rfl, ((Keep.refl h0 []).trans K4 all0), g4_0, g4_1⟩)
abbrev RrmNS : Room := { frames := 3, cells := 2, slots := 12, locals := 54 }
def QrmNS (Z : State) (b : Addr) (kb : ClassId) (cs : List Int32) (i : Nat) (kn : Nat) (h0 : Heap) (v : Option Value) (vm : Vm) (h : Heap) : Prop := ∃ (a : Addr) (t : Addr) (kt : ClassId) (zl : Int32) (ds : List Value), v = some (.ref a) ∧ Keep h0 h [] ∧ Exa Z h a "java/lang/String" ∧ Fld Z h a "java/lang/String" "coder" "B" (.int (0 : Int32)) ∧ Fld Z h a "java/lang/String" "value" "[B" (.ref t) ∧ Arv Z h t kt .byte zl ds (.int (0 : Int32)) ∧ zl = (Int32.ofNat kn) ∧ ds = ((((cs.drop i).take kn).map fun c => c.toInt8.toInt32).map Value.int)
theorem rmNS (hc : Cx Z a0 zc fm) (b : Addr) (kb : ClassId) (cs : List Int32) (i : Nat) (kn : Nat) (h0 : Heap) (O0 : Old Z Z.heap.size h0) (Pr0 : Arv Z h0 b kb .byte (Int32.ofNat (cs).length) ((cs.map fun c => c.toInt8.toInt32).map Value.int) (.int (0 : Int32))) (Pr1 : i + kn ≤ (cs).length) (Pr2 : (cs).length ≤ 4000) (Pr3 : kn ≤ 8) (Pr4 : ¬ (i = 0 ∧ i + kn = (cs).length)) : Met l Z consts_1 (⟨"java/lang/StringLatin1", "newString", "([BII)Ljava/lang/String;"⟩ : MethodName) jdk_43_method_47_code 3 (some (.object "java/lang/String")) [] RrmNS [] #[(.ref b), (.int (Int32.ofNat i)), (.int (Int32.ofNat kn))] h0 (QrmNS Z b kb cs i kn h0) := by
  have ⟨hw, hEL, O2, P5, O4, P6⟩ := hc
  refine Met.start (a0 := a0) (Ls := #[vR b, vI (Int32.ofNat i), vI (Int32.ofNat kn)]) pn21 hEL O0 (fun m => by first | (simp [entryFrame, mkF, argsToLocals, Value.category]; done) | rfl) ?_
  intro p e s m below meth cc T0 vm0 X0 sf0_ hby hml hret hnm
  have hx := X0.hx
  have D : ∀ {n r}, decode jdk_43_method_47_code n = r → decode cc.code n = r := fun d => hb hby d
  have zz := X0.ge
  have A0 := X0.at
  have l1 := ltA Pr0.lt
  refine Gets.via (fun _ k => (XS.iloadN A0 hx rfl (D d21_0) rfl k)) ?_
  by_cases b1 : (Int32.ofNat kn) = (0 : Int32)
  · refine Gets.via (fun _ k => (XS.ifNo A0 hx rfl (D d21_1) rfl (Jvm.Free.XT.i0_ne_f b1) k)) ?_
    refine X0.ldcC (w122 hw) (wSt hw) (by decide) (vs := []) (z := (0 : Int32)) ⟨by decide, by decide⟩ (by decide) (by decide) rfl (D d21_4) (n := 1) (by decide) (by decide) (by decide) (by decide) fun T2 h2 vm2 a2 yb2 k2 X2 C2 E2 Z2 Fc2 Fv2 V2 q2 => ?_
    have z2 := E2.1
    have l2 := ltA Z2.lt
    have lb2 := ltA V2.lt
    exact X2.retA hret rfl rfl rfl (D d21_6) (by decide) (by decide) (fun vmE CE => ⟨a2, yb2, k2, (0 : Int32), [], rfl, ((Keep.refl h0 []).ext E2), Z2, Fc2, Fv2, V2, b1.symm, (by rw [of_inj (a := kn) (b := 0) (by omega) (by omega) b1]; simp)⟩)
  · refine Gets.via (fun _ k => (XS.ifYes A0 hx rfl (pc0 := 1) (pc' := 7) rfl (D d21_1) rfl (Jvm.Free.XT.i0_ne_t b1) (by decide) (by decide) k)) ?_
    refine X0.new (w97 hw) (w10 hw) (w11 hw) rfl (D d21_7) (by decide) (by decide) fun T3 h3 a3 X3 C3 E3 g3 Z3 S3 D3 => ?_
    have z3 := E3.1
    have l3 := ltA Z3.lt
    show Gets p e below _ (T3.setTop (mkF m 10 #[vR b, vI (Int32.ofNat i), vI (Int32.ofNat kn)] [(.ref a3)]))
    have A4 := X3.at
    refine Gets.via (fun _ k => (XS.dup A4 hx rfl (D d21_10) rfl rfl (XS.aloadN A4 hx rfl (D d21_11) rfl rfl (XS.iloadN A4 hx rfl (D d21_12) rfl (XS.iloadN A4 hx rfl (D d21_13) rfl (XS.iloadN A4 hx rfl (D d21_14) rfl (XS.iadd A4 hx rfl (D d21_15) rfl k))))))) ?_
    show Gets p e below _ (T3.setTop (mkF m 16 #[vR b, vI (Int32.ofNat i), vI (Int32.ofNat kn)] [(.int ((Int32.ofNat i) + (Int32.ofNat kn))), (.int (Int32.ofNat i)), (.ref b), (.ref a3), (.ref a3)]))
    rw [of_add]
    have f5 := Pr0.ext E3
    refine X3.callS (W := 2) (w98 hw) (w99 hw) (w100 hw) (w101 hw) (by decide) (X3.payM (sf := []) (rmCr hc b kb ((cs).length) ((cs.map fun c => c.toInt8.toInt32).map Value.int) i (i + kn) h3 X3.old f5 (leA (by omega)) (by omega) Pr2 (leA (by omega)) (by omega)) sf0 (w101 hw) (w100 hw) (by decide) (by decide)) rfl (sz hml rfl) (argsL := [(.ref b), (.int (Int32.ofNat i)), (.int (Int32.ofNat (i + kn)))]) (rest := [(.ref a3), (.ref a3)]) (lenOf pd4 rfl) rfl rfl (mroom rfl rfl) (D d21_16) (by decide) (by decide) fun T6 h6 vm6 v6 X6 C6 z6 q6 => ?_
    obtain ⟨t6, kt6, rfl, K6, g6_0, g6_1⟩ := q6
    have l7 := ltA g6_0.lt
    have A8 := X6.at
    refine Gets.via (fun _ k => (XS.iconst A8 hx rfl (D d21_19) k)) ?_
    have f9 := Z3.keep K6
    have f10 := (D3 (Or.inr (w35 hw)) (ty := .byte) (by decide) : Fld Z h3 a3 "java/lang/String" "coder" "B" (.int (0 : Int32))).keep K6 nin0
    have f11 := (D3 (Or.inr (w37 hw)) (ty := (.array .byte)) (by decide) : Fld Z h3 a3 "java/lang/String" "value" "[B" .null).keep K6 nin0
    have f12 := C6.safe (x := a3) (ltA (by omega)) S3
    refine X6.callI (y := (⟨"java/lang/String", "<init>", "([BB)V"⟩ : MethodName)) (W := 1) rfl (w116 hw) (w117 hw) (w118 hw) (by decide) (X6.payM (sf := [a3]) (rmInitBB hc a3 t6 h6 X6.old f9 f10 f11 (leA (by omega))) (sfS f12 sf0) (w118 hw) (w11 hw) (by decide) (by decide)) rfl (sz hml rfl) (a := a3) (argsL := [(.ref t6), (.int (0 : Int32))]) (rest := [(.ref a3)]) (lenOf pd5 rfl) rfl rfl (mroom rfl rfl) (D d21_20) (by decide) (by decide) fun T13 h13 vm13 v13 X13 C13 z13 q13 => ?_
    obtain ⟨rfl, K13, g13_0, g13_1, g13_2⟩ := q13
    have l14 := ltA g13_0.lt
    have f15 := g6_0.keep K13 (ninS (neA (by omega)) nin0)
    exact X13.retA hret rfl rfl rfl (D d21_23) (by decide) (by decide) (fun vmE CE => ⟨a3, t6, kt6, (Int32.ofNat ((i + kn) - i)), (slcV ((cs.map fun c => c.toInt8.toInt32).map Value.int) i ((i + kn) - i)), rfl, ((((Keep.refl h0 []).ext E3).trans K6 all0).trans K13 (allS (Or.inr (leA (by omega))) all0)), g13_0, g13_1, g13_2, f15, (by rw [Nat.add_sub_cancel_left]), (by rw [Nat.add_sub_cancel_left]; exact slc_by (by omega))⟩)
abbrev RrmSubs : Room := { frames := 4, cells := 2, slots := 12, locals := 68 }
def QrmSubs (Z : State) (x : Addr) (b : Addr) (kb : ClassId) (cs : List Int32) (i : Nat) (kn : Nat) (h0 : Heap) (v : Option Value) (vm : Vm) (h : Heap) : Prop := ∃ (a : Addr) (t : Addr) (kt : ClassId) (ds : List Int32), v = some (.ref a) ∧ Keep h0 h [] ∧ Str Z h a t kt ds ∧ ds = ((cs.drop i).take kn)
theorem rmSubs (hc : Cx Z a0 zc fm) (x : Addr) (b : Addr) (kb : ClassId) (cs : List Int32) (i : Nat) (kn : Nat) (h0 : Heap) (O0 : Old Z Z.heap.size h0) (Pr0 : Str Z h0 x b kb cs) (Pr1 : i + kn ≤ (cs).length) (Pr2 : kn ≤ 8) : Met l Z consts_1 (⟨"java/lang/String", "substring", "(II)Ljava/lang/String;"⟩ : MethodName) jdk_42_method_92_code 5 (some (.object "java/lang/String")) [] RrmSubs [] #[(.ref x), (.int (Int32.ofNat i)), (.int (Int32.ofNat (i + kn)))] h0 (QrmSubs Z x b kb cs i kn h0) := by
  have ⟨hw, hEL, O2, P5, O4, P6⟩ := hc
  refine Met.start (a0 := a0) (Ls := #[vR x, vI (Int32.ofNat i), vI (Int32.ofNat (i + kn)), .unset, .unset]) pn17 hEL O0 (fun m => by first | (simp [entryFrame, mkF, argsToLocals, Value.category]; done) | rfl) ?_
  intro p e s m below meth cc T0 vm0 X0 sf0_ hby hml hret hnm
  have hx := X0.hx
  have D : ∀ {n r}, decode jdk_42_method_92_code n = r → decode cc.code n = r := fun d => hb hby d
  have zz := X0.ge
  have A0 := X0.at
  have l1 := ltA Pr0.lt
  have l2 := ltA Pr0.lb
  have l4 := Pr0.2.2.2.2.2
  have u3 : ¬ (Int32.ofNat i) < (0 : Int32) := of_pos (by omega)
  have u4 : ¬ (Int32.ofNat (i + kn)) < (Int32.ofNat i) := of_nlt (by omega) (by omega) (by omega)
  have u5 : ¬ (Int32.ofNat (cs).length) < (Int32.ofNat (i + kn)) := of_nlt (by omega) (by omega) (by omega)
  refine Gets.via (fun _ k => (XS.aloadN A0 hx rfl (D d17_0) rfl rfl k)) ?_
  refine X0.callV (W := 0) (w82 hw) (w43 hw) (w45 hw) (w44 hw) (nfs rfl (w45 hw)) (by decide) (payLen X0 hw (w10 hw) Pr0 O2 P5 (by decide) (by decide)) Pr0.1 rfl (sz hml rfl) (argsL := []) (rest := []) (lenOf pd6 rfl) rfl rfl (mroom rfl rfl) (D d17_1) (by decide) (by decide) fun T6 h6 vm6 v6 X6 C6 z6 q6 => ?_
  obtain ⟨rfl, K6⟩ := q6
  rw [K6] at X6 C6
  have A7 := X6.at
  refine Gets.via (fun _ k => (XS.istoreN A7 hx rfl (D d17_4) rfl (l' := #[vR x, vI (Int32.ofNat i), vI (Int32.ofNat (i + kn)), vI (Int32.ofNat (cs).length), .unset]) rfl (XS.iloadN A7 hx rfl (D d17_5) rfl (XS.iloadN A7 hx rfl (D d17_6) rfl (XS.iloadN A7 hx rfl (D d17_7) rfl k))))) ?_
  refine X6.callS (W := 0) (w83 hw) (w84 hw) (w11 hw) (w85 hw) (by decide) (X6.payM (sf := []) (rm18 hc (Int32.ofNat i) (Int32.ofNat (i + kn)) (Int32.ofNat (cs).length) h0 X6.old u3 u4 u5) sf0 (w85 hw) (w11 hw) (by decide) (by decide)) rfl (sz hml rfl) (argsL := [(.int (Int32.ofNat i)), (.int (Int32.ofNat (i + kn))), (.int (Int32.ofNat (cs).length))]) (rest := []) (lenOf pd7 rfl) rfl rfl (mroom rfl rfl) (D d17_8) (by decide) (by decide) fun T8 h8 vm8 v8 X8 C8 z8 q8 => ?_
  obtain ⟨rfl, K8⟩ := q8
  rw [K8] at X8 C8
  show Gets p e below _ (T8.setTop (mkF m 11 #[vR x, vI (Int32.ofNat i), vI (Int32.ofNat (i + kn)), vI (Int32.ofNat (cs).length), .unset] []))
  have A9 := X8.at
  refine Gets.via (fun _ k => (XS.iloadN A9 hx rfl (D d17_11) rfl k)) ?_
  by_cases b12 : (Int32.ofNat i) = (0 : Int32)
  · refine Gets.via (fun _ k => (XS.ifNo A9 hx rfl (D d17_12) rfl (Jvm.Free.XT.i0_ne_f b12) k)) ?_
    refine Gets.via (fun _ k => (XS.iloadN A9 hx rfl (D d17_15) rfl (XS.iloadN A9 hx rfl (D d17_16) rfl k))) ?_
    by_cases b17 : (Int32.ofNat (i + kn)) = (Int32.ofNat (cs).length)
    · refine Gets.via (fun _ k => (XS.icmpNo A9 hx rfl (D d17_17) rfl (Jvm.Free.XT.ii_ne_f b17) k)) ?_
      refine Gets.via (fun _ k => (XS.aloadN A9 hx rfl (D d17_20) rfl rfl k)) ?_
      exact X8.retA hret rfl rfl rfl (D d17_21) (by decide) (by decide) (fun vmE CE => ⟨x, b, kb, cs, rfl, (Keep.refl h0 []), Pr0, (slc_all (of_inj (b := 0) (by omega) (by omega) b12) (of_inj (by omega) (by omega) b17))⟩)
    · refine Gets.via (fun _ k => (XS.icmpYes A9 hx rfl (pc0 := 17) (pc' := 22) rfl (D d17_17) rfl (Jvm.Free.XT.ii_ne_t b17) (by decide) (by decide) k)) ?_
      refine Gets.via (fun _ k => (XS.iloadN A9 hx rfl (D d17_22) rfl (XS.iloadN A9 hx rfl (D d17_23) rfl (XS.isub A9 hx rfl (D d17_24) rfl k)))) ?_
      show Gets p e below _ (T8.setTop (mkF m 25 #[vR x, vI (Int32.ofNat i), vI (Int32.ofNat (i + kn)), vI (Int32.ofNat (cs).length), .unset] [(.int ((Int32.ofNat (i + kn)) - (Int32.ofNat i)))]))
      rw [of_sub (by omega) (by omega), Nat.add_sub_cancel_left]
      refine Gets.via (fun _ k => (XS.istore A9 hx rfl (D d17_25) rfl (l' := #[vR x, vI (Int32.ofNat i), vI (Int32.ofNat (i + kn)), vI (Int32.ofNat (cs).length), vI (Int32.ofNat kn)]) rfl (XS.aloadN A9 hx rfl (D d17_27) rfl rfl k))) ?_
      refine X8.callV (W := 0) (w57 hw) (w58 hw) (w60 hw) (w59 hw) (nfs rfl (w60 hw)) (by decide) (X8.payM (sf := []) (rm12 hc x h0 X8.old Pr0.1 Pr0.2.1) sf0 (w61 hw) (w11 hw) (by decide) (by decide)) Pr0.1 rfl (sz hml rfl) (argsL := []) (rest := []) (lenOf pd8 rfl) rfl rfl (mroom rfl rfl) (D d17_28) (by decide) (by decide) fun T10 h10 vm10 v10 X10 C10 z10 q10 => ?_
      obtain ⟨rfl, K10⟩ := q10
      rw [K10] at X10 C10
      have A11 := X10.at
      refine Gets.via (fun _ k => (XS.ifNo A11 hx rfl (D d17_31) rfl (Jvm.Free.XT.i0_eq_f (by decide)) k)) ?_
      refine Gets.via (fun _ k => (XS.aloadN A11 hx rfl (D d17_34) rfl rfl k)) ?_
      refine X10.getF (host := "") (Or.inl (w36 hw)) Via.refl Pr0.2.2.1 rfl rfl (D d17_35) fun T12 X12 => ?_
      show Gets p e below _ (T12.setTop (mkF m 38 #[vR x, vI (Int32.ofNat i), vI (Int32.ofNat (i + kn)), vI (Int32.ofNat (cs).length), vI (Int32.ofNat kn)] [(.ref b)]))
      have A13 := X12.at
      refine Gets.via (fun _ k => (XS.iloadN A13 hx rfl (D d17_38) rfl (XS.iload A13 hx rfl (D d17_39) rfl k))) ?_
      have u41 : ¬ (i = 0 ∧ i + kn = (cs).length) := fun q => b17 (by rw [q.2])
      refine X12.callS (W := 0) (w94 hw) (w95 hw) (w64 hw) (w96 hw) (by decide) (X12.payM (sf := []) (rmNS hc b kb cs i kn h0 X12.old Pr0.2.2.2.1 Pr1 l4 Pr2 u41) sf0 (w96 hw) (w64 hw) (by decide) (by decide)) rfl (sz hml rfl) (argsL := [(.ref b), (.int (Int32.ofNat i)), (.int (Int32.ofNat kn))]) (rest := []) (lenOf pd9 rfl) rfl rfl (mroom rfl rfl) (D d17_41) (by decide) (by decide) fun T14 h14 vm14 v14 X14 C14 z14 q14 => ?_
      obtain ⟨a14, t14, kt14, zl14, ds14, rfl, K14, g14_0, g14_1, g14_2, g14_3, rfl, rfl⟩ := q14
      have l15 := ltA g14_0.lt
      have l16 := ltA g14_3.lt
      have A17 := X14.at
      refine Gets.via (fun _ k => (XS.goto A17 hx rfl (pc0 := 44) (pc' := 57) rfl (D d17_44) (by decide) (by decide) k)) ?_
      have S57 : Str Z h14 a14 t14 kt14 ((cs.drop i).take kn) := ⟨g14_0, g14_1, g14_2, (slc_len Pr1).symm ▸ g14_3, fun z hz => Pr0.2.2.2.2.1 z (List.mem_of_mem_drop (List.mem_of_mem_take hz)), by rw [slc_len Pr1]; omega⟩
      exact X14.retA hret rfl rfl rfl (D d17_57) (by decide) (by decide) (fun vmE CE => ⟨a14, t14, kt14, ((cs.drop i).take kn), rfl, ((Keep.refl h0 []).trans K14 all0), S57, rfl⟩)
  · refine Gets.via (fun _ k => (XS.ifYes A9 hx rfl (pc0 := 12) (pc' := 22) rfl (D d17_12) rfl (Jvm.Free.XT.i0_ne_t b12) (by decide) (by decide) k)) ?_
    refine Gets.via (fun _ k => (XS.iloadN A9 hx rfl (D d17_22) rfl (XS.iloadN A9 hx rfl (D d17_23) rfl (XS.isub A9 hx rfl (D d17_24) rfl k)))) ?_
    show Gets p e below _ (T8.setTop (mkF m 25 #[vR x, vI (Int32.ofNat i), vI (Int32.ofNat (i + kn)), vI (Int32.ofNat (cs).length), .unset] [(.int ((Int32.ofNat (i + kn)) - (Int32.ofNat i)))]))
    rw [of_sub (by omega) (by omega), Nat.add_sub_cancel_left]
    refine Gets.via (fun _ k => (XS.istore A9 hx rfl (D d17_25) rfl (l' := #[vR x, vI (Int32.ofNat i), vI (Int32.ofNat (i + kn)), vI (Int32.ofNat (cs).length), vI (Int32.ofNat kn)]) rfl (XS.aloadN A9 hx rfl (D d17_27) rfl rfl k))) ?_
    refine X8.callV (W := 0) (w57 hw) (w58 hw) (w60 hw) (w59 hw) (nfs rfl (w60 hw)) (by decide) (X8.payM (sf := []) (rm12 hc x h0 X8.old Pr0.1 Pr0.2.1) sf0 (w61 hw) (w11 hw) (by decide) (by decide)) Pr0.1 rfl (sz hml rfl) (argsL := []) (rest := []) (lenOf pd8 rfl) rfl rfl (mroom rfl rfl) (D d17_28) (by decide) (by decide) fun T18 h18 vm18 v18 X18 C18 z18 q18 => ?_
    obtain ⟨rfl, K18⟩ := q18
    rw [K18] at X18 C18
    have A19 := X18.at
    refine Gets.via (fun _ k => (XS.ifNo A19 hx rfl (D d17_31) rfl (Jvm.Free.XT.i0_eq_f (by decide)) k)) ?_
    refine Gets.via (fun _ k => (XS.aloadN A19 hx rfl (D d17_34) rfl rfl k)) ?_
    refine X18.getF (host := "") (Or.inl (w36 hw)) Via.refl Pr0.2.2.1 rfl rfl (D d17_35) fun T20 X20 => ?_
    show Gets p e below _ (T20.setTop (mkF m 38 #[vR x, vI (Int32.ofNat i), vI (Int32.ofNat (i + kn)), vI (Int32.ofNat (cs).length), vI (Int32.ofNat kn)] [(.ref b)]))
    have A21 := X20.at
    refine Gets.via (fun _ k => (XS.iloadN A21 hx rfl (D d17_38) rfl (XS.iload A21 hx rfl (D d17_39) rfl k))) ?_
    have u41 : ¬ (i = 0 ∧ i + kn = (cs).length) := fun q => b12 (by rw [q.1]; rfl)
    refine X20.callS (W := 0) (w94 hw) (w95 hw) (w64 hw) (w96 hw) (by decide) (X20.payM (sf := []) (rmNS hc b kb cs i kn h0 X20.old Pr0.2.2.2.1 Pr1 l4 Pr2 u41) sf0 (w96 hw) (w64 hw) (by decide) (by decide)) rfl (sz hml rfl) (argsL := [(.ref b), (.int (Int32.ofNat i)), (.int (Int32.ofNat kn))]) (rest := []) (lenOf pd9 rfl) rfl rfl (mroom rfl rfl) (D d17_41) (by decide) (by decide) fun T22 h22 vm22 v22 X22 C22 z22 q22 => ?_
    obtain ⟨a22, t22, kt22, zl22, ds22, rfl, K22, g22_0, g22_1, g22_2, g22_3, rfl, rfl⟩ := q22
    have l23 := ltA g22_0.lt
    have l24 := ltA g22_3.lt
    have A25 := X22.at
    refine Gets.via (fun _ k => (XS.goto A25 hx rfl (pc0 := 44) (pc' := 57) rfl (D d17_44) (by decide) (by decide) k)) ?_
    have S57 : Str Z h22 a22 t22 kt22 ((cs.drop i).take kn) := ⟨g22_0, g22_1, g22_2, (slc_len Pr1).symm ▸ g22_3, fun z hz => Pr0.2.2.2.2.1 z (List.mem_of_mem_drop (List.mem_of_mem_take hz)), by rw [slc_len Pr1]; omega⟩
    exact X22.retA hret rfl rfl rfl (D d17_57) (by decide) (by decide) (fun vmE CE => ⟨a22, t22, kt22, ((cs.drop i).take kn), rfl, ((Keep.refl h0 []).trans K22 all0), S57, rfl⟩)
abbrev RrmCh : Room := { frames := 0, cells := 0, slots := 0, locals := 0 }
def QrmCh (Z : State) (u : Int32) (h0 : Heap) (v : Option Value) (vm : Vm) (h : Heap) : Prop := ∃ (r : Int32), v = some (.int r) ∧ h = h0 ∧ ¬ r < 0 ∧ ¬ (255 : Int32) < r
theorem rmCh (hc : Cx Z a0 zc fm) (u : Int32) (h0 : Heap) (O0 : Old Z Z.heap.size h0)  : Met l Z consts_1 (⟨"org/holdfast/model/ContentWithoutSpacePinLaw", "ch", "(I)C"⟩ : MethodName) method_4_code 2 (some .char) [] RrmCh [] #[(.int u)] h0 (QrmCh Z u h0) := by
  have ⟨hw, hEL, O2, P5, O4, P6⟩ := hc
  refine Met.start (a0 := a0) (Ls := #[vI u, .unset]) pn0 hEL O0 (fun m => by first | (simp [entryFrame, mkF, argsToLocals, Value.category]; done) | rfl) ?_
  intro p e s m below meth cc T0 vm0 X0 sf0_ hby hml hret hnm
  have hx := X0.hx
  have D : ∀ {n r}, decode method_4_code n = r → decode cc.code n = r := fun d => hb hby d
  have zz := X0.ge
  have A0 := X0.at
  refine Gets.via (fun _ k => (XS.iloadN A0 hx rfl (D d0_0) rfl (XS.sipush A0 hx rfl (D d0_1) (XS.iand A0 hx rfl (D d0_4) rfl k)))) ?_
  by_cases b5 : (u &&& (256 : Int32)) = (0 : Int32)
  · refine Gets.via (fun _ k => (XS.ifYes A0 hx rfl (pc0 := 5) (pc' := 41) rfl (D d0_5) rfl (Jvm.Free.XT.i0_eq_t b5) (by decide) (by decide) k)) ?_
    refine Gets.via (fun _ k => (XS.iloadN A0 hx rfl (D d0_41) rfl (XS.sipush A0 hx rfl (D d0_42) (XS.iand A0 hx rfl (D d0_45) rfl (i2cV A0 hx rfl (D d0_46) rfl (v := (u &&& (255 : Int32))) (i2c_m255 _) k))))) ?_
    exact X0.retI hret (nar_small (m255 _)) (by simp) (D d0_47) (by decide) (by decide) (fun vmE CE => ⟨(u &&& (255 : Int32)), rfl, rfl, (m255 _)⟩)
  · refine Gets.via (fun _ k => (XS.ifNo A0 hx rfl (D d0_5) rfl (Jvm.Free.XT.i0_eq_f b5) k)) ?_
    show Gets p e below _ (T0.setTop (mkF m 8 #[vI u, .unset] []))
    refine Gets.via (fun _ k => (XS.iloadN A0 hx rfl (D d0_8) rfl (XS.bipush A0 hx rfl (D d0_9) (XS.iushr A0 hx rfl (D d0_11) rfl (XS.iconst A0 hx rfl (D d0_12) (XS.iand A0 hx rfl (D d0_13) rfl (XS.istoreN A0 hx rfl (D d0_14) rfl (l' := #[vI u, vI ((Jvm.Free.XT.ushr u (9 : Int32)) &&& (3 : Int32))]) rfl k))))))) ?_
    refine Gets.via (fun _ k => (XS.iloadN A0 hx rfl (D d0_15) rfl k)) ?_
    by_cases b16 : ((Jvm.Free.XT.ushr u (9 : Int32)) &&& (3 : Int32)) = (0 : Int32)
    · refine Gets.via (fun _ k => (XS.ifNo A0 hx rfl (D d0_16) rfl (Jvm.Free.XT.i0_ne_f b16) k)) ?_
      refine Gets.via (fun _ k => (XS.bipush A0 hx rfl (D d0_19) k)) ?_
      exact X0.retI hret (by decide) (by simp) (D d0_21) (by decide) (by decide) (fun vmE CE => ⟨(32 : Int32), rfl, rfl, ⟨by decide, by decide⟩⟩)
    · refine Gets.via (fun _ k => (XS.ifYes A0 hx rfl (pc0 := 16) (pc' := 22) rfl (D d0_16) rfl (Jvm.Free.XT.i0_ne_t b16) (by decide) (by decide) k)) ?_
      refine Gets.via (fun _ k => (XS.iloadN A0 hx rfl (D d0_22) rfl (XS.iconst A0 hx rfl (D d0_23) k))) ?_
      show Gets p e below _ (T0.setTop (mkF m 24 #[vI u, vI ((Jvm.Free.XT.ushr u (9 : Int32)) &&& (3 : Int32))] [(.int (1 : Int32)), (.int ((Jvm.Free.XT.ushr u (9 : Int32)) &&& (3 : Int32)))]))
      by_cases b24 : ((Jvm.Free.XT.ushr u (9 : Int32)) &&& (3 : Int32)) = (1 : Int32)
      · refine Gets.via (fun _ k => (XS.icmpNo A0 hx rfl (D d0_24) rfl (Jvm.Free.XT.ii_ne_f b24) k)) ?_
        refine Gets.via (fun _ k => (XS.bipush A0 hx rfl (D d0_27) k)) ?_
        exact X0.retI hret (by decide) (by simp) (D d0_29) (by decide) (by decide) (fun vmE CE => ⟨(9 : Int32), rfl, rfl, ⟨by decide, by decide⟩⟩)
      · refine Gets.via (fun _ k => (XS.icmpYes A0 hx rfl (pc0 := 24) (pc' := 30) rfl (D d0_24) rfl (Jvm.Free.XT.ii_ne_t b24) (by decide) (by decide) k)) ?_
        refine Gets.via (fun _ k => (XS.iloadN A0 hx rfl (D d0_30) rfl (XS.iconst A0 hx rfl (D d0_31) k))) ?_
        by_cases b32 : ((Jvm.Free.XT.ushr u (9 : Int32)) &&& (3 : Int32)) = (2 : Int32)
        · refine Gets.via (fun _ k => (XS.icmpNo A0 hx rfl (D d0_32) rfl (Jvm.Free.XT.ii_ne_f b32) k)) ?_
          refine Gets.via (fun _ k => (XS.bipush A0 hx rfl (D d0_35) k)) ?_
          exact X0.retI hret (by decide) (by simp) (D d0_37) (by decide) (by decide) (fun vmE CE => ⟨(13 : Int32), rfl, rfl, ⟨by decide, by decide⟩⟩)
        · refine Gets.via (fun _ k => (XS.icmpYes A0 hx rfl (pc0 := 32) (pc' := 38) rfl (D d0_32) rfl (Jvm.Free.XT.ii_ne_t b32) (by decide) (by decide) k)) ?_
          refine Gets.via (fun _ k => (XS.bipush A0 hx rfl (D d0_38) k)) ?_
          exact X0.retI hret (by decide) (by simp) (D d0_40) (by decide) (by decide) (fun vmE CE => ⟨(10 : Int32), rfl, rfl, ⟨by decide, by decide⟩⟩)
abbrev RrmSp : Room := { frames := 0, cells := 0, slots := 0, locals := 0 }
def QrmSp (Z : State) (u : Int32) (h0 : Heap) (v : Option Value) (vm : Vm) (h : Heap) : Prop := ∃ (r : Int32), v = some (.int r) ∧ h = h0 ∧ r = if sp u = true then 1 else 0
theorem rmSp (hc : Cx Z a0 zc fm) (u : Int32) (h0 : Heap) (O0 : Old Z Z.heap.size h0)  : Met l Z consts_1 (⟨"org/holdfast/model/ContentWithoutSpacePinLaw", "sp", "(C)Z"⟩ : MethodName) method_3_code 1 (some .boolean) [] RrmSp [] #[(.int u)] h0 (QrmSp Z u h0) := by
  have ⟨hw, hEL, O2, P5, O4, P6⟩ := hc
  refine Met.start (a0 := a0) (Ls := #[vI u]) pn20 hEL O0 (fun m => by first | (simp [entryFrame, mkF, argsToLocals, Value.category]; done) | rfl) ?_
  intro p e s m below meth cc T0 vm0 X0 sf0_ hby hml hret hnm
  have hx := X0.hx
  have D : ∀ {n r}, decode method_3_code n = r → decode cc.code n = r := fun d => hb hby d
  have zz := X0.ge
  have A0 := X0.at
  refine Gets.via (fun _ k => (XS.iloadN A0 hx rfl (D d20_0) rfl (XS.bipush A0 hx rfl (D d20_1) k))) ?_
  by_cases b3 : u = (32 : Int32)
  · refine Gets.via (fun _ k => (XS.icmpYes A0 hx rfl (pc0 := 3) (pc' := 24) rfl (D d20_3) rfl (Jvm.Free.XT.ii_eq_t b3) (by decide) (by decide) k)) ?_
    refine Gets.via (fun _ k => (XS.iconst A0 hx rfl (D d20_24) (XS.goto A0 hx rfl (pc0 := 25) (pc' := 29) rfl (D d20_25) (by decide) (by decide) k))) ?_
    exact X0.retI hret (by decide) (by simp) (D d20_29) (by decide) (by decide) (fun vmE CE => ⟨(1 : Int32), rfl, rfl, (by simp [sp, b3])⟩)
  · refine Gets.via (fun _ k => (XS.icmpNo A0 hx rfl (D d20_3) rfl (Jvm.Free.XT.ii_eq_f b3) k)) ?_
    refine Gets.via (fun _ k => (XS.iloadN A0 hx rfl (D d20_6) rfl (XS.bipush A0 hx rfl (D d20_7) k))) ?_
    by_cases b9 : u = (9 : Int32)
    · refine Gets.via (fun _ k => (XS.icmpYes A0 hx rfl (pc0 := 9) (pc' := 24) rfl (D d20_9) rfl (Jvm.Free.XT.ii_eq_t b9) (by decide) (by decide) k)) ?_
      show Gets p e below _ (T0.setTop (mkF m 24 #[vI u] []))
      refine Gets.via (fun _ k => (XS.iconst A0 hx rfl (D d20_24) (XS.goto A0 hx rfl (pc0 := 25) (pc' := 29) rfl (D d20_25) (by decide) (by decide) k))) ?_
      exact X0.retI hret (by decide) (by simp) (D d20_29) (by decide) (by decide) (fun vmE CE => ⟨(1 : Int32), rfl, rfl, (by simp [sp, b3, b9])⟩)
    · refine Gets.via (fun _ k => (XS.icmpNo A0 hx rfl (D d20_9) rfl (Jvm.Free.XT.ii_eq_f b9) k)) ?_
      refine Gets.via (fun _ k => (XS.iloadN A0 hx rfl (D d20_12) rfl (XS.bipush A0 hx rfl (D d20_13) k))) ?_
      by_cases b15 : u = (13 : Int32)
      · refine Gets.via (fun _ k => (XS.icmpYes A0 hx rfl (pc0 := 15) (pc' := 24) rfl (D d20_15) rfl (Jvm.Free.XT.ii_eq_t b15) (by decide) (by decide) k)) ?_
        refine Gets.via (fun _ k => (XS.iconst A0 hx rfl (D d20_24) (XS.goto A0 hx rfl (pc0 := 25) (pc' := 29) rfl (D d20_25) (by decide) (by decide) k))) ?_
        exact X0.retI hret (by decide) (by simp) (D d20_29) (by decide) (by decide) (fun vmE CE => ⟨(1 : Int32), rfl, rfl, (by simp [sp, b3, b9, b15])⟩)
      · refine Gets.via (fun _ k => (XS.icmpNo A0 hx rfl (D d20_15) rfl (Jvm.Free.XT.ii_eq_f b15) k)) ?_
        refine Gets.via (fun _ k => (XS.iloadN A0 hx rfl (D d20_18) rfl (XS.bipush A0 hx rfl (D d20_19) k))) ?_
        by_cases b21 : u = (10 : Int32)
        · refine Gets.via (fun _ k => (XS.icmpNo A0 hx rfl (D d20_21) rfl (Jvm.Free.XT.ii_ne_f b21) k)) ?_
          show Gets p e below _ (T0.setTop (mkF m 24 #[vI u] []))
          refine Gets.via (fun _ k => (XS.iconst A0 hx rfl (D d20_24) (XS.goto A0 hx rfl (pc0 := 25) (pc' := 29) rfl (D d20_25) (by decide) (by decide) k))) ?_
          exact X0.retI hret (by decide) (by simp) (D d20_29) (by decide) (by decide) (fun vmE CE => ⟨(1 : Int32), rfl, rfl, (by simp [sp, b3, b9, b15, b21])⟩)
        · refine Gets.via (fun _ k => (XS.icmpYes A0 hx rfl (pc0 := 21) (pc' := 28) rfl (D d20_21) rfl (Jvm.Free.XT.ii_ne_t b21) (by decide) (by decide) k)) ?_
          refine Gets.via (fun _ k => (XS.iconst A0 hx rfl (D d20_28) k)) ?_
          exact X0.retI hret (by decide) (by simp) (D d20_29) (by decide) (by decide) (fun vmE CE => ⟨(0 : Int32), rfl, rfl, (by simp [sp, b3, b9, b15, b21])⟩)
abbrev RrmIsSp : Room := { frames := 0, cells := 0, slots := 0, locals := 0 }
def QrmIsSp (Z : State) (u : Int32) (h0 : Heap) (v : Option Value) (vm : Vm) (h : Heap) : Prop := ∃ (r : Int32), v = some (.int r) ∧ h = h0 ∧ r = if sp u = true then 1 else 0
theorem rmIsSp (hc : Cx Z a0 zc fm) (u : Int32) (h0 : Heap) (O0 : Old Z Z.heap.size h0)  : Met l Z consts_1 (⟨"org/holdfast/model/Content", "isSpace", "(C)Z"⟩ : MethodName) prog_17_method_6_code 1 (some .boolean) [] RrmIsSp [] #[(.int u)] h0 (QrmIsSp Z u h0) := by
  have ⟨hw, hEL, O2, P5, O4, P6⟩ := hc
  refine Met.start (a0 := a0) (Ls := #[vI u]) pn16 hEL O0 (fun m => by first | (simp [entryFrame, mkF, argsToLocals, Value.category]; done) | rfl) ?_
  intro p e s m below meth cc T0 vm0 X0 sf0_ hby hml hret hnm
  have hx := X0.hx
  have D : ∀ {n r}, decode prog_17_method_6_code n = r → decode cc.code n = r := fun d => hb hby d
  have zz := X0.ge
  have A0 := X0.at
  refine Gets.via (fun _ k => (XS.iloadN A0 hx rfl (D d16_0) rfl (XS.bipush A0 hx rfl (D d16_1) k))) ?_
  by_cases b3 : u = (32 : Int32)
  · refine Gets.via (fun _ k => (XS.icmpYes A0 hx rfl (pc0 := 3) (pc' := 24) rfl (D d16_3) rfl (Jvm.Free.XT.ii_eq_t b3) (by decide) (by decide) k)) ?_
    refine Gets.via (fun _ k => (XS.iconst A0 hx rfl (D d16_24) (XS.goto A0 hx rfl (pc0 := 25) (pc' := 29) rfl (D d16_25) (by decide) (by decide) k))) ?_
    exact X0.retI hret (by decide) (by simp) (D d16_29) (by decide) (by decide) (fun vmE CE => ⟨(1 : Int32), rfl, rfl, (by simp [sp, b3])⟩)
  · refine Gets.via (fun _ k => (XS.icmpNo A0 hx rfl (D d16_3) rfl (Jvm.Free.XT.ii_eq_f b3) k)) ?_
    refine Gets.via (fun _ k => (XS.iloadN A0 hx rfl (D d16_6) rfl (XS.bipush A0 hx rfl (D d16_7) k))) ?_
    by_cases b9 : u = (9 : Int32)
    · refine Gets.via (fun _ k => (XS.icmpYes A0 hx rfl (pc0 := 9) (pc' := 24) rfl (D d16_9) rfl (Jvm.Free.XT.ii_eq_t b9) (by decide) (by decide) k)) ?_
      show Gets p e below _ (T0.setTop (mkF m 24 #[vI u] []))
      refine Gets.via (fun _ k => (XS.iconst A0 hx rfl (D d16_24) (XS.goto A0 hx rfl (pc0 := 25) (pc' := 29) rfl (D d16_25) (by decide) (by decide) k))) ?_
      exact X0.retI hret (by decide) (by simp) (D d16_29) (by decide) (by decide) (fun vmE CE => ⟨(1 : Int32), rfl, rfl, (by simp [sp, b3, b9])⟩)
    · refine Gets.via (fun _ k => (XS.icmpNo A0 hx rfl (D d16_9) rfl (Jvm.Free.XT.ii_eq_f b9) k)) ?_
      refine Gets.via (fun _ k => (XS.iloadN A0 hx rfl (D d16_12) rfl (XS.bipush A0 hx rfl (D d16_13) k))) ?_
      by_cases b15 : u = (13 : Int32)
      · refine Gets.via (fun _ k => (XS.icmpYes A0 hx rfl (pc0 := 15) (pc' := 24) rfl (D d16_15) rfl (Jvm.Free.XT.ii_eq_t b15) (by decide) (by decide) k)) ?_
        refine Gets.via (fun _ k => (XS.iconst A0 hx rfl (D d16_24) (XS.goto A0 hx rfl (pc0 := 25) (pc' := 29) rfl (D d16_25) (by decide) (by decide) k))) ?_
        exact X0.retI hret (by decide) (by simp) (D d16_29) (by decide) (by decide) (fun vmE CE => ⟨(1 : Int32), rfl, rfl, (by simp [sp, b3, b9, b15])⟩)
      · refine Gets.via (fun _ k => (XS.icmpNo A0 hx rfl (D d16_15) rfl (Jvm.Free.XT.ii_eq_f b15) k)) ?_
        refine Gets.via (fun _ k => (XS.iloadN A0 hx rfl (D d16_18) rfl (XS.bipush A0 hx rfl (D d16_19) k))) ?_
        by_cases b21 : u = (10 : Int32)
        · refine Gets.via (fun _ k => (XS.icmpNo A0 hx rfl (D d16_21) rfl (Jvm.Free.XT.ii_ne_f b21) k)) ?_
          show Gets p e below _ (T0.setTop (mkF m 24 #[vI u] []))
          refine Gets.via (fun _ k => (XS.iconst A0 hx rfl (D d16_24) (XS.goto A0 hx rfl (pc0 := 25) (pc' := 29) rfl (D d16_25) (by decide) (by decide) k))) ?_
          exact X0.retI hret (by decide) (by simp) (D d16_29) (by decide) (by decide) (fun vmE CE => ⟨(1 : Int32), rfl, rfl, (by simp [sp, b3, b9, b15, b21])⟩)
        · refine Gets.via (fun _ k => (XS.icmpYes A0 hx rfl (pc0 := 21) (pc' := 28) rfl (D d16_21) rfl (Jvm.Free.XT.ii_ne_t b21) (by decide) (by decide) k)) ?_
          refine Gets.via (fun _ k => (XS.iconst A0 hx rfl (D d16_28) k)) ?_
          exact X0.retI hret (by decide) (by simp) (D d16_29) (by decide) (by decide) (fun vmE CE => ⟨(0 : Int32), rfl, rfl, (by simp [sp, b3, b9, b15, b21])⟩)
abbrev RrmPre0 : Room := { frames := 3, cells := 6, slots := 14, locals := 43 }
def QrmPre0 (Z : State) (y : Addr) (n : Int32) (ky : ClassId) (c0 : Int32) (c1 : Int32) (c2 : Int32) (c3 : Int32) (c4 : Int32) (h0 : Heap) (v : Option Value) (vm : Vm) (h : Heap) : Prop := ∃ (a : Addr) (b : Addr) (kb : ClassId), v = some (.ref a) ∧ Keep h0 h [] ∧ Str Z h a b kb []
theorem rmPre0 (hc : Cx Z a0 zc fm) (y : Addr) (n : Int32) (ky : ClassId) (c0 : Int32) (c1 : Int32) (c2 : Int32) (c3 : Int32) (c4 : Int32) (h0 : Heap) (O0 : Old Z Z.heap.size h0) (Pr0 : n = (0 : Int32)) (Pr1 : Arv Z h0 y ky .char (5 : Int32) [(.int c0), (.int c1), (.int c2), (.int c3), (.int c4)] (.int (0 : Int32))) : Met l Z consts_1 (⟨"org/holdfast/model/ContentWithoutSpacePinLaw", "prefix", "([CI)Ljava/lang/String;"⟩ : MethodName) method_5_code 2 (some (.object "java/lang/String")) [] RrmPre0 [] #[(.ref y), (.int n)] h0 (QrmPre0 Z y n ky c0 c1 c2 c3 c4 h0) := by
  have ⟨hw, hEL, O2, P5, O4, P6⟩ := hc
  refine Met.start (a0 := a0) (Ls := #[vR y, vI n]) pn1 hEL O0 (fun m => by first | (simp [entryFrame, mkF, argsToLocals, Value.category]; done) | rfl) ?_
  intro p e s m below meth cc T0 vm0 X0 sf0_ hby hml hret hnm
  have hx := X0.hx
  have D : ∀ {n r}, decode method_5_code n = r → decode cc.code n = r := fun d => hb hby d
  have zz := X0.ge
  have A0 := X0.at
  have l1 := ltA Pr1.lt
  subst Pr0
  refine Gets.via (fun _ k => (XS.iloadN A0 hx rfl (D d1_0) rfl (XS.ifNo A0 hx rfl (D d1_1) rfl (Jvm.Free.XT.i0_ne_f (by decide)) k))) ?_
  refine X0.new (w9 hw) (w10 hw) (w11 hw) rfl (D d1_4) (by decide) (by decide) fun T2 h2 a2 X2 C2 E2 g2 Z2 S2 D2 => ?_
  have z2 := E2.1
  have l2 := ltA Z2.lt
  have A3 := X2.at
  refine Gets.via (fun _ k => (XS.dup A3 hx rfl (D d1_7) rfl rfl (XS.iconst A3 hx rfl (D d1_8) k))) ?_
  refine X2.newA (aty := .char) (w0 hw) rfl (D d1_9) rfl (by decide) (cap := 0) (by decide) (by decide) (by decide) (by decide) fun T4 h4 a4 k4 X4 C4 E4 g4 S4 V4 => ?_
  have z4 := E4.1
  have l4 := ltA V4.lt
  have V4_ : Arv Z h4 a4 k4 .char (0 : Int32) [] (.int (0 : Int32)) := padN V4 0
  show Gets p e below _ (T4.setTop (mkF m 11 #[vR y, vI (0 : Int32)] [(.ref a4), (.ref a2), (.ref a2)]))
  have f5 := Z2.ext E4
  have f6 := (D2 (Or.inr (w35 hw)) (ty := .byte) (by decide) : Fld Z h2 a2 "java/lang/String" "coder" "B" (.int (0 : Int32))).ext E4
  have f7 := (D2 (Or.inr (w37 hw)) (ty := (.array .byte)) (by decide) : Fld Z h2 a2 "java/lang/String" "value" "[B" .null).ext E4
  have f8 := C4.safe (x := a2) (ltA (by omega)) S2
  refine X4.callI (y := (⟨"java/lang/String", "<init>", "([C)V"⟩ : MethodName)) (W := 1) rfl (w12 hw) (w13 hw) (w14 hw) (by decide) (X4.payM (sf := [a2]) (rmE1 hc a2 a4 k4 h4 X4.old f5 f6 f7 (leA (by omega)) V4_) (sfS f8 sf0) (w14 hw) (w11 hw) (by decide) (by decide)) rfl (sz hml rfl) (a := a2) (argsL := [(.ref a4)]) (rest := [(.ref a2)]) (lenOf pd10 rfl) rfl rfl (mroom rfl rfl) (D d1_11) (by decide) (by decide) fun T9 h9 vm9 v9 X9 C9 z9 q9 => ?_
  obtain ⟨t9, kb9, rfl, K9, g9_0⟩ := q9
  have l10 := ltA g9_0.lt
  have l11 := ltA g9_0.lb
  exact X9.retA hret rfl rfl rfl (D d1_14) (by decide) (by decide) (fun vmE CE => ⟨a2, t9, kb9, rfl, ((((Keep.refl h0 []).ext E2).ext E4).trans K9 (allS (Or.inr (leA (by omega))) all0)), g9_0⟩)
abbrev RrmPre1 : Room := { frames := 4, cells := 3, slots := 6, locals := 66 }
def QrmPre1 (Z : State) (y : Addr) (n : Int32) (ky : ClassId) (c0 : Int32) (c1 : Int32) (c2 : Int32) (c3 : Int32) (c4 : Int32) (h0 : Heap) (v : Option Value) (vm : Vm) (h : Heap) : Prop := ∃ (a : Addr) (b : Addr) (kb : ClassId), v = some (.ref a) ∧ Keep h0 h [] ∧ Str Z h a b kb [c0]
theorem rmPre1 (hc : Cx Z a0 zc fm) (y : Addr) (n : Int32) (ky : ClassId) (c0 : Int32) (c1 : Int32) (c2 : Int32) (c3 : Int32) (c4 : Int32) (h0 : Heap) (O0 : Old Z Z.heap.size h0) (Pr0 : n = (1 : Int32)) (Pr1 : Arv Z h0 y ky .char (5 : Int32) [(.int c0), (.int c1), (.int c2), (.int c3), (.int c4)] (.int (0 : Int32))) (Pr2 : ¬ c0 < 0 ∧ ¬ (255 : Int32) < c0) : Met l Z consts_1 (⟨"org/holdfast/model/ContentWithoutSpacePinLaw", "prefix", "([CI)Ljava/lang/String;"⟩ : MethodName) method_5_code 2 (some (.object "java/lang/String")) [] RrmPre1 [] #[(.ref y), (.int n)] h0 (QrmPre1 Z y n ky c0 c1 c2 c3 c4 h0) := by
  have ⟨hw, hEL, O2, P5, O4, P6⟩ := hc
  refine Met.start (a0 := a0) (Ls := #[vR y, vI n]) pn1 hEL O0 (fun m => by first | (simp [entryFrame, mkF, argsToLocals, Value.category]; done) | rfl) ?_
  intro p e s m below meth cc T0 vm0 X0 sf0_ hby hml hret hnm
  have hx := X0.hx
  have D : ∀ {n r}, decode method_5_code n = r → decode cc.code n = r := fun d => hb hby d
  have zz := X0.ge
  have A0 := X0.at
  have l1 := ltA Pr1.lt
  subst Pr0
  refine Gets.via (fun _ k => (XS.iloadN A0 hx rfl (D d1_0) rfl (XS.ifYes A0 hx rfl (pc0 := 1) (pc' := 15) rfl (D d1_1) rfl (Jvm.Free.XT.i0_ne_t (by decide)) (by decide) (by decide) k))) ?_
  refine Gets.via (fun _ k => (XS.iloadN A0 hx rfl (D d1_15) rfl (XS.iconst A0 hx rfl (D d1_16) (XS.icmpNo A0 hx rfl (D d1_17) rfl (Jvm.Free.XT.ii_ne_f (by decide)) k)))) ?_
  refine X0.new (w9 hw) (w10 hw) (w11 hw) rfl (D d1_20) (by decide) (by decide) fun T2 h2 a2 X2 C2 E2 g2 Z2 S2 D2 => ?_
  have z2 := E2.1
  have l2 := ltA Z2.lt
  have A3 := X2.at
  refine Gets.via (fun _ k => (XS.dup A3 hx rfl (D d1_23) rfl rfl (XS.iconst A3 hx rfl (D d1_24) k))) ?_
  show Gets p e below _ (T2.setTop (mkF m 25 #[vR y, vI (1 : Int32)] [(.int (1 : Int32)), (.ref a2), (.ref a2)]))
  refine X2.newA (aty := .char) (w0 hw) rfl (D d1_25) rfl (by decide) (cap := 1) (by decide) (by decide) (by decide) (by decide) fun T4 h4 a4 k4 X4 C4 E4 g4 S4 V4 => ?_
  have z4 := E4.1
  have l4 := ltA V4.lt
  have V4_ : Arv Z h4 a4 k4 .char (1 : Int32) [(.int (0 : Int32))] (.int (0 : Int32)) := padN V4 1
  have A5 := X4.at
  refine Gets.via (fun _ k => (XS.dup A5 hx rfl (D d1_27) rfl rfl (XS.iconst A5 hx rfl (D d1_28) (XS.aloadN A5 hx rfl (D d1_29) rfl rfl (XS.iconst A5 hx rfl (D d1_30) k))))) ?_
  have f6 := Pr1.ext E2
  have f7 := f6.ext E4
  refine X4.ldC f7 (i := 0) (by decide) (by decide) (by decide) rfl rfl rfl (D d1_31) ?_
  refine X4.stC V4_ (i := 0) (by decide) (by decide) (Nat.le_of_ble_eq_true rfl) (by decide) (v := c0) (i2c_small Pr2) (leA (by omega)) rfl rfl (D d1_32) fun T8 h8 X8 C8 K8 V8 => ?_
  have z8 := K8.1
  have V8_ : Arv Z h8 a4 k4 .char (1 : Int32) [(.int c0)] (.int (0 : Int32)) := V8
  show Gets p e below _ (T8.setTop (mkF m 33 #[vR y, vI (1 : Int32)] [(.ref a4), (.ref a2), (.ref a2)]))
  have f9 := Z2.ext E4
  have f10 := f9.keep K8
  have f11 := (D2 (Or.inr (w37 hw)) (ty := (.array .byte)) (by decide) : Fld Z h2 a2 "java/lang/String" "value" "[B" .null).ext E4
  have f12 := f11.keep K8 (ninS (neA (by omega)) nin0)
  have f13 := (D2 (Or.inr (w35 hw)) (ty := .byte) (by decide) : Fld Z h2 a2 "java/lang/String" "coder" "B" (.int (0 : Int32))).ext E4
  have f14 := f13.keep K8 (ninS (neA (by omega)) nin0)
  have f15 := C4.safe (x := a2) (ltA (by omega)) S2
  have f16 := C8.safe (x := a2) (ltA (by omega)) f15
  refine X8.callI (y := (⟨"java/lang/String", "<init>", "([C)V"⟩ : MethodName)) (W := 1) rfl (w12 hw) (w13 hw) (w14 hw) (by decide) (payStr X8 hw (w10 hw) [c0] 1 (leA (by omega)) f10 f12 f14 V8_ O2 P5 rfl rfl (by decide) (by decide) (allI Pr2 allN) (by decide) (by decide) f16) rfl (sz hml rfl) (a := a2) (argsL := [(.ref a4)]) (rest := [(.ref a2)]) (lenOf pd10 rfl) rfl rfl (mroom rfl rfl) (D d1_33) (by decide) (by decide) fun T17 h17 vm17 v17 X17 C17 z17 q17 => ?_
  obtain ⟨t17, kb17, rfl, K17, g17_0, g17_1, g17_2, g17_3, g17_4⟩ := q17
  have g17_5 : Str Z h17 a2 t17 kb17 [c0] := ⟨g17_0, g17_1, g17_2, g17_3, (allI Pr2 allN), Nat.le_of_ble_eq_true rfl⟩
  have l18 := ltA g17_5.lt
  have l19 := ltA g17_5.lb
  exact X17.retA hret rfl rfl rfl (D d1_36) (by decide) (by decide) (fun vmE CE => ⟨a2, t17, kb17, rfl, (((((Keep.refl h0 []).ext E2).ext E4).trans K8 (allS (Or.inr (leA (by omega))) all0)).trans K17 (allS (Or.inr (leA (by omega))) all0)), g17_5⟩)
abbrev RrmPre2 : Room := { frames := 4, cells := 3, slots := 8, locals := 66 }
def QrmPre2 (Z : State) (y : Addr) (n : Int32) (ky : ClassId) (c0 : Int32) (c1 : Int32) (c2 : Int32) (c3 : Int32) (c4 : Int32) (h0 : Heap) (v : Option Value) (vm : Vm) (h : Heap) : Prop := ∃ (a : Addr) (b : Addr) (kb : ClassId), v = some (.ref a) ∧ Keep h0 h [] ∧ Str Z h a b kb [c0, c1]
theorem rmPre2 (hc : Cx Z a0 zc fm) (y : Addr) (n : Int32) (ky : ClassId) (c0 : Int32) (c1 : Int32) (c2 : Int32) (c3 : Int32) (c4 : Int32) (h0 : Heap) (O0 : Old Z Z.heap.size h0) (Pr0 : n = (2 : Int32)) (Pr1 : Arv Z h0 y ky .char (5 : Int32) [(.int c0), (.int c1), (.int c2), (.int c3), (.int c4)] (.int (0 : Int32))) (Pr2 : ¬ c0 < 0 ∧ ¬ (255 : Int32) < c0) (Pr3 : ¬ c1 < 0 ∧ ¬ (255 : Int32) < c1) : Met l Z consts_1 (⟨"org/holdfast/model/ContentWithoutSpacePinLaw", "prefix", "([CI)Ljava/lang/String;"⟩ : MethodName) method_5_code 2 (some (.object "java/lang/String")) [] RrmPre2 [] #[(.ref y), (.int n)] h0 (QrmPre2 Z y n ky c0 c1 c2 c3 c4 h0) := by
  have ⟨hw, hEL, O2, P5, O4, P6⟩ := hc
  refine Met.start (a0 := a0) (Ls := #[vR y, vI n]) pn1 hEL O0 (fun m => by first | (simp [entryFrame, mkF, argsToLocals, Value.category]; done) | rfl) ?_
  intro p e s m below meth cc T0 vm0 X0 sf0_ hby hml hret hnm
  have hx := X0.hx
  have D : ∀ {n r}, decode method_5_code n = r → decode cc.code n = r := fun d => hb hby d
  have zz := X0.ge
  have A0 := X0.at
  have l1 := ltA Pr1.lt
  subst Pr0
  refine Gets.via (fun _ k => (XS.iloadN A0 hx rfl (D d1_0) rfl (XS.ifYes A0 hx rfl (pc0 := 1) (pc' := 15) rfl (D d1_1) rfl (Jvm.Free.XT.i0_ne_t (by decide)) (by decide) (by decide) k))) ?_
  refine Gets.via (fun _ k => (XS.iloadN A0 hx rfl (D d1_15) rfl (XS.iconst A0 hx rfl (D d1_16) (XS.icmpYes A0 hx rfl (pc0 := 17) (pc' := 37) rfl (D d1_17) rfl (Jvm.Free.XT.ii_ne_t (by decide)) (by decide) (by decide) k)))) ?_
  refine Gets.via (fun _ k => (XS.iloadN A0 hx rfl (D d1_37) rfl (XS.iconst A0 hx rfl (D d1_38) (XS.icmpNo A0 hx rfl (D d1_39) rfl (Jvm.Free.XT.ii_ne_f (by decide)) k)))) ?_
  refine X0.new (w9 hw) (w10 hw) (w11 hw) rfl (D d1_42) (by decide) (by decide) fun T2 h2 a2 X2 C2 E2 g2 Z2 S2 D2 => ?_
  have z2 := E2.1
  have l2 := ltA Z2.lt
  show Gets p e below _ (T2.setTop (mkF m 45 #[vR y, vI (2 : Int32)] [(.ref a2)]))
  have A3 := X2.at
  refine Gets.via (fun _ k => (XS.dup A3 hx rfl (D d1_45) rfl rfl (XS.iconst A3 hx rfl (D d1_46) k))) ?_
  refine X2.newA (aty := .char) (w0 hw) rfl (D d1_47) rfl (by decide) (cap := 2) (by decide) (by decide) (by decide) (by decide) fun T4 h4 a4 k4 X4 C4 E4 g4 S4 V4 => ?_
  have z4 := E4.1
  have l4 := ltA V4.lt
  have V4_ : Arv Z h4 a4 k4 .char (2 : Int32) [(.int (0 : Int32)), (.int (0 : Int32))] (.int (0 : Int32)) := padN V4 2
  have A5 := X4.at
  refine Gets.via (fun _ k => (XS.dup A5 hx rfl (D d1_49) rfl rfl (XS.iconst A5 hx rfl (D d1_50) (XS.aloadN A5 hx rfl (D d1_51) rfl rfl (XS.iconst A5 hx rfl (D d1_52) k))))) ?_
  have f6 := Pr1.ext E2
  have f7 := f6.ext E4
  refine X4.ldC f7 (i := 0) (by decide) (by decide) (by decide) rfl rfl rfl (D d1_53) ?_
  show Gets p e below _ (T4.setTop (mkF m 54 #[vR y, vI (2 : Int32)] [(.int c0), (.int (0 : Int32)), (.ref a4), (.ref a4), (.ref a2), (.ref a2)]))
  refine X4.stC V4_ (i := 0) (by decide) (by decide) (Nat.le_of_ble_eq_true rfl) (by decide) (v := c0) (i2c_small Pr2) (leA (by omega)) rfl rfl (D d1_54) fun T8 h8 X8 C8 K8 V8 => ?_
  have z8 := K8.1
  have V8_ : Arv Z h8 a4 k4 .char (2 : Int32) [(.int c0), (.int (0 : Int32))] (.int (0 : Int32)) := V8
  have A9 := X8.at
  refine Gets.via (fun _ k => (XS.dup A9 hx rfl (D d1_55) rfl rfl (XS.iconst A9 hx rfl (D d1_56) (XS.aloadN A9 hx rfl (D d1_57) rfl rfl (XS.iconst A9 hx rfl (D d1_58) k))))) ?_
  have f10 := f7.keep K8 (ninS (neA (by omega)) nin0)
  refine X8.ldC f10 (i := 1) (by decide) (by decide) (by decide) rfl rfl rfl (D d1_59) ?_
  refine X8.stC V8_ (i := 1) (by decide) (by decide) (Nat.le_of_ble_eq_true rfl) (by decide) (v := c1) (i2c_small Pr3) (leA (by omega)) rfl rfl (D d1_60) fun T11 h11 X11 C11 K11 V11 => ?_
  have z11 := K11.1
  have V11_ : Arv Z h11 a4 k4 .char (2 : Int32) [(.int c0), (.int c1)] (.int (0 : Int32)) := V11
  show Gets p e below _ (T11.setTop (mkF m 61 #[vR y, vI (2 : Int32)] [(.ref a4), (.ref a2), (.ref a2)]))
  have f12 := Z2.ext E4
  have f13 := f12.keep K8
  have f14 := f13.keep K11
  have f15 := (D2 (Or.inr (w37 hw)) (ty := (.array .byte)) (by decide) : Fld Z h2 a2 "java/lang/String" "value" "[B" .null).ext E4
  have f16 := f15.keep K8 (ninS (neA (by omega)) nin0)
  have f17 := f16.keep K11 (ninS (neA (by omega)) nin0)
  have f18 := (D2 (Or.inr (w35 hw)) (ty := .byte) (by decide) : Fld Z h2 a2 "java/lang/String" "coder" "B" (.int (0 : Int32))).ext E4
  have f19 := f18.keep K8 (ninS (neA (by omega)) nin0)
  have f20 := f19.keep K11 (ninS (neA (by omega)) nin0)
  have f21 := C4.safe (x := a2) (ltA (by omega)) S2
  have f22 := C8.safe (x := a2) (ltA (by omega)) f21
  have f23 := C11.safe (x := a2) (ltA (by omega)) f22
  refine X11.callI (y := (⟨"java/lang/String", "<init>", "([C)V"⟩ : MethodName)) (W := 1) rfl (w12 hw) (w13 hw) (w14 hw) (by decide) (payStr X11 hw (w10 hw) [c0, c1] 2 (leA (by omega)) f14 f17 f20 V11_ O2 P5 rfl rfl (by decide) (by decide) (allI Pr2 (allI Pr3 allN)) (by decide) (by decide) f23) rfl (sz hml rfl) (a := a2) (argsL := [(.ref a4)]) (rest := [(.ref a2)]) (lenOf pd10 rfl) rfl rfl (mroom rfl rfl) (D d1_61) (by decide) (by decide) fun T24 h24 vm24 v24 X24 C24 z24 q24 => ?_
  obtain ⟨t24, kb24, rfl, K24, g24_0, g24_1, g24_2, g24_3, g24_4⟩ := q24
  have g24_5 : Str Z h24 a2 t24 kb24 [c0, c1] := ⟨g24_0, g24_1, g24_2, g24_3, (allI Pr2 (allI Pr3 allN)), Nat.le_of_ble_eq_true rfl⟩
  have l25 := ltA g24_5.lt
  have l26 := ltA g24_5.lb
  exact X24.retA hret rfl rfl rfl (D d1_64) (by decide) (by decide) (fun vmE CE => ⟨a2, t24, kb24, rfl, ((((((Keep.refl h0 []).ext E2).ext E4).trans K8 (allS (Or.inr (leA (by omega))) all0)).trans K11 (allS (Or.inr (leA (by omega))) all0)).trans K24 (allS (Or.inr (leA (by omega))) all0)), g24_5⟩)
abbrev RrmPre3 : Room := { frames := 4, cells := 3, slots := 10, locals := 66 }
def QrmPre3 (Z : State) (y : Addr) (n : Int32) (ky : ClassId) (c0 : Int32) (c1 : Int32) (c2 : Int32) (c3 : Int32) (c4 : Int32) (h0 : Heap) (v : Option Value) (vm : Vm) (h : Heap) : Prop := ∃ (a : Addr) (b : Addr) (kb : ClassId), v = some (.ref a) ∧ Keep h0 h [] ∧ Str Z h a b kb [c0, c1, c2]
theorem rmPre3 (hc : Cx Z a0 zc fm) (y : Addr) (n : Int32) (ky : ClassId) (c0 : Int32) (c1 : Int32) (c2 : Int32) (c3 : Int32) (c4 : Int32) (h0 : Heap) (O0 : Old Z Z.heap.size h0) (Pr0 : n = (3 : Int32)) (Pr1 : Arv Z h0 y ky .char (5 : Int32) [(.int c0), (.int c1), (.int c2), (.int c3), (.int c4)] (.int (0 : Int32))) (Pr2 : ¬ c0 < 0 ∧ ¬ (255 : Int32) < c0) (Pr3 : ¬ c1 < 0 ∧ ¬ (255 : Int32) < c1) (Pr4 : ¬ c2 < 0 ∧ ¬ (255 : Int32) < c2) : Met l Z consts_1 (⟨"org/holdfast/model/ContentWithoutSpacePinLaw", "prefix", "([CI)Ljava/lang/String;"⟩ : MethodName) method_5_code 2 (some (.object "java/lang/String")) [] RrmPre3 [] #[(.ref y), (.int n)] h0 (QrmPre3 Z y n ky c0 c1 c2 c3 c4 h0) := by
  have ⟨hw, hEL, O2, P5, O4, P6⟩ := hc
  refine Met.start (a0 := a0) (Ls := #[vR y, vI n]) pn1 hEL O0 (fun m => by first | (simp [entryFrame, mkF, argsToLocals, Value.category]; done) | rfl) ?_
  intro p e s m below meth cc T0 vm0 X0 sf0_ hby hml hret hnm
  have hx := X0.hx
  have D : ∀ {n r}, decode method_5_code n = r → decode cc.code n = r := fun d => hb hby d
  have zz := X0.ge
  have A0 := X0.at
  have l1 := ltA Pr1.lt
  subst Pr0
  refine Gets.via (fun _ k => (XS.iloadN A0 hx rfl (D d1_0) rfl (XS.ifYes A0 hx rfl (pc0 := 1) (pc' := 15) rfl (D d1_1) rfl (Jvm.Free.XT.i0_ne_t (by decide)) (by decide) (by decide) k))) ?_
  refine Gets.via (fun _ k => (XS.iloadN A0 hx rfl (D d1_15) rfl (XS.iconst A0 hx rfl (D d1_16) (XS.icmpYes A0 hx rfl (pc0 := 17) (pc' := 37) rfl (D d1_17) rfl (Jvm.Free.XT.ii_ne_t (by decide)) (by decide) (by decide) k)))) ?_
  refine Gets.via (fun _ k => (XS.iloadN A0 hx rfl (D d1_37) rfl (XS.iconst A0 hx rfl (D d1_38) (XS.icmpYes A0 hx rfl (pc0 := 39) (pc' := 65) rfl (D d1_39) rfl (Jvm.Free.XT.ii_ne_t (by decide)) (by decide) (by decide) k)))) ?_
  refine Gets.via (fun _ k => (XS.iloadN A0 hx rfl (D d1_65) rfl (XS.iconst A0 hx rfl (D d1_66) (XS.icmpNo A0 hx rfl (D d1_67) rfl (Jvm.Free.XT.ii_ne_f (by decide)) k)))) ?_
  show Gets p e below _ (T0.setTop (mkF m 70 #[vR y, vI (3 : Int32)] []))
  refine X0.new (w9 hw) (w10 hw) (w11 hw) rfl (D d1_70) (by decide) (by decide) fun T2 h2 a2 X2 C2 E2 g2 Z2 S2 D2 => ?_
  have z2 := E2.1
  have l2 := ltA Z2.lt
  have A3 := X2.at
  refine Gets.via (fun _ k => (XS.dup A3 hx rfl (D d1_73) rfl rfl (XS.iconst A3 hx rfl (D d1_74) k))) ?_
  refine X2.newA (aty := .char) (w0 hw) rfl (D d1_75) rfl (by decide) (cap := 3) (by decide) (by decide) (by decide) (by decide) fun T4 h4 a4 k4 X4 C4 E4 g4 S4 V4 => ?_
  have z4 := E4.1
  have l4 := ltA V4.lt
  have V4_ : Arv Z h4 a4 k4 .char (3 : Int32) [(.int (0 : Int32)), (.int (0 : Int32)), (.int (0 : Int32))] (.int (0 : Int32)) := padN V4 3
  have A5 := X4.at
  refine Gets.via (fun _ k => (XS.dup A5 hx rfl (D d1_77) rfl rfl (XS.iconst A5 hx rfl (D d1_78) (XS.aloadN A5 hx rfl (D d1_79) rfl rfl (XS.iconst A5 hx rfl (D d1_80) k))))) ?_
  show Gets p e below _ (T4.setTop (mkF m 81 #[vR y, vI (3 : Int32)] [(.int (0 : Int32)), (.ref y), (.int (0 : Int32)), (.ref a4), (.ref a4), (.ref a2), (.ref a2)]))
  have f6 := Pr1.ext E2
  have f7 := f6.ext E4
  refine X4.ldC f7 (i := 0) (by decide) (by decide) (by decide) rfl rfl rfl (D d1_81) ?_
  refine X4.stC V4_ (i := 0) (by decide) (by decide) (Nat.le_of_ble_eq_true rfl) (by decide) (v := c0) (i2c_small Pr2) (leA (by omega)) rfl rfl (D d1_82) fun T8 h8 X8 C8 K8 V8 => ?_
  have z8 := K8.1
  have V8_ : Arv Z h8 a4 k4 .char (3 : Int32) [(.int c0), (.int (0 : Int32)), (.int (0 : Int32))] (.int (0 : Int32)) := V8
  have A9 := X8.at
  refine Gets.via (fun _ k => (XS.dup A9 hx rfl (D d1_83) rfl rfl (XS.iconst A9 hx rfl (D d1_84) (XS.aloadN A9 hx rfl (D d1_85) rfl rfl (XS.iconst A9 hx rfl (D d1_86) k))))) ?_
  have f10 := f7.keep K8 (ninS (neA (by omega)) nin0)
  refine X8.ldC f10 (i := 1) (by decide) (by decide) (by decide) rfl rfl rfl (D d1_87) ?_
  show Gets p e below _ (T8.setTop (mkF m 88 #[vR y, vI (3 : Int32)] [(.int c1), (.int (1 : Int32)), (.ref a4), (.ref a4), (.ref a2), (.ref a2)]))
  refine X8.stC V8_ (i := 1) (by decide) (by decide) (Nat.le_of_ble_eq_true rfl) (by decide) (v := c1) (i2c_small Pr3) (leA (by omega)) rfl rfl (D d1_88) fun T11 h11 X11 C11 K11 V11 => ?_
  have z11 := K11.1
  have V11_ : Arv Z h11 a4 k4 .char (3 : Int32) [(.int c0), (.int c1), (.int (0 : Int32))] (.int (0 : Int32)) := V11
  have A12 := X11.at
  refine Gets.via (fun _ k => (XS.dup A12 hx rfl (D d1_89) rfl rfl (XS.iconst A12 hx rfl (D d1_90) (XS.aloadN A12 hx rfl (D d1_91) rfl rfl (XS.iconst A12 hx rfl (D d1_92) k))))) ?_
  have f13 := f10.keep K11 (ninS (neA (by omega)) nin0)
  refine X11.ldC f13 (i := 2) (by decide) (by decide) (by decide) rfl rfl rfl (D d1_93) ?_
  refine X11.stC V11_ (i := 2) (by decide) (by decide) (Nat.le_of_ble_eq_true rfl) (by decide) (v := c2) (i2c_small Pr4) (leA (by omega)) rfl rfl (D d1_94) fun T14 h14 X14 C14 K14 V14 => ?_
  have z14 := K14.1
  have V14_ : Arv Z h14 a4 k4 .char (3 : Int32) [(.int c0), (.int c1), (.int c2)] (.int (0 : Int32)) := V14
  show Gets p e below _ (T14.setTop (mkF m 95 #[vR y, vI (3 : Int32)] [(.ref a4), (.ref a2), (.ref a2)]))
  have f15 := Z2.ext E4
  have f16 := f15.keep K8
  have f17 := f16.keep K11
  have f18 := f17.keep K14
  have f19 := (D2 (Or.inr (w37 hw)) (ty := (.array .byte)) (by decide) : Fld Z h2 a2 "java/lang/String" "value" "[B" .null).ext E4
  have f20 := f19.keep K8 (ninS (neA (by omega)) nin0)
  have f21 := f20.keep K11 (ninS (neA (by omega)) nin0)
  have f22 := f21.keep K14 (ninS (neA (by omega)) nin0)
  have f23 := (D2 (Or.inr (w35 hw)) (ty := .byte) (by decide) : Fld Z h2 a2 "java/lang/String" "coder" "B" (.int (0 : Int32))).ext E4
  have f24 := f23.keep K8 (ninS (neA (by omega)) nin0)
  have f25 := f24.keep K11 (ninS (neA (by omega)) nin0)
  have f26 := f25.keep K14 (ninS (neA (by omega)) nin0)
  have f27 := C4.safe (x := a2) (ltA (by omega)) S2
  have f28 := C8.safe (x := a2) (ltA (by omega)) f27
  have f29 := C11.safe (x := a2) (ltA (by omega)) f28
  have f30 := C14.safe (x := a2) (ltA (by omega)) f29
  refine X14.callI (y := (⟨"java/lang/String", "<init>", "([C)V"⟩ : MethodName)) (W := 1) rfl (w12 hw) (w13 hw) (w14 hw) (by decide) (payStr X14 hw (w10 hw) [c0, c1, c2] 3 (leA (by omega)) f18 f22 f26 V14_ O2 P5 rfl rfl (by decide) (by decide) (allI Pr2 (allI Pr3 (allI Pr4 allN))) (by decide) (by decide) f30) rfl (sz hml rfl) (a := a2) (argsL := [(.ref a4)]) (rest := [(.ref a2)]) (lenOf pd10 rfl) rfl rfl (mroom rfl rfl) (D d1_95) (by decide) (by decide) fun T31 h31 vm31 v31 X31 C31 z31 q31 => ?_
  obtain ⟨t31, kb31, rfl, K31, g31_0, g31_1, g31_2, g31_3, g31_4⟩ := q31
  have g31_5 : Str Z h31 a2 t31 kb31 [c0, c1, c2] := ⟨g31_0, g31_1, g31_2, g31_3, (allI Pr2 (allI Pr3 (allI Pr4 allN))), Nat.le_of_ble_eq_true rfl⟩
  have l32 := ltA g31_5.lt
  have l33 := ltA g31_5.lb
  exact X31.retA hret rfl rfl rfl (D d1_98) (by decide) (by decide) (fun vmE CE => ⟨a2, t31, kb31, rfl, (((((((Keep.refl h0 []).ext E2).ext E4).trans K8 (allS (Or.inr (leA (by omega))) all0)).trans K11 (allS (Or.inr (leA (by omega))) all0)).trans K14 (allS (Or.inr (leA (by omega))) all0)).trans K31 (allS (Or.inr (leA (by omega))) all0)), g31_5⟩)
abbrev RrmPre4 : Room := { frames := 4, cells := 3, slots := 12, locals := 66 }
def QrmPre4 (Z : State) (y : Addr) (n : Int32) (ky : ClassId) (c0 : Int32) (c1 : Int32) (c2 : Int32) (c3 : Int32) (c4 : Int32) (h0 : Heap) (v : Option Value) (vm : Vm) (h : Heap) : Prop := ∃ (a : Addr) (b : Addr) (kb : ClassId), v = some (.ref a) ∧ Keep h0 h [] ∧ Str Z h a b kb [c0, c1, c2, c3]
theorem rmPre4 (hc : Cx Z a0 zc fm) (y : Addr) (n : Int32) (ky : ClassId) (c0 : Int32) (c1 : Int32) (c2 : Int32) (c3 : Int32) (c4 : Int32) (h0 : Heap) (O0 : Old Z Z.heap.size h0) (Pr0 : n = (4 : Int32)) (Pr1 : Arv Z h0 y ky .char (5 : Int32) [(.int c0), (.int c1), (.int c2), (.int c3), (.int c4)] (.int (0 : Int32))) (Pr2 : ¬ c0 < 0 ∧ ¬ (255 : Int32) < c0) (Pr3 : ¬ c1 < 0 ∧ ¬ (255 : Int32) < c1) (Pr4 : ¬ c2 < 0 ∧ ¬ (255 : Int32) < c2) (Pr5 : ¬ c3 < 0 ∧ ¬ (255 : Int32) < c3) : Met l Z consts_1 (⟨"org/holdfast/model/ContentWithoutSpacePinLaw", "prefix", "([CI)Ljava/lang/String;"⟩ : MethodName) method_5_code 2 (some (.object "java/lang/String")) [] RrmPre4 [] #[(.ref y), (.int n)] h0 (QrmPre4 Z y n ky c0 c1 c2 c3 c4 h0) := by
  have ⟨hw, hEL, O2, P5, O4, P6⟩ := hc
  refine Met.start (a0 := a0) (Ls := #[vR y, vI n]) pn1 hEL O0 (fun m => by first | (simp [entryFrame, mkF, argsToLocals, Value.category]; done) | rfl) ?_
  intro p e s m below meth cc T0 vm0 X0 sf0_ hby hml hret hnm
  have hx := X0.hx
  have D : ∀ {n r}, decode method_5_code n = r → decode cc.code n = r := fun d => hb hby d
  have zz := X0.ge
  have A0 := X0.at
  have l1 := ltA Pr1.lt
  subst Pr0
  refine Gets.via (fun _ k => (XS.iloadN A0 hx rfl (D d1_0) rfl (XS.ifYes A0 hx rfl (pc0 := 1) (pc' := 15) rfl (D d1_1) rfl (Jvm.Free.XT.i0_ne_t (by decide)) (by decide) (by decide) k))) ?_
  refine Gets.via (fun _ k => (XS.iloadN A0 hx rfl (D d1_15) rfl (XS.iconst A0 hx rfl (D d1_16) (XS.icmpYes A0 hx rfl (pc0 := 17) (pc' := 37) rfl (D d1_17) rfl (Jvm.Free.XT.ii_ne_t (by decide)) (by decide) (by decide) k)))) ?_
  refine Gets.via (fun _ k => (XS.iloadN A0 hx rfl (D d1_37) rfl (XS.iconst A0 hx rfl (D d1_38) (XS.icmpYes A0 hx rfl (pc0 := 39) (pc' := 65) rfl (D d1_39) rfl (Jvm.Free.XT.ii_ne_t (by decide)) (by decide) (by decide) k)))) ?_
  refine Gets.via (fun _ k => (XS.iloadN A0 hx rfl (D d1_65) rfl (XS.iconst A0 hx rfl (D d1_66) (XS.icmpYes A0 hx rfl (pc0 := 67) (pc' := 99) rfl (D d1_67) rfl (Jvm.Free.XT.ii_ne_t (by decide)) (by decide) (by decide) k)))) ?_
  show Gets p e below _ (T0.setTop (mkF m 99 #[vR y, vI (4 : Int32)] []))
  refine Gets.via (fun _ k => (XS.iloadN A0 hx rfl (D d1_99) rfl (XS.iconst A0 hx rfl (D d1_100) (XS.icmpNo A0 hx rfl (D d1_101) rfl (Jvm.Free.XT.ii_ne_f (by decide)) k)))) ?_
  refine X0.new (w9 hw) (w10 hw) (w11 hw) rfl (D d1_104) (by decide) (by decide) fun T2 h2 a2 X2 C2 E2 g2 Z2 S2 D2 => ?_
  have z2 := E2.1
  have l2 := ltA Z2.lt
  have A3 := X2.at
  refine Gets.via (fun _ k => (XS.dup A3 hx rfl (D d1_107) rfl rfl (XS.iconst A3 hx rfl (D d1_108) k))) ?_
  refine X2.newA (aty := .char) (w0 hw) rfl (D d1_109) rfl (by decide) (cap := 4) (by decide) (by decide) (by decide) (by decide) fun T4 h4 a4 k4 X4 C4 E4 g4 S4 V4 => ?_
  have z4 := E4.1
  have l4 := ltA V4.lt
  have V4_ : Arv Z h4 a4 k4 .char (4 : Int32) [(.int (0 : Int32)), (.int (0 : Int32)), (.int (0 : Int32)), (.int (0 : Int32))] (.int (0 : Int32)) := padN V4 4
  have A5 := X4.at
  refine Gets.via (fun _ k => (XS.dup A5 hx rfl (D d1_111) rfl rfl (XS.iconst A5 hx rfl (D d1_112) (XS.aloadN A5 hx rfl (D d1_113) rfl rfl (XS.iconst A5 hx rfl (D d1_114) k))))) ?_
  show Gets p e below _ (T4.setTop (mkF m 115 #[vR y, vI (4 : Int32)] [(.int (0 : Int32)), (.ref y), (.int (0 : Int32)), (.ref a4), (.ref a4), (.ref a2), (.ref a2)]))
  have f6 := Pr1.ext E2
  have f7 := f6.ext E4
  refine X4.ldC f7 (i := 0) (by decide) (by decide) (by decide) rfl rfl rfl (D d1_115) ?_
  refine X4.stC V4_ (i := 0) (by decide) (by decide) (Nat.le_of_ble_eq_true rfl) (by decide) (v := c0) (i2c_small Pr2) (leA (by omega)) rfl rfl (D d1_116) fun T8 h8 X8 C8 K8 V8 => ?_
  have z8 := K8.1
  have V8_ : Arv Z h8 a4 k4 .char (4 : Int32) [(.int c0), (.int (0 : Int32)), (.int (0 : Int32)), (.int (0 : Int32))] (.int (0 : Int32)) := V8
  have A9 := X8.at
  refine Gets.via (fun _ k => (XS.dup A9 hx rfl (D d1_117) rfl rfl (XS.iconst A9 hx rfl (D d1_118) (XS.aloadN A9 hx rfl (D d1_119) rfl rfl (XS.iconst A9 hx rfl (D d1_120) k))))) ?_
  have f10 := f7.keep K8 (ninS (neA (by omega)) nin0)
  refine X8.ldC f10 (i := 1) (by decide) (by decide) (by decide) rfl rfl rfl (D d1_121) ?_
  show Gets p e below _ (T8.setTop (mkF m 122 #[vR y, vI (4 : Int32)] [(.int c1), (.int (1 : Int32)), (.ref a4), (.ref a4), (.ref a2), (.ref a2)]))
  refine X8.stC V8_ (i := 1) (by decide) (by decide) (Nat.le_of_ble_eq_true rfl) (by decide) (v := c1) (i2c_small Pr3) (leA (by omega)) rfl rfl (D d1_122) fun T11 h11 X11 C11 K11 V11 => ?_
  have z11 := K11.1
  have V11_ : Arv Z h11 a4 k4 .char (4 : Int32) [(.int c0), (.int c1), (.int (0 : Int32)), (.int (0 : Int32))] (.int (0 : Int32)) := V11
  have A12 := X11.at
  refine Gets.via (fun _ k => (XS.dup A12 hx rfl (D d1_123) rfl rfl (XS.iconst A12 hx rfl (D d1_124) (XS.aloadN A12 hx rfl (D d1_125) rfl rfl (XS.iconst A12 hx rfl (D d1_126) k))))) ?_
  have f13 := f10.keep K11 (ninS (neA (by omega)) nin0)
  refine X11.ldC f13 (i := 2) (by decide) (by decide) (by decide) rfl rfl rfl (D d1_127) ?_
  refine X11.stC V11_ (i := 2) (by decide) (by decide) (Nat.le_of_ble_eq_true rfl) (by decide) (v := c2) (i2c_small Pr4) (leA (by omega)) rfl rfl (D d1_128) fun T14 h14 X14 C14 K14 V14 => ?_
  have z14 := K14.1
  have V14_ : Arv Z h14 a4 k4 .char (4 : Int32) [(.int c0), (.int c1), (.int c2), (.int (0 : Int32))] (.int (0 : Int32)) := V14
  show Gets p e below _ (T14.setTop (mkF m 129 #[vR y, vI (4 : Int32)] [(.ref a4), (.ref a2), (.ref a2)]))
  have A15 := X14.at
  refine Gets.via (fun _ k => (XS.dup A15 hx rfl (D d1_129) rfl rfl (XS.iconst A15 hx rfl (D d1_130) (XS.aloadN A15 hx rfl (D d1_131) rfl rfl (XS.iconst A15 hx rfl (D d1_132) k))))) ?_
  have f16 := f13.keep K14 (ninS (neA (by omega)) nin0)
  refine X14.ldC f16 (i := 3) (by decide) (by decide) (by decide) rfl rfl rfl (D d1_133) ?_
  refine X14.stC V14_ (i := 3) (by decide) (by decide) (Nat.le_of_ble_eq_true rfl) (by decide) (v := c3) (i2c_small Pr5) (leA (by omega)) rfl rfl (D d1_134) fun T17 h17 X17 C17 K17 V17 => ?_
  have z17 := K17.1
  have V17_ : Arv Z h17 a4 k4 .char (4 : Int32) [(.int c0), (.int c1), (.int c2), (.int c3)] (.int (0 : Int32)) := V17
  have f18 := Z2.ext E4
  have f19 := f18.keep K8
  have f20 := f19.keep K11
  have f21 := f20.keep K14
  have f22 := f21.keep K17
  have f23 := (D2 (Or.inr (w37 hw)) (ty := (.array .byte)) (by decide) : Fld Z h2 a2 "java/lang/String" "value" "[B" .null).ext E4
  have f24 := f23.keep K8 (ninS (neA (by omega)) nin0)
  have f25 := f24.keep K11 (ninS (neA (by omega)) nin0)
  have f26 := f25.keep K14 (ninS (neA (by omega)) nin0)
  have f27 := f26.keep K17 (ninS (neA (by omega)) nin0)
  have f28 := (D2 (Or.inr (w35 hw)) (ty := .byte) (by decide) : Fld Z h2 a2 "java/lang/String" "coder" "B" (.int (0 : Int32))).ext E4
  have f29 := f28.keep K8 (ninS (neA (by omega)) nin0)
  have f30 := f29.keep K11 (ninS (neA (by omega)) nin0)
  have f31 := f30.keep K14 (ninS (neA (by omega)) nin0)
  have f32 := f31.keep K17 (ninS (neA (by omega)) nin0)
  have f33 := C4.safe (x := a2) (ltA (by omega)) S2
  have f34 := C8.safe (x := a2) (ltA (by omega)) f33
  have f35 := C11.safe (x := a2) (ltA (by omega)) f34
  have f36 := C14.safe (x := a2) (ltA (by omega)) f35
  have f37 := C17.safe (x := a2) (ltA (by omega)) f36
  refine X17.callI (y := (⟨"java/lang/String", "<init>", "([C)V"⟩ : MethodName)) (W := 1) rfl (w12 hw) (w13 hw) (w14 hw) (by decide) (payStr X17 hw (w10 hw) [c0, c1, c2, c3] 4 (leA (by omega)) f22 f27 f32 V17_ O2 P5 rfl rfl (by decide) (by decide) (allI Pr2 (allI Pr3 (allI Pr4 (allI Pr5 allN)))) (by decide) (by decide) f37) rfl (sz hml rfl) (a := a2) (argsL := [(.ref a4)]) (rest := [(.ref a2)]) (lenOf pd10 rfl) rfl rfl (mroom rfl rfl) (D d1_135) (by decide) (by decide) fun T38 h38 vm38 v38 X38 C38 z38 q38 => ?_
  obtain ⟨t38, kb38, rfl, K38, g38_0, g38_1, g38_2, g38_3, g38_4⟩ := q38
  have g38_5 : Str Z h38 a2 t38 kb38 [c0, c1, c2, c3] := ⟨g38_0, g38_1, g38_2, g38_3, (allI Pr2 (allI Pr3 (allI Pr4 (allI Pr5 allN)))), Nat.le_of_ble_eq_true rfl⟩
  have l39 := ltA g38_5.lt
  have l40 := ltA g38_5.lb
  show Gets p e below _ (T38.setTop (mkF m 138 #[vR y, vI (4 : Int32)] [(.ref a2)]))
  exact X38.retA hret rfl rfl rfl (D d1_138) (by decide) (by decide) (fun vmE CE => ⟨a2, t38, kb38, rfl, ((((((((Keep.refl h0 []).ext E2).ext E4).trans K8 (allS (Or.inr (leA (by omega))) all0)).trans K11 (allS (Or.inr (leA (by omega))) all0)).trans K14 (allS (Or.inr (leA (by omega))) all0)).trans K17 (allS (Or.inr (leA (by omega))) all0)).trans K38 (allS (Or.inr (leA (by omega))) all0)), g38_5⟩)
abbrev RrmPre5 : Room := { frames := 4, cells := 3, slots := 14, locals := 66 }
def QrmPre5 (Z : State) (y : Addr) (n : Int32) (ky : ClassId) (c0 : Int32) (c1 : Int32) (c2 : Int32) (c3 : Int32) (c4 : Int32) (h0 : Heap) (v : Option Value) (vm : Vm) (h : Heap) : Prop := ∃ (a : Addr) (b : Addr) (kb : ClassId), v = some (.ref a) ∧ Keep h0 h [] ∧ Str Z h a b kb [c0, c1, c2, c3, c4]
theorem rmPre5 (hc : Cx Z a0 zc fm) (y : Addr) (n : Int32) (ky : ClassId) (c0 : Int32) (c1 : Int32) (c2 : Int32) (c3 : Int32) (c4 : Int32) (h0 : Heap) (O0 : Old Z Z.heap.size h0) (Pr0 : n = (5 : Int32)) (Pr1 : Arv Z h0 y ky .char (5 : Int32) [(.int c0), (.int c1), (.int c2), (.int c3), (.int c4)] (.int (0 : Int32))) (Pr2 : ¬ c0 < 0 ∧ ¬ (255 : Int32) < c0) (Pr3 : ¬ c1 < 0 ∧ ¬ (255 : Int32) < c1) (Pr4 : ¬ c2 < 0 ∧ ¬ (255 : Int32) < c2) (Pr5 : ¬ c3 < 0 ∧ ¬ (255 : Int32) < c3) (Pr6 : ¬ c4 < 0 ∧ ¬ (255 : Int32) < c4) : Met l Z consts_1 (⟨"org/holdfast/model/ContentWithoutSpacePinLaw", "prefix", "([CI)Ljava/lang/String;"⟩ : MethodName) method_5_code 2 (some (.object "java/lang/String")) [] RrmPre5 [] #[(.ref y), (.int n)] h0 (QrmPre5 Z y n ky c0 c1 c2 c3 c4 h0) := by
  have ⟨hw, hEL, O2, P5, O4, P6⟩ := hc
  refine Met.start (a0 := a0) (Ls := #[vR y, vI n]) pn1 hEL O0 (fun m => by first | (simp [entryFrame, mkF, argsToLocals, Value.category]; done) | rfl) ?_
  intro p e s m below meth cc T0 vm0 X0 sf0_ hby hml hret hnm
  have hx := X0.hx
  have D : ∀ {n r}, decode method_5_code n = r → decode cc.code n = r := fun d => hb hby d
  have zz := X0.ge
  have A0 := X0.at
  have l1 := ltA Pr1.lt
  subst Pr0
  refine Gets.via (fun _ k => (XS.iloadN A0 hx rfl (D d1_0) rfl (XS.ifYes A0 hx rfl (pc0 := 1) (pc' := 15) rfl (D d1_1) rfl (Jvm.Free.XT.i0_ne_t (by decide)) (by decide) (by decide) k))) ?_
  refine Gets.via (fun _ k => (XS.iloadN A0 hx rfl (D d1_15) rfl (XS.iconst A0 hx rfl (D d1_16) (XS.icmpYes A0 hx rfl (pc0 := 17) (pc' := 37) rfl (D d1_17) rfl (Jvm.Free.XT.ii_ne_t (by decide)) (by decide) (by decide) k)))) ?_
  refine Gets.via (fun _ k => (XS.iloadN A0 hx rfl (D d1_37) rfl (XS.iconst A0 hx rfl (D d1_38) (XS.icmpYes A0 hx rfl (pc0 := 39) (pc' := 65) rfl (D d1_39) rfl (Jvm.Free.XT.ii_ne_t (by decide)) (by decide) (by decide) k)))) ?_
  refine Gets.via (fun _ k => (XS.iloadN A0 hx rfl (D d1_65) rfl (XS.iconst A0 hx rfl (D d1_66) (XS.icmpYes A0 hx rfl (pc0 := 67) (pc' := 99) rfl (D d1_67) rfl (Jvm.Free.XT.ii_ne_t (by decide)) (by decide) (by decide) k)))) ?_
  show Gets p e below _ (T0.setTop (mkF m 99 #[vR y, vI (5 : Int32)] []))
  refine Gets.via (fun _ k => (XS.iloadN A0 hx rfl (D d1_99) rfl (XS.iconst A0 hx rfl (D d1_100) (XS.icmpYes A0 hx rfl (pc0 := 101) (pc' := 139) rfl (D d1_101) rfl (Jvm.Free.XT.ii_ne_t (by decide)) (by decide) (by decide) k)))) ?_
  refine X0.new (w9 hw) (w10 hw) (w11 hw) rfl (D d1_139) (by decide) (by decide) fun T2 h2 a2 X2 C2 E2 g2 Z2 S2 D2 => ?_
  have z2 := E2.1
  have l2 := ltA Z2.lt
  have A3 := X2.at
  refine Gets.via (fun _ k => (XS.dup A3 hx rfl (D d1_142) rfl rfl (XS.iconst A3 hx rfl (D d1_143) k))) ?_
  refine X2.newA (aty := .char) (w0 hw) rfl (D d1_144) rfl (by decide) (cap := 5) (by decide) (by decide) (by decide) (by decide) fun T4 h4 a4 k4 X4 C4 E4 g4 S4 V4 => ?_
  have z4 := E4.1
  have l4 := ltA V4.lt
  have V4_ : Arv Z h4 a4 k4 .char (5 : Int32) [(.int (0 : Int32)), (.int (0 : Int32)), (.int (0 : Int32)), (.int (0 : Int32)), (.int (0 : Int32))] (.int (0 : Int32)) := padN V4 5
  have A5 := X4.at
  refine Gets.via (fun _ k => (XS.dup A5 hx rfl (D d1_146) rfl rfl (XS.iconst A5 hx rfl (D d1_147) (XS.aloadN A5 hx rfl (D d1_148) rfl rfl (XS.iconst A5 hx rfl (D d1_149) k))))) ?_
  show Gets p e below _ (T4.setTop (mkF m 150 #[vR y, vI (5 : Int32)] [(.int (0 : Int32)), (.ref y), (.int (0 : Int32)), (.ref a4), (.ref a4), (.ref a2), (.ref a2)]))
  have f6 := Pr1.ext E2
  have f7 := f6.ext E4
  refine X4.ldC f7 (i := 0) (by decide) (by decide) (by decide) rfl rfl rfl (D d1_150) ?_
  refine X4.stC V4_ (i := 0) (by decide) (by decide) (Nat.le_of_ble_eq_true rfl) (by decide) (v := c0) (i2c_small Pr2) (leA (by omega)) rfl rfl (D d1_151) fun T8 h8 X8 C8 K8 V8 => ?_
  have z8 := K8.1
  have V8_ : Arv Z h8 a4 k4 .char (5 : Int32) [(.int c0), (.int (0 : Int32)), (.int (0 : Int32)), (.int (0 : Int32)), (.int (0 : Int32))] (.int (0 : Int32)) := V8
  have A9 := X8.at
  refine Gets.via (fun _ k => (XS.dup A9 hx rfl (D d1_152) rfl rfl (XS.iconst A9 hx rfl (D d1_153) (XS.aloadN A9 hx rfl (D d1_154) rfl rfl (XS.iconst A9 hx rfl (D d1_155) k))))) ?_
  have f10 := f7.keep K8 (ninS (neA (by omega)) nin0)
  refine X8.ldC f10 (i := 1) (by decide) (by decide) (by decide) rfl rfl rfl (D d1_156) ?_
  show Gets p e below _ (T8.setTop (mkF m 157 #[vR y, vI (5 : Int32)] [(.int c1), (.int (1 : Int32)), (.ref a4), (.ref a4), (.ref a2), (.ref a2)]))
  refine X8.stC V8_ (i := 1) (by decide) (by decide) (Nat.le_of_ble_eq_true rfl) (by decide) (v := c1) (i2c_small Pr3) (leA (by omega)) rfl rfl (D d1_157) fun T11 h11 X11 C11 K11 V11 => ?_
  have z11 := K11.1
  have V11_ : Arv Z h11 a4 k4 .char (5 : Int32) [(.int c0), (.int c1), (.int (0 : Int32)), (.int (0 : Int32)), (.int (0 : Int32))] (.int (0 : Int32)) := V11
  have A12 := X11.at
  refine Gets.via (fun _ k => (XS.dup A12 hx rfl (D d1_158) rfl rfl (XS.iconst A12 hx rfl (D d1_159) (XS.aloadN A12 hx rfl (D d1_160) rfl rfl (XS.iconst A12 hx rfl (D d1_161) k))))) ?_
  have f13 := f10.keep K11 (ninS (neA (by omega)) nin0)
  refine X11.ldC f13 (i := 2) (by decide) (by decide) (by decide) rfl rfl rfl (D d1_162) ?_
  refine X11.stC V11_ (i := 2) (by decide) (by decide) (Nat.le_of_ble_eq_true rfl) (by decide) (v := c2) (i2c_small Pr4) (leA (by omega)) rfl rfl (D d1_163) fun T14 h14 X14 C14 K14 V14 => ?_
  have z14 := K14.1
  have V14_ : Arv Z h14 a4 k4 .char (5 : Int32) [(.int c0), (.int c1), (.int c2), (.int (0 : Int32)), (.int (0 : Int32))] (.int (0 : Int32)) := V14
  show Gets p e below _ (T14.setTop (mkF m 164 #[vR y, vI (5 : Int32)] [(.ref a4), (.ref a2), (.ref a2)]))
  have A15 := X14.at
  refine Gets.via (fun _ k => (XS.dup A15 hx rfl (D d1_164) rfl rfl (XS.iconst A15 hx rfl (D d1_165) (XS.aloadN A15 hx rfl (D d1_166) rfl rfl (XS.iconst A15 hx rfl (D d1_167) k))))) ?_
  have f16 := f13.keep K14 (ninS (neA (by omega)) nin0)
  refine X14.ldC f16 (i := 3) (by decide) (by decide) (by decide) rfl rfl rfl (D d1_168) ?_
  refine X14.stC V14_ (i := 3) (by decide) (by decide) (Nat.le_of_ble_eq_true rfl) (by decide) (v := c3) (i2c_small Pr5) (leA (by omega)) rfl rfl (D d1_169) fun T17 h17 X17 C17 K17 V17 => ?_
  have z17 := K17.1
  have V17_ : Arv Z h17 a4 k4 .char (5 : Int32) [(.int c0), (.int c1), (.int c2), (.int c3), (.int (0 : Int32))] (.int (0 : Int32)) := V17
  have A18 := X17.at
  refine Gets.via (fun _ k => (XS.dup A18 hx rfl (D d1_170) rfl rfl (XS.iconst A18 hx rfl (D d1_171) (XS.aloadN A18 hx rfl (D d1_172) rfl rfl (XS.iconst A18 hx rfl (D d1_173) k))))) ?_
  show Gets p e below _ (T17.setTop (mkF m 174 #[vR y, vI (5 : Int32)] [(.int (4 : Int32)), (.ref y), (.int (4 : Int32)), (.ref a4), (.ref a4), (.ref a2), (.ref a2)]))
  have f19 := f16.keep K17 (ninS (neA (by omega)) nin0)
  refine X17.ldC f19 (i := 4) (by decide) (by decide) (by decide) rfl rfl rfl (D d1_174) ?_
  refine X17.stC V17_ (i := 4) (by decide) (by decide) (Nat.le_of_ble_eq_true rfl) (by decide) (v := c4) (i2c_small Pr6) (leA (by omega)) rfl rfl (D d1_175) fun T20 h20 X20 C20 K20 V20 => ?_
  have z20 := K20.1
  have V20_ : Arv Z h20 a4 k4 .char (5 : Int32) [(.int c0), (.int c1), (.int c2), (.int c3), (.int c4)] (.int (0 : Int32)) := V20
  have f21 := Z2.ext E4
  have f22 := f21.keep K8
  have f23 := f22.keep K11
  have f24 := f23.keep K14
  have f25 := f24.keep K17
  have f26 := f25.keep K20
  have f27 := (D2 (Or.inr (w37 hw)) (ty := (.array .byte)) (by decide) : Fld Z h2 a2 "java/lang/String" "value" "[B" .null).ext E4
  have f28 := f27.keep K8 (ninS (neA (by omega)) nin0)
  have f29 := f28.keep K11 (ninS (neA (by omega)) nin0)
  have f30 := f29.keep K14 (ninS (neA (by omega)) nin0)
  have f31 := f30.keep K17 (ninS (neA (by omega)) nin0)
  have f32 := f31.keep K20 (ninS (neA (by omega)) nin0)
  have f33 := (D2 (Or.inr (w35 hw)) (ty := .byte) (by decide) : Fld Z h2 a2 "java/lang/String" "coder" "B" (.int (0 : Int32))).ext E4
  have f34 := f33.keep K8 (ninS (neA (by omega)) nin0)
  have f35 := f34.keep K11 (ninS (neA (by omega)) nin0)
  have f36 := f35.keep K14 (ninS (neA (by omega)) nin0)
  have f37 := f36.keep K17 (ninS (neA (by omega)) nin0)
  have f38 := f37.keep K20 (ninS (neA (by omega)) nin0)
  have f39 := C4.safe (x := a2) (ltA (by omega)) S2
  have f40 := C8.safe (x := a2) (ltA (by omega)) f39
  have f41 := C11.safe (x := a2) (ltA (by omega)) f40
  have f42 := C14.safe (x := a2) (ltA (by omega)) f41
  have f43 := C17.safe (x := a2) (ltA (by omega)) f42
  have f44 := C20.safe (x := a2) (ltA (by omega)) f43
  refine X20.callI (y := (⟨"java/lang/String", "<init>", "([C)V"⟩ : MethodName)) (W := 1) rfl (w12 hw) (w13 hw) (w14 hw) (by decide) (payStr X20 hw (w10 hw) [c0, c1, c2, c3, c4] 5 (leA (by omega)) f26 f32 f38 V20_ O2 P5 rfl rfl (by decide) (by decide) (allI Pr2 (allI Pr3 (allI Pr4 (allI Pr5 (allI Pr6 allN))))) (by decide) (by decide) f44) rfl (sz hml rfl) (a := a2) (argsL := [(.ref a4)]) (rest := [(.ref a2)]) (lenOf pd10 rfl) rfl rfl (mroom rfl rfl) (D d1_176) (by decide) (by decide) fun T45 h45 vm45 v45 X45 C45 z45 q45 => ?_
  obtain ⟨t45, kb45, rfl, K45, g45_0, g45_1, g45_2, g45_3, g45_4⟩ := q45
  have g45_5 : Str Z h45 a2 t45 kb45 [c0, c1, c2, c3, c4] := ⟨g45_0, g45_1, g45_2, g45_3, (allI Pr2 (allI Pr3 (allI Pr4 (allI Pr5 (allI Pr6 allN))))), Nat.le_of_ble_eq_true rfl⟩
  have l46 := ltA g45_5.lt
  have l47 := ltA g45_5.lb
  exact X45.retA hret rfl rfl rfl (D d1_179) (by decide) (by decide) (fun vmE CE => ⟨a2, t45, kb45, rfl, (((((((((Keep.refl h0 []).ext E2).ext E4).trans K8 (allS (Or.inr (leA (by omega))) all0)).trans K11 (allS (Or.inr (leA (by omega))) all0)).trans K14 (allS (Or.inr (leA (by omega))) all0)).trans K17 (allS (Or.inr (leA (by omega))) all0)).trans K20 (allS (Or.inr (leA (by omega))) all0)).trans K45 (allS (Or.inr (leA (by omega))) all0)), g45_5⟩)
abbrev RrmWs0 : Room := { frames := 5, cells := 2, slots := 12, locals := 84 }
def QrmWs0 (Z : State) (x : Addr) (b : Addr) (kb : ClassId) (h0 : Heap) (v : Option Value) (vm : Vm) (h : Heap) : Prop := ∃ (a : Addr) (t : Addr) (kt : ClassId) (ds : List Int32), v = some (.ref a) ∧ Keep h0 h [] ∧ Str Z h a t kt ds ∧ ds = trimL []
theorem rmWs0 (hc : Cx Z a0 zc fm) (x : Addr) (b : Addr) (kb : ClassId) (h0 : Heap) (O0 : Old Z Z.heap.size h0) (Pr0 : Str Z h0 x b kb []) : Met l Z consts_1 (⟨"org/holdfast/model/Content", "withoutSpace", "(Ljava/lang/String;)Ljava/lang/String;"⟩ : MethodName) prog_17_method_4_code 3 (some (.object "java/lang/String")) [] RrmWs0 [] #[(.ref x)] h0 (QrmWs0 Z x b kb h0) := by
  have ⟨hw, hEL, O2, P5, O4, P6⟩ := hc
  refine Met.start (a0 := a0) (Ls := #[vR x, .unset, .unset]) pn8 hEL O0 (fun m => by first | (simp [entryFrame, mkF, argsToLocals, Value.category]; done) | rfl) ?_
  intro p e s m below meth cc T0 vm0 X0 sf0_ hby hml hret hnm
  have hx := X0.hx
  have D : ∀ {n r}, decode prog_17_method_4_code n = r → decode cc.code n = r := fun d => hb hby d
  have zz := X0.ge
  have A0 := X0.at
  have l1 := ltA Pr0.lt
  have l2 := ltA Pr0.lb
  refine Gets.via (fun _ k => (XS.iconst A0 hx rfl (D d8_0) (XS.istoreN A0 hx rfl (D d8_1) rfl (l' := #[vR x, vI (0 : Int32), .unset]) rfl (XS.aloadN A0 hx rfl (D d8_2) rfl rfl k)))) ?_
  refine X0.callV (W := 0) (w42 hw) (w43 hw) (w45 hw) (w44 hw) (nfs rfl (w45 hw)) (by decide) (payLen X0 hw (w10 hw) Pr0 O2 P5 (by decide) (by decide)) Pr0.1 rfl (sz hml rfl) (argsL := []) (rest := []) (lenOf pd6 rfl) rfl rfl (mroom rfl rfl) (D d8_3) (by decide) (by decide) fun T3 h3 vm3 v3 X3 C3 z3 q3 => ?_
  obtain ⟨rfl, K3⟩ := q3
  rw [K3] at X3 C3
  have A4 := X3.at
  refine Gets.via (fun _ k => (XS.istoreN A4 hx rfl (D d8_6) rfl (l' := #[vR x, vI (0 : Int32), vI (0 : Int32)]) rfl (XS.iloadN A4 hx rfl (D d8_7) rfl (XS.iloadN A4 hx rfl (D d8_8) rfl (XS.icmpYes A4 hx rfl (pc0 := 9) (pc' := 29) rfl (D d8_9) rfl (Jvm.Free.XT.ii_ge_t (by decide)) (by decide) (by decide) k))))) ?_
  show Gets p e below _ (T3.setTop (mkF m 29 #[vR x, vI (0 : Int32), vI (0 : Int32)] []))
  refine Gets.via (fun _ k => (XS.iloadN A4 hx rfl (D d8_29) rfl (XS.iloadN A4 hx rfl (D d8_30) rfl (XS.icmpYes A4 hx rfl (pc0 := 31) (pc' := 53) rfl (D d8_31) rfl (Jvm.Free.XT.ii_le_t (by decide)) (by decide) (by decide) k)))) ?_
  refine Gets.via (fun _ k => (XS.aloadN A4 hx rfl (D d8_53) rfl rfl (XS.iloadN A4 hx rfl (D d8_54) rfl (XS.iloadN A4 hx rfl (D d8_55) rfl k)))) ?_
  refine X3.callV (W := 0) (w77 hw) (w78 hw) (w80 hw) (w79 hw) (nfs rfl (w80 hw)) (by decide) (X3.payM (sf := []) (rmSubs hc x b kb [] 0 0 h0 X3.old Pr0 (by first | exact Nat.le_of_ble_eq_true rfl | omega) (by decide)) sf0 (w81 hw) (w11 hw) (by decide) (by decide)) Pr0.1 rfl (sz hml rfl) (argsL := [(.int (0 : Int32)), (.int (0 : Int32))]) (rest := []) (lenOf pd14 rfl) rfl rfl (mroom rfl rfl) (D d8_56) (by decide) (by decide) fun T5 h5 vm5 v5 X5 C5 z5 q5 => ?_
  obtain ⟨a5, t5, kt5, ds5, rfl, K5, g5_0, rfl⟩ := q5
  have l6 := ltA g5_0.lt
  have l7 := ltA g5_0.lb
  exact X5.retA hret rfl rfl rfl (D d8_59) (by decide) (by decide) (fun vmE CE => ⟨a5, t5, kt5, ((([].drop 0).take 0)), rfl, ((Keep.refl h0 []).trans K5 all0), g5_0, rfl⟩)
abbrev RrmWs1 : Room := { frames := 5, cells := 2, slots := 12, locals := 84 }
def QrmWs1 (Z : State) (x : Addr) (b : Addr) (kb : ClassId) (c0 : Int32) (h0 : Heap) (v : Option Value) (vm : Vm) (h : Heap) : Prop := ∃ (a : Addr) (t : Addr) (kt : ClassId) (ds : List Int32), v = some (.ref a) ∧ Keep h0 h [] ∧ Str Z h a t kt ds ∧ ds = trimL [c0]
theorem rmWs1 (hc : Cx Z a0 zc fm) (x : Addr) (b : Addr) (kb : ClassId) (c0 : Int32) (h0 : Heap) (O0 : Old Z Z.heap.size h0) (Pr0 : Str Z h0 x b kb [c0]) : Met l Z consts_1 (⟨"org/holdfast/model/Content", "withoutSpace", "(Ljava/lang/String;)Ljava/lang/String;"⟩ : MethodName) prog_17_method_4_code 3 (some (.object "java/lang/String")) [] RrmWs1 [] #[(.ref x)] h0 (QrmWs1 Z x b kb c0 h0) := by
  have ⟨hw, hEL, O2, P5, O4, P6⟩ := hc
  refine Met.start (a0 := a0) (Ls := #[vR x, .unset, .unset]) pn8 hEL O0 (fun m => by first | (simp [entryFrame, mkF, argsToLocals, Value.category]; done) | rfl) ?_
  intro p e s m below meth cc T0 vm0 X0 sf0_ hby hml hret hnm
  have hx := X0.hx
  have D : ∀ {n r}, decode prog_17_method_4_code n = r → decode cc.code n = r := fun d => hb hby d
  have zz := X0.ge
  have A0 := X0.at
  have l1 := ltA Pr0.lt
  have l2 := ltA Pr0.lb
  refine Gets.via (fun _ k => (XS.iconst A0 hx rfl (D d8_0) (XS.istoreN A0 hx rfl (D d8_1) rfl (l' := #[vR x, vI (0 : Int32), .unset]) rfl (XS.aloadN A0 hx rfl (D d8_2) rfl rfl k)))) ?_
  refine X0.callV (W := 0) (w42 hw) (w43 hw) (w45 hw) (w44 hw) (nfs rfl (w45 hw)) (by decide) (payLen X0 hw (w10 hw) Pr0 O2 P5 (by decide) (by decide)) Pr0.1 rfl (sz hml rfl) (argsL := []) (rest := []) (lenOf pd6 rfl) rfl rfl (mroom rfl rfl) (D d8_3) (by decide) (by decide) fun T3 h3 vm3 v3 X3 C3 z3 q3 => ?_
  obtain ⟨rfl, K3⟩ := q3
  rw [K3] at X3 C3
  have A4 := X3.at
  refine Gets.via (fun _ k => (XS.istoreN A4 hx rfl (D d8_6) rfl (l' := #[vR x, vI (0 : Int32), vI (1 : Int32)]) rfl (XS.iloadN A4 hx rfl (D d8_7) rfl (XS.iloadN A4 hx rfl (D d8_8) rfl (XS.icmpNo A4 hx rfl (D d8_9) rfl (Jvm.Free.XT.ii_ge_f (by decide)) k))))) ?_
  show Gets p e below _ (T3.setTop (mkF m 12 #[vR x, vI (0 : Int32), vI (1 : Int32)] []))
  refine Gets.via (fun _ k => (XS.aloadN A4 hx rfl (D d8_12) rfl rfl (XS.iloadN A4 hx rfl (D d8_13) rfl k))) ?_
  refine X3.callV (W := 0) (w52 hw) (w53 hw) (w55 hw) (w54 hw) (nfs rfl (w55 hw)) (by decide) (payCh X3 hw (w10 hw) Pr0 O2 P5 O4 P6 (0) (Nat.le_of_ble_eq_true rfl) rfl (by decide) (by decide)) Pr0.1 rfl (sz hml rfl) (argsL := [(.int (0 : Int32))]) (rest := []) (lenOf pd11 rfl) rfl rfl (mroom rfl rfl) (D d8_14) (by decide) (by decide) fun T5 h5 vm5 v5 X5 C5 z5 q5 => ?_
  obtain ⟨rfl, K5⟩ := q5
  rw [K5] at X5 C5
  refine X5.callS (W := 0) (w74 hw) (w75 hw) (w40 hw) (w76 hw) (by decide) (X5.payM (sf := []) (rmIsSp hc c0 h0 X5.old ) sf0 (w76 hw) (w40 hw) (by decide) (by decide)) rfl (sz hml rfl) (argsL := [(.int c0)]) (rest := []) (lenOf pd12 rfl) rfl rfl (mroom rfl rfl) (D d8_17) (by decide) (by decide) fun T6 h6 vm6 v6 X6 C6 z6 q6 => ?_
  obtain ⟨r6, rfl, K6, rfl⟩ := q6
  rw [K6] at X6 C6
  by_cases b20 : (if sp c0 = true then 1 else 0) = (0 : Int32)
  · have A7 := X6.at
    refine Gets.via (fun _ k => (XS.ifYes A7 hx rfl (pc0 := 20) (pc' := 29) rfl (D d8_20) rfl (Jvm.Free.XT.i0_eq_t b20) (by decide) (by decide) k)) ?_
    refine Gets.via (fun _ k => (XS.iloadN A7 hx rfl (D d8_29) rfl (XS.iloadN A7 hx rfl (D d8_30) rfl (XS.icmpNo A7 hx rfl (D d8_31) rfl (Jvm.Free.XT.ii_le_f (by decide)) k)))) ?_
    show Gets p e below _ (T6.setTop (mkF m 34 #[vR x, vI (0 : Int32), vI (1 : Int32)] []))
    refine Gets.via (fun _ k => (XS.aloadN A7 hx rfl (D d8_34) rfl rfl (XS.iloadN A7 hx rfl (D d8_35) rfl (XS.iconst A7 hx rfl (D d8_36) (isubV A7 hx rfl (D d8_37) rfl (v := (0 : Int32)) (by decide) k))))) ?_
    refine X6.callV (W := 0) (w52 hw) (w53 hw) (w55 hw) (w54 hw) (nfs rfl (w55 hw)) (by decide) (payCh X6 hw (w10 hw) Pr0 O2 P5 O4 P6 (0) (Nat.le_of_ble_eq_true rfl) rfl (by decide) (by decide)) Pr0.1 rfl (sz hml rfl) (argsL := [(.int (0 : Int32))]) (rest := []) (lenOf pd11 rfl) rfl rfl (mroom rfl rfl) (D d8_38) (by decide) (by decide) fun T8 h8 vm8 v8 X8 C8 z8 q8 => ?_
    obtain ⟨rfl, K8⟩ := q8
    rw [K8] at X8 C8
    refine X8.callS (W := 0) (w74 hw) (w75 hw) (w40 hw) (w76 hw) (by decide) (X8.payM (sf := []) (rmIsSp hc c0 h0 X8.old ) sf0 (w76 hw) (w40 hw) (by decide) (by decide)) rfl (sz hml rfl) (argsL := [(.int c0)]) (rest := []) (lenOf pd12 rfl) rfl rfl (mroom rfl rfl) (D d8_41) (by decide) (by decide) fun T9 h9 vm9 v9 X9 C9 z9 q9 => ?_
    obtain ⟨r9, rfl, K9, rfl⟩ := q9
    rw [K9] at X9 C9
    have A10 := X9.at
    refine Gets.via (fun _ k => (XS.ifYes A10 hx rfl (pc0 := 44) (pc' := 53) rfl (D d8_44) rfl (Jvm.Free.XT.i0_eq_t b20) (by decide) (by decide) k)) ?_
    refine Gets.via (fun _ k => (XS.aloadN A10 hx rfl (D d8_53) rfl rfl (XS.iloadN A10 hx rfl (D d8_54) rfl (XS.iloadN A10 hx rfl (D d8_55) rfl k)))) ?_
    show Gets p e below _ (T9.setTop (mkF m 56 #[vR x, vI (0 : Int32), vI (1 : Int32)] [(.int (1 : Int32)), (.int (0 : Int32)), (.ref x)]))
    refine X9.callV (W := 0) (w77 hw) (w78 hw) (w80 hw) (w79 hw) (nfs rfl (w80 hw)) (by decide) (X9.payM (sf := []) (rmSubs hc x b kb [c0] 0 1 h0 X9.old Pr0 (by first | exact Nat.le_of_ble_eq_true rfl | omega) (by decide)) sf0 (w81 hw) (w11 hw) (by decide) (by decide)) Pr0.1 rfl (sz hml rfl) (argsL := [(.int (0 : Int32)), (.int (1 : Int32))]) (rest := []) (lenOf pd14 rfl) rfl rfl (mroom rfl rfl) (D d8_56) (by decide) (by decide) fun T11 h11 vm11 v11 X11 C11 z11 q11 => ?_
    obtain ⟨a11, t11, kt11, ds11, rfl, K11, g11_0, rfl⟩ := q11
    have l12 := ltA g11_0.lt
    have l13 := ltA g11_0.lb
    exact X11.retA hret rfl rfl rfl (D d8_59) (by decide) (by decide) (fun vmE CE => ⟨a11, t11, kt11, ((([c0].drop 0).take 1)), rfl, ((Keep.refl h0 []).trans K11 all0), g11_0, (by simp [trimL, sp_no b20])⟩)
  · have A14 := X6.at
    refine Gets.via (fun _ k => (XS.ifNo A14 hx rfl (D d8_20) rfl (Jvm.Free.XT.i0_eq_f b20) k)) ?_
    refine Gets.via (fun _ k => (iincV A14 hx rfl (D d8_23) rfl (v := (1 : Int32)) (by decide) (l' := #[vR x, vI (1 : Int32), vI (1 : Int32)]) rfl (XS.goto A14 hx rfl (pc0 := 26) (pc' := 7) rfl (D d8_26) (by decide) (by decide) k))) ?_
    refine Gets.via (fun _ k => (XS.iloadN A14 hx rfl (D d8_7) rfl (XS.iloadN A14 hx rfl (D d8_8) rfl (XS.icmpYes A14 hx rfl (pc0 := 9) (pc' := 29) rfl (D d8_9) rfl (Jvm.Free.XT.ii_ge_t (by decide)) (by decide) (by decide) k)))) ?_
    refine Gets.via (fun _ k => (XS.iloadN A14 hx rfl (D d8_29) rfl (XS.iloadN A14 hx rfl (D d8_30) rfl (XS.icmpYes A14 hx rfl (pc0 := 31) (pc' := 53) rfl (D d8_31) rfl (Jvm.Free.XT.ii_le_t (by decide)) (by decide) (by decide) k)))) ?_
    show Gets p e below _ (T6.setTop (mkF m 53 #[vR x, vI (1 : Int32), vI (1 : Int32)] []))
    refine Gets.via (fun _ k => (XS.aloadN A14 hx rfl (D d8_53) rfl rfl (XS.iloadN A14 hx rfl (D d8_54) rfl (XS.iloadN A14 hx rfl (D d8_55) rfl k)))) ?_
    refine X6.callV (W := 0) (w77 hw) (w78 hw) (w80 hw) (w79 hw) (nfs rfl (w80 hw)) (by decide) (X6.payM (sf := []) (rmSubs hc x b kb [c0] 1 0 h0 X6.old Pr0 (by first | exact Nat.le_of_ble_eq_true rfl | omega) (by decide)) sf0 (w81 hw) (w11 hw) (by decide) (by decide)) Pr0.1 rfl (sz hml rfl) (argsL := [(.int (1 : Int32)), (.int (1 : Int32))]) (rest := []) (lenOf pd14 rfl) rfl rfl (mroom rfl rfl) (D d8_56) (by decide) (by decide) fun T15 h15 vm15 v15 X15 C15 z15 q15 => ?_
    obtain ⟨a15, t15, kt15, ds15, rfl, K15, g15_0, rfl⟩ := q15
    have l16 := ltA g15_0.lt
    have l17 := ltA g15_0.lb
    exact X15.retA hret rfl rfl rfl (D d8_59) (by decide) (by decide) (fun vmE CE => ⟨a15, t15, kt15, ((([c0].drop 1).take 0)), rfl, ((Keep.refl h0 []).trans K15 all0), g15_0, (by simp [trimL, sp_yes b20])⟩)
abbrev RrmWs2 : Room := { frames := 5, cells := 2, slots := 12, locals := 84 }
def QrmWs2 (Z : State) (x : Addr) (b : Addr) (kb : ClassId) (c0 : Int32) (c1 : Int32) (h0 : Heap) (v : Option Value) (vm : Vm) (h : Heap) : Prop := ∃ (a : Addr) (t : Addr) (kt : ClassId) (ds : List Int32), v = some (.ref a) ∧ Keep h0 h [] ∧ Str Z h a t kt ds ∧ ds = trimL [c0, c1]
theorem rmWs2 (hc : Cx Z a0 zc fm) (x : Addr) (b : Addr) (kb : ClassId) (c0 : Int32) (c1 : Int32) (h0 : Heap) (O0 : Old Z Z.heap.size h0) (Pr0 : Str Z h0 x b kb [c0, c1]) : Met l Z consts_1 (⟨"org/holdfast/model/Content", "withoutSpace", "(Ljava/lang/String;)Ljava/lang/String;"⟩ : MethodName) prog_17_method_4_code 3 (some (.object "java/lang/String")) [] RrmWs2 [] #[(.ref x)] h0 (QrmWs2 Z x b kb c0 c1 h0) := by
  have ⟨hw, hEL, O2, P5, O4, P6⟩ := hc
  refine Met.start (a0 := a0) (Ls := #[vR x, .unset, .unset]) pn8 hEL O0 (fun m => by first | (simp [entryFrame, mkF, argsToLocals, Value.category]; done) | rfl) ?_
  intro p e s m below meth cc T0 vm0 X0 sf0_ hby hml hret hnm
  have hx := X0.hx
  have D : ∀ {n r}, decode prog_17_method_4_code n = r → decode cc.code n = r := fun d => hb hby d
  have zz := X0.ge
  have A0 := X0.at
  have l1 := ltA Pr0.lt
  have l2 := ltA Pr0.lb
  refine Gets.via (fun _ k => (XS.iconst A0 hx rfl (D d8_0) (XS.istoreN A0 hx rfl (D d8_1) rfl (l' := #[vR x, vI (0 : Int32), .unset]) rfl (XS.aloadN A0 hx rfl (D d8_2) rfl rfl k)))) ?_
  refine X0.callV (W := 0) (w42 hw) (w43 hw) (w45 hw) (w44 hw) (nfs rfl (w45 hw)) (by decide) (payLen X0 hw (w10 hw) Pr0 O2 P5 (by decide) (by decide)) Pr0.1 rfl (sz hml rfl) (argsL := []) (rest := []) (lenOf pd6 rfl) rfl rfl (mroom rfl rfl) (D d8_3) (by decide) (by decide) fun T3 h3 vm3 v3 X3 C3 z3 q3 => ?_
  obtain ⟨rfl, K3⟩ := q3
  rw [K3] at X3 C3
  have A4 := X3.at
  refine Gets.via (fun _ k => (XS.istoreN A4 hx rfl (D d8_6) rfl (l' := #[vR x, vI (0 : Int32), vI (2 : Int32)]) rfl (XS.iloadN A4 hx rfl (D d8_7) rfl (XS.iloadN A4 hx rfl (D d8_8) rfl (XS.icmpNo A4 hx rfl (D d8_9) rfl (Jvm.Free.XT.ii_ge_f (by decide)) k))))) ?_
  show Gets p e below _ (T3.setTop (mkF m 12 #[vR x, vI (0 : Int32), vI (2 : Int32)] []))
  refine Gets.via (fun _ k => (XS.aloadN A4 hx rfl (D d8_12) rfl rfl (XS.iloadN A4 hx rfl (D d8_13) rfl k))) ?_
  refine X3.callV (W := 0) (w52 hw) (w53 hw) (w55 hw) (w54 hw) (nfs rfl (w55 hw)) (by decide) (payCh X3 hw (w10 hw) Pr0 O2 P5 O4 P6 (0) (Nat.le_of_ble_eq_true rfl) rfl (by decide) (by decide)) Pr0.1 rfl (sz hml rfl) (argsL := [(.int (0 : Int32))]) (rest := []) (lenOf pd11 rfl) rfl rfl (mroom rfl rfl) (D d8_14) (by decide) (by decide) fun T5 h5 vm5 v5 X5 C5 z5 q5 => ?_
  obtain ⟨rfl, K5⟩ := q5
  rw [K5] at X5 C5
  refine X5.callS (W := 0) (w74 hw) (w75 hw) (w40 hw) (w76 hw) (by decide) (X5.payM (sf := []) (rmIsSp hc c0 h0 X5.old ) sf0 (w76 hw) (w40 hw) (by decide) (by decide)) rfl (sz hml rfl) (argsL := [(.int c0)]) (rest := []) (lenOf pd12 rfl) rfl rfl (mroom rfl rfl) (D d8_17) (by decide) (by decide) fun T6 h6 vm6 v6 X6 C6 z6 q6 => ?_
  obtain ⟨r6, rfl, K6, rfl⟩ := q6
  rw [K6] at X6 C6
  by_cases b20 : (if sp c0 = true then 1 else 0) = (0 : Int32)
  · have A7 := X6.at
    refine Gets.via (fun _ k => (XS.ifYes A7 hx rfl (pc0 := 20) (pc' := 29) rfl (D d8_20) rfl (Jvm.Free.XT.i0_eq_t b20) (by decide) (by decide) k)) ?_
    refine Gets.via (fun _ k => (XS.iloadN A7 hx rfl (D d8_29) rfl (XS.iloadN A7 hx rfl (D d8_30) rfl (XS.icmpNo A7 hx rfl (D d8_31) rfl (Jvm.Free.XT.ii_le_f (by decide)) k)))) ?_
    show Gets p e below _ (T6.setTop (mkF m 34 #[vR x, vI (0 : Int32), vI (2 : Int32)] []))
    refine Gets.via (fun _ k => (XS.aloadN A7 hx rfl (D d8_34) rfl rfl (XS.iloadN A7 hx rfl (D d8_35) rfl (XS.iconst A7 hx rfl (D d8_36) (isubV A7 hx rfl (D d8_37) rfl (v := (1 : Int32)) (by decide) k))))) ?_
    refine X6.callV (W := 0) (w52 hw) (w53 hw) (w55 hw) (w54 hw) (nfs rfl (w55 hw)) (by decide) (payCh X6 hw (w10 hw) Pr0 O2 P5 O4 P6 (1) (Nat.le_of_ble_eq_true rfl) rfl (by decide) (by decide)) Pr0.1 rfl (sz hml rfl) (argsL := [(.int (1 : Int32))]) (rest := []) (lenOf pd11 rfl) rfl rfl (mroom rfl rfl) (D d8_38) (by decide) (by decide) fun T8 h8 vm8 v8 X8 C8 z8 q8 => ?_
    obtain ⟨rfl, K8⟩ := q8
    rw [K8] at X8 C8
    refine X8.callS (W := 0) (w74 hw) (w75 hw) (w40 hw) (w76 hw) (by decide) (X8.payM (sf := []) (rmIsSp hc c1 h0 X8.old ) sf0 (w76 hw) (w40 hw) (by decide) (by decide)) rfl (sz hml rfl) (argsL := [(.int c1)]) (rest := []) (lenOf pd12 rfl) rfl rfl (mroom rfl rfl) (D d8_41) (by decide) (by decide) fun T9 h9 vm9 v9 X9 C9 z9 q9 => ?_
    obtain ⟨r9, rfl, K9, rfl⟩ := q9
    rw [K9] at X9 C9
    by_cases b44 : (if sp c1 = true then 1 else 0) = (0 : Int32)
    · have A10 := X9.at
      refine Gets.via (fun _ k => (XS.ifYes A10 hx rfl (pc0 := 44) (pc' := 53) rfl (D d8_44) rfl (Jvm.Free.XT.i0_eq_t b44) (by decide) (by decide) k)) ?_
      refine Gets.via (fun _ k => (XS.aloadN A10 hx rfl (D d8_53) rfl rfl (XS.iloadN A10 hx rfl (D d8_54) rfl (XS.iloadN A10 hx rfl (D d8_55) rfl k)))) ?_
      show Gets p e below _ (T9.setTop (mkF m 56 #[vR x, vI (0 : Int32), vI (2 : Int32)] [(.int (2 : Int32)), (.int (0 : Int32)), (.ref x)]))
      refine X9.callV (W := 0) (w77 hw) (w78 hw) (w80 hw) (w79 hw) (nfs rfl (w80 hw)) (by decide) (X9.payM (sf := []) (rmSubs hc x b kb [c0, c1] 0 2 h0 X9.old Pr0 (by first | exact Nat.le_of_ble_eq_true rfl | omega) (by decide)) sf0 (w81 hw) (w11 hw) (by decide) (by decide)) Pr0.1 rfl (sz hml rfl) (argsL := [(.int (0 : Int32)), (.int (2 : Int32))]) (rest := []) (lenOf pd14 rfl) rfl rfl (mroom rfl rfl) (D d8_56) (by decide) (by decide) fun T11 h11 vm11 v11 X11 C11 z11 q11 => ?_
      obtain ⟨a11, t11, kt11, ds11, rfl, K11, g11_0, rfl⟩ := q11
      have l12 := ltA g11_0.lt
      have l13 := ltA g11_0.lb
      exact X11.retA hret rfl rfl rfl (D d8_59) (by decide) (by decide) (fun vmE CE => ⟨a11, t11, kt11, ((([c0, c1].drop 0).take 2)), rfl, ((Keep.refl h0 []).trans K11 all0), g11_0, (by simp [trimL, sp_no b20, sp_no b44])⟩)
    · have A14 := X9.at
      refine Gets.via (fun _ k => (XS.ifNo A14 hx rfl (D d8_44) rfl (Jvm.Free.XT.i0_eq_f b44) k)) ?_
      refine Gets.via (fun _ k => (iincV A14 hx rfl (D d8_47) rfl (v := (1 : Int32)) (by decide) (l' := #[vR x, vI (0 : Int32), vI (1 : Int32)]) rfl (XS.goto A14 hx rfl (pc0 := 50) (pc' := 29) rfl (D d8_50) (by decide) (by decide) k))) ?_
      refine Gets.via (fun _ k => (XS.iloadN A14 hx rfl (D d8_29) rfl (XS.iloadN A14 hx rfl (D d8_30) rfl (XS.icmpNo A14 hx rfl (D d8_31) rfl (Jvm.Free.XT.ii_le_f (by decide)) k)))) ?_
      refine Gets.via (fun _ k => (XS.aloadN A14 hx rfl (D d8_34) rfl rfl (XS.iloadN A14 hx rfl (D d8_35) rfl (XS.iconst A14 hx rfl (D d8_36) (isubV A14 hx rfl (D d8_37) rfl (v := (0 : Int32)) (by decide) k))))) ?_
      show Gets p e below _ (T9.setTop (mkF m 38 #[vR x, vI (0 : Int32), vI (1 : Int32)] [(.int (0 : Int32)), (.ref x)]))
      refine X9.callV (W := 0) (w52 hw) (w53 hw) (w55 hw) (w54 hw) (nfs rfl (w55 hw)) (by decide) (payCh X9 hw (w10 hw) Pr0 O2 P5 O4 P6 (0) (Nat.le_of_ble_eq_true rfl) rfl (by decide) (by decide)) Pr0.1 rfl (sz hml rfl) (argsL := [(.int (0 : Int32))]) (rest := []) (lenOf pd11 rfl) rfl rfl (mroom rfl rfl) (D d8_38) (by decide) (by decide) fun T15 h15 vm15 v15 X15 C15 z15 q15 => ?_
      obtain ⟨rfl, K15⟩ := q15
      rw [K15] at X15 C15
      refine X15.callS (W := 0) (w74 hw) (w75 hw) (w40 hw) (w76 hw) (by decide) (X15.payM (sf := []) (rmIsSp hc c0 h0 X15.old ) sf0 (w76 hw) (w40 hw) (by decide) (by decide)) rfl (sz hml rfl) (argsL := [(.int c0)]) (rest := []) (lenOf pd12 rfl) rfl rfl (mroom rfl rfl) (D d8_41) (by decide) (by decide) fun T16 h16 vm16 v16 X16 C16 z16 q16 => ?_
      obtain ⟨r16, rfl, K16, rfl⟩ := q16
      rw [K16] at X16 C16
      have A17 := X16.at
      refine Gets.via (fun _ k => (XS.ifYes A17 hx rfl (pc0 := 44) (pc' := 53) rfl (D d8_44) rfl (Jvm.Free.XT.i0_eq_t b20) (by decide) (by decide) k)) ?_
      refine Gets.via (fun _ k => (XS.aloadN A17 hx rfl (D d8_53) rfl rfl (XS.iloadN A17 hx rfl (D d8_54) rfl (XS.iloadN A17 hx rfl (D d8_55) rfl k)))) ?_
      refine X16.callV (W := 0) (w77 hw) (w78 hw) (w80 hw) (w79 hw) (nfs rfl (w80 hw)) (by decide) (X16.payM (sf := []) (rmSubs hc x b kb [c0, c1] 0 1 h0 X16.old Pr0 (by first | exact Nat.le_of_ble_eq_true rfl | omega) (by decide)) sf0 (w81 hw) (w11 hw) (by decide) (by decide)) Pr0.1 rfl (sz hml rfl) (argsL := [(.int (0 : Int32)), (.int (1 : Int32))]) (rest := []) (lenOf pd14 rfl) rfl rfl (mroom rfl rfl) (D d8_56) (by decide) (by decide) fun T18 h18 vm18 v18 X18 C18 z18 q18 => ?_
      obtain ⟨a18, t18, kt18, ds18, rfl, K18, g18_0, rfl⟩ := q18
      have l19 := ltA g18_0.lt
      have l20 := ltA g18_0.lb
      show Gets p e below _ (T18.setTop (mkF m 59 #[vR x, vI (0 : Int32), vI (1 : Int32)] [(.ref a18)]))
      exact X18.retA hret rfl rfl rfl (D d8_59) (by decide) (by decide) (fun vmE CE => ⟨a18, t18, kt18, ((([c0, c1].drop 0).take 1)), rfl, ((Keep.refl h0 []).trans K18 all0), g18_0, (by simp [trimL, sp_no b20, sp_yes b44])⟩)
  · have A21 := X6.at
    refine Gets.via (fun _ k => (XS.ifNo A21 hx rfl (D d8_20) rfl (Jvm.Free.XT.i0_eq_f b20) k)) ?_
    refine Gets.via (fun _ k => (iincV A21 hx rfl (D d8_23) rfl (v := (1 : Int32)) (by decide) (l' := #[vR x, vI (1 : Int32), vI (2 : Int32)]) rfl (XS.goto A21 hx rfl (pc0 := 26) (pc' := 7) rfl (D d8_26) (by decide) (by decide) k))) ?_
    refine Gets.via (fun _ k => (XS.iloadN A21 hx rfl (D d8_7) rfl (XS.iloadN A21 hx rfl (D d8_8) rfl (XS.icmpNo A21 hx rfl (D d8_9) rfl (Jvm.Free.XT.ii_ge_f (by decide)) k)))) ?_
    refine Gets.via (fun _ k => (XS.aloadN A21 hx rfl (D d8_12) rfl rfl (XS.iloadN A21 hx rfl (D d8_13) rfl k))) ?_
    refine X6.callV (W := 0) (w52 hw) (w53 hw) (w55 hw) (w54 hw) (nfs rfl (w55 hw)) (by decide) (payCh X6 hw (w10 hw) Pr0 O2 P5 O4 P6 (1) (Nat.le_of_ble_eq_true rfl) rfl (by decide) (by decide)) Pr0.1 rfl (sz hml rfl) (argsL := [(.int (1 : Int32))]) (rest := []) (lenOf pd11 rfl) rfl rfl (mroom rfl rfl) (D d8_14) (by decide) (by decide) fun T22 h22 vm22 v22 X22 C22 z22 q22 => ?_
    obtain ⟨rfl, K22⟩ := q22
    rw [K22] at X22 C22
    refine X22.callS (W := 0) (w74 hw) (w75 hw) (w40 hw) (w76 hw) (by decide) (X22.payM (sf := []) (rmIsSp hc c1 h0 X22.old ) sf0 (w76 hw) (w40 hw) (by decide) (by decide)) rfl (sz hml rfl) (argsL := [(.int c1)]) (rest := []) (lenOf pd12 rfl) rfl rfl (mroom rfl rfl) (D d8_17) (by decide) (by decide) fun T23 h23 vm23 v23 X23 C23 z23 q23 => ?_
    obtain ⟨r23, rfl, K23, rfl⟩ := q23
    rw [K23] at X23 C23
    show Gets p e below _ (T23.setTop (mkF m 20 #[vR x, vI (1 : Int32), vI (2 : Int32)] [(.int (if sp c1 = true then 1 else 0))]))
    by_cases b20_1 : (if sp c1 = true then 1 else 0) = (0 : Int32)
    · have A24 := X23.at
      refine Gets.via (fun _ k => (XS.ifYes A24 hx rfl (pc0 := 20) (pc' := 29) rfl (D d8_20) rfl (Jvm.Free.XT.i0_eq_t b20_1) (by decide) (by decide) k)) ?_
      refine Gets.via (fun _ k => (XS.iloadN A24 hx rfl (D d8_29) rfl (XS.iloadN A24 hx rfl (D d8_30) rfl (XS.icmpNo A24 hx rfl (D d8_31) rfl (Jvm.Free.XT.ii_le_f (by decide)) k)))) ?_
      refine Gets.via (fun _ k => (XS.aloadN A24 hx rfl (D d8_34) rfl rfl (XS.iloadN A24 hx rfl (D d8_35) rfl (XS.iconst A24 hx rfl (D d8_36) (isubV A24 hx rfl (D d8_37) rfl (v := (1 : Int32)) (by decide) k))))) ?_
      refine X23.callV (W := 0) (w52 hw) (w53 hw) (w55 hw) (w54 hw) (nfs rfl (w55 hw)) (by decide) (payCh X23 hw (w10 hw) Pr0 O2 P5 O4 P6 (1) (Nat.le_of_ble_eq_true rfl) rfl (by decide) (by decide)) Pr0.1 rfl (sz hml rfl) (argsL := [(.int (1 : Int32))]) (rest := []) (lenOf pd11 rfl) rfl rfl (mroom rfl rfl) (D d8_38) (by decide) (by decide) fun T25 h25 vm25 v25 X25 C25 z25 q25 => ?_
      obtain ⟨rfl, K25⟩ := q25
      rw [K25] at X25 C25
      refine X25.callS (W := 0) (w74 hw) (w75 hw) (w40 hw) (w76 hw) (by decide) (X25.payM (sf := []) (rmIsSp hc c1 h0 X25.old ) sf0 (w76 hw) (w40 hw) (by decide) (by decide)) rfl (sz hml rfl) (argsL := [(.int c1)]) (rest := []) (lenOf pd12 rfl) rfl rfl (mroom rfl rfl) (D d8_41) (by decide) (by decide) fun T26 h26 vm26 v26 X26 C26 z26 q26 => ?_
      obtain ⟨r26, rfl, K26, rfl⟩ := q26
      rw [K26] at X26 C26
      show Gets p e below _ (T26.setTop (mkF m 44 #[vR x, vI (1 : Int32), vI (2 : Int32)] [(.int (if sp c1 = true then 1 else 0))]))
      have A27 := X26.at
      refine Gets.via (fun _ k => (XS.ifYes A27 hx rfl (pc0 := 44) (pc' := 53) rfl (D d8_44) rfl (Jvm.Free.XT.i0_eq_t b20_1) (by decide) (by decide) k)) ?_
      refine Gets.via (fun _ k => (XS.aloadN A27 hx rfl (D d8_53) rfl rfl (XS.iloadN A27 hx rfl (D d8_54) rfl (XS.iloadN A27 hx rfl (D d8_55) rfl k)))) ?_
      refine X26.callV (W := 0) (w77 hw) (w78 hw) (w80 hw) (w79 hw) (nfs rfl (w80 hw)) (by decide) (X26.payM (sf := []) (rmSubs hc x b kb [c0, c1] 1 1 h0 X26.old Pr0 (by first | exact Nat.le_of_ble_eq_true rfl | omega) (by decide)) sf0 (w81 hw) (w11 hw) (by decide) (by decide)) Pr0.1 rfl (sz hml rfl) (argsL := [(.int (1 : Int32)), (.int (2 : Int32))]) (rest := []) (lenOf pd14 rfl) rfl rfl (mroom rfl rfl) (D d8_56) (by decide) (by decide) fun T28 h28 vm28 v28 X28 C28 z28 q28 => ?_
      obtain ⟨a28, t28, kt28, ds28, rfl, K28, g28_0, rfl⟩ := q28
      have l29 := ltA g28_0.lt
      have l30 := ltA g28_0.lb
      exact X28.retA hret rfl rfl rfl (D d8_59) (by decide) (by decide) (fun vmE CE => ⟨a28, t28, kt28, ((([c0, c1].drop 1).take 1)), rfl, ((Keep.refl h0 []).trans K28 all0), g28_0, (by simp [trimL, sp_yes b20, sp_no b20_1])⟩)
    · have A31 := X23.at
      refine Gets.via (fun _ k => (XS.ifNo A31 hx rfl (D d8_20) rfl (Jvm.Free.XT.i0_eq_f b20_1) k)) ?_
      refine Gets.via (fun _ k => (iincV A31 hx rfl (D d8_23) rfl (v := (2 : Int32)) (by decide) (l' := #[vR x, vI (2 : Int32), vI (2 : Int32)]) rfl (XS.goto A31 hx rfl (pc0 := 26) (pc' := 7) rfl (D d8_26) (by decide) (by decide) k))) ?_
      refine Gets.via (fun _ k => (XS.iloadN A31 hx rfl (D d8_7) rfl (XS.iloadN A31 hx rfl (D d8_8) rfl (XS.icmpYes A31 hx rfl (pc0 := 9) (pc' := 29) rfl (D d8_9) rfl (Jvm.Free.XT.ii_ge_t (by decide)) (by decide) (by decide) k)))) ?_
      show Gets p e below _ (T23.setTop (mkF m 29 #[vR x, vI (2 : Int32), vI (2 : Int32)] []))
      refine Gets.via (fun _ k => (XS.iloadN A31 hx rfl (D d8_29) rfl (XS.iloadN A31 hx rfl (D d8_30) rfl (XS.icmpYes A31 hx rfl (pc0 := 31) (pc' := 53) rfl (D d8_31) rfl (Jvm.Free.XT.ii_le_t (by decide)) (by decide) (by decide) k)))) ?_
      refine Gets.via (fun _ k => (XS.aloadN A31 hx rfl (D d8_53) rfl rfl (XS.iloadN A31 hx rfl (D d8_54) rfl (XS.iloadN A31 hx rfl (D d8_55) rfl k)))) ?_
      refine X23.callV (W := 0) (w77 hw) (w78 hw) (w80 hw) (w79 hw) (nfs rfl (w80 hw)) (by decide) (X23.payM (sf := []) (rmSubs hc x b kb [c0, c1] 2 0 h0 X23.old Pr0 (by first | exact Nat.le_of_ble_eq_true rfl | omega) (by decide)) sf0 (w81 hw) (w11 hw) (by decide) (by decide)) Pr0.1 rfl (sz hml rfl) (argsL := [(.int (2 : Int32)), (.int (2 : Int32))]) (rest := []) (lenOf pd14 rfl) rfl rfl (mroom rfl rfl) (D d8_56) (by decide) (by decide) fun T32 h32 vm32 v32 X32 C32 z32 q32 => ?_
      obtain ⟨a32, t32, kt32, ds32, rfl, K32, g32_0, rfl⟩ := q32
      have l33 := ltA g32_0.lt
      have l34 := ltA g32_0.lb
      exact X32.retA hret rfl rfl rfl (D d8_59) (by decide) (by decide) (fun vmE CE => ⟨a32, t32, kt32, ((([c0, c1].drop 2).take 0)), rfl, ((Keep.refl h0 []).trans K32 all0), g32_0, (by simp [trimL, sp_yes b20, sp_yes b20_1])⟩)
abbrev RrmWs3 : Room := { frames := 5, cells := 2, slots := 12, locals := 84 }
def QrmWs3 (Z : State) (x : Addr) (b : Addr) (kb : ClassId) (c0 : Int32) (c1 : Int32) (c2 : Int32) (h0 : Heap) (v : Option Value) (vm : Vm) (h : Heap) : Prop := ∃ (a : Addr) (t : Addr) (kt : ClassId) (ds : List Int32), v = some (.ref a) ∧ Keep h0 h [] ∧ Str Z h a t kt ds ∧ ds = trimL [c0, c1, c2]
theorem rmWs3 (hc : Cx Z a0 zc fm) (x : Addr) (b : Addr) (kb : ClassId) (c0 : Int32) (c1 : Int32) (c2 : Int32) (h0 : Heap) (O0 : Old Z Z.heap.size h0) (Pr0 : Str Z h0 x b kb [c0, c1, c2]) : Met l Z consts_1 (⟨"org/holdfast/model/Content", "withoutSpace", "(Ljava/lang/String;)Ljava/lang/String;"⟩ : MethodName) prog_17_method_4_code 3 (some (.object "java/lang/String")) [] RrmWs3 [] #[(.ref x)] h0 (QrmWs3 Z x b kb c0 c1 c2 h0) := by
  have ⟨hw, hEL, O2, P5, O4, P6⟩ := hc
  refine Met.start (a0 := a0) (Ls := #[vR x, .unset, .unset]) pn8 hEL O0 (fun m => by first | (simp [entryFrame, mkF, argsToLocals, Value.category]; done) | rfl) ?_
  intro p e s m below meth cc T0 vm0 X0 sf0_ hby hml hret hnm
  have hx := X0.hx
  have D : ∀ {n r}, decode prog_17_method_4_code n = r → decode cc.code n = r := fun d => hb hby d
  have zz := X0.ge
  have A0 := X0.at
  have l1 := ltA Pr0.lt
  have l2 := ltA Pr0.lb
  refine Gets.via (fun _ k => (XS.iconst A0 hx rfl (D d8_0) (XS.istoreN A0 hx rfl (D d8_1) rfl (l' := #[vR x, vI (0 : Int32), .unset]) rfl (XS.aloadN A0 hx rfl (D d8_2) rfl rfl k)))) ?_
  refine X0.callV (W := 0) (w42 hw) (w43 hw) (w45 hw) (w44 hw) (nfs rfl (w45 hw)) (by decide) (payLen X0 hw (w10 hw) Pr0 O2 P5 (by decide) (by decide)) Pr0.1 rfl (sz hml rfl) (argsL := []) (rest := []) (lenOf pd6 rfl) rfl rfl (mroom rfl rfl) (D d8_3) (by decide) (by decide) fun T3 h3 vm3 v3 X3 C3 z3 q3 => ?_
  obtain ⟨rfl, K3⟩ := q3
  rw [K3] at X3 C3
  have A4 := X3.at
  refine Gets.via (fun _ k => (XS.istoreN A4 hx rfl (D d8_6) rfl (l' := #[vR x, vI (0 : Int32), vI (3 : Int32)]) rfl (XS.iloadN A4 hx rfl (D d8_7) rfl (XS.iloadN A4 hx rfl (D d8_8) rfl (XS.icmpNo A4 hx rfl (D d8_9) rfl (Jvm.Free.XT.ii_ge_f (by decide)) k))))) ?_
  show Gets p e below _ (T3.setTop (mkF m 12 #[vR x, vI (0 : Int32), vI (3 : Int32)] []))
  refine Gets.via (fun _ k => (XS.aloadN A4 hx rfl (D d8_12) rfl rfl (XS.iloadN A4 hx rfl (D d8_13) rfl k))) ?_
  refine X3.callV (W := 0) (w52 hw) (w53 hw) (w55 hw) (w54 hw) (nfs rfl (w55 hw)) (by decide) (payCh X3 hw (w10 hw) Pr0 O2 P5 O4 P6 (0) (Nat.le_of_ble_eq_true rfl) rfl (by decide) (by decide)) Pr0.1 rfl (sz hml rfl) (argsL := [(.int (0 : Int32))]) (rest := []) (lenOf pd11 rfl) rfl rfl (mroom rfl rfl) (D d8_14) (by decide) (by decide) fun T5 h5 vm5 v5 X5 C5 z5 q5 => ?_
  obtain ⟨rfl, K5⟩ := q5
  rw [K5] at X5 C5
  refine X5.callS (W := 0) (w74 hw) (w75 hw) (w40 hw) (w76 hw) (by decide) (X5.payM (sf := []) (rmIsSp hc c0 h0 X5.old ) sf0 (w76 hw) (w40 hw) (by decide) (by decide)) rfl (sz hml rfl) (argsL := [(.int c0)]) (rest := []) (lenOf pd12 rfl) rfl rfl (mroom rfl rfl) (D d8_17) (by decide) (by decide) fun T6 h6 vm6 v6 X6 C6 z6 q6 => ?_
  obtain ⟨r6, rfl, K6, rfl⟩ := q6
  rw [K6] at X6 C6
  by_cases b20 : (if sp c0 = true then 1 else 0) = (0 : Int32)
  · have A7 := X6.at
    refine Gets.via (fun _ k => (XS.ifYes A7 hx rfl (pc0 := 20) (pc' := 29) rfl (D d8_20) rfl (Jvm.Free.XT.i0_eq_t b20) (by decide) (by decide) k)) ?_
    refine Gets.via (fun _ k => (XS.iloadN A7 hx rfl (D d8_29) rfl (XS.iloadN A7 hx rfl (D d8_30) rfl (XS.icmpNo A7 hx rfl (D d8_31) rfl (Jvm.Free.XT.ii_le_f (by decide)) k)))) ?_
    show Gets p e below _ (T6.setTop (mkF m 34 #[vR x, vI (0 : Int32), vI (3 : Int32)] []))
    refine Gets.via (fun _ k => (XS.aloadN A7 hx rfl (D d8_34) rfl rfl (XS.iloadN A7 hx rfl (D d8_35) rfl (XS.iconst A7 hx rfl (D d8_36) (isubV A7 hx rfl (D d8_37) rfl (v := (2 : Int32)) (by decide) k))))) ?_
    refine X6.callV (W := 0) (w52 hw) (w53 hw) (w55 hw) (w54 hw) (nfs rfl (w55 hw)) (by decide) (payCh X6 hw (w10 hw) Pr0 O2 P5 O4 P6 (2) (Nat.le_of_ble_eq_true rfl) rfl (by decide) (by decide)) Pr0.1 rfl (sz hml rfl) (argsL := [(.int (2 : Int32))]) (rest := []) (lenOf pd11 rfl) rfl rfl (mroom rfl rfl) (D d8_38) (by decide) (by decide) fun T8 h8 vm8 v8 X8 C8 z8 q8 => ?_
    obtain ⟨rfl, K8⟩ := q8
    rw [K8] at X8 C8
    refine X8.callS (W := 0) (w74 hw) (w75 hw) (w40 hw) (w76 hw) (by decide) (X8.payM (sf := []) (rmIsSp hc c2 h0 X8.old ) sf0 (w76 hw) (w40 hw) (by decide) (by decide)) rfl (sz hml rfl) (argsL := [(.int c2)]) (rest := []) (lenOf pd12 rfl) rfl rfl (mroom rfl rfl) (D d8_41) (by decide) (by decide) fun T9 h9 vm9 v9 X9 C9 z9 q9 => ?_
    obtain ⟨r9, rfl, K9, rfl⟩ := q9
    rw [K9] at X9 C9
    by_cases b44 : (if sp c2 = true then 1 else 0) = (0 : Int32)
    · have A10 := X9.at
      refine Gets.via (fun _ k => (XS.ifYes A10 hx rfl (pc0 := 44) (pc' := 53) rfl (D d8_44) rfl (Jvm.Free.XT.i0_eq_t b44) (by decide) (by decide) k)) ?_
      refine Gets.via (fun _ k => (XS.aloadN A10 hx rfl (D d8_53) rfl rfl (XS.iloadN A10 hx rfl (D d8_54) rfl (XS.iloadN A10 hx rfl (D d8_55) rfl k)))) ?_
      show Gets p e below _ (T9.setTop (mkF m 56 #[vR x, vI (0 : Int32), vI (3 : Int32)] [(.int (3 : Int32)), (.int (0 : Int32)), (.ref x)]))
      refine X9.callV (W := 0) (w77 hw) (w78 hw) (w80 hw) (w79 hw) (nfs rfl (w80 hw)) (by decide) (X9.payM (sf := []) (rmSubs hc x b kb [c0, c1, c2] 0 3 h0 X9.old Pr0 (by first | exact Nat.le_of_ble_eq_true rfl | omega) (by decide)) sf0 (w81 hw) (w11 hw) (by decide) (by decide)) Pr0.1 rfl (sz hml rfl) (argsL := [(.int (0 : Int32)), (.int (3 : Int32))]) (rest := []) (lenOf pd14 rfl) rfl rfl (mroom rfl rfl) (D d8_56) (by decide) (by decide) fun T11 h11 vm11 v11 X11 C11 z11 q11 => ?_
      obtain ⟨a11, t11, kt11, ds11, rfl, K11, g11_0, rfl⟩ := q11
      have l12 := ltA g11_0.lt
      have l13 := ltA g11_0.lb
      exact X11.retA hret rfl rfl rfl (D d8_59) (by decide) (by decide) (fun vmE CE => ⟨a11, t11, kt11, ((([c0, c1, c2].drop 0).take 3)), rfl, ((Keep.refl h0 []).trans K11 all0), g11_0, (by simp [trimL, sp_no b20, sp_no b44])⟩)
    · have A14 := X9.at
      refine Gets.via (fun _ k => (XS.ifNo A14 hx rfl (D d8_44) rfl (Jvm.Free.XT.i0_eq_f b44) k)) ?_
      refine Gets.via (fun _ k => (iincV A14 hx rfl (D d8_47) rfl (v := (2 : Int32)) (by decide) (l' := #[vR x, vI (0 : Int32), vI (2 : Int32)]) rfl (XS.goto A14 hx rfl (pc0 := 50) (pc' := 29) rfl (D d8_50) (by decide) (by decide) k))) ?_
      refine Gets.via (fun _ k => (XS.iloadN A14 hx rfl (D d8_29) rfl (XS.iloadN A14 hx rfl (D d8_30) rfl (XS.icmpNo A14 hx rfl (D d8_31) rfl (Jvm.Free.XT.ii_le_f (by decide)) k)))) ?_
      refine Gets.via (fun _ k => (XS.aloadN A14 hx rfl (D d8_34) rfl rfl (XS.iloadN A14 hx rfl (D d8_35) rfl (XS.iconst A14 hx rfl (D d8_36) (isubV A14 hx rfl (D d8_37) rfl (v := (1 : Int32)) (by decide) k))))) ?_
      show Gets p e below _ (T9.setTop (mkF m 38 #[vR x, vI (0 : Int32), vI (2 : Int32)] [(.int (1 : Int32)), (.ref x)]))
      refine X9.callV (W := 0) (w52 hw) (w53 hw) (w55 hw) (w54 hw) (nfs rfl (w55 hw)) (by decide) (payCh X9 hw (w10 hw) Pr0 O2 P5 O4 P6 (1) (Nat.le_of_ble_eq_true rfl) rfl (by decide) (by decide)) Pr0.1 rfl (sz hml rfl) (argsL := [(.int (1 : Int32))]) (rest := []) (lenOf pd11 rfl) rfl rfl (mroom rfl rfl) (D d8_38) (by decide) (by decide) fun T15 h15 vm15 v15 X15 C15 z15 q15 => ?_
      obtain ⟨rfl, K15⟩ := q15
      rw [K15] at X15 C15
      refine X15.callS (W := 0) (w74 hw) (w75 hw) (w40 hw) (w76 hw) (by decide) (X15.payM (sf := []) (rmIsSp hc c1 h0 X15.old ) sf0 (w76 hw) (w40 hw) (by decide) (by decide)) rfl (sz hml rfl) (argsL := [(.int c1)]) (rest := []) (lenOf pd12 rfl) rfl rfl (mroom rfl rfl) (D d8_41) (by decide) (by decide) fun T16 h16 vm16 v16 X16 C16 z16 q16 => ?_
      obtain ⟨r16, rfl, K16, rfl⟩ := q16
      rw [K16] at X16 C16
      by_cases b44_1 : (if sp c1 = true then 1 else 0) = (0 : Int32)
      · have A17 := X16.at
        refine Gets.via (fun _ k => (XS.ifYes A17 hx rfl (pc0 := 44) (pc' := 53) rfl (D d8_44) rfl (Jvm.Free.XT.i0_eq_t b44_1) (by decide) (by decide) k)) ?_
        refine Gets.via (fun _ k => (XS.aloadN A17 hx rfl (D d8_53) rfl rfl (XS.iloadN A17 hx rfl (D d8_54) rfl (XS.iloadN A17 hx rfl (D d8_55) rfl k)))) ?_
        refine X16.callV (W := 0) (w77 hw) (w78 hw) (w80 hw) (w79 hw) (nfs rfl (w80 hw)) (by decide) (X16.payM (sf := []) (rmSubs hc x b kb [c0, c1, c2] 0 2 h0 X16.old Pr0 (by first | exact Nat.le_of_ble_eq_true rfl | omega) (by decide)) sf0 (w81 hw) (w11 hw) (by decide) (by decide)) Pr0.1 rfl (sz hml rfl) (argsL := [(.int (0 : Int32)), (.int (2 : Int32))]) (rest := []) (lenOf pd14 rfl) rfl rfl (mroom rfl rfl) (D d8_56) (by decide) (by decide) fun T18 h18 vm18 v18 X18 C18 z18 q18 => ?_
        obtain ⟨a18, t18, kt18, ds18, rfl, K18, g18_0, rfl⟩ := q18
        have l19 := ltA g18_0.lt
        have l20 := ltA g18_0.lb
        show Gets p e below _ (T18.setTop (mkF m 59 #[vR x, vI (0 : Int32), vI (2 : Int32)] [(.ref a18)]))
        exact X18.retA hret rfl rfl rfl (D d8_59) (by decide) (by decide) (fun vmE CE => ⟨a18, t18, kt18, ((([c0, c1, c2].drop 0).take 2)), rfl, ((Keep.refl h0 []).trans K18 all0), g18_0, (by simp [trimL, sp_no b20, sp_yes b44, sp_no b44_1])⟩)
      · have A21 := X16.at
        refine Gets.via (fun _ k => (XS.ifNo A21 hx rfl (D d8_44) rfl (Jvm.Free.XT.i0_eq_f b44_1) k)) ?_
        refine Gets.via (fun _ k => (iincV A21 hx rfl (D d8_47) rfl (v := (1 : Int32)) (by decide) (l' := #[vR x, vI (0 : Int32), vI (1 : Int32)]) rfl (XS.goto A21 hx rfl (pc0 := 50) (pc' := 29) rfl (D d8_50) (by decide) (by decide) k))) ?_
        refine Gets.via (fun _ k => (XS.iloadN A21 hx rfl (D d8_29) rfl (XS.iloadN A21 hx rfl (D d8_30) rfl (XS.icmpNo A21 hx rfl (D d8_31) rfl (Jvm.Free.XT.ii_le_f (by decide)) k)))) ?_
        refine Gets.via (fun _ k => (XS.aloadN A21 hx rfl (D d8_34) rfl rfl (XS.iloadN A21 hx rfl (D d8_35) rfl (XS.iconst A21 hx rfl (D d8_36) (isubV A21 hx rfl (D d8_37) rfl (v := (0 : Int32)) (by decide) k))))) ?_
        refine X16.callV (W := 0) (w52 hw) (w53 hw) (w55 hw) (w54 hw) (nfs rfl (w55 hw)) (by decide) (payCh X16 hw (w10 hw) Pr0 O2 P5 O4 P6 (0) (Nat.le_of_ble_eq_true rfl) rfl (by decide) (by decide)) Pr0.1 rfl (sz hml rfl) (argsL := [(.int (0 : Int32))]) (rest := []) (lenOf pd11 rfl) rfl rfl (mroom rfl rfl) (D d8_38) (by decide) (by decide) fun T22 h22 vm22 v22 X22 C22 z22 q22 => ?_
        obtain ⟨rfl, K22⟩ := q22
        rw [K22] at X22 C22
        show Gets p e below _ (T22.setTop (mkF m 41 #[vR x, vI (0 : Int32), vI (1 : Int32)] [(.int c0)]))
        refine X22.callS (W := 0) (w74 hw) (w75 hw) (w40 hw) (w76 hw) (by decide) (X22.payM (sf := []) (rmIsSp hc c0 h0 X22.old ) sf0 (w76 hw) (w40 hw) (by decide) (by decide)) rfl (sz hml rfl) (argsL := [(.int c0)]) (rest := []) (lenOf pd12 rfl) rfl rfl (mroom rfl rfl) (D d8_41) (by decide) (by decide) fun T23 h23 vm23 v23 X23 C23 z23 q23 => ?_
        obtain ⟨r23, rfl, K23, rfl⟩ := q23
        rw [K23] at X23 C23
        have A24 := X23.at
        refine Gets.via (fun _ k => (XS.ifYes A24 hx rfl (pc0 := 44) (pc' := 53) rfl (D d8_44) rfl (Jvm.Free.XT.i0_eq_t b20) (by decide) (by decide) k)) ?_
        refine Gets.via (fun _ k => (XS.aloadN A24 hx rfl (D d8_53) rfl rfl (XS.iloadN A24 hx rfl (D d8_54) rfl (XS.iloadN A24 hx rfl (D d8_55) rfl k)))) ?_
        refine X23.callV (W := 0) (w77 hw) (w78 hw) (w80 hw) (w79 hw) (nfs rfl (w80 hw)) (by decide) (X23.payM (sf := []) (rmSubs hc x b kb [c0, c1, c2] 0 1 h0 X23.old Pr0 (by first | exact Nat.le_of_ble_eq_true rfl | omega) (by decide)) sf0 (w81 hw) (w11 hw) (by decide) (by decide)) Pr0.1 rfl (sz hml rfl) (argsL := [(.int (0 : Int32)), (.int (1 : Int32))]) (rest := []) (lenOf pd14 rfl) rfl rfl (mroom rfl rfl) (D d8_56) (by decide) (by decide) fun T25 h25 vm25 v25 X25 C25 z25 q25 => ?_
        obtain ⟨a25, t25, kt25, ds25, rfl, K25, g25_0, rfl⟩ := q25
        have l26 := ltA g25_0.lt
        have l27 := ltA g25_0.lb
        exact X25.retA hret rfl rfl rfl (D d8_59) (by decide) (by decide) (fun vmE CE => ⟨a25, t25, kt25, ((([c0, c1, c2].drop 0).take 1)), rfl, ((Keep.refl h0 []).trans K25 all0), g25_0, (by simp [trimL, sp_no b20, sp_yes b44, sp_yes b44_1])⟩)
  · have A28 := X6.at
    refine Gets.via (fun _ k => (XS.ifNo A28 hx rfl (D d8_20) rfl (Jvm.Free.XT.i0_eq_f b20) k)) ?_
    refine Gets.via (fun _ k => (iincV A28 hx rfl (D d8_23) rfl (v := (1 : Int32)) (by decide) (l' := #[vR x, vI (1 : Int32), vI (3 : Int32)]) rfl (XS.goto A28 hx rfl (pc0 := 26) (pc' := 7) rfl (D d8_26) (by decide) (by decide) k))) ?_
    show Gets p e below _ (T6.setTop (mkF m 7 #[vR x, vI (1 : Int32), vI (3 : Int32)] []))
    refine Gets.via (fun _ k => (XS.iloadN A28 hx rfl (D d8_7) rfl (XS.iloadN A28 hx rfl (D d8_8) rfl (XS.icmpNo A28 hx rfl (D d8_9) rfl (Jvm.Free.XT.ii_ge_f (by decide)) k)))) ?_
    refine Gets.via (fun _ k => (XS.aloadN A28 hx rfl (D d8_12) rfl rfl (XS.iloadN A28 hx rfl (D d8_13) rfl k))) ?_
    refine X6.callV (W := 0) (w52 hw) (w53 hw) (w55 hw) (w54 hw) (nfs rfl (w55 hw)) (by decide) (payCh X6 hw (w10 hw) Pr0 O2 P5 O4 P6 (1) (Nat.le_of_ble_eq_true rfl) rfl (by decide) (by decide)) Pr0.1 rfl (sz hml rfl) (argsL := [(.int (1 : Int32))]) (rest := []) (lenOf pd11 rfl) rfl rfl (mroom rfl rfl) (D d8_14) (by decide) (by decide) fun T29 h29 vm29 v29 X29 C29 z29 q29 => ?_
    obtain ⟨rfl, K29⟩ := q29
    rw [K29] at X29 C29
    refine X29.callS (W := 0) (w74 hw) (w75 hw) (w40 hw) (w76 hw) (by decide) (X29.payM (sf := []) (rmIsSp hc c1 h0 X29.old ) sf0 (w76 hw) (w40 hw) (by decide) (by decide)) rfl (sz hml rfl) (argsL := [(.int c1)]) (rest := []) (lenOf pd12 rfl) rfl rfl (mroom rfl rfl) (D d8_17) (by decide) (by decide) fun T30 h30 vm30 v30 X30 C30 z30 q30 => ?_
    obtain ⟨r30, rfl, K30, rfl⟩ := q30
    rw [K30] at X30 C30
    by_cases b20_1 : (if sp c1 = true then 1 else 0) = (0 : Int32)
    · have A31 := X30.at
      refine Gets.via (fun _ k => (XS.ifYes A31 hx rfl (pc0 := 20) (pc' := 29) rfl (D d8_20) rfl (Jvm.Free.XT.i0_eq_t b20_1) (by decide) (by decide) k)) ?_
      show Gets p e below _ (T30.setTop (mkF m 29 #[vR x, vI (1 : Int32), vI (3 : Int32)] []))
      refine Gets.via (fun _ k => (XS.iloadN A31 hx rfl (D d8_29) rfl (XS.iloadN A31 hx rfl (D d8_30) rfl (XS.icmpNo A31 hx rfl (D d8_31) rfl (Jvm.Free.XT.ii_le_f (by decide)) k)))) ?_
      refine Gets.via (fun _ k => (XS.aloadN A31 hx rfl (D d8_34) rfl rfl (XS.iloadN A31 hx rfl (D d8_35) rfl (XS.iconst A31 hx rfl (D d8_36) (isubV A31 hx rfl (D d8_37) rfl (v := (2 : Int32)) (by decide) k))))) ?_
      refine X30.callV (W := 0) (w52 hw) (w53 hw) (w55 hw) (w54 hw) (nfs rfl (w55 hw)) (by decide) (payCh X30 hw (w10 hw) Pr0 O2 P5 O4 P6 (2) (Nat.le_of_ble_eq_true rfl) rfl (by decide) (by decide)) Pr0.1 rfl (sz hml rfl) (argsL := [(.int (2 : Int32))]) (rest := []) (lenOf pd11 rfl) rfl rfl (mroom rfl rfl) (D d8_38) (by decide) (by decide) fun T32 h32 vm32 v32 X32 C32 z32 q32 => ?_
      obtain ⟨rfl, K32⟩ := q32
      rw [K32] at X32 C32
      refine X32.callS (W := 0) (w74 hw) (w75 hw) (w40 hw) (w76 hw) (by decide) (X32.payM (sf := []) (rmIsSp hc c2 h0 X32.old ) sf0 (w76 hw) (w40 hw) (by decide) (by decide)) rfl (sz hml rfl) (argsL := [(.int c2)]) (rest := []) (lenOf pd12 rfl) rfl rfl (mroom rfl rfl) (D d8_41) (by decide) (by decide) fun T33 h33 vm33 v33 X33 C33 z33 q33 => ?_
      obtain ⟨r33, rfl, K33, rfl⟩ := q33
      rw [K33] at X33 C33
      show Gets p e below _ (T33.setTop (mkF m 44 #[vR x, vI (1 : Int32), vI (3 : Int32)] [(.int (if sp c2 = true then 1 else 0))]))
      by_cases b44 : (if sp c2 = true then 1 else 0) = (0 : Int32)
      · have A34 := X33.at
        refine Gets.via (fun _ k => (XS.ifYes A34 hx rfl (pc0 := 44) (pc' := 53) rfl (D d8_44) rfl (Jvm.Free.XT.i0_eq_t b44) (by decide) (by decide) k)) ?_
        refine Gets.via (fun _ k => (XS.aloadN A34 hx rfl (D d8_53) rfl rfl (XS.iloadN A34 hx rfl (D d8_54) rfl (XS.iloadN A34 hx rfl (D d8_55) rfl k)))) ?_
        refine X33.callV (W := 0) (w77 hw) (w78 hw) (w80 hw) (w79 hw) (nfs rfl (w80 hw)) (by decide) (X33.payM (sf := []) (rmSubs hc x b kb [c0, c1, c2] 1 2 h0 X33.old Pr0 (by first | exact Nat.le_of_ble_eq_true rfl | omega) (by decide)) sf0 (w81 hw) (w11 hw) (by decide) (by decide)) Pr0.1 rfl (sz hml rfl) (argsL := [(.int (1 : Int32)), (.int (3 : Int32))]) (rest := []) (lenOf pd14 rfl) rfl rfl (mroom rfl rfl) (D d8_56) (by decide) (by decide) fun T35 h35 vm35 v35 X35 C35 z35 q35 => ?_
        obtain ⟨a35, t35, kt35, ds35, rfl, K35, g35_0, rfl⟩ := q35
        have l36 := ltA g35_0.lt
        have l37 := ltA g35_0.lb
        exact X35.retA hret rfl rfl rfl (D d8_59) (by decide) (by decide) (fun vmE CE => ⟨a35, t35, kt35, ((([c0, c1, c2].drop 1).take 2)), rfl, ((Keep.refl h0 []).trans K35 all0), g35_0, (by simp [trimL, sp_yes b20, sp_no b20_1, sp_no b44])⟩)
      · have A38 := X33.at
        refine Gets.via (fun _ k => (XS.ifNo A38 hx rfl (D d8_44) rfl (Jvm.Free.XT.i0_eq_f b44) k)) ?_
        refine Gets.via (fun _ k => (iincV A38 hx rfl (D d8_47) rfl (v := (2 : Int32)) (by decide) (l' := #[vR x, vI (1 : Int32), vI (2 : Int32)]) rfl (XS.goto A38 hx rfl (pc0 := 50) (pc' := 29) rfl (D d8_50) (by decide) (by decide) k))) ?_
        refine Gets.via (fun _ k => (XS.iloadN A38 hx rfl (D d8_29) rfl (XS.iloadN A38 hx rfl (D d8_30) rfl (XS.icmpNo A38 hx rfl (D d8_31) rfl (Jvm.Free.XT.ii_le_f (by decide)) k)))) ?_
        show Gets p e below _ (T33.setTop (mkF m 34 #[vR x, vI (1 : Int32), vI (2 : Int32)] []))
        refine Gets.via (fun _ k => (XS.aloadN A38 hx rfl (D d8_34) rfl rfl (XS.iloadN A38 hx rfl (D d8_35) rfl (XS.iconst A38 hx rfl (D d8_36) (isubV A38 hx rfl (D d8_37) rfl (v := (1 : Int32)) (by decide) k))))) ?_
        refine X33.callV (W := 0) (w52 hw) (w53 hw) (w55 hw) (w54 hw) (nfs rfl (w55 hw)) (by decide) (payCh X33 hw (w10 hw) Pr0 O2 P5 O4 P6 (1) (Nat.le_of_ble_eq_true rfl) rfl (by decide) (by decide)) Pr0.1 rfl (sz hml rfl) (argsL := [(.int (1 : Int32))]) (rest := []) (lenOf pd11 rfl) rfl rfl (mroom rfl rfl) (D d8_38) (by decide) (by decide) fun T39 h39 vm39 v39 X39 C39 z39 q39 => ?_
        obtain ⟨rfl, K39⟩ := q39
        rw [K39] at X39 C39
        refine X39.callS (W := 0) (w74 hw) (w75 hw) (w40 hw) (w76 hw) (by decide) (X39.payM (sf := []) (rmIsSp hc c1 h0 X39.old ) sf0 (w76 hw) (w40 hw) (by decide) (by decide)) rfl (sz hml rfl) (argsL := [(.int c1)]) (rest := []) (lenOf pd12 rfl) rfl rfl (mroom rfl rfl) (D d8_41) (by decide) (by decide) fun T40 h40 vm40 v40 X40 C40 z40 q40 => ?_
        obtain ⟨r40, rfl, K40, rfl⟩ := q40
        rw [K40] at X40 C40
        have A41 := X40.at
        refine Gets.via (fun _ k => (XS.ifYes A41 hx rfl (pc0 := 44) (pc' := 53) rfl (D d8_44) rfl (Jvm.Free.XT.i0_eq_t b20_1) (by decide) (by decide) k)) ?_
        refine Gets.via (fun _ k => (XS.aloadN A41 hx rfl (D d8_53) rfl rfl (XS.iloadN A41 hx rfl (D d8_54) rfl (XS.iloadN A41 hx rfl (D d8_55) rfl k)))) ?_
        show Gets p e below _ (T40.setTop (mkF m 56 #[vR x, vI (1 : Int32), vI (2 : Int32)] [(.int (2 : Int32)), (.int (1 : Int32)), (.ref x)]))
        refine X40.callV (W := 0) (w77 hw) (w78 hw) (w80 hw) (w79 hw) (nfs rfl (w80 hw)) (by decide) (X40.payM (sf := []) (rmSubs hc x b kb [c0, c1, c2] 1 1 h0 X40.old Pr0 (by first | exact Nat.le_of_ble_eq_true rfl | omega) (by decide)) sf0 (w81 hw) (w11 hw) (by decide) (by decide)) Pr0.1 rfl (sz hml rfl) (argsL := [(.int (1 : Int32)), (.int (2 : Int32))]) (rest := []) (lenOf pd14 rfl) rfl rfl (mroom rfl rfl) (D d8_56) (by decide) (by decide) fun T42 h42 vm42 v42 X42 C42 z42 q42 => ?_
        obtain ⟨a42, t42, kt42, ds42, rfl, K42, g42_0, rfl⟩ := q42
        have l43 := ltA g42_0.lt
        have l44 := ltA g42_0.lb
        exact X42.retA hret rfl rfl rfl (D d8_59) (by decide) (by decide) (fun vmE CE => ⟨a42, t42, kt42, ((([c0, c1, c2].drop 1).take 1)), rfl, ((Keep.refl h0 []).trans K42 all0), g42_0, (by simp [trimL, sp_yes b20, sp_no b20_1, sp_yes b44])⟩)
    · have A45 := X30.at
      refine Gets.via (fun _ k => (XS.ifNo A45 hx rfl (D d8_20) rfl (Jvm.Free.XT.i0_eq_f b20_1) k)) ?_
      refine Gets.via (fun _ k => (iincV A45 hx rfl (D d8_23) rfl (v := (2 : Int32)) (by decide) (l' := #[vR x, vI (2 : Int32), vI (3 : Int32)]) rfl (XS.goto A45 hx rfl (pc0 := 26) (pc' := 7) rfl (D d8_26) (by decide) (by decide) k))) ?_
      refine Gets.via (fun _ k => (XS.iloadN A45 hx rfl (D d8_7) rfl (XS.iloadN A45 hx rfl (D d8_8) rfl (XS.icmpNo A45 hx rfl (D d8_9) rfl (Jvm.Free.XT.ii_ge_f (by decide)) k)))) ?_
      refine Gets.via (fun _ k => (XS.aloadN A45 hx rfl (D d8_12) rfl rfl (XS.iloadN A45 hx rfl (D d8_13) rfl k))) ?_
      refine X30.callV (W := 0) (w52 hw) (w53 hw) (w55 hw) (w54 hw) (nfs rfl (w55 hw)) (by decide) (payCh X30 hw (w10 hw) Pr0 O2 P5 O4 P6 (2) (Nat.le_of_ble_eq_true rfl) rfl (by decide) (by decide)) Pr0.1 rfl (sz hml rfl) (argsL := [(.int (2 : Int32))]) (rest := []) (lenOf pd11 rfl) rfl rfl (mroom rfl rfl) (D d8_14) (by decide) (by decide) fun T46 h46 vm46 v46 X46 C46 z46 q46 => ?_
      obtain ⟨rfl, K46⟩ := q46
      rw [K46] at X46 C46
      show Gets p e below _ (T46.setTop (mkF m 17 #[vR x, vI (2 : Int32), vI (3 : Int32)] [(.int c2)]))
      refine X46.callS (W := 0) (w74 hw) (w75 hw) (w40 hw) (w76 hw) (by decide) (X46.payM (sf := []) (rmIsSp hc c2 h0 X46.old ) sf0 (w76 hw) (w40 hw) (by decide) (by decide)) rfl (sz hml rfl) (argsL := [(.int c2)]) (rest := []) (lenOf pd12 rfl) rfl rfl (mroom rfl rfl) (D d8_17) (by decide) (by decide) fun T47 h47 vm47 v47 X47 C47 z47 q47 => ?_
      obtain ⟨r47, rfl, K47, rfl⟩ := q47
      rw [K47] at X47 C47
      by_cases b20_2 : (if sp c2 = true then 1 else 0) = (0 : Int32)
      · have A48 := X47.at
        refine Gets.via (fun _ k => (XS.ifYes A48 hx rfl (pc0 := 20) (pc' := 29) rfl (D d8_20) rfl (Jvm.Free.XT.i0_eq_t b20_2) (by decide) (by decide) k)) ?_
        refine Gets.via (fun _ k => (XS.iloadN A48 hx rfl (D d8_29) rfl (XS.iloadN A48 hx rfl (D d8_30) rfl (XS.icmpNo A48 hx rfl (D d8_31) rfl (Jvm.Free.XT.ii_le_f (by decide)) k)))) ?_
        refine Gets.via (fun _ k => (XS.aloadN A48 hx rfl (D d8_34) rfl rfl (XS.iloadN A48 hx rfl (D d8_35) rfl (XS.iconst A48 hx rfl (D d8_36) (isubV A48 hx rfl (D d8_37) rfl (v := (2 : Int32)) (by decide) k))))) ?_
        refine X47.callV (W := 0) (w52 hw) (w53 hw) (w55 hw) (w54 hw) (nfs rfl (w55 hw)) (by decide) (payCh X47 hw (w10 hw) Pr0 O2 P5 O4 P6 (2) (Nat.le_of_ble_eq_true rfl) rfl (by decide) (by decide)) Pr0.1 rfl (sz hml rfl) (argsL := [(.int (2 : Int32))]) (rest := []) (lenOf pd11 rfl) rfl rfl (mroom rfl rfl) (D d8_38) (by decide) (by decide) fun T49 h49 vm49 v49 X49 C49 z49 q49 => ?_
        obtain ⟨rfl, K49⟩ := q49
        rw [K49] at X49 C49
        show Gets p e below _ (T49.setTop (mkF m 41 #[vR x, vI (2 : Int32), vI (3 : Int32)] [(.int c2)]))
        refine X49.callS (W := 0) (w74 hw) (w75 hw) (w40 hw) (w76 hw) (by decide) (X49.payM (sf := []) (rmIsSp hc c2 h0 X49.old ) sf0 (w76 hw) (w40 hw) (by decide) (by decide)) rfl (sz hml rfl) (argsL := [(.int c2)]) (rest := []) (lenOf pd12 rfl) rfl rfl (mroom rfl rfl) (D d8_41) (by decide) (by decide) fun T50 h50 vm50 v50 X50 C50 z50 q50 => ?_
        obtain ⟨r50, rfl, K50, rfl⟩ := q50
        rw [K50] at X50 C50
        have A51 := X50.at
        refine Gets.via (fun _ k => (XS.ifYes A51 hx rfl (pc0 := 44) (pc' := 53) rfl (D d8_44) rfl (Jvm.Free.XT.i0_eq_t b20_2) (by decide) (by decide) k)) ?_
        refine Gets.via (fun _ k => (XS.aloadN A51 hx rfl (D d8_53) rfl rfl (XS.iloadN A51 hx rfl (D d8_54) rfl (XS.iloadN A51 hx rfl (D d8_55) rfl k)))) ?_
        refine X50.callV (W := 0) (w77 hw) (w78 hw) (w80 hw) (w79 hw) (nfs rfl (w80 hw)) (by decide) (X50.payM (sf := []) (rmSubs hc x b kb [c0, c1, c2] 2 1 h0 X50.old Pr0 (by first | exact Nat.le_of_ble_eq_true rfl | omega) (by decide)) sf0 (w81 hw) (w11 hw) (by decide) (by decide)) Pr0.1 rfl (sz hml rfl) (argsL := [(.int (2 : Int32)), (.int (3 : Int32))]) (rest := []) (lenOf pd14 rfl) rfl rfl (mroom rfl rfl) (D d8_56) (by decide) (by decide) fun T52 h52 vm52 v52 X52 C52 z52 q52 => ?_
        obtain ⟨a52, t52, kt52, ds52, rfl, K52, g52_0, rfl⟩ := q52
        have l53 := ltA g52_0.lt
        have l54 := ltA g52_0.lb
        exact X52.retA hret rfl rfl rfl (D d8_59) (by decide) (by decide) (fun vmE CE => ⟨a52, t52, kt52, ((([c0, c1, c2].drop 2).take 1)), rfl, ((Keep.refl h0 []).trans K52 all0), g52_0, (by simp [trimL, sp_yes b20, sp_yes b20_1, sp_no b20_2])⟩)
      · have A55 := X47.at
        refine Gets.via (fun _ k => (XS.ifNo A55 hx rfl (D d8_20) rfl (Jvm.Free.XT.i0_eq_f b20_2) k)) ?_
        refine Gets.via (fun _ k => (iincV A55 hx rfl (D d8_23) rfl (v := (3 : Int32)) (by decide) (l' := #[vR x, vI (3 : Int32), vI (3 : Int32)]) rfl (XS.goto A55 hx rfl (pc0 := 26) (pc' := 7) rfl (D d8_26) (by decide) (by decide) k))) ?_
        show Gets p e below _ (T47.setTop (mkF m 7 #[vR x, vI (3 : Int32), vI (3 : Int32)] []))
        refine Gets.via (fun _ k => (XS.iloadN A55 hx rfl (D d8_7) rfl (XS.iloadN A55 hx rfl (D d8_8) rfl (XS.icmpYes A55 hx rfl (pc0 := 9) (pc' := 29) rfl (D d8_9) rfl (Jvm.Free.XT.ii_ge_t (by decide)) (by decide) (by decide) k)))) ?_
        refine Gets.via (fun _ k => (XS.iloadN A55 hx rfl (D d8_29) rfl (XS.iloadN A55 hx rfl (D d8_30) rfl (XS.icmpYes A55 hx rfl (pc0 := 31) (pc' := 53) rfl (D d8_31) rfl (Jvm.Free.XT.ii_le_t (by decide)) (by decide) (by decide) k)))) ?_
        refine Gets.via (fun _ k => (XS.aloadN A55 hx rfl (D d8_53) rfl rfl (XS.iloadN A55 hx rfl (D d8_54) rfl (XS.iloadN A55 hx rfl (D d8_55) rfl k)))) ?_
        refine X47.callV (W := 0) (w77 hw) (w78 hw) (w80 hw) (w79 hw) (nfs rfl (w80 hw)) (by decide) (X47.payM (sf := []) (rmSubs hc x b kb [c0, c1, c2] 3 0 h0 X47.old Pr0 (by first | exact Nat.le_of_ble_eq_true rfl | omega) (by decide)) sf0 (w81 hw) (w11 hw) (by decide) (by decide)) Pr0.1 rfl (sz hml rfl) (argsL := [(.int (3 : Int32)), (.int (3 : Int32))]) (rest := []) (lenOf pd14 rfl) rfl rfl (mroom rfl rfl) (D d8_56) (by decide) (by decide) fun T56 h56 vm56 v56 X56 C56 z56 q56 => ?_
        obtain ⟨a56, t56, kt56, ds56, rfl, K56, g56_0, rfl⟩ := q56
        have l57 := ltA g56_0.lt
        have l58 := ltA g56_0.lb
        show Gets p e below _ (T56.setTop (mkF m 59 #[vR x, vI (3 : Int32), vI (3 : Int32)] [(.ref a56)]))
        exact X56.retA hret rfl rfl rfl (D d8_59) (by decide) (by decide) (fun vmE CE => ⟨a56, t56, kt56, ((([c0, c1, c2].drop 3).take 0)), rfl, ((Keep.refl h0 []).trans K56 all0), g56_0, (by simp [trimL, sp_yes b20, sp_yes b20_1, sp_yes b20_2])⟩)
abbrev RrmWs4 : Room := { frames := 5, cells := 2, slots := 12, locals := 84 }
def QrmWs4 (Z : State) (x : Addr) (b : Addr) (kb : ClassId) (c0 : Int32) (c1 : Int32) (c2 : Int32) (c3 : Int32) (h0 : Heap) (v : Option Value) (vm : Vm) (h : Heap) : Prop := ∃ (a : Addr) (t : Addr) (kt : ClassId) (ds : List Int32), v = some (.ref a) ∧ Keep h0 h [] ∧ Str Z h a t kt ds ∧ ds = trimL [c0, c1, c2, c3]
theorem rmWs4 (hc : Cx Z a0 zc fm) (x : Addr) (b : Addr) (kb : ClassId) (c0 : Int32) (c1 : Int32) (c2 : Int32) (c3 : Int32) (h0 : Heap) (O0 : Old Z Z.heap.size h0) (Pr0 : Str Z h0 x b kb [c0, c1, c2, c3]) : Met l Z consts_1 (⟨"org/holdfast/model/Content", "withoutSpace", "(Ljava/lang/String;)Ljava/lang/String;"⟩ : MethodName) prog_17_method_4_code 3 (some (.object "java/lang/String")) [] RrmWs4 [] #[(.ref x)] h0 (QrmWs4 Z x b kb c0 c1 c2 c3 h0) := by
  have ⟨hw, hEL, O2, P5, O4, P6⟩ := hc
  refine Met.start (a0 := a0) (Ls := #[vR x, .unset, .unset]) pn8 hEL O0 (fun m => by first | (simp [entryFrame, mkF, argsToLocals, Value.category]; done) | rfl) ?_
  intro p e s m below meth cc T0 vm0 X0 sf0_ hby hml hret hnm
  have hx := X0.hx
  have D : ∀ {n r}, decode prog_17_method_4_code n = r → decode cc.code n = r := fun d => hb hby d
  have zz := X0.ge
  have A0 := X0.at
  have l1 := ltA Pr0.lt
  have l2 := ltA Pr0.lb
  refine Gets.via (fun _ k => (XS.iconst A0 hx rfl (D d8_0) (XS.istoreN A0 hx rfl (D d8_1) rfl (l' := #[vR x, vI (0 : Int32), .unset]) rfl (XS.aloadN A0 hx rfl (D d8_2) rfl rfl k)))) ?_
  refine X0.callV (W := 0) (w42 hw) (w43 hw) (w45 hw) (w44 hw) (nfs rfl (w45 hw)) (by decide) (payLen X0 hw (w10 hw) Pr0 O2 P5 (by decide) (by decide)) Pr0.1 rfl (sz hml rfl) (argsL := []) (rest := []) (lenOf pd6 rfl) rfl rfl (mroom rfl rfl) (D d8_3) (by decide) (by decide) fun T3 h3 vm3 v3 X3 C3 z3 q3 => ?_
  obtain ⟨rfl, K3⟩ := q3
  rw [K3] at X3 C3
  have A4 := X3.at
  refine Gets.via (fun _ k => (XS.istoreN A4 hx rfl (D d8_6) rfl (l' := #[vR x, vI (0 : Int32), vI (4 : Int32)]) rfl (XS.iloadN A4 hx rfl (D d8_7) rfl (XS.iloadN A4 hx rfl (D d8_8) rfl (XS.icmpNo A4 hx rfl (D d8_9) rfl (Jvm.Free.XT.ii_ge_f (by decide)) k))))) ?_
  show Gets p e below _ (T3.setTop (mkF m 12 #[vR x, vI (0 : Int32), vI (4 : Int32)] []))
  refine Gets.via (fun _ k => (XS.aloadN A4 hx rfl (D d8_12) rfl rfl (XS.iloadN A4 hx rfl (D d8_13) rfl k))) ?_
  refine X3.callV (W := 0) (w52 hw) (w53 hw) (w55 hw) (w54 hw) (nfs rfl (w55 hw)) (by decide) (payCh X3 hw (w10 hw) Pr0 O2 P5 O4 P6 (0) (Nat.le_of_ble_eq_true rfl) rfl (by decide) (by decide)) Pr0.1 rfl (sz hml rfl) (argsL := [(.int (0 : Int32))]) (rest := []) (lenOf pd11 rfl) rfl rfl (mroom rfl rfl) (D d8_14) (by decide) (by decide) fun T5 h5 vm5 v5 X5 C5 z5 q5 => ?_
  obtain ⟨rfl, K5⟩ := q5
  rw [K5] at X5 C5
  refine X5.callS (W := 0) (w74 hw) (w75 hw) (w40 hw) (w76 hw) (by decide) (X5.payM (sf := []) (rmIsSp hc c0 h0 X5.old ) sf0 (w76 hw) (w40 hw) (by decide) (by decide)) rfl (sz hml rfl) (argsL := [(.int c0)]) (rest := []) (lenOf pd12 rfl) rfl rfl (mroom rfl rfl) (D d8_17) (by decide) (by decide) fun T6 h6 vm6 v6 X6 C6 z6 q6 => ?_
  obtain ⟨r6, rfl, K6, rfl⟩ := q6
  rw [K6] at X6 C6
  by_cases b20 : (if sp c0 = true then 1 else 0) = (0 : Int32)
  · have A7 := X6.at
    refine Gets.via (fun _ k => (XS.ifYes A7 hx rfl (pc0 := 20) (pc' := 29) rfl (D d8_20) rfl (Jvm.Free.XT.i0_eq_t b20) (by decide) (by decide) k)) ?_
    refine Gets.via (fun _ k => (XS.iloadN A7 hx rfl (D d8_29) rfl (XS.iloadN A7 hx rfl (D d8_30) rfl (XS.icmpNo A7 hx rfl (D d8_31) rfl (Jvm.Free.XT.ii_le_f (by decide)) k)))) ?_
    show Gets p e below _ (T6.setTop (mkF m 34 #[vR x, vI (0 : Int32), vI (4 : Int32)] []))
    refine Gets.via (fun _ k => (XS.aloadN A7 hx rfl (D d8_34) rfl rfl (XS.iloadN A7 hx rfl (D d8_35) rfl (XS.iconst A7 hx rfl (D d8_36) (isubV A7 hx rfl (D d8_37) rfl (v := (3 : Int32)) (by decide) k))))) ?_
    refine X6.callV (W := 0) (w52 hw) (w53 hw) (w55 hw) (w54 hw) (nfs rfl (w55 hw)) (by decide) (payCh X6 hw (w10 hw) Pr0 O2 P5 O4 P6 (3) (Nat.le_of_ble_eq_true rfl) rfl (by decide) (by decide)) Pr0.1 rfl (sz hml rfl) (argsL := [(.int (3 : Int32))]) (rest := []) (lenOf pd11 rfl) rfl rfl (mroom rfl rfl) (D d8_38) (by decide) (by decide) fun T8 h8 vm8 v8 X8 C8 z8 q8 => ?_
    obtain ⟨rfl, K8⟩ := q8
    rw [K8] at X8 C8
    refine X8.callS (W := 0) (w74 hw) (w75 hw) (w40 hw) (w76 hw) (by decide) (X8.payM (sf := []) (rmIsSp hc c3 h0 X8.old ) sf0 (w76 hw) (w40 hw) (by decide) (by decide)) rfl (sz hml rfl) (argsL := [(.int c3)]) (rest := []) (lenOf pd12 rfl) rfl rfl (mroom rfl rfl) (D d8_41) (by decide) (by decide) fun T9 h9 vm9 v9 X9 C9 z9 q9 => ?_
    obtain ⟨r9, rfl, K9, rfl⟩ := q9
    rw [K9] at X9 C9
    by_cases b44 : (if sp c3 = true then 1 else 0) = (0 : Int32)
    · have A10 := X9.at
      refine Gets.via (fun _ k => (XS.ifYes A10 hx rfl (pc0 := 44) (pc' := 53) rfl (D d8_44) rfl (Jvm.Free.XT.i0_eq_t b44) (by decide) (by decide) k)) ?_
      refine Gets.via (fun _ k => (XS.aloadN A10 hx rfl (D d8_53) rfl rfl (XS.iloadN A10 hx rfl (D d8_54) rfl (XS.iloadN A10 hx rfl (D d8_55) rfl k)))) ?_
      show Gets p e below _ (T9.setTop (mkF m 56 #[vR x, vI (0 : Int32), vI (4 : Int32)] [(.int (4 : Int32)), (.int (0 : Int32)), (.ref x)]))
      refine X9.callV (W := 0) (w77 hw) (w78 hw) (w80 hw) (w79 hw) (nfs rfl (w80 hw)) (by decide) (X9.payM (sf := []) (rmSubs hc x b kb [c0, c1, c2, c3] 0 4 h0 X9.old Pr0 (by first | exact Nat.le_of_ble_eq_true rfl | omega) (by decide)) sf0 (w81 hw) (w11 hw) (by decide) (by decide)) Pr0.1 rfl (sz hml rfl) (argsL := [(.int (0 : Int32)), (.int (4 : Int32))]) (rest := []) (lenOf pd14 rfl) rfl rfl (mroom rfl rfl) (D d8_56) (by decide) (by decide) fun T11 h11 vm11 v11 X11 C11 z11 q11 => ?_
      obtain ⟨a11, t11, kt11, ds11, rfl, K11, g11_0, rfl⟩ := q11
      have l12 := ltA g11_0.lt
      have l13 := ltA g11_0.lb
      exact X11.retA hret rfl rfl rfl (D d8_59) (by decide) (by decide) (fun vmE CE => ⟨a11, t11, kt11, ((([c0, c1, c2, c3].drop 0).take 4)), rfl, ((Keep.refl h0 []).trans K11 all0), g11_0, (by simp [trimL, sp_no b20, sp_no b44])⟩)
    · have A14 := X9.at
      refine Gets.via (fun _ k => (XS.ifNo A14 hx rfl (D d8_44) rfl (Jvm.Free.XT.i0_eq_f b44) k)) ?_
      refine Gets.via (fun _ k => (iincV A14 hx rfl (D d8_47) rfl (v := (3 : Int32)) (by decide) (l' := #[vR x, vI (0 : Int32), vI (3 : Int32)]) rfl (XS.goto A14 hx rfl (pc0 := 50) (pc' := 29) rfl (D d8_50) (by decide) (by decide) k))) ?_
      refine Gets.via (fun _ k => (XS.iloadN A14 hx rfl (D d8_29) rfl (XS.iloadN A14 hx rfl (D d8_30) rfl (XS.icmpNo A14 hx rfl (D d8_31) rfl (Jvm.Free.XT.ii_le_f (by decide)) k)))) ?_
      refine Gets.via (fun _ k => (XS.aloadN A14 hx rfl (D d8_34) rfl rfl (XS.iloadN A14 hx rfl (D d8_35) rfl (XS.iconst A14 hx rfl (D d8_36) (isubV A14 hx rfl (D d8_37) rfl (v := (2 : Int32)) (by decide) k))))) ?_
      show Gets p e below _ (T9.setTop (mkF m 38 #[vR x, vI (0 : Int32), vI (3 : Int32)] [(.int (2 : Int32)), (.ref x)]))
      refine X9.callV (W := 0) (w52 hw) (w53 hw) (w55 hw) (w54 hw) (nfs rfl (w55 hw)) (by decide) (payCh X9 hw (w10 hw) Pr0 O2 P5 O4 P6 (2) (Nat.le_of_ble_eq_true rfl) rfl (by decide) (by decide)) Pr0.1 rfl (sz hml rfl) (argsL := [(.int (2 : Int32))]) (rest := []) (lenOf pd11 rfl) rfl rfl (mroom rfl rfl) (D d8_38) (by decide) (by decide) fun T15 h15 vm15 v15 X15 C15 z15 q15 => ?_
      obtain ⟨rfl, K15⟩ := q15
      rw [K15] at X15 C15
      refine X15.callS (W := 0) (w74 hw) (w75 hw) (w40 hw) (w76 hw) (by decide) (X15.payM (sf := []) (rmIsSp hc c2 h0 X15.old ) sf0 (w76 hw) (w40 hw) (by decide) (by decide)) rfl (sz hml rfl) (argsL := [(.int c2)]) (rest := []) (lenOf pd12 rfl) rfl rfl (mroom rfl rfl) (D d8_41) (by decide) (by decide) fun T16 h16 vm16 v16 X16 C16 z16 q16 => ?_
      obtain ⟨r16, rfl, K16, rfl⟩ := q16
      rw [K16] at X16 C16
      by_cases b44_1 : (if sp c2 = true then 1 else 0) = (0 : Int32)
      · have A17 := X16.at
        refine Gets.via (fun _ k => (XS.ifYes A17 hx rfl (pc0 := 44) (pc' := 53) rfl (D d8_44) rfl (Jvm.Free.XT.i0_eq_t b44_1) (by decide) (by decide) k)) ?_
        refine Gets.via (fun _ k => (XS.aloadN A17 hx rfl (D d8_53) rfl rfl (XS.iloadN A17 hx rfl (D d8_54) rfl (XS.iloadN A17 hx rfl (D d8_55) rfl k)))) ?_
        refine X16.callV (W := 0) (w77 hw) (w78 hw) (w80 hw) (w79 hw) (nfs rfl (w80 hw)) (by decide) (X16.payM (sf := []) (rmSubs hc x b kb [c0, c1, c2, c3] 0 3 h0 X16.old Pr0 (by first | exact Nat.le_of_ble_eq_true rfl | omega) (by decide)) sf0 (w81 hw) (w11 hw) (by decide) (by decide)) Pr0.1 rfl (sz hml rfl) (argsL := [(.int (0 : Int32)), (.int (3 : Int32))]) (rest := []) (lenOf pd14 rfl) rfl rfl (mroom rfl rfl) (D d8_56) (by decide) (by decide) fun T18 h18 vm18 v18 X18 C18 z18 q18 => ?_
        obtain ⟨a18, t18, kt18, ds18, rfl, K18, g18_0, rfl⟩ := q18
        have l19 := ltA g18_0.lt
        have l20 := ltA g18_0.lb
        show Gets p e below _ (T18.setTop (mkF m 59 #[vR x, vI (0 : Int32), vI (3 : Int32)] [(.ref a18)]))
        exact X18.retA hret rfl rfl rfl (D d8_59) (by decide) (by decide) (fun vmE CE => ⟨a18, t18, kt18, ((([c0, c1, c2, c3].drop 0).take 3)), rfl, ((Keep.refl h0 []).trans K18 all0), g18_0, (by simp [trimL, sp_no b20, sp_yes b44, sp_no b44_1])⟩)
      · have A21 := X16.at
        refine Gets.via (fun _ k => (XS.ifNo A21 hx rfl (D d8_44) rfl (Jvm.Free.XT.i0_eq_f b44_1) k)) ?_
        refine Gets.via (fun _ k => (iincV A21 hx rfl (D d8_47) rfl (v := (2 : Int32)) (by decide) (l' := #[vR x, vI (0 : Int32), vI (2 : Int32)]) rfl (XS.goto A21 hx rfl (pc0 := 50) (pc' := 29) rfl (D d8_50) (by decide) (by decide) k))) ?_
        refine Gets.via (fun _ k => (XS.iloadN A21 hx rfl (D d8_29) rfl (XS.iloadN A21 hx rfl (D d8_30) rfl (XS.icmpNo A21 hx rfl (D d8_31) rfl (Jvm.Free.XT.ii_le_f (by decide)) k)))) ?_
        refine Gets.via (fun _ k => (XS.aloadN A21 hx rfl (D d8_34) rfl rfl (XS.iloadN A21 hx rfl (D d8_35) rfl (XS.iconst A21 hx rfl (D d8_36) (isubV A21 hx rfl (D d8_37) rfl (v := (1 : Int32)) (by decide) k))))) ?_
        refine X16.callV (W := 0) (w52 hw) (w53 hw) (w55 hw) (w54 hw) (nfs rfl (w55 hw)) (by decide) (payCh X16 hw (w10 hw) Pr0 O2 P5 O4 P6 (1) (Nat.le_of_ble_eq_true rfl) rfl (by decide) (by decide)) Pr0.1 rfl (sz hml rfl) (argsL := [(.int (1 : Int32))]) (rest := []) (lenOf pd11 rfl) rfl rfl (mroom rfl rfl) (D d8_38) (by decide) (by decide) fun T22 h22 vm22 v22 X22 C22 z22 q22 => ?_
        obtain ⟨rfl, K22⟩ := q22
        rw [K22] at X22 C22
        show Gets p e below _ (T22.setTop (mkF m 41 #[vR x, vI (0 : Int32), vI (2 : Int32)] [(.int c1)]))
        refine X22.callS (W := 0) (w74 hw) (w75 hw) (w40 hw) (w76 hw) (by decide) (X22.payM (sf := []) (rmIsSp hc c1 h0 X22.old ) sf0 (w76 hw) (w40 hw) (by decide) (by decide)) rfl (sz hml rfl) (argsL := [(.int c1)]) (rest := []) (lenOf pd12 rfl) rfl rfl (mroom rfl rfl) (D d8_41) (by decide) (by decide) fun T23 h23 vm23 v23 X23 C23 z23 q23 => ?_
        obtain ⟨r23, rfl, K23, rfl⟩ := q23
        rw [K23] at X23 C23
        by_cases b44_2 : (if sp c1 = true then 1 else 0) = (0 : Int32)
        · have A24 := X23.at
          refine Gets.via (fun _ k => (XS.ifYes A24 hx rfl (pc0 := 44) (pc' := 53) rfl (D d8_44) rfl (Jvm.Free.XT.i0_eq_t b44_2) (by decide) (by decide) k)) ?_
          refine Gets.via (fun _ k => (XS.aloadN A24 hx rfl (D d8_53) rfl rfl (XS.iloadN A24 hx rfl (D d8_54) rfl (XS.iloadN A24 hx rfl (D d8_55) rfl k)))) ?_
          refine X23.callV (W := 0) (w77 hw) (w78 hw) (w80 hw) (w79 hw) (nfs rfl (w80 hw)) (by decide) (X23.payM (sf := []) (rmSubs hc x b kb [c0, c1, c2, c3] 0 2 h0 X23.old Pr0 (by first | exact Nat.le_of_ble_eq_true rfl | omega) (by decide)) sf0 (w81 hw) (w11 hw) (by decide) (by decide)) Pr0.1 rfl (sz hml rfl) (argsL := [(.int (0 : Int32)), (.int (2 : Int32))]) (rest := []) (lenOf pd14 rfl) rfl rfl (mroom rfl rfl) (D d8_56) (by decide) (by decide) fun T25 h25 vm25 v25 X25 C25 z25 q25 => ?_
          obtain ⟨a25, t25, kt25, ds25, rfl, K25, g25_0, rfl⟩ := q25
          have l26 := ltA g25_0.lt
          have l27 := ltA g25_0.lb
          exact X25.retA hret rfl rfl rfl (D d8_59) (by decide) (by decide) (fun vmE CE => ⟨a25, t25, kt25, ((([c0, c1, c2, c3].drop 0).take 2)), rfl, ((Keep.refl h0 []).trans K25 all0), g25_0, (by simp [trimL, sp_no b20, sp_yes b44, sp_yes b44_1, sp_no b44_2])⟩)
        · have A28 := X23.at
          refine Gets.via (fun _ k => (XS.ifNo A28 hx rfl (D d8_44) rfl (Jvm.Free.XT.i0_eq_f b44_2) k)) ?_
          refine Gets.via (fun _ k => (iincV A28 hx rfl (D d8_47) rfl (v := (1 : Int32)) (by decide) (l' := #[vR x, vI (0 : Int32), vI (1 : Int32)]) rfl (XS.goto A28 hx rfl (pc0 := 50) (pc' := 29) rfl (D d8_50) (by decide) (by decide) k))) ?_
          show Gets p e below _ (T23.setTop (mkF m 29 #[vR x, vI (0 : Int32), vI (1 : Int32)] []))
          refine Gets.via (fun _ k => (XS.iloadN A28 hx rfl (D d8_29) rfl (XS.iloadN A28 hx rfl (D d8_30) rfl (XS.icmpNo A28 hx rfl (D d8_31) rfl (Jvm.Free.XT.ii_le_f (by decide)) k)))) ?_
          refine Gets.via (fun _ k => (XS.aloadN A28 hx rfl (D d8_34) rfl rfl (XS.iloadN A28 hx rfl (D d8_35) rfl (XS.iconst A28 hx rfl (D d8_36) (isubV A28 hx rfl (D d8_37) rfl (v := (0 : Int32)) (by decide) k))))) ?_
          refine X23.callV (W := 0) (w52 hw) (w53 hw) (w55 hw) (w54 hw) (nfs rfl (w55 hw)) (by decide) (payCh X23 hw (w10 hw) Pr0 O2 P5 O4 P6 (0) (Nat.le_of_ble_eq_true rfl) rfl (by decide) (by decide)) Pr0.1 rfl (sz hml rfl) (argsL := [(.int (0 : Int32))]) (rest := []) (lenOf pd11 rfl) rfl rfl (mroom rfl rfl) (D d8_38) (by decide) (by decide) fun T29 h29 vm29 v29 X29 C29 z29 q29 => ?_
          obtain ⟨rfl, K29⟩ := q29
          rw [K29] at X29 C29
          refine X29.callS (W := 0) (w74 hw) (w75 hw) (w40 hw) (w76 hw) (by decide) (X29.payM (sf := []) (rmIsSp hc c0 h0 X29.old ) sf0 (w76 hw) (w40 hw) (by decide) (by decide)) rfl (sz hml rfl) (argsL := [(.int c0)]) (rest := []) (lenOf pd12 rfl) rfl rfl (mroom rfl rfl) (D d8_41) (by decide) (by decide) fun T30 h30 vm30 v30 X30 C30 z30 q30 => ?_
          obtain ⟨r30, rfl, K30, rfl⟩ := q30
          rw [K30] at X30 C30
          show Gets p e below _ (T30.setTop (mkF m 44 #[vR x, vI (0 : Int32), vI (1 : Int32)] [(.int (if sp c0 = true then 1 else 0))]))
          have A31 := X30.at
          refine Gets.via (fun _ k => (XS.ifYes A31 hx rfl (pc0 := 44) (pc' := 53) rfl (D d8_44) rfl (Jvm.Free.XT.i0_eq_t b20) (by decide) (by decide) k)) ?_
          refine Gets.via (fun _ k => (XS.aloadN A31 hx rfl (D d8_53) rfl rfl (XS.iloadN A31 hx rfl (D d8_54) rfl (XS.iloadN A31 hx rfl (D d8_55) rfl k)))) ?_
          refine X30.callV (W := 0) (w77 hw) (w78 hw) (w80 hw) (w79 hw) (nfs rfl (w80 hw)) (by decide) (X30.payM (sf := []) (rmSubs hc x b kb [c0, c1, c2, c3] 0 1 h0 X30.old Pr0 (by first | exact Nat.le_of_ble_eq_true rfl | omega) (by decide)) sf0 (w81 hw) (w11 hw) (by decide) (by decide)) Pr0.1 rfl (sz hml rfl) (argsL := [(.int (0 : Int32)), (.int (1 : Int32))]) (rest := []) (lenOf pd14 rfl) rfl rfl (mroom rfl rfl) (D d8_56) (by decide) (by decide) fun T32 h32 vm32 v32 X32 C32 z32 q32 => ?_
          obtain ⟨a32, t32, kt32, ds32, rfl, K32, g32_0, rfl⟩ := q32
          have l33 := ltA g32_0.lt
          have l34 := ltA g32_0.lb
          exact X32.retA hret rfl rfl rfl (D d8_59) (by decide) (by decide) (fun vmE CE => ⟨a32, t32, kt32, ((([c0, c1, c2, c3].drop 0).take 1)), rfl, ((Keep.refl h0 []).trans K32 all0), g32_0, (by simp [trimL, sp_no b20, sp_yes b44, sp_yes b44_1, sp_yes b44_2])⟩)
  · have A35 := X6.at
    refine Gets.via (fun _ k => (XS.ifNo A35 hx rfl (D d8_20) rfl (Jvm.Free.XT.i0_eq_f b20) k)) ?_
    refine Gets.via (fun _ k => (iincV A35 hx rfl (D d8_23) rfl (v := (1 : Int32)) (by decide) (l' := #[vR x, vI (1 : Int32), vI (4 : Int32)]) rfl (XS.goto A35 hx rfl (pc0 := 26) (pc' := 7) rfl (D d8_26) (by decide) (by decide) k))) ?_
    refine Gets.via (fun _ k => (XS.iloadN A35 hx rfl (D d8_7) rfl (XS.iloadN A35 hx rfl (D d8_8) rfl (XS.icmpNo A35 hx rfl (D d8_9) rfl (Jvm.Free.XT.ii_ge_f (by decide)) k)))) ?_
    show Gets p e below _ (T6.setTop (mkF m 12 #[vR x, vI (1 : Int32), vI (4 : Int32)] []))
    refine Gets.via (fun _ k => (XS.aloadN A35 hx rfl (D d8_12) rfl rfl (XS.iloadN A35 hx rfl (D d8_13) rfl k))) ?_
    refine X6.callV (W := 0) (w52 hw) (w53 hw) (w55 hw) (w54 hw) (nfs rfl (w55 hw)) (by decide) (payCh X6 hw (w10 hw) Pr0 O2 P5 O4 P6 (1) (Nat.le_of_ble_eq_true rfl) rfl (by decide) (by decide)) Pr0.1 rfl (sz hml rfl) (argsL := [(.int (1 : Int32))]) (rest := []) (lenOf pd11 rfl) rfl rfl (mroom rfl rfl) (D d8_14) (by decide) (by decide) fun T36 h36 vm36 v36 X36 C36 z36 q36 => ?_
    obtain ⟨rfl, K36⟩ := q36
    rw [K36] at X36 C36
    refine X36.callS (W := 0) (w74 hw) (w75 hw) (w40 hw) (w76 hw) (by decide) (X36.payM (sf := []) (rmIsSp hc c1 h0 X36.old ) sf0 (w76 hw) (w40 hw) (by decide) (by decide)) rfl (sz hml rfl) (argsL := [(.int c1)]) (rest := []) (lenOf pd12 rfl) rfl rfl (mroom rfl rfl) (D d8_17) (by decide) (by decide) fun T37 h37 vm37 v37 X37 C37 z37 q37 => ?_
    obtain ⟨r37, rfl, K37, rfl⟩ := q37
    rw [K37] at X37 C37
    by_cases b20_1 : (if sp c1 = true then 1 else 0) = (0 : Int32)
    · have A38 := X37.at
      refine Gets.via (fun _ k => (XS.ifYes A38 hx rfl (pc0 := 20) (pc' := 29) rfl (D d8_20) rfl (Jvm.Free.XT.i0_eq_t b20_1) (by decide) (by decide) k)) ?_
      refine Gets.via (fun _ k => (XS.iloadN A38 hx rfl (D d8_29) rfl (XS.iloadN A38 hx rfl (D d8_30) rfl (XS.icmpNo A38 hx rfl (D d8_31) rfl (Jvm.Free.XT.ii_le_f (by decide)) k)))) ?_
      show Gets p e below _ (T37.setTop (mkF m 34 #[vR x, vI (1 : Int32), vI (4 : Int32)] []))
      refine Gets.via (fun _ k => (XS.aloadN A38 hx rfl (D d8_34) rfl rfl (XS.iloadN A38 hx rfl (D d8_35) rfl (XS.iconst A38 hx rfl (D d8_36) (isubV A38 hx rfl (D d8_37) rfl (v := (3 : Int32)) (by decide) k))))) ?_
      refine X37.callV (W := 0) (w52 hw) (w53 hw) (w55 hw) (w54 hw) (nfs rfl (w55 hw)) (by decide) (payCh X37 hw (w10 hw) Pr0 O2 P5 O4 P6 (3) (Nat.le_of_ble_eq_true rfl) rfl (by decide) (by decide)) Pr0.1 rfl (sz hml rfl) (argsL := [(.int (3 : Int32))]) (rest := []) (lenOf pd11 rfl) rfl rfl (mroom rfl rfl) (D d8_38) (by decide) (by decide) fun T39 h39 vm39 v39 X39 C39 z39 q39 => ?_
      obtain ⟨rfl, K39⟩ := q39
      rw [K39] at X39 C39
      refine X39.callS (W := 0) (w74 hw) (w75 hw) (w40 hw) (w76 hw) (by decide) (X39.payM (sf := []) (rmIsSp hc c3 h0 X39.old ) sf0 (w76 hw) (w40 hw) (by decide) (by decide)) rfl (sz hml rfl) (argsL := [(.int c3)]) (rest := []) (lenOf pd12 rfl) rfl rfl (mroom rfl rfl) (D d8_41) (by decide) (by decide) fun T40 h40 vm40 v40 X40 C40 z40 q40 => ?_
      obtain ⟨r40, rfl, K40, rfl⟩ := q40
      rw [K40] at X40 C40
      by_cases b44 : (if sp c3 = true then 1 else 0) = (0 : Int32)
      · have A41 := X40.at
        refine Gets.via (fun _ k => (XS.ifYes A41 hx rfl (pc0 := 44) (pc' := 53) rfl (D d8_44) rfl (Jvm.Free.XT.i0_eq_t b44) (by decide) (by decide) k)) ?_
        refine Gets.via (fun _ k => (XS.aloadN A41 hx rfl (D d8_53) rfl rfl (XS.iloadN A41 hx rfl (D d8_54) rfl (XS.iloadN A41 hx rfl (D d8_55) rfl k)))) ?_
        show Gets p e below _ (T40.setTop (mkF m 56 #[vR x, vI (1 : Int32), vI (4 : Int32)] [(.int (4 : Int32)), (.int (1 : Int32)), (.ref x)]))
        refine X40.callV (W := 0) (w77 hw) (w78 hw) (w80 hw) (w79 hw) (nfs rfl (w80 hw)) (by decide) (X40.payM (sf := []) (rmSubs hc x b kb [c0, c1, c2, c3] 1 3 h0 X40.old Pr0 (by first | exact Nat.le_of_ble_eq_true rfl | omega) (by decide)) sf0 (w81 hw) (w11 hw) (by decide) (by decide)) Pr0.1 rfl (sz hml rfl) (argsL := [(.int (1 : Int32)), (.int (4 : Int32))]) (rest := []) (lenOf pd14 rfl) rfl rfl (mroom rfl rfl) (D d8_56) (by decide) (by decide) fun T42 h42 vm42 v42 X42 C42 z42 q42 => ?_
        obtain ⟨a42, t42, kt42, ds42, rfl, K42, g42_0, rfl⟩ := q42
        have l43 := ltA g42_0.lt
        have l44 := ltA g42_0.lb
        exact X42.retA hret rfl rfl rfl (D d8_59) (by decide) (by decide) (fun vmE CE => ⟨a42, t42, kt42, ((([c0, c1, c2, c3].drop 1).take 3)), rfl, ((Keep.refl h0 []).trans K42 all0), g42_0, (by simp [trimL, sp_yes b20, sp_no b20_1, sp_no b44])⟩)
      · have A45 := X40.at
        refine Gets.via (fun _ k => (XS.ifNo A45 hx rfl (D d8_44) rfl (Jvm.Free.XT.i0_eq_f b44) k)) ?_
        refine Gets.via (fun _ k => (iincV A45 hx rfl (D d8_47) rfl (v := (3 : Int32)) (by decide) (l' := #[vR x, vI (1 : Int32), vI (3 : Int32)]) rfl (XS.goto A45 hx rfl (pc0 := 50) (pc' := 29) rfl (D d8_50) (by decide) (by decide) k))) ?_
        refine Gets.via (fun _ k => (XS.iloadN A45 hx rfl (D d8_29) rfl (XS.iloadN A45 hx rfl (D d8_30) rfl (XS.icmpNo A45 hx rfl (D d8_31) rfl (Jvm.Free.XT.ii_le_f (by decide)) k)))) ?_
        refine Gets.via (fun _ k => (XS.aloadN A45 hx rfl (D d8_34) rfl rfl (XS.iloadN A45 hx rfl (D d8_35) rfl (XS.iconst A45 hx rfl (D d8_36) (isubV A45 hx rfl (D d8_37) rfl (v := (2 : Int32)) (by decide) k))))) ?_
        show Gets p e below _ (T40.setTop (mkF m 38 #[vR x, vI (1 : Int32), vI (3 : Int32)] [(.int (2 : Int32)), (.ref x)]))
        refine X40.callV (W := 0) (w52 hw) (w53 hw) (w55 hw) (w54 hw) (nfs rfl (w55 hw)) (by decide) (payCh X40 hw (w10 hw) Pr0 O2 P5 O4 P6 (2) (Nat.le_of_ble_eq_true rfl) rfl (by decide) (by decide)) Pr0.1 rfl (sz hml rfl) (argsL := [(.int (2 : Int32))]) (rest := []) (lenOf pd11 rfl) rfl rfl (mroom rfl rfl) (D d8_38) (by decide) (by decide) fun T46 h46 vm46 v46 X46 C46 z46 q46 => ?_
        obtain ⟨rfl, K46⟩ := q46
        rw [K46] at X46 C46
        refine X46.callS (W := 0) (w74 hw) (w75 hw) (w40 hw) (w76 hw) (by decide) (X46.payM (sf := []) (rmIsSp hc c2 h0 X46.old ) sf0 (w76 hw) (w40 hw) (by decide) (by decide)) rfl (sz hml rfl) (argsL := [(.int c2)]) (rest := []) (lenOf pd12 rfl) rfl rfl (mroom rfl rfl) (D d8_41) (by decide) (by decide) fun T47 h47 vm47 v47 X47 C47 z47 q47 => ?_
        obtain ⟨r47, rfl, K47, rfl⟩ := q47
        rw [K47] at X47 C47
        by_cases b44_1 : (if sp c2 = true then 1 else 0) = (0 : Int32)
        · have A48 := X47.at
          refine Gets.via (fun _ k => (XS.ifYes A48 hx rfl (pc0 := 44) (pc' := 53) rfl (D d8_44) rfl (Jvm.Free.XT.i0_eq_t b44_1) (by decide) (by decide) k)) ?_
          refine Gets.via (fun _ k => (XS.aloadN A48 hx rfl (D d8_53) rfl rfl (XS.iloadN A48 hx rfl (D d8_54) rfl (XS.iloadN A48 hx rfl (D d8_55) rfl k)))) ?_
          refine X47.callV (W := 0) (w77 hw) (w78 hw) (w80 hw) (w79 hw) (nfs rfl (w80 hw)) (by decide) (X47.payM (sf := []) (rmSubs hc x b kb [c0, c1, c2, c3] 1 2 h0 X47.old Pr0 (by first | exact Nat.le_of_ble_eq_true rfl | omega) (by decide)) sf0 (w81 hw) (w11 hw) (by decide) (by decide)) Pr0.1 rfl (sz hml rfl) (argsL := [(.int (1 : Int32)), (.int (3 : Int32))]) (rest := []) (lenOf pd14 rfl) rfl rfl (mroom rfl rfl) (D d8_56) (by decide) (by decide) fun T49 h49 vm49 v49 X49 C49 z49 q49 => ?_
          obtain ⟨a49, t49, kt49, ds49, rfl, K49, g49_0, rfl⟩ := q49
          have l50 := ltA g49_0.lt
          have l51 := ltA g49_0.lb
          show Gets p e below _ (T49.setTop (mkF m 59 #[vR x, vI (1 : Int32), vI (3 : Int32)] [(.ref a49)]))
          exact X49.retA hret rfl rfl rfl (D d8_59) (by decide) (by decide) (fun vmE CE => ⟨a49, t49, kt49, ((([c0, c1, c2, c3].drop 1).take 2)), rfl, ((Keep.refl h0 []).trans K49 all0), g49_0, (by simp [trimL, sp_yes b20, sp_no b20_1, sp_yes b44, sp_no b44_1])⟩)
        · have A52 := X47.at
          refine Gets.via (fun _ k => (XS.ifNo A52 hx rfl (D d8_44) rfl (Jvm.Free.XT.i0_eq_f b44_1) k)) ?_
          refine Gets.via (fun _ k => (iincV A52 hx rfl (D d8_47) rfl (v := (2 : Int32)) (by decide) (l' := #[vR x, vI (1 : Int32), vI (2 : Int32)]) rfl (XS.goto A52 hx rfl (pc0 := 50) (pc' := 29) rfl (D d8_50) (by decide) (by decide) k))) ?_
          refine Gets.via (fun _ k => (XS.iloadN A52 hx rfl (D d8_29) rfl (XS.iloadN A52 hx rfl (D d8_30) rfl (XS.icmpNo A52 hx rfl (D d8_31) rfl (Jvm.Free.XT.ii_le_f (by decide)) k)))) ?_
          refine Gets.via (fun _ k => (XS.aloadN A52 hx rfl (D d8_34) rfl rfl (XS.iloadN A52 hx rfl (D d8_35) rfl (XS.iconst A52 hx rfl (D d8_36) (isubV A52 hx rfl (D d8_37) rfl (v := (1 : Int32)) (by decide) k))))) ?_
          refine X47.callV (W := 0) (w52 hw) (w53 hw) (w55 hw) (w54 hw) (nfs rfl (w55 hw)) (by decide) (payCh X47 hw (w10 hw) Pr0 O2 P5 O4 P6 (1) (Nat.le_of_ble_eq_true rfl) rfl (by decide) (by decide)) Pr0.1 rfl (sz hml rfl) (argsL := [(.int (1 : Int32))]) (rest := []) (lenOf pd11 rfl) rfl rfl (mroom rfl rfl) (D d8_38) (by decide) (by decide) fun T53 h53 vm53 v53 X53 C53 z53 q53 => ?_
          obtain ⟨rfl, K53⟩ := q53
          rw [K53] at X53 C53
          show Gets p e below _ (T53.setTop (mkF m 41 #[vR x, vI (1 : Int32), vI (2 : Int32)] [(.int c1)]))
          refine X53.callS (W := 0) (w74 hw) (w75 hw) (w40 hw) (w76 hw) (by decide) (X53.payM (sf := []) (rmIsSp hc c1 h0 X53.old ) sf0 (w76 hw) (w40 hw) (by decide) (by decide)) rfl (sz hml rfl) (argsL := [(.int c1)]) (rest := []) (lenOf pd12 rfl) rfl rfl (mroom rfl rfl) (D d8_41) (by decide) (by decide) fun T54 h54 vm54 v54 X54 C54 z54 q54 => ?_
          obtain ⟨r54, rfl, K54, rfl⟩ := q54
          rw [K54] at X54 C54
          have A55 := X54.at
          refine Gets.via (fun _ k => (XS.ifYes A55 hx rfl (pc0 := 44) (pc' := 53) rfl (D d8_44) rfl (Jvm.Free.XT.i0_eq_t b20_1) (by decide) (by decide) k)) ?_
          refine Gets.via (fun _ k => (XS.aloadN A55 hx rfl (D d8_53) rfl rfl (XS.iloadN A55 hx rfl (D d8_54) rfl (XS.iloadN A55 hx rfl (D d8_55) rfl k)))) ?_
          refine X54.callV (W := 0) (w77 hw) (w78 hw) (w80 hw) (w79 hw) (nfs rfl (w80 hw)) (by decide) (X54.payM (sf := []) (rmSubs hc x b kb [c0, c1, c2, c3] 1 1 h0 X54.old Pr0 (by first | exact Nat.le_of_ble_eq_true rfl | omega) (by decide)) sf0 (w81 hw) (w11 hw) (by decide) (by decide)) Pr0.1 rfl (sz hml rfl) (argsL := [(.int (1 : Int32)), (.int (2 : Int32))]) (rest := []) (lenOf pd14 rfl) rfl rfl (mroom rfl rfl) (D d8_56) (by decide) (by decide) fun T56 h56 vm56 v56 X56 C56 z56 q56 => ?_
          obtain ⟨a56, t56, kt56, ds56, rfl, K56, g56_0, rfl⟩ := q56
          have l57 := ltA g56_0.lt
          have l58 := ltA g56_0.lb
          exact X56.retA hret rfl rfl rfl (D d8_59) (by decide) (by decide) (fun vmE CE => ⟨a56, t56, kt56, ((([c0, c1, c2, c3].drop 1).take 1)), rfl, ((Keep.refl h0 []).trans K56 all0), g56_0, (by simp [trimL, sp_yes b20, sp_no b20_1, sp_yes b44, sp_yes b44_1])⟩)
    · have A59 := X37.at
      refine Gets.via (fun _ k => (XS.ifNo A59 hx rfl (D d8_20) rfl (Jvm.Free.XT.i0_eq_f b20_1) k)) ?_
      refine Gets.via (fun _ k => (iincV A59 hx rfl (D d8_23) rfl (v := (2 : Int32)) (by decide) (l' := #[vR x, vI (2 : Int32), vI (4 : Int32)]) rfl (XS.goto A59 hx rfl (pc0 := 26) (pc' := 7) rfl (D d8_26) (by decide) (by decide) k))) ?_
      show Gets p e below _ (T37.setTop (mkF m 7 #[vR x, vI (2 : Int32), vI (4 : Int32)] []))
      refine Gets.via (fun _ k => (XS.iloadN A59 hx rfl (D d8_7) rfl (XS.iloadN A59 hx rfl (D d8_8) rfl (XS.icmpNo A59 hx rfl (D d8_9) rfl (Jvm.Free.XT.ii_ge_f (by decide)) k)))) ?_
      refine Gets.via (fun _ k => (XS.aloadN A59 hx rfl (D d8_12) rfl rfl (XS.iloadN A59 hx rfl (D d8_13) rfl k))) ?_
      refine X37.callV (W := 0) (w52 hw) (w53 hw) (w55 hw) (w54 hw) (nfs rfl (w55 hw)) (by decide) (payCh X37 hw (w10 hw) Pr0 O2 P5 O4 P6 (2) (Nat.le_of_ble_eq_true rfl) rfl (by decide) (by decide)) Pr0.1 rfl (sz hml rfl) (argsL := [(.int (2 : Int32))]) (rest := []) (lenOf pd11 rfl) rfl rfl (mroom rfl rfl) (D d8_14) (by decide) (by decide) fun T60 h60 vm60 v60 X60 C60 z60 q60 => ?_
      obtain ⟨rfl, K60⟩ := q60
      rw [K60] at X60 C60
      refine X60.callS (W := 0) (w74 hw) (w75 hw) (w40 hw) (w76 hw) (by decide) (X60.payM (sf := []) (rmIsSp hc c2 h0 X60.old ) sf0 (w76 hw) (w40 hw) (by decide) (by decide)) rfl (sz hml rfl) (argsL := [(.int c2)]) (rest := []) (lenOf pd12 rfl) rfl rfl (mroom rfl rfl) (D d8_17) (by decide) (by decide) fun T61 h61 vm61 v61 X61 C61 z61 q61 => ?_
      obtain ⟨r61, rfl, K61, rfl⟩ := q61
      rw [K61] at X61 C61
      by_cases b20_2 : (if sp c2 = true then 1 else 0) = (0 : Int32)
      · have A62 := X61.at
        refine Gets.via (fun _ k => (XS.ifYes A62 hx rfl (pc0 := 20) (pc' := 29) rfl (D d8_20) rfl (Jvm.Free.XT.i0_eq_t b20_2) (by decide) (by decide) k)) ?_
        show Gets p e below _ (T61.setTop (mkF m 29 #[vR x, vI (2 : Int32), vI (4 : Int32)] []))
        refine Gets.via (fun _ k => (XS.iloadN A62 hx rfl (D d8_29) rfl (XS.iloadN A62 hx rfl (D d8_30) rfl (XS.icmpNo A62 hx rfl (D d8_31) rfl (Jvm.Free.XT.ii_le_f (by decide)) k)))) ?_
        refine Gets.via (fun _ k => (XS.aloadN A62 hx rfl (D d8_34) rfl rfl (XS.iloadN A62 hx rfl (D d8_35) rfl (XS.iconst A62 hx rfl (D d8_36) (isubV A62 hx rfl (D d8_37) rfl (v := (3 : Int32)) (by decide) k))))) ?_
        refine X61.callV (W := 0) (w52 hw) (w53 hw) (w55 hw) (w54 hw) (nfs rfl (w55 hw)) (by decide) (payCh X61 hw (w10 hw) Pr0 O2 P5 O4 P6 (3) (Nat.le_of_ble_eq_true rfl) rfl (by decide) (by decide)) Pr0.1 rfl (sz hml rfl) (argsL := [(.int (3 : Int32))]) (rest := []) (lenOf pd11 rfl) rfl rfl (mroom rfl rfl) (D d8_38) (by decide) (by decide) fun T63 h63 vm63 v63 X63 C63 z63 q63 => ?_
        obtain ⟨rfl, K63⟩ := q63
        rw [K63] at X63 C63
        refine X63.callS (W := 0) (w74 hw) (w75 hw) (w40 hw) (w76 hw) (by decide) (X63.payM (sf := []) (rmIsSp hc c3 h0 X63.old ) sf0 (w76 hw) (w40 hw) (by decide) (by decide)) rfl (sz hml rfl) (argsL := [(.int c3)]) (rest := []) (lenOf pd12 rfl) rfl rfl (mroom rfl rfl) (D d8_41) (by decide) (by decide) fun T64 h64 vm64 v64 X64 C64 z64 q64 => ?_
        obtain ⟨r64, rfl, K64, rfl⟩ := q64
        rw [K64] at X64 C64
        show Gets p e below _ (T64.setTop (mkF m 44 #[vR x, vI (2 : Int32), vI (4 : Int32)] [(.int (if sp c3 = true then 1 else 0))]))
        by_cases b44 : (if sp c3 = true then 1 else 0) = (0 : Int32)
        · have A65 := X64.at
          refine Gets.via (fun _ k => (XS.ifYes A65 hx rfl (pc0 := 44) (pc' := 53) rfl (D d8_44) rfl (Jvm.Free.XT.i0_eq_t b44) (by decide) (by decide) k)) ?_
          refine Gets.via (fun _ k => (XS.aloadN A65 hx rfl (D d8_53) rfl rfl (XS.iloadN A65 hx rfl (D d8_54) rfl (XS.iloadN A65 hx rfl (D d8_55) rfl k)))) ?_
          refine X64.callV (W := 0) (w77 hw) (w78 hw) (w80 hw) (w79 hw) (nfs rfl (w80 hw)) (by decide) (X64.payM (sf := []) (rmSubs hc x b kb [c0, c1, c2, c3] 2 2 h0 X64.old Pr0 (by first | exact Nat.le_of_ble_eq_true rfl | omega) (by decide)) sf0 (w81 hw) (w11 hw) (by decide) (by decide)) Pr0.1 rfl (sz hml rfl) (argsL := [(.int (2 : Int32)), (.int (4 : Int32))]) (rest := []) (lenOf pd14 rfl) rfl rfl (mroom rfl rfl) (D d8_56) (by decide) (by decide) fun T66 h66 vm66 v66 X66 C66 z66 q66 => ?_
          obtain ⟨a66, t66, kt66, ds66, rfl, K66, g66_0, rfl⟩ := q66
          have l67 := ltA g66_0.lt
          have l68 := ltA g66_0.lb
          exact X66.retA hret rfl rfl rfl (D d8_59) (by decide) (by decide) (fun vmE CE => ⟨a66, t66, kt66, ((([c0, c1, c2, c3].drop 2).take 2)), rfl, ((Keep.refl h0 []).trans K66 all0), g66_0, (by simp [trimL, sp_yes b20, sp_yes b20_1, sp_no b20_2, sp_no b44])⟩)
        · have A69 := X64.at
          refine Gets.via (fun _ k => (XS.ifNo A69 hx rfl (D d8_44) rfl (Jvm.Free.XT.i0_eq_f b44) k)) ?_
          refine Gets.via (fun _ k => (iincV A69 hx rfl (D d8_47) rfl (v := (3 : Int32)) (by decide) (l' := #[vR x, vI (2 : Int32), vI (3 : Int32)]) rfl (XS.goto A69 hx rfl (pc0 := 50) (pc' := 29) rfl (D d8_50) (by decide) (by decide) k))) ?_
          refine Gets.via (fun _ k => (XS.iloadN A69 hx rfl (D d8_29) rfl (XS.iloadN A69 hx rfl (D d8_30) rfl (XS.icmpNo A69 hx rfl (D d8_31) rfl (Jvm.Free.XT.ii_le_f (by decide)) k)))) ?_
          show Gets p e below _ (T64.setTop (mkF m 34 #[vR x, vI (2 : Int32), vI (3 : Int32)] []))
          refine Gets.via (fun _ k => (XS.aloadN A69 hx rfl (D d8_34) rfl rfl (XS.iloadN A69 hx rfl (D d8_35) rfl (XS.iconst A69 hx rfl (D d8_36) (isubV A69 hx rfl (D d8_37) rfl (v := (2 : Int32)) (by decide) k))))) ?_
          refine X64.callV (W := 0) (w52 hw) (w53 hw) (w55 hw) (w54 hw) (nfs rfl (w55 hw)) (by decide) (payCh X64 hw (w10 hw) Pr0 O2 P5 O4 P6 (2) (Nat.le_of_ble_eq_true rfl) rfl (by decide) (by decide)) Pr0.1 rfl (sz hml rfl) (argsL := [(.int (2 : Int32))]) (rest := []) (lenOf pd11 rfl) rfl rfl (mroom rfl rfl) (D d8_38) (by decide) (by decide) fun T70 h70 vm70 v70 X70 C70 z70 q70 => ?_
          obtain ⟨rfl, K70⟩ := q70
          rw [K70] at X70 C70
          refine X70.callS (W := 0) (w74 hw) (w75 hw) (w40 hw) (w76 hw) (by decide) (X70.payM (sf := []) (rmIsSp hc c2 h0 X70.old ) sf0 (w76 hw) (w40 hw) (by decide) (by decide)) rfl (sz hml rfl) (argsL := [(.int c2)]) (rest := []) (lenOf pd12 rfl) rfl rfl (mroom rfl rfl) (D d8_41) (by decide) (by decide) fun T71 h71 vm71 v71 X71 C71 z71 q71 => ?_
          obtain ⟨r71, rfl, K71, rfl⟩ := q71
          rw [K71] at X71 C71
          have A72 := X71.at
          refine Gets.via (fun _ k => (XS.ifYes A72 hx rfl (pc0 := 44) (pc' := 53) rfl (D d8_44) rfl (Jvm.Free.XT.i0_eq_t b20_2) (by decide) (by decide) k)) ?_
          refine Gets.via (fun _ k => (XS.aloadN A72 hx rfl (D d8_53) rfl rfl (XS.iloadN A72 hx rfl (D d8_54) rfl (XS.iloadN A72 hx rfl (D d8_55) rfl k)))) ?_
          show Gets p e below _ (T71.setTop (mkF m 56 #[vR x, vI (2 : Int32), vI (3 : Int32)] [(.int (3 : Int32)), (.int (2 : Int32)), (.ref x)]))
          refine X71.callV (W := 0) (w77 hw) (w78 hw) (w80 hw) (w79 hw) (nfs rfl (w80 hw)) (by decide) (X71.payM (sf := []) (rmSubs hc x b kb [c0, c1, c2, c3] 2 1 h0 X71.old Pr0 (by first | exact Nat.le_of_ble_eq_true rfl | omega) (by decide)) sf0 (w81 hw) (w11 hw) (by decide) (by decide)) Pr0.1 rfl (sz hml rfl) (argsL := [(.int (2 : Int32)), (.int (3 : Int32))]) (rest := []) (lenOf pd14 rfl) rfl rfl (mroom rfl rfl) (D d8_56) (by decide) (by decide) fun T73 h73 vm73 v73 X73 C73 z73 q73 => ?_
          obtain ⟨a73, t73, kt73, ds73, rfl, K73, g73_0, rfl⟩ := q73
          have l74 := ltA g73_0.lt
          have l75 := ltA g73_0.lb
          exact X73.retA hret rfl rfl rfl (D d8_59) (by decide) (by decide) (fun vmE CE => ⟨a73, t73, kt73, ((([c0, c1, c2, c3].drop 2).take 1)), rfl, ((Keep.refl h0 []).trans K73 all0), g73_0, (by simp [trimL, sp_yes b20, sp_yes b20_1, sp_no b20_2, sp_yes b44])⟩)
      · have A76 := X61.at
        refine Gets.via (fun _ k => (XS.ifNo A76 hx rfl (D d8_20) rfl (Jvm.Free.XT.i0_eq_f b20_2) k)) ?_
        refine Gets.via (fun _ k => (iincV A76 hx rfl (D d8_23) rfl (v := (3 : Int32)) (by decide) (l' := #[vR x, vI (3 : Int32), vI (4 : Int32)]) rfl (XS.goto A76 hx rfl (pc0 := 26) (pc' := 7) rfl (D d8_26) (by decide) (by decide) k))) ?_
        refine Gets.via (fun _ k => (XS.iloadN A76 hx rfl (D d8_7) rfl (XS.iloadN A76 hx rfl (D d8_8) rfl (XS.icmpNo A76 hx rfl (D d8_9) rfl (Jvm.Free.XT.ii_ge_f (by decide)) k)))) ?_
        refine Gets.via (fun _ k => (XS.aloadN A76 hx rfl (D d8_12) rfl rfl (XS.iloadN A76 hx rfl (D d8_13) rfl k))) ?_
        refine X61.callV (W := 0) (w52 hw) (w53 hw) (w55 hw) (w54 hw) (nfs rfl (w55 hw)) (by decide) (payCh X61 hw (w10 hw) Pr0 O2 P5 O4 P6 (3) (Nat.le_of_ble_eq_true rfl) rfl (by decide) (by decide)) Pr0.1 rfl (sz hml rfl) (argsL := [(.int (3 : Int32))]) (rest := []) (lenOf pd11 rfl) rfl rfl (mroom rfl rfl) (D d8_14) (by decide) (by decide) fun T77 h77 vm77 v77 X77 C77 z77 q77 => ?_
        obtain ⟨rfl, K77⟩ := q77
        rw [K77] at X77 C77
        show Gets p e below _ (T77.setTop (mkF m 17 #[vR x, vI (3 : Int32), vI (4 : Int32)] [(.int c3)]))
        refine X77.callS (W := 0) (w74 hw) (w75 hw) (w40 hw) (w76 hw) (by decide) (X77.payM (sf := []) (rmIsSp hc c3 h0 X77.old ) sf0 (w76 hw) (w40 hw) (by decide) (by decide)) rfl (sz hml rfl) (argsL := [(.int c3)]) (rest := []) (lenOf pd12 rfl) rfl rfl (mroom rfl rfl) (D d8_17) (by decide) (by decide) fun T78 h78 vm78 v78 X78 C78 z78 q78 => ?_
        obtain ⟨r78, rfl, K78, rfl⟩ := q78
        rw [K78] at X78 C78
        by_cases b20_3 : (if sp c3 = true then 1 else 0) = (0 : Int32)
        · have A79 := X78.at
          refine Gets.via (fun _ k => (XS.ifYes A79 hx rfl (pc0 := 20) (pc' := 29) rfl (D d8_20) rfl (Jvm.Free.XT.i0_eq_t b20_3) (by decide) (by decide) k)) ?_
          refine Gets.via (fun _ k => (XS.iloadN A79 hx rfl (D d8_29) rfl (XS.iloadN A79 hx rfl (D d8_30) rfl (XS.icmpNo A79 hx rfl (D d8_31) rfl (Jvm.Free.XT.ii_le_f (by decide)) k)))) ?_
          refine Gets.via (fun _ k => (XS.aloadN A79 hx rfl (D d8_34) rfl rfl (XS.iloadN A79 hx rfl (D d8_35) rfl (XS.iconst A79 hx rfl (D d8_36) (isubV A79 hx rfl (D d8_37) rfl (v := (3 : Int32)) (by decide) k))))) ?_
          refine X78.callV (W := 0) (w52 hw) (w53 hw) (w55 hw) (w54 hw) (nfs rfl (w55 hw)) (by decide) (payCh X78 hw (w10 hw) Pr0 O2 P5 O4 P6 (3) (Nat.le_of_ble_eq_true rfl) rfl (by decide) (by decide)) Pr0.1 rfl (sz hml rfl) (argsL := [(.int (3 : Int32))]) (rest := []) (lenOf pd11 rfl) rfl rfl (mroom rfl rfl) (D d8_38) (by decide) (by decide) fun T80 h80 vm80 v80 X80 C80 z80 q80 => ?_
          obtain ⟨rfl, K80⟩ := q80
          rw [K80] at X80 C80
          show Gets p e below _ (T80.setTop (mkF m 41 #[vR x, vI (3 : Int32), vI (4 : Int32)] [(.int c3)]))
          refine X80.callS (W := 0) (w74 hw) (w75 hw) (w40 hw) (w76 hw) (by decide) (X80.payM (sf := []) (rmIsSp hc c3 h0 X80.old ) sf0 (w76 hw) (w40 hw) (by decide) (by decide)) rfl (sz hml rfl) (argsL := [(.int c3)]) (rest := []) (lenOf pd12 rfl) rfl rfl (mroom rfl rfl) (D d8_41) (by decide) (by decide) fun T81 h81 vm81 v81 X81 C81 z81 q81 => ?_
          obtain ⟨r81, rfl, K81, rfl⟩ := q81
          rw [K81] at X81 C81
          have A82 := X81.at
          refine Gets.via (fun _ k => (XS.ifYes A82 hx rfl (pc0 := 44) (pc' := 53) rfl (D d8_44) rfl (Jvm.Free.XT.i0_eq_t b20_3) (by decide) (by decide) k)) ?_
          refine Gets.via (fun _ k => (XS.aloadN A82 hx rfl (D d8_53) rfl rfl (XS.iloadN A82 hx rfl (D d8_54) rfl (XS.iloadN A82 hx rfl (D d8_55) rfl k)))) ?_
          refine X81.callV (W := 0) (w77 hw) (w78 hw) (w80 hw) (w79 hw) (nfs rfl (w80 hw)) (by decide) (X81.payM (sf := []) (rmSubs hc x b kb [c0, c1, c2, c3] 3 1 h0 X81.old Pr0 (by first | exact Nat.le_of_ble_eq_true rfl | omega) (by decide)) sf0 (w81 hw) (w11 hw) (by decide) (by decide)) Pr0.1 rfl (sz hml rfl) (argsL := [(.int (3 : Int32)), (.int (4 : Int32))]) (rest := []) (lenOf pd14 rfl) rfl rfl (mroom rfl rfl) (D d8_56) (by decide) (by decide) fun T83 h83 vm83 v83 X83 C83 z83 q83 => ?_
          obtain ⟨a83, t83, kt83, ds83, rfl, K83, g83_0, rfl⟩ := q83
          have l84 := ltA g83_0.lt
          have l85 := ltA g83_0.lb
          exact X83.retA hret rfl rfl rfl (D d8_59) (by decide) (by decide) (fun vmE CE => ⟨a83, t83, kt83, ((([c0, c1, c2, c3].drop 3).take 1)), rfl, ((Keep.refl h0 []).trans K83 all0), g83_0, (by simp [trimL, sp_yes b20, sp_yes b20_1, sp_yes b20_2, sp_no b20_3])⟩)
        · have A86 := X78.at
          refine Gets.via (fun _ k => (XS.ifNo A86 hx rfl (D d8_20) rfl (Jvm.Free.XT.i0_eq_f b20_3) k)) ?_
          refine Gets.via (fun _ k => (iincV A86 hx rfl (D d8_23) rfl (v := (4 : Int32)) (by decide) (l' := #[vR x, vI (4 : Int32), vI (4 : Int32)]) rfl (XS.goto A86 hx rfl (pc0 := 26) (pc' := 7) rfl (D d8_26) (by decide) (by decide) k))) ?_
          show Gets p e below _ (T78.setTop (mkF m 7 #[vR x, vI (4 : Int32), vI (4 : Int32)] []))
          refine Gets.via (fun _ k => (XS.iloadN A86 hx rfl (D d8_7) rfl (XS.iloadN A86 hx rfl (D d8_8) rfl (XS.icmpYes A86 hx rfl (pc0 := 9) (pc' := 29) rfl (D d8_9) rfl (Jvm.Free.XT.ii_ge_t (by decide)) (by decide) (by decide) k)))) ?_
          refine Gets.via (fun _ k => (XS.iloadN A86 hx rfl (D d8_29) rfl (XS.iloadN A86 hx rfl (D d8_30) rfl (XS.icmpYes A86 hx rfl (pc0 := 31) (pc' := 53) rfl (D d8_31) rfl (Jvm.Free.XT.ii_le_t (by decide)) (by decide) (by decide) k)))) ?_
          refine Gets.via (fun _ k => (XS.aloadN A86 hx rfl (D d8_53) rfl rfl (XS.iloadN A86 hx rfl (D d8_54) rfl (XS.iloadN A86 hx rfl (D d8_55) rfl k)))) ?_
          refine X78.callV (W := 0) (w77 hw) (w78 hw) (w80 hw) (w79 hw) (nfs rfl (w80 hw)) (by decide) (X78.payM (sf := []) (rmSubs hc x b kb [c0, c1, c2, c3] 4 0 h0 X78.old Pr0 (by first | exact Nat.le_of_ble_eq_true rfl | omega) (by decide)) sf0 (w81 hw) (w11 hw) (by decide) (by decide)) Pr0.1 rfl (sz hml rfl) (argsL := [(.int (4 : Int32)), (.int (4 : Int32))]) (rest := []) (lenOf pd14 rfl) rfl rfl (mroom rfl rfl) (D d8_56) (by decide) (by decide) fun T87 h87 vm87 v87 X87 C87 z87 q87 => ?_
          obtain ⟨a87, t87, kt87, ds87, rfl, K87, g87_0, rfl⟩ := q87
          have l88 := ltA g87_0.lt
          have l89 := ltA g87_0.lb
          show Gets p e below _ (T87.setTop (mkF m 59 #[vR x, vI (4 : Int32), vI (4 : Int32)] [(.ref a87)]))
          exact X87.retA hret rfl rfl rfl (D d8_59) (by decide) (by decide) (fun vmE CE => ⟨a87, t87, kt87, ((([c0, c1, c2, c3].drop 4).take 0)), rfl, ((Keep.refl h0 []).trans K87 all0), g87_0, (by simp [trimL, sp_yes b20, sp_yes b20_1, sp_yes b20_2, sp_yes b20_3])⟩)
abbrev RrmWs5 : Room := { frames := 5, cells := 2, slots := 12, locals := 84 }
def QrmWs5 (Z : State) (x : Addr) (b : Addr) (kb : ClassId) (c0 : Int32) (c1 : Int32) (c2 : Int32) (c3 : Int32) (c4 : Int32) (h0 : Heap) (v : Option Value) (vm : Vm) (h : Heap) : Prop := ∃ (a : Addr) (t : Addr) (kt : ClassId) (ds : List Int32), v = some (.ref a) ∧ Keep h0 h [] ∧ Str Z h a t kt ds ∧ ds = trimL [c0, c1, c2, c3, c4]
theorem rmWs5 (hc : Cx Z a0 zc fm) (x : Addr) (b : Addr) (kb : ClassId) (c0 : Int32) (c1 : Int32) (c2 : Int32) (c3 : Int32) (c4 : Int32) (h0 : Heap) (O0 : Old Z Z.heap.size h0) (Pr0 : Str Z h0 x b kb [c0, c1, c2, c3, c4]) : Met l Z consts_1 (⟨"org/holdfast/model/Content", "withoutSpace", "(Ljava/lang/String;)Ljava/lang/String;"⟩ : MethodName) prog_17_method_4_code 3 (some (.object "java/lang/String")) [] RrmWs5 [] #[(.ref x)] h0 (QrmWs5 Z x b kb c0 c1 c2 c3 c4 h0) := by
  have ⟨hw, hEL, O2, P5, O4, P6⟩ := hc
  refine Met.start (a0 := a0) (Ls := #[vR x, .unset, .unset]) pn8 hEL O0 (fun m => by first | (simp [entryFrame, mkF, argsToLocals, Value.category]; done) | rfl) ?_
  intro p e s m below meth cc T0 vm0 X0 sf0_ hby hml hret hnm
  have hx := X0.hx
  have D : ∀ {n r}, decode prog_17_method_4_code n = r → decode cc.code n = r := fun d => hb hby d
  have zz := X0.ge
  have A0 := X0.at
  have l1 := ltA Pr0.lt
  have l2 := ltA Pr0.lb
  refine Gets.via (fun _ k => (XS.iconst A0 hx rfl (D d8_0) (XS.istoreN A0 hx rfl (D d8_1) rfl (l' := #[vR x, vI (0 : Int32), .unset]) rfl (XS.aloadN A0 hx rfl (D d8_2) rfl rfl k)))) ?_
  refine X0.callV (W := 0) (w42 hw) (w43 hw) (w45 hw) (w44 hw) (nfs rfl (w45 hw)) (by decide) (payLen X0 hw (w10 hw) Pr0 O2 P5 (by decide) (by decide)) Pr0.1 rfl (sz hml rfl) (argsL := []) (rest := []) (lenOf pd6 rfl) rfl rfl (mroom rfl rfl) (D d8_3) (by decide) (by decide) fun T3 h3 vm3 v3 X3 C3 z3 q3 => ?_
  obtain ⟨rfl, K3⟩ := q3
  rw [K3] at X3 C3
  have A4 := X3.at
  refine Gets.via (fun _ k => (XS.istoreN A4 hx rfl (D d8_6) rfl (l' := #[vR x, vI (0 : Int32), vI (5 : Int32)]) rfl (XS.iloadN A4 hx rfl (D d8_7) rfl (XS.iloadN A4 hx rfl (D d8_8) rfl (XS.icmpNo A4 hx rfl (D d8_9) rfl (Jvm.Free.XT.ii_ge_f (by decide)) k))))) ?_
  show Gets p e below _ (T3.setTop (mkF m 12 #[vR x, vI (0 : Int32), vI (5 : Int32)] []))
  refine Gets.via (fun _ k => (XS.aloadN A4 hx rfl (D d8_12) rfl rfl (XS.iloadN A4 hx rfl (D d8_13) rfl k))) ?_
  refine X3.callV (W := 0) (w52 hw) (w53 hw) (w55 hw) (w54 hw) (nfs rfl (w55 hw)) (by decide) (payCh X3 hw (w10 hw) Pr0 O2 P5 O4 P6 (0) (Nat.le_of_ble_eq_true rfl) rfl (by decide) (by decide)) Pr0.1 rfl (sz hml rfl) (argsL := [(.int (0 : Int32))]) (rest := []) (lenOf pd11 rfl) rfl rfl (mroom rfl rfl) (D d8_14) (by decide) (by decide) fun T5 h5 vm5 v5 X5 C5 z5 q5 => ?_
  obtain ⟨rfl, K5⟩ := q5
  rw [K5] at X5 C5
  refine X5.callS (W := 0) (w74 hw) (w75 hw) (w40 hw) (w76 hw) (by decide) (X5.payM (sf := []) (rmIsSp hc c0 h0 X5.old ) sf0 (w76 hw) (w40 hw) (by decide) (by decide)) rfl (sz hml rfl) (argsL := [(.int c0)]) (rest := []) (lenOf pd12 rfl) rfl rfl (mroom rfl rfl) (D d8_17) (by decide) (by decide) fun T6 h6 vm6 v6 X6 C6 z6 q6 => ?_
  obtain ⟨r6, rfl, K6, rfl⟩ := q6
  rw [K6] at X6 C6
  by_cases b20 : (if sp c0 = true then 1 else 0) = (0 : Int32)
  · have A7 := X6.at
    refine Gets.via (fun _ k => (XS.ifYes A7 hx rfl (pc0 := 20) (pc' := 29) rfl (D d8_20) rfl (Jvm.Free.XT.i0_eq_t b20) (by decide) (by decide) k)) ?_
    refine Gets.via (fun _ k => (XS.iloadN A7 hx rfl (D d8_29) rfl (XS.iloadN A7 hx rfl (D d8_30) rfl (XS.icmpNo A7 hx rfl (D d8_31) rfl (Jvm.Free.XT.ii_le_f (by decide)) k)))) ?_
    show Gets p e below _ (T6.setTop (mkF m 34 #[vR x, vI (0 : Int32), vI (5 : Int32)] []))
    refine Gets.via (fun _ k => (XS.aloadN A7 hx rfl (D d8_34) rfl rfl (XS.iloadN A7 hx rfl (D d8_35) rfl (XS.iconst A7 hx rfl (D d8_36) (isubV A7 hx rfl (D d8_37) rfl (v := (4 : Int32)) (by decide) k))))) ?_
    refine X6.callV (W := 0) (w52 hw) (w53 hw) (w55 hw) (w54 hw) (nfs rfl (w55 hw)) (by decide) (payCh X6 hw (w10 hw) Pr0 O2 P5 O4 P6 (4) (Nat.le_of_ble_eq_true rfl) rfl (by decide) (by decide)) Pr0.1 rfl (sz hml rfl) (argsL := [(.int (4 : Int32))]) (rest := []) (lenOf pd11 rfl) rfl rfl (mroom rfl rfl) (D d8_38) (by decide) (by decide) fun T8 h8 vm8 v8 X8 C8 z8 q8 => ?_
    obtain ⟨rfl, K8⟩ := q8
    rw [K8] at X8 C8
    refine X8.callS (W := 0) (w74 hw) (w75 hw) (w40 hw) (w76 hw) (by decide) (X8.payM (sf := []) (rmIsSp hc c4 h0 X8.old ) sf0 (w76 hw) (w40 hw) (by decide) (by decide)) rfl (sz hml rfl) (argsL := [(.int c4)]) (rest := []) (lenOf pd12 rfl) rfl rfl (mroom rfl rfl) (D d8_41) (by decide) (by decide) fun T9 h9 vm9 v9 X9 C9 z9 q9 => ?_
    obtain ⟨r9, rfl, K9, rfl⟩ := q9
    rw [K9] at X9 C9
    by_cases b44 : (if sp c4 = true then 1 else 0) = (0 : Int32)
    · have A10 := X9.at
      refine Gets.via (fun _ k => (XS.ifYes A10 hx rfl (pc0 := 44) (pc' := 53) rfl (D d8_44) rfl (Jvm.Free.XT.i0_eq_t b44) (by decide) (by decide) k)) ?_
      refine Gets.via (fun _ k => (XS.aloadN A10 hx rfl (D d8_53) rfl rfl (XS.iloadN A10 hx rfl (D d8_54) rfl (XS.iloadN A10 hx rfl (D d8_55) rfl k)))) ?_
      show Gets p e below _ (T9.setTop (mkF m 56 #[vR x, vI (0 : Int32), vI (5 : Int32)] [(.int (5 : Int32)), (.int (0 : Int32)), (.ref x)]))
      refine X9.callV (W := 0) (w77 hw) (w78 hw) (w80 hw) (w79 hw) (nfs rfl (w80 hw)) (by decide) (X9.payM (sf := []) (rmSubs hc x b kb [c0, c1, c2, c3, c4] 0 5 h0 X9.old Pr0 (by first | exact Nat.le_of_ble_eq_true rfl | omega) (by decide)) sf0 (w81 hw) (w11 hw) (by decide) (by decide)) Pr0.1 rfl (sz hml rfl) (argsL := [(.int (0 : Int32)), (.int (5 : Int32))]) (rest := []) (lenOf pd14 rfl) rfl rfl (mroom rfl rfl) (D d8_56) (by decide) (by decide) fun T11 h11 vm11 v11 X11 C11 z11 q11 => ?_
      obtain ⟨a11, t11, kt11, ds11, rfl, K11, g11_0, rfl⟩ := q11
      have l12 := ltA g11_0.lt
      have l13 := ltA g11_0.lb
      exact X11.retA hret rfl rfl rfl (D d8_59) (by decide) (by decide) (fun vmE CE => ⟨a11, t11, kt11, ((([c0, c1, c2, c3, c4].drop 0).take 5)), rfl, ((Keep.refl h0 []).trans K11 all0), g11_0, (by simp [trimL, sp_no b20, sp_no b44])⟩)
    · have A14 := X9.at
      refine Gets.via (fun _ k => (XS.ifNo A14 hx rfl (D d8_44) rfl (Jvm.Free.XT.i0_eq_f b44) k)) ?_
      refine Gets.via (fun _ k => (iincV A14 hx rfl (D d8_47) rfl (v := (4 : Int32)) (by decide) (l' := #[vR x, vI (0 : Int32), vI (4 : Int32)]) rfl (XS.goto A14 hx rfl (pc0 := 50) (pc' := 29) rfl (D d8_50) (by decide) (by decide) k))) ?_
      refine Gets.via (fun _ k => (XS.iloadN A14 hx rfl (D d8_29) rfl (XS.iloadN A14 hx rfl (D d8_30) rfl (XS.icmpNo A14 hx rfl (D d8_31) rfl (Jvm.Free.XT.ii_le_f (by decide)) k)))) ?_
      refine Gets.via (fun _ k => (XS.aloadN A14 hx rfl (D d8_34) rfl rfl (XS.iloadN A14 hx rfl (D d8_35) rfl (XS.iconst A14 hx rfl (D d8_36) (isubV A14 hx rfl (D d8_37) rfl (v := (3 : Int32)) (by decide) k))))) ?_
      show Gets p e below _ (T9.setTop (mkF m 38 #[vR x, vI (0 : Int32), vI (4 : Int32)] [(.int (3 : Int32)), (.ref x)]))
      refine X9.callV (W := 0) (w52 hw) (w53 hw) (w55 hw) (w54 hw) (nfs rfl (w55 hw)) (by decide) (payCh X9 hw (w10 hw) Pr0 O2 P5 O4 P6 (3) (Nat.le_of_ble_eq_true rfl) rfl (by decide) (by decide)) Pr0.1 rfl (sz hml rfl) (argsL := [(.int (3 : Int32))]) (rest := []) (lenOf pd11 rfl) rfl rfl (mroom rfl rfl) (D d8_38) (by decide) (by decide) fun T15 h15 vm15 v15 X15 C15 z15 q15 => ?_
      obtain ⟨rfl, K15⟩ := q15
      rw [K15] at X15 C15
      refine X15.callS (W := 0) (w74 hw) (w75 hw) (w40 hw) (w76 hw) (by decide) (X15.payM (sf := []) (rmIsSp hc c3 h0 X15.old ) sf0 (w76 hw) (w40 hw) (by decide) (by decide)) rfl (sz hml rfl) (argsL := [(.int c3)]) (rest := []) (lenOf pd12 rfl) rfl rfl (mroom rfl rfl) (D d8_41) (by decide) (by decide) fun T16 h16 vm16 v16 X16 C16 z16 q16 => ?_
      obtain ⟨r16, rfl, K16, rfl⟩ := q16
      rw [K16] at X16 C16
      by_cases b44_1 : (if sp c3 = true then 1 else 0) = (0 : Int32)
      · have A17 := X16.at
        refine Gets.via (fun _ k => (XS.ifYes A17 hx rfl (pc0 := 44) (pc' := 53) rfl (D d8_44) rfl (Jvm.Free.XT.i0_eq_t b44_1) (by decide) (by decide) k)) ?_
        refine Gets.via (fun _ k => (XS.aloadN A17 hx rfl (D d8_53) rfl rfl (XS.iloadN A17 hx rfl (D d8_54) rfl (XS.iloadN A17 hx rfl (D d8_55) rfl k)))) ?_
        refine X16.callV (W := 0) (w77 hw) (w78 hw) (w80 hw) (w79 hw) (nfs rfl (w80 hw)) (by decide) (X16.payM (sf := []) (rmSubs hc x b kb [c0, c1, c2, c3, c4] 0 4 h0 X16.old Pr0 (by first | exact Nat.le_of_ble_eq_true rfl | omega) (by decide)) sf0 (w81 hw) (w11 hw) (by decide) (by decide)) Pr0.1 rfl (sz hml rfl) (argsL := [(.int (0 : Int32)), (.int (4 : Int32))]) (rest := []) (lenOf pd14 rfl) rfl rfl (mroom rfl rfl) (D d8_56) (by decide) (by decide) fun T18 h18 vm18 v18 X18 C18 z18 q18 => ?_
        obtain ⟨a18, t18, kt18, ds18, rfl, K18, g18_0, rfl⟩ := q18
        have l19 := ltA g18_0.lt
        have l20 := ltA g18_0.lb
        show Gets p e below _ (T18.setTop (mkF m 59 #[vR x, vI (0 : Int32), vI (4 : Int32)] [(.ref a18)]))
        exact X18.retA hret rfl rfl rfl (D d8_59) (by decide) (by decide) (fun vmE CE => ⟨a18, t18, kt18, ((([c0, c1, c2, c3, c4].drop 0).take 4)), rfl, ((Keep.refl h0 []).trans K18 all0), g18_0, (by simp [trimL, sp_no b20, sp_yes b44, sp_no b44_1])⟩)
      · have A21 := X16.at
        refine Gets.via (fun _ k => (XS.ifNo A21 hx rfl (D d8_44) rfl (Jvm.Free.XT.i0_eq_f b44_1) k)) ?_
        refine Gets.via (fun _ k => (iincV A21 hx rfl (D d8_47) rfl (v := (3 : Int32)) (by decide) (l' := #[vR x, vI (0 : Int32), vI (3 : Int32)]) rfl (XS.goto A21 hx rfl (pc0 := 50) (pc' := 29) rfl (D d8_50) (by decide) (by decide) k))) ?_
        refine Gets.via (fun _ k => (XS.iloadN A21 hx rfl (D d8_29) rfl (XS.iloadN A21 hx rfl (D d8_30) rfl (XS.icmpNo A21 hx rfl (D d8_31) rfl (Jvm.Free.XT.ii_le_f (by decide)) k)))) ?_
        refine Gets.via (fun _ k => (XS.aloadN A21 hx rfl (D d8_34) rfl rfl (XS.iloadN A21 hx rfl (D d8_35) rfl (XS.iconst A21 hx rfl (D d8_36) (isubV A21 hx rfl (D d8_37) rfl (v := (2 : Int32)) (by decide) k))))) ?_
        refine X16.callV (W := 0) (w52 hw) (w53 hw) (w55 hw) (w54 hw) (nfs rfl (w55 hw)) (by decide) (payCh X16 hw (w10 hw) Pr0 O2 P5 O4 P6 (2) (Nat.le_of_ble_eq_true rfl) rfl (by decide) (by decide)) Pr0.1 rfl (sz hml rfl) (argsL := [(.int (2 : Int32))]) (rest := []) (lenOf pd11 rfl) rfl rfl (mroom rfl rfl) (D d8_38) (by decide) (by decide) fun T22 h22 vm22 v22 X22 C22 z22 q22 => ?_
        obtain ⟨rfl, K22⟩ := q22
        rw [K22] at X22 C22
        show Gets p e below _ (T22.setTop (mkF m 41 #[vR x, vI (0 : Int32), vI (3 : Int32)] [(.int c2)]))
        refine X22.callS (W := 0) (w74 hw) (w75 hw) (w40 hw) (w76 hw) (by decide) (X22.payM (sf := []) (rmIsSp hc c2 h0 X22.old ) sf0 (w76 hw) (w40 hw) (by decide) (by decide)) rfl (sz hml rfl) (argsL := [(.int c2)]) (rest := []) (lenOf pd12 rfl) rfl rfl (mroom rfl rfl) (D d8_41) (by decide) (by decide) fun T23 h23 vm23 v23 X23 C23 z23 q23 => ?_
        obtain ⟨r23, rfl, K23, rfl⟩ := q23
        rw [K23] at X23 C23
        by_cases b44_2 : (if sp c2 = true then 1 else 0) = (0 : Int32)
        · have A24 := X23.at
          refine Gets.via (fun _ k => (XS.ifYes A24 hx rfl (pc0 := 44) (pc' := 53) rfl (D d8_44) rfl (Jvm.Free.XT.i0_eq_t b44_2) (by decide) (by decide) k)) ?_
          refine Gets.via (fun _ k => (XS.aloadN A24 hx rfl (D d8_53) rfl rfl (XS.iloadN A24 hx rfl (D d8_54) rfl (XS.iloadN A24 hx rfl (D d8_55) rfl k)))) ?_
          refine X23.callV (W := 0) (w77 hw) (w78 hw) (w80 hw) (w79 hw) (nfs rfl (w80 hw)) (by decide) (X23.payM (sf := []) (rmSubs hc x b kb [c0, c1, c2, c3, c4] 0 3 h0 X23.old Pr0 (by first | exact Nat.le_of_ble_eq_true rfl | omega) (by decide)) sf0 (w81 hw) (w11 hw) (by decide) (by decide)) Pr0.1 rfl (sz hml rfl) (argsL := [(.int (0 : Int32)), (.int (3 : Int32))]) (rest := []) (lenOf pd14 rfl) rfl rfl (mroom rfl rfl) (D d8_56) (by decide) (by decide) fun T25 h25 vm25 v25 X25 C25 z25 q25 => ?_
          obtain ⟨a25, t25, kt25, ds25, rfl, K25, g25_0, rfl⟩ := q25
          have l26 := ltA g25_0.lt
          have l27 := ltA g25_0.lb
          exact X25.retA hret rfl rfl rfl (D d8_59) (by decide) (by decide) (fun vmE CE => ⟨a25, t25, kt25, ((([c0, c1, c2, c3, c4].drop 0).take 3)), rfl, ((Keep.refl h0 []).trans K25 all0), g25_0, (by simp [trimL, sp_no b20, sp_yes b44, sp_yes b44_1, sp_no b44_2])⟩)
        · have A28 := X23.at
          refine Gets.via (fun _ k => (XS.ifNo A28 hx rfl (D d8_44) rfl (Jvm.Free.XT.i0_eq_f b44_2) k)) ?_
          refine Gets.via (fun _ k => (iincV A28 hx rfl (D d8_47) rfl (v := (2 : Int32)) (by decide) (l' := #[vR x, vI (0 : Int32), vI (2 : Int32)]) rfl (XS.goto A28 hx rfl (pc0 := 50) (pc' := 29) rfl (D d8_50) (by decide) (by decide) k))) ?_
          show Gets p e below _ (T23.setTop (mkF m 29 #[vR x, vI (0 : Int32), vI (2 : Int32)] []))
          refine Gets.via (fun _ k => (XS.iloadN A28 hx rfl (D d8_29) rfl (XS.iloadN A28 hx rfl (D d8_30) rfl (XS.icmpNo A28 hx rfl (D d8_31) rfl (Jvm.Free.XT.ii_le_f (by decide)) k)))) ?_
          refine Gets.via (fun _ k => (XS.aloadN A28 hx rfl (D d8_34) rfl rfl (XS.iloadN A28 hx rfl (D d8_35) rfl (XS.iconst A28 hx rfl (D d8_36) (isubV A28 hx rfl (D d8_37) rfl (v := (1 : Int32)) (by decide) k))))) ?_
          refine X23.callV (W := 0) (w52 hw) (w53 hw) (w55 hw) (w54 hw) (nfs rfl (w55 hw)) (by decide) (payCh X23 hw (w10 hw) Pr0 O2 P5 O4 P6 (1) (Nat.le_of_ble_eq_true rfl) rfl (by decide) (by decide)) Pr0.1 rfl (sz hml rfl) (argsL := [(.int (1 : Int32))]) (rest := []) (lenOf pd11 rfl) rfl rfl (mroom rfl rfl) (D d8_38) (by decide) (by decide) fun T29 h29 vm29 v29 X29 C29 z29 q29 => ?_
          obtain ⟨rfl, K29⟩ := q29
          rw [K29] at X29 C29
          refine X29.callS (W := 0) (w74 hw) (w75 hw) (w40 hw) (w76 hw) (by decide) (X29.payM (sf := []) (rmIsSp hc c1 h0 X29.old ) sf0 (w76 hw) (w40 hw) (by decide) (by decide)) rfl (sz hml rfl) (argsL := [(.int c1)]) (rest := []) (lenOf pd12 rfl) rfl rfl (mroom rfl rfl) (D d8_41) (by decide) (by decide) fun T30 h30 vm30 v30 X30 C30 z30 q30 => ?_
          obtain ⟨r30, rfl, K30, rfl⟩ := q30
          rw [K30] at X30 C30
          show Gets p e below _ (T30.setTop (mkF m 44 #[vR x, vI (0 : Int32), vI (2 : Int32)] [(.int (if sp c1 = true then 1 else 0))]))
          by_cases b44_3 : (if sp c1 = true then 1 else 0) = (0 : Int32)
          · have A31 := X30.at
            refine Gets.via (fun _ k => (XS.ifYes A31 hx rfl (pc0 := 44) (pc' := 53) rfl (D d8_44) rfl (Jvm.Free.XT.i0_eq_t b44_3) (by decide) (by decide) k)) ?_
            refine Gets.via (fun _ k => (XS.aloadN A31 hx rfl (D d8_53) rfl rfl (XS.iloadN A31 hx rfl (D d8_54) rfl (XS.iloadN A31 hx rfl (D d8_55) rfl k)))) ?_
            refine X30.callV (W := 0) (w77 hw) (w78 hw) (w80 hw) (w79 hw) (nfs rfl (w80 hw)) (by decide) (X30.payM (sf := []) (rmSubs hc x b kb [c0, c1, c2, c3, c4] 0 2 h0 X30.old Pr0 (by first | exact Nat.le_of_ble_eq_true rfl | omega) (by decide)) sf0 (w81 hw) (w11 hw) (by decide) (by decide)) Pr0.1 rfl (sz hml rfl) (argsL := [(.int (0 : Int32)), (.int (2 : Int32))]) (rest := []) (lenOf pd14 rfl) rfl rfl (mroom rfl rfl) (D d8_56) (by decide) (by decide) fun T32 h32 vm32 v32 X32 C32 z32 q32 => ?_
            obtain ⟨a32, t32, kt32, ds32, rfl, K32, g32_0, rfl⟩ := q32
            have l33 := ltA g32_0.lt
            have l34 := ltA g32_0.lb
            exact X32.retA hret rfl rfl rfl (D d8_59) (by decide) (by decide) (fun vmE CE => ⟨a32, t32, kt32, ((([c0, c1, c2, c3, c4].drop 0).take 2)), rfl, ((Keep.refl h0 []).trans K32 all0), g32_0, (by simp [trimL, sp_no b20, sp_yes b44, sp_yes b44_1, sp_yes b44_2, sp_no b44_3])⟩)
          · have A35 := X30.at
            refine Gets.via (fun _ k => (XS.ifNo A35 hx rfl (D d8_44) rfl (Jvm.Free.XT.i0_eq_f b44_3) k)) ?_
            refine Gets.via (fun _ k => (iincV A35 hx rfl (D d8_47) rfl (v := (1 : Int32)) (by decide) (l' := #[vR x, vI (0 : Int32), vI (1 : Int32)]) rfl (XS.goto A35 hx rfl (pc0 := 50) (pc' := 29) rfl (D d8_50) (by decide) (by decide) k))) ?_
            refine Gets.via (fun _ k => (XS.iloadN A35 hx rfl (D d8_29) rfl (XS.iloadN A35 hx rfl (D d8_30) rfl (XS.icmpNo A35 hx rfl (D d8_31) rfl (Jvm.Free.XT.ii_le_f (by decide)) k)))) ?_
            show Gets p e below _ (T30.setTop (mkF m 34 #[vR x, vI (0 : Int32), vI (1 : Int32)] []))
            refine Gets.via (fun _ k => (XS.aloadN A35 hx rfl (D d8_34) rfl rfl (XS.iloadN A35 hx rfl (D d8_35) rfl (XS.iconst A35 hx rfl (D d8_36) (isubV A35 hx rfl (D d8_37) rfl (v := (0 : Int32)) (by decide) k))))) ?_
            refine X30.callV (W := 0) (w52 hw) (w53 hw) (w55 hw) (w54 hw) (nfs rfl (w55 hw)) (by decide) (payCh X30 hw (w10 hw) Pr0 O2 P5 O4 P6 (0) (Nat.le_of_ble_eq_true rfl) rfl (by decide) (by decide)) Pr0.1 rfl (sz hml rfl) (argsL := [(.int (0 : Int32))]) (rest := []) (lenOf pd11 rfl) rfl rfl (mroom rfl rfl) (D d8_38) (by decide) (by decide) fun T36 h36 vm36 v36 X36 C36 z36 q36 => ?_
            obtain ⟨rfl, K36⟩ := q36
            rw [K36] at X36 C36
            refine X36.callS (W := 0) (w74 hw) (w75 hw) (w40 hw) (w76 hw) (by decide) (X36.payM (sf := []) (rmIsSp hc c0 h0 X36.old ) sf0 (w76 hw) (w40 hw) (by decide) (by decide)) rfl (sz hml rfl) (argsL := [(.int c0)]) (rest := []) (lenOf pd12 rfl) rfl rfl (mroom rfl rfl) (D d8_41) (by decide) (by decide) fun T37 h37 vm37 v37 X37 C37 z37 q37 => ?_
            obtain ⟨r37, rfl, K37, rfl⟩ := q37
            rw [K37] at X37 C37
            have A38 := X37.at
            refine Gets.via (fun _ k => (XS.ifYes A38 hx rfl (pc0 := 44) (pc' := 53) rfl (D d8_44) rfl (Jvm.Free.XT.i0_eq_t b20) (by decide) (by decide) k)) ?_
            refine Gets.via (fun _ k => (XS.aloadN A38 hx rfl (D d8_53) rfl rfl (XS.iloadN A38 hx rfl (D d8_54) rfl (XS.iloadN A38 hx rfl (D d8_55) rfl k)))) ?_
            show Gets p e below _ (T37.setTop (mkF m 56 #[vR x, vI (0 : Int32), vI (1 : Int32)] [(.int (1 : Int32)), (.int (0 : Int32)), (.ref x)]))
            refine X37.callV (W := 0) (w77 hw) (w78 hw) (w80 hw) (w79 hw) (nfs rfl (w80 hw)) (by decide) (X37.payM (sf := []) (rmSubs hc x b kb [c0, c1, c2, c3, c4] 0 1 h0 X37.old Pr0 (by first | exact Nat.le_of_ble_eq_true rfl | omega) (by decide)) sf0 (w81 hw) (w11 hw) (by decide) (by decide)) Pr0.1 rfl (sz hml rfl) (argsL := [(.int (0 : Int32)), (.int (1 : Int32))]) (rest := []) (lenOf pd14 rfl) rfl rfl (mroom rfl rfl) (D d8_56) (by decide) (by decide) fun T39 h39 vm39 v39 X39 C39 z39 q39 => ?_
            obtain ⟨a39, t39, kt39, ds39, rfl, K39, g39_0, rfl⟩ := q39
            have l40 := ltA g39_0.lt
            have l41 := ltA g39_0.lb
            exact X39.retA hret rfl rfl rfl (D d8_59) (by decide) (by decide) (fun vmE CE => ⟨a39, t39, kt39, ((([c0, c1, c2, c3, c4].drop 0).take 1)), rfl, ((Keep.refl h0 []).trans K39 all0), g39_0, (by simp [trimL, sp_no b20, sp_yes b44, sp_yes b44_1, sp_yes b44_2, sp_yes b44_3])⟩)
  · have A42 := X6.at
    refine Gets.via (fun _ k => (XS.ifNo A42 hx rfl (D d8_20) rfl (Jvm.Free.XT.i0_eq_f b20) k)) ?_
    refine Gets.via (fun _ k => (iincV A42 hx rfl (D d8_23) rfl (v := (1 : Int32)) (by decide) (l' := #[vR x, vI (1 : Int32), vI (5 : Int32)]) rfl (XS.goto A42 hx rfl (pc0 := 26) (pc' := 7) rfl (D d8_26) (by decide) (by decide) k))) ?_
    refine Gets.via (fun _ k => (XS.iloadN A42 hx rfl (D d8_7) rfl (XS.iloadN A42 hx rfl (D d8_8) rfl (XS.icmpNo A42 hx rfl (D d8_9) rfl (Jvm.Free.XT.ii_ge_f (by decide)) k)))) ?_
    refine Gets.via (fun _ k => (XS.aloadN A42 hx rfl (D d8_12) rfl rfl (XS.iloadN A42 hx rfl (D d8_13) rfl k))) ?_
    refine X6.callV (W := 0) (w52 hw) (w53 hw) (w55 hw) (w54 hw) (nfs rfl (w55 hw)) (by decide) (payCh X6 hw (w10 hw) Pr0 O2 P5 O4 P6 (1) (Nat.le_of_ble_eq_true rfl) rfl (by decide) (by decide)) Pr0.1 rfl (sz hml rfl) (argsL := [(.int (1 : Int32))]) (rest := []) (lenOf pd11 rfl) rfl rfl (mroom rfl rfl) (D d8_14) (by decide) (by decide) fun T43 h43 vm43 v43 X43 C43 z43 q43 => ?_
    obtain ⟨rfl, K43⟩ := q43
    rw [K43] at X43 C43
    show Gets p e below _ (T43.setTop (mkF m 17 #[vR x, vI (1 : Int32), vI (5 : Int32)] [(.int c1)]))
    refine X43.callS (W := 0) (w74 hw) (w75 hw) (w40 hw) (w76 hw) (by decide) (X43.payM (sf := []) (rmIsSp hc c1 h0 X43.old ) sf0 (w76 hw) (w40 hw) (by decide) (by decide)) rfl (sz hml rfl) (argsL := [(.int c1)]) (rest := []) (lenOf pd12 rfl) rfl rfl (mroom rfl rfl) (D d8_17) (by decide) (by decide) fun T44 h44 vm44 v44 X44 C44 z44 q44 => ?_
    obtain ⟨r44, rfl, K44, rfl⟩ := q44
    rw [K44] at X44 C44
    by_cases b20_1 : (if sp c1 = true then 1 else 0) = (0 : Int32)
    · have A45 := X44.at
      refine Gets.via (fun _ k => (XS.ifYes A45 hx rfl (pc0 := 20) (pc' := 29) rfl (D d8_20) rfl (Jvm.Free.XT.i0_eq_t b20_1) (by decide) (by decide) k)) ?_
      refine Gets.via (fun _ k => (XS.iloadN A45 hx rfl (D d8_29) rfl (XS.iloadN A45 hx rfl (D d8_30) rfl (XS.icmpNo A45 hx rfl (D d8_31) rfl (Jvm.Free.XT.ii_le_f (by decide)) k)))) ?_
      refine Gets.via (fun _ k => (XS.aloadN A45 hx rfl (D d8_34) rfl rfl (XS.iloadN A45 hx rfl (D d8_35) rfl (XS.iconst A45 hx rfl (D d8_36) (isubV A45 hx rfl (D d8_37) rfl (v := (4 : Int32)) (by decide) k))))) ?_
      refine X44.callV (W := 0) (w52 hw) (w53 hw) (w55 hw) (w54 hw) (nfs rfl (w55 hw)) (by decide) (payCh X44 hw (w10 hw) Pr0 O2 P5 O4 P6 (4) (Nat.le_of_ble_eq_true rfl) rfl (by decide) (by decide)) Pr0.1 rfl (sz hml rfl) (argsL := [(.int (4 : Int32))]) (rest := []) (lenOf pd11 rfl) rfl rfl (mroom rfl rfl) (D d8_38) (by decide) (by decide) fun T46 h46 vm46 v46 X46 C46 z46 q46 => ?_
      obtain ⟨rfl, K46⟩ := q46
      rw [K46] at X46 C46
      show Gets p e below _ (T46.setTop (mkF m 41 #[vR x, vI (1 : Int32), vI (5 : Int32)] [(.int c4)]))
      refine X46.callS (W := 0) (w74 hw) (w75 hw) (w40 hw) (w76 hw) (by decide) (X46.payM (sf := []) (rmIsSp hc c4 h0 X46.old ) sf0 (w76 hw) (w40 hw) (by decide) (by decide)) rfl (sz hml rfl) (argsL := [(.int c4)]) (rest := []) (lenOf pd12 rfl) rfl rfl (mroom rfl rfl) (D d8_41) (by decide) (by decide) fun T47 h47 vm47 v47 X47 C47 z47 q47 => ?_
      obtain ⟨r47, rfl, K47, rfl⟩ := q47
      rw [K47] at X47 C47
      by_cases b44 : (if sp c4 = true then 1 else 0) = (0 : Int32)
      · have A48 := X47.at
        refine Gets.via (fun _ k => (XS.ifYes A48 hx rfl (pc0 := 44) (pc' := 53) rfl (D d8_44) rfl (Jvm.Free.XT.i0_eq_t b44) (by decide) (by decide) k)) ?_
        refine Gets.via (fun _ k => (XS.aloadN A48 hx rfl (D d8_53) rfl rfl (XS.iloadN A48 hx rfl (D d8_54) rfl (XS.iloadN A48 hx rfl (D d8_55) rfl k)))) ?_
        refine X47.callV (W := 0) (w77 hw) (w78 hw) (w80 hw) (w79 hw) (nfs rfl (w80 hw)) (by decide) (X47.payM (sf := []) (rmSubs hc x b kb [c0, c1, c2, c3, c4] 1 4 h0 X47.old Pr0 (by first | exact Nat.le_of_ble_eq_true rfl | omega) (by decide)) sf0 (w81 hw) (w11 hw) (by decide) (by decide)) Pr0.1 rfl (sz hml rfl) (argsL := [(.int (1 : Int32)), (.int (5 : Int32))]) (rest := []) (lenOf pd14 rfl) rfl rfl (mroom rfl rfl) (D d8_56) (by decide) (by decide) fun T49 h49 vm49 v49 X49 C49 z49 q49 => ?_
        obtain ⟨a49, t49, kt49, ds49, rfl, K49, g49_0, rfl⟩ := q49
        have l50 := ltA g49_0.lt
        have l51 := ltA g49_0.lb
        exact X49.retA hret rfl rfl rfl (D d8_59) (by decide) (by decide) (fun vmE CE => ⟨a49, t49, kt49, ((([c0, c1, c2, c3, c4].drop 1).take 4)), rfl, ((Keep.refl h0 []).trans K49 all0), g49_0, (by simp [trimL, sp_yes b20, sp_no b20_1, sp_no b44])⟩)
      · have A52 := X47.at
        refine Gets.via (fun _ k => (XS.ifNo A52 hx rfl (D d8_44) rfl (Jvm.Free.XT.i0_eq_f b44) k)) ?_
        refine Gets.via (fun _ k => (iincV A52 hx rfl (D d8_47) rfl (v := (4 : Int32)) (by decide) (l' := #[vR x, vI (1 : Int32), vI (4 : Int32)]) rfl (XS.goto A52 hx rfl (pc0 := 50) (pc' := 29) rfl (D d8_50) (by decide) (by decide) k))) ?_
        show Gets p e below _ (T47.setTop (mkF m 29 #[vR x, vI (1 : Int32), vI (4 : Int32)] []))
        refine Gets.via (fun _ k => (XS.iloadN A52 hx rfl (D d8_29) rfl (XS.iloadN A52 hx rfl (D d8_30) rfl (XS.icmpNo A52 hx rfl (D d8_31) rfl (Jvm.Free.XT.ii_le_f (by decide)) k)))) ?_
        refine Gets.via (fun _ k => (XS.aloadN A52 hx rfl (D d8_34) rfl rfl (XS.iloadN A52 hx rfl (D d8_35) rfl (XS.iconst A52 hx rfl (D d8_36) (isubV A52 hx rfl (D d8_37) rfl (v := (3 : Int32)) (by decide) k))))) ?_
        refine X47.callV (W := 0) (w52 hw) (w53 hw) (w55 hw) (w54 hw) (nfs rfl (w55 hw)) (by decide) (payCh X47 hw (w10 hw) Pr0 O2 P5 O4 P6 (3) (Nat.le_of_ble_eq_true rfl) rfl (by decide) (by decide)) Pr0.1 rfl (sz hml rfl) (argsL := [(.int (3 : Int32))]) (rest := []) (lenOf pd11 rfl) rfl rfl (mroom rfl rfl) (D d8_38) (by decide) (by decide) fun T53 h53 vm53 v53 X53 C53 z53 q53 => ?_
        obtain ⟨rfl, K53⟩ := q53
        rw [K53] at X53 C53
        refine X53.callS (W := 0) (w74 hw) (w75 hw) (w40 hw) (w76 hw) (by decide) (X53.payM (sf := []) (rmIsSp hc c3 h0 X53.old ) sf0 (w76 hw) (w40 hw) (by decide) (by decide)) rfl (sz hml rfl) (argsL := [(.int c3)]) (rest := []) (lenOf pd12 rfl) rfl rfl (mroom rfl rfl) (D d8_41) (by decide) (by decide) fun T54 h54 vm54 v54 X54 C54 z54 q54 => ?_
        obtain ⟨r54, rfl, K54, rfl⟩ := q54
        rw [K54] at X54 C54
        show Gets p e below _ (T54.setTop (mkF m 44 #[vR x, vI (1 : Int32), vI (4 : Int32)] [(.int (if sp c3 = true then 1 else 0))]))
        by_cases b44_1 : (if sp c3 = true then 1 else 0) = (0 : Int32)
        · have A55 := X54.at
          refine Gets.via (fun _ k => (XS.ifYes A55 hx rfl (pc0 := 44) (pc' := 53) rfl (D d8_44) rfl (Jvm.Free.XT.i0_eq_t b44_1) (by decide) (by decide) k)) ?_
          refine Gets.via (fun _ k => (XS.aloadN A55 hx rfl (D d8_53) rfl rfl (XS.iloadN A55 hx rfl (D d8_54) rfl (XS.iloadN A55 hx rfl (D d8_55) rfl k)))) ?_
          refine X54.callV (W := 0) (w77 hw) (w78 hw) (w80 hw) (w79 hw) (nfs rfl (w80 hw)) (by decide) (X54.payM (sf := []) (rmSubs hc x b kb [c0, c1, c2, c3, c4] 1 3 h0 X54.old Pr0 (by first | exact Nat.le_of_ble_eq_true rfl | omega) (by decide)) sf0 (w81 hw) (w11 hw) (by decide) (by decide)) Pr0.1 rfl (sz hml rfl) (argsL := [(.int (1 : Int32)), (.int (4 : Int32))]) (rest := []) (lenOf pd14 rfl) rfl rfl (mroom rfl rfl) (D d8_56) (by decide) (by decide) fun T56 h56 vm56 v56 X56 C56 z56 q56 => ?_
          obtain ⟨a56, t56, kt56, ds56, rfl, K56, g56_0, rfl⟩ := q56
          have l57 := ltA g56_0.lt
          have l58 := ltA g56_0.lb
          exact X56.retA hret rfl rfl rfl (D d8_59) (by decide) (by decide) (fun vmE CE => ⟨a56, t56, kt56, ((([c0, c1, c2, c3, c4].drop 1).take 3)), rfl, ((Keep.refl h0 []).trans K56 all0), g56_0, (by simp [trimL, sp_yes b20, sp_no b20_1, sp_yes b44, sp_no b44_1])⟩)
        · have A59 := X54.at
          refine Gets.via (fun _ k => (XS.ifNo A59 hx rfl (D d8_44) rfl (Jvm.Free.XT.i0_eq_f b44_1) k)) ?_
          refine Gets.via (fun _ k => (iincV A59 hx rfl (D d8_47) rfl (v := (3 : Int32)) (by decide) (l' := #[vR x, vI (1 : Int32), vI (3 : Int32)]) rfl (XS.goto A59 hx rfl (pc0 := 50) (pc' := 29) rfl (D d8_50) (by decide) (by decide) k))) ?_
          refine Gets.via (fun _ k => (XS.iloadN A59 hx rfl (D d8_29) rfl (XS.iloadN A59 hx rfl (D d8_30) rfl (XS.icmpNo A59 hx rfl (D d8_31) rfl (Jvm.Free.XT.ii_le_f (by decide)) k)))) ?_
          show Gets p e below _ (T54.setTop (mkF m 34 #[vR x, vI (1 : Int32), vI (3 : Int32)] []))
          refine Gets.via (fun _ k => (XS.aloadN A59 hx rfl (D d8_34) rfl rfl (XS.iloadN A59 hx rfl (D d8_35) rfl (XS.iconst A59 hx rfl (D d8_36) (isubV A59 hx rfl (D d8_37) rfl (v := (2 : Int32)) (by decide) k))))) ?_
          refine X54.callV (W := 0) (w52 hw) (w53 hw) (w55 hw) (w54 hw) (nfs rfl (w55 hw)) (by decide) (payCh X54 hw (w10 hw) Pr0 O2 P5 O4 P6 (2) (Nat.le_of_ble_eq_true rfl) rfl (by decide) (by decide)) Pr0.1 rfl (sz hml rfl) (argsL := [(.int (2 : Int32))]) (rest := []) (lenOf pd11 rfl) rfl rfl (mroom rfl rfl) (D d8_38) (by decide) (by decide) fun T60 h60 vm60 v60 X60 C60 z60 q60 => ?_
          obtain ⟨rfl, K60⟩ := q60
          rw [K60] at X60 C60
          refine X60.callS (W := 0) (w74 hw) (w75 hw) (w40 hw) (w76 hw) (by decide) (X60.payM (sf := []) (rmIsSp hc c2 h0 X60.old ) sf0 (w76 hw) (w40 hw) (by decide) (by decide)) rfl (sz hml rfl) (argsL := [(.int c2)]) (rest := []) (lenOf pd12 rfl) rfl rfl (mroom rfl rfl) (D d8_41) (by decide) (by decide) fun T61 h61 vm61 v61 X61 C61 z61 q61 => ?_
          obtain ⟨r61, rfl, K61, rfl⟩ := q61
          rw [K61] at X61 C61
          by_cases b44_2 : (if sp c2 = true then 1 else 0) = (0 : Int32)
          · have A62 := X61.at
            refine Gets.via (fun _ k => (XS.ifYes A62 hx rfl (pc0 := 44) (pc' := 53) rfl (D d8_44) rfl (Jvm.Free.XT.i0_eq_t b44_2) (by decide) (by decide) k)) ?_
            refine Gets.via (fun _ k => (XS.aloadN A62 hx rfl (D d8_53) rfl rfl (XS.iloadN A62 hx rfl (D d8_54) rfl (XS.iloadN A62 hx rfl (D d8_55) rfl k)))) ?_
            show Gets p e below _ (T61.setTop (mkF m 56 #[vR x, vI (1 : Int32), vI (3 : Int32)] [(.int (3 : Int32)), (.int (1 : Int32)), (.ref x)]))
            refine X61.callV (W := 0) (w77 hw) (w78 hw) (w80 hw) (w79 hw) (nfs rfl (w80 hw)) (by decide) (X61.payM (sf := []) (rmSubs hc x b kb [c0, c1, c2, c3, c4] 1 2 h0 X61.old Pr0 (by first | exact Nat.le_of_ble_eq_true rfl | omega) (by decide)) sf0 (w81 hw) (w11 hw) (by decide) (by decide)) Pr0.1 rfl (sz hml rfl) (argsL := [(.int (1 : Int32)), (.int (3 : Int32))]) (rest := []) (lenOf pd14 rfl) rfl rfl (mroom rfl rfl) (D d8_56) (by decide) (by decide) fun T63 h63 vm63 v63 X63 C63 z63 q63 => ?_
            obtain ⟨a63, t63, kt63, ds63, rfl, K63, g63_0, rfl⟩ := q63
            have l64 := ltA g63_0.lt
            have l65 := ltA g63_0.lb
            exact X63.retA hret rfl rfl rfl (D d8_59) (by decide) (by decide) (fun vmE CE => ⟨a63, t63, kt63, ((([c0, c1, c2, c3, c4].drop 1).take 2)), rfl, ((Keep.refl h0 []).trans K63 all0), g63_0, (by simp [trimL, sp_yes b20, sp_no b20_1, sp_yes b44, sp_yes b44_1, sp_no b44_2])⟩)
          · have A66 := X61.at
            refine Gets.via (fun _ k => (XS.ifNo A66 hx rfl (D d8_44) rfl (Jvm.Free.XT.i0_eq_f b44_2) k)) ?_
            refine Gets.via (fun _ k => (iincV A66 hx rfl (D d8_47) rfl (v := (2 : Int32)) (by decide) (l' := #[vR x, vI (1 : Int32), vI (2 : Int32)]) rfl (XS.goto A66 hx rfl (pc0 := 50) (pc' := 29) rfl (D d8_50) (by decide) (by decide) k))) ?_
            refine Gets.via (fun _ k => (XS.iloadN A66 hx rfl (D d8_29) rfl (XS.iloadN A66 hx rfl (D d8_30) rfl (XS.icmpNo A66 hx rfl (D d8_31) rfl (Jvm.Free.XT.ii_le_f (by decide)) k)))) ?_
            refine Gets.via (fun _ k => (XS.aloadN A66 hx rfl (D d8_34) rfl rfl (XS.iloadN A66 hx rfl (D d8_35) rfl (XS.iconst A66 hx rfl (D d8_36) (isubV A66 hx rfl (D d8_37) rfl (v := (1 : Int32)) (by decide) k))))) ?_
            show Gets p e below _ (T61.setTop (mkF m 38 #[vR x, vI (1 : Int32), vI (2 : Int32)] [(.int (1 : Int32)), (.ref x)]))
            refine X61.callV (W := 0) (w52 hw) (w53 hw) (w55 hw) (w54 hw) (nfs rfl (w55 hw)) (by decide) (payCh X61 hw (w10 hw) Pr0 O2 P5 O4 P6 (1) (Nat.le_of_ble_eq_true rfl) rfl (by decide) (by decide)) Pr0.1 rfl (sz hml rfl) (argsL := [(.int (1 : Int32))]) (rest := []) (lenOf pd11 rfl) rfl rfl (mroom rfl rfl) (D d8_38) (by decide) (by decide) fun T67 h67 vm67 v67 X67 C67 z67 q67 => ?_
            obtain ⟨rfl, K67⟩ := q67
            rw [K67] at X67 C67
            refine X67.callS (W := 0) (w74 hw) (w75 hw) (w40 hw) (w76 hw) (by decide) (X67.payM (sf := []) (rmIsSp hc c1 h0 X67.old ) sf0 (w76 hw) (w40 hw) (by decide) (by decide)) rfl (sz hml rfl) (argsL := [(.int c1)]) (rest := []) (lenOf pd12 rfl) rfl rfl (mroom rfl rfl) (D d8_41) (by decide) (by decide) fun T68 h68 vm68 v68 X68 C68 z68 q68 => ?_
            obtain ⟨r68, rfl, K68, rfl⟩ := q68
            rw [K68] at X68 C68
            have A69 := X68.at
            refine Gets.via (fun _ k => (XS.ifYes A69 hx rfl (pc0 := 44) (pc' := 53) rfl (D d8_44) rfl (Jvm.Free.XT.i0_eq_t b20_1) (by decide) (by decide) k)) ?_
            refine Gets.via (fun _ k => (XS.aloadN A69 hx rfl (D d8_53) rfl rfl (XS.iloadN A69 hx rfl (D d8_54) rfl (XS.iloadN A69 hx rfl (D d8_55) rfl k)))) ?_
            refine X68.callV (W := 0) (w77 hw) (w78 hw) (w80 hw) (w79 hw) (nfs rfl (w80 hw)) (by decide) (X68.payM (sf := []) (rmSubs hc x b kb [c0, c1, c2, c3, c4] 1 1 h0 X68.old Pr0 (by first | exact Nat.le_of_ble_eq_true rfl | omega) (by decide)) sf0 (w81 hw) (w11 hw) (by decide) (by decide)) Pr0.1 rfl (sz hml rfl) (argsL := [(.int (1 : Int32)), (.int (2 : Int32))]) (rest := []) (lenOf pd14 rfl) rfl rfl (mroom rfl rfl) (D d8_56) (by decide) (by decide) fun T70 h70 vm70 v70 X70 C70 z70 q70 => ?_
            obtain ⟨a70, t70, kt70, ds70, rfl, K70, g70_0, rfl⟩ := q70
            have l71 := ltA g70_0.lt
            have l72 := ltA g70_0.lb
            show Gets p e below _ (T70.setTop (mkF m 59 #[vR x, vI (1 : Int32), vI (2 : Int32)] [(.ref a70)]))
            exact X70.retA hret rfl rfl rfl (D d8_59) (by decide) (by decide) (fun vmE CE => ⟨a70, t70, kt70, ((([c0, c1, c2, c3, c4].drop 1).take 1)), rfl, ((Keep.refl h0 []).trans K70 all0), g70_0, (by simp [trimL, sp_yes b20, sp_no b20_1, sp_yes b44, sp_yes b44_1, sp_yes b44_2])⟩)
    · have A73 := X44.at
      refine Gets.via (fun _ k => (XS.ifNo A73 hx rfl (D d8_20) rfl (Jvm.Free.XT.i0_eq_f b20_1) k)) ?_
      refine Gets.via (fun _ k => (iincV A73 hx rfl (D d8_23) rfl (v := (2 : Int32)) (by decide) (l' := #[vR x, vI (2 : Int32), vI (5 : Int32)]) rfl (XS.goto A73 hx rfl (pc0 := 26) (pc' := 7) rfl (D d8_26) (by decide) (by decide) k))) ?_
      refine Gets.via (fun _ k => (XS.iloadN A73 hx rfl (D d8_7) rfl (XS.iloadN A73 hx rfl (D d8_8) rfl (XS.icmpNo A73 hx rfl (D d8_9) rfl (Jvm.Free.XT.ii_ge_f (by decide)) k)))) ?_
      refine Gets.via (fun _ k => (XS.aloadN A73 hx rfl (D d8_12) rfl rfl (XS.iloadN A73 hx rfl (D d8_13) rfl k))) ?_
      refine X44.callV (W := 0) (w52 hw) (w53 hw) (w55 hw) (w54 hw) (nfs rfl (w55 hw)) (by decide) (payCh X44 hw (w10 hw) Pr0 O2 P5 O4 P6 (2) (Nat.le_of_ble_eq_true rfl) rfl (by decide) (by decide)) Pr0.1 rfl (sz hml rfl) (argsL := [(.int (2 : Int32))]) (rest := []) (lenOf pd11 rfl) rfl rfl (mroom rfl rfl) (D d8_14) (by decide) (by decide) fun T74 h74 vm74 v74 X74 C74 z74 q74 => ?_
      obtain ⟨rfl, K74⟩ := q74
      rw [K74] at X74 C74
      refine X74.callS (W := 0) (w74 hw) (w75 hw) (w40 hw) (w76 hw) (by decide) (X74.payM (sf := []) (rmIsSp hc c2 h0 X74.old ) sf0 (w76 hw) (w40 hw) (by decide) (by decide)) rfl (sz hml rfl) (argsL := [(.int c2)]) (rest := []) (lenOf pd12 rfl) rfl rfl (mroom rfl rfl) (D d8_17) (by decide) (by decide) fun T75 h75 vm75 v75 X75 C75 z75 q75 => ?_
      obtain ⟨r75, rfl, K75, rfl⟩ := q75
      rw [K75] at X75 C75
      show Gets p e below _ (T75.setTop (mkF m 20 #[vR x, vI (2 : Int32), vI (5 : Int32)] [(.int (if sp c2 = true then 1 else 0))]))
      by_cases b20_2 : (if sp c2 = true then 1 else 0) = (0 : Int32)
      · have A76 := X75.at
        refine Gets.via (fun _ k => (XS.ifYes A76 hx rfl (pc0 := 20) (pc' := 29) rfl (D d8_20) rfl (Jvm.Free.XT.i0_eq_t b20_2) (by decide) (by decide) k)) ?_
        refine Gets.via (fun _ k => (XS.iloadN A76 hx rfl (D d8_29) rfl (XS.iloadN A76 hx rfl (D d8_30) rfl (XS.icmpNo A76 hx rfl (D d8_31) rfl (Jvm.Free.XT.ii_le_f (by decide)) k)))) ?_
        refine Gets.via (fun _ k => (XS.aloadN A76 hx rfl (D d8_34) rfl rfl (XS.iloadN A76 hx rfl (D d8_35) rfl (XS.iconst A76 hx rfl (D d8_36) (isubV A76 hx rfl (D d8_37) rfl (v := (4 : Int32)) (by decide) k))))) ?_
        refine X75.callV (W := 0) (w52 hw) (w53 hw) (w55 hw) (w54 hw) (nfs rfl (w55 hw)) (by decide) (payCh X75 hw (w10 hw) Pr0 O2 P5 O4 P6 (4) (Nat.le_of_ble_eq_true rfl) rfl (by decide) (by decide)) Pr0.1 rfl (sz hml rfl) (argsL := [(.int (4 : Int32))]) (rest := []) (lenOf pd11 rfl) rfl rfl (mroom rfl rfl) (D d8_38) (by decide) (by decide) fun T77 h77 vm77 v77 X77 C77 z77 q77 => ?_
        obtain ⟨rfl, K77⟩ := q77
        rw [K77] at X77 C77
        refine X77.callS (W := 0) (w74 hw) (w75 hw) (w40 hw) (w76 hw) (by decide) (X77.payM (sf := []) (rmIsSp hc c4 h0 X77.old ) sf0 (w76 hw) (w40 hw) (by decide) (by decide)) rfl (sz hml rfl) (argsL := [(.int c4)]) (rest := []) (lenOf pd12 rfl) rfl rfl (mroom rfl rfl) (D d8_41) (by decide) (by decide) fun T78 h78 vm78 v78 X78 C78 z78 q78 => ?_
        obtain ⟨r78, rfl, K78, rfl⟩ := q78
        rw [K78] at X78 C78
        show Gets p e below _ (T78.setTop (mkF m 44 #[vR x, vI (2 : Int32), vI (5 : Int32)] [(.int (if sp c4 = true then 1 else 0))]))
        by_cases b44 : (if sp c4 = true then 1 else 0) = (0 : Int32)
        · have A79 := X78.at
          refine Gets.via (fun _ k => (XS.ifYes A79 hx rfl (pc0 := 44) (pc' := 53) rfl (D d8_44) rfl (Jvm.Free.XT.i0_eq_t b44) (by decide) (by decide) k)) ?_
          refine Gets.via (fun _ k => (XS.aloadN A79 hx rfl (D d8_53) rfl rfl (XS.iloadN A79 hx rfl (D d8_54) rfl (XS.iloadN A79 hx rfl (D d8_55) rfl k)))) ?_
          refine X78.callV (W := 0) (w77 hw) (w78 hw) (w80 hw) (w79 hw) (nfs rfl (w80 hw)) (by decide) (X78.payM (sf := []) (rmSubs hc x b kb [c0, c1, c2, c3, c4] 2 3 h0 X78.old Pr0 (by first | exact Nat.le_of_ble_eq_true rfl | omega) (by decide)) sf0 (w81 hw) (w11 hw) (by decide) (by decide)) Pr0.1 rfl (sz hml rfl) (argsL := [(.int (2 : Int32)), (.int (5 : Int32))]) (rest := []) (lenOf pd14 rfl) rfl rfl (mroom rfl rfl) (D d8_56) (by decide) (by decide) fun T80 h80 vm80 v80 X80 C80 z80 q80 => ?_
          obtain ⟨a80, t80, kt80, ds80, rfl, K80, g80_0, rfl⟩ := q80
          have l81 := ltA g80_0.lt
          have l82 := ltA g80_0.lb
          exact X80.retA hret rfl rfl rfl (D d8_59) (by decide) (by decide) (fun vmE CE => ⟨a80, t80, kt80, ((([c0, c1, c2, c3, c4].drop 2).take 3)), rfl, ((Keep.refl h0 []).trans K80 all0), g80_0, (by simp [trimL, sp_yes b20, sp_yes b20_1, sp_no b20_2, sp_no b44])⟩)
        · have A83 := X78.at
          refine Gets.via (fun _ k => (XS.ifNo A83 hx rfl (D d8_44) rfl (Jvm.Free.XT.i0_eq_f b44) k)) ?_
          refine Gets.via (fun _ k => (iincV A83 hx rfl (D d8_47) rfl (v := (4 : Int32)) (by decide) (l' := #[vR x, vI (2 : Int32), vI (4 : Int32)]) rfl (XS.goto A83 hx rfl (pc0 := 50) (pc' := 29) rfl (D d8_50) (by decide) (by decide) k))) ?_
          refine Gets.via (fun _ k => (XS.iloadN A83 hx rfl (D d8_29) rfl (XS.iloadN A83 hx rfl (D d8_30) rfl (XS.icmpNo A83 hx rfl (D d8_31) rfl (Jvm.Free.XT.ii_le_f (by decide)) k)))) ?_
          show Gets p e below _ (T78.setTop (mkF m 34 #[vR x, vI (2 : Int32), vI (4 : Int32)] []))
          refine Gets.via (fun _ k => (XS.aloadN A83 hx rfl (D d8_34) rfl rfl (XS.iloadN A83 hx rfl (D d8_35) rfl (XS.iconst A83 hx rfl (D d8_36) (isubV A83 hx rfl (D d8_37) rfl (v := (3 : Int32)) (by decide) k))))) ?_
          refine X78.callV (W := 0) (w52 hw) (w53 hw) (w55 hw) (w54 hw) (nfs rfl (w55 hw)) (by decide) (payCh X78 hw (w10 hw) Pr0 O2 P5 O4 P6 (3) (Nat.le_of_ble_eq_true rfl) rfl (by decide) (by decide)) Pr0.1 rfl (sz hml rfl) (argsL := [(.int (3 : Int32))]) (rest := []) (lenOf pd11 rfl) rfl rfl (mroom rfl rfl) (D d8_38) (by decide) (by decide) fun T84 h84 vm84 v84 X84 C84 z84 q84 => ?_
          obtain ⟨rfl, K84⟩ := q84
          rw [K84] at X84 C84
          refine X84.callS (W := 0) (w74 hw) (w75 hw) (w40 hw) (w76 hw) (by decide) (X84.payM (sf := []) (rmIsSp hc c3 h0 X84.old ) sf0 (w76 hw) (w40 hw) (by decide) (by decide)) rfl (sz hml rfl) (argsL := [(.int c3)]) (rest := []) (lenOf pd12 rfl) rfl rfl (mroom rfl rfl) (D d8_41) (by decide) (by decide) fun T85 h85 vm85 v85 X85 C85 z85 q85 => ?_
          obtain ⟨r85, rfl, K85, rfl⟩ := q85
          rw [K85] at X85 C85
          by_cases b44_1 : (if sp c3 = true then 1 else 0) = (0 : Int32)
          · have A86 := X85.at
            refine Gets.via (fun _ k => (XS.ifYes A86 hx rfl (pc0 := 44) (pc' := 53) rfl (D d8_44) rfl (Jvm.Free.XT.i0_eq_t b44_1) (by decide) (by decide) k)) ?_
            refine Gets.via (fun _ k => (XS.aloadN A86 hx rfl (D d8_53) rfl rfl (XS.iloadN A86 hx rfl (D d8_54) rfl (XS.iloadN A86 hx rfl (D d8_55) rfl k)))) ?_
            show Gets p e below _ (T85.setTop (mkF m 56 #[vR x, vI (2 : Int32), vI (4 : Int32)] [(.int (4 : Int32)), (.int (2 : Int32)), (.ref x)]))
            refine X85.callV (W := 0) (w77 hw) (w78 hw) (w80 hw) (w79 hw) (nfs rfl (w80 hw)) (by decide) (X85.payM (sf := []) (rmSubs hc x b kb [c0, c1, c2, c3, c4] 2 2 h0 X85.old Pr0 (by first | exact Nat.le_of_ble_eq_true rfl | omega) (by decide)) sf0 (w81 hw) (w11 hw) (by decide) (by decide)) Pr0.1 rfl (sz hml rfl) (argsL := [(.int (2 : Int32)), (.int (4 : Int32))]) (rest := []) (lenOf pd14 rfl) rfl rfl (mroom rfl rfl) (D d8_56) (by decide) (by decide) fun T87 h87 vm87 v87 X87 C87 z87 q87 => ?_
            obtain ⟨a87, t87, kt87, ds87, rfl, K87, g87_0, rfl⟩ := q87
            have l88 := ltA g87_0.lt
            have l89 := ltA g87_0.lb
            exact X87.retA hret rfl rfl rfl (D d8_59) (by decide) (by decide) (fun vmE CE => ⟨a87, t87, kt87, ((([c0, c1, c2, c3, c4].drop 2).take 2)), rfl, ((Keep.refl h0 []).trans K87 all0), g87_0, (by simp [trimL, sp_yes b20, sp_yes b20_1, sp_no b20_2, sp_yes b44, sp_no b44_1])⟩)
          · have A90 := X85.at
            refine Gets.via (fun _ k => (XS.ifNo A90 hx rfl (D d8_44) rfl (Jvm.Free.XT.i0_eq_f b44_1) k)) ?_
            refine Gets.via (fun _ k => (iincV A90 hx rfl (D d8_47) rfl (v := (3 : Int32)) (by decide) (l' := #[vR x, vI (2 : Int32), vI (3 : Int32)]) rfl (XS.goto A90 hx rfl (pc0 := 50) (pc' := 29) rfl (D d8_50) (by decide) (by decide) k))) ?_
            refine Gets.via (fun _ k => (XS.iloadN A90 hx rfl (D d8_29) rfl (XS.iloadN A90 hx rfl (D d8_30) rfl (XS.icmpNo A90 hx rfl (D d8_31) rfl (Jvm.Free.XT.ii_le_f (by decide)) k)))) ?_
            refine Gets.via (fun _ k => (XS.aloadN A90 hx rfl (D d8_34) rfl rfl (XS.iloadN A90 hx rfl (D d8_35) rfl (XS.iconst A90 hx rfl (D d8_36) (isubV A90 hx rfl (D d8_37) rfl (v := (2 : Int32)) (by decide) k))))) ?_
            show Gets p e below _ (T85.setTop (mkF m 38 #[vR x, vI (2 : Int32), vI (3 : Int32)] [(.int (2 : Int32)), (.ref x)]))
            refine X85.callV (W := 0) (w52 hw) (w53 hw) (w55 hw) (w54 hw) (nfs rfl (w55 hw)) (by decide) (payCh X85 hw (w10 hw) Pr0 O2 P5 O4 P6 (2) (Nat.le_of_ble_eq_true rfl) rfl (by decide) (by decide)) Pr0.1 rfl (sz hml rfl) (argsL := [(.int (2 : Int32))]) (rest := []) (lenOf pd11 rfl) rfl rfl (mroom rfl rfl) (D d8_38) (by decide) (by decide) fun T91 h91 vm91 v91 X91 C91 z91 q91 => ?_
            obtain ⟨rfl, K91⟩ := q91
            rw [K91] at X91 C91
            refine X91.callS (W := 0) (w74 hw) (w75 hw) (w40 hw) (w76 hw) (by decide) (X91.payM (sf := []) (rmIsSp hc c2 h0 X91.old ) sf0 (w76 hw) (w40 hw) (by decide) (by decide)) rfl (sz hml rfl) (argsL := [(.int c2)]) (rest := []) (lenOf pd12 rfl) rfl rfl (mroom rfl rfl) (D d8_41) (by decide) (by decide) fun T92 h92 vm92 v92 X92 C92 z92 q92 => ?_
            obtain ⟨r92, rfl, K92, rfl⟩ := q92
            rw [K92] at X92 C92
            have A93 := X92.at
            refine Gets.via (fun _ k => (XS.ifYes A93 hx rfl (pc0 := 44) (pc' := 53) rfl (D d8_44) rfl (Jvm.Free.XT.i0_eq_t b20_2) (by decide) (by decide) k)) ?_
            refine Gets.via (fun _ k => (XS.aloadN A93 hx rfl (D d8_53) rfl rfl (XS.iloadN A93 hx rfl (D d8_54) rfl (XS.iloadN A93 hx rfl (D d8_55) rfl k)))) ?_
            refine X92.callV (W := 0) (w77 hw) (w78 hw) (w80 hw) (w79 hw) (nfs rfl (w80 hw)) (by decide) (X92.payM (sf := []) (rmSubs hc x b kb [c0, c1, c2, c3, c4] 2 1 h0 X92.old Pr0 (by first | exact Nat.le_of_ble_eq_true rfl | omega) (by decide)) sf0 (w81 hw) (w11 hw) (by decide) (by decide)) Pr0.1 rfl (sz hml rfl) (argsL := [(.int (2 : Int32)), (.int (3 : Int32))]) (rest := []) (lenOf pd14 rfl) rfl rfl (mroom rfl rfl) (D d8_56) (by decide) (by decide) fun T94 h94 vm94 v94 X94 C94 z94 q94 => ?_
            obtain ⟨a94, t94, kt94, ds94, rfl, K94, g94_0, rfl⟩ := q94
            have l95 := ltA g94_0.lt
            have l96 := ltA g94_0.lb
            show Gets p e below _ (T94.setTop (mkF m 59 #[vR x, vI (2 : Int32), vI (3 : Int32)] [(.ref a94)]))
            exact X94.retA hret rfl rfl rfl (D d8_59) (by decide) (by decide) (fun vmE CE => ⟨a94, t94, kt94, ((([c0, c1, c2, c3, c4].drop 2).take 1)), rfl, ((Keep.refl h0 []).trans K94 all0), g94_0, (by simp [trimL, sp_yes b20, sp_yes b20_1, sp_no b20_2, sp_yes b44, sp_yes b44_1])⟩)
      · have A97 := X75.at
        refine Gets.via (fun _ k => (XS.ifNo A97 hx rfl (D d8_20) rfl (Jvm.Free.XT.i0_eq_f b20_2) k)) ?_
        refine Gets.via (fun _ k => (iincV A97 hx rfl (D d8_23) rfl (v := (3 : Int32)) (by decide) (l' := #[vR x, vI (3 : Int32), vI (5 : Int32)]) rfl (XS.goto A97 hx rfl (pc0 := 26) (pc' := 7) rfl (D d8_26) (by decide) (by decide) k))) ?_
        refine Gets.via (fun _ k => (XS.iloadN A97 hx rfl (D d8_7) rfl (XS.iloadN A97 hx rfl (D d8_8) rfl (XS.icmpNo A97 hx rfl (D d8_9) rfl (Jvm.Free.XT.ii_ge_f (by decide)) k)))) ?_
        refine Gets.via (fun _ k => (XS.aloadN A97 hx rfl (D d8_12) rfl rfl (XS.iloadN A97 hx rfl (D d8_13) rfl k))) ?_
        refine X75.callV (W := 0) (w52 hw) (w53 hw) (w55 hw) (w54 hw) (nfs rfl (w55 hw)) (by decide) (payCh X75 hw (w10 hw) Pr0 O2 P5 O4 P6 (3) (Nat.le_of_ble_eq_true rfl) rfl (by decide) (by decide)) Pr0.1 rfl (sz hml rfl) (argsL := [(.int (3 : Int32))]) (rest := []) (lenOf pd11 rfl) rfl rfl (mroom rfl rfl) (D d8_14) (by decide) (by decide) fun T98 h98 vm98 v98 X98 C98 z98 q98 => ?_
        obtain ⟨rfl, K98⟩ := q98
        rw [K98] at X98 C98
        refine X98.callS (W := 0) (w74 hw) (w75 hw) (w40 hw) (w76 hw) (by decide) (X98.payM (sf := []) (rmIsSp hc c3 h0 X98.old ) sf0 (w76 hw) (w40 hw) (by decide) (by decide)) rfl (sz hml rfl) (argsL := [(.int c3)]) (rest := []) (lenOf pd12 rfl) rfl rfl (mroom rfl rfl) (D d8_17) (by decide) (by decide) fun T99 h99 vm99 v99 X99 C99 z99 q99 => ?_
        obtain ⟨r99, rfl, K99, rfl⟩ := q99
        rw [K99] at X99 C99
        show Gets p e below _ (T99.setTop (mkF m 20 #[vR x, vI (3 : Int32), vI (5 : Int32)] [(.int (if sp c3 = true then 1 else 0))]))
        by_cases b20_3 : (if sp c3 = true then 1 else 0) = (0 : Int32)
        · have A100 := X99.at
          refine Gets.via (fun _ k => (XS.ifYes A100 hx rfl (pc0 := 20) (pc' := 29) rfl (D d8_20) rfl (Jvm.Free.XT.i0_eq_t b20_3) (by decide) (by decide) k)) ?_
          refine Gets.via (fun _ k => (XS.iloadN A100 hx rfl (D d8_29) rfl (XS.iloadN A100 hx rfl (D d8_30) rfl (XS.icmpNo A100 hx rfl (D d8_31) rfl (Jvm.Free.XT.ii_le_f (by decide)) k)))) ?_
          refine Gets.via (fun _ k => (XS.aloadN A100 hx rfl (D d8_34) rfl rfl (XS.iloadN A100 hx rfl (D d8_35) rfl (XS.iconst A100 hx rfl (D d8_36) (isubV A100 hx rfl (D d8_37) rfl (v := (4 : Int32)) (by decide) k))))) ?_
          refine X99.callV (W := 0) (w52 hw) (w53 hw) (w55 hw) (w54 hw) (nfs rfl (w55 hw)) (by decide) (payCh X99 hw (w10 hw) Pr0 O2 P5 O4 P6 (4) (Nat.le_of_ble_eq_true rfl) rfl (by decide) (by decide)) Pr0.1 rfl (sz hml rfl) (argsL := [(.int (4 : Int32))]) (rest := []) (lenOf pd11 rfl) rfl rfl (mroom rfl rfl) (D d8_38) (by decide) (by decide) fun T101 h101 vm101 v101 X101 C101 z101 q101 => ?_
          obtain ⟨rfl, K101⟩ := q101
          rw [K101] at X101 C101
          refine X101.callS (W := 0) (w74 hw) (w75 hw) (w40 hw) (w76 hw) (by decide) (X101.payM (sf := []) (rmIsSp hc c4 h0 X101.old ) sf0 (w76 hw) (w40 hw) (by decide) (by decide)) rfl (sz hml rfl) (argsL := [(.int c4)]) (rest := []) (lenOf pd12 rfl) rfl rfl (mroom rfl rfl) (D d8_41) (by decide) (by decide) fun T102 h102 vm102 v102 X102 C102 z102 q102 => ?_
          obtain ⟨r102, rfl, K102, rfl⟩ := q102
          rw [K102] at X102 C102
          show Gets p e below _ (T102.setTop (mkF m 44 #[vR x, vI (3 : Int32), vI (5 : Int32)] [(.int (if sp c4 = true then 1 else 0))]))
          by_cases b44 : (if sp c4 = true then 1 else 0) = (0 : Int32)
          · have A103 := X102.at
            refine Gets.via (fun _ k => (XS.ifYes A103 hx rfl (pc0 := 44) (pc' := 53) rfl (D d8_44) rfl (Jvm.Free.XT.i0_eq_t b44) (by decide) (by decide) k)) ?_
            refine Gets.via (fun _ k => (XS.aloadN A103 hx rfl (D d8_53) rfl rfl (XS.iloadN A103 hx rfl (D d8_54) rfl (XS.iloadN A103 hx rfl (D d8_55) rfl k)))) ?_
            refine X102.callV (W := 0) (w77 hw) (w78 hw) (w80 hw) (w79 hw) (nfs rfl (w80 hw)) (by decide) (X102.payM (sf := []) (rmSubs hc x b kb [c0, c1, c2, c3, c4] 3 2 h0 X102.old Pr0 (by first | exact Nat.le_of_ble_eq_true rfl | omega) (by decide)) sf0 (w81 hw) (w11 hw) (by decide) (by decide)) Pr0.1 rfl (sz hml rfl) (argsL := [(.int (3 : Int32)), (.int (5 : Int32))]) (rest := []) (lenOf pd14 rfl) rfl rfl (mroom rfl rfl) (D d8_56) (by decide) (by decide) fun T104 h104 vm104 v104 X104 C104 z104 q104 => ?_
            obtain ⟨a104, t104, kt104, ds104, rfl, K104, g104_0, rfl⟩ := q104
            have l105 := ltA g104_0.lt
            have l106 := ltA g104_0.lb
            exact X104.retA hret rfl rfl rfl (D d8_59) (by decide) (by decide) (fun vmE CE => ⟨a104, t104, kt104, ((([c0, c1, c2, c3, c4].drop 3).take 2)), rfl, ((Keep.refl h0 []).trans K104 all0), g104_0, (by simp [trimL, sp_yes b20, sp_yes b20_1, sp_yes b20_2, sp_no b20_3, sp_no b44])⟩)
          · have A107 := X102.at
            refine Gets.via (fun _ k => (XS.ifNo A107 hx rfl (D d8_44) rfl (Jvm.Free.XT.i0_eq_f b44) k)) ?_
            refine Gets.via (fun _ k => (iincV A107 hx rfl (D d8_47) rfl (v := (4 : Int32)) (by decide) (l' := #[vR x, vI (3 : Int32), vI (4 : Int32)]) rfl (XS.goto A107 hx rfl (pc0 := 50) (pc' := 29) rfl (D d8_50) (by decide) (by decide) k))) ?_
            refine Gets.via (fun _ k => (XS.iloadN A107 hx rfl (D d8_29) rfl (XS.iloadN A107 hx rfl (D d8_30) rfl (XS.icmpNo A107 hx rfl (D d8_31) rfl (Jvm.Free.XT.ii_le_f (by decide)) k)))) ?_
            show Gets p e below _ (T102.setTop (mkF m 34 #[vR x, vI (3 : Int32), vI (4 : Int32)] []))
            refine Gets.via (fun _ k => (XS.aloadN A107 hx rfl (D d8_34) rfl rfl (XS.iloadN A107 hx rfl (D d8_35) rfl (XS.iconst A107 hx rfl (D d8_36) (isubV A107 hx rfl (D d8_37) rfl (v := (3 : Int32)) (by decide) k))))) ?_
            refine X102.callV (W := 0) (w52 hw) (w53 hw) (w55 hw) (w54 hw) (nfs rfl (w55 hw)) (by decide) (payCh X102 hw (w10 hw) Pr0 O2 P5 O4 P6 (3) (Nat.le_of_ble_eq_true rfl) rfl (by decide) (by decide)) Pr0.1 rfl (sz hml rfl) (argsL := [(.int (3 : Int32))]) (rest := []) (lenOf pd11 rfl) rfl rfl (mroom rfl rfl) (D d8_38) (by decide) (by decide) fun T108 h108 vm108 v108 X108 C108 z108 q108 => ?_
            obtain ⟨rfl, K108⟩ := q108
            rw [K108] at X108 C108
            refine X108.callS (W := 0) (w74 hw) (w75 hw) (w40 hw) (w76 hw) (by decide) (X108.payM (sf := []) (rmIsSp hc c3 h0 X108.old ) sf0 (w76 hw) (w40 hw) (by decide) (by decide)) rfl (sz hml rfl) (argsL := [(.int c3)]) (rest := []) (lenOf pd12 rfl) rfl rfl (mroom rfl rfl) (D d8_41) (by decide) (by decide) fun T109 h109 vm109 v109 X109 C109 z109 q109 => ?_
            obtain ⟨r109, rfl, K109, rfl⟩ := q109
            rw [K109] at X109 C109
            have A110 := X109.at
            refine Gets.via (fun _ k => (XS.ifYes A110 hx rfl (pc0 := 44) (pc' := 53) rfl (D d8_44) rfl (Jvm.Free.XT.i0_eq_t b20_3) (by decide) (by decide) k)) ?_
            refine Gets.via (fun _ k => (XS.aloadN A110 hx rfl (D d8_53) rfl rfl (XS.iloadN A110 hx rfl (D d8_54) rfl (XS.iloadN A110 hx rfl (D d8_55) rfl k)))) ?_
            show Gets p e below _ (T109.setTop (mkF m 56 #[vR x, vI (3 : Int32), vI (4 : Int32)] [(.int (4 : Int32)), (.int (3 : Int32)), (.ref x)]))
            refine X109.callV (W := 0) (w77 hw) (w78 hw) (w80 hw) (w79 hw) (nfs rfl (w80 hw)) (by decide) (X109.payM (sf := []) (rmSubs hc x b kb [c0, c1, c2, c3, c4] 3 1 h0 X109.old Pr0 (by first | exact Nat.le_of_ble_eq_true rfl | omega) (by decide)) sf0 (w81 hw) (w11 hw) (by decide) (by decide)) Pr0.1 rfl (sz hml rfl) (argsL := [(.int (3 : Int32)), (.int (4 : Int32))]) (rest := []) (lenOf pd14 rfl) rfl rfl (mroom rfl rfl) (D d8_56) (by decide) (by decide) fun T111 h111 vm111 v111 X111 C111 z111 q111 => ?_
            obtain ⟨a111, t111, kt111, ds111, rfl, K111, g111_0, rfl⟩ := q111
            have l112 := ltA g111_0.lt
            have l113 := ltA g111_0.lb
            exact X111.retA hret rfl rfl rfl (D d8_59) (by decide) (by decide) (fun vmE CE => ⟨a111, t111, kt111, ((([c0, c1, c2, c3, c4].drop 3).take 1)), rfl, ((Keep.refl h0 []).trans K111 all0), g111_0, (by simp [trimL, sp_yes b20, sp_yes b20_1, sp_yes b20_2, sp_no b20_3, sp_yes b44])⟩)
        · have A114 := X99.at
          refine Gets.via (fun _ k => (XS.ifNo A114 hx rfl (D d8_20) rfl (Jvm.Free.XT.i0_eq_f b20_3) k)) ?_
          refine Gets.via (fun _ k => (iincV A114 hx rfl (D d8_23) rfl (v := (4 : Int32)) (by decide) (l' := #[vR x, vI (4 : Int32), vI (5 : Int32)]) rfl (XS.goto A114 hx rfl (pc0 := 26) (pc' := 7) rfl (D d8_26) (by decide) (by decide) k))) ?_
          refine Gets.via (fun _ k => (XS.iloadN A114 hx rfl (D d8_7) rfl (XS.iloadN A114 hx rfl (D d8_8) rfl (XS.icmpNo A114 hx rfl (D d8_9) rfl (Jvm.Free.XT.ii_ge_f (by decide)) k)))) ?_
          refine Gets.via (fun _ k => (XS.aloadN A114 hx rfl (D d8_12) rfl rfl (XS.iloadN A114 hx rfl (D d8_13) rfl k))) ?_
          refine X99.callV (W := 0) (w52 hw) (w53 hw) (w55 hw) (w54 hw) (nfs rfl (w55 hw)) (by decide) (payCh X99 hw (w10 hw) Pr0 O2 P5 O4 P6 (4) (Nat.le_of_ble_eq_true rfl) rfl (by decide) (by decide)) Pr0.1 rfl (sz hml rfl) (argsL := [(.int (4 : Int32))]) (rest := []) (lenOf pd11 rfl) rfl rfl (mroom rfl rfl) (D d8_14) (by decide) (by decide) fun T115 h115 vm115 v115 X115 C115 z115 q115 => ?_
          obtain ⟨rfl, K115⟩ := q115
          rw [K115] at X115 C115
          show Gets p e below _ (T115.setTop (mkF m 17 #[vR x, vI (4 : Int32), vI (5 : Int32)] [(.int c4)]))
          refine X115.callS (W := 0) (w74 hw) (w75 hw) (w40 hw) (w76 hw) (by decide) (X115.payM (sf := []) (rmIsSp hc c4 h0 X115.old ) sf0 (w76 hw) (w40 hw) (by decide) (by decide)) rfl (sz hml rfl) (argsL := [(.int c4)]) (rest := []) (lenOf pd12 rfl) rfl rfl (mroom rfl rfl) (D d8_17) (by decide) (by decide) fun T116 h116 vm116 v116 X116 C116 z116 q116 => ?_
          obtain ⟨r116, rfl, K116, rfl⟩ := q116
          rw [K116] at X116 C116
          by_cases b20_4 : (if sp c4 = true then 1 else 0) = (0 : Int32)
          · have A117 := X116.at
            refine Gets.via (fun _ k => (XS.ifYes A117 hx rfl (pc0 := 20) (pc' := 29) rfl (D d8_20) rfl (Jvm.Free.XT.i0_eq_t b20_4) (by decide) (by decide) k)) ?_
            refine Gets.via (fun _ k => (XS.iloadN A117 hx rfl (D d8_29) rfl (XS.iloadN A117 hx rfl (D d8_30) rfl (XS.icmpNo A117 hx rfl (D d8_31) rfl (Jvm.Free.XT.ii_le_f (by decide)) k)))) ?_
            refine Gets.via (fun _ k => (XS.aloadN A117 hx rfl (D d8_34) rfl rfl (XS.iloadN A117 hx rfl (D d8_35) rfl (XS.iconst A117 hx rfl (D d8_36) (isubV A117 hx rfl (D d8_37) rfl (v := (4 : Int32)) (by decide) k))))) ?_
            refine X116.callV (W := 0) (w52 hw) (w53 hw) (w55 hw) (w54 hw) (nfs rfl (w55 hw)) (by decide) (payCh X116 hw (w10 hw) Pr0 O2 P5 O4 P6 (4) (Nat.le_of_ble_eq_true rfl) rfl (by decide) (by decide)) Pr0.1 rfl (sz hml rfl) (argsL := [(.int (4 : Int32))]) (rest := []) (lenOf pd11 rfl) rfl rfl (mroom rfl rfl) (D d8_38) (by decide) (by decide) fun T118 h118 vm118 v118 X118 C118 z118 q118 => ?_
            obtain ⟨rfl, K118⟩ := q118
            rw [K118] at X118 C118
            show Gets p e below _ (T118.setTop (mkF m 41 #[vR x, vI (4 : Int32), vI (5 : Int32)] [(.int c4)]))
            refine X118.callS (W := 0) (w74 hw) (w75 hw) (w40 hw) (w76 hw) (by decide) (X118.payM (sf := []) (rmIsSp hc c4 h0 X118.old ) sf0 (w76 hw) (w40 hw) (by decide) (by decide)) rfl (sz hml rfl) (argsL := [(.int c4)]) (rest := []) (lenOf pd12 rfl) rfl rfl (mroom rfl rfl) (D d8_41) (by decide) (by decide) fun T119 h119 vm119 v119 X119 C119 z119 q119 => ?_
            obtain ⟨r119, rfl, K119, rfl⟩ := q119
            rw [K119] at X119 C119
            have A120 := X119.at
            refine Gets.via (fun _ k => (XS.ifYes A120 hx rfl (pc0 := 44) (pc' := 53) rfl (D d8_44) rfl (Jvm.Free.XT.i0_eq_t b20_4) (by decide) (by decide) k)) ?_
            refine Gets.via (fun _ k => (XS.aloadN A120 hx rfl (D d8_53) rfl rfl (XS.iloadN A120 hx rfl (D d8_54) rfl (XS.iloadN A120 hx rfl (D d8_55) rfl k)))) ?_
            refine X119.callV (W := 0) (w77 hw) (w78 hw) (w80 hw) (w79 hw) (nfs rfl (w80 hw)) (by decide) (X119.payM (sf := []) (rmSubs hc x b kb [c0, c1, c2, c3, c4] 4 1 h0 X119.old Pr0 (by first | exact Nat.le_of_ble_eq_true rfl | omega) (by decide)) sf0 (w81 hw) (w11 hw) (by decide) (by decide)) Pr0.1 rfl (sz hml rfl) (argsL := [(.int (4 : Int32)), (.int (5 : Int32))]) (rest := []) (lenOf pd14 rfl) rfl rfl (mroom rfl rfl) (D d8_56) (by decide) (by decide) fun T121 h121 vm121 v121 X121 C121 z121 q121 => ?_
            obtain ⟨a121, t121, kt121, ds121, rfl, K121, g121_0, rfl⟩ := q121
            have l122 := ltA g121_0.lt
            have l123 := ltA g121_0.lb
            exact X121.retA hret rfl rfl rfl (D d8_59) (by decide) (by decide) (fun vmE CE => ⟨a121, t121, kt121, ((([c0, c1, c2, c3, c4].drop 4).take 1)), rfl, ((Keep.refl h0 []).trans K121 all0), g121_0, (by simp [trimL, sp_yes b20, sp_yes b20_1, sp_yes b20_2, sp_yes b20_3, sp_no b20_4])⟩)
          · have A124 := X116.at
            refine Gets.via (fun _ k => (XS.ifNo A124 hx rfl (D d8_20) rfl (Jvm.Free.XT.i0_eq_f b20_4) k)) ?_
            refine Gets.via (fun _ k => (iincV A124 hx rfl (D d8_23) rfl (v := (5 : Int32)) (by decide) (l' := #[vR x, vI (5 : Int32), vI (5 : Int32)]) rfl (XS.goto A124 hx rfl (pc0 := 26) (pc' := 7) rfl (D d8_26) (by decide) (by decide) k))) ?_
            show Gets p e below _ (T116.setTop (mkF m 7 #[vR x, vI (5 : Int32), vI (5 : Int32)] []))
            refine Gets.via (fun _ k => (XS.iloadN A124 hx rfl (D d8_7) rfl (XS.iloadN A124 hx rfl (D d8_8) rfl (XS.icmpYes A124 hx rfl (pc0 := 9) (pc' := 29) rfl (D d8_9) rfl (Jvm.Free.XT.ii_ge_t (by decide)) (by decide) (by decide) k)))) ?_
            refine Gets.via (fun _ k => (XS.iloadN A124 hx rfl (D d8_29) rfl (XS.iloadN A124 hx rfl (D d8_30) rfl (XS.icmpYes A124 hx rfl (pc0 := 31) (pc' := 53) rfl (D d8_31) rfl (Jvm.Free.XT.ii_le_t (by decide)) (by decide) (by decide) k)))) ?_
            refine Gets.via (fun _ k => (XS.aloadN A124 hx rfl (D d8_53) rfl rfl (XS.iloadN A124 hx rfl (D d8_54) rfl (XS.iloadN A124 hx rfl (D d8_55) rfl k)))) ?_
            refine X116.callV (W := 0) (w77 hw) (w78 hw) (w80 hw) (w79 hw) (nfs rfl (w80 hw)) (by decide) (X116.payM (sf := []) (rmSubs hc x b kb [c0, c1, c2, c3, c4] 5 0 h0 X116.old Pr0 (by first | exact Nat.le_of_ble_eq_true rfl | omega) (by decide)) sf0 (w81 hw) (w11 hw) (by decide) (by decide)) Pr0.1 rfl (sz hml rfl) (argsL := [(.int (5 : Int32)), (.int (5 : Int32))]) (rest := []) (lenOf pd14 rfl) rfl rfl (mroom rfl rfl) (D d8_56) (by decide) (by decide) fun T125 h125 vm125 v125 X125 C125 z125 q125 => ?_
            obtain ⟨a125, t125, kt125, ds125, rfl, K125, g125_0, rfl⟩ := q125
            have l126 := ltA g125_0.lt
            have l127 := ltA g125_0.lb
            show Gets p e below _ (T125.setTop (mkF m 59 #[vR x, vI (5 : Int32), vI (5 : Int32)] [(.ref a125)]))
            exact X125.retA hret rfl rfl rfl (D d8_59) (by decide) (by decide) (fun vmE CE => ⟨a125, t125, kt125, ((([c0, c1, c2, c3, c4].drop 5).take 0)), rfl, ((Keep.refl h0 []).trans K125 all0), g125_0, (by simp [trimL, sp_yes b20, sp_yes b20_1, sp_yes b20_2, sp_yes b20_3, sp_yes b20_4])⟩)
abbrev RrmLaw : Room := room_1
def QrmLaw (Z : State) (p0 : Int32) (p1 : Int32) (p2 : Int32) (p3 : Int32) (p4 : Int32) (p5 : Int32) (h0 : Heap) (v : Option Value) (vm : Vm) (h : Heap) : Prop := v = some (.int (1 : Int32)) ∧ Keep h0 h []
theorem rmLaw (hc : Cx Z a0 zc fm) (p0 : Int32) (p1 : Int32) (p2 : Int32) (p3 : Int32) (p4 : Int32) (p5 : Int32) (h0 : Heap) (O0 : Old Z Z.heap.size h0)  : Met l Z consts_1 x code maxLocals ret tables_1 RrmLaw [] #[(.int p0), (.int p1), (.int p2), (.int p3), (.int p4), (.int p5)] h0 (QrmLaw Z p0 p1 p2 p3 p4 p5 h0) := by
  have ⟨hw, hEL, O2, P5, O4, P6⟩ := hc
  refine Met.start (a0 := a0) (Ls := #[vI p0, vI p1, vI p2, vI p3, vI p4, vI p5, .unset, .unset, .unset, .unset, .unset, .unset, .unset, .unset]) pn27 hEL O0 (fun m => by first | (simp [entryFrame, mkF, argsToLocals, Value.category, maxLocals]; done) | rfl) ?_
  intro p e s m below meth cc T0 vm0 X0 sf0_ hby hml hret hnm
  have hx := X0.hx
  have D : ∀ {n r}, decode code n = r → decode cc.code n = r := fun d => hb hby d
  have zz := X0.ge
  have A0 := X0.at
  refine Gets.via (fun _ k => (XS.iconst A0 hx rfl (D at_0) k)) ?_
  refine X0.newA (aty := .char) (w0 hw) rfl (D at_1) rfl (by decide) (cap := 5) (by decide) (by decide) (by decide) (by decide) fun T1 h1 a1 k1 X1 C1 E1 g1 S1 V1 => ?_
  have z1 := E1.1
  have l1 := ltA V1.lt
  have V1_ : Arv Z h1 a1 k1 .char (5 : Int32) [(.int (0 : Int32)), (.int (0 : Int32)), (.int (0 : Int32)), (.int (0 : Int32)), (.int (0 : Int32))] (.int (0 : Int32)) := padN V1 5
  have A2 := X1.at
  refine Gets.via (fun _ k => (XS.dup A2 hx rfl (D at_3) rfl rfl (XS.iconst A2 hx rfl (D at_4) (XS.iloadN A2 hx rfl (D at_5) rfl k)))) ?_
  refine X1.callS (W := 3) (w1 hw) (w2 hw) (w3 hw) (w4 hw) (by decide) (X1.payM (sf := []) (rmCh hc p0 h1 X1.old ) sf0 (w4 hw) (w3 hw) (by decide) (by decide)) rfl (sz hml rfl) (argsL := [(.int p0)]) (rest := [(.int (0 : Int32)), (.ref a1), (.ref a1)]) (lenOf pd11 rfl) rfl rfl (mroom rfl rfl) (D at_6) (by decide) (by decide) fun T3 h3 vm3 v3 X3 C3 z3 q3 => ?_
  obtain ⟨r3, rfl, K3, g3_0⟩ := q3
  rw [K3] at X3 C3
  show Gets p e below _ (T3.setTop (mkF m 9 #[vI p0, vI p1, vI p2, vI p3, vI p4, vI p5, .unset, .unset, .unset, .unset, .unset, .unset, .unset, .unset] [(.int r3), (.int (0 : Int32)), (.ref a1), (.ref a1)]))
  refine X3.stC V1_ (i := 0) (by decide) (by decide) (Nat.le_of_ble_eq_true rfl) (by decide) (v := r3) (i2c_small g3_0) (leA (by omega)) rfl rfl (D at_9) fun T4 h4 X4 C4 K4 V4 => ?_
  have z4 := K4.1
  have V4_ : Arv Z h4 a1 k1 .char (5 : Int32) [(.int r3), (.int (0 : Int32)), (.int (0 : Int32)), (.int (0 : Int32)), (.int (0 : Int32))] (.int (0 : Int32)) := V4
  have A5 := X4.at
  refine Gets.via (fun _ k => (XS.dup A5 hx rfl (D at_10) rfl rfl (XS.iconst A5 hx rfl (D at_11) (XS.iloadN A5 hx rfl (D at_12) rfl k)))) ?_
  refine X4.callS (W := 3) (w1 hw) (w2 hw) (w3 hw) (w4 hw) (by decide) (X4.payM (sf := []) (rmCh hc p1 h4 X4.old ) sf0 (w4 hw) (w3 hw) (by decide) (by decide)) rfl (sz hml rfl) (argsL := [(.int p1)]) (rest := [(.int (1 : Int32)), (.ref a1), (.ref a1)]) (lenOf pd11 rfl) rfl rfl (mroom rfl rfl) (D at_13) (by decide) (by decide) fun T6 h6 vm6 v6 X6 C6 z6 q6 => ?_
  obtain ⟨r6, rfl, K6, g6_0⟩ := q6
  rw [K6] at X6 C6
  refine X6.stC V4_ (i := 1) (by decide) (by decide) (Nat.le_of_ble_eq_true rfl) (by decide) (v := r6) (i2c_small g6_0) (leA (by omega)) rfl rfl (D at_16) fun T7 h7 X7 C7 K7 V7 => ?_
  have z7 := K7.1
  have V7_ : Arv Z h7 a1 k1 .char (5 : Int32) [(.int r3), (.int r6), (.int (0 : Int32)), (.int (0 : Int32)), (.int (0 : Int32))] (.int (0 : Int32)) := V7
  show Gets p e below _ (T7.setTop (mkF m 17 #[vI p0, vI p1, vI p2, vI p3, vI p4, vI p5, .unset, .unset, .unset, .unset, .unset, .unset, .unset, .unset] [(.ref a1)]))
  have A8 := X7.at
  refine Gets.via (fun _ k => (XS.dup A8 hx rfl (D at_17) rfl rfl (XS.iconst A8 hx rfl (D at_18) (XS.iloadN A8 hx rfl (D at_19) rfl k)))) ?_
  refine X7.callS (W := 3) (w1 hw) (w2 hw) (w3 hw) (w4 hw) (by decide) (X7.payM (sf := []) (rmCh hc p2 h7 X7.old ) sf0 (w4 hw) (w3 hw) (by decide) (by decide)) rfl (sz hml rfl) (argsL := [(.int p2)]) (rest := [(.int (2 : Int32)), (.ref a1), (.ref a1)]) (lenOf pd11 rfl) rfl rfl (mroom rfl rfl) (D at_20) (by decide) (by decide) fun T9 h9 vm9 v9 X9 C9 z9 q9 => ?_
  obtain ⟨r9, rfl, K9, g9_0⟩ := q9
  rw [K9] at X9 C9
  refine X9.stC V7_ (i := 2) (by decide) (by decide) (Nat.le_of_ble_eq_true rfl) (by decide) (v := r9) (i2c_small g9_0) (leA (by omega)) rfl rfl (D at_23) fun T10 h10 X10 C10 K10 V10 => ?_
  have z10 := K10.1
  have V10_ : Arv Z h10 a1 k1 .char (5 : Int32) [(.int r3), (.int r6), (.int r9), (.int (0 : Int32)), (.int (0 : Int32))] (.int (0 : Int32)) := V10
  have A11 := X10.at
  refine Gets.via (fun _ k => (XS.dup A11 hx rfl (D at_24) rfl rfl (XS.iconst A11 hx rfl (D at_25) (XS.iloadN A11 hx rfl (D at_26) rfl k)))) ?_
  show Gets p e below _ (T10.setTop (mkF m 27 #[vI p0, vI p1, vI p2, vI p3, vI p4, vI p5, .unset, .unset, .unset, .unset, .unset, .unset, .unset, .unset] [(.int p3), (.int (3 : Int32)), (.ref a1), (.ref a1)]))
  refine X10.callS (W := 3) (w1 hw) (w2 hw) (w3 hw) (w4 hw) (by decide) (X10.payM (sf := []) (rmCh hc p3 h10 X10.old ) sf0 (w4 hw) (w3 hw) (by decide) (by decide)) rfl (sz hml rfl) (argsL := [(.int p3)]) (rest := [(.int (3 : Int32)), (.ref a1), (.ref a1)]) (lenOf pd11 rfl) rfl rfl (mroom rfl rfl) (D at_27) (by decide) (by decide) fun T12 h12 vm12 v12 X12 C12 z12 q12 => ?_
  obtain ⟨r12, rfl, K12, g12_0⟩ := q12
  rw [K12] at X12 C12
  refine X12.stC V10_ (i := 3) (by decide) (by decide) (Nat.le_of_ble_eq_true rfl) (by decide) (v := r12) (i2c_small g12_0) (leA (by omega)) rfl rfl (D at_30) fun T13 h13 X13 C13 K13 V13 => ?_
  have z13 := K13.1
  have V13_ : Arv Z h13 a1 k1 .char (5 : Int32) [(.int r3), (.int r6), (.int r9), (.int r12), (.int (0 : Int32))] (.int (0 : Int32)) := V13
  have A14 := X13.at
  refine Gets.via (fun _ k => (XS.dup A14 hx rfl (D at_31) rfl rfl (XS.iconst A14 hx rfl (D at_32) (XS.iload A14 hx rfl (D at_33) rfl k)))) ?_
  refine X13.callS (W := 3) (w1 hw) (w2 hw) (w3 hw) (w4 hw) (by decide) (X13.payM (sf := []) (rmCh hc p4 h13 X13.old ) sf0 (w4 hw) (w3 hw) (by decide) (by decide)) rfl (sz hml rfl) (argsL := [(.int p4)]) (rest := [(.int (4 : Int32)), (.ref a1), (.ref a1)]) (lenOf pd11 rfl) rfl rfl (mroom rfl rfl) (D at_35) (by decide) (by decide) fun T15 h15 vm15 v15 X15 C15 z15 q15 => ?_
  obtain ⟨r15, rfl, K15, g15_0⟩ := q15
  rw [K15] at X15 C15
  show Gets p e below _ (T15.setTop (mkF m 38 #[vI p0, vI p1, vI p2, vI p3, vI p4, vI p5, .unset, .unset, .unset, .unset, .unset, .unset, .unset, .unset] [(.int r15), (.int (4 : Int32)), (.ref a1), (.ref a1)]))
  refine X15.stC V13_ (i := 4) (by decide) (by decide) (Nat.le_of_ble_eq_true rfl) (by decide) (v := r15) (i2c_small g15_0) (leA (by omega)) rfl rfl (D at_38) fun T16 h16 X16 C16 K16 V16 => ?_
  have z16 := K16.1
  have V16_ : Arv Z h16 a1 k1 .char (5 : Int32) [(.int r3), (.int r6), (.int r9), (.int r12), (.int r15)] (.int (0 : Int32)) := V16
  have A17 := X16.at
  refine Gets.via (fun _ k => (XS.astore A17 hx rfl (D at_39) rfl rfl (l' := #[vI p0, vI p1, vI p2, vI p3, vI p4, vI p5, vR a1, .unset, .unset, .unset, .unset, .unset, .unset, .unset]) rfl (XS.iload A17 hx rfl (D at_41) rfl k))) ?_
  refine X16.ldcI (w5 hw) rfl (D at_43) ?_
  refine Gets.via (fun _ k => (XS.iand A17 hx rfl (D at_45) rfl (XS.bipush A17 hx rfl (D at_46) (iremV A17 hx rfl (D at_48) rfl (by decide) (XS.istore A17 hx rfl (D at_49) rfl (l' := #[vI p0, vI p1, vI p2, vI p3, vI p4, vI p5, vR a1, vI ((p5 &&& (2147483647 : Int32)) % (6 : Int32)), .unset, .unset, .unset, .unset, .unset, .unset]) rfl k))))) ?_
  show Gets p e below _ (T16.setTop (mkF m 51 #[vI p0, vI p1, vI p2, vI p3, vI p4, vI p5, vR a1, vI ((p5 &&& (2147483647 : Int32)) % (6 : Int32)), .unset, .unset, .unset, .unset, .unset, .unset] []))
  have j67 : ∀ (T19 : State) (h19 : Heap) (vm19 : Vm) (sa : Addr) (fa : Addr) (fb : Addr) (fk : ClassId) (ds : List Int32) (X19 : Wk p l e RrmLaw s m #[(.int p0), (.int p1), (.int p2), (.int p3), (.int p4), (.int p5)] below meth cc x.cls Z a0 consts_1 h0 T19 h19 vm19 20 120) (K19 : Keep h16 h19 []) (j19_0 : Str Z h19 fa fb fk ds) (j19_1 : ds = trimL ([r3, r6, r9, r12, r15].take ((p5 &&& (2147483647 : Int32)) % (6 : Int32)).toNatClampNeg)), Gets p e below (Jvm.Ow.Out s Z consts_1 RrmLaw (QrmLaw Z p0 p1 p2 p3 p4 p5 h0)) (T19.setTop (mkF m 67 #[vI p0, vI p1, vI p2, vI p3, vI p4, vI p5, vR a1, vI ((p5 &&& (2147483647 : Int32)) % (6 : Int32)), vR sa, vR fa, .unset, .unset, .unset, .unset] [])) := by
    intro T19 h19 vm19 sa fa fb fk ds X19 K19 j19_0 j19_1
    have z19 := K19.1
    have l20 := ltA j19_0.lt
    have l21 := ltA j19_0.lb
    have A22 := X19.at
    refine Gets.via (fun _ k => (XS.iload A22 hx rfl (D at_67) rfl (XS.istore A22 hx rfl (D at_69) rfl (l' := #[vI p0, vI p1, vI p2, vI p3, vI p4, vI p5, vR a1, vI ((p5 &&& (2147483647 : Int32)) % (6 : Int32)), vR sa, vR fa, vI ((p5 &&& (2147483647 : Int32)) % (6 : Int32)), .unset, .unset, .unset]) rfl (XS.iload A22 hx rfl (D at_71) rfl (XS.iconst A22 hx rfl (D at_73) k))))) ?_
    have f23 := V16_.keep K19 nin0
    have j90 : ∀ (T24 : State) (vm24 : Vm) (X24 : Wk p l e RrmLaw s m #[(.int p0), (.int p1), (.int p2), (.int p3), (.int p4), (.int p5)] below meth cc x.cls Z a0 consts_1 h0 T24 h19 vm24 20 120) (lo4 : Int32) (qlo4 : lo4 = if (4 : Int32) < ((p5 &&& (2147483647 : Int32)) % (6 : Int32)) ∧ ¬ sp r15 = true then (4 : Int32) else ((p5 &&& (2147483647 : Int32)) % (6 : Int32))), Gets p e below (Jvm.Ow.Out s Z consts_1 RrmLaw (QrmLaw Z p0 p1 p2 p3 p4 p5 h0)) (T24.setTop (mkF m 90 #[vI p0, vI p1, vI p2, vI p3, vI p4, vI p5, vR a1, vI ((p5 &&& (2147483647 : Int32)) % (6 : Int32)), vR sa, vR fa, vI lo4, .unset, .unset, .unset] [])) := by
      intro T24 vm24 X24 lo4 qlo4
      have A25 := X24.at
      refine Gets.via (fun _ k => (XS.iload A25 hx rfl (D at_90) rfl (XS.iconst A25 hx rfl (D at_92) k))) ?_
      have j109 : ∀ (T26 : State) (vm26 : Vm) (X26 : Wk p l e RrmLaw s m #[(.int p0), (.int p1), (.int p2), (.int p3), (.int p4), (.int p5)] below meth cc x.cls Z a0 consts_1 h0 T26 h19 vm26 20 120) (lo3 : Int32) (qlo3 : lo3 = if (3 : Int32) < ((p5 &&& (2147483647 : Int32)) % (6 : Int32)) ∧ ¬ sp r12 = true then (3 : Int32) else lo4), Gets p e below (Jvm.Ow.Out s Z consts_1 RrmLaw (QrmLaw Z p0 p1 p2 p3 p4 p5 h0)) (T26.setTop (mkF m 109 #[vI p0, vI p1, vI p2, vI p3, vI p4, vI p5, vR a1, vI ((p5 &&& (2147483647 : Int32)) % (6 : Int32)), vR sa, vR fa, vI lo3, .unset, .unset, .unset] [])) := by
        intro T26 vm26 X26 lo3 qlo3
        have A27 := X26.at
        refine Gets.via (fun _ k => (XS.iload A27 hx rfl (D at_109) rfl (XS.iconst A27 hx rfl (D at_111) k))) ?_
        have j128 : ∀ (T28 : State) (vm28 : Vm) (X28 : Wk p l e RrmLaw s m #[(.int p0), (.int p1), (.int p2), (.int p3), (.int p4), (.int p5)] below meth cc x.cls Z a0 consts_1 h0 T28 h19 vm28 20 120) (lo2 : Int32) (qlo2 : lo2 = if (2 : Int32) < ((p5 &&& (2147483647 : Int32)) % (6 : Int32)) ∧ ¬ sp r9 = true then (2 : Int32) else lo3), Gets p e below (Jvm.Ow.Out s Z consts_1 RrmLaw (QrmLaw Z p0 p1 p2 p3 p4 p5 h0)) (T28.setTop (mkF m 128 #[vI p0, vI p1, vI p2, vI p3, vI p4, vI p5, vR a1, vI ((p5 &&& (2147483647 : Int32)) % (6 : Int32)), vR sa, vR fa, vI lo2, .unset, .unset, .unset] [])) := by
          intro T28 vm28 X28 lo2 qlo2
          have A29 := X28.at
          refine Gets.via (fun _ k => (XS.iload A29 hx rfl (D at_128) rfl (XS.iconst A29 hx rfl (D at_130) k))) ?_
          have j147 : ∀ (T30 : State) (vm30 : Vm) (X30 : Wk p l e RrmLaw s m #[(.int p0), (.int p1), (.int p2), (.int p3), (.int p4), (.int p5)] below meth cc x.cls Z a0 consts_1 h0 T30 h19 vm30 20 120) (lo1 : Int32) (qlo1 : lo1 = if (1 : Int32) < ((p5 &&& (2147483647 : Int32)) % (6 : Int32)) ∧ ¬ sp r6 = true then (1 : Int32) else lo2), Gets p e below (Jvm.Ow.Out s Z consts_1 RrmLaw (QrmLaw Z p0 p1 p2 p3 p4 p5 h0)) (T30.setTop (mkF m 147 #[vI p0, vI p1, vI p2, vI p3, vI p4, vI p5, vR a1, vI ((p5 &&& (2147483647 : Int32)) % (6 : Int32)), vR sa, vR fa, vI lo1, .unset, .unset, .unset] [])) := by
            intro T30 vm30 X30 lo1 qlo1
            have A31 := X30.at
            refine Gets.via (fun _ k => (XS.iload A31 hx rfl (D at_147) rfl k)) ?_
            have j165 : ∀ (T32 : State) (vm32 : Vm) (X32 : Wk p l e RrmLaw s m #[(.int p0), (.int p1), (.int p2), (.int p3), (.int p4), (.int p5)] below meth cc x.cls Z a0 consts_1 h0 T32 h19 vm32 20 120) (lo0 : Int32) (qlo0 : lo0 = if (0 : Int32) < ((p5 &&& (2147483647 : Int32)) % (6 : Int32)) ∧ ¬ sp r3 = true then (0 : Int32) else lo1), Gets p e below (Jvm.Ow.Out s Z consts_1 RrmLaw (QrmLaw Z p0 p1 p2 p3 p4 p5 h0)) (T32.setTop (mkF m 165 #[vI p0, vI p1, vI p2, vI p3, vI p4, vI p5, vR a1, vI ((p5 &&& (2147483647 : Int32)) % (6 : Int32)), vR sa, vR fa, vI lo0, .unset, .unset, .unset] [])) := by
              intro T32 vm32 X32 lo0 qlo0
              have A33 := X32.at
              refine Gets.via (fun _ k => (XS.iload A33 hx rfl (D at_165) rfl (XS.istore A33 hx rfl (D at_167) rfl (l' := #[vI p0, vI p1, vI p2, vI p3, vI p4, vI p5, vR a1, vI ((p5 &&& (2147483647 : Int32)) % (6 : Int32)), vR sa, vR fa, vI lo0, vI lo0, .unset, .unset]) rfl (XS.iload A33 hx rfl (D at_169) rfl k)))) ?_
              show Gets p e below _ (T32.setTop (mkF m 171 #[vI p0, vI p1, vI p2, vI p3, vI p4, vI p5, vR a1, vI ((p5 &&& (2147483647 : Int32)) % (6 : Int32)), vR sa, vR fa, vI lo0, vI lo0, .unset, .unset] [(.int ((p5 &&& (2147483647 : Int32)) % (6 : Int32)))]))
              have j187 : ∀ (T34 : State) (vm34 : Vm) (X34 : Wk p l e RrmLaw s m #[(.int p0), (.int p1), (.int p2), (.int p3), (.int p4), (.int p5)] below meth cc x.cls Z a0 consts_1 h0 T34 h19 vm34 20 120) (hi0 : Int32) (qhi0 : hi0 = if (0 : Int32) < ((p5 &&& (2147483647 : Int32)) % (6 : Int32)) ∧ ¬ sp r3 = true then (1 : Int32) else lo0), Gets p e below (Jvm.Ow.Out s Z consts_1 RrmLaw (QrmLaw Z p0 p1 p2 p3 p4 p5 h0)) (T34.setTop (mkF m 187 #[vI p0, vI p1, vI p2, vI p3, vI p4, vI p5, vR a1, vI ((p5 &&& (2147483647 : Int32)) % (6 : Int32)), vR sa, vR fa, vI lo0, vI hi0, .unset, .unset] [])) := by
                intro T34 vm34 X34 hi0 qhi0
                have A35 := X34.at
                refine Gets.via (fun _ k => (XS.iload A35 hx rfl (D at_187) rfl (XS.iconst A35 hx rfl (D at_189) k))) ?_
                have j206 : ∀ (T36 : State) (vm36 : Vm) (X36 : Wk p l e RrmLaw s m #[(.int p0), (.int p1), (.int p2), (.int p3), (.int p4), (.int p5)] below meth cc x.cls Z a0 consts_1 h0 T36 h19 vm36 20 120) (hi1 : Int32) (qhi1 : hi1 = if (1 : Int32) < ((p5 &&& (2147483647 : Int32)) % (6 : Int32)) ∧ ¬ sp r6 = true then (2 : Int32) else hi0), Gets p e below (Jvm.Ow.Out s Z consts_1 RrmLaw (QrmLaw Z p0 p1 p2 p3 p4 p5 h0)) (T36.setTop (mkF m 206 #[vI p0, vI p1, vI p2, vI p3, vI p4, vI p5, vR a1, vI ((p5 &&& (2147483647 : Int32)) % (6 : Int32)), vR sa, vR fa, vI lo0, vI hi1, .unset, .unset] [])) := by
                  intro T36 vm36 X36 hi1 qhi1
                  have A37 := X36.at
                  refine Gets.via (fun _ k => (XS.iload A37 hx rfl (D at_206) rfl (XS.iconst A37 hx rfl (D at_208) k))) ?_
                  have j225 : ∀ (T38 : State) (vm38 : Vm) (X38 : Wk p l e RrmLaw s m #[(.int p0), (.int p1), (.int p2), (.int p3), (.int p4), (.int p5)] below meth cc x.cls Z a0 consts_1 h0 T38 h19 vm38 20 120) (hi2 : Int32) (qhi2 : hi2 = if (2 : Int32) < ((p5 &&& (2147483647 : Int32)) % (6 : Int32)) ∧ ¬ sp r9 = true then (3 : Int32) else hi1), Gets p e below (Jvm.Ow.Out s Z consts_1 RrmLaw (QrmLaw Z p0 p1 p2 p3 p4 p5 h0)) (T38.setTop (mkF m 225 #[vI p0, vI p1, vI p2, vI p3, vI p4, vI p5, vR a1, vI ((p5 &&& (2147483647 : Int32)) % (6 : Int32)), vR sa, vR fa, vI lo0, vI hi2, .unset, .unset] [])) := by
                    intro T38 vm38 X38 hi2 qhi2
                    have A39 := X38.at
                    refine Gets.via (fun _ k => (XS.iload A39 hx rfl (D at_225) rfl (XS.iconst A39 hx rfl (D at_227) k))) ?_
                    have j244 : ∀ (T40 : State) (vm40 : Vm) (X40 : Wk p l e RrmLaw s m #[(.int p0), (.int p1), (.int p2), (.int p3), (.int p4), (.int p5)] below meth cc x.cls Z a0 consts_1 h0 T40 h19 vm40 20 120) (hi3 : Int32) (qhi3 : hi3 = if (3 : Int32) < ((p5 &&& (2147483647 : Int32)) % (6 : Int32)) ∧ ¬ sp r12 = true then (4 : Int32) else hi2), Gets p e below (Jvm.Ow.Out s Z consts_1 RrmLaw (QrmLaw Z p0 p1 p2 p3 p4 p5 h0)) (T40.setTop (mkF m 244 #[vI p0, vI p1, vI p2, vI p3, vI p4, vI p5, vR a1, vI ((p5 &&& (2147483647 : Int32)) % (6 : Int32)), vR sa, vR fa, vI lo0, vI hi3, .unset, .unset] [])) := by
                      intro T40 vm40 X40 hi3 qhi3
                      have A41 := X40.at
                      refine Gets.via (fun _ k => (XS.iload A41 hx rfl (D at_244) rfl (XS.iconst A41 hx rfl (D at_246) k))) ?_
                      have j263 : ∀ (T42 : State) (vm42 : Vm) (X42 : Wk p l e RrmLaw s m #[(.int p0), (.int p1), (.int p2), (.int p3), (.int p4), (.int p5)] below meth cc x.cls Z a0 consts_1 h0 T42 h19 vm42 20 120) (hi4 : Int32) (qhi4 : hi4 = if (4 : Int32) < ((p5 &&& (2147483647 : Int32)) % (6 : Int32)) ∧ ¬ sp r15 = true then (5 : Int32) else hi3), Gets p e below (Jvm.Ow.Out s Z consts_1 RrmLaw (QrmLaw Z p0 p1 p2 p3 p4 p5 h0)) (T42.setTop (mkF m 263 #[vI p0, vI p1, vI p2, vI p3, vI p4, vI p5, vR a1, vI ((p5 &&& (2147483647 : Int32)) % (6 : Int32)), vR sa, vR fa, vI lo0, vI hi4, .unset, .unset] [])) := by
                        intro T42 vm42 X42 hi4 qhi4
                        have A43 := X42.at
                        refine Gets.via (fun _ k => (XS.iload A43 hx rfl (D at_263) rfl (XS.iload A43 hx rfl (D at_265) rfl (XS.isub A43 hx rfl (D at_267) rfl (XS.istore A43 hx rfl (D at_268) rfl (l' := #[vI p0, vI p1, vI p2, vI p3, vI p4, vI p5, vR a1, vI ((p5 &&& (2147483647 : Int32)) % (6 : Int32)), vR sa, vR fa, vI lo0, vI hi4, vI (hi4 - lo0), .unset]) rfl k))))) ?_
                        show Gets p e below _ (T42.setTop (mkF m 270 #[vI p0, vI p1, vI p2, vI p3, vI p4, vI p5, vR a1, vI ((p5 &&& (2147483647 : Int32)) % (6 : Int32)), vR sa, vR fa, vI lo0, vI hi4, vI (hi4 - lo0), .unset] []))
                        have hG := fin (sz6 p5) j19_1 qlo4 qlo3 qlo2 qlo1 qlo0 qhi0 qhi1 qhi2 qhi3 qhi4
                        refine Gets.via (fun _ k => (XS.aload A43 hx rfl (D at_270) rfl rfl k)) ?_
                        refine X42.callV (W := 0) (w92 hw) (w43 hw) (w45 hw) (w44 hw) (nfs rfl (w45 hw)) (by decide) (payLen X42 hw (w10 hw) j19_0 O2 P5 (by decide) (by decide)) j19_0.1 rfl (sz hml rfl) (argsL := []) (rest := []) (lenOf pd6 rfl) rfl rfl (mroom rfl rfl) (D at_272) (by decide) (by decide) fun T44 h44 vm44 v44 X44 C44 z44 q44 => ?_
                        obtain ⟨rfl, K44⟩ := q44
                        rw [K44] at X44 C44
                        have A45 := X44.at
                        refine Gets.via (fun _ k => (XS.iload A45 hx rfl (D at_275) rfl (XS.icmpYes A45 hx rfl (pc0 := 277) (pc' := 282) rfl (D at_277) rfl (Jvm.Free.XT.ii_eq_t hG.1) (by decide) (by decide) k))) ?_
                        refine Gets.via (fun _ k => (XS.iconst A45 hx rfl (D at_282) (XS.istore A45 hx rfl (D at_283) rfl (l' := #[vI p0, vI p1, vI p2, vI p3, vI p4, vI p5, vR a1, vI ((p5 &&& (2147483647 : Int32)) % (6 : Int32)), vR sa, vR fa, vI lo0, vI hi4, vI (hi4 - lo0), vI (1 : Int32)]) rfl (XS.iload A45 hx rfl (D at_285) rfl k)))) ?_
                        have j316 : ∀ (T46 : State) (vm46 : Vm) (X46 : Wk p l e RrmLaw s m #[(.int p0), (.int p1), (.int p2), (.int p3), (.int p4), (.int p5)] below meth cc x.cls Z a0 consts_1 h0 T46 h19 vm46 20 120), Gets p e below (Jvm.Ow.Out s Z consts_1 RrmLaw (QrmLaw Z p0 p1 p2 p3 p4 p5 h0)) (T46.setTop (mkF m 316 #[vI p0, vI p1, vI p2, vI p3, vI p4, vI p5, vR a1, vI ((p5 &&& (2147483647 : Int32)) % (6 : Int32)), vR sa, vR fa, vI lo0, vI hi4, vI (hi4 - lo0), vI (1 : Int32)] [])) := by
                          intro T46 vm46 X46 
                          have A47 := X46.at
                          refine Gets.via (fun _ k => (XS.iload A47 hx rfl (D at_316) rfl (XS.iconst A47 hx rfl (D at_318) k))) ?_
                          have j350 : ∀ (T48 : State) (vm48 : Vm) (X48 : Wk p l e RrmLaw s m #[(.int p0), (.int p1), (.int p2), (.int p3), (.int p4), (.int p5)] below meth cc x.cls Z a0 consts_1 h0 T48 h19 vm48 20 120), Gets p e below (Jvm.Ow.Out s Z consts_1 RrmLaw (QrmLaw Z p0 p1 p2 p3 p4 p5 h0)) (T48.setTop (mkF m 350 #[vI p0, vI p1, vI p2, vI p3, vI p4, vI p5, vR a1, vI ((p5 &&& (2147483647 : Int32)) % (6 : Int32)), vR sa, vR fa, vI lo0, vI hi4, vI (hi4 - lo0), vI (1 : Int32)] [])) := by
                            intro T48 vm48 X48 
                            have A49 := X48.at
                            refine Gets.via (fun _ k => (XS.iload A49 hx rfl (D at_350) rfl (XS.iconst A49 hx rfl (D at_352) k))) ?_
                            show Gets p e below _ (T48.setTop (mkF m 353 #[vI p0, vI p1, vI p2, vI p3, vI p4, vI p5, vR a1, vI ((p5 &&& (2147483647 : Int32)) % (6 : Int32)), vR sa, vR fa, vI lo0, vI hi4, vI (hi4 - lo0), vI (1 : Int32)] [(.int (2 : Int32)), (.int (hi4 - lo0))]))
                            have j384 : ∀ (T50 : State) (vm50 : Vm) (X50 : Wk p l e RrmLaw s m #[(.int p0), (.int p1), (.int p2), (.int p3), (.int p4), (.int p5)] below meth cc x.cls Z a0 consts_1 h0 T50 h19 vm50 20 120), Gets p e below (Jvm.Ow.Out s Z consts_1 RrmLaw (QrmLaw Z p0 p1 p2 p3 p4 p5 h0)) (T50.setTop (mkF m 384 #[vI p0, vI p1, vI p2, vI p3, vI p4, vI p5, vR a1, vI ((p5 &&& (2147483647 : Int32)) % (6 : Int32)), vR sa, vR fa, vI lo0, vI hi4, vI (hi4 - lo0), vI (1 : Int32)] [])) := by
                              intro T50 vm50 X50 
                              have A51 := X50.at
                              refine Gets.via (fun _ k => (XS.iload A51 hx rfl (D at_384) rfl (XS.iconst A51 hx rfl (D at_386) k))) ?_
                              have j418 : ∀ (T52 : State) (vm52 : Vm) (X52 : Wk p l e RrmLaw s m #[(.int p0), (.int p1), (.int p2), (.int p3), (.int p4), (.int p5)] below meth cc x.cls Z a0 consts_1 h0 T52 h19 vm52 20 120), Gets p e below (Jvm.Ow.Out s Z consts_1 RrmLaw (QrmLaw Z p0 p1 p2 p3 p4 p5 h0)) (T52.setTop (mkF m 418 #[vI p0, vI p1, vI p2, vI p3, vI p4, vI p5, vR a1, vI ((p5 &&& (2147483647 : Int32)) % (6 : Int32)), vR sa, vR fa, vI lo0, vI hi4, vI (hi4 - lo0), vI (1 : Int32)] [])) := by
                                intro T52 vm52 X52 
                                have A53 := X52.at
                                refine Gets.via (fun _ k => (XS.iload A53 hx rfl (D at_418) rfl (XS.iconst A53 hx rfl (D at_420) k))) ?_
                                have j452 : ∀ (T54 : State) (vm54 : Vm) (X54 : Wk p l e RrmLaw s m #[(.int p0), (.int p1), (.int p2), (.int p3), (.int p4), (.int p5)] below meth cc x.cls Z a0 consts_1 h0 T54 h19 vm54 20 120), Gets p e below (Jvm.Ow.Out s Z consts_1 RrmLaw (QrmLaw Z p0 p1 p2 p3 p4 p5 h0)) (T54.setTop (mkF m 452 #[vI p0, vI p1, vI p2, vI p3, vI p4, vI p5, vR a1, vI ((p5 &&& (2147483647 : Int32)) % (6 : Int32)), vR sa, vR fa, vI lo0, vI hi4, vI (hi4 - lo0), vI (1 : Int32)] [])) := by
                                  intro T54 vm54 X54 
                                  have A55 := X54.at
                                  refine Gets.via (fun _ k => (XS.iload A55 hx rfl (D at_452) rfl k)) ?_
                                  exact X54.retI hret (by decide) (by simp) (D at_454) (by decide) (by decide) (fun vmE CE => ⟨rfl, ((((((((Keep.refl h0 []).ext E1).trans K4 (allS (Or.inr (leA (by omega))) all0)).trans K7 (allS (Or.inr (leA (by omega))) all0)).trans K10 (allS (Or.inr (leA (by omega))) all0)).trans K13 (allS (Or.inr (leA (by omega))) all0)).trans K16 (allS (Or.inr (leA (by omega))) all0)).trans K19 all0)⟩)
                                by_cases b421 : (4 : Int32) < (hi4 - lo0)
                                · refine Gets.via (fun _ k => (XS.icmpNo A53 hx rfl (D at_421) rfl (Jvm.Free.XT.ii_le_f b421) k)) ?_
                                  refine Gets.via (fun _ k => (XS.iload A53 hx rfl (D at_424) rfl (XS.ifNo A53 hx rfl (D at_426) rfl (Jvm.Free.XT.i0_eq_f (by decide)) k))) ?_
                                  refine Gets.via (fun _ k => (XS.aload A53 hx rfl (D at_429) rfl rfl (XS.iconst A53 hx rfl (D at_431) k))) ?_
                                  have g421 := hG.2 4 (by decide) b421
                                  refine X52.callV (W := 0) (w93 hw) (w53 hw) (w55 hw) (w54 hw) (nfs rfl (w55 hw)) (by decide) (payCh X52 hw (w10 hw) j19_0 O2 P5 O4 P6 (4) g421.1 rfl (by decide) (by decide)) j19_0.1 rfl (sz hml rfl) (argsL := [(.int (4 : Int32))]) (rest := []) (lenOf pd11 rfl) rfl rfl (mroom rfl rfl) (D at_432) (by decide) (by decide) fun T56 h56 vm56 v56 X56 C56 z56 q56 => ?_
                                  obtain ⟨rfl, K56⟩ := q56
                                  rw [K56] at X56 C56
                                  show Gets p e below _ (T56.setTop (mkF m 435 #[vI p0, vI p1, vI p2, vI p3, vI p4, vI p5, vR a1, vI ((p5 &&& (2147483647 : Int32)) % (6 : Int32)), vR sa, vR fa, vI lo0, vI hi4, vI (hi4 - lo0), vI (1 : Int32)] [(.int (ds.getD (4) 0))]))
                                  have A57 := X56.at
                                  refine Gets.via (fun _ k => (XS.aload A57 hx rfl (D at_435) rfl rfl (XS.iload A57 hx rfl (D at_437) rfl (XS.iconst A57 hx rfl (D at_439) (XS.iadd A57 hx rfl (D at_440) rfl k))))) ?_
                                  refine X56.ldC f23 (j := (lo0 + (4 : Int32))) (i := (lo0 + (4 : Int32)).toNatClampNeg) g421.2.1 rfl g421.2.2.1 (v := (.int ([r3, r6, r9, r12, r15].getD ((lo0 + (4 : Int32)).toNatClampNeg) 0))) (getD_map [r3, r6, r9, r12, r15] _ _) rfl rfl (D at_441) ?_
                                  refine Gets.via (fun _ k => (XS.icmpNo A57 hx rfl (D at_442) rfl (Jvm.Free.XT.ii_ne_f g421.2.2.2) k)) ?_
                                  refine Gets.via (fun _ k => (XS.iconst A57 hx rfl (D at_445) (XS.goto A57 hx rfl (pc0 := 446) (pc' := 450) rfl (D at_446) (by decide) (by decide) k))) ?_
                                  refine Gets.via (fun _ k => (XS.istore A57 hx rfl (D at_450) rfl (l' := #[vI p0, vI p1, vI p2, vI p3, vI p4, vI p5, vR a1, vI ((p5 &&& (2147483647 : Int32)) % (6 : Int32)), vR sa, vR fa, vI lo0, vI hi4, vI (hi4 - lo0), vI (1 : Int32)]) rfl k)) ?_
                                  exact j452 T56 vm56 X56
                                · refine Gets.via (fun _ k => (XS.icmpYes A53 hx rfl (pc0 := 421) (pc' := 452) rfl (D at_421) rfl (Jvm.Free.XT.ii_le_t b421) (by decide) (by decide) k)) ?_
                                  show Gets p e below _ (T52.setTop (mkF m 452 #[vI p0, vI p1, vI p2, vI p3, vI p4, vI p5, vR a1, vI ((p5 &&& (2147483647 : Int32)) % (6 : Int32)), vR sa, vR fa, vI lo0, vI hi4, vI (hi4 - lo0), vI (1 : Int32)] []))
                                  exact j452 T52 vm52 X52
                              by_cases b387 : (3 : Int32) < (hi4 - lo0)
                              · refine Gets.via (fun _ k => (XS.icmpNo A51 hx rfl (D at_387) rfl (Jvm.Free.XT.ii_le_f b387) k)) ?_
                                refine Gets.via (fun _ k => (XS.iload A51 hx rfl (D at_390) rfl (XS.ifNo A51 hx rfl (D at_392) rfl (Jvm.Free.XT.i0_eq_f (by decide)) k))) ?_
                                refine Gets.via (fun _ k => (XS.aload A51 hx rfl (D at_395) rfl rfl (XS.iconst A51 hx rfl (D at_397) k))) ?_
                                have g387 := hG.2 3 (by decide) b387
                                refine X50.callV (W := 0) (w93 hw) (w53 hw) (w55 hw) (w54 hw) (nfs rfl (w55 hw)) (by decide) (payCh X50 hw (w10 hw) j19_0 O2 P5 O4 P6 (3) g387.1 rfl (by decide) (by decide)) j19_0.1 rfl (sz hml rfl) (argsL := [(.int (3 : Int32))]) (rest := []) (lenOf pd11 rfl) rfl rfl (mroom rfl rfl) (D at_398) (by decide) (by decide) fun T58 h58 vm58 v58 X58 C58 z58 q58 => ?_
                                obtain ⟨rfl, K58⟩ := q58
                                rw [K58] at X58 C58
                                have A59 := X58.at
                                refine Gets.via (fun _ k => (XS.aload A59 hx rfl (D at_401) rfl rfl (XS.iload A59 hx rfl (D at_403) rfl (XS.iconst A59 hx rfl (D at_405) (XS.iadd A59 hx rfl (D at_406) rfl k))))) ?_
                                show Gets p e below _ (T58.setTop (mkF m 407 #[vI p0, vI p1, vI p2, vI p3, vI p4, vI p5, vR a1, vI ((p5 &&& (2147483647 : Int32)) % (6 : Int32)), vR sa, vR fa, vI lo0, vI hi4, vI (hi4 - lo0), vI (1 : Int32)] [(.int (lo0 + (3 : Int32))), (.ref a1), (.int (ds.getD (3) 0))]))
                                refine X58.ldC f23 (j := (lo0 + (3 : Int32))) (i := (lo0 + (3 : Int32)).toNatClampNeg) g387.2.1 rfl g387.2.2.1 (v := (.int ([r3, r6, r9, r12, r15].getD ((lo0 + (3 : Int32)).toNatClampNeg) 0))) (getD_map [r3, r6, r9, r12, r15] _ _) rfl rfl (D at_407) ?_
                                refine Gets.via (fun _ k => (XS.icmpNo A59 hx rfl (D at_408) rfl (Jvm.Free.XT.ii_ne_f g387.2.2.2) k)) ?_
                                refine Gets.via (fun _ k => (XS.iconst A59 hx rfl (D at_411) (XS.goto A59 hx rfl (pc0 := 412) (pc' := 416) rfl (D at_412) (by decide) (by decide) k))) ?_
                                refine Gets.via (fun _ k => (XS.istore A59 hx rfl (D at_416) rfl (l' := #[vI p0, vI p1, vI p2, vI p3, vI p4, vI p5, vR a1, vI ((p5 &&& (2147483647 : Int32)) % (6 : Int32)), vR sa, vR fa, vI lo0, vI hi4, vI (hi4 - lo0), vI (1 : Int32)]) rfl k)) ?_
                                exact j418 T58 vm58 X58
                              · refine Gets.via (fun _ k => (XS.icmpYes A51 hx rfl (pc0 := 387) (pc' := 418) rfl (D at_387) rfl (Jvm.Free.XT.ii_le_t b387) (by decide) (by decide) k)) ?_
                                exact j418 T50 vm50 X50
                            by_cases b353 : (2 : Int32) < (hi4 - lo0)
                            · refine Gets.via (fun _ k => (XS.icmpNo A49 hx rfl (D at_353) rfl (Jvm.Free.XT.ii_le_f b353) k)) ?_
                              refine Gets.via (fun _ k => (XS.iload A49 hx rfl (D at_356) rfl (XS.ifNo A49 hx rfl (D at_358) rfl (Jvm.Free.XT.i0_eq_f (by decide)) k))) ?_
                              refine Gets.via (fun _ k => (XS.aload A49 hx rfl (D at_361) rfl rfl (XS.iconst A49 hx rfl (D at_363) k))) ?_
                              show Gets p e below _ (T48.setTop (mkF m 364 #[vI p0, vI p1, vI p2, vI p3, vI p4, vI p5, vR a1, vI ((p5 &&& (2147483647 : Int32)) % (6 : Int32)), vR sa, vR fa, vI lo0, vI hi4, vI (hi4 - lo0), vI (1 : Int32)] [(.int (2 : Int32)), (.ref fa)]))
                              have g353 := hG.2 2 (by decide) b353
                              refine X48.callV (W := 0) (w93 hw) (w53 hw) (w55 hw) (w54 hw) (nfs rfl (w55 hw)) (by decide) (payCh X48 hw (w10 hw) j19_0 O2 P5 O4 P6 (2) g353.1 rfl (by decide) (by decide)) j19_0.1 rfl (sz hml rfl) (argsL := [(.int (2 : Int32))]) (rest := []) (lenOf pd11 rfl) rfl rfl (mroom rfl rfl) (D at_364) (by decide) (by decide) fun T60 h60 vm60 v60 X60 C60 z60 q60 => ?_
                              obtain ⟨rfl, K60⟩ := q60
                              rw [K60] at X60 C60
                              have A61 := X60.at
                              refine Gets.via (fun _ k => (XS.aload A61 hx rfl (D at_367) rfl rfl (XS.iload A61 hx rfl (D at_369) rfl (XS.iconst A61 hx rfl (D at_371) (XS.iadd A61 hx rfl (D at_372) rfl k))))) ?_
                              refine X60.ldC f23 (j := (lo0 + (2 : Int32))) (i := (lo0 + (2 : Int32)).toNatClampNeg) g353.2.1 rfl g353.2.2.1 (v := (.int ([r3, r6, r9, r12, r15].getD ((lo0 + (2 : Int32)).toNatClampNeg) 0))) (getD_map [r3, r6, r9, r12, r15] _ _) rfl rfl (D at_373) ?_
                              refine Gets.via (fun _ k => (XS.icmpNo A61 hx rfl (D at_374) rfl (Jvm.Free.XT.ii_ne_f g353.2.2.2) k)) ?_
                              refine Gets.via (fun _ k => (XS.iconst A61 hx rfl (D at_377) (XS.goto A61 hx rfl (pc0 := 378) (pc' := 382) rfl (D at_378) (by decide) (by decide) k))) ?_
                              show Gets p e below _ (T60.setTop (mkF m 382 #[vI p0, vI p1, vI p2, vI p3, vI p4, vI p5, vR a1, vI ((p5 &&& (2147483647 : Int32)) % (6 : Int32)), vR sa, vR fa, vI lo0, vI hi4, vI (hi4 - lo0), vI (1 : Int32)] [(.int (1 : Int32))]))
                              refine Gets.via (fun _ k => (XS.istore A61 hx rfl (D at_382) rfl (l' := #[vI p0, vI p1, vI p2, vI p3, vI p4, vI p5, vR a1, vI ((p5 &&& (2147483647 : Int32)) % (6 : Int32)), vR sa, vR fa, vI lo0, vI hi4, vI (hi4 - lo0), vI (1 : Int32)]) rfl k)) ?_
                              exact j384 T60 vm60 X60
                            · refine Gets.via (fun _ k => (XS.icmpYes A49 hx rfl (pc0 := 353) (pc' := 384) rfl (D at_353) rfl (Jvm.Free.XT.ii_le_t b353) (by decide) (by decide) k)) ?_
                              exact j384 T48 vm48 X48
                          by_cases b319 : (1 : Int32) < (hi4 - lo0)
                          · refine Gets.via (fun _ k => (XS.icmpNo A47 hx rfl (D at_319) rfl (Jvm.Free.XT.ii_le_f b319) k)) ?_
                            refine Gets.via (fun _ k => (XS.iload A47 hx rfl (D at_322) rfl (XS.ifNo A47 hx rfl (D at_324) rfl (Jvm.Free.XT.i0_eq_f (by decide)) k))) ?_
                            refine Gets.via (fun _ k => (XS.aload A47 hx rfl (D at_327) rfl rfl (XS.iconst A47 hx rfl (D at_329) k))) ?_
                            have g319 := hG.2 1 (by decide) b319
                            refine X46.callV (W := 0) (w93 hw) (w53 hw) (w55 hw) (w54 hw) (nfs rfl (w55 hw)) (by decide) (payCh X46 hw (w10 hw) j19_0 O2 P5 O4 P6 (1) g319.1 rfl (by decide) (by decide)) j19_0.1 rfl (sz hml rfl) (argsL := [(.int (1 : Int32))]) (rest := []) (lenOf pd11 rfl) rfl rfl (mroom rfl rfl) (D at_330) (by decide) (by decide) fun T62 h62 vm62 v62 X62 C62 z62 q62 => ?_
                            obtain ⟨rfl, K62⟩ := q62
                            rw [K62] at X62 C62
                            have A63 := X62.at
                            refine Gets.via (fun _ k => (XS.aload A63 hx rfl (D at_333) rfl rfl (XS.iload A63 hx rfl (D at_335) rfl (XS.iconst A63 hx rfl (D at_337) (XS.iadd A63 hx rfl (D at_338) rfl k))))) ?_
                            show Gets p e below _ (T62.setTop (mkF m 339 #[vI p0, vI p1, vI p2, vI p3, vI p4, vI p5, vR a1, vI ((p5 &&& (2147483647 : Int32)) % (6 : Int32)), vR sa, vR fa, vI lo0, vI hi4, vI (hi4 - lo0), vI (1 : Int32)] [(.int (lo0 + (1 : Int32))), (.ref a1), (.int (ds.getD (1) 0))]))
                            refine X62.ldC f23 (j := (lo0 + (1 : Int32))) (i := (lo0 + (1 : Int32)).toNatClampNeg) g319.2.1 rfl g319.2.2.1 (v := (.int ([r3, r6, r9, r12, r15].getD ((lo0 + (1 : Int32)).toNatClampNeg) 0))) (getD_map [r3, r6, r9, r12, r15] _ _) rfl rfl (D at_339) ?_
                            refine Gets.via (fun _ k => (XS.icmpNo A63 hx rfl (D at_340) rfl (Jvm.Free.XT.ii_ne_f g319.2.2.2) k)) ?_
                            refine Gets.via (fun _ k => (XS.iconst A63 hx rfl (D at_343) (XS.goto A63 hx rfl (pc0 := 344) (pc' := 348) rfl (D at_344) (by decide) (by decide) k))) ?_
                            refine Gets.via (fun _ k => (XS.istore A63 hx rfl (D at_348) rfl (l' := #[vI p0, vI p1, vI p2, vI p3, vI p4, vI p5, vR a1, vI ((p5 &&& (2147483647 : Int32)) % (6 : Int32)), vR sa, vR fa, vI lo0, vI hi4, vI (hi4 - lo0), vI (1 : Int32)]) rfl k)) ?_
                            exact j350 T62 vm62 X62
                          · refine Gets.via (fun _ k => (XS.icmpYes A47 hx rfl (pc0 := 319) (pc' := 350) rfl (D at_319) rfl (Jvm.Free.XT.ii_le_t b319) (by decide) (by decide) k)) ?_
                            exact j350 T46 vm46 X46
                        by_cases b287 : (0 : Int32) < (hi4 - lo0)
                        · refine Gets.via (fun _ k => (XS.ifNo A45 hx rfl (D at_287) rfl (Jvm.Free.XT.i0_le_f b287) k)) ?_
                          refine Gets.via (fun _ k => (XS.iload A45 hx rfl (D at_290) rfl (XS.ifNo A45 hx rfl (D at_292) rfl (Jvm.Free.XT.i0_eq_f (by decide)) k))) ?_
                          refine Gets.via (fun _ k => (XS.aload A45 hx rfl (D at_295) rfl rfl (XS.iconst A45 hx rfl (D at_297) k))) ?_
                          show Gets p e below _ (T44.setTop (mkF m 298 #[vI p0, vI p1, vI p2, vI p3, vI p4, vI p5, vR a1, vI ((p5 &&& (2147483647 : Int32)) % (6 : Int32)), vR sa, vR fa, vI lo0, vI hi4, vI (hi4 - lo0), vI (1 : Int32)] [(.int (0 : Int32)), (.ref fa)]))
                          have g287 := hG.2 0 (by decide) b287
                          rw [show lo0 + Int32.ofNat 0 = lo0 from Int32.add_zero _] at g287
                          refine X44.callV (W := 0) (w93 hw) (w53 hw) (w55 hw) (w54 hw) (nfs rfl (w55 hw)) (by decide) (payCh X44 hw (w10 hw) j19_0 O2 P5 O4 P6 (0) g287.1 rfl (by decide) (by decide)) j19_0.1 rfl (sz hml rfl) (argsL := [(.int (0 : Int32))]) (rest := []) (lenOf pd11 rfl) rfl rfl (mroom rfl rfl) (D at_298) (by decide) (by decide) fun T64 h64 vm64 v64 X64 C64 z64 q64 => ?_
                          obtain ⟨rfl, K64⟩ := q64
                          rw [K64] at X64 C64
                          have A65 := X64.at
                          refine Gets.via (fun _ k => (XS.aload A65 hx rfl (D at_301) rfl rfl (XS.iload A65 hx rfl (D at_303) rfl k))) ?_
                          refine X64.ldC f23 (j := lo0) (i := lo0.toNatClampNeg) g287.2.1 rfl g287.2.2.1 (v := (.int ([r3, r6, r9, r12, r15].getD (lo0.toNatClampNeg) 0))) (getD_map [r3, r6, r9, r12, r15] _ _) rfl rfl (D at_305) ?_
                          refine Gets.via (fun _ k => (XS.icmpNo A65 hx rfl (D at_306) rfl (Jvm.Free.XT.ii_ne_f g287.2.2.2) k)) ?_
                          refine Gets.via (fun _ k => (XS.iconst A65 hx rfl (D at_309) (XS.goto A65 hx rfl (pc0 := 310) (pc' := 314) rfl (D at_310) (by decide) (by decide) k))) ?_
                          refine Gets.via (fun _ k => (XS.istore A65 hx rfl (D at_314) rfl (l' := #[vI p0, vI p1, vI p2, vI p3, vI p4, vI p5, vR a1, vI ((p5 &&& (2147483647 : Int32)) % (6 : Int32)), vR sa, vR fa, vI lo0, vI hi4, vI (hi4 - lo0), vI (1 : Int32)]) rfl k)) ?_
                          show Gets p e below _ (T64.setTop (mkF m 316 #[vI p0, vI p1, vI p2, vI p3, vI p4, vI p5, vR a1, vI ((p5 &&& (2147483647 : Int32)) % (6 : Int32)), vR sa, vR fa, vI lo0, vI hi4, vI (hi4 - lo0), vI (1 : Int32)] []))
                          exact j316 T64 vm64 X64
                        · refine Gets.via (fun _ k => (XS.ifYes A45 hx rfl (pc0 := 287) (pc' := 316) rfl (D at_287) rfl (Jvm.Free.XT.i0_le_t b287) (by decide) (by decide) k)) ?_
                          exact j316 T44 vm44 X44
                      by_cases b247 : (4 : Int32) < ((p5 &&& (2147483647 : Int32)) % (6 : Int32))
                      · refine Gets.via (fun _ k => (XS.icmpNo A41 hx rfl (D at_247) rfl (Jvm.Free.XT.ii_le_f b247) k)) ?_
                        refine Gets.via (fun _ k => (XS.aload A41 hx rfl (D at_250) rfl rfl (XS.iconst A41 hx rfl (D at_252) k))) ?_
                        refine X40.ldC f23 (i := 4) (by decide) (by decide) (by decide) rfl rfl rfl (D at_253) ?_
                        refine X40.callS (W := 0) (w89 hw) (w90 hw) (w3 hw) (w91 hw) (by decide) (X40.payM (sf := []) (rmSp hc r15 h19 X40.old ) sf0 (w91 hw) (w3 hw) (by decide) (by decide)) rfl (sz hml rfl) (argsL := [(.int r15)]) (rest := []) (lenOf pd12 rfl) rfl rfl (mroom rfl rfl) (D at_254) (by decide) (by decide) fun T66 h66 vm66 v66 X66 C66 z66 q66 => ?_
                        obtain ⟨r66, rfl, K66, rfl⟩ := q66
                        rw [K66] at X66 C66
                        by_cases b257 : (if sp r15 = true then 1 else 0) = (0 : Int32)
                        · have A67 := X66.at
                          refine Gets.via (fun _ k => (XS.ifNo A67 hx rfl (D at_257) rfl (Jvm.Free.XT.i0_ne_f b257) k)) ?_
                          refine Gets.via (fun _ k => (XS.iconst A67 hx rfl (D at_260) (XS.istore A67 hx rfl (D at_261) rfl (l' := #[vI p0, vI p1, vI p2, vI p3, vI p4, vI p5, vR a1, vI ((p5 &&& (2147483647 : Int32)) % (6 : Int32)), vR sa, vR fa, vI lo0, vI (5 : Int32), .unset, .unset]) rfl k))) ?_
                          show Gets p e below _ (T66.setTop (mkF m 263 #[vI p0, vI p1, vI p2, vI p3, vI p4, vI p5, vR a1, vI ((p5 &&& (2147483647 : Int32)) % (6 : Int32)), vR sa, vR fa, vI lo0, vI (5 : Int32), .unset, .unset] []))
                          exact j263 T66 vm66 X66 _ (if_pos ⟨b247, sp_no b257⟩).symm
                        · have A68 := X66.at
                          refine Gets.via (fun _ k => (XS.ifYes A68 hx rfl (pc0 := 257) (pc' := 263) rfl (D at_257) rfl (Jvm.Free.XT.i0_ne_t b257) (by decide) (by decide) k)) ?_
                          exact j263 T66 vm66 X66 _ (if_neg fun q => q.2 (sp_yes b257)).symm
                      · refine Gets.via (fun _ k => (XS.icmpYes A41 hx rfl (pc0 := 247) (pc' := 263) rfl (D at_247) rfl (Jvm.Free.XT.ii_le_t b247) (by decide) (by decide) k)) ?_
                        exact j263 T40 vm40 X40 _ (if_neg fun q => b247 q.1).symm
                    by_cases b228 : (3 : Int32) < ((p5 &&& (2147483647 : Int32)) % (6 : Int32))
                    · refine Gets.via (fun _ k => (XS.icmpNo A39 hx rfl (D at_228) rfl (Jvm.Free.XT.ii_le_f b228) k)) ?_
                      refine Gets.via (fun _ k => (XS.aload A39 hx rfl (D at_231) rfl rfl (XS.iconst A39 hx rfl (D at_233) k))) ?_
                      refine X38.ldC f23 (i := 3) (by decide) (by decide) (by decide) rfl rfl rfl (D at_234) ?_
                      refine X38.callS (W := 0) (w89 hw) (w90 hw) (w3 hw) (w91 hw) (by decide) (X38.payM (sf := []) (rmSp hc r12 h19 X38.old ) sf0 (w91 hw) (w3 hw) (by decide) (by decide)) rfl (sz hml rfl) (argsL := [(.int r12)]) (rest := []) (lenOf pd12 rfl) rfl rfl (mroom rfl rfl) (D at_235) (by decide) (by decide) fun T69 h69 vm69 v69 X69 C69 z69 q69 => ?_
                      obtain ⟨r69, rfl, K69, rfl⟩ := q69
                      rw [K69] at X69 C69
                      by_cases b238 : (if sp r12 = true then 1 else 0) = (0 : Int32)
                      · have A70 := X69.at
                        refine Gets.via (fun _ k => (XS.ifNo A70 hx rfl (D at_238) rfl (Jvm.Free.XT.i0_ne_f b238) k)) ?_
                        show Gets p e below _ (T69.setTop (mkF m 241 #[vI p0, vI p1, vI p2, vI p3, vI p4, vI p5, vR a1, vI ((p5 &&& (2147483647 : Int32)) % (6 : Int32)), vR sa, vR fa, vI lo0, vI hi2, .unset, .unset] []))
                        refine Gets.via (fun _ k => (XS.iconst A70 hx rfl (D at_241) (XS.istore A70 hx rfl (D at_242) rfl (l' := #[vI p0, vI p1, vI p2, vI p3, vI p4, vI p5, vR a1, vI ((p5 &&& (2147483647 : Int32)) % (6 : Int32)), vR sa, vR fa, vI lo0, vI (4 : Int32), .unset, .unset]) rfl k))) ?_
                        exact j244 T69 vm69 X69 _ (if_pos ⟨b228, sp_no b238⟩).symm
                      · have A71 := X69.at
                        refine Gets.via (fun _ k => (XS.ifYes A71 hx rfl (pc0 := 238) (pc' := 244) rfl (D at_238) rfl (Jvm.Free.XT.i0_ne_t b238) (by decide) (by decide) k)) ?_
                        exact j244 T69 vm69 X69 _ (if_neg fun q => q.2 (sp_yes b238)).symm
                    · refine Gets.via (fun _ k => (XS.icmpYes A39 hx rfl (pc0 := 228) (pc' := 244) rfl (D at_228) rfl (Jvm.Free.XT.ii_le_t b228) (by decide) (by decide) k)) ?_
                      exact j244 T38 vm38 X38 _ (if_neg fun q => b228 q.1).symm
                  by_cases b209 : (2 : Int32) < ((p5 &&& (2147483647 : Int32)) % (6 : Int32))
                  · refine Gets.via (fun _ k => (XS.icmpNo A37 hx rfl (D at_209) rfl (Jvm.Free.XT.ii_le_f b209) k)) ?_
                    refine Gets.via (fun _ k => (XS.aload A37 hx rfl (D at_212) rfl rfl (XS.iconst A37 hx rfl (D at_214) k))) ?_
                    refine X36.ldC f23 (i := 2) (by decide) (by decide) (by decide) rfl rfl rfl (D at_215) ?_
                    refine X36.callS (W := 0) (w89 hw) (w90 hw) (w3 hw) (w91 hw) (by decide) (X36.payM (sf := []) (rmSp hc r9 h19 X36.old ) sf0 (w91 hw) (w3 hw) (by decide) (by decide)) rfl (sz hml rfl) (argsL := [(.int r9)]) (rest := []) (lenOf pd12 rfl) rfl rfl (mroom rfl rfl) (D at_216) (by decide) (by decide) fun T72 h72 vm72 v72 X72 C72 z72 q72 => ?_
                    obtain ⟨r72, rfl, K72, rfl⟩ := q72
                    rw [K72] at X72 C72
                    show Gets p e below _ (T72.setTop (mkF m 219 #[vI p0, vI p1, vI p2, vI p3, vI p4, vI p5, vR a1, vI ((p5 &&& (2147483647 : Int32)) % (6 : Int32)), vR sa, vR fa, vI lo0, vI hi1, .unset, .unset] [(.int (if sp r9 = true then 1 else 0))]))
                    by_cases b219 : (if sp r9 = true then 1 else 0) = (0 : Int32)
                    · have A73 := X72.at
                      refine Gets.via (fun _ k => (XS.ifNo A73 hx rfl (D at_219) rfl (Jvm.Free.XT.i0_ne_f b219) k)) ?_
                      refine Gets.via (fun _ k => (XS.iconst A73 hx rfl (D at_222) (XS.istore A73 hx rfl (D at_223) rfl (l' := #[vI p0, vI p1, vI p2, vI p3, vI p4, vI p5, vR a1, vI ((p5 &&& (2147483647 : Int32)) % (6 : Int32)), vR sa, vR fa, vI lo0, vI (3 : Int32), .unset, .unset]) rfl k))) ?_
                      exact j225 T72 vm72 X72 _ (if_pos ⟨b209, sp_no b219⟩).symm
                    · have A74 := X72.at
                      refine Gets.via (fun _ k => (XS.ifYes A74 hx rfl (pc0 := 219) (pc' := 225) rfl (D at_219) rfl (Jvm.Free.XT.i0_ne_t b219) (by decide) (by decide) k)) ?_
                      exact j225 T72 vm72 X72 _ (if_neg fun q => q.2 (sp_yes b219)).symm
                  · refine Gets.via (fun _ k => (XS.icmpYes A37 hx rfl (pc0 := 209) (pc' := 225) rfl (D at_209) rfl (Jvm.Free.XT.ii_le_t b209) (by decide) (by decide) k)) ?_
                    exact j225 T36 vm36 X36 _ (if_neg fun q => b209 q.1).symm
                by_cases b190 : (1 : Int32) < ((p5 &&& (2147483647 : Int32)) % (6 : Int32))
                · refine Gets.via (fun _ k => (XS.icmpNo A35 hx rfl (D at_190) rfl (Jvm.Free.XT.ii_le_f b190) k)) ?_
                  refine Gets.via (fun _ k => (XS.aload A35 hx rfl (D at_193) rfl rfl (XS.iconst A35 hx rfl (D at_195) k))) ?_
                  refine X34.ldC f23 (i := 1) (by decide) (by decide) (by decide) rfl rfl rfl (D at_196) ?_
                  refine X34.callS (W := 0) (w89 hw) (w90 hw) (w3 hw) (w91 hw) (by decide) (X34.payM (sf := []) (rmSp hc r6 h19 X34.old ) sf0 (w91 hw) (w3 hw) (by decide) (by decide)) rfl (sz hml rfl) (argsL := [(.int r6)]) (rest := []) (lenOf pd12 rfl) rfl rfl (mroom rfl rfl) (D at_197) (by decide) (by decide) fun T75 h75 vm75 v75 X75 C75 z75 q75 => ?_
                  obtain ⟨r75, rfl, K75, rfl⟩ := q75
                  rw [K75] at X75 C75
                  show Gets p e below _ (T75.setTop (mkF m 200 #[vI p0, vI p1, vI p2, vI p3, vI p4, vI p5, vR a1, vI ((p5 &&& (2147483647 : Int32)) % (6 : Int32)), vR sa, vR fa, vI lo0, vI hi0, .unset, .unset] [(.int (if sp r6 = true then 1 else 0))]))
                  by_cases b200 : (if sp r6 = true then 1 else 0) = (0 : Int32)
                  · have A76 := X75.at
                    refine Gets.via (fun _ k => (XS.ifNo A76 hx rfl (D at_200) rfl (Jvm.Free.XT.i0_ne_f b200) k)) ?_
                    refine Gets.via (fun _ k => (XS.iconst A76 hx rfl (D at_203) (XS.istore A76 hx rfl (D at_204) rfl (l' := #[vI p0, vI p1, vI p2, vI p3, vI p4, vI p5, vR a1, vI ((p5 &&& (2147483647 : Int32)) % (6 : Int32)), vR sa, vR fa, vI lo0, vI (2 : Int32), .unset, .unset]) rfl k))) ?_
                    exact j206 T75 vm75 X75 _ (if_pos ⟨b190, sp_no b200⟩).symm
                  · have A77 := X75.at
                    refine Gets.via (fun _ k => (XS.ifYes A77 hx rfl (pc0 := 200) (pc' := 206) rfl (D at_200) rfl (Jvm.Free.XT.i0_ne_t b200) (by decide) (by decide) k)) ?_
                    exact j206 T75 vm75 X75 _ (if_neg fun q => q.2 (sp_yes b200)).symm
                · refine Gets.via (fun _ k => (XS.icmpYes A35 hx rfl (pc0 := 190) (pc' := 206) rfl (D at_190) rfl (Jvm.Free.XT.ii_le_t b190) (by decide) (by decide) k)) ?_
                  exact j206 T34 vm34 X34 _ (if_neg fun q => b190 q.1).symm
              by_cases b171 : (0 : Int32) < ((p5 &&& (2147483647 : Int32)) % (6 : Int32))
              · refine Gets.via (fun _ k => (XS.ifNo A33 hx rfl (D at_171) rfl (Jvm.Free.XT.i0_le_f b171) k)) ?_
                refine Gets.via (fun _ k => (XS.aload A33 hx rfl (D at_174) rfl rfl (XS.iconst A33 hx rfl (D at_176) k))) ?_
                refine X32.ldC f23 (i := 0) (by decide) (by decide) (by decide) rfl rfl rfl (D at_177) ?_
                refine X32.callS (W := 0) (w89 hw) (w90 hw) (w3 hw) (w91 hw) (by decide) (X32.payM (sf := []) (rmSp hc r3 h19 X32.old ) sf0 (w91 hw) (w3 hw) (by decide) (by decide)) rfl (sz hml rfl) (argsL := [(.int r3)]) (rest := []) (lenOf pd12 rfl) rfl rfl (mroom rfl rfl) (D at_178) (by decide) (by decide) fun T78 h78 vm78 v78 X78 C78 z78 q78 => ?_
                obtain ⟨r78, rfl, K78, rfl⟩ := q78
                rw [K78] at X78 C78
                show Gets p e below _ (T78.setTop (mkF m 181 #[vI p0, vI p1, vI p2, vI p3, vI p4, vI p5, vR a1, vI ((p5 &&& (2147483647 : Int32)) % (6 : Int32)), vR sa, vR fa, vI lo0, vI lo0, .unset, .unset] [(.int (if sp r3 = true then 1 else 0))]))
                by_cases b181 : (if sp r3 = true then 1 else 0) = (0 : Int32)
                · have A79 := X78.at
                  refine Gets.via (fun _ k => (XS.ifNo A79 hx rfl (D at_181) rfl (Jvm.Free.XT.i0_ne_f b181) k)) ?_
                  refine Gets.via (fun _ k => (XS.iconst A79 hx rfl (D at_184) (XS.istore A79 hx rfl (D at_185) rfl (l' := #[vI p0, vI p1, vI p2, vI p3, vI p4, vI p5, vR a1, vI ((p5 &&& (2147483647 : Int32)) % (6 : Int32)), vR sa, vR fa, vI lo0, vI (1 : Int32), .unset, .unset]) rfl k))) ?_
                  exact j187 T78 vm78 X78 _ (if_pos ⟨b171, sp_no b181⟩).symm
                · have A80 := X78.at
                  refine Gets.via (fun _ k => (XS.ifYes A80 hx rfl (pc0 := 181) (pc' := 187) rfl (D at_181) rfl (Jvm.Free.XT.i0_ne_t b181) (by decide) (by decide) k)) ?_
                  exact j187 T78 vm78 X78 _ (if_neg fun q => q.2 (sp_yes b181)).symm
              · refine Gets.via (fun _ k => (XS.ifYes A33 hx rfl (pc0 := 171) (pc' := 187) rfl (D at_171) rfl (Jvm.Free.XT.i0_le_t b171) (by decide) (by decide) k)) ?_
                exact j187 T32 vm32 X32 _ (if_neg fun q => b171 q.1).symm
            by_cases b149 : (0 : Int32) < ((p5 &&& (2147483647 : Int32)) % (6 : Int32))
            · refine Gets.via (fun _ k => (XS.ifNo A31 hx rfl (D at_149) rfl (Jvm.Free.XT.i0_le_f b149) k)) ?_
              refine Gets.via (fun _ k => (XS.aload A31 hx rfl (D at_152) rfl rfl (XS.iconst A31 hx rfl (D at_154) k))) ?_
              refine X30.ldC f23 (i := 0) (by decide) (by decide) (by decide) rfl rfl rfl (D at_155) ?_
              refine X30.callS (W := 0) (w89 hw) (w90 hw) (w3 hw) (w91 hw) (by decide) (X30.payM (sf := []) (rmSp hc r3 h19 X30.old ) sf0 (w91 hw) (w3 hw) (by decide) (by decide)) rfl (sz hml rfl) (argsL := [(.int r3)]) (rest := []) (lenOf pd12 rfl) rfl rfl (mroom rfl rfl) (D at_156) (by decide) (by decide) fun T81 h81 vm81 v81 X81 C81 z81 q81 => ?_
              obtain ⟨r81, rfl, K81, rfl⟩ := q81
              rw [K81] at X81 C81
              show Gets p e below _ (T81.setTop (mkF m 159 #[vI p0, vI p1, vI p2, vI p3, vI p4, vI p5, vR a1, vI ((p5 &&& (2147483647 : Int32)) % (6 : Int32)), vR sa, vR fa, vI lo1, .unset, .unset, .unset] [(.int (if sp r3 = true then 1 else 0))]))
              by_cases b159 : (if sp r3 = true then 1 else 0) = (0 : Int32)
              · have A82 := X81.at
                refine Gets.via (fun _ k => (XS.ifNo A82 hx rfl (D at_159) rfl (Jvm.Free.XT.i0_ne_f b159) k)) ?_
                refine Gets.via (fun _ k => (XS.iconst A82 hx rfl (D at_162) (XS.istore A82 hx rfl (D at_163) rfl (l' := #[vI p0, vI p1, vI p2, vI p3, vI p4, vI p5, vR a1, vI ((p5 &&& (2147483647 : Int32)) % (6 : Int32)), vR sa, vR fa, vI (0 : Int32), .unset, .unset, .unset]) rfl k))) ?_
                exact j165 T81 vm81 X81 _ (if_pos ⟨b149, sp_no b159⟩).symm
              · have A83 := X81.at
                refine Gets.via (fun _ k => (XS.ifYes A83 hx rfl (pc0 := 159) (pc' := 165) rfl (D at_159) rfl (Jvm.Free.XT.i0_ne_t b159) (by decide) (by decide) k)) ?_
                exact j165 T81 vm81 X81 _ (if_neg fun q => q.2 (sp_yes b159)).symm
            · refine Gets.via (fun _ k => (XS.ifYes A31 hx rfl (pc0 := 149) (pc' := 165) rfl (D at_149) rfl (Jvm.Free.XT.i0_le_t b149) (by decide) (by decide) k)) ?_
              exact j165 T30 vm30 X30 _ (if_neg fun q => b149 q.1).symm
          by_cases b131 : (1 : Int32) < ((p5 &&& (2147483647 : Int32)) % (6 : Int32))
          · refine Gets.via (fun _ k => (XS.icmpNo A29 hx rfl (D at_131) rfl (Jvm.Free.XT.ii_le_f b131) k)) ?_
            refine Gets.via (fun _ k => (XS.aload A29 hx rfl (D at_134) rfl rfl (XS.iconst A29 hx rfl (D at_136) k))) ?_
            refine X28.ldC f23 (i := 1) (by decide) (by decide) (by decide) rfl rfl rfl (D at_137) ?_
            refine X28.callS (W := 0) (w89 hw) (w90 hw) (w3 hw) (w91 hw) (by decide) (X28.payM (sf := []) (rmSp hc r6 h19 X28.old ) sf0 (w91 hw) (w3 hw) (by decide) (by decide)) rfl (sz hml rfl) (argsL := [(.int r6)]) (rest := []) (lenOf pd12 rfl) rfl rfl (mroom rfl rfl) (D at_138) (by decide) (by decide) fun T84 h84 vm84 v84 X84 C84 z84 q84 => ?_
            obtain ⟨r84, rfl, K84, rfl⟩ := q84
            rw [K84] at X84 C84
            show Gets p e below _ (T84.setTop (mkF m 141 #[vI p0, vI p1, vI p2, vI p3, vI p4, vI p5, vR a1, vI ((p5 &&& (2147483647 : Int32)) % (6 : Int32)), vR sa, vR fa, vI lo2, .unset, .unset, .unset] [(.int (if sp r6 = true then 1 else 0))]))
            by_cases b141 : (if sp r6 = true then 1 else 0) = (0 : Int32)
            · have A85 := X84.at
              refine Gets.via (fun _ k => (XS.ifNo A85 hx rfl (D at_141) rfl (Jvm.Free.XT.i0_ne_f b141) k)) ?_
              refine Gets.via (fun _ k => (XS.iconst A85 hx rfl (D at_144) (XS.istore A85 hx rfl (D at_145) rfl (l' := #[vI p0, vI p1, vI p2, vI p3, vI p4, vI p5, vR a1, vI ((p5 &&& (2147483647 : Int32)) % (6 : Int32)), vR sa, vR fa, vI (1 : Int32), .unset, .unset, .unset]) rfl k))) ?_
              exact j147 T84 vm84 X84 _ (if_pos ⟨b131, sp_no b141⟩).symm
            · have A86 := X84.at
              refine Gets.via (fun _ k => (XS.ifYes A86 hx rfl (pc0 := 141) (pc' := 147) rfl (D at_141) rfl (Jvm.Free.XT.i0_ne_t b141) (by decide) (by decide) k)) ?_
              exact j147 T84 vm84 X84 _ (if_neg fun q => q.2 (sp_yes b141)).symm
          · refine Gets.via (fun _ k => (XS.icmpYes A29 hx rfl (pc0 := 131) (pc' := 147) rfl (D at_131) rfl (Jvm.Free.XT.ii_le_t b131) (by decide) (by decide) k)) ?_
            exact j147 T28 vm28 X28 _ (if_neg fun q => b131 q.1).symm
        by_cases b112 : (2 : Int32) < ((p5 &&& (2147483647 : Int32)) % (6 : Int32))
        · refine Gets.via (fun _ k => (XS.icmpNo A27 hx rfl (D at_112) rfl (Jvm.Free.XT.ii_le_f b112) k)) ?_
          refine Gets.via (fun _ k => (XS.aload A27 hx rfl (D at_115) rfl rfl (XS.iconst A27 hx rfl (D at_117) k))) ?_
          refine X26.ldC f23 (i := 2) (by decide) (by decide) (by decide) rfl rfl rfl (D at_118) ?_
          refine X26.callS (W := 0) (w89 hw) (w90 hw) (w3 hw) (w91 hw) (by decide) (X26.payM (sf := []) (rmSp hc r9 h19 X26.old ) sf0 (w91 hw) (w3 hw) (by decide) (by decide)) rfl (sz hml rfl) (argsL := [(.int r9)]) (rest := []) (lenOf pd12 rfl) rfl rfl (mroom rfl rfl) (D at_119) (by decide) (by decide) fun T87 h87 vm87 v87 X87 C87 z87 q87 => ?_
          obtain ⟨r87, rfl, K87, rfl⟩ := q87
          rw [K87] at X87 C87
          show Gets p e below _ (T87.setTop (mkF m 122 #[vI p0, vI p1, vI p2, vI p3, vI p4, vI p5, vR a1, vI ((p5 &&& (2147483647 : Int32)) % (6 : Int32)), vR sa, vR fa, vI lo3, .unset, .unset, .unset] [(.int (if sp r9 = true then 1 else 0))]))
          by_cases b122 : (if sp r9 = true then 1 else 0) = (0 : Int32)
          · have A88 := X87.at
            refine Gets.via (fun _ k => (XS.ifNo A88 hx rfl (D at_122) rfl (Jvm.Free.XT.i0_ne_f b122) k)) ?_
            refine Gets.via (fun _ k => (XS.iconst A88 hx rfl (D at_125) (XS.istore A88 hx rfl (D at_126) rfl (l' := #[vI p0, vI p1, vI p2, vI p3, vI p4, vI p5, vR a1, vI ((p5 &&& (2147483647 : Int32)) % (6 : Int32)), vR sa, vR fa, vI (2 : Int32), .unset, .unset, .unset]) rfl k))) ?_
            exact j128 T87 vm87 X87 _ (if_pos ⟨b112, sp_no b122⟩).symm
          · have A89 := X87.at
            refine Gets.via (fun _ k => (XS.ifYes A89 hx rfl (pc0 := 122) (pc' := 128) rfl (D at_122) rfl (Jvm.Free.XT.i0_ne_t b122) (by decide) (by decide) k)) ?_
            exact j128 T87 vm87 X87 _ (if_neg fun q => q.2 (sp_yes b122)).symm
        · refine Gets.via (fun _ k => (XS.icmpYes A27 hx rfl (pc0 := 112) (pc' := 128) rfl (D at_112) rfl (Jvm.Free.XT.ii_le_t b112) (by decide) (by decide) k)) ?_
          exact j128 T26 vm26 X26 _ (if_neg fun q => b112 q.1).symm
      by_cases b93 : (3 : Int32) < ((p5 &&& (2147483647 : Int32)) % (6 : Int32))
      · refine Gets.via (fun _ k => (XS.icmpNo A25 hx rfl (D at_93) rfl (Jvm.Free.XT.ii_le_f b93) k)) ?_
        refine Gets.via (fun _ k => (XS.aload A25 hx rfl (D at_96) rfl rfl (XS.iconst A25 hx rfl (D at_98) k))) ?_
        refine X24.ldC f23 (i := 3) (by decide) (by decide) (by decide) rfl rfl rfl (D at_99) ?_
        refine X24.callS (W := 0) (w89 hw) (w90 hw) (w3 hw) (w91 hw) (by decide) (X24.payM (sf := []) (rmSp hc r12 h19 X24.old ) sf0 (w91 hw) (w3 hw) (by decide) (by decide)) rfl (sz hml rfl) (argsL := [(.int r12)]) (rest := []) (lenOf pd12 rfl) rfl rfl (mroom rfl rfl) (D at_100) (by decide) (by decide) fun T90 h90 vm90 v90 X90 C90 z90 q90 => ?_
        obtain ⟨r90, rfl, K90, rfl⟩ := q90
        rw [K90] at X90 C90
        show Gets p e below _ (T90.setTop (mkF m 103 #[vI p0, vI p1, vI p2, vI p3, vI p4, vI p5, vR a1, vI ((p5 &&& (2147483647 : Int32)) % (6 : Int32)), vR sa, vR fa, vI lo4, .unset, .unset, .unset] [(.int (if sp r12 = true then 1 else 0))]))
        by_cases b103 : (if sp r12 = true then 1 else 0) = (0 : Int32)
        · have A91 := X90.at
          refine Gets.via (fun _ k => (XS.ifNo A91 hx rfl (D at_103) rfl (Jvm.Free.XT.i0_ne_f b103) k)) ?_
          refine Gets.via (fun _ k => (XS.iconst A91 hx rfl (D at_106) (XS.istore A91 hx rfl (D at_107) rfl (l' := #[vI p0, vI p1, vI p2, vI p3, vI p4, vI p5, vR a1, vI ((p5 &&& (2147483647 : Int32)) % (6 : Int32)), vR sa, vR fa, vI (3 : Int32), .unset, .unset, .unset]) rfl k))) ?_
          exact j109 T90 vm90 X90 _ (if_pos ⟨b93, sp_no b103⟩).symm
        · have A92 := X90.at
          refine Gets.via (fun _ k => (XS.ifYes A92 hx rfl (pc0 := 103) (pc' := 109) rfl (D at_103) rfl (Jvm.Free.XT.i0_ne_t b103) (by decide) (by decide) k)) ?_
          exact j109 T90 vm90 X90 _ (if_neg fun q => q.2 (sp_yes b103)).symm
      · refine Gets.via (fun _ k => (XS.icmpYes A25 hx rfl (pc0 := 93) (pc' := 109) rfl (D at_93) rfl (Jvm.Free.XT.ii_le_t b93) (by decide) (by decide) k)) ?_
        exact j109 T24 vm24 X24 _ (if_neg fun q => b93 q.1).symm
    by_cases b74 : (4 : Int32) < ((p5 &&& (2147483647 : Int32)) % (6 : Int32))
    · refine Gets.via (fun _ k => (XS.icmpNo A22 hx rfl (D at_74) rfl (Jvm.Free.XT.ii_le_f b74) k)) ?_
      refine Gets.via (fun _ k => (XS.aload A22 hx rfl (D at_77) rfl rfl (XS.iconst A22 hx rfl (D at_79) k))) ?_
      refine X19.ldC f23 (i := 4) (by decide) (by decide) (by decide) rfl rfl rfl (D at_80) ?_
      refine X19.callS (W := 0) (w89 hw) (w90 hw) (w3 hw) (w91 hw) (by decide) (X19.payM (sf := []) (rmSp hc r15 h19 X19.old ) sf0 (w91 hw) (w3 hw) (by decide) (by decide)) rfl (sz hml rfl) (argsL := [(.int r15)]) (rest := []) (lenOf pd12 rfl) rfl rfl (mroom rfl rfl) (D at_81) (by decide) (by decide) fun T93 h93 vm93 v93 X93 C93 z93 q93 => ?_
      obtain ⟨r93, rfl, K93, rfl⟩ := q93
      rw [K93] at X93 C93
      show Gets p e below _ (T93.setTop (mkF m 84 #[vI p0, vI p1, vI p2, vI p3, vI p4, vI p5, vR a1, vI ((p5 &&& (2147483647 : Int32)) % (6 : Int32)), vR sa, vR fa, vI ((p5 &&& (2147483647 : Int32)) % (6 : Int32)), .unset, .unset, .unset] [(.int (if sp r15 = true then 1 else 0))]))
      by_cases b84 : (if sp r15 = true then 1 else 0) = (0 : Int32)
      · have A94 := X93.at
        refine Gets.via (fun _ k => (XS.ifNo A94 hx rfl (D at_84) rfl (Jvm.Free.XT.i0_ne_f b84) k)) ?_
        refine Gets.via (fun _ k => (XS.iconst A94 hx rfl (D at_87) (XS.istore A94 hx rfl (D at_88) rfl (l' := #[vI p0, vI p1, vI p2, vI p3, vI p4, vI p5, vR a1, vI ((p5 &&& (2147483647 : Int32)) % (6 : Int32)), vR sa, vR fa, vI (4 : Int32), .unset, .unset, .unset]) rfl k))) ?_
        exact j90 T93 vm93 X93 _ (if_pos ⟨b74, sp_no b84⟩).symm
      · have A95 := X93.at
        refine Gets.via (fun _ k => (XS.ifYes A95 hx rfl (pc0 := 84) (pc' := 90) rfl (D at_84) rfl (Jvm.Free.XT.i0_ne_t b84) (by decide) (by decide) k)) ?_
        exact j90 T93 vm93 X93 _ (if_neg fun q => q.2 (sp_yes b84)).symm
    · refine Gets.via (fun _ k => (XS.icmpYes A22 hx rfl (pc0 := 74) (pc' := 90) rfl (D at_74) rfl (Jvm.Free.XT.ii_le_t b74) (by decide) (by decide) k)) ?_
      exact j90 T19 vm19 X19 _ (if_neg fun q => b74 q.1).symm
  rcases sz6 p5 with hs | hs | hs | hs | hs | hs
  · skip
    refine Gets.via (fun _ k => (XS.aload A17 hx rfl (D at_51) rfl rfl (XS.iload A17 hx rfl (D at_53) rfl k))) ?_
    refine X16.callS (W := 0) (w6 hw) (w7 hw) (w3 hw) (w8 hw) (by decide) (X16.payM (sf := []) (rmPre0 hc a1 ((p5 &&& (2147483647 : Int32)) % (6 : Int32)) k1 r3 r6 r9 r12 r15 h16 X16.old hs V16_) sf0 (w8 hw) (w3 hw) (by decide) (by decide)) rfl (sz hml rfl) (argsL := [(.ref a1), (.int ((p5 &&& (2147483647 : Int32)) % (6 : Int32)))]) (rest := []) (lenOf pd13 rfl) rfl rfl (mroom rfl rfl) (D at_55) (by decide) (by decide) fun T96 h96 vm96 v96 X96 C96 z96 q96 => ?_
    obtain ⟨a96, b96, kb96, rfl, K96, g96_0⟩ := q96
    have l97 := ltA g96_0.lt
    have l98 := ltA g96_0.lb
    have A99 := X96.at
    refine Gets.via (fun _ k => (XS.astore A99 hx rfl (D at_58) rfl rfl (l' := #[vI p0, vI p1, vI p2, vI p3, vI p4, vI p5, vR a1, vI ((p5 &&& (2147483647 : Int32)) % (6 : Int32)), vR a96, .unset, .unset, .unset, .unset, .unset]) rfl (XS.aload A99 hx rfl (D at_60) rfl rfl k))) ?_
    show Gets p e below _ (T96.setTop (mkF m 62 #[vI p0, vI p1, vI p2, vI p3, vI p4, vI p5, vR a1, vI ((p5 &&& (2147483647 : Int32)) % (6 : Int32)), vR a96, .unset, .unset, .unset, .unset, .unset] [(.ref a96)]))
    refine X96.callS (W := 0) (w38 hw) (w39 hw) (w40 hw) (w41 hw) (by decide) (X96.payM (sf := []) (rmWs0 hc a96 b96 kb96 h96 X96.old g96_0) sf0 (w41 hw) (w40 hw) (by decide) (by decide)) rfl (sz hml rfl) (argsL := [(.ref a96)]) (rest := []) (lenOf pd15 rfl) rfl rfl (mroom rfl rfl) (D at_62) (by decide) (by decide) fun T100 h100 vm100 v100 X100 C100 z100 q100 => ?_
    obtain ⟨a100, t100, kt100, ds100, rfl, K100, g100_0, g100_1⟩ := q100
    have l101 := ltA g100_0.lt
    have l102 := ltA g100_0.lb
    have A103 := X100.at
    refine Gets.via (fun _ k => (XS.astore A103 hx rfl (D at_65) rfl rfl (l' := #[vI p0, vI p1, vI p2, vI p3, vI p4, vI p5, vR a1, vI ((p5 &&& (2147483647 : Int32)) % (6 : Int32)), vR a96, vR a100, .unset, .unset, .unset, .unset]) rfl k)) ?_
    exact j67 T100 h100 vm100 a96 a100 t100 kt100 ds100 (X100.more (by decide) (by decide)) (((Keep.refl h16 []).trans K96 all0).trans K100 all0) g100_0 (by rw [hs]; exact g100_1)
  · skip
    refine Gets.via (fun _ k => (XS.aload A17 hx rfl (D at_51) rfl rfl (XS.iload A17 hx rfl (D at_53) rfl k))) ?_
    refine X16.callS (W := 0) (w6 hw) (w7 hw) (w3 hw) (w8 hw) (by decide) (X16.payM (sf := []) (rmPre1 hc a1 ((p5 &&& (2147483647 : Int32)) % (6 : Int32)) k1 r3 r6 r9 r12 r15 h16 X16.old hs V16_ g3_0) sf0 (w8 hw) (w3 hw) (by decide) (by decide)) rfl (sz hml rfl) (argsL := [(.ref a1), (.int ((p5 &&& (2147483647 : Int32)) % (6 : Int32)))]) (rest := []) (lenOf pd13 rfl) rfl rfl (mroom rfl rfl) (D at_55) (by decide) (by decide) fun T104 h104 vm104 v104 X104 C104 z104 q104 => ?_
    obtain ⟨a104, b104, kb104, rfl, K104, g104_0⟩ := q104
    have l105 := ltA g104_0.lt
    have l106 := ltA g104_0.lb
    have A107 := X104.at
    refine Gets.via (fun _ k => (XS.astore A107 hx rfl (D at_58) rfl rfl (l' := #[vI p0, vI p1, vI p2, vI p3, vI p4, vI p5, vR a1, vI ((p5 &&& (2147483647 : Int32)) % (6 : Int32)), vR a104, .unset, .unset, .unset, .unset, .unset]) rfl (XS.aload A107 hx rfl (D at_60) rfl rfl k))) ?_
    refine X104.callS (W := 0) (w38 hw) (w39 hw) (w40 hw) (w41 hw) (by decide) (X104.payM (sf := []) (rmWs1 hc a104 b104 kb104 r3 h104 X104.old g104_0) sf0 (w41 hw) (w40 hw) (by decide) (by decide)) rfl (sz hml rfl) (argsL := [(.ref a104)]) (rest := []) (lenOf pd15 rfl) rfl rfl (mroom rfl rfl) (D at_62) (by decide) (by decide) fun T108 h108 vm108 v108 X108 C108 z108 q108 => ?_
    obtain ⟨a108, t108, kt108, ds108, rfl, K108, g108_0, g108_1⟩ := q108
    have l109 := ltA g108_0.lt
    have l110 := ltA g108_0.lb
    show Gets p e below _ (T108.setTop (mkF m 65 #[vI p0, vI p1, vI p2, vI p3, vI p4, vI p5, vR a1, vI ((p5 &&& (2147483647 : Int32)) % (6 : Int32)), vR a104, .unset, .unset, .unset, .unset, .unset] [(.ref a108)]))
    have A111 := X108.at
    refine Gets.via (fun _ k => (XS.astore A111 hx rfl (D at_65) rfl rfl (l' := #[vI p0, vI p1, vI p2, vI p3, vI p4, vI p5, vR a1, vI ((p5 &&& (2147483647 : Int32)) % (6 : Int32)), vR a104, vR a108, .unset, .unset, .unset, .unset]) rfl k)) ?_
    exact j67 T108 h108 vm108 a104 a108 t108 kt108 ds108 (X108.more (by decide) (by decide)) (((Keep.refl h16 []).trans K104 all0).trans K108 all0) g108_0 (by rw [hs]; exact g108_1)
  · skip
    refine Gets.via (fun _ k => (XS.aload A17 hx rfl (D at_51) rfl rfl (XS.iload A17 hx rfl (D at_53) rfl k))) ?_
    refine X16.callS (W := 0) (w6 hw) (w7 hw) (w3 hw) (w8 hw) (by decide) (X16.payM (sf := []) (rmPre2 hc a1 ((p5 &&& (2147483647 : Int32)) % (6 : Int32)) k1 r3 r6 r9 r12 r15 h16 X16.old hs V16_ g3_0 g6_0) sf0 (w8 hw) (w3 hw) (by decide) (by decide)) rfl (sz hml rfl) (argsL := [(.ref a1), (.int ((p5 &&& (2147483647 : Int32)) % (6 : Int32)))]) (rest := []) (lenOf pd13 rfl) rfl rfl (mroom rfl rfl) (D at_55) (by decide) (by decide) fun T112 h112 vm112 v112 X112 C112 z112 q112 => ?_
    obtain ⟨a112, b112, kb112, rfl, K112, g112_0⟩ := q112
    have l113 := ltA g112_0.lt
    have l114 := ltA g112_0.lb
    have A115 := X112.at
    refine Gets.via (fun _ k => (XS.astore A115 hx rfl (D at_58) rfl rfl (l' := #[vI p0, vI p1, vI p2, vI p3, vI p4, vI p5, vR a1, vI ((p5 &&& (2147483647 : Int32)) % (6 : Int32)), vR a112, .unset, .unset, .unset, .unset, .unset]) rfl (XS.aload A115 hx rfl (D at_60) rfl rfl k))) ?_
    refine X112.callS (W := 0) (w38 hw) (w39 hw) (w40 hw) (w41 hw) (by decide) (X112.payM (sf := []) (rmWs2 hc a112 b112 kb112 r3 r6 h112 X112.old g112_0) sf0 (w41 hw) (w40 hw) (by decide) (by decide)) rfl (sz hml rfl) (argsL := [(.ref a112)]) (rest := []) (lenOf pd15 rfl) rfl rfl (mroom rfl rfl) (D at_62) (by decide) (by decide) fun T116 h116 vm116 v116 X116 C116 z116 q116 => ?_
    obtain ⟨a116, t116, kt116, ds116, rfl, K116, g116_0, g116_1⟩ := q116
    have l117 := ltA g116_0.lt
    have l118 := ltA g116_0.lb
    have A119 := X116.at
    refine Gets.via (fun _ k => (XS.astore A119 hx rfl (D at_65) rfl rfl (l' := #[vI p0, vI p1, vI p2, vI p3, vI p4, vI p5, vR a1, vI ((p5 &&& (2147483647 : Int32)) % (6 : Int32)), vR a112, vR a116, .unset, .unset, .unset, .unset]) rfl k)) ?_
    show Gets p e below _ (T116.setTop (mkF m 67 #[vI p0, vI p1, vI p2, vI p3, vI p4, vI p5, vR a1, vI ((p5 &&& (2147483647 : Int32)) % (6 : Int32)), vR a112, vR a116, .unset, .unset, .unset, .unset] []))
    exact j67 T116 h116 vm116 a112 a116 t116 kt116 ds116 (X116.more (by decide) (by decide)) (((Keep.refl h16 []).trans K112 all0).trans K116 all0) g116_0 (by rw [hs]; exact g116_1)
  · skip
    refine Gets.via (fun _ k => (XS.aload A17 hx rfl (D at_51) rfl rfl (XS.iload A17 hx rfl (D at_53) rfl k))) ?_
    refine X16.callS (W := 0) (w6 hw) (w7 hw) (w3 hw) (w8 hw) (by decide) (X16.payM (sf := []) (rmPre3 hc a1 ((p5 &&& (2147483647 : Int32)) % (6 : Int32)) k1 r3 r6 r9 r12 r15 h16 X16.old hs V16_ g3_0 g6_0 g9_0) sf0 (w8 hw) (w3 hw) (by decide) (by decide)) rfl (sz hml rfl) (argsL := [(.ref a1), (.int ((p5 &&& (2147483647 : Int32)) % (6 : Int32)))]) (rest := []) (lenOf pd13 rfl) rfl rfl (mroom rfl rfl) (D at_55) (by decide) (by decide) fun T120 h120 vm120 v120 X120 C120 z120 q120 => ?_
    obtain ⟨a120, b120, kb120, rfl, K120, g120_0⟩ := q120
    have l121 := ltA g120_0.lt
    have l122 := ltA g120_0.lb
    have A123 := X120.at
    refine Gets.via (fun _ k => (XS.astore A123 hx rfl (D at_58) rfl rfl (l' := #[vI p0, vI p1, vI p2, vI p3, vI p4, vI p5, vR a1, vI ((p5 &&& (2147483647 : Int32)) % (6 : Int32)), vR a120, .unset, .unset, .unset, .unset, .unset]) rfl (XS.aload A123 hx rfl (D at_60) rfl rfl k))) ?_
    refine X120.callS (W := 0) (w38 hw) (w39 hw) (w40 hw) (w41 hw) (by decide) (X120.payM (sf := []) (rmWs3 hc a120 b120 kb120 r3 r6 r9 h120 X120.old g120_0) sf0 (w41 hw) (w40 hw) (by decide) (by decide)) rfl (sz hml rfl) (argsL := [(.ref a120)]) (rest := []) (lenOf pd15 rfl) rfl rfl (mroom rfl rfl) (D at_62) (by decide) (by decide) fun T124 h124 vm124 v124 X124 C124 z124 q124 => ?_
    obtain ⟨a124, t124, kt124, ds124, rfl, K124, g124_0, g124_1⟩ := q124
    have l125 := ltA g124_0.lt
    have l126 := ltA g124_0.lb
    have A127 := X124.at
    refine Gets.via (fun _ k => (XS.astore A127 hx rfl (D at_65) rfl rfl (l' := #[vI p0, vI p1, vI p2, vI p3, vI p4, vI p5, vR a1, vI ((p5 &&& (2147483647 : Int32)) % (6 : Int32)), vR a120, vR a124, .unset, .unset, .unset, .unset]) rfl k)) ?_
    exact j67 T124 h124 vm124 a120 a124 t124 kt124 ds124 (X124.more (by decide) (by decide)) (((Keep.refl h16 []).trans K120 all0).trans K124 all0) g124_0 (by rw [hs]; exact g124_1)
  · skip
    refine Gets.via (fun _ k => (XS.aload A17 hx rfl (D at_51) rfl rfl (XS.iload A17 hx rfl (D at_53) rfl k))) ?_
    show Gets p e below _ (T16.setTop (mkF m 55 #[vI p0, vI p1, vI p2, vI p3, vI p4, vI p5, vR a1, vI ((p5 &&& (2147483647 : Int32)) % (6 : Int32)), .unset, .unset, .unset, .unset, .unset, .unset] [(.int ((p5 &&& (2147483647 : Int32)) % (6 : Int32))), (.ref a1)]))
    refine X16.callS (W := 0) (w6 hw) (w7 hw) (w3 hw) (w8 hw) (by decide) (X16.payM (sf := []) (rmPre4 hc a1 ((p5 &&& (2147483647 : Int32)) % (6 : Int32)) k1 r3 r6 r9 r12 r15 h16 X16.old hs V16_ g3_0 g6_0 g9_0 g12_0) sf0 (w8 hw) (w3 hw) (by decide) (by decide)) rfl (sz hml rfl) (argsL := [(.ref a1), (.int ((p5 &&& (2147483647 : Int32)) % (6 : Int32)))]) (rest := []) (lenOf pd13 rfl) rfl rfl (mroom rfl rfl) (D at_55) (by decide) (by decide) fun T128 h128 vm128 v128 X128 C128 z128 q128 => ?_
    obtain ⟨a128, b128, kb128, rfl, K128, g128_0⟩ := q128
    have l129 := ltA g128_0.lt
    have l130 := ltA g128_0.lb
    have A131 := X128.at
    refine Gets.via (fun _ k => (XS.astore A131 hx rfl (D at_58) rfl rfl (l' := #[vI p0, vI p1, vI p2, vI p3, vI p4, vI p5, vR a1, vI ((p5 &&& (2147483647 : Int32)) % (6 : Int32)), vR a128, .unset, .unset, .unset, .unset, .unset]) rfl (XS.aload A131 hx rfl (D at_60) rfl rfl k))) ?_
    refine X128.callS (W := 0) (w38 hw) (w39 hw) (w40 hw) (w41 hw) (by decide) (X128.payM (sf := []) (rmWs4 hc a128 b128 kb128 r3 r6 r9 r12 h128 X128.old g128_0) sf0 (w41 hw) (w40 hw) (by decide) (by decide)) rfl (sz hml rfl) (argsL := [(.ref a128)]) (rest := []) (lenOf pd15 rfl) rfl rfl (mroom rfl rfl) (D at_62) (by decide) (by decide) fun T132 h132 vm132 v132 X132 C132 z132 q132 => ?_
    obtain ⟨a132, t132, kt132, ds132, rfl, K132, g132_0, g132_1⟩ := q132
    have l133 := ltA g132_0.lt
    have l134 := ltA g132_0.lb
    have A135 := X132.at
    refine Gets.via (fun _ k => (XS.astore A135 hx rfl (D at_65) rfl rfl (l' := #[vI p0, vI p1, vI p2, vI p3, vI p4, vI p5, vR a1, vI ((p5 &&& (2147483647 : Int32)) % (6 : Int32)), vR a128, vR a132, .unset, .unset, .unset, .unset]) rfl k)) ?_
    exact j67 T132 h132 vm132 a128 a132 t132 kt132 ds132 (X132.more (by decide) (by decide)) (((Keep.refl h16 []).trans K128 all0).trans K132 all0) g132_0 (by rw [hs]; exact g132_1)
  · skip
    refine Gets.via (fun _ k => (XS.aload A17 hx rfl (D at_51) rfl rfl (XS.iload A17 hx rfl (D at_53) rfl k))) ?_
    refine X16.callS (W := 0) (w6 hw) (w7 hw) (w3 hw) (w8 hw) (by decide) (X16.payM (sf := []) (rmPre5 hc a1 ((p5 &&& (2147483647 : Int32)) % (6 : Int32)) k1 r3 r6 r9 r12 r15 h16 X16.old hs V16_ g3_0 g6_0 g9_0 g12_0 g15_0) sf0 (w8 hw) (w3 hw) (by decide) (by decide)) rfl (sz hml rfl) (argsL := [(.ref a1), (.int ((p5 &&& (2147483647 : Int32)) % (6 : Int32)))]) (rest := []) (lenOf pd13 rfl) rfl rfl (mroom rfl rfl) (D at_55) (by decide) (by decide) fun T136 h136 vm136 v136 X136 C136 z136 q136 => ?_
    obtain ⟨a136, b136, kb136, rfl, K136, g136_0⟩ := q136
    have l137 := ltA g136_0.lt
    have l138 := ltA g136_0.lb
    show Gets p e below _ (T136.setTop (mkF m 58 #[vI p0, vI p1, vI p2, vI p3, vI p4, vI p5, vR a1, vI ((p5 &&& (2147483647 : Int32)) % (6 : Int32)), .unset, .unset, .unset, .unset, .unset, .unset] [(.ref a136)]))
    have A139 := X136.at
    refine Gets.via (fun _ k => (XS.astore A139 hx rfl (D at_58) rfl rfl (l' := #[vI p0, vI p1, vI p2, vI p3, vI p4, vI p5, vR a1, vI ((p5 &&& (2147483647 : Int32)) % (6 : Int32)), vR a136, .unset, .unset, .unset, .unset, .unset]) rfl (XS.aload A139 hx rfl (D at_60) rfl rfl k))) ?_
    refine X136.callS (W := 0) (w38 hw) (w39 hw) (w40 hw) (w41 hw) (by decide) (X136.payM (sf := []) (rmWs5 hc a136 b136 kb136 r3 r6 r9 r12 r15 h136 X136.old g136_0) sf0 (w41 hw) (w40 hw) (by decide) (by decide)) rfl (sz hml rfl) (argsL := [(.ref a136)]) (rest := []) (lenOf pd15 rfl) rfl rfl (mroom rfl rfl) (D at_62) (by decide) (by decide) fun T140 h140 vm140 v140 X140 C140 z140 q140 => ?_
    obtain ⟨a140, t140, kt140, ds140, rfl, K140, g140_0, g140_1⟩ := q140
    have l141 := ltA g140_0.lt
    have l142 := ltA g140_0.lb
    have A143 := X140.at
    refine Gets.via (fun _ k => (XS.astore A143 hx rfl (D at_65) rfl rfl (l' := #[vI p0, vI p1, vI p2, vI p3, vI p4, vI p5, vR a1, vI ((p5 &&& (2147483647 : Int32)) % (6 : Int32)), vR a136, vR a140, .unset, .unset, .unset, .unset]) rfl k)) ?_
    exact j67 T140 h140 vm140 a136 a140 t140 kt140 ds140 (X140.more (by decide) (by decide)) (((Keep.refl h16 []).trans K136 all0).trans K140 all0) g140_0 (by rw [hs]; exact g140_1)
set_option maxRecDepth 65536 in
set_option maxHeartbeats 40000000 in
theorem comes_1 {Post : Tables → Env → Array Value → State → Outcome → State → Prop} (hpost : ∀ tb e args s v u, (limb_1_1.after args s (.returned v) u = true ∧ limb_1_2.after args s (.returned v) u = true ∧ True) → FramedW s (.returned v) u (Jvm.fieldLocs frame_1_writes args s ++ Jvm.arrayLocs frame_1_arrays args s ++ Jvm.staticLocs frame_1_statics s) 24 2176 → Post tb e args s (.returned v) u) :
    ArmFor flags0 classFile x code maxLocals ret World_1 tables_1 room_1 Calls_1 rest_1 Pre_1 Post := by
  intro l hfl _ _ p e ha hc hk s m args below hf hA hF happ hP
  obtain ⟨hcalls, hrest, hpre⟩ := hP
  obtain ⟨-, -, -, hnamed, -, -, -, hat⟩ := (Spec.applies_iff hf).mp happ
  obtain ⟨hg, hn⟩ := and_e (Cond.before_iff.mp (show (Jvm.Cond.and given_1 narrow_1).before args s = true from hpre))
  obtain ⟨h1, h2⟩ := and_e hg
  obtain ⟨w0, w1, w2, w3, w4, w5, rfl⟩ : ∃ w0 w1 w2 w3 w4 w5 : Value, args = #[w0, w1, w2, w3, w4, w5] := by
    have hs : args.size = 6 := by simpa [Cond.value, given_1] using h1
    obtain ⟨L⟩ := args
    match L, hs with
    | [w0, w1, w2, w3, w4, w5], _ => exact ⟨w0, w1, w2, w3, w4, w5, rfl⟩
  have hw := fun d (hd : d ∈ tables_1) => atoms_spec (ws := Jvm.Cond.code x code maxLocals ret :: tables_1) hat d (List.mem_cons_of_mem _ hd)
  obtain ⟨u0, r0⟩ := and_e h2
  obtain ⟨i0, e0⟩ := is_v u0
  obtain rfl : w0 = (.int i0) := Option.some.inj e0
  obtain ⟨u1, r1⟩ := and_e r0
  obtain ⟨i1, e1⟩ := is_v u1
  obtain rfl : w1 = (.int i1) := Option.some.inj e1
  obtain ⟨u2, r2⟩ := and_e r1
  obtain ⟨i2, e2⟩ := is_v u2
  obtain rfl : w2 = (.int i2) := Option.some.inj e2
  obtain ⟨u3, r3⟩ := and_e r2
  obtain ⟨i3, e3⟩ := is_v u3
  obtain rfl : w3 = (.int i3) := Option.some.inj e3
  obtain ⟨u4, r4⟩ := and_e r3
  obtain ⟨i4, e4⟩ := is_v u4
  obtain rfl : w4 = (.int i4) := Option.some.inj e4
  obtain ⟨i5, e5⟩ := is_v r4
  obtain rfl : w5 = (.int i5) := Option.some.inj e5
  obtain ⟨hst, hown0⟩ := atoms_of _ (rest_1_c_eq ▸ (show rest_1_c.before _ s = true from hrest))
  obtain ⟨zc, ez⟩ := is_v (Cond.before_iff.mp (hst _ (List.mem_of_getElem? (i := 1) rfl)))
  have O2 : Sta s s.heap "java/lang/String" "COMPACT_STRINGS" "Z" (.int zc) := Sta.start ez (Or.inl (hst _ (List.mem_of_getElem? (i := 0) rfl)))
  have P5 : ¬ zc = 0 := gotF (Cond.eq_ints ez (Term.int_eval (0))) (not_v (Cond.before_iff.mp (hst _ (List.mem_of_getElem? (i := 2) rfl))))
  have hEL : EW s _ consts_1 := (EW.cons (w119 hw) (by decide) (EW.cons (w122 hw) (by decide) EW.nil))
  have hCH : CHv s consts_1 s.vm s.heap := CHv.start hEL hcalls.1 (hst _ (List.mem_of_getElem? (i := 2) rfl)) (w27 hw) (w10 hw)
  obtain ⟨fm, v4, P6⟩ := isR_v (Cond.before_iff.mp (hst _ (List.mem_of_getElem? (i := 8) rfl)))
  have O4 : Sta s s.heap "jdk/internal/util/Preconditions" "SIOOBE_FORMATTER" "Ljava/util/function/BiFunction;" fm := Sta.start v4 (Or.inl (hst _ (List.mem_of_getElem? (i := 7) rfl)))
  obtain ⟨n, o, h1, h2, h3, v, L, rfl, ⟨⟨rfl, -⟩, N, -⟩, -, hq⟩ := rmLaw ⟨hw, hEL, O2, P5, O4, P6⟩ i0 i1 i2 i3 i4 i5 s.heap (Old.start s) p e ha hc hk s m _ below hf ((Spec.applies_iff_loose hf).mp happ).1 ⟨rfl, State.Warmed39.refl s, rfl, hCH, fun _ q => nomatch q⟩ trivial
  refine ⟨n, _, h1, h2, h3, hpost _ _ _ _ _ _ ⟨Cond.after_iff.mpr rfl, Cond.after_iff.mpr (eq_i res_at (Term.int_eval (1)) rfl), trivial⟩ ⟨hq.1, hq.2.1, hq.2.2.1, (hq.2.2.2.sift fun y hy => Or.inr (N y hy)).mono (by decide) (by decide)⟩⟩
theorem main_1_1 : Claimed_1_1 := comes_1 fun _ _ _ _ _ _ h hF => ⟨h.1, hF⟩
theorem main_1_2 : Claimed_1_2 := comes_1 fun _ _ _ _ _ _ h hF => ⟨h.2.1, hF⟩
end Jvm.Pilot.@@N@@
namespace Jvm.Pilot.@@N@@
open Jvm Jvm.ClassFile Sem Op Lib Jvm.Free Jvm.Stand Jvm.Pilot.@@N@@.Jvm.D
/-! MADE BY PROGRAM (witnessworld.py) out of the Statement's table words and the real class files: 24 classes; the members and pool entries that the words name. The judged class is class 1, her method 1. -/
namespace start1
open Jvm.ClassFile
def u (s : String) : CpInfo := .utf8 (stringToUtf16 s)
/-- a pool by its gaps: so many unusable entries, then the entry; so many at the end -/
def gap : Nat → List CpInfo → List CpInfo
  | 0, r => r
  | n + 1, r => .unusable :: gap n r
def poolList (es : List (Nat × CpInfo)) (last : Nat) : List CpInfo := es.foldr (fun e r => gap e.1 (e.2 :: r)) (gap last [])
def pool (es : List (Nat × CpInfo)) (last : Nat) : Array CpInfo := ⟨poolList es last⟩
def fileOf (pool : Array CpInfo) (this : Nat) (attrs : Array Attribute := #[]) (ms : Array MethodInfo := #[]) (fl : Nat := 33) (sup : Nat := 0) (ifs : Array Nat := #[]) (fds : Array FieldInfo := #[]) : ClassFile where
  minorVersion := 0
  majorVersion := 65
  constantPool := pool
  accessFlags := fl
  thisClass := this
  superClass := sup
  interfaces := ifs
  fields := fds
  methods := ms
  attributes := attrs
def plain (name : String) (sup : Option ClassId) : Class where
  name := name
  kind := .ordinary
  loader := none
  accessFlags := 33
  super := sup
  interfaces := #[]
  cf := none
  fields := #[]
  methods := #[]
  instanceTypes := #[]
  staticTypes := #[]
  resolved := #[]
  callSites := []
  init := .initialized
  statics := none
  mirror := none

def pool0 : Array CpInfo := pool [(5, u "<init>"), (0, u "()V"), (1, .class_ 10), (1, u "java/lang/Object")] 113

def k0c0 : Code := { maxStack := 0, maxLocals := 1, code := object_method_1_code, exceptionTable := #[], attributes := #[] }
def k0m0 : Method := { name := "<init>", desc := "()V", sig := { parameters := [], returnType := none }, accessFlags := 1, code := some k0c0 }
/-- java/lang/Object -/
def k0 : Class := { plain "java/lang/Object" none with
  accessFlags := 33
  interfaces := #[]
  cf := some (fileOf pool0 8 #[] #[{ accessFlags := 1, nameIndex := 5, descriptorIndex := 6, attributes := #[] }] 33 0 #[] #[])
  fields := #[]
  methods := #[k0m0]
  instanceTypes := #[]
  staticTypes := #[]
  resolved := Array.replicate 124 none
  statics := none }

def pool1 : Array CpInfo := pool [(2, .class_ 4), (1, u "java/lang/Object"), (0, u "<init>"), (0, u "()V"), (0, .methodref 8 9), (0, .class_ 10), (0, .nameAndType 11 12), (0, u "org/holdfast/model/ContentWithoutSpacePinLaw"), (0, u "ch"), (0, u "(I)C"), (0, .integer 2147483647), (0, .methodref 8 15), (0, .nameAndType 16 17), (0, u "prefix"), (0, u "([CI)Ljava/lang/String;"), (0, .methodref 19 20), (0, .class_ 21), (0, .nameAndType 22 23), (0, u "org/holdfast/model/Content"), (0, u "withoutSpace"), (0, u "(Ljava/lang/String;)Ljava/lang/String;"), (0, .methodref 8 25), (0, .nameAndType 26 27), (0, u "sp"), (0, u "(C)Z"), (0, .methodref 29 30), (0, .class_ 31), (0, .nameAndType 32 33), (0, u "java/lang/String"), (0, u "length"), (0, u "()I"), (0, .methodref 29 35), (0, .nameAndType 36 12), (0, u "charAt"), (0, .methodref 29 38), (0, .nameAndType 5 39), (0, u "([C)V"), (2, u "law"), (0, u "(IIIIII)Z")] 5

def k1m0 : Method := { name := "<init>", desc := "()V", sig := { parameters := [], returnType := none }, accessFlags := 1, code := none }
def k1c1 : Code := { maxStack := 4, maxLocals := 14, code := code, exceptionTable := #[], attributes := #[] }
def k1m1 : Method := { name := "law", desc := "(IIIIII)Z", sig := { parameters := [.int, .int, .int, .int, .int, .int], returnType := some .boolean }, accessFlags := 9, code := some k1c1 }
def k1c2 : Code := { maxStack := 2, maxLocals := 1, code := method_3_code, exceptionTable := #[], attributes := #[] }
def k1m2 : Method := { name := "sp", desc := "(C)Z", sig := { parameters := [.char], returnType := some .boolean }, accessFlags := 10, code := some k1c2 }
def k1c3 : Code := { maxStack := 2, maxLocals := 2, code := method_4_code, exceptionTable := #[], attributes := #[] }
def k1m3 : Method := { name := "ch", desc := "(I)C", sig := { parameters := [.int], returnType := some .char }, accessFlags := 10, code := some k1c3 }
def k1c4 : Code := { maxStack := 7, maxLocals := 2, code := method_5_code, exceptionTable := #[], attributes := #[] }
def k1m4 : Method := { name := "prefix", desc := "([CI)Ljava/lang/String;", sig := { parameters := [(.array .char), .int], returnType := some (.object "java/lang/String") }, accessFlags := 10, code := some k1c4 }
/-- org/holdfast/model/ContentWithoutSpacePinLaw -/
def k1 : Class := { plain "org/holdfast/model/ContentWithoutSpacePinLaw" (some 0) with
  accessFlags := 49
  interfaces := #[]
  cf := some (fileOf pool1 8 #[] #[{ accessFlags := 1, nameIndex := 5, descriptorIndex := 6, attributes := #[] }, { accessFlags := 9, nameIndex := 42, descriptorIndex := 43, attributes := #[] }, { accessFlags := 10, nameIndex := 26, descriptorIndex := 27, attributes := #[] }, { accessFlags := 10, nameIndex := 11, descriptorIndex := 12, attributes := #[] }, { accessFlags := 10, nameIndex := 16, descriptorIndex := 17, attributes := #[] }] 49 2 #[] #[])
  fields := #[]
  methods := #[k1m0, k1m1, k1m2, k1m3, k1m4]
  instanceTypes := #[]
  staticTypes := #[]
  resolved := Array.replicate 49 none
  statics := none }

def pool2 : Array CpInfo := pool [(1, .class_ 2), (0, u "java/io/Serializable"), (0, .class_ 4), (0, u "java/lang/Object")] 2

/-- java/io/Serializable -/
def k2 : Class := { plain "java/io/Serializable" (some 0) with
  accessFlags := 1537
  interfaces := #[]
  cf := some (fileOf pool2 1 #[] #[] 1537 3 #[] #[])
  fields := #[]
  methods := #[]
  instanceTypes := #[]
  staticTypes := #[]
  resolved := Array.replicate 7 none
  statics := none }

def pool3 : Array CpInfo := pool [(1, .class_ 2), (0, u "java/lang/Comparable"), (0, .class_ 4), (0, u "java/lang/Object")] 7

/-- java/lang/Comparable -/
def k3 : Class := { plain "java/lang/Comparable" (some 0) with
  accessFlags := 1537
  interfaces := #[]
  cf := some (fileOf pool3 1 #[] #[] 1537 3 #[] #[])
  fields := #[]
  methods := #[]
  instanceTypes := #[]
  staticTypes := #[]
  resolved := Array.replicate 12 none
  statics := none }

def pool4 : Array CpInfo := pool [(2, .class_ 4), (1, u "java/lang/CharSequence"), (42, .class_ 48), (0, u "java/lang/CharSequence$1CodePointIterator"), (10, .class_ 60), (0, u "java/lang/CharSequence$1CharIterator"), (5, .class_ 67), (0, u "java/lang/Object")] 63

/-- java/lang/CharSequence -/
def k4 : Class := { plain "java/lang/CharSequence" (some 0) with
  accessFlags := 1537
  interfaces := #[]
  cf := some (fileOf pool4 2 #[.nestMembers #[47, 59]] #[] 1537 66 #[] #[])
  fields := #[]
  methods := #[]
  instanceTypes := #[]
  staticTypes := #[]
  resolved := Array.replicate 131 none
  statics := none }

def pool5 : Array CpInfo := pool [(1, .class_ 2), (0, u "java/lang/constant/Constable"), (0, .class_ 4), (0, u "java/lang/Object")] 6

/-- java/lang/constant/Constable -/
def k5 : Class := { plain "java/lang/constant/Constable" (some 0) with
  accessFlags := 1537
  interfaces := #[]
  cf := some (fileOf pool5 1 #[] #[] 1537 3 #[] #[])
  fields := #[]
  methods := #[]
  instanceTypes := #[]
  staticTypes := #[]
  resolved := Array.replicate 11 none
  statics := none }

def pool6 : Array CpInfo := pool [(1, .class_ 2), (0, u "java/lang/constant/ConstantDesc"), (0, .class_ 4), (0, u "java/lang/Object")] 32

/-- java/lang/constant/ConstantDesc -/
def k6 : Class := { plain "java/lang/constant/ConstantDesc" (some 0) with
  accessFlags := 1537
  interfaces := #[]
  cf := some (fileOf pool6 1 #[] #[] 1537 3 #[] #[])
  fields := #[]
  methods := #[]
  instanceTypes := #[]
  staticTypes := #[]
  resolved := Array.replicate 37 none
  statics := none }

def pool7 : Array CpInfo := pool [(1, .methodref 2 3), (0, .class_ 4), (0, .nameAndType 5 6), (0, u "java/lang/Object"), (0, u "<init>"), (0, u "()V"), (0, .string 8), (0, u ""), (0, .fieldref 10 11), (0, .class_ 12), (0, .nameAndType 13 14), (0, u "java/lang/String"), (0, u "value"), (0, u "[B"), (0, .fieldref 10 16), (0, .nameAndType 17 18), (0, u "coder"), (0, u "B"), (2, u "hash"), (0, u "I"), (2, u "hashIsZero"), (0, u "Z"), (0, .methodref 10 28), (0, .nameAndType 5 29), (0, u "([CIILjava/lang/Void;)V"), (8, .fieldref 10 39), (0, .nameAndType 40 26), (0, u "COMPACT_STRINGS"), (1, .class_ 44), (1, u "java/lang/StringUTF16"), (0, u "compress"), (1, .methodref 42 48), (0, .nameAndType 49 50), (0, u "coderFromArrayLen"), (0, u "([BI)B"), (56, .class_ 109), (1, u "java/lang/StringLatin1"), (32, u "()Z"), (34, .methodref 42 178), (0, .nameAndType 45 179), (0, u "([CII)[B"), (31, u "([BB)V"), (122, u "()I"), (0, .methodref 10 336), (0, .nameAndType 17 337), (0, u "()B"), (25, u "([BI)C"), (27, u "(II)V"), (35, u "(I)C"), (64, .methodref 10 493), (0, .nameAndType 494 142), (0, u "isLatin1"), (0, .methodref 107 496), (0, .nameAndType 497 363), (0, u "charAt"), (3, u "checkIndex"), (3, .methodref 10 506), (0, .nameAndType 507 334), (0, u "length"), (5, u "checkFromToIndex"), (7, .methodref 10 522), (0, .nameAndType 523 524), (0, u "checkBoundsBeginEnd"), (0, u "(III)V"), (50, .class_ 576), (0, u "java/lang/CharSequence"), (22, u "CASE_INSENSITIVE_ORDER"), (0, u "Ljava/util/Comparator;"), (82, u "substring"), (0, u "(II)Ljava/lang/String;"), (0, .methodref 107 686), (0, .nameAndType 687 688), (0, u "newString"), (0, u "([BII)Ljava/lang/String;"), (321, u "([C)V"), (42, .fieldref 1054 1055), (0, .class_ 1056), (0, .nameAndType 1057 1058), (0, u "jdk/internal/util/Preconditions"), (0, u "SIOOBE_FORMATTER"), (0, u "Ljava/util/function/BiFunction;"), (0, .methodref 1054 1060), (0, .nameAndType 501 1061), (0, u "(IILjava/util/function/BiFunction;)I"), (0, .methodref 1054 1063), (0, .nameAndType 513 1064), (0, u "(IIILjava/util/function/BiFunction;)I"), (36, u "serialPersistentFields"), (0, u "[Ljava/io/ObjectStreamField;"), (0, .class_ 1104), (0, u "java/lang/String$CaseInsensitiveComparator"), (1, .class_ 1107), (0, u "java/io/Serializable"), (0, .class_ 1109), (0, u "java/lang/Comparable"), (0, .class_ 1111), (0, u "java/lang/constant/Constable"), (0, .class_ 1113), (0, u "java/lang/constant/ConstantDesc"), (2, u "serialVersionUID"), (0, u "J"), (3, u "REPL"), (0, u "C"), (2, u "LATIN1"), (1, u "UTF16")] 323

def k7m0 : Method := { name := "<init>", desc := "()V", sig := { parameters := [], returnType := none }, accessFlags := 1, code := none }
def k7c1 : Code := { maxStack := 5, maxLocals := 2, code := jdk_42_method_3_code, exceptionTable := #[], attributes := #[] }
def k7m1 : Method := { name := "<init>", desc := "([C)V", sig := { parameters := [(.array .char)], returnType := none }, accessFlags := 1, code := some k7c1 }
def k7c2 : Code := { maxStack := 2, maxLocals := 1, code := jdk_42_method_54_code, exceptionTable := #[], attributes := #[] }
def k7m2 : Method := { name := "length", desc := "()I", sig := { parameters := [], returnType := some .int }, accessFlags := 1, code := some k7c2 }
def k7c3 : Code := { maxStack := 2, maxLocals := 2, code := jdk_42_method_56_code, exceptionTable := #[], attributes := #[] }
def k7m3 : Method := { name := "charAt", desc := "(I)C", sig := { parameters := [.int], returnType := some .char }, accessFlags := 1, code := some k7c3 }
def k7c4 : Code := { maxStack := 3, maxLocals := 5, code := jdk_42_method_92_code, exceptionTable := #[], attributes := #[] }
def k7m4 : Method := { name := "substring", desc := "(II)Ljava/lang/String;", sig := { parameters := [.int, .int], returnType := some (.object "java/lang/String") }, accessFlags := 1, code := some k7c4 }
def k7c5 : Code := { maxStack := 4, maxLocals := 6, code := jdk_42_method_149_code, exceptionTable := #[], attributes := #[] }
def k7m5 : Method := { name := "<init>", desc := "([CIILjava/lang/Void;)V", sig := { parameters := [(.array .char), .int, .int, (.object "java/lang/Void")], returnType := none }, accessFlags := 2, code := some k7c5 }
def k7c6 : Code := { maxStack := 2, maxLocals := 3, code := jdk_42_method_151_code, exceptionTable := #[], attributes := #[] }
def k7m6 : Method := { name := "<init>", desc := "([BB)V", sig := { parameters := [(.array .byte), .byte], returnType := none }, accessFlags := 0, code := some k7c6 }
def k7c7 : Code := { maxStack := 1, maxLocals := 1, code := jdk_42_method_152_code, exceptionTable := #[], attributes := #[] }
def k7m7 : Method := { name := "coder", desc := "()B", sig := { parameters := [], returnType := some .byte }, accessFlags := 0, code := some k7c7 }
def k7c8 : Code := { maxStack := 1, maxLocals := 1, code := jdk_42_method_154_code, exceptionTable := #[], attributes := #[] }
def k7m8 : Method := { name := "isLatin1", desc := "()Z", sig := { parameters := [], returnType := some .boolean }, accessFlags := 0, code := some k7c8 }
def k7c9 : Code := { maxStack := 3, maxLocals := 2, code := jdk_42_method_155_code, exceptionTable := #[], attributes := #[] }
def k7m9 : Method := { name := "checkIndex", desc := "(II)V", sig := { parameters := [.int, .int], returnType := none }, accessFlags := 8, code := some k7c9 }
def k7c10 : Code := { maxStack := 4, maxLocals := 3, code := jdk_42_method_158_code, exceptionTable := #[], attributes := #[] }
def k7m10 : Method := { name := "checkBoundsBeginEnd", desc := "(III)V", sig := { parameters := [.int, .int, .int], returnType := none }, accessFlags := 8, code := some k7c10 }
/-- java/lang/String -/
def k7 : Class := { plain "java/lang/String" (some 0) with
  accessFlags := 49
  interfaces := #[2, 3, 4, 5, 6]
  cf := some (fileOf pool7 10 #[.nestMembers #[1103]] #[{ accessFlags := 1, nameIndex := 5, descriptorIndex := 6, attributes := #[] }, { accessFlags := 1, nameIndex := 5, descriptorIndex := 1010, attributes := #[] }, { accessFlags := 1, nameIndex := 507, descriptorIndex := 334, attributes := #[] }, { accessFlags := 1, nameIndex := 497, descriptorIndex := 427, attributes := #[] }, { accessFlags := 1, nameIndex := 683, descriptorIndex := 684, attributes := #[] }, { accessFlags := 2, nameIndex := 5, descriptorIndex := 29, attributes := #[] }, { accessFlags := 0, nameIndex := 5, descriptorIndex := 211, attributes := #[] }, { accessFlags := 0, nameIndex := 17, descriptorIndex := 337, attributes := #[] }, { accessFlags := 0, nameIndex := 494, descriptorIndex := 142, attributes := #[] }, { accessFlags := 8, nameIndex := 501, descriptorIndex := 391, attributes := #[] }, { accessFlags := 8, nameIndex := 523, descriptorIndex := 524, attributes := #[] }] 49 2 #[1106, 1108, 575, 1110, 1112] #[{ accessFlags := 18, nameIndex := 13, descriptorIndex := 14, attributes := #[] }, { accessFlags := 18, nameIndex := 17, descriptorIndex := 18, attributes := #[] }, { accessFlags := 2, nameIndex := 21, descriptorIndex := 22, attributes := #[] }, { accessFlags := 2, nameIndex := 25, descriptorIndex := 26, attributes := #[] }, { accessFlags := 26, nameIndex := 1116, descriptorIndex := 1117, attributes := #[] }, { accessFlags := 24, nameIndex := 40, descriptorIndex := 26, attributes := #[] }, { accessFlags := 26, nameIndex := 1101, descriptorIndex := 1102, attributes := #[] }, { accessFlags := 26, nameIndex := 1121, descriptorIndex := 1122, attributes := #[] }, { accessFlags := 25, nameIndex := 599, descriptorIndex := 600, attributes := #[] }, { accessFlags := 24, nameIndex := 1125, descriptorIndex := 18, attributes := #[] }, { accessFlags := 24, nameIndex := 1127, descriptorIndex := 18, attributes := #[] }])
  fields := #[{ name := "value", type := (.array .byte), accessFlags := 18, slot := 0, constantValue := 0 }, { name := "coder", type := .byte, accessFlags := 18, slot := 1, constantValue := 0 }, { name := "hash", type := .int, accessFlags := 2, slot := 2, constantValue := 0 }, { name := "hashIsZero", type := .boolean, accessFlags := 2, slot := 3, constantValue := 0 }, { name := "serialVersionUID", type := .long, accessFlags := 26, slot := 0, constantValue := 0 }, { name := "COMPACT_STRINGS", type := .boolean, accessFlags := 24, slot := 1, constantValue := 0 }, { name := "serialPersistentFields", type := (.array (.object "java/io/ObjectStreamField")), accessFlags := 26, slot := 2, constantValue := 0 }, { name := "REPL", type := .char, accessFlags := 26, slot := 3, constantValue := 0 }, { name := "CASE_INSENSITIVE_ORDER", type := (.object "java/util/Comparator"), accessFlags := 25, slot := 4, constantValue := 0 }, { name := "LATIN1", type := .byte, accessFlags := 24, slot := 5, constantValue := 0 }, { name := "UTF16", type := .byte, accessFlags := 24, slot := 6, constantValue := 0 }]
  methods := #[k7m0, k7m1, k7m2, k7m3, k7m4, k7m5, k7m6, k7m7, k7m8, k7m9, k7m10]
  instanceTypes := #[(.array .byte), .byte, .int, .boolean]
  staticTypes := #[.long, .boolean, (.array (.object "java/io/ObjectStreamField")), .char, (.object "java/util/Comparator"), .byte, .byte]
  resolved := Array.replicate 1451 none
  statics := some 0 }

def pool8 : Array CpInfo := pool [(6, .class_ 8), (1, u "java/lang/Object"), (0, u "<init>"), (0, u "()V"), (1, .class_ 14), (1, u "java/lang/StringUTF16"), (31, u "$assertionsDisabled"), (0, u "Z"), (13, u "HI_BYTE_SHIFT"), (0, u "I"), (2, u "LO_BYTE_SHIFT"), (49, .methodref 12 116), (0, .nameAndType 117 118), (0, u "compress"), (0, u "([CI[BII)I"), (3, u "([CII)[B"), (138, u "coderFromArrayLen"), (0, u "([BI)B"), (106, .class_ 371), (1, u "java/lang/StringUTF16$LinesSpliterator"), (58, u "MAX_LENGTH"), (196, .class_ 628), (0, u "java/lang/StringUTF16$CodePointsSpliterator"), (0, .class_ 630), (0, u "java/lang/StringUTF16$CharsSpliterator")] 4

def k8m0 : Method := { name := "<init>", desc := "()V", sig := { parameters := [], returnType := none }, accessFlags := 0, code := none }
def k8c1 : Code := { maxStack := 2, maxLocals := 2, code := jdk_52_method_15_code, exceptionTable := #[], attributes := #[] }
def k8m1 : Method := { name := "coderFromArrayLen", desc := "([BI)B", sig := { parameters := [(.array .byte), .int], returnType := some .byte }, accessFlags := 8, code := some k8c1 }
def k8c2 : Code := { maxStack := 5, maxLocals := 6, code := jdk_52_method_16_code, exceptionTable := #[], attributes := #[] }
def k8m2 : Method := { name := "compress", desc := "([CII)[B", sig := { parameters := [(.array .char), .int, .int], returnType := some (.array .byte) }, accessFlags := 9, code := some k8c2 }
def k8c3 : Code := { maxStack := 3, maxLocals := 7, code := jdk_52_method_21_code, exceptionTable := #[], attributes := #[] }
def k8m3 : Method := { name := "compress", desc := "([CI[BII)I", sig := { parameters := [(.array .char), .int, (.array .byte), .int, .int], returnType := some .int }, accessFlags := 9, code := some k8c3 }
/-- java/lang/StringUTF16 -/
def k8 : Class := { plain "java/lang/StringUTF16" (some 0) with
  accessFlags := 48
  interfaces := #[]
  cf := some (fileOf pool8 12 #[.nestMembers #[627, 629, 369]] #[{ accessFlags := 0, nameIndex := 9, descriptorIndex := 10, attributes := #[] }, { accessFlags := 8, nameIndex := 261, descriptorIndex := 262, attributes := #[] }, { accessFlags := 9, nameIndex := 117, descriptorIndex := 122, attributes := #[] }, { accessFlags := 9, nameIndex := 117, descriptorIndex := 118, attributes := #[] }] 48 6 #[] #[{ accessFlags := 26, nameIndex := 61, descriptorIndex := 62, attributes := #[] }, { accessFlags := 26, nameIndex := 65, descriptorIndex := 62, attributes := #[] }, { accessFlags := 24, nameIndex := 430, descriptorIndex := 62, attributes := #[] }, { accessFlags := 4120, nameIndex := 46, descriptorIndex := 47, attributes := #[] }])
  fields := #[{ name := "HI_BYTE_SHIFT", type := .int, accessFlags := 26, slot := 0, constantValue := 0 }, { name := "LO_BYTE_SHIFT", type := .int, accessFlags := 26, slot := 1, constantValue := 0 }, { name := "MAX_LENGTH", type := .int, accessFlags := 24, slot := 2, constantValue := 0 }, { name := "$assertionsDisabled", type := .boolean, accessFlags := 4120, slot := 3, constantValue := 0 }]
  methods := #[k8m0, k8m1, k8m2, k8m3]
  instanceTypes := #[]
  staticTypes := #[.int, .int, .int, .boolean]
  resolved := Array.replicate 635 none
  statics := none }

def pool9 : Array CpInfo := pool [(2, .class_ 4), (1, u "java/lang/Object"), (0, u "<init>"), (0, u "()V"), (0, .class_ 8), (0, u "java/lang/Record")] 13

def k9m0 : Method := { name := "<init>", desc := "()V", sig := { parameters := [], returnType := none }, accessFlags := 4, code := none }
/-- java/lang/Record -/
def k9 : Class := { plain "java/lang/Record" (some 0) with
  accessFlags := 1057
  interfaces := #[]
  cf := some (fileOf pool9 7 #[] #[{ accessFlags := 4, nameIndex := 5, descriptorIndex := 6, attributes := #[] }] 1057 2 #[] #[])
  fields := #[]
  methods := #[k9m0]
  instanceTypes := #[]
  staticTypes := #[]
  resolved := Array.replicate 22 none
  statics := none }

def pool10 : Array CpInfo := pool [(2, .class_ 4), (1, u "java/lang/Record"), (3, u "kind"), (17, .class_ 28), (1, u "org/holdfast/model/Content$Kind"), (1, u "Lorg/holdfast/model/Content$Kind;"), (8, .class_ 41), (1, u "org/holdfast/model/Content"), (2, u "codes"), (0, u "Ljava/util/List;"), (27, u "withoutSpace"), (0, u "(Ljava/lang/String;)Ljava/lang/String;"), (3, u "()I"), (7, u "DIGITS"), (0, u "Ljava/util/regex/Pattern;"), (14, .class_ 104), (1, u "java/lang/String"), (7, u "DECIMAL_AMOUNT"), (2, u "CURRENCY_CODE"), (16, .methodref 102 133), (0, .nameAndType 134 78), (0, u "length"), (0, .methodref 102 136), (0, .nameAndType 137 138), (0, u "charAt"), (0, u "(I)C"), (0, .methodref 39 140), (0, .nameAndType 141 142), (0, u "isSpace"), (0, u "(C)Z"), (0, .methodref 102 144), (0, .nameAndType 145 146), (0, u "substring"), (0, u "(II)Ljava/lang/String;"), (13, u "DATE_TIME"), (81, u "GROUP"), (4, u "Lorg/holdfast/model/Content;"), (2, u "TEXT"), (4, u "NON_NEGATIVE_INTEGER"), (4, u "POSITIVE_INTEGER"), (4, u "DATE"), (4, u "DECIMAL"), (4, u "CURRENCY"), (4, u "BOOLEAN"), (16, u "MAX_OFFSET_MINUTES"), (0, u "I"), (2, u "QUOTED")] 63

def k10c0 : Code := { maxStack := 3, maxLocals := 3, code := prog_17_method_4_code, exceptionTable := #[], attributes := #[] }
def k10m0 : Method := { name := "withoutSpace", desc := "(Ljava/lang/String;)Ljava/lang/String;", sig := { parameters := [(.object "java/lang/String")], returnType := some (.object "java/lang/String") }, accessFlags := 9, code := some k10c0 }
def k10c1 : Code := { maxStack := 2, maxLocals := 1, code := prog_17_method_6_code, exceptionTable := #[], attributes := #[] }
def k10m1 : Method := { name := "isSpace", desc := "(C)Z", sig := { parameters := [.char], returnType := some .boolean }, accessFlags := 10, code := some k10c1 }
/-- org/holdfast/model/Content -/
def k10 : Class := { plain "org/holdfast/model/Content" (some 9) with
  accessFlags := 49
  interfaces := #[]
  cf := some (fileOf pool10 39 #[.nestMembers #[26]] #[{ accessFlags := 9, nameIndex := 73, descriptorIndex := 74, attributes := #[] }, { accessFlags := 10, nameIndex := 141, descriptorIndex := 142, attributes := #[] }] 49 2 #[] #[{ accessFlags := 18, nameIndex := 8, descriptorIndex := 30, attributes := #[] }, { accessFlags := 18, nameIndex := 44, descriptorIndex := 45, attributes := #[] }, { accessFlags := 25, nameIndex := 242, descriptorIndex := 247, attributes := #[] }, { accessFlags := 25, nameIndex := 250, descriptorIndex := 247, attributes := #[] }, { accessFlags := 25, nameIndex := 255, descriptorIndex := 247, attributes := #[] }, { accessFlags := 25, nameIndex := 260, descriptorIndex := 247, attributes := #[] }, { accessFlags := 25, nameIndex := 265, descriptorIndex := 247, attributes := #[] }, { accessFlags := 25, nameIndex := 270, descriptorIndex := 247, attributes := #[] }, { accessFlags := 25, nameIndex := 275, descriptorIndex := 247, attributes := #[] }, { accessFlags := 25, nameIndex := 280, descriptorIndex := 247, attributes := #[] }, { accessFlags := 26, nameIndex := 86, descriptorIndex := 87, attributes := #[] }, { accessFlags := 26, nameIndex := 112, descriptorIndex := 87, attributes := #[] }, { accessFlags := 26, nameIndex := 115, descriptorIndex := 87, attributes := #[] }, { accessFlags := 26, nameIndex := 160, descriptorIndex := 87, attributes := #[] }, { accessFlags := 26, nameIndex := 297, descriptorIndex := 298, attributes := #[] }, { accessFlags := 26, nameIndex := 301, descriptorIndex := 298, attributes := #[] }])
  fields := #[{ name := "kind", type := (.object "org/holdfast/model/Content$Kind"), accessFlags := 18, slot := 0, constantValue := 0 }, { name := "codes", type := (.object "java/util/List"), accessFlags := 18, slot := 1, constantValue := 0 }, { name := "GROUP", type := (.object "org/holdfast/model/Content"), accessFlags := 25, slot := 0, constantValue := 0 }, { name := "TEXT", type := (.object "org/holdfast/model/Content"), accessFlags := 25, slot := 1, constantValue := 0 }, { name := "NON_NEGATIVE_INTEGER", type := (.object "org/holdfast/model/Content"), accessFlags := 25, slot := 2, constantValue := 0 }, { name := "POSITIVE_INTEGER", type := (.object "org/holdfast/model/Content"), accessFlags := 25, slot := 3, constantValue := 0 }, { name := "DATE", type := (.object "org/holdfast/model/Content"), accessFlags := 25, slot := 4, constantValue := 0 }, { name := "DECIMAL", type := (.object "org/holdfast/model/Content"), accessFlags := 25, slot := 5, constantValue := 0 }, { name := "CURRENCY", type := (.object "org/holdfast/model/Content"), accessFlags := 25, slot := 6, constantValue := 0 }, { name := "BOOLEAN", type := (.object "org/holdfast/model/Content"), accessFlags := 25, slot := 7, constantValue := 0 }, { name := "DIGITS", type := (.object "java/util/regex/Pattern"), accessFlags := 26, slot := 8, constantValue := 0 }, { name := "DECIMAL_AMOUNT", type := (.object "java/util/regex/Pattern"), accessFlags := 26, slot := 9, constantValue := 0 }, { name := "CURRENCY_CODE", type := (.object "java/util/regex/Pattern"), accessFlags := 26, slot := 10, constantValue := 0 }, { name := "DATE_TIME", type := (.object "java/util/regex/Pattern"), accessFlags := 26, slot := 11, constantValue := 0 }, { name := "MAX_OFFSET_MINUTES", type := .int, accessFlags := 26, slot := 12, constantValue := 0 }, { name := "QUOTED", type := .int, accessFlags := 26, slot := 13, constantValue := 0 }]
  methods := #[k10m0, k10m1]
  instanceTypes := #[(.object "org/holdfast/model/Content$Kind"), (.object "java/util/List")]
  staticTypes := #[(.object "org/holdfast/model/Content"), (.object "org/holdfast/model/Content"), (.object "org/holdfast/model/Content"), (.object "org/holdfast/model/Content"), (.object "org/holdfast/model/Content"), (.object "org/holdfast/model/Content"), (.object "org/holdfast/model/Content"), (.object "org/holdfast/model/Content"), (.object "java/util/regex/Pattern"), (.object "java/util/regex/Pattern"), (.object "java/util/regex/Pattern"), (.object "java/util/regex/Pattern"), .int, .int]
  resolved := Array.replicate 365 none
  statics := none }

def pool11 : Array CpInfo := pool [(1, .class_ 2), (0, u "java/lang/String"), (1, .class_ 6), (1, u "java/lang/Object"), (0, u "<init>"), (0, u "()V"), (0, .methodref 1 10), (0, .nameAndType 11 12), (0, u "checkIndex"), (0, u "(II)V"), (1, .class_ 16), (1, u "java/lang/StringLatin1"), (36, u "([BI)C"), (58, .methodref 1 113), (0, .nameAndType 7 114), (0, u "([BB)V"), (6, u "$assertionsDisabled"), (0, u "Z"), (8, .class_ 133), (1, u "java/util/Arrays"), (17, .string 152), (0, u ""), (43, u "newString"), (0, u "([BII)Ljava/lang/String;"), (23, .class_ 223), (1, u "java/lang/StringLatin1$LinesSpliterator"), (8, .methodref 131 233), (0, .nameAndType 234 235), (0, u "copyOfRange"), (0, u "([BII)[B"), (16, u "charAt"), (137, .class_ 391), (0, u "java/lang/StringLatin1$CharsSpliterator")] 3

def k11m0 : Method := { name := "<init>", desc := "()V", sig := { parameters := [], returnType := none }, accessFlags := 0, code := none }
def k11c1 : Code := { maxStack := 2, maxLocals := 2, code := jdk_43_method_2_code, exceptionTable := #[], attributes := #[] }
def k11m1 : Method := { name := "charAt", desc := "([BI)C", sig := { parameters := [(.array .byte), .int], returnType := some .char }, accessFlags := 9, code := some k11c1 }
def k11c2 : Code := { maxStack := 6, maxLocals := 3, code := jdk_43_method_47_code, exceptionTable := #[], attributes := #[] }
def k11m2 : Method := { name := "newString", desc := "([BII)Ljava/lang/String;", sig := { parameters := [(.array .byte), .int, .int], returnType := some (.object "java/lang/String") }, accessFlags := 9, code := some k11c2 }
/-- java/lang/StringLatin1 -/
def k11 : Class := { plain "java/lang/StringLatin1" (some 0) with
  accessFlags := 48
  interfaces := #[]
  cf := some (fileOf pool11 14 #[.nestMembers #[390, 221]] #[{ accessFlags := 0, nameIndex := 7, descriptorIndex := 8, attributes := #[] }, { accessFlags := 9, nameIndex := 252, descriptorIndex := 53, attributes := #[] }, { accessFlags := 9, nameIndex := 196, descriptorIndex := 197, attributes := #[] }] 48 4 #[] #[{ accessFlags := 4120, nameIndex := 121, descriptorIndex := 122, attributes := #[] }])
  fields := #[{ name := "$assertionsDisabled", type := .boolean, accessFlags := 4120, slot := 0, constantValue := 0 }]
  methods := #[k11m0, k11m1, k11m2]
  instanceTypes := #[]
  staticTypes := #[.boolean]
  resolved := Array.replicate 395 none
  statics := none }

def pool12 : Array CpInfo := pool [(2, .class_ 4), (1, u "java/lang/Object"), (0, u "<init>"), (0, u "()V"), (17, .class_ 26), (1, u "jdk/internal/util/Preconditions"), (6, u "checkIndex"), (13, u "checkFromToIndex"), (7, .class_ 56), (0, u "jdk/internal/util/Preconditions$4"), (57, .class_ 115), (0, u "jdk/internal/util/Preconditions$1"), (7, u "SIOOBE_FORMATTER"), (0, u "Ljava/util/function/BiFunction;"), (0, .class_ 126), (0, u "jdk/internal/util/Preconditions$2"), (3, u "AIOOBE_FORMATTER"), (0, .class_ 132), (0, u "jdk/internal/util/Preconditions$3"), (3, u "IOOBE_FORMATTER"), (41, u "(IILjava/util/function/BiFunction;)I"), (4, u "(IIILjava/util/function/BiFunction;)I")] 10

def k12m0 : Method := { name := "<init>", desc := "()V", sig := { parameters := [], returnType := none }, accessFlags := 1, code := none }
def k12c1 : Code := { maxStack := 3, maxLocals := 3, code := jdk_41_method_11_code, exceptionTable := #[], attributes := #[] }
def k12m1 : Method := { name := "checkIndex", desc := "(IILjava/util/function/BiFunction;)I", sig := { parameters := [.int, .int, (.object "java/util/function/BiFunction")], returnType := some .int }, accessFlags := 9, code := some k12c1 }
def k12c2 : Code := { maxStack := 4, maxLocals := 4, code := jdk_41_method_12_code, exceptionTable := #[], attributes := #[] }
def k12m2 : Method := { name := "checkFromToIndex", desc := "(IIILjava/util/function/BiFunction;)I", sig := { parameters := [.int, .int, .int, (.object "java/util/function/BiFunction")], returnType := some .int }, accessFlags := 9, code := some k12c2 }
/-- jdk/internal/util/Preconditions -/
def k12 : Class := { plain "jdk/internal/util/Preconditions" (some 0) with
  accessFlags := 33
  interfaces := #[]
  cf := some (fileOf pool12 24 #[.nestMembers #[55, 131, 125, 114]] #[{ accessFlags := 1, nameIndex := 5, descriptorIndex := 6, attributes := #[] }, { accessFlags := 9, nameIndex := 33, descriptorIndex := 178, attributes := #[] }, { accessFlags := 9, nameIndex := 47, descriptorIndex := 183, attributes := #[] }] 33 2 #[] #[{ accessFlags := 25, nameIndex := 123, descriptorIndex := 124, attributes := #[] }, { accessFlags := 25, nameIndex := 130, descriptorIndex := 124, attributes := #[] }, { accessFlags := 25, nameIndex := 136, descriptorIndex := 124, attributes := #[] }])
  fields := #[{ name := "SIOOBE_FORMATTER", type := (.object "java/util/function/BiFunction"), accessFlags := 25, slot := 0, constantValue := 0 }, { name := "AIOOBE_FORMATTER", type := (.object "java/util/function/BiFunction"), accessFlags := 25, slot := 1, constantValue := 0 }, { name := "IOOBE_FORMATTER", type := (.object "java/util/function/BiFunction"), accessFlags := 25, slot := 2, constantValue := 0 }]
  methods := #[k12m0, k12m1, k12m2]
  instanceTypes := #[]
  staticTypes := #[(.object "java/util/function/BiFunction"), (.object "java/util/function/BiFunction"), (.object "java/util/function/BiFunction")]
  resolved := Array.replicate 194 none
  statics := some 1 }

def pool13 : Array CpInfo := pool [(2, .class_ 4), (1, u "java/lang/Object"), (0, u "<init>"), (0, u "()V"), (7, .class_ 16), (1, u "java/util/Arrays"), (57, .class_ 76), (1, u "java/util/Arrays$NaturalOrder"), (36, .class_ 115), (1, u "java/util/Arrays$LegacyMergeSort"), (1, u "Z"), (21, u "copyOfRange"), (10, .methodref 151 152), (0, .class_ 153), (0, .nameAndType 154 155), (0, u "java/lang/System"), (0, u "arraycopy"), (0, u "(Ljava/lang/Object;ILjava/lang/Object;II)V"), (148, .methodref 305 306), (0, .class_ 307), (0, .nameAndType 308 309), (0, u "java/lang/Math"), (0, u "min"), (0, u "(II)I"), (29, .methodref 14 340), (0, .nameAndType 341 342), (0, u "copyOfRangeByte"), (0, u "([BII)[B"), (0, .methodref 14 344), (0, .nameAndType 345 346), (0, u "checkLength"), (0, u "(II)V"), (28, .class_ 376), (0, u "java/util/Arrays$ArrayList"), (68, u "$assertionsDisabled"), (269, u "MIN_ARRAY_SORT_GRAN"), (0, u "I"), (2, u "INSERTIONSORT_THRESHOLD"), (255, .class_ 976), (0, u "java/util/Arrays$ArrayItr")] 52

def k13m0 : Method := { name := "<init>", desc := "()V", sig := { parameters := [], returnType := none }, accessFlags := 2, code := none }
def k13c1 : Code := { maxStack := 4, maxLocals := 2, code := jdk_65_method_131_code, exceptionTable := #[], attributes := #[] }
def k13m1 : Method := { name := "checkLength", desc := "(II)V", sig := { parameters := [.int, .int], returnType := none }, accessFlags := 10, code := some k13c1 }
def k13c2 : Code := { maxStack := 3, maxLocals := 3, code := jdk_65_method_132_code, exceptionTable := #[], attributes := #[] }
def k13m2 : Method := { name := "copyOfRange", desc := "([BII)[B", sig := { parameters := [(.array .byte), .int, .int], returnType := some (.array .byte) }, accessFlags := 9, code := some k13c2 }
def k13c3 : Code := { maxStack := 6, maxLocals := 5, code := jdk_65_method_133_code, exceptionTable := #[], attributes := #[] }
def k13m3 : Method := { name := "copyOfRangeByte", desc := "([BII)[B", sig := { parameters := [(.array .byte), .int, .int], returnType := some (.array .byte) }, accessFlags := 10, code := some k13c3 }
/-- java/util/Arrays -/
def k13 : Class := { plain "java/util/Arrays" (some 0) with
  accessFlags := 49
  interfaces := #[]
  cf := some (fileOf pool13 14 #[.nestMembers #[975, 375, 113, 74]] #[{ accessFlags := 2, nameIndex := 5, descriptorIndex := 6, attributes := #[] }, { accessFlags := 10, nameIndex := 345, descriptorIndex := 346, attributes := #[] }, { accessFlags := 9, nameIndex := 139, descriptorIndex := 342, attributes := #[] }, { accessFlags := 10, nameIndex := 341, descriptorIndex := 342, attributes := #[] }] 49 2 #[] #[{ accessFlags := 26, nameIndex := 715, descriptorIndex := 716, attributes := #[] }, { accessFlags := 26, nameIndex := 719, descriptorIndex := 716, attributes := #[] }, { accessFlags := 4120, nameIndex := 445, descriptorIndex := 117, attributes := #[] }])
  fields := #[{ name := "MIN_ARRAY_SORT_GRAN", type := .int, accessFlags := 26, slot := 0, constantValue := 0 }, { name := "INSERTIONSORT_THRESHOLD", type := .int, accessFlags := 26, slot := 1, constantValue := 0 }, { name := "$assertionsDisabled", type := .boolean, accessFlags := 4120, slot := 2, constantValue := 0 }]
  methods := #[k13m0, k13m1, k13m2, k13m3]
  instanceTypes := #[]
  staticTypes := #[.int, .int, .boolean]
  resolved := Array.replicate 1029 none
  statics := none }

def pool14 : Array CpInfo := pool [(1, .class_ 2), (0, u "java/lang/Math"), (1, .class_ 6), (1, u "java/lang/Object"), (0, u "<init>"), (0, u "()V"), (89, .class_ 100), (1, u "java/lang/Math$RandomNumberGeneratorHolder"), (71, u "negativeZeroFloatBits"), (0, u "J"), (2, u "negativeZeroDoubleBits"), (24, u "min"), (43, u "$assertionsDisabled"), (0, u "Z"), (88, u "(II)I"), (2, u "twoToTheDoubleScaleDown"), (0, u "D"), (4, u "twoToTheDoubleScaleUp"), (9, u "E"), (3, u "PI"), (2, u "TAU"), (2, u "DEGREES_TO_RADIANS"), (0, u "RADIANS_TO_DEGREES")] 94

def k14m0 : Method := { name := "<init>", desc := "()V", sig := { parameters := [], returnType := none }, accessFlags := 2, code := none }
def k14c1 : Code := { maxStack := 2, maxLocals := 2, code := jdk_29_method_69_code, exceptionTable := #[], attributes := #[] }
def k14m1 : Method := { name := "min", desc := "(II)I", sig := { parameters := [.int, .int], returnType := some .int }, accessFlags := 9, code := some k14c1 }
/-- java/lang/Math -/
def k14 : Class := { plain "java/lang/Math" (some 0) with
  accessFlags := 49
  interfaces := #[]
  cf := some (fileOf pool14 1 #[.nestMembers #[98]] #[{ accessFlags := 2, nameIndex := 7, descriptorIndex := 8, attributes := #[] }, { accessFlags := 9, nameIndex := 201, descriptorIndex := 335, attributes := #[] }] 49 4 #[] #[{ accessFlags := 25, nameIndex := 354, descriptorIndex := 339, attributes := #[] }, { accessFlags := 25, nameIndex := 358, descriptorIndex := 339, attributes := #[] }, { accessFlags := 25, nameIndex := 361, descriptorIndex := 339, attributes := #[] }, { accessFlags := 26, nameIndex := 364, descriptorIndex := 339, attributes := #[] }, { accessFlags := 26, nameIndex := 365, descriptorIndex := 339, attributes := #[] }, { accessFlags := 26, nameIndex := 172, descriptorIndex := 173, attributes := #[] }, { accessFlags := 26, nameIndex := 176, descriptorIndex := 173, attributes := #[] }, { accessFlags := 8, nameIndex := 344, descriptorIndex := 339, attributes := #[] }, { accessFlags := 8, nameIndex := 338, descriptorIndex := 339, attributes := #[] }, { accessFlags := 4120, nameIndex := 245, descriptorIndex := 246, attributes := #[] }])
  fields := #[{ name := "E", type := .double, accessFlags := 25, slot := 0, constantValue := 0 }, { name := "PI", type := .double, accessFlags := 25, slot := 1, constantValue := 0 }, { name := "TAU", type := .double, accessFlags := 25, slot := 2, constantValue := 0 }, { name := "DEGREES_TO_RADIANS", type := .double, accessFlags := 26, slot := 3, constantValue := 0 }, { name := "RADIANS_TO_DEGREES", type := .double, accessFlags := 26, slot := 4, constantValue := 0 }, { name := "negativeZeroFloatBits", type := .long, accessFlags := 26, slot := 5, constantValue := 0 }, { name := "negativeZeroDoubleBits", type := .long, accessFlags := 26, slot := 6, constantValue := 0 }, { name := "twoToTheDoubleScaleUp", type := .double, accessFlags := 8, slot := 7, constantValue := 0 }, { name := "twoToTheDoubleScaleDown", type := .double, accessFlags := 8, slot := 8, constantValue := 0 }, { name := "$assertionsDisabled", type := .boolean, accessFlags := 4120, slot := 9, constantValue := 0 }]
  methods := #[k14m0, k14m1]
  instanceTypes := #[]
  staticTypes := #[.double, .double, .double, .double, .double, .long, .long, .double, .double, .boolean]
  resolved := Array.replicate 460 none
  statics := none }

def pool15 : Array CpInfo := pool [(2, .class_ 4), (1, u "java/lang/Object"), (0, u "<init>"), (0, u "()V"), (1, .class_ 10), (1, u "java/lang/System"), (0, u "allowSecurityManager"), (0, u "I"), (16, u "cons"), (0, u "Ljava/io/Console;"), (77, .class_ 110), (1, u "java/lang/System$CallersHolder"), (43, u "initialErrStream"), (0, u "Ljava/io/PrintStream;"), (19, u "security"), (0, u "Ljava/lang/SecurityManager;"), (31, .class_ 209), (0, u "java/lang/System$1"), (7, u "props"), (0, u "Ljava/util/Properties;"), (2, u "lineSeparator"), (0, u "Ljava/lang/String;"), (96, .class_ 321), (1, u "java/lang/System$LoggerFinder"), (5, .class_ 328), (0, u "java/lang/System$Logger"), (67, u "err"), (2, u "out"), (91, u "notSupportedJnuEncoding"), (15, u "in"), (17, u "initialIn"), (0, u "Ljava/io/InputStream;"), (35, u "bootLayer"), (0, u "Ljava/lang/ModuleLayer;"), (99, .class_ 664), (0, u "java/lang/System$2"), (9, u "NEVER"), (2, u "MAYBE"), (49, u "arraycopy"), (0, u "(Ljava/lang/Object;ILjava/lang/Object;II)V"), (72, .class_ 802), (0, u "java/lang/System$Logger$Level")] 31

def k15m0 : Method := { name := "<init>", desc := "()V", sig := { parameters := [], returnType := none }, accessFlags := 2, code := none }
def k15m1 : Method := { name := "arraycopy", desc := "(Ljava/lang/Object;ILjava/lang/Object;II)V", sig := { parameters := [(.object "java/lang/Object"), .int, (.object "java/lang/Object"), .int, .int], returnType := none }, accessFlags := 265, code := none }
/-- java/lang/System -/
def k15 : Class := { plain "java/lang/System" (some 0) with
  accessFlags := 49
  interfaces := #[]
  cf := some (fileOf pool15 8 #[.nestMembers #[319, 327, 801, 108, 663, 208]] #[{ accessFlags := 2, nameIndex := 5, descriptorIndex := 6, attributes := #[] }, { accessFlags := 265, nameIndex := 727, descriptorIndex := 728, attributes := #[] }] 49 2 #[] #[{ accessFlags := 25, nameIndex := 507, descriptorIndex := 526, attributes := #[] }, { accessFlags := 25, nameIndex := 399, descriptorIndex := 155, attributes := #[] }, { accessFlags := 25, nameIndex := 396, descriptorIndex := 155, attributes := #[] }, { accessFlags := 10, nameIndex := 525, descriptorIndex := 526, attributes := #[] }, { accessFlags := 26, nameIndex := 674, descriptorIndex := 12, attributes := #[] }, { accessFlags := 26, nameIndex := 677, descriptorIndex := 12, attributes := #[] }, { accessFlags := 10, nameIndex := 11, descriptorIndex := 12, attributes := #[] }, { accessFlags := 74, nameIndex := 175, descriptorIndex := 176, attributes := #[] }, { accessFlags := 10, nameIndex := 491, descriptorIndex := 222, attributes := #[] }, { accessFlags := 74, nameIndex := 29, descriptorIndex := 30, attributes := #[] }, { accessFlags := 74, nameIndex := 154, descriptorIndex := 155, attributes := #[] }, { accessFlags := 10, nameIndex := 217, descriptorIndex := 218, attributes := #[] }, { accessFlags := 10, nameIndex := 221, descriptorIndex := 222, attributes := #[] }, { accessFlags := 8, nameIndex := 562, descriptorIndex := 563, attributes := #[] }])
  fields := #[{ name := "in", type := (.object "java/io/InputStream"), accessFlags := 25, slot := 0, constantValue := 0 }, { name := "out", type := (.object "java/io/PrintStream"), accessFlags := 25, slot := 1, constantValue := 0 }, { name := "err", type := (.object "java/io/PrintStream"), accessFlags := 25, slot := 2, constantValue := 0 }, { name := "initialIn", type := (.object "java/io/InputStream"), accessFlags := 10, slot := 3, constantValue := 0 }, { name := "NEVER", type := .int, accessFlags := 26, slot := 4, constantValue := 0 }, { name := "MAYBE", type := .int, accessFlags := 26, slot := 5, constantValue := 0 }, { name := "allowSecurityManager", type := .int, accessFlags := 10, slot := 6, constantValue := 0 }, { name := "security", type := (.object "java/lang/SecurityManager"), accessFlags := 74, slot := 7, constantValue := 0 }, { name := "notSupportedJnuEncoding", type := (.object "java/lang/String"), accessFlags := 10, slot := 8, constantValue := 0 }, { name := "cons", type := (.object "java/io/Console"), accessFlags := 74, slot := 9, constantValue := 0 }, { name := "initialErrStream", type := (.object "java/io/PrintStream"), accessFlags := 74, slot := 10, constantValue := 0 }, { name := "props", type := (.object "java/util/Properties"), accessFlags := 10, slot := 11, constantValue := 0 }, { name := "lineSeparator", type := (.object "java/lang/String"), accessFlags := 10, slot := 12, constantValue := 0 }, { name := "bootLayer", type := (.object "java/lang/ModuleLayer"), accessFlags := 8, slot := 13, constantValue := 0 }]
  methods := #[k15m0, k15m1]
  instanceTypes := #[]
  staticTypes := #[(.object "java/io/InputStream"), (.object "java/io/PrintStream"), (.object "java/io/PrintStream"), (.object "java/io/InputStream"), .int, .int, .int, (.object "java/lang/SecurityManager"), (.object "java/lang/String"), (.object "java/io/Console"), (.object "java/io/PrintStream"), (.object "java/util/Properties"), (.object "java/lang/String"), (.object "java/lang/ModuleLayer")]
  resolved := Array.replicate 834 none
  statics := none }

def pool16 : Array CpInfo := pool [(9, u "<init>"), (6, .class_ 18), (1, u "java/lang/Object"), (0, u "()V"), (1, .class_ 23), (1, u "jdk/internal/util/ArraysSupport"), (0, u "LOG2_ARRAY_LONG_INDEX_SCALE"), (0, u "I"), (2, u "U"), (0, u "Ljdk/internal/misc/Unsafe;"), (8, u "BIG_ENDIAN"), (0, u "Z"), (8, u "LOG2_BYTE_BIT_SIZE"), (4, u "LOG2_ARRAY_INT_INDEX_SCALE"), (54, u "JLA"), (0, u "Ljdk/internal/access/JavaLangAccess;"), (11, u "LOG2_ARRAY_BOOLEAN_INDEX_SCALE"), (9, u "LOG2_ARRAY_BYTE_INDEX_SCALE"), (5, u "LOG2_ARRAY_CHAR_INDEX_SCALE"), (5, u "LOG2_ARRAY_SHORT_INDEX_SCALE"), (18, u "LOG2_ARRAY_FLOAT_INDEX_SCALE"), (24, u "LOG2_ARRAY_DOUBLE_INDEX_SCALE"), (89, u "T_BOOLEAN"), (2, u "T_CHAR"), (1, u "T_FLOAT"), (1, u "T_DOUBLE"), (1, u "T_BYTE"), (1, u "T_SHORT"), (1, u "T_INT"), (1, u "T_LONG"), (1, u "SOFT_MAX_ARRAY_LENGTH")] 83

def k16m0 : Method := { name := "<init>", desc := "()V", sig := { parameters := [], returnType := none }, accessFlags := 2, code := none }
/-- jdk/internal/util/ArraysSupport -/
def k16 : Class := { plain "jdk/internal/util/ArraysSupport" (some 0) with
  accessFlags := 33
  interfaces := #[]
  cf := some (fileOf pool16 21 #[] #[{ accessFlags := 2, nameIndex := 9, descriptorIndex := 19, attributes := #[] }] 33 16 #[] #[{ accessFlags := 24, nameIndex := 28, descriptorIndex := 29, attributes := #[] }, { accessFlags := 26, nameIndex := 38, descriptorIndex := 39, attributes := #[] }, { accessFlags := 25, nameIndex := 121, descriptorIndex := 25, attributes := #[] }, { accessFlags := 25, nameIndex := 131, descriptorIndex := 25, attributes := #[] }, { accessFlags := 25, nameIndex := 137, descriptorIndex := 25, attributes := #[] }, { accessFlags := 25, nameIndex := 143, descriptorIndex := 25, attributes := #[] }, { accessFlags := 25, nameIndex := 53, descriptorIndex := 25, attributes := #[] }, { accessFlags := 25, nameIndex := 24, descriptorIndex := 25, attributes := #[] }, { accessFlags := 25, nameIndex := 162, descriptorIndex := 25, attributes := #[] }, { accessFlags := 25, nameIndex := 187, descriptorIndex := 25, attributes := #[] }, { accessFlags := 26, nameIndex := 48, descriptorIndex := 25, attributes := #[] }, { accessFlags := 25, nameIndex := 277, descriptorIndex := 25, attributes := #[] }, { accessFlags := 25, nameIndex := 280, descriptorIndex := 25, attributes := #[] }, { accessFlags := 25, nameIndex := 282, descriptorIndex := 25, attributes := #[] }, { accessFlags := 25, nameIndex := 284, descriptorIndex := 25, attributes := #[] }, { accessFlags := 25, nameIndex := 286, descriptorIndex := 25, attributes := #[] }, { accessFlags := 25, nameIndex := 288, descriptorIndex := 25, attributes := #[] }, { accessFlags := 25, nameIndex := 290, descriptorIndex := 25, attributes := #[] }, { accessFlags := 25, nameIndex := 292, descriptorIndex := 25, attributes := #[] }, { accessFlags := 26, nameIndex := 108, descriptorIndex := 109, attributes := #[] }, { accessFlags := 25, nameIndex := 294, descriptorIndex := 25, attributes := #[] }])
  fields := #[{ name := "U", type := (.object "jdk/internal/misc/Unsafe"), accessFlags := 24, slot := 0, constantValue := 0 }, { name := "BIG_ENDIAN", type := .boolean, accessFlags := 26, slot := 1, constantValue := 0 }, { name := "LOG2_ARRAY_BOOLEAN_INDEX_SCALE", type := .int, accessFlags := 25, slot := 2, constantValue := 0 }, { name := "LOG2_ARRAY_BYTE_INDEX_SCALE", type := .int, accessFlags := 25, slot := 3, constantValue := 0 }, { name := "LOG2_ARRAY_CHAR_INDEX_SCALE", type := .int, accessFlags := 25, slot := 4, constantValue := 0 }, { name := "LOG2_ARRAY_SHORT_INDEX_SCALE", type := .int, accessFlags := 25, slot := 5, constantValue := 0 }, { name := "LOG2_ARRAY_INT_INDEX_SCALE", type := .int, accessFlags := 25, slot := 6, constantValue := 0 }, { name := "LOG2_ARRAY_LONG_INDEX_SCALE", type := .int, accessFlags := 25, slot := 7, constantValue := 0 }, { name := "LOG2_ARRAY_FLOAT_INDEX_SCALE", type := .int, accessFlags := 25, slot := 8, constantValue := 0 }, { name := "LOG2_ARRAY_DOUBLE_INDEX_SCALE", type := .int, accessFlags := 25, slot := 9, constantValue := 0 }, { name := "LOG2_BYTE_BIT_SIZE", type := .int, accessFlags := 26, slot := 10, constantValue := 0 }, { name := "T_BOOLEAN", type := .int, accessFlags := 25, slot := 11, constantValue := 0 }, { name := "T_CHAR", type := .int, accessFlags := 25, slot := 12, constantValue := 0 }, { name := "T_FLOAT", type := .int, accessFlags := 25, slot := 13, constantValue := 0 }, { name := "T_DOUBLE", type := .int, accessFlags := 25, slot := 14, constantValue := 0 }, { name := "T_BYTE", type := .int, accessFlags := 25, slot := 15, constantValue := 0 }, { name := "T_SHORT", type := .int, accessFlags := 25, slot := 16, constantValue := 0 }, { name := "T_INT", type := .int, accessFlags := 25, slot := 17, constantValue := 0 }, { name := "T_LONG", type := .int, accessFlags := 25, slot := 18, constantValue := 0 }, { name := "JLA", type := (.object "jdk/internal/access/JavaLangAccess"), accessFlags := 26, slot := 19, constantValue := 0 }, { name := "SOFT_MAX_ARRAY_LENGTH", type := .int, accessFlags := 25, slot := 20, constantValue := 0 }]
  methods := #[k16m0]
  instanceTypes := #[]
  staticTypes := #[(.object "jdk/internal/misc/Unsafe"), .boolean, .int, .int, .int, .int, .int, .int, .int, .int, .int, .int, .int, .int, .int, .int, .int, .int, .int, (.object "jdk/internal/access/JavaLangAccess"), .int]
  resolved := Array.replicate 378 none
  statics := none }

def pool17 : Array CpInfo := pool [(1, u "java/lang/Cloneable"), (0, .class_ 1), (0, u "java/lang/Object"), (0, .class_ 3)] 3

/-- java/lang/Cloneable -/
def k17 : Class := { plain "java/lang/Cloneable" (some 0) with
  accessFlags := 1537
  interfaces := #[]
  cf := some (fileOf pool17 2 #[] #[] 1537 4 #[] #[])
  fields := #[]
  methods := #[]
  instanceTypes := #[]
  staticTypes := #[]
  resolved := Array.replicate 8 none
  statics := none }

/-- the primitive byte -/
def k18 : Class := { plain "byte" none with kind := .primitive 'B', accessFlags := 0x411 }
/-- [B -/
def k19 : Class := { plain "[B" (some 0) with kind := .array 18 .byte, interfaces := #[17, 2], accessFlags := 1041 }

/-- the primitive char -/
def k20 : Class := { plain "char" none with kind := .primitive 'C', accessFlags := 0x411 }
/-- [C -/
def k21 : Class := { plain "[C" (some 0) with kind := .array 20 .char, interfaces := #[17, 2], accessFlags := 1041 }

/-- the primitive int -/
def k22 : Class := { plain "int" none with kind := .primitive 'I', accessFlags := 0x411 }
/-- [I -/
def k23 : Class := { plain "[I" (some 0) with kind := .array 22 .int, interfaces := #[17, 2], accessFlags := 1041 }

def heap : Heap := #[{ cls := 7, slots := #[.long 0, .int 1, .null, .int 0, .null, .int 0, .int 0], vm := .statics 7 },
  { cls := 12, slots := #[.null, .null, .null], vm := .statics 12 }]
def classes : Array Class := #[k0, k1, k2, k3, k4, k5, k6, k7, k8, k9, k10, k11, k12, k13, k14, k15, k16, k17, k18, k19, k20, k21, k22, k23]
def interned : List (Array UInt16 × Addr) := []
def slotsUsed : Nat := 10
def theMethod : MethodId := ⟨1, 1⟩
def args0 : Array Value := #[.int 5, .int 5, .int 5, .int 5, .int 5, .int 5]
def aboutOver (below : List Frame) : State where
  vm := { classes := classes, interned := interned.toArray }
  heap := heap
  slotsUsed := slotsUsed
  threads := #[{ frames := .invoking theMethod args0 :: below }]
def below0 : List Frame := [.native { method := ⟨0, 0⟩, args := #[] }]
def about1 : State := aboutOver below0
def p0 : Program := .bare "" "" ""
def e0 : Env := launch0.env 0 0 0
theorem w_frames : about1.frames = Frame.invoking theMethod args0 :: below0 := rfl
set_option maxRecDepth 65536 in
theorem w_args : argsFit about1.vm theMethod args0 = true := by decide +kernel
set_option maxRecDepth 65536 in
theorem w_heap : heapFits about1 = true := by decide +kernel
set_option maxRecDepth 65536 in
theorem w_runnable : about1.curStatus? = some .runnable := by decide +kernel
set_option maxRecDepth 65536 in
theorem w_alone : about1.alone = true := by decide +kernel
set_option maxRecDepth 65536 in
theorem w_named : about1.methodNamed? x = some theMethod := by decide +kernel
set_option maxRecDepth 65536 in
theorem w_hears : about1.hears theMethod below0 = true := by decide +kernel
set_option maxRecDepth 65536 in
theorem w_ripe : about1.ripe theMethod args0 below0 = true := by decide +kernel
theorem w_running : about1.status = .running := rfl
set_option maxRecDepth 65536 in
theorem w_room : about1.hasRoom e0.platform room_1 = true :=
  launch0.hasRoom_least _ room_1 (by decide +kernel) (by decide +kernel) (by decide +kernel) (by decide +kernel) (by decide +kernel) (by decide +kernel)
theorem allAtoms_all (ts : List Jvm.Cond) (a : Array Jvm.Value) (st : Jvm.State) : (allAtoms ts).before a st = ts.all (fun c => c.before a st) := by
  induction ts with
  | nil => rfl
  | cons c t ih =>
    show (Jvm.Cond.and c (allAtoms t)).before a st = _
    rw [Jvm.Cond.before_and, ih, List.all_cons]
def words1 : List Jvm.Cond := Jvm.Cond.code x code maxLocals ret :: tables_1
/-- a 'code' word, met by the world's own term for the bytes: nothing is compared byte by byte -/
theorem code_word {y : MethodName} {bytes : ByteArray} {mx : Nat} {rt : Option FieldType} {a : Array Value} {s : State} {m : MethodId} {meth : Method} {c : Code} (h1 : s.methodNamed? y = some m) (h2 : s.vm.method? m = some meth) (h3 : meth.code = some c) (h4 : c.code = bytes)
    (h5 : (c.maxLocals == mx && c.exceptionTable.isEmpty && decide (c.maxStack ≤ mostOperands) && decide (meth.sig.returnType = rt) && !meth.locks && decide (parseMethodDescriptor y.desc = some meth.sig)) = true) : (Jvm.Cond.code y bytes mx rt).before a s = true := by
  simp only [Bool.and_eq_true, beq_iff_eq, Bool.not_eq_true', decide_eq_true_eq] at h5
  obtain ⟨⟨⟨⟨⟨g1, g2⟩, g3⟩, g4⟩, g5⟩, g6⟩ := h5
  simp [Cond.before, Cond.holds, Cond.value, h1, h2, h3, h4, g1, g2, g3, g4, g5, g6]
def isCode : Jvm.Cond → Bool
  | .code _ _ _ _ => true
  | _ => false
theorem all_split {L : List Jvm.Cond} {P : Jvm.Cond → Bool} (h1 : L.all (fun c => isCode c || P c) = true) (h2 : ∀ c ∈ L.filter isCode, P c = true) : L.all P = true := by
  refine List.all_eq_true.mpr fun c hc => ?_
  have h := List.all_eq_true.mp h1 c hc
  rcases Bool.eq_false_or_eq_true (isCode c) with hi | hi
  · exact h2 c (List.mem_filter.mpr ⟨hc, hi⟩)
  · simpa [hi] using h
set_option maxRecDepth 65536 in
theorem w_c0 : (Jvm.Cond.code x code maxLocals ret).before args0 about1 = true := code_word (m := ⟨1, 1⟩) (meth := k1m1) (c := k1c1) (by decide +kernel) rfl rfl rfl (by decide +kernel)
set_option maxRecDepth 65536 in
theorem w_c1 : (Jvm.Cond.code ({ cls := "org/holdfast/model/ContentWithoutSpacePinLaw", name := "ch", desc := "(I)C" } : Jvm.MethodName) method_4_code (2 : Nat) (Option.some Jvm.ClassFile.FieldType.char)).before args0 about1 = true := code_word (m := ⟨1, 3⟩) (meth := k1m3) (c := k1c3) (by decide +kernel) rfl rfl rfl (by decide +kernel)
set_option maxRecDepth 65536 in
theorem w_c2 : (Jvm.Cond.code ({ cls := "org/holdfast/model/ContentWithoutSpacePinLaw", name := "prefix", desc := "([CI)Ljava/lang/String;" } : Jvm.MethodName) method_5_code (2 : Nat) (Option.some (Jvm.ClassFile.FieldType.object "java/lang/String"))).before args0 about1 = true := code_word (m := ⟨1, 4⟩) (meth := k1m4) (c := k1c4) (by decide +kernel) rfl rfl rfl (by decide +kernel)
set_option maxRecDepth 65536 in
theorem w_c3 : (Jvm.Cond.code ({ cls := "java/lang/String", name := "<init>", desc := "([C)V" } : Jvm.MethodName) jdk_42_method_3_code (2 : Nat) (Option.none : Option Jvm.ClassFile.FieldType)).before args0 about1 = true := code_word (m := ⟨7, 1⟩) (meth := k7m1) (c := k7c1) (by decide +kernel) rfl rfl rfl (by decide +kernel)
set_option maxRecDepth 65536 in
theorem w_c4 : (Jvm.Cond.code ({ cls := "java/lang/String", name := "<init>", desc := "([CIILjava/lang/Void;)V" } : Jvm.MethodName) jdk_42_method_149_code (6 : Nat) (Option.none : Option Jvm.ClassFile.FieldType)).before args0 about1 = true := code_word (m := ⟨7, 5⟩) (meth := k7m5) (c := k7c5) (by decide +kernel) rfl rfl rfl (by decide +kernel)
set_option maxRecDepth 65536 in
theorem w_c5 : (Jvm.Cond.code ({ cls := "java/lang/Object", name := "<init>", desc := "()V" } : Jvm.MethodName) object_method_1_code (1 : Nat) (Option.none : Option Jvm.ClassFile.FieldType)).before args0 about1 = true := code_word (m := ⟨0, 0⟩) (meth := k0m0) (c := k0c0) (by decide +kernel) rfl rfl rfl (by decide +kernel)
set_option maxRecDepth 65536 in
theorem w_c6 : (Jvm.Cond.code ({ cls := "java/lang/StringUTF16", name := "compress", desc := "([CII)[B" } : Jvm.MethodName) jdk_52_method_16_code (6 : Nat) (Option.some (Jvm.ClassFile.FieldType.array Jvm.ClassFile.FieldType.byte))).before args0 about1 = true := code_word (m := ⟨8, 2⟩) (meth := k8m2) (c := k8c2) (by decide +kernel) rfl rfl rfl (by decide +kernel)
set_option maxRecDepth 65536 in
theorem w_c7 : (Jvm.Cond.code ({ cls := "java/lang/StringUTF16", name := "compress", desc := "([CI[BII)I" } : Jvm.MethodName) jdk_52_method_21_code (7 : Nat) (Option.some Jvm.ClassFile.FieldType.int)).before args0 about1 = true := code_word (m := ⟨8, 3⟩) (meth := k8m3) (c := k8c3) (by decide +kernel) rfl rfl rfl (by decide +kernel)
set_option maxRecDepth 65536 in
theorem w_c8 : (Jvm.Cond.code ({ cls := "java/lang/StringUTF16", name := "coderFromArrayLen", desc := "([BI)B" } : Jvm.MethodName) jdk_52_method_15_code (2 : Nat) (Option.some Jvm.ClassFile.FieldType.byte)).before args0 about1 = true := code_word (m := ⟨8, 1⟩) (meth := k8m1) (c := k8c1) (by decide +kernel) rfl rfl rfl (by decide +kernel)
set_option maxRecDepth 65536 in
theorem w_c9 : (Jvm.Cond.code ({ cls := "org/holdfast/model/Content", name := "withoutSpace", desc := "(Ljava/lang/String;)Ljava/lang/String;" } : Jvm.MethodName) prog_17_method_4_code (3 : Nat) (Option.some (Jvm.ClassFile.FieldType.object "java/lang/String"))).before args0 about1 = true := code_word (m := ⟨10, 0⟩) (meth := k10m0) (c := k10c0) (by decide +kernel) rfl rfl rfl (by decide +kernel)
set_option maxRecDepth 65536 in
theorem w_c10 : (Jvm.Cond.code ({ cls := "java/lang/String", name := "length", desc := "()I" } : Jvm.MethodName) jdk_42_method_54_code (1 : Nat) (Option.some Jvm.ClassFile.FieldType.int)).before args0 about1 = true := code_word (m := ⟨7, 2⟩) (meth := k7m2) (c := k7c2) (by decide +kernel) rfl rfl rfl (by decide +kernel)
set_option maxRecDepth 65536 in
theorem w_c11 : (Jvm.Cond.code ({ cls := "java/lang/String", name := "coder", desc := "()B" } : Jvm.MethodName) jdk_42_method_152_code (1 : Nat) (Option.some Jvm.ClassFile.FieldType.byte)).before args0 about1 = true := code_word (m := ⟨7, 7⟩) (meth := k7m7) (c := k7c7) (by decide +kernel) rfl rfl rfl (by decide +kernel)
set_option maxRecDepth 65536 in
theorem w_c12 : (Jvm.Cond.code ({ cls := "java/lang/String", name := "charAt", desc := "(I)C" } : Jvm.MethodName) jdk_42_method_56_code (2 : Nat) (Option.some Jvm.ClassFile.FieldType.char)).before args0 about1 = true := code_word (m := ⟨7, 3⟩) (meth := k7m3) (c := k7c3) (by decide +kernel) rfl rfl rfl (by decide +kernel)
set_option maxRecDepth 65536 in
theorem w_c13 : (Jvm.Cond.code ({ cls := "java/lang/String", name := "isLatin1", desc := "()Z" } : Jvm.MethodName) jdk_42_method_154_code (1 : Nat) (Option.some Jvm.ClassFile.FieldType.boolean)).before args0 about1 = true := code_word (m := ⟨7, 8⟩) (meth := k7m8) (c := k7c8) (by decide +kernel) rfl rfl rfl (by decide +kernel)
set_option maxRecDepth 65536 in
theorem w_c14 : (Jvm.Cond.code ({ cls := "java/lang/StringLatin1", name := "charAt", desc := "([BI)C" } : Jvm.MethodName) jdk_43_method_2_code (2 : Nat) (Option.some Jvm.ClassFile.FieldType.char)).before args0 about1 = true := code_word (m := ⟨11, 1⟩) (meth := k11m1) (c := k11c1) (by decide +kernel) rfl rfl rfl (by decide +kernel)
set_option maxRecDepth 65536 in
theorem w_c15 : (Jvm.Cond.code ({ cls := "java/lang/String", name := "checkIndex", desc := "(II)V" } : Jvm.MethodName) jdk_42_method_155_code (2 : Nat) (Option.none : Option Jvm.ClassFile.FieldType)).before args0 about1 = true := code_word (m := ⟨7, 9⟩) (meth := k7m9) (c := k7c9) (by decide +kernel) rfl rfl rfl (by decide +kernel)
set_option maxRecDepth 65536 in
theorem w_c16 : (Jvm.Cond.code ({ cls := "jdk/internal/util/Preconditions", name := "checkIndex", desc := "(IILjava/util/function/BiFunction;)I" } : Jvm.MethodName) jdk_41_method_11_code (3 : Nat) (Option.some Jvm.ClassFile.FieldType.int)).before args0 about1 = true := code_word (m := ⟨12, 1⟩) (meth := k12m1) (c := k12c1) (by decide +kernel) rfl rfl rfl (by decide +kernel)
set_option maxRecDepth 65536 in
theorem w_c17 : (Jvm.Cond.code ({ cls := "org/holdfast/model/Content", name := "isSpace", desc := "(C)Z" } : Jvm.MethodName) prog_17_method_6_code (1 : Nat) (Option.some Jvm.ClassFile.FieldType.boolean)).before args0 about1 = true := code_word (m := ⟨10, 1⟩) (meth := k10m1) (c := k10c1) (by decide +kernel) rfl rfl rfl (by decide +kernel)
set_option maxRecDepth 65536 in
theorem w_c18 : (Jvm.Cond.code ({ cls := "java/lang/String", name := "substring", desc := "(II)Ljava/lang/String;" } : Jvm.MethodName) jdk_42_method_92_code (5 : Nat) (Option.some (Jvm.ClassFile.FieldType.object "java/lang/String"))).before args0 about1 = true := code_word (m := ⟨7, 4⟩) (meth := k7m4) (c := k7c4) (by decide +kernel) rfl rfl rfl (by decide +kernel)
set_option maxRecDepth 65536 in
theorem w_c19 : (Jvm.Cond.code ({ cls := "java/lang/String", name := "checkBoundsBeginEnd", desc := "(III)V" } : Jvm.MethodName) jdk_42_method_158_code (3 : Nat) (Option.none : Option Jvm.ClassFile.FieldType)).before args0 about1 = true := code_word (m := ⟨7, 10⟩) (meth := k7m10) (c := k7c10) (by decide +kernel) rfl rfl rfl (by decide +kernel)
set_option maxRecDepth 65536 in
theorem w_c20 : (Jvm.Cond.code ({ cls := "jdk/internal/util/Preconditions", name := "checkFromToIndex", desc := "(IIILjava/util/function/BiFunction;)I" } : Jvm.MethodName) jdk_41_method_12_code (4 : Nat) (Option.some Jvm.ClassFile.FieldType.int)).before args0 about1 = true := code_word (m := ⟨12, 2⟩) (meth := k12m2) (c := k12c2) (by decide +kernel) rfl rfl rfl (by decide +kernel)
set_option maxRecDepth 65536 in
theorem w_c21 : (Jvm.Cond.code ({ cls := "org/holdfast/model/ContentWithoutSpacePinLaw", name := "sp", desc := "(C)Z" } : Jvm.MethodName) method_3_code (1 : Nat) (Option.some Jvm.ClassFile.FieldType.boolean)).before args0 about1 = true := code_word (m := ⟨1, 2⟩) (meth := k1m2) (c := k1c2) (by decide +kernel) rfl rfl rfl (by decide +kernel)
set_option maxRecDepth 65536 in
theorem w_c22 : (Jvm.Cond.code ({ cls := "java/lang/StringLatin1", name := "newString", desc := "([BII)Ljava/lang/String;" } : Jvm.MethodName) jdk_43_method_47_code (3 : Nat) (Option.some (Jvm.ClassFile.FieldType.object "java/lang/String"))).before args0 about1 = true := code_word (m := ⟨11, 2⟩) (meth := k11m2) (c := k11c2) (by decide +kernel) rfl rfl rfl (by decide +kernel)
set_option maxRecDepth 65536 in
theorem w_c23 : (Jvm.Cond.code ({ cls := "java/util/Arrays", name := "copyOfRange", desc := "([BII)[B" } : Jvm.MethodName) jdk_65_method_132_code (3 : Nat) (Option.some (Jvm.ClassFile.FieldType.array Jvm.ClassFile.FieldType.byte))).before args0 about1 = true := code_word (m := ⟨13, 2⟩) (meth := k13m2) (c := k13c2) (by decide +kernel) rfl rfl rfl (by decide +kernel)
set_option maxRecDepth 65536 in
theorem w_c24 : (Jvm.Cond.code ({ cls := "java/util/Arrays", name := "copyOfRangeByte", desc := "([BII)[B" } : Jvm.MethodName) jdk_65_method_133_code (5 : Nat) (Option.some (Jvm.ClassFile.FieldType.array Jvm.ClassFile.FieldType.byte))).before args0 about1 = true := code_word (m := ⟨13, 3⟩) (meth := k13m3) (c := k13c3) (by decide +kernel) rfl rfl rfl (by decide +kernel)
set_option maxRecDepth 65536 in
theorem w_c25 : (Jvm.Cond.code ({ cls := "java/util/Arrays", name := "checkLength", desc := "(II)V" } : Jvm.MethodName) jdk_65_method_131_code (2 : Nat) (Option.none : Option Jvm.ClassFile.FieldType)).before args0 about1 = true := code_word (m := ⟨13, 1⟩) (meth := k13m1) (c := k13c1) (by decide +kernel) rfl rfl rfl (by decide +kernel)
set_option maxRecDepth 65536 in
theorem w_c26 : (Jvm.Cond.code ({ cls := "java/lang/Math", name := "min", desc := "(II)I" } : Jvm.MethodName) jdk_29_method_69_code (2 : Nat) (Option.some Jvm.ClassFile.FieldType.int)).before args0 about1 = true := code_word (m := ⟨14, 1⟩) (meth := k14m1) (c := k14c1) (by decide +kernel) rfl rfl rfl (by decide +kernel)
set_option maxRecDepth 65536 in
theorem w_c27 : (Jvm.Cond.code ({ cls := "java/lang/String", name := "<init>", desc := "([BB)V" } : Jvm.MethodName) jdk_42_method_151_code (3 : Nat) (Option.none : Option Jvm.ClassFile.FieldType)).before args0 about1 = true := code_word (m := ⟨7, 6⟩) (meth := k7m6) (c := k7c6) (by decide +kernel) rfl rfl rfl (by decide +kernel)
def codes1 : List Jvm.Cond := [Jvm.Cond.code x code maxLocals ret, Jvm.Cond.code ({ cls := "org/holdfast/model/ContentWithoutSpacePinLaw", name := "ch", desc := "(I)C" } : Jvm.MethodName) method_4_code (2 : Nat) (Option.some Jvm.ClassFile.FieldType.char), Jvm.Cond.code ({ cls := "org/holdfast/model/ContentWithoutSpacePinLaw", name := "prefix", desc := "([CI)Ljava/lang/String;" } : Jvm.MethodName) method_5_code (2 : Nat) (Option.some (Jvm.ClassFile.FieldType.object "java/lang/String")), Jvm.Cond.code ({ cls := "java/lang/String", name := "<init>", desc := "([C)V" } : Jvm.MethodName) jdk_42_method_3_code (2 : Nat) (Option.none : Option Jvm.ClassFile.FieldType), Jvm.Cond.code ({ cls := "java/lang/String", name := "<init>", desc := "([CIILjava/lang/Void;)V" } : Jvm.MethodName) jdk_42_method_149_code (6 : Nat) (Option.none : Option Jvm.ClassFile.FieldType), Jvm.Cond.code ({ cls := "java/lang/Object", name := "<init>", desc := "()V" } : Jvm.MethodName) object_method_1_code (1 : Nat) (Option.none : Option Jvm.ClassFile.FieldType), Jvm.Cond.code ({ cls := "java/lang/StringUTF16", name := "compress", desc := "([CII)[B" } : Jvm.MethodName) jdk_52_method_16_code (6 : Nat) (Option.some (Jvm.ClassFile.FieldType.array Jvm.ClassFile.FieldType.byte)), Jvm.Cond.code ({ cls := "java/lang/StringUTF16", name := "compress", desc := "([CI[BII)I" } : Jvm.MethodName) jdk_52_method_21_code (7 : Nat) (Option.some Jvm.ClassFile.FieldType.int), Jvm.Cond.code ({ cls := "java/lang/StringUTF16", name := "coderFromArrayLen", desc := "([BI)B" } : Jvm.MethodName) jdk_52_method_15_code (2 : Nat) (Option.some Jvm.ClassFile.FieldType.byte), Jvm.Cond.code ({ cls := "org/holdfast/model/Content", name := "withoutSpace", desc := "(Ljava/lang/String;)Ljava/lang/String;" } : Jvm.MethodName) prog_17_method_4_code (3 : Nat) (Option.some (Jvm.ClassFile.FieldType.object "java/lang/String")), Jvm.Cond.code ({ cls := "java/lang/String", name := "length", desc := "()I" } : Jvm.MethodName) jdk_42_method_54_code (1 : Nat) (Option.some Jvm.ClassFile.FieldType.int), Jvm.Cond.code ({ cls := "java/lang/String", name := "coder", desc := "()B" } : Jvm.MethodName) jdk_42_method_152_code (1 : Nat) (Option.some Jvm.ClassFile.FieldType.byte), Jvm.Cond.code ({ cls := "java/lang/String", name := "charAt", desc := "(I)C" } : Jvm.MethodName) jdk_42_method_56_code (2 : Nat) (Option.some Jvm.ClassFile.FieldType.char), Jvm.Cond.code ({ cls := "java/lang/String", name := "isLatin1", desc := "()Z" } : Jvm.MethodName) jdk_42_method_154_code (1 : Nat) (Option.some Jvm.ClassFile.FieldType.boolean), Jvm.Cond.code ({ cls := "java/lang/StringLatin1", name := "charAt", desc := "([BI)C" } : Jvm.MethodName) jdk_43_method_2_code (2 : Nat) (Option.some Jvm.ClassFile.FieldType.char), Jvm.Cond.code ({ cls := "java/lang/String", name := "checkIndex", desc := "(II)V" } : Jvm.MethodName) jdk_42_method_155_code (2 : Nat) (Option.none : Option Jvm.ClassFile.FieldType), Jvm.Cond.code ({ cls := "jdk/internal/util/Preconditions", name := "checkIndex", desc := "(IILjava/util/function/BiFunction;)I" } : Jvm.MethodName) jdk_41_method_11_code (3 : Nat) (Option.some Jvm.ClassFile.FieldType.int), Jvm.Cond.code ({ cls := "org/holdfast/model/Content", name := "isSpace", desc := "(C)Z" } : Jvm.MethodName) prog_17_method_6_code (1 : Nat) (Option.some Jvm.ClassFile.FieldType.boolean), Jvm.Cond.code ({ cls := "java/lang/String", name := "substring", desc := "(II)Ljava/lang/String;" } : Jvm.MethodName) jdk_42_method_92_code (5 : Nat) (Option.some (Jvm.ClassFile.FieldType.object "java/lang/String")), Jvm.Cond.code ({ cls := "java/lang/String", name := "checkBoundsBeginEnd", desc := "(III)V" } : Jvm.MethodName) jdk_42_method_158_code (3 : Nat) (Option.none : Option Jvm.ClassFile.FieldType), Jvm.Cond.code ({ cls := "jdk/internal/util/Preconditions", name := "checkFromToIndex", desc := "(IIILjava/util/function/BiFunction;)I" } : Jvm.MethodName) jdk_41_method_12_code (4 : Nat) (Option.some Jvm.ClassFile.FieldType.int), Jvm.Cond.code ({ cls := "org/holdfast/model/ContentWithoutSpacePinLaw", name := "sp", desc := "(C)Z" } : Jvm.MethodName) method_3_code (1 : Nat) (Option.some Jvm.ClassFile.FieldType.boolean), Jvm.Cond.code ({ cls := "java/lang/StringLatin1", name := "newString", desc := "([BII)Ljava/lang/String;" } : Jvm.MethodName) jdk_43_method_47_code (3 : Nat) (Option.some (Jvm.ClassFile.FieldType.object "java/lang/String")), Jvm.Cond.code ({ cls := "java/util/Arrays", name := "copyOfRange", desc := "([BII)[B" } : Jvm.MethodName) jdk_65_method_132_code (3 : Nat) (Option.some (Jvm.ClassFile.FieldType.array Jvm.ClassFile.FieldType.byte)), Jvm.Cond.code ({ cls := "java/util/Arrays", name := "copyOfRangeByte", desc := "([BII)[B" } : Jvm.MethodName) jdk_65_method_133_code (5 : Nat) (Option.some (Jvm.ClassFile.FieldType.array Jvm.ClassFile.FieldType.byte)), Jvm.Cond.code ({ cls := "java/util/Arrays", name := "checkLength", desc := "(II)V" } : Jvm.MethodName) jdk_65_method_131_code (2 : Nat) (Option.none : Option Jvm.ClassFile.FieldType), Jvm.Cond.code ({ cls := "java/lang/Math", name := "min", desc := "(II)I" } : Jvm.MethodName) jdk_29_method_69_code (2 : Nat) (Option.some Jvm.ClassFile.FieldType.int), Jvm.Cond.code ({ cls := "java/lang/String", name := "<init>", desc := "([BB)V" } : Jvm.MethodName) jdk_42_method_151_code (3 : Nat) (Option.none : Option Jvm.ClassFile.FieldType)]
set_option maxRecDepth 65536 in
theorem codes_eq : words1.filter isCode = codes1 := rfl
theorem w_codes : ∀ c ∈ words1.filter isCode, c.before args0 about1 = true := by
  rw [codes_eq]
  intro c hc
  simp only [codes1, List.mem_cons, List.not_mem_nil, or_false] at hc
  rcases hc with rfl | rfl | rfl | rfl | rfl | rfl | rfl | rfl | rfl | rfl | rfl | rfl | rfl | rfl | rfl | rfl | rfl | rfl | rfl | rfl | rfl | rfl | rfl | rfl | rfl | rfl | rfl | rfl
  · exact w_c0
  · exact w_c1
  · exact w_c2
  · exact w_c3
  · exact w_c4
  · exact w_c5
  · exact w_c6
  · exact w_c7
  · exact w_c8
  · exact w_c9
  · exact w_c10
  · exact w_c11
  · exact w_c12
  · exact w_c13
  · exact w_c14
  · exact w_c15
  · exact w_c16
  · exact w_c17
  · exact w_c18
  · exact w_c19
  · exact w_c20
  · exact w_c21
  · exact w_c22
  · exact w_c23
  · exact w_c24
  · exact w_c25
  · exact w_c26
  · exact w_c27
set_option maxRecDepth 65536 in
theorem w_t1 : (words1.take 24).all (fun c => isCode c || c.before args0 about1) = true := by decide +kernel
set_option maxRecDepth 65536 in
theorem w_t2 : ((words1.drop 24).take 24).all (fun c => isCode c || c.before args0 about1) = true := by decide +kernel
set_option maxRecDepth 65536 in
theorem w_t3 : (((words1.drop 24).drop 24).take 24).all (fun c => isCode c || c.before args0 about1) = true := by decide +kernel
set_option maxRecDepth 65536 in
theorem w_t4 : ((((words1.drop 24).drop 24).drop 24).take 24).all (fun c => isCode c || c.before args0 about1) = true := by decide +kernel
set_option maxRecDepth 65536 in
theorem w_t5 : (((((words1.drop 24).drop 24).drop 24).drop 24).take 24).all (fun c => isCode c || c.before args0 about1) = true := by decide +kernel
set_option maxRecDepth 65536 in
theorem w_t6 : (((((words1.drop 24).drop 24).drop 24).drop 24).drop 24).all (fun c => isCode c || c.before args0 about1) = true := by decide +kernel
theorem w_tables : (allAtoms (Jvm.Cond.code x code maxLocals ret :: tables_1)).before args0 about1 = true := by
  rw [allAtoms_all]
  show words1.all (fun c => c.before args0 about1) = true
  refine all_split ?_ w_codes
  rw [← List.take_append_drop 24 words1, List.all_append, w_t1, ← List.take_append_drop 24 (words1.drop 24), List.all_append, w_t2, ← List.take_append_drop 24 ((words1.drop 24).drop 24), List.all_append, w_t3, ← List.take_append_drop 24 (((words1.drop 24).drop 24).drop 24), List.all_append, w_t4, ← List.take_append_drop 24 ((((words1.drop 24).drop 24).drop 24).drop 24), List.all_append, w_t5, w_t6]
  rfl
set_option maxRecDepth 65536 in
theorem w_rest : rest_1_c.before args0 about1 = true := by decide +kernel
set_option maxRecDepth 65536 in
theorem w_case : (Jvm.Cond.and given_1 narrow_1).before args0 about1 = true := by decide +kernel
set_option maxRecDepth 65536 in
theorem w_consts : constsHeld consts_1 about1 := Jvm.Lit.constsHeldB_iff.mp (by decide +kernel)
theorem w_applies : (headSpec (Jvm.Cond.code x code maxLocals ret :: tables_1) room_1).applies x e0.platform about1 = true :=
  (Spec.applies_iff w_frames).mpr ⟨w_running, w_runnable, w_alone, w_named, w_hears, w_ripe, w_room, w_tables⟩
theorem atStart : AtStart classFile x code maxLocals ret World_1 tables_1 room_1 Calls_1 rest_1 Pre_1 launch0 p0 e0 about1 theMethod args0 below0 :=
  ⟨lists_1, trivial, launch0.admits_env _ _ _, launch0.least_env, fairChoices_fair.cas, fairChoices_fair.clock, w_frames, w_args, w_heap, w_applies, ⟨w_consts, trivial⟩, w_rest, w_case⟩
end start1
theorem witness_1 : WitnessClaimed_1 := ⟨start1.p0, start1.e0, start1.about1, start1.theMethod, start1.args0, start1.below0, start1.atStart⟩
end Jvm.Pilot.@@N@@
