import JvmDerived
import JvmDerived.Pilot.@@N@@Statement
import JvmDerived.Pilot.@@N@@Code
set_option linter.unusedVariables false
set_option linter.unusedSimpArgs false
set_option maxRecDepth 65536
set_option maxHeartbeats 40000000
namespace Jvm.Ow
open Jvm Jvm.ClassFile Sem Op Lib Jvm.Free Jvm.Stand Jvm.LawKit Jvm.RoadKit Bundle
theorem ltA {a b : Nat} (h : a < b) : a < b := h
theorem leA {a b : Nat} (h : a ≤ b) : a ≤ b := h
theorem neA {a b : Nat} (h : a ≠ b) : a ≠ b := h
abbrev vI (x : Int32) : Slot := .val (.int x)
abbrev vR (a : Addr) : Slot := .val (.ref a)
theorem mroom {x W : Nat} {rest : List Value} (hx : x = 0) (h : (rest.map fun v => v.category).sum = W) : 2 * x + (rest.map fun v => v.category).sum ≤ W := by subst hx; omega
theorem sz {n k x : Nat} (h : x = k) (q : n = k) : n = x := q.trans h.symm
section Base
variable {p : Program} {l : Launch} {e : Env} {R : Room} {s : State} {m : MethodId} {args : Array Value} {below : List Frame} {meth : Method} {c : Code} {own : String} {Z : State} {a0 : Array Value} {EL : List (String × Nat)} {h0 : Heap} {T : State} {h h' : Heap} {vm vm' : Vm} {cells slots : Nat} {P : Outcome → State → Prop} {g : JFrame}
/-- from t the invocation comes to an end at which P holds -/
def Gets (p : Program) (e : Env) (below : List Frame) (P : Outcome → State → Prop) (t : State) : Prop := ∃ u o, Steps p.tables e below t u ∧ u.status = .running ∧ Ended u below o ∧ P o u
theorem Gets.via {t t' : State} (h : ∀ u, Steps p.tables e below t' u → Steps p.tables e below t u) (k : Gets p e below P t') : Gets p e below P t := by
  obtain ⟨u, o, h1, h2⟩ := k
  exact ⟨u, o, h _ h1, h2⟩
theorem Gets.steps {t t' : State} (h : Steps p.tables e below t t') (k : Gets p e below P t') : Gets p e below P t := k.via fun _ q => h.trans q
/-- where a walk stands: over the start with the tables at hand; what it may have interned; what the literals hold; nothing of the law's start written -/
def Wk (p : Program) (l : Launch) (e : Env) (R : Room) (s : State) (m : MethodId) (args : Array Value) (below : List Frame) (meth : Method) (c : Code) (own : String) (Z : State) (a0 : Array Value) (EL : List (String × Nat)) (h0 : Heap) (T : State) (h : Heap) (vm : Vm) (cells slots : Nat) : Prop :=
  ∃ (locs : List Loc) (k : Nat), Stand p l e R (s.setVm vm) m args below meth c T locs cells slots ∧ T.heap = h ∧ s.Since vm k ∧ k ≤ h.size ∧ Z.Warmed39 vm ∧ vm.findClass own = some m.cls ∧ CHr Z EL s.vm h0 vm h ∧ Fr Z.heap.size locs ∧ Old Z Z.heap.size h ∧ p.tables.exec = Jvm.exec ∧ EW Z a0 EL ∧ s.heap = h0 ∧ meth.locks = false
/-- what an invocation leaves -/
def Out (s : State) (Z : State) (EL : List (String × Nat)) (rm : Room) (Q : Option Value → Vm → Heap → Prop) (o : Outcome) (u : State) : Prop :=
  ∃ (v : Option Value) (L : List Loc), o = .returned v ∧ (Q v u.vm u.heap ∧ Fr Z.heap.size L ∧ Old Z Z.heap.size u.heap) ∧ CHr Z EL s.vm s.heap u.vm u.heap ∧ ReturnedEndW s o u L rm.cells rm.slots
/-- a contract -/
def Met (l : Launch) (Z : State) (EL : List (String × Nat)) (y : MethodName) (bytes : ByteArray) (maxL : Nat) (ret : Option FieldType) (ws : List Jvm.Cond) (rm : Room) (sf : List Addr) (as : Array Value) (h : Heap) (Q : Option Value → Vm → Heap → Prop) : Prop :=
  MetFree l y (head1 (Jvm.Cond.code y bytes maxL ret :: ws) rm) (fun a U => a = as ∧ Z.Warmed39 U.vm ∧ U.heap = h ∧ CHv Z EL U.vm h ∧ ∀ x ∈ sf, Safe Z EL U.vm h x) (fun _ _ _ _ _ => True) (fun _ U o U' => Out U Z EL rm Q o U')
theorem Met.start {y : MethodName} {bytes : ByteArray} {maxL : Nat} {ret : Option FieldType} {ws : List Jvm.Cond} {rm : Room} {sf : List Addr} {as : Array Value} {Q : Option Value → Vm → Heap → Prop} (hp : plainFor y = true) (hEL : EW Z a0 EL) (hO : Old Z Z.heap.size h) {Ls : Array Slot} (hent : ∀ m, entryFrame m as maxL = mkF m 0 Ls [])
    (body : ∀ p e s m below meth c T vm, Wk p l e rm s m as below meth c y.cls Z a0 EL h T h vm 0 0 → (∀ x ∈ sf, Safe Z EL vm h x) → c.code = bytes → c.maxLocals = maxL → meth.sig.returnType = ret → meth.name = y.name → Gets p e below (Out s Z EL rm Q) (T.setTop (mkF m 0 Ls []))) :
    Met l Z EL y bytes maxL ret ws rm sf as h Q := by
  refine MetFree.of_bodySF hp hisR ?_
  intro p e s m args below meth c s₁ Bd hml0 hP hK
  obtain ⟨rfl, hZ, hh, hC, hsf⟩ := hP
  have e0 : s₁.heap = h := by rw [← hh, Bd.state]; rfl
  have X0 : Stand p l e rm s m args below meth c s₁ [] 0 0 := Stand.of_body Bd
  have hown : s.vm.findClass y.cls = some m.cls := findClass_of_methodNamed Bd.named
  have W0 : Wk p l e rm s m args below meth c y.cls Z a0 EL h s₁ h s.vm 0 0 :=
    ⟨[], 0, X0, e0, ⟨State.Warmed39.refl s, fun j q hj hq => absurd (Array.getElem?_eq_some_iff.mp hq).1 (Nat.not_lt.mpr hj)⟩, Nat.zero_le _, hZ, hown, CHr.refl hC, Fr.nil _, hO, Bd.exec, hEL, hh, Bd.notSynchronized⟩
  have k := body p e s m below meth c s₁ s.vm W0 hsf Bd.bytes hml0 Bd.returns (name_of_methodNamed Bd.named Bd.method).1
  obtain ⟨u, o, h1, h2, h3, h4⟩ := k
  exact ⟨u, o, castTop (hent m) h1, h2, h3, h4⟩
theorem Wk.at (X : Wk p l e R s m args below meth c own Z a0 EL h0 T h vm cells slots) : At T m c below := by obtain ⟨_, _, X, -⟩ := X; exact X.here
theorem Wk.hx (X : Wk p l e R s m args below meth c own Z a0 EL h0 T h vm cells slots) : p.tables.exec = Jvm.exec := by obtain ⟨_, _, -, -, -, -, -, -, -, -, -, q, -⟩ := X; exact q
theorem Wk.hZ (X : Wk p l e R s m args below meth c own Z a0 EL h0 T h vm cells slots) : Z.Warmed39 vm := by obtain ⟨_, _, -, -, -, -, q, -⟩ := X; exact q
theorem Wk.eT (X : Wk p l e R s m args below meth c own Z a0 EL h0 T h vm cells slots) : T.heap = h := by obtain ⟨_, _, -, q, -⟩ := X; exact q
theorem Wk.old (X : Wk p l e R s m args below meth c own Z a0 EL h0 T h vm cells slots) : Old Z Z.heap.size h := by obtain ⟨_, _, -, -, -, -, -, -, -, -, q, -⟩ := X; exact q
theorem Wk.chv (X : Wk p l e R s m args below meth c own Z a0 EL h0 T h vm cells slots) : CHv Z EL vm h := by obtain ⟨_, _, -, -, -, -, -, -, q, -⟩ := X; exact q.1
theorem Wk.ew (X : Wk p l e R s m args below meth c own Z a0 EL h0 T h vm cells slots) : EW Z a0 EL := by obtain ⟨_, _, -, -, -, -, -, -, -, -, -, -, q, -⟩ := X; exact q
theorem Wk.ge (X : Wk p l e R s m args below meth c own Z a0 EL h0 T h vm cells slots) : Z.heap.size ≤ h.size := X.old.2.1
theorem Wk.sta (X : Wk p l e R s m args below meth c own Z a0 EL h0 T h vm cells slots) {C n d : String} {v : Value} (F : Sta Z Z.heap C n d v) : Sta Z h C n d v := F.ext X.old.2
theorem Wk.more (X : Wk p l e R s m args below meth c own Z a0 EL h0 T h vm cells slots) {cells' slots' : Nat} (q1 : cells ≤ cells') (q2 : slots ≤ slots') : Wk p l e R s m args below meth c own Z a0 EL h0 T h vm cells' slots' := by
  obtain ⟨locs, k, Y, r⟩ := X; exact ⟨locs, k, Y.mono q1 q2, r⟩
/-- a step that leaves heap and base -/
theorem Wk.still (X : Wk p l e R s m args below meth c own Z a0 EL h0 T h vm cells slots) {T' : State} (hY : ∀ locs, Stand p l e R (s.setVm vm) m args below meth c T locs cells slots → Stand p l e R (s.setVm vm) m args below meth c T' locs cells slots) (hT : T'.heap = h) : Wk p l e R s m args below meth c own Z a0 EL h0 T' h vm cells slots := by
  obtain ⟨locs, k, Y, -, r⟩ := X; exact ⟨locs, k, hY _ Y, hT, r⟩
theorem Wk.getF (X : Wk p l e R s m args below meth c own Z a0 EL h0 T h vm cells slots) {R0 O n d host : String} {index : Nat} (w : (Jvm.Cond.fieldLink own index R0 n d).before a0 Z = true ∨ (Jvm.Cond.fieldLinkNest own index R0 n d host).before a0 Z = true) (via : Via Z R0 O n d) {a : Addr} {v : Value} (F : Fld Z h a O n d v)
    (hg : g.method = m) {rest : List Value} (hs : g.stack = .ref a :: rest) (hd : decode c.code g.pc = .ok (.getfield index, 3))
    (k : ∀ T', Wk p l e R s m args below meth c own Z a0 EL h0 T' h vm cells slots → Gets p e below P (T'.setTop { g with pc := g.pc + 3, stack := v :: rest })) : Gets p e below P (T.setTop g) := by
  obtain ⟨locs, j, Y, eT, hS, hk, hZ, hown, hC, N, hO, hx, r⟩ := X
  obtain ⟨T', Y', e', st⟩ := RoadKit.getF Y hx hZ hown w via eT F hg hs hd
  exact (k T' ⟨locs, j, Y', e', hS, hk, hZ, hown, hC, N, hO, hx, r⟩).via st
theorem Wk.getS (X : Wk p l e R s m args below meth c own Z a0 EL h0 T h vm cells slots) {R0 O n d host : String} {index : Nat} (w : (Jvm.Cond.fieldLink own index R0 n d).before a0 Z = true ∨ (Jvm.Cond.fieldLinkNest own index R0 n d host).before a0 Z = true) (via : Via Z R0 O n d) {v : Value} (F : Sta Z h O n d v)
    (hg : g.method = m) (hd : decode c.code g.pc = .ok (.getstatic index, 3))
    (k : ∀ T', Wk p l e R s m args below meth c own Z a0 EL h0 T' h vm cells slots → Gets p e below P (T'.setTop { g with pc := g.pc + 3, stack := v :: g.stack })) : Gets p e below P (T.setTop g) := by
  obtain ⟨locs, j, Y, eT, hS, hk, hZ, hown, hC, N, hO, hx, r⟩ := X
  obtain ⟨T', Y', e', st⟩ := RoadKit.getS2 Y hx hZ hown w via eT F hg hd
  exact (k T' ⟨locs, j, Y', e', hS, hk, hZ, hown, hC, N, hO, hx, r⟩).via st
theorem Wk.cast (X : Wk p l e R s m args below meth c own Z a0 EL h0 T h vm cells slots) {K : String} {index : Nat} (w : (Jvm.Cond.classLink own index K).before a0 Z = true) {a : Addr} (F : Ins Z h a K true)
    (hg : g.method = m) {rest : List Value} (hs : g.stack = .ref a :: rest) (hd : decode c.code g.pc = .ok (.checkcast index, 3))
    (k : ∀ T', Wk p l e R s m args below meth c own Z a0 EL h0 T' h vm cells slots → Gets p e below P (T'.setTop { g with pc := g.pc + 3 })) : Gets p e below P (T.setTop g) := by
  obtain ⟨locs, j, Y, eT, hS, hk, hZ, hown, hC, N, hO, hx, r⟩ := X
  obtain ⟨T', Y', e', st⟩ := RoadKit.castY Y hx hZ hown w eT F hg hs hd
  exact (k T' ⟨locs, j, Y', e', hS, hk, hZ, hown, hC, N, hO, hx, r⟩).via st
theorem Wk.inst (X : Wk p l e R s m args below meth c own Z a0 EL h0 T h vm cells slots) {K : String} {index : Nat} (w : (Jvm.Cond.classLink own index K).before a0 Z = true) {a : Addr} (F : Ins Z h a K true)
    (hg : g.method = m) {rest : List Value} (hs : g.stack = .ref a :: rest) (hd : decode c.code g.pc = .ok (.instanceof index, 3))
    (k : ∀ T', Wk p l e R s m args below meth c own Z a0 EL h0 T' h vm cells slots → Gets p e below P (T'.setTop { g with pc := g.pc + 3, stack := .int 1 :: rest })) : Gets p e below P (T.setTop g) := by
  obtain ⟨locs, j, Y, eT, hS, hk, hZ, hown, hC, N, hO, hx, r⟩ := X
  obtain ⟨T', Y', e', st⟩ := RoadKit.instY Y hx hZ hown w eT F hg hs hd
  exact (k T' ⟨locs, j, Y', e', hS, hk, hZ, hown, hC, N, hO, hx, r⟩).via st
theorem Wk.objInit (X : Wk p l e R s m args below meth c own Z a0 EL h0 T h vm cells slots) {idx : Nat} (w1 : (Jvm.Cond.methodLink own idx Lib.objectInit).before a0 Z = true) (w2 : (Jvm.Cond.instanceMethod Lib.objectInit).before a0 Z = true) (w3 : (Jvm.Cond.code Lib.objectInit ⟨#[0xb1]⟩ 1 none).before a0 Z = true)
    (hg : g.method = m) (hsize : g.locals.size = c.maxLocals) {a : Addr} {rest : List Value} (hs : g.stack = .ref a :: rest) (hd : decode c.code g.pc = .ok (.invokespecial idx, 3)) (hf : 1 ≤ R.frames) {W : Nat} (hW : 2 * g.monitorRoom + (rest.map fun v => v.category).sum ≤ W) (hl : W + 12 ≤ R.locals)
    (k : ∀ T', Wk p l e R s m args below meth c own Z a0 EL h0 T' h vm cells slots → Gets p e below P (T'.setTop { g with pc := g.pc + 3, stack := rest })) : Gets p e below P (T.setTop g) := by
  obtain ⟨locs, j, Y, eT, hS, hk, hZ, hown, hC, N, hO, hx, r⟩ := X
  obtain ⟨T', Y', e', st⟩ := RoadKit.initO Y hx hZ hown w1 w2 w3 eT hg hsize hs hd hf hW hl
  exact (k T' ⟨locs, j, Y', e', hS, hk, hZ, hown, hC, N, hO, hx, r⟩).via st
theorem Wk.new (X : Wk p l e R s m args below meth c own Z a0 EL h0 T h vm cells slots) {C : String} {index n : Nat} (w : (Jvm.Cond.classLink own index C).before a0 Z = true) (wi : (Jvm.Cond.instantiable C n).before a0 Z = true) (wz : (Jvm.Cond.initialized C).before a0 Z = true)
    (hg : g.method = m) (hd : decode c.code g.pc = .ok (.new index, 3)) (hc : cells + 1 ≤ R.cells) (hl : slots + n ≤ R.slots)
    (k : ∀ T' h' a, Wk p l e R s m args below meth c own Z a0 EL h0 T' h' vm (cells + 1) (slots + n) → CHr Z EL vm h vm h' → Ext h h' → a = h.size → Exa Z h' a C → Safe Z EL vm h' a → (∀ {O nm d : String} {ty : FieldType}, Laid Z a0 C O nm d → parseFieldDescriptor d = some ty → Fld Z h' a O nm d (defaultValue ty)) → Gets p e below P (T'.setTop { g with pc := g.pc + 3, stack := .ref a :: g.stack })) : Gets p e below P (T.setTop g) := by
  obtain ⟨locs, j, Y, eT, hS, hk, hZ, hown, hC, N, hO, hx, r⟩ := X
  obtain ⟨T', h', Y', e', E, A, D, -, st⟩ := RoadKit.newO Y hx hZ hown w wi wz eT hg hd hc hl
  have C1 : CHr Z EL vm h vm h' := CHr.ext E hC.1
  exact (k T' h' h.size ⟨locs, j, Y', e', hS, Nat.le_trans hk E.1, hZ, hown, hC.trans C1, N, hO.ext E, hx, r⟩ C1 E rfl A (Safe.ext E hC.1 (Safe.new (Nat.le_refl _))) D).via st
theorem Wk.newA (X : Wk p l e R s m args below meth c own Z a0 EL h0 T h vm cells slots) {aty : ArrayType} (w : (Jvm.Cond.arrayClass (newarray.typeOf aty)).before a0 Z = true) (hg : g.method = m) (hd : decode c.code g.pc = .ok (.newarray aty, 2)) {n : Int32} {rest : List Value} (hs : g.stack = .int n :: rest)
    (hn : ¬ n < 0) {cap : Nat} (hcap : n.toNatClampNeg ≤ cap) (hb : cap * 8 ≤ 536870912) (hc : cells + 1 ≤ R.cells) (hl : slots + cap ≤ R.slots)
    (k : ∀ T' h' a kc, Wk p l e R s m args below meth c own Z a0 EL h0 T' h' vm (cells + 1) (slots + cap) → CHr Z EL vm h vm h' → Ext h h' → a = h.size → Safe Z EL vm h' a → Arv Z h' a kc (newarray.typeOf aty) n [] (defaultValue (newarray.typeOf aty)) → Gets p e below P (T'.setTop { g with pc := g.pc + 2, stack := .ref a :: rest })) : Gets p e below P (T.setTop g) := by
  obtain ⟨locs, j, Y, eT, hS, hk, hZ, hown, hC, N, hO, hx, r⟩ := X
  obtain ⟨T', h', kc, Y', e', E, A, st⟩ := RoadKit.newP Y hx hZ w eT hg hd hs hn hcap hb hc hl
  have C1 : CHr Z EL vm h vm h' := CHr.ext E hC.1
  exact (k T' h' h.size kc ⟨locs, j, Y', e', hS, Nat.le_trans hk E.1, hZ, hown, hC.trans C1, N, hO.ext E, hx, r⟩ C1 E rfl (Safe.ext E hC.1 (Safe.new (Nat.le_refl _))) (Arv.new A hn)).via st
theorem Wk.putF (X : Wk p l e R s m args below meth c own Z a0 EL h0 T h vm cells slots) {R0 O n d host C : String} {index kk : Nat} {ty : FieldType} (w : (Jvm.Cond.fieldLink own index R0 n d).before a0 Z = true ∨ (Jvm.Cond.fieldLinkNest own index R0 n d host).before a0 Z = true) (via : Via Z R0 O n d)
    {a : Addr} {v old : Value} (F : Fld Z h a O n d old) (E : Exa Z h a C) (L : (Jvm.Cond.lays C O n d).before a0 Z = true ∨ ((Jvm.Cond.laysFinal C O n d).before a0 Z = true ∧ own = O ∧ meth.name = "<init>")) (wi : (Jvm.Cond.instantiable C kk).before a0 Z = true)
    (hty : parseFieldDescriptor d = some ty) (hn : narrow ty v = v) (hf : fits ty v = true) (hge : Z.heap.size ≤ a) (S : Safe Z EL vm h a) (hg : g.method = m) {rest : List Value} (hs : g.stack = v :: .ref a :: rest) (hd : decode c.code g.pc = .ok (.putfield index, 3))
    (k : ∀ T' h', Wk p l e R s m args below meth c own Z a0 EL h0 T' h' vm cells slots → CHr Z EL vm h vm h' → Wr h h' a (RoadKit.slotOf Z O n d) v → Fld Z h' a O n d v → Exa Z h' a C → Gets p e below P (T'.setTop { g with pc := g.pc + 3, stack := rest })) : Gets p e below P (T.setTop g) := by
  obtain ⟨locs, j, Y, eT, hS, hk, hZ, hown, hC, N, hO, hx, r⟩ := X
  obtain ⟨T', h', Y', e', W, st⟩ := RoadKit.putF Y hx hZ hown w via eT F E L wi hty hn hf hg hs hd
  have C1 : CHr Z EL vm h vm h' := CHr.wr W S hC.1
  exact (k T' h' ⟨_, j, Y', e', hS, Nat.le_trans hk (Nat.le_of_eq W.size.symm), hZ, hown, hC.trans C1, Fr.snoc Y' N hge, hO.wr W hge, hx, r⟩ C1 W (F.same W) (E.wr W)).via st
theorem padN {k : ClassId} {ty : FieldType} {z : Int32} {d : Value} {a : Addr} (F : Arv Z h a k ty z [] d) (n : Nat) : Arv Z h a k ty z (List.replicate n d) d := F.pad fun i => by
  rw [List.getD_eq_getElem?_getD, List.getElem?_replicate]; split <;> simp
theorem Wk.stC (X : Wk p l e R s m args below meth c own Z a0 EL h0 T h vm cells slots) {a : Addr} {kc : ClassId} {n : Int32} {vs : List Value} {dv : Value} (A : Arv Z h a kc .char n vs dv) {j x : Int32} {i : Nat} (hj0 : ¬ j < 0) (hj : j.toNatClampNeg = i) (hi : i < vs.length) (hin : i < n.toNatClampNeg) {v : Int32} (hv : nar .char x = v)
    (hge : Z.heap.size ≤ a) (hg : g.method = m) {rest : List Value} (hs : g.stack = .int x :: .int j :: .ref a :: rest) (hd : decode c.code g.pc = .ok (.castore, 1))
    (k : ∀ T' h', Wk p l e R s m args below meth c own Z a0 EL h0 T' h' vm cells slots → CHr Z EL vm h vm h' → Keep h h' [a] → Arv Z h' a kc .char n (vs.set i (.int v)) dv → Gets p e below P (T'.setTop { g with pc := g.pc + 1, stack := rest })) : Gets p e below P (T.setTop g) := by
  obtain ⟨locs, j', Y, eT, hS, hk, hZ, hown, hC, N, hO, hx, r⟩ := X
  obtain ⟨cl, A1, A2, A3, A4, A5, A6⟩ := A
  obtain ⟨T', h', Y', e', W, st⟩ := RoadKit.stC Y hx hZ eT A1 (j := j) (x := x) (fun q => q.elim hj0 (fun q => by rw [A3, hj] at q; omega)) hg hs hd
  have C1 : CHr Z EL vm h vm h' := CHr.wr W (Safe.arr hZ.alike A1 (by decide)) hC.1
  subst hv
  exact (k T' h' ⟨_, j', Y', e', hS, Nat.le_trans hk (Nat.le_of_eq W.size.symm), hZ, hown, hC.trans C1, Fr.snoc Y' N hge, hO.wr W hge, hx, r⟩ C1 (Keep.of_wr W) (Arv.set A1 A2 A3 A4 A5 A6 (fits_nar_char x) W i hj hi)).via st
theorem Wk.stB (X : Wk p l e R s m args below meth c own Z a0 EL h0 T h vm cells slots) {a : Addr} {kc : ClassId} {n : Int32} {vs : List Value} {dv : Value} (A : Arv Z h a kc .byte n vs dv) {j x : Int32} {i : Nat} (hj0 : ¬ j < 0) (hj : j.toNatClampNeg = i) (hi : i < vs.length) (hin : i < n.toNatClampNeg) {v : Int32} (hv : nar .byte x = v) (S : Safe Z EL vm h a)
    (hge : Z.heap.size ≤ a) (hg : g.method = m) {rest : List Value} (hs : g.stack = .int x :: .int j :: .ref a :: rest) (hd : decode c.code g.pc = .ok (.bastore, 1))
    (k : ∀ T' h', Wk p l e R s m args below meth c own Z a0 EL h0 T' h' vm cells slots → CHr Z EL vm h vm h' → Keep h h' [a] → Arv Z h' a kc .byte n (vs.set i (.int v)) dv → Gets p e below P (T'.setTop { g with pc := g.pc + 1, stack := rest })) : Gets p e below P (T.setTop g) := by
  obtain ⟨locs, j', Y, eT, hS, hk, hZ, hown, hC, N, hO, hx, r⟩ := X
  obtain ⟨cl, A1, A2, A3, A4, A5, A6⟩ := A
  obtain ⟨T', h', Y', e', W, st⟩ := RoadKit.stB Y hx hZ eT A1 (j := j) (x := x) (fun q => q.elim hj0 (fun q => by rw [A3, hj] at q; omega)) hg hs hd
  have C1 : CHr Z EL vm h vm h' := CHr.wr W S hC.1
  subst hv
  exact (k T' h' ⟨_, j', Y', e', hS, Nat.le_trans hk (Nat.le_of_eq W.size.symm), hZ, hown, hC.trans C1, Fr.snoc Y' N hge, hO.wr W hge, hx, r⟩ C1 (Keep.of_wr W) (Arv.set A1 A2 A3 A4 A5 A6 (fits_nar_byte x) W i hj hi)).via st
theorem Wk.alen (X : Wk p l e R s m args below meth c own Z a0 EL h0 T h vm cells slots) {a : Addr} {kc : ClassId} {ty : FieldType} {n : Int32} {vs : List Value} {dv : Value} (A : Arv Z h a kc ty n vs dv)
    (hg : g.method = m) {rest : List Value} (hs : g.stack = .ref a :: rest) (hd : decode c.code g.pc = .ok (.arraylength, 1))
    (k : Gets p e below P (T.setTop { g with pc := g.pc + 1, stack := .int n :: rest })) : Gets p e below P (T.setTop g) := by
  obtain ⟨locs, j', Y, eT, hS, hk, hZ, hown, hC, N, hO, hx, r⟩ := X
  obtain ⟨cl, A1, A2, A3, A4, A5, A6⟩ := A
  refine k.via fun u q => ?_
  refine Y.arraylength hx (by rw [eT]; exact A1.1) (State.isArrayOf_alike hZ.alike A1.2.1) hg hs hd _ ?_
  rw [A3, (back32 A4).1]; exact q
theorem Wk.ldC (X : Wk p l e R s m args below meth c own Z a0 EL h0 T h vm cells slots) {a : Addr} {kc : ClassId} {n : Int32} {vs : List Value} {dv v : Value} (A : Arv Z h a kc .char n vs dv) {j : Int32} {i : Nat} (hj0 : ¬ j < 0) (hj : j.toNatClampNeg = i) (hin : i < n.toNatClampNeg) (hv : vs.getD i dv = v)
    (hg : g.method = m) {rest : List Value} (hs : g.stack = .int j :: .ref a :: rest) (hd : decode c.code g.pc = .ok (.caload, 1))
    (k : Gets p e below P (T.setTop { g with pc := g.pc + 1, stack := v :: rest })) : Gets p e below P (T.setTop g) := by
  obtain ⟨locs, j', Y, eT, hS, hk, hZ, hown, hC, N, hO, hx, r⟩ := X
  obtain ⟨cl, A1, A2, A3, A4, A5, A6⟩ := A
  refine k.via fun u q => ?_
  exact Y.caload hx (j := j) (v := v) (by rw [eT]; exact A1.1) (State.isArrayOf_alike hZ.alike A1.2.1) A1.2.2 (fun q => q.elim hj0 (fun q => by rw [A3, hj] at q; omega)) (by rw [hj, A5 i (by rw [A3]; exact hin), hv]) hg hs hd _ q
theorem Wk.ldB (X : Wk p l e R s m args below meth c own Z a0 EL h0 T h vm cells slots) {a : Addr} {kc : ClassId} {n : Int32} {vs : List Value} {dv v : Value} (A : Arv Z h a kc .byte n vs dv) {j : Int32} {i : Nat} (hj0 : ¬ j < 0) (hj : j.toNatClampNeg = i) (hin : i < n.toNatClampNeg) (hv : vs.getD i dv = v)
    (hg : g.method = m) {rest : List Value} (hs : g.stack = .int j :: .ref a :: rest) (hd : decode c.code g.pc = .ok (.baload, 1))
    (k : Gets p e below P (T.setTop { g with pc := g.pc + 1, stack := v :: rest })) : Gets p e below P (T.setTop g) := by
  obtain ⟨locs, j', Y, eT, hS, hk, hZ, hown, hC, N, hO, hx, r⟩ := X
  obtain ⟨cl, A1, A2, A3, A4, A5, A6⟩ := A
  refine k.via fun u q => ?_
  exact Y.baloadBytes hx (j := j) (v := v) (by rw [eT]; exact A1.1) (State.isArrayOf_alike hZ.alike A1.2.1) A1.2.2 (fun q => q.elim hj0 (fun q => by rw [A3, hj] at q; omega)) (by rw [hj, A5 i (by rw [A3]; exact hin), hv]) hg hs hd _ q
theorem Wk.ldR (X : Wk p l e R s m args below meth c own Z a0 EL h0 T h vm cells slots) {a : Addr} {kc : ClassId} {ty : FieldType} {n : Int32} {vs : List Value} {dv v : Value} (A : Arv Z h a kc ty n vs dv) (hty : ty.isReference = true) {j : Int32} {i : Nat} (hj0 : ¬ j < 0) (hj : j.toNatClampNeg = i) (hin : i < n.toNatClampNeg) (hv : vs.getD i dv = v)
    (hg : g.method = m) {rest : List Value} (hs : g.stack = .int j :: .ref a :: rest) (hd : decode c.code g.pc = .ok (.aaload, 1))
    (k : Gets p e below P (T.setTop { g with pc := g.pc + 1, stack := v :: rest })) : Gets p e below P (T.setTop g) := by
  obtain ⟨locs, j', Y, eT, hS, hk, hZ, hown, hC, N, hO, hx, r⟩ := X
  obtain ⟨cl, A1, A2, A3, A4, A5, A6⟩ := A
  refine k.via fun u q => ?_
  exact Y.aaload hx (j := j) (v := v) (by rw [eT]; exact A1.1) (State.isArrayOf_alike hZ.alike A1.2.1) hty A1.2.2 (fun q => q.elim hj0 (fun q => by rw [A3, hj] at q; omega)) (by rw [hj, A5 i (by rw [A3]; exact hin), hv]) hg hs hd _ q
theorem Wk.ldcI (X : Wk p l e R s m args below meth c own Z a0 EL h0 T h vm cells slots) {index : Nat} {v : Int32} (w : (Jvm.Cond.constant own index v).before a0 Z = true) (hg : g.method = m) (hd : decode c.code g.pc = .ok (.ldc index, 2))
    (k : Gets p e below P (T.setTop { g with pc := g.pc + 2, stack := .int v :: g.stack })) : Gets p e below P (T.setTop g) := by
  obtain ⟨locs, j', Y, eT, hS, hk, hZ, hown, hC, N, hO, hx, r⟩ := X
  exact k.via fun u q => Y.ldcI hx hown (mv (s := s.setVm vm) hZ w) hg hd q
theorem Wk.ldcJ (X : Wk p l e R s m args below meth c own Z a0 EL h0 T h vm cells slots) {index : Nat} {v : Int64} (w : (Jvm.Cond.constantLong own index v).before a0 Z = true) (hg : g.method = m) (hd : decode c.code g.pc = .ok (.ldc2_w index, 3))
    (k : Gets p e below P (T.setTop { g with pc := g.pc + 3, stack := .long v :: g.stack })) : Gets p e below P (T.setTop g) := by
  obtain ⟨locs, j', Y, eT, hS, hk, hZ, hown, hC, N, hO, hx, r⟩ := X
  exact k.via fun u q => Y.ldc2J hx hown (mv (s := s.setVm vm) hZ w) hg hd q
theorem Wk.acmpW (X : Wk p l e R s m args below meth c own Z a0 EL h0 T h vm cells slots) (hx : p.tables.exec = Jvm.exec) (hg : g.method = m) {cd : ACond} {x y : Value} (h1 : x.isRef = true) (h2 : y.isRef = true) {rest : List Value} {o : Int} {pc0 pc' : Nat} {same : Bool} (hpc : g.pc = pc0)
    (hd : decode c.code g.pc = .ok (.if_acmp cd o, 3)) (hs : g.stack = y :: x :: rest) (hq : decide (x = y) = same) (ho : 0 ≤ (pc0 : Int) + o) (hp : pc' = if acV cd same = true then ((pc0 : Int) + o).toNat else pc0 + 3)
    (k : Gets p e below P (T.setTop { g with pc := pc', stack := rest })) : Gets p e below P (T.setTop g) := by
  obtain ⟨locs, j', Y, -⟩ := X
  exact k.via fun u q => RoadKit.acmp Y hx hg h1 h2 hpc hd hs hq ho hp q
theorem plainS {K : String} {x y : MethodName} (w : (Jvm.Cond.selects K x y).before a0 Z = true) (hy : y.cls = K) : ∃ t kt, Z.vm.findClass K = some t ∧ Z.vm.classes[t]? = some kt ∧ kt.isInterface = false := by
  obtain ⟨c2, r2, m2, q1, q2, q3, q4, kP, hkP, hkPi⟩ := Cond.selects_spec w
  exact ⟨m2.cls, kP, hy ▸ findClass_of_methodNamed q3, hkP, hkPi⟩
theorem plainI {K : String} {n : Nat} (w : (Jvm.Cond.instantiable K n).before a0 Z = true) : ∃ t kt, Z.vm.findClass K = some t ∧ Z.vm.classes[t]? = some kt ∧ kt.isInterface = false := by
  obtain ⟨c, k, h1, h2, -, h3, -⟩ := Cond.instantiable_spec w
  exact ⟨c, k, h1, h2, by simp at h3; exact h3.1⟩
theorem ns_root {O K : String} (w : (Jvm.Cond.noSuperclass O).before a0 Z = true) (hk : ∃ t kt, Z.vm.findClass K = some t ∧ Z.vm.classes[t]? = some kt ∧ kt.isInterface = false) (hn : O ≠ K) : NS Z O K := by
  obtain ⟨c, k, h1, h2, h3, -, -⟩ := Cond.noSuperclass_spec w
  obtain ⟨t, kt, g1, -⟩ := hk
  have ne := ids_ne h1 g1 hn
  refine ⟨c, t, h1, g1, fun fuel => ?_⟩
  cases fuel with
  | zero => rfl
  | succ f => simp [Vm.isSubclassAux, ne, h2, h3]
theorem ns_no {C S K : String} (w : (Jvm.Cond.superclass C S).before a0 Z = true) (hk : ∃ t kt, Z.vm.findClass K = some t ∧ Z.vm.classes[t]? = some kt ∧ kt.isInterface = false) (n : NS Z C K) (hn : C ≠ K) : ∃ c t, Z.vm.findClass C = some c ∧ Z.vm.findClass K = some t ∧ Z.vm.assignable c t = false := by
  obtain ⟨c, t, h0, g0, n3⟩ := n
  obtain ⟨p, k, kp, h1, h2, h3, h4, h5, -, h7⟩ := Cond.superclass_spec h0 w
  obtain ⟨t', kt, g1, g2, g3⟩ := hk
  cases g0.symm.trans g1
  have ne := ids_ne h0 g0 hn
  refine ⟨c, t, h0, g0, ?_⟩
  show Z.vm.assignableAux (255 + 1) c t = false
  cases hk : kt.kind <;> simp [Vm.assignableAux, ne, h2, g2, h5, hk, g3, Vm.isSubclass, n3]
theorem Wk.instNo (X : Wk p l e R s m args below meth c own Z a0 EL h0 T h vm cells slots) {K C : String} {index : Nat} (w : (Jvm.Cond.classLink own index K).before a0 Z = true) {a : Addr} (E : Exa Z h a C) (F : ∃ c t, Z.vm.findClass C = some c ∧ Z.vm.findClass K = some t ∧ Z.vm.assignable c t = false)
    (hg : g.method = m) {rest : List Value} (hs : g.stack = .ref a :: rest) (hd : decode c.code g.pc = .ok (.instanceof index, 3))
    (k : ∀ T', Wk p l e R s m args below meth c own Z a0 EL h0 T' h vm cells slots → Gets p e below P (T'.setTop { g with pc := g.pc + 3, stack := .int 0 :: rest })) : Gets p e below P (T.setTop g) := by
  obtain ⟨locs, j, Y, eT, hS, hk, hZ, hown, hC, N, hO, hx, r⟩ := X
  obtain ⟨T', Y', e', st⟩ := RoadKit.instNo Y hx hZ hown w eT E F hg hs hd
  exact (k T' ⟨locs, j, Y', e', hS, hk, hZ, hown, hC, N, hO, hx, r⟩).via st
theorem Wk.getC (X : Wk p l e R s m args below meth c own Z a0 EL h0 T h vm cells slots) {C : String} {index : Nat}
    (w1 : (Jvm.Cond.methodLink own index ⟨"java/lang/Object", "getClass", "()Ljava/lang/Class;"⟩).before a0 Z = true) (w2 : (Jvm.Cond.declares ⟨"java/lang/Object", "getClass", "()Ljava/lang/Class;"⟩).before a0 Z = true) (w3 : (Jvm.Cond.noSuperclass "java/lang/Object").before a0 Z = true) (w4 : (Jvm.Cond.selects C ⟨"java/lang/Object", "getClass", "()Ljava/lang/Class;"⟩ ⟨"java/lang/Object", "getClass", "()Ljava/lang/Class;"⟩).before a0 Z = true)
    (w5 : (Jvm.Cond.instanceMethod ⟨"java/lang/Object", "getClass", "()Ljava/lang/Class;"⟩).before a0 Z = true) (w6 : (Jvm.Cond.native ⟨"java/lang/Object", "getClass", "()Ljava/lang/Class;"⟩).before a0 Z = true) {a : Addr} (E : Exa Z h a C) {mr : Addr} (M : Mir Z C mr)
    (hg : g.method = m) (hsize : g.locals.size = c.maxLocals) {rest : List Value} (hs : g.stack = .ref a :: rest) (hd : decode c.code g.pc = .ok (.invokevirtual index, 3)) (hf : 1 ≤ R.frames) {W : Nat} (hW : 2 * g.monitorRoom + (rest.map fun v => v.category).sum ≤ W) (hl : W + (nativeFrameWords "java/lang/Object" "getClass" 1 + 11) ≤ R.locals)
    (k : ∀ T', Wk p l e R s m args below meth c own Z a0 EL h0 T' h vm cells slots → Gets p e below P (T'.setTop { g with pc := g.pc + 3, stack := .ref mr :: rest })) : Gets p e below P (T.setTop g) := by
  obtain ⟨locs, j, Y, eT, hS, hk, hZ, hown, hC, N, hO, hx, r⟩ := X
  obtain ⟨T', Y', e', st⟩ := RoadKit.gcls Y hx hZ hown w1 w2 w3 w4 w5 w6 eT E M hg hsize hs hd hf hW hl
  exact (k T' ⟨locs, j, Y', e', hS, hk, hZ, hown, hC, N, hO, hx, r⟩).via st
theorem mir_eval {C : String} {mr : Addr} (hal : Z.vm.Alike s.vm) (M : Mir Z C mr) : (Term.mirror C).eval args s none [] s = some (.ref mr) := by
  obtain ⟨cc, kc, m1, m2, m3, -⟩ := M
  obtain ⟨k', q1, q2⟩ := hal.2.2 _ _ m2
  have q3 : s.vm.findClass C = some cc := by rw [hal.findClass]; exact m1
  have q4 : k'.mirror = some mr := by rw [q2]; exact m3
  simp [Term.eval, q3, q1, q4]
theorem Wk.ldcM (X : Wk p l e R s m args below meth c own Z a0 EL h0 T h vm cells slots) {C : String} {index : Nat} (w : (Jvm.Cond.classLink own index C).before a0 Z = true) {mr : Addr} (M : Mir Z C mr) (hg : g.method = m) (hd : decode c.code g.pc = .ok (.ldc index, 2))
    (k : ∀ T', Wk p l e R s m args below meth c own Z a0 EL h0 T' h vm cells slots → Gets p e below P (T'.setTop { g with pc := g.pc + 2, stack := .ref mr :: g.stack })) : Gets p e below P (T.setTop g) := by
  obtain ⟨locs, j, Y, eT, hS, hk, hZ, hown, hC, N, hO, hx, r⟩ := X
  obtain ⟨vm', Y', st⟩ := Y.ldcMirror hx hown (mv (s := s.setVm vm) hZ w) (mir_eval (s := s.setVm vm) hZ.alike M) hg hd
  exact (k _ ⟨locs, j, Y', eT, hS, hk, hZ, hown, hC, N, hO, hx, r⟩).via st
theorem Wk.newR (X : Wk p l e R s m args below meth c own Z a0 EL h0 T h vm cells slots) {C : String} {index : Nat} (w1 : (Jvm.Cond.classLink own index C).before a0 Z = true) (w2 : (Jvm.Cond.arrayOver (.object C)).before a0 Z = true) (hg : g.method = m) (hd : decode c.code g.pc = .ok (.anewarray index, 3)) {n : Int32} {rest : List Value} (hs : g.stack = .int n :: rest)
    (hn : ¬ n < 0) {cap : Nat} (hcap : n.toNatClampNeg ≤ cap) (hb : cap * 8 ≤ 536870912) (hc : cells + 1 ≤ R.cells) (hl : slots + cap ≤ R.slots) {ad : String} (had : "[" ++ (FieldType.object C).toString = ad)
    (k : ∀ T' h' a kc, Wk p l e R s m args below meth c own Z a0 EL h0 T' h' vm (cells + 1) (slots + cap) → CHr Z EL vm h vm h' → Ext h h' → a = h.size → Exa Z h' a ad → Ovr Z kc C → Arv Z h' a kc (.object C) n [] .null → Gets p e below P (T'.setTop { g with pc := g.pc + 3, stack := .ref a :: rest })) : Gets p e below P (T.setTop g) := by
  obtain ⟨locs, j, Y, eT, hS, hk, hZ, hown, hC, N, hO, hx, r⟩ := X
  obtain ⟨T', h', kc, Y', e', E, A, Ea, Ov, st⟩ := RoadKit.newRE Y hx hZ hown w1 w2 eT hg hd hs hn hcap hb hc hl had
  have C1 : CHr Z EL vm h vm h' := CHr.ext E hC.1
  exact (k T' h' h.size kc ⟨locs, j, Y', e', hS, Nat.le_trans hk E.1, hZ, hown, hC.trans C1, N, hO.ext E, hx, r⟩ C1 E rfl Ea Ov (Arv.new A hn)).via st
theorem stoV {a y : Addr} {kc : ClassId} {ty : FieldType} {n : Int32} {vs : List Value} {dv : Value} {C : String} (A : Arv Z h a kc ty n vs dv) (O : Ovr Z kc C) (I : Ins Z h y C true) : Sto Z h a (.ref y) := by
  obtain ⟨cl, A1, A2, -⟩ := A; exact Sto.ofV A1 A2 O I
theorem Wk.stR (X : Wk p l e R s m args below meth c own Z a0 EL h0 T h vm cells slots) {a : Addr} {kc : ClassId} {C : String} {n : Int32} {vs : List Value} {dv : Value} (A : Arv Z h a kc (.object C) n vs dv) {v : Value} (F : Sto Z h a v) (hvr : fits (.object C) v = true) {j : Int32} {i : Nat} (hj0 : ¬ j < 0) (hj : j.toNatClampNeg = i) (hi : i < vs.length) (hin : i < n.toNatClampNeg)
    (hge : Z.heap.size ≤ a) (hg : g.method = m) {rest : List Value} (hs : g.stack = v :: .int j :: .ref a :: rest) (hd : decode c.code g.pc = .ok (.aastore, 1))
    (k : ∀ T' h', Wk p l e R s m args below meth c own Z a0 EL h0 T' h' vm cells slots → CHr Z EL vm h vm h' → Keep h h' [a] → Arv Z h' a kc (.object C) n (vs.set i v) dv → Gets p e below P (T'.setTop { g with pc := g.pc + 1, stack := rest })) : Gets p e below P (T.setTop g) := by
  obtain ⟨locs, j', Y, eT, hS, hk, hZ, hown, hC, N, hO, hx, r⟩ := X
  obtain ⟨cl, A1, A2, A3, A4, A5, A6⟩ := A
  obtain ⟨T', h', Y', e', W, st⟩ := RoadKit.stR Y hx hZ eT A1 (j := j) (fun q => q.elim hj0 (fun q => by rw [A3, hj] at q; omega)) rfl F hg hs hd
  have C1 : CHr Z EL vm h vm h' := CHr.wr W (Safe.arr hZ.alike A1 (by simp)) hC.1
  exact (k T' h' ⟨_, j', Y', e', hS, Nat.le_trans hk (Nat.le_of_eq W.size.symm), hZ, hown, hC.trans C1, Fr.snoc Y' N hge, hO.wr W hge, hx, r⟩ C1 (Keep.of_wr W) (Arv.set A1 A2 A3 A4 A5 A6 hvr W i hj hi)).via st
theorem Wk.copy (X : Wk p l e R s m args below meth c own Z a0 EL h0 T h vm cells slots) {index : Nat}
    (w1 : (Jvm.Cond.methodLink own index Jvm.Stand.acN).before a0 Z = true) (w2 : (Jvm.Cond.native Jvm.Stand.acN).before a0 Z = true) (w3 : (Jvm.Cond.static Jvm.Stand.acN).before a0 Z = true) (w4 : (Jvm.Cond.initialized "java/lang/System").before a0 Z = true)
    {a b : Addr} {k k' : ClassId} {ty ty' : FieldType} {z z' sp dp nn : Int32} {vs vd us : List Value} {dv dd : Value} (A : Arv Z h a k ty z vs dv) (B : Arv Z h b k' ty' z' vd dd) (hty : (ty = ty' ∧ refKind ty = false) ∨ (refKind ty = true ∧ refKind ty' = true ∧ StoL Z h b us))
    (h1 : ¬ sp < 0) (h2 : ¬ dp < 0) (h3 : ¬ nn < 0) (h4 : sp.toNatClampNeg + nn.toNatClampNeg ≤ z.toNatClampNeg) (h5 : dp.toNatClampNeg + nn.toNatClampNeg ≤ z'.toNatClampNeg)
    (hus : us = (List.range nn.toNatClampNeg).map fun i => vs.getD (sp.toNatClampNeg + i) dv) (hl : dp.toNatClampNeg + nn.toNatClampNeg ≤ vd.length) (ge : Z.heap.size ≤ b) (S : Safe Z EL vm h b)
    (hg : g.method = m) (hsize : g.locals.size = c.maxLocals) {rest : List Value} (hs : g.stack = .int nn :: .int dp :: .ref b :: .int sp :: .ref a :: rest) (hd : decode c.code g.pc = .ok (.invokestatic index, 3))
    (hf : 1 ≤ R.frames) {W : Nat} (hW : 2 * g.monitorRoom + (rest.map fun v => v.category).sum ≤ W) (hlo : W + (nativeFrameWords "java/lang/System" "arraycopy" 5 + 11) ≤ R.locals)
    (kk : ∀ T' h', Wk p l e R s m args below meth c own Z a0 EL h0 T' h' vm cells slots → CHr Z EL vm h vm h' → Keep h h' [b] → Arv Z h' b k' ty' z' (vd.take dp.toNatClampNeg ++ us ++ vd.drop (dp.toNatClampNeg + nn.toNatClampNeg)) dd → Gets p e below P (T'.setTop { g with pc := g.pc + 3, stack := rest })) : Gets p e below P (T.setTop g) := by
  obtain ⟨locs, j, Y, eT, hS, hk, hZ, hown, hC, N, hO, hx, r⟩ := X
  obtain ⟨T', h', L, Y', e', N', K, B', st⟩ := RoadKit.cpA Y hx hZ hown w1 w2 w3 w4 eT A B hty h1 h2 h3 h4 h5 hus hl N ge hg hsize hs hd hf hW hlo
  have C1 : CHr Z EL vm h vm h' := CHr.keep K (sfS S sf0) hC.1
  exact (kk T' h' ⟨L, j, Y', e', hS, Nat.le_trans hk K.1, hZ, hown, hC.trans C1, N', hO.keep K (allS ge all0), hx, r⟩ C1 K B').via st
/-- ldc of a String constant, what it holds not asked -/
theorem Wk.ldcO (X : Wk p l e R s m args below meth c own Z a0 EL h0 T h vm cells slots) {text : String} {index : Nat} (w : (Jvm.Cond.stringLink own index text).before a0 Z = true) (wS : ∀ a ∈ Bundle.stringAtoms, a.before a0 Z = true)
    (hg : g.method = m) (hd : decode c.code g.pc = .ok (.ldc index, 2)) {n : Nat} (hn : 4 * text.toList.length ≤ n) (hbig : n ≤ 536870912) (hc : cells + 2 ≤ R.cells) (hl : slots + (n + 4) ≤ R.slots)
    (k : ∀ T' h' vm' a, Wk p l e R s m args below meth c own Z a0 EL h0 T' h' vm' (cells + 2) (slots + (n + 4)) → CHr Z EL vm h vm' h' → Ext h h' → Gets p e below P (T'.setTop { g with pc := g.pc + 2, stack := .ref a :: g.stack })) : Gets p e below P (T.setTop g) := by
  obtain ⟨locs, j, Y, eT, hS, hk, hZ, hown, hC, N, hO, hx, hEL, r⟩ := X
  obtain ⟨a, T', h', k1, Y', e', E, hS', hk', hZ', hown', C1, -, st⟩ := RoadKit.ldcOH Y hx hZ hown w wS eT hS hk hEL hC.1 hg hd hn hbig hc hl
  exact (k T' h' T'.vm a ⟨locs, k1, Y', e', hS', hk', hZ', hown', hC.trans C1, N, hO.ext E, hx, hEL, r⟩ C1 E).via st
/-- ldc of a String constant that is read -/
theorem Wk.ldcC (X : Wk p l e R s m args below meth c own Z a0 EL h0 T h vm cells slots) {text : String} {index : Nat} (w : (Jvm.Cond.stringLink own index text).before a0 Z = true) (wS : ∀ a ∈ Bundle.stringAtoms, a.before a0 Z = true) (hmem : (own, index) ∈ EL)
    {vs : List Value} {z : Int32} (ht : (∀ c ∈ text.toList, c.toNat < 256) ∧ text.toList.map (fun c => Value.int (Jvm.Lit.byteI c.toNat.toUInt16)) = vs) (hz : ¬ z < 0) (hvl : z.toNatClampNeg = vs.length)
    (hg : g.method = m) (hd : decode c.code g.pc = .ok (.ldc index, 2)) {n : Nat} (hn : 4 * text.toList.length ≤ n) (hbig : n ≤ 536870912) (hc : cells + 2 ≤ R.cells) (hl : slots + (n + 4) ≤ R.slots)
    (k : ∀ T' h' vm' a b kb, Wk p l e R s m args below meth c own Z a0 EL h0 T' h' vm' (cells + 2) (slots + (n + 4)) → CHr Z EL vm h vm' h' → Ext h h' → Exa Z h' a "java/lang/String" → Fld Z h' a "java/lang/String" "coder" "B" (.int 0) → Fld Z h' a "java/lang/String" "value" "[B" (.ref b) → Arv Z h' b kb .byte z vs (.int 0) → (∀ x, Safe Z EL vm' h' x → x ≠ a ∧ x ≠ b) → Gets p e below P (T'.setTop { g with pc := g.pc + 2, stack := .ref a :: g.stack })) : Gets p e below P (T.setTop g) := by
  obtain ⟨locs, j, Y, eT, hS, hk, hZ, hown, hC, N, hO, hx, hEL, r⟩ := X
  obtain ⟨a, T', h', k1, b, kb, Y', e', E, hS', hk', hZ', hown', q1, q2, q3, q4, -, -, C1, -, q5, st⟩ := RoadKit.ldcCH Y hx hZ hown w wS eT hS hk hEL hmem hC.1 ht hz hvl hg hd hn hbig hc hl
  exact (k T' h' T'.vm a b kb ⟨locs, k1, Y', e', hS', hk', hZ', hown', hC.trans C1, N, hO.ext E, hx, hEL, r⟩ C1 E q1 q2 q3 q4 q5).via st
/-- who pays a call, in one shape -/
def Pay (l : Launch) (R : Room) (p : Program) (e : Env) (below : List Frame) (s : State) (args : Array Value) (y : MethodName) (len W : Nat) (Z : State) (EL : List (String × Nat)) (vm : Vm) (h : Heap) (as : Array Value) (rc rs : Nat) (Q : Option Value → Vm → Heap → Prop) : Prop :=
  BackS l R p e below (s.setVm vm) args y len W (fun A a => a = as ∧ A.U.heap = h ∧ A.cells + rc ≤ R.cells ∧ A.slots + rs ≤ R.slots)
    (fun A _ v B => ∃ L, (Q v B.U.vm B.U.heap ∧ Fr Z.heap.size L ∧ Old Z Z.heap.size B.U.heap) ∧ B.locs = A.locs ++ L ∧ B.cells = A.cells + rc ∧ B.slots = A.slots + rs ∧ CHr Z EL vm h B.U.vm B.U.heap)
theorem safe_later {x : Addr} (C : CHr Z EL vm h vm' h) (S : Safe Z EL vm h x) : Safe Z EL vm' h x := by
  by_cases q : x < h.size
  · exact C.safe q S
  · exact Safe.new (Nat.not_lt.mp q)
theorem Wk.payM (X : Wk p l e R s m args below meth c own Z a0 EL h0 T h vm cells slots) {y : MethodName} {bytes : ByteArray} {maxL : Nat} {ret : Option FieldType} {rm : Room} {sf : List Addr} {as : Array Value} {Q : Option Value → Vm → Heap → Prop} {len W : Nat} (M : Met l Z EL y bytes maxL ret [] rm sf as h Q) (hsf : ∀ x ∈ sf, Safe Z EL vm h x)
    (wc : (Jvm.Cond.code y bytes maxL ret).before a0 Z = true) (wz : (Jvm.Cond.initialized y.cls).before a0 Z = true) (hf : rm.frames + 1 ≤ R.frames) (hl : W + (maxL + 11) + rm.locals ≤ R.locals) : Pay l R p e below s args y len W Z EL vm h as rm.cells rm.slots Q := by
  have hZ := X.hZ
  have hEL := X.ew
  have H := X.chv
  exact BackS.of_freeW (bytes := bytes) (maxL := maxL) (ret := ret) (E := fun _ first o t L k n => k = rm.cells ∧ n = rm.slots ∧ (∃ v, o = .returned v ∧ (Q v t.vm t.heap ∧ Fr Z.heap.size L ∧ Old Z Z.heap.size t.heap)) ∧ CHr Z EL first.vm first.heap t.vm t.heap) M hf hl
    (fun m meth c A a Y hp => have hU : Z.Warmed39 A.U.vm := wtrans (s := s.setVm vm) hZ Y.warmed
      ⟨by show (Jvm.Cond.and _ .tt).before a A.U = true; rw [Cond.before_and, mv hU wc]; rfl, mv hU wc, mv hU wz, hp.2.2.1, hp.2.2.2⟩)
    (fun m meth c A a g mk Y hp => ⟨hp.1, wtrans (s := s.setVm vm) hZ Y.warmed, hp.2.1, (CHv.at Y hZ hEL H).1, fun x hx => safe_later (vm' := A.U.vm) (CHv.at Y hZ hEL H) (hsf x hx)⟩) (fun _ _ _ _ _ _ _ _ _ => trivial)
    (fun _ _ _ _ ⟨v, L, h1, h2, h3, h4⟩ => ⟨L, _, _, h4, rfl, rfl, ⟨v, h1, h2⟩, h3⟩)
    (fun m meth c A a g mk v t L k n Y hp _ _ ⟨e1, e2, ⟨v', e3, e4⟩, e5⟩ => by
      cases e3; subst e1 e2
      refine ⟨L, e4, rfl, rfl, rfl, (CHv.at Y hZ hEL H).trans ?_⟩
      rw [← hp.2.1]; exact e5)
/-- a narrow payer of the library's -/
theorem Wk.payN (X : Wk p l e R s m args below meth c own Z a0 EL h0 T h vm cells slots) {y : MethodName} {as : Array Value} {rc rs : Nat} {Qn : Option Value → Heap → List Loc → Prop} {Q : Option Value → Heap → Prop} {len W : Nat} {ws : List Addr}
    (hK : Back l R p e below (s.setVm vm) args y len W (fun A a => a = as ∧ A.U.heap = h ∧ A.cells + rc ≤ R.cells ∧ A.slots + rs ≤ R.slots) (fun A _ v B => ∃ L, Qn v B.U.heap L ∧ B.locs = A.locs ++ L ∧ B.cells = A.cells + rc ∧ B.slots = A.slots + rs))
    (hq : ∀ v u L, Qn v u L → Fr Z.heap.size L ∧ Keep h u ws ∧ Q v u) (hws : ∀ x ∈ ws, Z.heap.size ≤ x) (hsafe : ∀ x ∈ ws, Safe Z EL vm h x) : Pay l R p e below s args y len W Z EL vm h as rc rs (fun v _ u => Q v u) := by
  intro m' meth' c' A g' ig mk a Y hg hsize hd hW hn hpre
  obtain ⟨v, B, Y', ⟨L, q1, q2, q3, q4⟩, hsteps⟩ := hK m' meth' c' A g' ig mk a Y hg hsize hd hW hn hpre
  obtain ⟨N, K, q5⟩ := hq _ _ _ q1
  have C1 : CHr Z EL vm h vm B.U.heap := CHr.keep K hsafe X.chv
  have C2 := CHv.at Y' X.hZ X.ew C1.1
  exact ⟨v, B, Y'.retabled Y'.warmed.wide, Y'.warmed.since _, by rw [hpre.2.1]; exact K.1, ⟨L, ⟨q5, N, X.old.keep K hws⟩, q2, q3, q4, C1.trans C2⟩, hsteps⟩
theorem Wk.after (X : Wk p l e R s m args below meth c own Z a0 EL h0 T h vm cells slots) {locs : List Loc} {j : Nat} (hS : s.Since vm j) (hk : j ≤ h.size) (hC : CHr Z EL s.vm h0 vm h) (N : Fr Z.heap.size locs) (hO : Old Z Z.heap.size h) (hown : vm.findClass own = some m.cls)
    {B : Pt} {L : List Loc} {rc rs : Nat} (Y : Stand p l e R ((s.setVm vm).setVm B.U.vm) m args below meth c B.U B.locs B.cells B.slots) (S : (s.setVm vm).Since B.U.vm B.U.heap.size) (hgr : h.size ≤ B.U.heap.size) (q2 : B.locs = locs ++ L) (q3 : B.cells = cells + rc) (q4 : B.slots = slots + rs) (NL : Fr Z.heap.size L) (OL : Old Z Z.heap.size B.U.heap) (C1 : CHr Z EL vm h B.U.vm B.U.heap) :
    Wk p l e R s m args below meth c own Z a0 EL h0 B.U B.U.heap B.U.vm (cells + rc) (slots + rs) := by
  refine ⟨locs ++ L, B.U.heap.size, ?_, rfl, hS.trans S (Nat.le_trans hk hgr), Nat.le_refl _, State.Warmed39.trans (t := s.setVm vm) X.hZ S.1, ?_, hC.trans C1, N.app NL, OL, X.hx, X.ew, ?_⟩
  · rw [← q2, ← q3, ← q4]; exact Y
  · rw [S.1.alike.findClass]; exact hown
  · obtain ⟨_, _, -, -, -, -, -, -, -, -, -, -, -, r⟩ := X; exact r
theorem Wk.callS (X : Wk p l e R s m args below meth c own Z a0 EL h0 T h vm cells slots) {index : Nat} {y : MethodName} {bytes : ByteArray} {maxL : Nat} {ret : Option FieldType} (w1 : (Jvm.Cond.methodLink own index y).before a0 Z = true) (w2 : (Jvm.Cond.static y).before a0 Z = true) (w3 : (Jvm.Cond.initialized y.cls).before a0 Z = true) (w4 : (Jvm.Cond.code y bytes maxL ret).before a0 Z = true)
    (hy : y.cls ≠ "java/lang/invoke/MethodHandle" ∧ y.cls ≠ "java/lang/invoke/VarHandle") {W rc rs : Nat} {as : Array Value} {Q : Option Value → Vm → Heap → Prop} (hK : Pay l R p e below s args y 3 W Z EL vm h as rc rs Q)
    (hg : g.method = m) (hsize : g.locals.size = c.maxLocals) {argsL rest : List Value} (hlen : ∀ sig, parseMethodDescriptor y.desc = some sig → argsL.length = sig.parameters.length) (hstack : g.stack = argsL.reverse ++ rest) (has : argsL.toArray = as) (hW : 2 * g.monitorRoom + (rest.map fun v => v.category).sum ≤ W)
    (hdg : decode c.code g.pc = .ok (.invokestatic index, 3)) (hc : cells + rc ≤ R.cells) (hs : slots + rs ≤ R.slots)
    (k : ∀ T' h' vm' v, Wk p l e R s m args below meth c own Z a0 EL h0 T' h' vm' (cells + rc) (slots + rs) → CHr Z EL vm h vm' h' → h.size ≤ h'.size → Q v vm' h' → Gets p e below P (T'.setTop { g with pc := g.pc + 3, stack := v.toList ++ rest })) : Gets p e below P (T.setTop g) := by
  have X' := X
  obtain ⟨locs, j, Y, eT, hS, hk, hZ, hown, hC, N, hO, hx, r⟩ := X
  obtain ⟨v, vm₁, B, hW1, Y', S, hgr, ⟨L, ⟨q1, NL, OL⟩, q2, q3, q4, C1⟩, st⟩ := RoadKit.callSS Y hx hown (mv (s := s.setVm vm) hZ w1) (mv (s := s.setVm vm) hZ w2) (mv (s := s.setVm vm) hZ w3) (mv (s := s.setVm vm) hZ w4) hy hK hg hsize hlen hstack hW hdg (fun vm₁ _ => ⟨has, eT, hc, hs⟩)
  exact (k B.U B.U.heap B.U.vm v (X'.after hS hk hC N hO hown Y' S (eT ▸ hgr) q2 q3 q4 NL OL C1) C1 (eT ▸ hgr) q1).steps st
theorem Wk.callI (X : Wk p l e R s m args below meth c own Z a0 EL h0 T h vm cells slots) {index : Nat} {y : MethodName} {bytes : ByteArray} {maxL : Nat} (hy1 : y.name = "<init>") (w1 : (Jvm.Cond.methodLink own index y).before a0 Z = true) (w2 : (Jvm.Cond.instanceMethod y).before a0 Z = true) (w4 : (Jvm.Cond.code y bytes maxL none).before a0 Z = true)
    (hy : y.cls ≠ "java/lang/invoke/MethodHandle" ∧ y.cls ≠ "java/lang/invoke/VarHandle") {W rc rs : Nat} {as : Array Value} {Q : Option Value → Vm → Heap → Prop} (hK : Pay l R p e below s args y 3 W Z EL vm h as rc rs Q)
    (hg : g.method = m) (hsize : g.locals.size = c.maxLocals) {a : Addr} {argsL rest : List Value} (hlen : ∀ sig, parseMethodDescriptor y.desc = some sig → argsL.length = sig.parameters.length) (hstack : g.stack = argsL.reverse ++ .ref a :: rest) (has : (Value.ref a :: argsL).toArray = as) (hW : 2 * g.monitorRoom + (rest.map fun v => v.category).sum ≤ W)
    (hdg : decode c.code g.pc = .ok (.invokespecial index, 3)) (hc : cells + rc ≤ R.cells) (hs : slots + rs ≤ R.slots)
    (k : ∀ T' h' vm' v, Wk p l e R s m args below meth c own Z a0 EL h0 T' h' vm' (cells + rc) (slots + rs) → CHr Z EL vm h vm' h' → h.size ≤ h'.size → Q v vm' h' → Gets p e below P (T'.setTop { g with pc := g.pc + 3, stack := v.toList ++ rest })) : Gets p e below P (T.setTop g) := by
  have X' := X
  obtain ⟨locs, j, Y, eT, hS, hk, hZ, hown, hC, N, hO, hx, r⟩ := X
  obtain ⟨v, vm₁, B, hW1, Y', S, hgr, ⟨L, ⟨q1, NL, OL⟩, q2, q3, q4, C1⟩, st⟩ := Y.specialBackS hx hy1 hown (mv (s := s.setVm vm) hZ w1) (mv (s := s.setVm vm) hZ w2) (mv (s := s.setVm vm) hZ w4) hy hK hg hsize (Steps.refl _) hlen hstack hW hdg (fun vm₁ _ => ⟨has, eT, hc, hs⟩)
  exact (k B.U B.U.heap B.U.vm v (X'.after hS hk hC N hO hown Y' S (eT ▸ hgr) q2 q3 q4 NL OL C1) C1 (eT ▸ hgr) q1).steps st
theorem Wk.callIN (X : Wk p l e R s m args below meth c own Z a0 EL h0 T h vm cells slots) {index : Nat} {host : String} {y : MethodName} {bytes : ByteArray} {maxL : Nat} (hy1 : y.name = "<init>") (w1 : (Jvm.Cond.methodLinkNest own index y host).before a0 Z = true) (w2 : (Jvm.Cond.instanceMethod y).before a0 Z = true) (w4 : (Jvm.Cond.code y bytes maxL none).before a0 Z = true)
    (hy : y.cls ≠ "java/lang/invoke/MethodHandle" ∧ y.cls ≠ "java/lang/invoke/VarHandle") {W rc rs : Nat} {as : Array Value} {Q : Option Value → Vm → Heap → Prop} (hK : Pay l R p e below s args y 3 W Z EL vm h as rc rs Q)
    (hg : g.method = m) (hsize : g.locals.size = c.maxLocals) {a : Addr} {argsL rest : List Value} (hlen : ∀ sig, parseMethodDescriptor y.desc = some sig → argsL.length = sig.parameters.length) (hstack : g.stack = argsL.reverse ++ .ref a :: rest) (has : (Value.ref a :: argsL).toArray = as) (hW : 2 * g.monitorRoom + (rest.map fun v => v.category).sum ≤ W)
    (hdg : decode c.code g.pc = .ok (.invokespecial index, 3)) (hc : cells + rc ≤ R.cells) (hs : slots + rs ≤ R.slots)
    (k : ∀ T' h' vm' v, Wk p l e R s m args below meth c own Z a0 EL h0 T' h' vm' (cells + rc) (slots + rs) → CHr Z EL vm h vm' h' → h.size ≤ h'.size → Q v vm' h' → Gets p e below P (T'.setTop { g with pc := g.pc + 3, stack := v.toList ++ rest })) : Gets p e below P (T.setTop g) := by
  have X' := X
  obtain ⟨locs, j, Y, eT, hS, hk, hZ, hown, hC, N, hO, hx, r⟩ := X
  obtain ⟨v, vm₁, B, hW1, Y', S, hgr, ⟨L, ⟨q1, NL, OL⟩, q2, q3, q4, C1⟩, st⟩ := Y.specialBackNestS hx hy1 hown (Cond.methodLinkNest_wide (s := Z) hZ w1 :) (mv (s := s.setVm vm) hZ w2) (mv (s := s.setVm vm) hZ w4) hy hK hg hsize (Steps.refl _) hlen hstack hW hdg (fun vm₁ _ => ⟨has, eT, hc, hs⟩)
  exact (k B.U B.U.heap B.U.vm v (X'.after hS hk hC N hO hown Y' S (eT ▸ hgr) q2 q3 q4 NL OL C1) C1 (eT ▸ hgr) q1).steps st
theorem Wk.callV (X : Wk p l e R s m args below meth c own Z a0 EL h0 T h vm cells slots) {C : String} {index : Nat} {y z : MethodName} (w1 : (Jvm.Cond.methodLink own index y).before a0 Z = true) (w2 : (Jvm.Cond.declares y).before a0 Z = true) (w3 : (Jvm.Cond.selects C y z).before a0 Z = true) (w4 : (Jvm.Cond.instanceMethod z).before a0 Z = true)
    (hnf : ∀ s' : State, Z.Warmed39 s'.vm → NotFace s' y)
    (hy : y.cls ≠ "java/lang/invoke/MethodHandle" ∧ y.cls ≠ "java/lang/invoke/VarHandle") {W rc rs : Nat} {as : Array Value} {Q : Option Value → Vm → Heap → Prop} (hK : Pay l R p e below s args z 3 W Z EL vm h as rc rs Q) {b : Addr} (E : Exa Z h b C)
    (hg : g.method = m) (hsize : g.locals.size = c.maxLocals) {argsL rest : List Value} (hlen : ∀ sig, parseMethodDescriptor y.desc = some sig → argsL.length = sig.parameters.length) (hstack : g.stack = argsL.reverse ++ .ref b :: rest) (has : (Value.ref b :: argsL).toArray = as) (hW : 2 * g.monitorRoom + (rest.map fun v => v.category).sum ≤ W)
    (hdg : decode c.code g.pc = .ok (.invokevirtual index, 3)) (hc : cells + rc ≤ R.cells) (hs : slots + rs ≤ R.slots)
    (k : ∀ T' h' vm' v, Wk p l e R s m args below meth c own Z a0 EL h0 T' h' vm' (cells + rc) (slots + rs) → CHr Z EL vm h vm' h' → h.size ≤ h'.size → Q v vm' h' → Gets p e below P (T'.setTop { g with pc := g.pc + 3, stack := v.toList ++ rest })) : Gets p e below P (T.setTop g) := by
  have X' := X
  obtain ⟨locs, j, Y, eT, hS, hk, hZ, hown, hC, N, hO, hx, r⟩ := X
  obtain ⟨cq, kq, qa, qb, qc⟩ := RoadKit.isOf (s := s.setVm vm) hZ eT E
  obtain ⟨v, vm₁, B, hW1, Y', S, hgr, ⟨L, ⟨q1, NL, OL⟩, q2, q3, q4, C1⟩, st⟩ := Y.virtualBackS hx hown (mv (s := s.setVm vm) hZ w1) (mv (s := s.setVm vm) hZ w2) (hnf (s.setVm vm) hZ) (mv (s := s.setVm vm) hZ w3) (mv (s := s.setVm vm) hZ w4) hy hK qa qc hg hsize (Steps.refl _) hlen hstack hW hdg (fun vm₁ _ => ⟨has, eT, hc, hs⟩)
  exact (k B.U B.U.heap B.U.vm v (X'.after hS hk hC N hO hown Y' S (eT ▸ hgr) q2 q3 q4 NL OL C1) C1 (eT ▸ hgr) q1).steps st
theorem Wk.callP (X : Wk p l e R s m args below meth c own Z a0 EL h0 T h vm cells slots) {C C2 : String} {index : Nat} {y : MethodName} {bytes : ByteArray} {maxL : Nat} {ret : Option FieldType} (w1 : (Jvm.Cond.methodLink own index y).before a0 Z = true) (w2 : (Jvm.Cond.instanceMethod y).before a0 Z = true) (w3 : (Jvm.Cond.selects C2 y y).before a0 Z = true) (w4 : (Jvm.Cond.privateMethod y).before a0 Z = true) (w5 : (Jvm.Cond.code y bytes maxL ret).before a0 Z = true)
    (hy : y.cls ≠ "java/lang/invoke/MethodHandle" ∧ y.cls ≠ "java/lang/invoke/VarHandle") {W rc rs : Nat} {as : Array Value} {Q : Option Value → Vm → Heap → Prop} (hK : Pay l R p e below s args y 3 W Z EL vm h as rc rs Q) {b : Addr} (E : Exa Z h b C)
    (hg : g.method = m) (hsize : g.locals.size = c.maxLocals) {argsL rest : List Value} (hlen : ∀ sig, parseMethodDescriptor y.desc = some sig → argsL.length = sig.parameters.length) (hstack : g.stack = argsL.reverse ++ .ref b :: rest) (has : (Value.ref b :: argsL).toArray = as) (hW : 2 * g.monitorRoom + (rest.map fun v => v.category).sum ≤ W)
    (hdg : decode c.code g.pc = .ok (.invokevirtual index, 3)) (hc : cells + rc ≤ R.cells) (hs : slots + rs ≤ R.slots)
    (k : ∀ T' h' vm' v, Wk p l e R s m args below meth c own Z a0 EL h0 T' h' vm' (cells + rc) (slots + rs) → CHr Z EL vm h vm' h' → h.size ≤ h'.size → Q v vm' h' → Gets p e below P (T'.setTop { g with pc := g.pc + 3, stack := v.toList ++ rest })) : Gets p e below P (T.setTop g) := by
  have X' := X
  obtain ⟨locs, j, Y, eT, hS, hk, hZ, hown, hC, N, hO, hx, r⟩ := X
  obtain ⟨cell, hcell, hobj⟩ := Exa.cell E
  obtain ⟨c2, r2, m2, u1, u2, u3, u4, kP, hkP, hkPi⟩ := Cond.selects_spec (mv (s := s.setVm vm) (args := args) hZ w3)
  have hsel := Jvm.Stand.selects_self_of_private (findClass_of_methodNamed u3) hkP hkPi (Cond.privateMethod_at (mvP (s := s.setVm vm) hZ w4 (args := #[]))) (mv (s := s.setVm vm) (args := args) hZ w2) hy
  obtain ⟨v, vm₁, B, hW1, Y', S, hgr, ⟨L, ⟨q1, NL, OL⟩, q2, q3, q4, C1⟩, st⟩ := Y.privateBackS hx hown (mv (s := s.setVm vm) hZ w1) (mv (s := s.setVm vm) hZ w2) hsel (Cond.privateMethod_at (mvP (s := s.setVm vm) hZ w4 (args := #[]))) (mv (s := s.setVm vm) hZ w5) hy hK hg hsize (Steps.refl _) (a := b) (by rw [eT]; exact hcell) hobj hlen hstack hW hdg (fun vm₁ _ => ⟨has, eT, hc, hs⟩)
  exact (k B.U B.U.heap B.U.vm v (X'.after hS hk hC N hO hown Y' S (eT ▸ hgr) q2 q3 q4 NL OL C1) C1 (eT ▸ hgr) q1).steps st
theorem nfs {y z : MethodName} {C : String} (hc : y = z) (w : (Jvm.Cond.selects C y z).before a0 Z = true) : ∀ s' : State, Z.Warmed39 s'.vm → NotFace s' y := fun s' hZ => by
  subst hc; exact notFace_of_selects (args := #[]) (mv (s := s') hZ w)
theorem nfs2 {y y' : MethodName} {C : String} (hc : y.cls = y'.cls) (w : (Jvm.Cond.selects C y' y').before a0 Z = true) : ∀ s' : State, Z.Warmed39 s'.vm → NotFace s' y := fun s' hZ r0 h0 => by
  obtain ⟨c2, r2, m2, q1, q2, q3, q4, kP, hkP, hkPi⟩ := Cond.selects_spec (mv (s := s') (args := #[]) hZ w)
  have e1 := findClass_of_methodNamed h0
  have e2 := findClass_of_methodNamed q3
  rw [hc, e2] at e1
  exact ⟨kP, by rw [← Option.some.inj e1]; exact hkP, hkPi⟩
theorem Wk.callF (X : Wk p l e R s m args below meth c own Z a0 EL h0 T h vm cells slots) {C : String} {index count : Nat} {xi y : MethodName} (w1 : (Jvm.Cond.methodLink own index xi).before a0 Z = true) (w2 : (Jvm.Cond.declares xi).before a0 Z = true) (w3 : (Jvm.Cond.interfaceMethod xi.cls xi.cls xi.name xi.desc).before a0 Z = true) (e3 : ((Jvm.Cond.interfaceMethod xi.cls xi.cls xi.name xi.desc).onTables && (Jvm.Cond.interfaceMethod xi.cls xi.cls xi.name xi.desc).keepsFace) = true) (w4 : (Jvm.Cond.selects C xi y).before a0 Z = true) (w5 : (Jvm.Cond.instanceMethod y).before a0 Z = true)
    (w6 : (Jvm.Cond.publicMethod y).before a0 Z = true) (w7 : (Jvm.Cond.unhidden C xi.name xi.desc).before a0 Z = true) (w8 : (Jvm.Cond.castable C xi.cls).before a0 Z = true)
    (hy : xi.cls ≠ "java/lang/invoke/MethodHandle" ∧ xi.cls ≠ "java/lang/invoke/VarHandle") {W rc rs : Nat} {as : Array Value} {Q : Option Value → Vm → Heap → Prop} (hK : Pay l R p e below s args y 5 W Z EL vm h as rc rs Q) {b : Addr} (E : Exa Z h b C)
    (hg : g.method = m) (hsize : g.locals.size = c.maxLocals) {argsL rest : List Value} (hlen : ∀ sig, parseMethodDescriptor xi.desc = some sig → argsL.length = sig.parameters.length) (hstack : g.stack = argsL.reverse ++ .ref b :: rest) (has : (Value.ref b :: argsL).toArray = as) (hW : 2 * g.monitorRoom + (rest.map fun v => v.category).sum ≤ W)
    (hdg : decode c.code g.pc = .ok (.invokeinterface index count, 5)) (hc : cells + rc ≤ R.cells) (hs : slots + rs ≤ R.slots)
    (k : ∀ T' h' vm' v, Wk p l e R s m args below meth c own Z a0 EL h0 T' h' vm' (cells + rc) (slots + rs) → CHr Z EL vm h vm' h' → h.size ≤ h'.size → Q v vm' h' → Gets p e below P (T'.setTop { g with pc := g.pc + 5, stack := v.toList ++ rest })) : Gets p e below P (T.setTop g) := by
  have X' := X
  obtain ⟨locs, j, Y, eT, hS, hk, hZ, hown, hC, N, hO, hx, r⟩ := X
  obtain ⟨cq, kq, qa, qb, qc⟩ := RoadKit.isOf (s := s.setVm vm) hZ eT E
  obtain ⟨v, vm₁, B, hW1, Y', S, hgr, ⟨L, ⟨q1, NL, OL⟩, q2, q3, q4, C1⟩, st⟩ := Y.interfaceBackS hx hown (mv (s := s.setVm vm) hZ w1) (mv (s := s.setVm vm) hZ w2) (mv (s := s.setVm vm) hZ w3 e3) (mv (s := s.setVm vm) hZ w4) (mv (s := s.setVm vm) hZ w5) (mv (s := s.setVm vm) hZ w6) (mv (s := s.setVm vm) hZ w7) (mv (s := s.setVm vm) hZ w8) hy hK qa qb qc hg hsize (Steps.refl _) hlen hstack hW hdg (fun vm₁ _ => ⟨has, eT, hc, hs⟩)
  exact (k B.U B.U.heap B.U.vm v (X'.after hS hk hC N hO hown Y' S (eT ▸ hgr) q2 q3 q4 NL OL C1) C1 (eT ▸ hgr) q1).steps st
theorem Wk.done (X : Wk p l e R s m args below meth c own Z a0 EL h0 T h vm cells slots) {Q : Option Value → Vm → Heap → Prop} {rm : Room} {v : Option Value} (hv : meth.sig.returnType = none → v = none) (hc : cells ≤ rm.cells) (hs : slots ≤ rm.slots) (q : ∀ vm', CHr Z EL vm h vm' h → Q v vm' h)
    (st : ∀ fs, Stand p l e R (s.setVm vm) m args below meth c T [] cells slots ∨ True → (∀ (f : JFrame) (acts : List Action), f.method = m → f.locked = none → f.entered = [] → (doReturn e (T.setTop f) acts v).1 = T.setFrames fs) → Steps p.tables e below (T.setTop g) (T.setFrames fs)) : Gets p e below (Out s Z EL rm Q) (T.setTop g) := by
  obtain ⟨locs, j, Y, eT, hS, hk, hZ, hown, hC, N, hO, hx, hEL, hh, hlk⟩ := X
  obtain ⟨fs, hr, hrun, hended, hq⟩ := Y.leaveW hS (by rw [eT]; exact hk) (v := v) hv
  refine ⟨_, _, st fs (Or.inr trivial) hr, hrun, hended, v, locs, rfl, ⟨?_, N, ?_⟩, ?_, ?_⟩
  · show Q v T.vm T.heap; rw [eT]; exact q _ (CHv.at Y hZ hEL hC.1)
  · show Old Z Z.heap.size T.heap; rw [eT]; exact hO
  · show CHr Z EL s.vm s.heap T.vm T.heap
    rw [hh, eT]
    exact hC.trans (CHv.at Y hZ hEL hC.1)
  · obtain ⟨r1, r2, r3, r4⟩ := hq
    exact ⟨r1, r2, r3, r4.mono hc hs⟩
theorem Wk.retV (X : Wk p l e R s m args below meth c own Z a0 EL h0 T h vm cells slots) {Q : Option Value → Vm → Heap → Prop} {rm : Room} (hret : meth.sig.returnType = none) {pc : Nat} {Ls : Array Slot} (hd : decode c.code pc = .ok (.return_, 1)) (hc : cells ≤ rm.cells) (hs : slots ≤ rm.slots) (q : ∀ vm', CHr Z EL vm h vm' h → Q none vm' h) : Gets p e below (Out s Z EL rm Q) (T.setTop (mkF m pc Ls [])) := by
  have X' := X
  obtain ⟨locs, j, Y, -⟩ := X'
  exact X.done (fun _ => rfl) hc hs q fun fs _ hr => Y.returnOut X.hx hret hd hr
theorem Wk.ret (X : Wk p l e R s m args below meth c own Z a0 EL h0 T h vm cells slots) {Q : Option Value → Vm → Heap → Prop} {rm : Room} {t : FieldType} {w : Value} {i : Instr} (hret : meth.sig.returnType = some t) {pc : Nat} {Ls : Array Slot} {rest : List Value} (hn : narrow t w = w)
    (hi : (i = .ireturn ∧ (t = .int ∨ t = .boolean ∨ t = .byte ∨ t = .char ∨ t = .short) ∧ ∃ z, w = .int z) ∨ (i = .lreturn ∧ t = .long ∧ ∃ z, w = .long z) ∨ (i = .dreturn ∧ t = .double ∧ ∃ z, w = .double z) ∨ (i = .freturn ∧ t = .float ∧ ∃ z, w = .float z) ∨ (i = .areturn ∧ t.isReference = true ∧ w.isRef = true))
    (hd : decode c.code pc = .ok (i, 1)) (hc : cells ≤ rm.cells) (hs : slots ≤ rm.slots) (q : ∀ vm', CHr Z EL vm h vm' h → Q (some w) vm' h) : Gets p e below (Out s Z EL rm Q) (T.setTop (mkF m pc Ls (w :: rest))) := by
  have X' := X
  obtain ⟨locs, j, Y, -⟩ := X'
  exact X.done (fun z => by rw [hret] at z; cases z) hc hs q fun fs _ hr => RoadKit.retOut Y X.hx hret hn hi hd hr
theorem Wk.retA (X : Wk p l e R s m args below meth c own Z a0 EL h0 T h vm cells slots) {Q : Option Value → Vm → Heap → Prop} {rm : Room} {t : FieldType} {w : Value} (hret : meth.sig.returnType = some t) {pc : Nat} {Ls : Array Slot} {rest : List Value} (hn : narrow t w = w) (ht : t.isReference = true) (hw : w.isRef = true)
    (hd : decode c.code pc = .ok (.areturn, 1)) (hc : cells ≤ rm.cells) (hs : slots ≤ rm.slots) (q : ∀ vm', CHr Z EL vm h vm' h → Q (some w) vm' h) : Gets p e below (Out s Z EL rm Q) (T.setTop (mkF m pc Ls (w :: rest))) :=
  X.ret hret hn (Or.inr (Or.inr (Or.inr (Or.inr ⟨rfl, ht, hw⟩)))) hd hc hs q
theorem Wk.retI (X : Wk p l e R s m args below meth c own Z a0 EL h0 T h vm cells slots) {Q : Option Value → Vm → Heap → Prop} {rm : Room} {t : FieldType} {x : Int32} (hret : meth.sig.returnType = some t) {pc : Nat} {Ls : Array Slot} {rest : List Value} (hn : narrow t (.int x) = .int x) (ht : t = .int ∨ t = .boolean ∨ t = .byte ∨ t = .char ∨ t = .short)
    (hd : decode c.code pc = .ok (.ireturn, 1)) (hc : cells ≤ rm.cells) (hs : slots ≤ rm.slots) (q : ∀ vm', CHr Z EL vm h vm' h → Q (some (.int x)) vm' h) : Gets p e below (Out s Z EL rm Q) (T.setTop (mkF m pc Ls (.int x :: rest))) :=
  X.ret hret hn (Or.inl ⟨rfl, ht, x, rfl⟩) hd hc hs q
variable {a b : Addr} {k : ClassId} {cs : List Int32} {ws : List Addr}
/-- a Latin-1 String at a, its bytes at b, spelling cs -/
def Str (Z : State) (h : Heap) (a b : Addr) (k : ClassId) (cs : List Int32) : Prop := Exa Z h a "java/lang/String" ∧ Fld Z h a "java/lang/String" "coder" "B" (.int (0 : Int32)) ∧ Fld Z h a "java/lang/String" "value" "[B" (.ref b) ∧ Arv Z h b k .byte (Int32.ofNat cs.length) ((cs.map fun c => c.toInt8.toInt32).map Value.int) (.int (0 : Int32)) ∧ (∀ c ∈ cs, ¬ c < 0 ∧ ¬ (255 : Int32) < c) ∧ cs.length ≤ 4000
theorem Str.ext (F : Str Z h a b k cs) (E : Ext h h') : Str Z h' a b k cs := ⟨F.1.ext E, F.2.1.ext E, F.2.2.1.ext E, F.2.2.2.1.ext E, F.2.2.2.2⟩
theorem Str.keep (F : Str Z h a b k cs) (K : Keep h h' ws) (q : a ∉ ws) (r : b ∉ ws) : Str Z h' a b k cs := ⟨F.1.keep K, F.2.1.keep K q, F.2.2.1.keep K q, F.2.2.2.1.keep K r, F.2.2.2.2⟩
theorem Str.lt (F : Str Z h a b k cs) : a < h.size := F.1.lt
theorem Str.lb (F : Str Z h a b k cs) : b < h.size := F.2.2.2.1.lt
theorem Arv.nty {a b : Addr} {k k' : ClassId} {ty ty' : FieldType} {n n' : Int32} {vs vs' : List Value} {d d' : Value} (A : Arv Z h a k ty n vs d) (B : Arv Z h b k' ty' n' vs' d') (q : ty ≠ ty') : a ≠ b := fun z => by
  subst z
  obtain ⟨c, ⟨A1, ⟨-, kk, A2, cm, A3⟩, -⟩, -⟩ := A
  obtain ⟨c', ⟨B1, ⟨-, kk', B2, cm', B3⟩, -⟩, -⟩ := B
  rw [A1] at B1; cases B1
  rw [A2] at B2; cases B2
  rw [A3] at B3; cases B3
  exact q rfl
end Base
section Vals
variable {tb : Tables} [Ours tb] {e : Env} {below : List Frame} {T target : State} {m : MethodId} {c : Code} {g : JFrame}
theorem i2cV (h : At T m c below) (hx : tb.exec = Jvm.exec) (hg : g.method = m) {x v : Int32} {rest : List Value} (hd : decode c.code g.pc = .ok (.i2c, 1)) (hs : g.stack = .int x :: rest) (hv : x.toUInt32.toUInt16.toUInt32.toInt32 = v)
    (hr : Steps tb e below (T.setTop { g with pc := g.pc + 1, stack := .int v :: rest }) target) : Steps tb e below (T.setTop g) target := by subst hv; exact XS.i2c h hx hg hd hs hr
theorem iincV (h : At T m c below) (hx : tb.exec = Jvm.exec) (hg : g.method = m) {k : Nat} {cst : Int} {x v : Int32} {l' : Array Slot} (hd : decode c.code g.pc = .ok (.iinc k cst, 3)) (hl : g.locals[k]? = some (.val (.int x))) (hv : x + Int32.ofInt cst = v) (hl' : storeLocals g.locals k (.int v) = some l')
    (hr : Steps tb e below (T.setTop { g with pc := g.pc + 3, locals := l' }) target) : Steps tb e below (T.setTop g) target := by subst hv; exact XS.iinc h hx hg hd hl hl' hr
theorem iaddV (h : At T m c below) (hx : tb.exec = Jvm.exec) (hg : g.method = m) {x y v : Int32} {rest : List Value} (hd : decode c.code g.pc = .ok (.iadd, 1)) (hs : g.stack = .int y :: .int x :: rest) (hv : x + y = v)
    (hr : Steps tb e below (T.setTop { g with pc := g.pc + 1, stack := .int v :: rest }) target) : Steps tb e below (T.setTop g) target := by subst hv; exact XS.iadd h hx hg hd hs hr
theorem isubV (h : At T m c below) (hx : tb.exec = Jvm.exec) (hg : g.method = m) {x y v : Int32} {rest : List Value} (hd : decode c.code g.pc = .ok (.isub, 1)) (hs : g.stack = .int y :: .int x :: rest) (hv : x - y = v)
    (hr : Steps tb e below (T.setTop { g with pc := g.pc + 1, stack := .int v :: rest }) target) : Steps tb e below (T.setTop g) target := by subst hv; exact XS.isub h hx hg hd hs hr
theorem iushrV (h : At T m c below) (hx : tb.exec = Jvm.exec) (hg : g.method = m) {x y v : Int32} {rest : List Value} (hd : decode c.code g.pc = .ok (.iushr, 1)) (hs : g.stack = .int y :: .int x :: rest) (hv : Jvm.Free.XT.ushr x y = v)
    (hr : Steps tb e below (T.setTop { g with pc := g.pc + 1, stack := .int v :: rest }) target) : Steps tb e below (T.setTop g) target := by subst hv; exact Jvm.Free.XT.iushr h hx hg hd hs hr
theorem ishlV (h : At T m c below) (hx : tb.exec = Jvm.exec) (hg : g.method = m) {x y v : Int32} {rest : List Value} (hd : decode c.code g.pc = .ok (.ishl, 1)) (hs : g.stack = .int y :: .int x :: rest) (hv : x <<< (y &&& (31 : Int32)) = v)
    (hr : Steps tb e below (T.setTop { g with pc := g.pc + 1, stack := .int v :: rest }) target) : Steps tb e below (T.setTop g) target := by subst hv; exact Jvm.Free.XT.ishl h hx hg hd hs hr
theorem ishrV (h : At T m c below) (hx : tb.exec = Jvm.exec) (hg : g.method = m) {x y v : Int32} {rest : List Value} (hd : decode c.code g.pc = .ok (.ishr, 1)) (hs : g.stack = .int y :: .int x :: rest) (hv : x >>> (y &&& (31 : Int32)) = v)
    (hr : Steps tb e below (T.setTop { g with pc := g.pc + 1, stack := .int v :: rest }) target) : Steps tb e below (T.setTop g) target := by subst hv; exact Jvm.Free.XT.ishr h hx hg hd hs hr
theorem i2bV (h : At T m c below) (hx : tb.exec = Jvm.exec) (hg : g.method = m) {x v : Int32} {rest : List Value} (hd : decode c.code g.pc = .ok (.i2b, 1)) (hs : g.stack = .int x :: rest) (hv : x.toInt8.toInt32 = v)
    (hr : Steps tb e below (T.setTop { g with pc := g.pc + 1, stack := .int v :: rest }) target) : Steps tb e below (T.setTop g) target := by subst hv; exact XS.i2b h hx hg hd hs hr
theorem iremV (h : At T m c below) (hx : tb.exec = Jvm.exec) (hg : g.method = m) {x y : Int32} {rest : List Value} (hd : decode c.code g.pc = .ok (.irem, 1)) (hs : g.stack = .int y :: .int x :: rest) (hy : y ≠ 0)
    (hr : Steps tb e below (T.setTop { g with pc := g.pc + 1, stack := .int (x % y) :: rest }) target) : Steps tb e below (T.setTop g) target := by
  have q : x - x / y * y = x % y := irem_eq_mod x y
  exact XS.irem h hx hg hd hs hy (by rw [q]; exact hr)
/-- (char) of an int -/
def i2c (x : Int32) : Int32 := x.toUInt32.toUInt16.toUInt32.toInt32
theorem i2c_in {x : Int32} (h0 : ¬ x < 0) (h1 : ¬ (65535 : Int32) < x) : x.toUInt32.toUInt16.toUInt32.toInt32 = x := by
  have q := c_i2c x
  apply Int32.toInt_inj.mp
  have e0 : (0 : Int32).toInt = 0 := by decide
  have e1 : (65535 : Int32).toInt = 65535 := by decide
  rw [Int32.lt_iff_toInt_lt, e0] at h0
  rw [Int32.lt_iff_toInt_lt, e1] at h1
  omega
theorem m255 (x : Int32) : ¬ (x &&& (255 : Int32)) < 0 ∧ ¬ (255 : Int32) < (x &&& (255 : Int32)) := by
  have q := c_and x (255 : Int32) (by decide)
  have e0 : (0 : Int32).toInt = 0 := by decide
  have e1 : (255 : Int32).toInt = 255 := by decide
  constructor
  · rw [Int32.lt_iff_toInt_lt, e0]; omega
  · rw [Int32.lt_iff_toInt_lt, e1]; rw [e1] at q; omega
theorem lt_of {a b c : Int32} (h : ¬ a < b) (hb : b.toInt ≤ c.toInt) : True := trivial
theorem i2c_m255 (x : Int32) : (x &&& (255 : Int32)).toUInt32.toUInt16.toUInt32.toInt32 = x &&& (255 : Int32) := i2c_in (m255 x).1 fun q => (m255 x).2 (by
  have e1 : (255 : Int32).toInt = 255 := by decide
  have e2 : (65535 : Int32).toInt = 65535 := by decide
  rw [Int32.lt_iff_toInt_lt] at q ⊢; omega)
theorem i2c_i2c (x : Int32) : (i2c x).toUInt32.toUInt16.toUInt32.toInt32 = i2c x := by
  have q := c_i2c x
  have e0 : (0 : Int32).toInt = 0 := by decide
  have e1 : (65535 : Int32).toInt = 65535 := by decide
  refine i2c_in ?_ ?_
  · rw [Int32.lt_iff_toInt_lt, e0]; unfold i2c; omega
  · rw [Int32.lt_iff_toInt_lt, e1]; unfold i2c; omega
theorem m255L (x : Int64) : ¬ (x &&& (255 : Int64)).toInt32 < 0 ∧ ¬ (255 : Int32) < (x &&& (255 : Int64)).toInt32 := by
  have q := c_maskL x (255 : Int64) 8 (by decide) (by decide)
  have r := Jvm.Free.XT.narrowInt (x := x &&& (255 : Int64)) ⟨by omega, by omega⟩
  have e0 : (0 : Int32).toInt = 0 := by decide
  have e1 : (255 : Int32).toInt = 255 := by decide
  constructor
  · rw [Int32.lt_iff_toInt_lt, e0]; omega
  · rw [Int32.lt_iff_toInt_lt, e1]; omega
theorem i2c_small {x : Int32} (h : ¬ x < 0 ∧ ¬ (255 : Int32) < x) : x.toUInt32.toUInt16.toUInt32.toInt32 = x := i2c_in h.1 fun q => h.2 (by
  have e1 : (255 : Int32).toInt = 255 := by decide
  have e2 : (65535 : Int32).toInt = 65535 := by decide
  rw [Int32.lt_iff_toInt_lt] at q ⊢; omega)
theorem nar_small {x : Int32} (h : ¬ x < 0 ∧ ¬ (255 : Int32) < x) : narrow .char (.int x) = .int x := by
  show Value.int _ = _
  rw [i2c_small h]
theorem nar_b (x : Int32) : nar .byte x.toInt8.toInt32 = x.toInt8.toInt32 := by simp [nar]
theorem allI {P : Int32 → Prop} {y : Int32} {L : List Int32} (q : P y) (r : ∀ x ∈ L, P x) : ∀ x ∈ y :: L, P x := fun x z => (List.mem_cons.mp z).elim (fun u => u ▸ q) (r x)
theorem allN {P : Int32 → Prop} : ∀ x ∈ ([] : List Int32), P x := fun _ q => nomatch q
end Vals
end Jvm.Ow

/- laws to paste: Road.backV, Road.eqW, Road.codOf (cut by pick.py; bodies as the Statement names them) -/
namespace Jvm.Pilot.@@N@@
namespace StrChars
open Jvm Sem ClassFile Op Lib Jvm.Stand Jvm.Free.XT Jvm.Free.ALB Jvm.Free.JM Jvm.Free
open Jvm.Lib.Cold (StaticIs)
/-- a char array whose places are chars -/
def Ch (a : Addr) (A : Cell) (U : State) : Prop := Arr .char a A U ∧ Typed .char A
theorem Ch.mv {a : Addr} {A : Cell} {U U' : State} (h : Ch a A U) (hal : U.vm.Alike U'.vm) (hh : U'.heap = U.heap) : Ch a A U' := ⟨h.1.mv hal hh, h.2⟩
theorem Ch.keep {a : Addr} {A : Cell} {U U' : State} (h : Ch a A U) (hal : U.vm.Alike U'.vm) (hk : U'.heap[a]? = some A) : Ch a A U' := ⟨h.1.keep hal hk, h.2⟩
/-- what place i of a char[]'s cell holds -/
def cv (A : Cell) (i : Nat) : Int32 := match A.slots[i]? with | some (.int x) => x | _ => 0
theorem Ch.get {a : Addr} {A : Cell} {U : State} (h : Ch a A U) {i : Nat} (hi : i < A.slots.size) : A.slots[i]? = some (.int (cv A i)) := by
  have e := Array.getElem?_eq_getElem hi
  have f := h.2 i _ e
  unfold cv; rw [e]
  generalize A.slots[i] = v at f
  cases v <;> simp [fits] at f ⊢
/-- the byte that i2b leaves of a char -/
def lo8 (x : Int32) : Int32 := x.toInt8.toInt32
theorem fits_lo8 (y : Int32) : fits .byte (.int (lo8 y)) = true := by
  have h1 := y.toInt8.le_toInt
  have h2 := y.toInt8.toInt_lt
  simp only [lo8, fits, Bool.and_eq_true, decide_eq_true_eq, Int32.le_iff_toInt_le, Int8.toInt_toInt32, show (-128 : Int32).toInt = -128 from by decide, show (127 : Int32).toInt = 127 from by decide]
  omega
/-- A' is A but that each place j of lo .. hi - 1 holds f j -/
def Laid (A A' : Cell) (lo hi : Nat) (f : Nat → Value) : Prop := A'.cls = A.cls ∧ A'.vm = A.vm ∧ A'.slots.size = A.slots.size ∧ ∀ i, A'.slots[i]? = if lo ≤ i ∧ i < hi then some (f i) else A.slots[i]?
theorem Laid.zero (A : Cell) (lo : Nat) (f : Nat → Value) : Laid A A lo (lo + 0) f := ⟨rfl, rfl, rfl, fun i => by rw [if_neg (by omega)]⟩
theorem Laid.step {A Ak : Cell} {lo k : Nat} {f : Nat → Value} {v : Value} (h : Laid A Ak lo k f) (hlo : lo ≤ k) (hk : k < Ak.slots.size) (hv : v = f k) : Laid A (Ak.setSlot k v) lo (k + 1) f := by
  refine ⟨h.1, h.2.1, by simpa [Cell.setSlot] using h.2.2.1, fun i => ?_⟩
  by_cases e : k = i
  · subst e; rw [Cell.slots_setSlot_self v hk, if_pos (by omega), hv]
  · rw [Cell.slots_setSlot_ne v e, h.2.2.2 i]
    by_cases q : lo ≤ i ∧ i < k
    · rw [if_pos q, if_pos (by omega)]
    · rw [if_neg q, if_neg (by omega)]
def U16 : String := "java/lang/StringUTF16"
namespace Cmp5
def yN : MethodName := ⟨"java/lang/StringUTF16", "compress", "([CI[BII)I"⟩
abbrev yB : ByteArray := jdk_52_method_21_code
theorem d0 : decode yB 0 = .ok (.iconst 0, 1) := by decide +kernel
theorem d1 : decode yB 1 = .ok (.istore 5, 2) := by decide +kernel
theorem d3 : decode yB 3 = .ok (.iload 5, 2) := by decide +kernel
theorem d5 : decode yB 5 = .ok (.iload 4, 2) := by decide +kernel
theorem d7 : decode yB 7 = .ok (.if_icmp (.ge) 37, 3) := by decide +kernel
theorem d10 : decode yB 10 = .ok (.aload_n 0, 1) := by decide +kernel
theorem d11 : decode yB 11 = .ok (.iload_n 1, 1) := by decide +kernel
theorem d12 : decode yB 12 = .ok (.caload, 1) := by decide +kernel
theorem d13 : decode yB 13 = .ok (.istore 6, 2) := by decide +kernel
theorem d15 : decode yB 15 = .ok (.iload 6, 2) := by decide +kernel
theorem d17 : decode yB 17 = .ok (.sipush 255, 3) := by decide +kernel
theorem d20 : decode yB 20 = .ok (.if_icmp (.le) 6, 3) := by decide +kernel
theorem d26 : decode yB 26 = .ok (.aload_n 2, 1) := by decide +kernel
theorem d27 : decode yB 27 = .ok (.iload_n 3, 1) := by decide +kernel
theorem d28 : decode yB 28 = .ok (.iload 6, 2) := by decide +kernel
theorem d30 : decode yB 30 = .ok (.i2b, 1) := by decide +kernel
theorem d31 : decode yB 31 = .ok (.bastore, 1) := by decide +kernel
theorem d32 : decode yB 32 = .ok (.iinc 1 1, 3) := by decide +kernel
theorem d35 : decode yB 35 = .ok (.iinc 3 1, 3) := by decide +kernel
theorem d38 : decode yB 38 = .ok (.iinc 5 1, 3) := by decide +kernel
theorem d41 : decode yB 41 = .ok (.goto (-38), 3) := by decide +kernel
theorem d44 : decode yB 44 = .ok (.iload 4, 2) := by decide +kernel
theorem d46 : decode yB 46 = .ok (.ireturn, 1) := by decide +kernel
def site : List Cond := []
def tab : Cond := tabOf yN yB 7 (some .int) site
def P (b : Addr) (A : Cell) (d : Addr) (B : Cell) (o q len : Nat) (args : Array Value) (s : State) : Prop := args = #[.ref b, .int (Int32.ofNat o), .ref d, .int (Int32.ofNat q), .int (Int32.ofNat len)] ∧ Ch b A s ∧ Arr .byte d B s ∧ b ≠ d ∧ o + len ≤ A.slots.size ∧ q + len ≤ B.slots.size ∧ ∀ i, i < len → ¬ 255 < cv A (o + i)
def E (b : Addr) (A : Cell) (d : Addr) (B : Cell) (o q len : Nat) (r : Option Value) (s u : State) : Prop := r = some (.int (Int32.ofNat len)) ∧ ∃ B', Put d B' s u ∧ Laid B B' q (q + len) (fun j => Value.int (lo8 (cv A (o + (j - q)))))
/-- no char of the range above 255: len; the places written hold each char's low byte -/
theorem law (l : Launch) (b : Addr) (A : Cell) (d : Addr) (B : Cell) (o q len : Nat) : Law l yN 5 5 0 0 yB 7 (some .int) site (P b A d B o q len) (E b A d B o q len) (copyLocs d q len) 0 0 := by
  refine Law.of_walk (plainFor_of_name (by decide +kernel)) (by decide +kernel) (by decide +kernel) (by decide) (fun _ _ h => by rw [h.1]; rfl) (fun _ U U' hal hh h => ⟨h.1, h.2.1.mv hal hh, h.2.2.1.mv hal hh, h.2.2.2⟩) (fun r U U' V V' h1 hal h2 h => ⟨h.1, h.2.elim fun B' q => ⟨B', q.1.mv h1 h2, q.2⟩⟩) ?_
  intro p e s m args below meth c s₁ X0 hexec hbytes hml hret hlk hnm hown hh0 W hP
  obtain ⟨rfl, hA, hB, hne, l1, l2, hp⟩ := hP
  have c1 : Steps p.tables e below (s₁.setTop (entryFrame m #[.ref b, .int (Int32.ofNat o), .ref d, .int (Int32.ofNat q), .int (Int32.ofNat len)] 7)) (s₁.setTop (mkF m 0 #[.val (.ref b), .val (.int (Int32.ofNat o)), .val (.ref d), .val (.int (Int32.ofNat q)), .val (.int (Int32.ofNat len)), .unset, .unset] [])) := entry rfl
  have hA0 := hA.1.mv X0.warmed.alike hh0
  have hB0 := hB.mv X0.warmed.alike hh0
  have a31 := hA.1.2.2.2
  have c2 : Steps p.tables e below (s₁.setTop (entryFrame m #[.ref b, .int (Int32.ofNat o), .ref d, .int (Int32.ofNat q), .int (Int32.ofNat len)] 7)) (s₁.setTop (mkF m 3 #[.val (.ref b), .val (.int (Int32.ofNat o)), .val (.ref d), .val (.int (Int32.ofNat q)), .val (.int (Int32.ofNat len)), .val (.int 0), .unset] [])) := c1.trans (by
    refine iconstV X0.here hexec rfl 0 (hb hbytes d0) (by decide) ?_
    refine XS.istore X0.here hexec rfl (hb hbytes d1) rfl rfl ?_
    exact Steps.refl _)
  have loop : ∀ (r i : Nat), i + r = len → ∀ (z : Slot), (z = .unset ∨ ∃ w, z = .val w ∧ w.category = 1) → ∀ (Tl : State) (Bk : Cell), Stand p l e { frames := 0, locals := 0, cells := 0, slots := 0 } s m #[.ref b, .int (Int32.ofNat o), .ref d, .int (Int32.ofNat q), .int (Int32.ofNat len)] below meth c Tl ([] ++ copyLocs d q i) 0 0 → Put d Bk s₁ Tl → Laid B Bk q (q + i) (fun j => Value.int (lo8 (cv A (o + (j - q))))) →
      Steps p.tables e below (s₁.setTop (entryFrame m #[.ref b, .int (Int32.ofNat o), .ref d, .int (Int32.ofNat q), .int (Int32.ofNat len)] 7)) (Tl.setTop (mkF m 3 #[.val (.ref b), .val (.int (Int32.ofNat (o + i))), .val (.ref d), .val (.int (Int32.ofNat (q + i))), .val (.int (Int32.ofNat len)), .val (.int (Int32.ofNat i)), z] [])) → ∃ (T' : State) (B' : Cell) (z' : Slot), Stand p l e { frames := 0, locals := 0, cells := 0, slots := 0 } s m #[.ref b, .int (Int32.ofNat o), .ref d, .int (Int32.ofNat q), .int (Int32.ofNat len)] below meth c T' ([] ++ copyLocs d q len) 0 0 ∧ Put d B' s₁ T' ∧ Laid B B' q (q + len) (fun j => Value.int (lo8 (cv A (o + (j - q))))) ∧
      Steps p.tables e below (s₁.setTop (entryFrame m #[.ref b, .int (Int32.ofNat o), .ref d, .int (Int32.ofNat q), .int (Int32.ofNat len)] 7)) (T'.setTop (mkF m 3 #[.val (.ref b), .val (.int (Int32.ofNat (o + len))), .val (.ref d), .val (.int (Int32.ofNat (q + len))), .val (.int (Int32.ofNat len)), .val (.int (Int32.ofNat len)), z'] [])) := by
    intro r
    induction r with
    | zero =>
      intro i hi z hz Tl Bk Xl pl fl cl
      have hil : i = len := by omega
      rw [hil] at Xl fl cl
      exact ⟨Tl, Bk, z, Xl, pl, fl, cl⟩
    | succ r ih =>
      intro i hi z hz Tl Bk Xl pl fl cl
      have all := X0.warmed.alike.symm.trans Xl.warmed.alike
      have hAl := hA0.keep all (pl.other hne hA0.1)
      have hBk := hB0.like all pl.1 fl.1 fl.2.1 fl.2.2.1
      have hlt : q + i < Bk.slots.size := by rw [fl.2.2.1]; omega
      have c3 : Steps p.tables e below (s₁.setTop (entryFrame m #[.ref b, .int (Int32.ofNat o), .ref d, .int (Int32.ofNat q), .int (Int32.ofNat len)] 7)) (Tl.setTop (mkF m 12 #[.val (.ref b), .val (.int (Int32.ofNat (o + i))), .val (.ref d), .val (.int (Int32.ofNat (q + i))), .val (.int (Int32.ofNat len)), .val (.int (Int32.ofNat i)), z] [.int (Int32.ofNat (o + i)), .ref b])) := cl.trans (by
        refine XS.iload Xl.here hexec rfl (hb hbytes d3) rfl ?_
        refine XS.iload Xl.here hexec rfl (hb hbytes d5) rfl ?_
        refine XS.icmpNo Xl.here hexec rfl (hb hbytes d7) rfl (ii_ge_f (lt32 (by omega) (by omega))) ?_
        refine XS.aloadN Xl.here hexec rfl (hb hbytes d10) rfl rfl ?_
        refine XS.iloadN Xl.here hexec rfl (hb hbytes d11) rfl ?_
        exact Steps.refl _)
      have c4 : Steps p.tables e below (s₁.setTop (entryFrame m #[.ref b, .int (Int32.ofNat o), .ref d, .int (Int32.ofNat q), .int (Int32.ofNat len)] 7)) (Tl.setTop (mkF m 13 #[.val (.ref b), .val (.int (Int32.ofNat (o + i))), .val (.ref d), .val (.int (Int32.ofNat (q + i))), .val (.int (Int32.ofNat len)), .val (.int (Int32.ofNat i)), z] [.int (cv A (o + i))])) := c3.trans (by
        refine Xl.aget hexec hAl rfl (hA.get (i := o + i) (by omega)) rfl rfl (hb hbytes d12) ?_
        exact Steps.refl _)
      have c5 : Steps p.tables e below (s₁.setTop (entryFrame m #[.ref b, .int (Int32.ofNat o), .ref d, .int (Int32.ofNat q), .int (Int32.ofNat len)] 7)) (Tl.setTop (mkF m 15 #[.val (.ref b), .val (.int (Int32.ofNat (o + i))), .val (.ref d), .val (.int (Int32.ofNat (q + i))), .val (.int (Int32.ofNat len)), .val (.int (Int32.ofNat i)), .val (.int (cv A (o + i)))] [])) := c4.trans (by
        refine XS.istoreS Xl.here hexec rfl (hb hbytes d13) rfl rfl hz ?_
        exact Steps.refl _)
      have c6 : Steps p.tables e below (s₁.setTop (entryFrame m #[.ref b, .int (Int32.ofNat o), .ref d, .int (Int32.ofNat q), .int (Int32.ofNat len)] 7)) (Tl.setTop (mkF m 31 #[.val (.ref b), .val (.int (Int32.ofNat (o + i))), .val (.ref d), .val (.int (Int32.ofNat (q + i))), .val (.int (Int32.ofNat len)), .val (.int (Int32.ofNat i)), .val (.int (cv A (o + i)))] [.int (lo8 (cv A (o + i))), .int (Int32.ofNat (q + i)), .ref d])) := c5.trans (by
        refine XS.iload Xl.here hexec rfl (hb hbytes d15) rfl ?_
        refine sipushV Xl.here hexec rfl 255 (hb hbytes d17) (by decide) ?_
        refine XS.icmpYes Xl.here hexec rfl (pc0 := 20) rfl (hb hbytes d20) rfl (ii_le_t (hp i (by omega))) (by decide) rfl ?_
        refine XS.aloadN Xl.here hexec rfl (hb hbytes d26) rfl rfl ?_
        refine XS.iloadN Xl.here hexec rfl (hb hbytes d27) rfl ?_
        refine XS.iload Xl.here hexec rfl (hb hbytes d28) rfl ?_
        refine i2b Xl.here hexec rfl (hb hbytes d30) rfl ?_
        exact Steps.refl _)
      obtain ⟨T7, X7, p7, st7⟩ := Xl.aput hexec hBk rfl hlt rfl (fits_lo8 (cv A (o + i))) (g := (mkF m 31 #[.val (.ref b), .val (.int (Int32.ofNat (o + i))), .val (.ref d), .val (.int (Int32.ofNat (q + i))), .val (.int (Int32.ofNat len)), .val (.int (Int32.ofNat i)), .val (.int (cv A (o + i)))] [.int (lo8 (cv A (o + i))), .int (Int32.ofNat (q + i)), .ref d])) rfl (rest := []) rfl (hb hbytes d31)
      have c8 : Steps p.tables e below (s₁.setTop (entryFrame m #[.ref b, .int (Int32.ofNat o), .ref d, .int (Int32.ofNat q), .int (Int32.ofNat len)] 7)) (T7.setTop (mkF m 32 #[.val (.ref b), .val (.int (Int32.ofNat (o + i))), .val (.ref d), .val (.int (Int32.ofNat (q + i))), .val (.int (Int32.ofNat len)), .val (.int (Int32.ofNat i)), .val (.int (cv A (o + i)))] [])) := c6.trans (st7 _ (Steps.refl _))
      have c9 : Steps p.tables e below (s₁.setTop (entryFrame m #[.ref b, .int (Int32.ofNat o), .ref d, .int (Int32.ofNat q), .int (Int32.ofNat len)] 7)) (T7.setTop (mkF m 3 #[.val (.ref b), .val (.int (Int32.ofNat (o + i) + 1)), .val (.ref d), .val (.int (Int32.ofNat (q + i) + 1)), .val (.int (Int32.ofNat len)), .val (.int (Int32.ofNat i + 1)), .val (.int (cv A (o + i)))] [])) := c8.trans (by
        refine iincV X7.here hexec rfl 1 (hb hbytes d32) (by decide) rfl rfl ?_
        refine iincV X7.here hexec rfl 1 (hb hbytes d35) (by decide) rfl rfl ?_
        refine iincV X7.here hexec rfl 1 (hb hbytes d38) (by decide) rfl rfl ?_
        refine XS.goto X7.here hexec rfl (pc0 := 41) rfl (hb hbytes d41) (by decide) rfl ?_
        exact Steps.refl _)
      have c10 : Steps p.tables e below (s₁.setTop (entryFrame m #[.ref b, .int (Int32.ofNat o), .ref d, .int (Int32.ofNat q), .int (Int32.ofNat len)] 7)) (T7.setTop (mkF m 3 #[.val (.ref b), .val (.int (Int32.ofNat (o + (i + 1)))), .val (.ref d), .val (.int (Int32.ofNat (q + (i + 1)))), .val (.int (Int32.ofNat len)), .val (.int (Int32.ofNat (i + 1))), .val (.int (cv A (o + i)))] [])) := by
        have := c9
        rw [succ32, succ32, succ32] at this
        exact this
      exact ih (i + 1) (by omega) _ (Or.inr ⟨_, rfl, rfl⟩) T7 _ (by rw [copyLocs_step, ← List.append_assoc]; exact X7) (pl.trans p7) (fl.step (by omega) hlt (by simp)) c10
  obtain ⟨T9, B9, z9, X9, p9, f9, g9⟩ := loop len 0 (by omega) .unset (Or.inl rfl) s₁ B (by simpa [copyLocs] using X0) ⟨hB0.1, fun _ _ => rfl, rfl⟩ (Laid.zero _ _ _) c2
  have c11 : Steps p.tables e below (s₁.setTop (entryFrame m #[.ref b, .int (Int32.ofNat o), .ref d, .int (Int32.ofNat q), .int (Int32.ofNat len)] 7)) (T9.setTop (mkF m 46 #[.val (.ref b), .val (.int (Int32.ofNat (o + len))), .val (.ref d), .val (.int (Int32.ofNat (q + len))), .val (.int (Int32.ofNat len)), .val (.int (Int32.ofNat len)), z9] [.int (Int32.ofNat len)])) := g9.trans (by
    refine XS.iload X9.here hexec rfl (hb hbytes d3) rfl ?_
    refine XS.iload X9.here hexec rfl (hb hbytes d5) rfl ?_
    refine XS.icmpYes X9.here hexec rfl (pc0 := 7) rfl (hb hbytes d7) rfl (ii_ge_t (nlt32 (by omega) (Nat.le_refl _))) (by decide) rfl ?_
    refine XS.iload X9.here hexec rfl (hb hbytes d44) rfl ?_
    exact Steps.refl _)
  exact ⟨T9, some (.int (Int32.ofNat len)), _, _, _, X9, by simp, rfl, rfl, (fun h => by cases h), ⟨rfl, B9, p9.from hh0, f9⟩, fun fs hl => c11.trans (X9.ireturnOut hexec hret rfl (Or.inl rfl) (hb hbytes d46) hl)⟩
end Cmp5
namespace Cmp3
def yN : MethodName := ⟨"java/lang/StringUTF16", "compress", "([CII)[B"⟩
abbrev yB : ByteArray := jdk_52_method_16_code
theorem d0 : decode yB 0 = .ok (.iload_n 2, 1) := by decide +kernel
theorem d1 : decode yB 1 = .ok (.newarray .byte, 2) := by decide +kernel
theorem d3 : decode yB 3 = .ok (.astore_n 3, 1) := by decide +kernel
theorem d4 : decode yB 4 = .ok (.aload_n 0, 1) := by decide +kernel
theorem d5 : decode yB 5 = .ok (.iload_n 1, 1) := by decide +kernel
theorem d6 : decode yB 6 = .ok (.aload_n 3, 1) := by decide +kernel
theorem d7 : decode yB 7 = .ok (.iconst 0, 1) := by decide +kernel
theorem d8 : decode yB 8 = .ok (.iload_n 2, 1) := by decide +kernel
theorem d9 : decode yB 9 = .ok (.invokestatic 115, 3) := by decide +kernel
theorem d12 : decode yB 12 = .ok (.istore 4, 2) := by decide +kernel
theorem d14 : decode yB 14 = .ok (.iload 4, 2) := by decide +kernel
theorem d16 : decode yB 16 = .ok (.iload_n 2, 1) := by decide +kernel
theorem d17 : decode yB 17 = .ok (.if_icmp (.eq) 40, 3) := by decide +kernel
theorem d57 : decode yB 57 = .ok (.aload_n 3, 1) := by decide +kernel
theorem d58 : decode yB 58 = .ok (.areturn, 1) := by decide +kernel
def site : List Cond := [.arrayClass .byte, Cmp5.tab] ++ staticW U16 115 Cmp5.yN
def tab : Cond := tabOf yN yB 6 (some (.array .byte)) site
def P (b : Addr) (A : Cell) (o len : Nat) (args : Array Value) (s : State) : Prop := args = #[.ref b, .int (Int32.ofNat o), .int (Int32.ofNat len)] ∧ Ch b A s ∧ o + len ≤ A.slots.size ∧ len ≤ 536870912 ∧ ∀ i, i < len → ¬ 255 < cv A (o + i)
def E (b : Addr) (A : Cell) (o len : Nat) (r : Option Value) (s u : State) : Prop := NewArr .byte "[B" len (fun j => .int (lo8 (cv A (o + j)))) r s u ∧ u.heap.size = s.heap.size + 1
/-- no char of the range above 255: a new byte[] of their low bytes -/
theorem law (l : Launch) (b : Addr) (A : Cell) (o len : Nat) : Law l yN 3 3 1 18 yB 6 (some (.array .byte)) site (P b A o len) (E b A o len) [] 1 len := by
  refine Law.of_walk (plainFor_of_name (by decide +kernel)) (by decide +kernel) (by decide +kernel) (by decide) (fun _ _ h => by rw [h.1]; rfl) (fun _ U U' hal hh h => ⟨h.1, h.2.1.mv hal hh, h.2.2⟩) (fun r U U' V V' h1 hal h2 h => ⟨NewArr.mv r U U' V V' h1 hal h2 h.1, by rw [h1, h2]; exact h.2⟩) ?_
  intro p e s m args below meth c s₁ X0 hexec hbytes hml hret hlk hnm hown hh0 W hP
  obtain ⟨rfl, hA, l1, l2, hp⟩ := hP
  have a31 := hA.1.2.2.2
  have c1 : Steps p.tables e below (s₁.setTop (entryFrame m #[.ref b, .int (Int32.ofNat o), .int (Int32.ofNat len)] 6)) (s₁.setTop (mkF m 0 #[.val (.ref b), .val (.int (Int32.ofNat o)), .val (.int (Int32.ofNat len)), .unset, .unset, .unset] [])) := entry rfl
  have c2 : Steps p.tables e below (s₁.setTop (entryFrame m #[.ref b, .int (Int32.ofNat o), .int (Int32.ofNat len)] 6)) (s₁.setTop (mkF m 1 #[.val (.ref b), .val (.int (Int32.ofNat o)), .val (.int (Int32.ofNat len)), .unset, .unset, .unset] [.int (Int32.ofNat len)])) := c1.trans (by
    refine XS.iloadN X0.here hexec rfl (hb hbytes d0) rfl ?_
    exact Steps.refl _)
  obtain ⟨T3, B3, X3, ba3, bs3, bv3, bh3, bf3, st3⟩ := X0.anew hexec (atype := .byte) (wk W (.arrayClass .byte)) rfl (by show len * 1 ≤ _; omega) (by omega) (g := (mkF m 1 #[.val (.ref b), .val (.int (Int32.ofNat o)), .val (.int (Int32.ofNat len)), .unset, .unset, .unset] [.int (Int32.ofNat len)])) rfl (hb hbytes d1) (rest := []) rfl (Nat.le_refl _) (by show 0 + len ≤ len; omega)
  rw [hh0] at ba3 st3
  have kp3 : XT.Kept s T3 := (XT.Kept.of_eq hh0).push bh3
  have hA3 := hA.keep X3.warmed.alike (kp3 _ _ hA.1.1)
  have hne : b ≠ s.heap.size := hA.1.ne
  have c4 : Steps p.tables e below (s₁.setTop (entryFrame m #[.ref b, .int (Int32.ofNat o), .int (Int32.ofNat len)] 6)) (T3.setTop (mkF m 3 #[.val (.ref b), .val (.int (Int32.ofNat o)), .val (.int (Int32.ofNat len)), .unset, .unset, .unset] [.ref s.heap.size])) := c2.trans (st3 _ (Steps.refl _))
  have c5 : Steps p.tables e below (s₁.setTop (entryFrame m #[.ref b, .int (Int32.ofNat o), .int (Int32.ofNat len)] 6)) (T3.setTop (mkF m 9 #[.val (.ref b), .val (.int (Int32.ofNat o)), .val (.int (Int32.ofNat len)), .val (.ref s.heap.size), .unset, .unset] [.int (Int32.ofNat len), .int 0, .ref s.heap.size, .int (Int32.ofNat o), .ref b])) := c4.trans (by
    refine XS.astoreN X3.here hexec rfl (hb hbytes d3) rfl rfl rfl ?_
    refine XS.aloadN X3.here hexec rfl (hb hbytes d4) rfl rfl ?_
    refine XS.iloadN X3.here hexec rfl (hb hbytes d5) rfl ?_
    refine XS.aloadN X3.here hexec rfl (hb hbytes d6) rfl rfl ?_
    refine iconstV X3.here hexec rfl 0 (hb hbytes d7) (by decide) ?_
    refine XS.iloadN X3.here hexec rfl (hb hbytes d8) rfl ?_
    exact Steps.refl _)
  obtain ⟨v6, T6, X6, E6, g6⟩ := X3.callS hexec (Cmp5.law l b A s.heap.size B3 o 0 len) hown (wks W (staticW U16 115 Cmp5.yN)) (wk W Cmp5.tab) (W := 0) (Nat.le_of_ble_eq_true rfl) (Nat.le_of_ble_eq_true rfl) (Nat.le_refl _) (by show 0 + len + 0 ≤ len; omega) (g := (mkF m 9 #[.val (.ref b), .val (.int (Int32.ofNat o)), .val (.int (Int32.ofNat len)), .val (.ref s.heap.size), .unset, .unset] [.int (Int32.ofNat len), .int (Int32.ofNat 0), .ref s.heap.size, .int (Int32.ofNat o), .ref b])) rfl (by rw [hml]; rfl) c5 (argsL := [.ref b, .int (Int32.ofNat o), .ref s.heap.size, .int (Int32.ofNat 0), .int (Int32.ofNat len)]) (rest := []) rfl rfl (by show 2 * 0 + 0 ≤ _; decide) (hb hbytes d9) (⟨rfl, hA3, ba3, hne, l1, by rw [bs3]; simp, hp⟩)
  obtain ⟨rfl, B6, p6, f6⟩ := E6
  have c7 : Steps p.tables e below (s₁.setTop (entryFrame m #[.ref b, .int (Int32.ofNat o), .int (Int32.ofNat len)] 6)) (T6.setTop (mkF m 12 #[.val (.ref b), .val (.int (Int32.ofNat o)), .val (.int (Int32.ofNat len)), .val (.ref s.heap.size), .unset, .unset] [.int (Int32.ofNat len)])) := g6
  have c8 : Steps p.tables e below (s₁.setTop (entryFrame m #[.ref b, .int (Int32.ofNat o), .int (Int32.ofNat len)] 6)) (T6.setTop (mkF m 58 #[.val (.ref b), .val (.int (Int32.ofNat o)), .val (.int (Int32.ofNat len)), .val (.ref s.heap.size), .val (.int (Int32.ofNat len)), .unset] [.ref s.heap.size])) := c7.trans (by
    refine XS.istore X6.here hexec rfl (hb hbytes d12) rfl rfl ?_
    refine XS.iload X6.here hexec rfl (hb hbytes d14) rfl ?_
    refine XS.iloadN X6.here hexec rfl (hb hbytes d16) rfl ?_
    refine XS.icmpYes X6.here hexec rfl (pc0 := 17) rfl (hb hbytes d17) rfl (ii_eq_t rfl) (by decide) rfl ?_
    refine XS.aloadN X6.here hexec rfl (hb hbytes d57) rfl rfl ?_
    exact Steps.refl _)
  have X8 := X6.wide (L' := []) (cells' := 1) (slots' := len) (fun x hx hlt => by
    simp only [List.nil_append, copyLocs, List.mem_map, List.mem_range] at hx
    obtain ⟨i, -, rfl⟩ := hx
    exact absurd hlt (Nat.lt_irrefl _)) (Nat.le_refl _) (by omega)
  exact ⟨T6, some (.ref s.heap.size), _, _, _, X8, rfl, rfl, rfl, (fun h => by cases h), ⟨⟨rfl, B6, ba3.like (X3.warmed.alike.symm.trans X6.warmed.alike) p6.1 f6.1 f6.2.1 f6.2.2.1, f6.2.1.trans bv3, by rw [X6.warmed.alike.findClass, f6.1]; exact bf3, by rw [f6.2.2.1, bs3]; simp, fun j hj => by rw [f6.2.2.2 j, if_pos (by omega)]; rfl, kp3.put p6 (Nat.le_refl _)⟩, by rw [p6.2.2, bh3, hh0]; simp⟩, fun fs hl => c8.trans (X8.areturnOut hexec rfl hret rfl (hb hbytes d58) hl)⟩
end Cmp3
namespace CodL
def yN : MethodName := ⟨"java/lang/StringUTF16", "coderFromArrayLen", "([BI)B"⟩
abbrev yB : ByteArray := jdk_52_method_15_code
theorem d0 : decode yB 0 = .ok (.iload_n 1, 1) := by decide +kernel
theorem d1 : decode yB 1 = .ok (.aload_n 0, 1) := by decide +kernel
theorem d2 : decode yB 2 = .ok (.arraylength, 1) := by decide +kernel
theorem d3 : decode yB 3 = .ok (.isub, 1) := by decide +kernel
theorem d4 : decode yB 4 = .ok (.bipush 31, 2) := by decide +kernel
theorem d6 : decode yB 6 = .ok (.iushr, 1) := by decide +kernel
theorem d7 : decode yB 7 = .ok (.i2b, 1) := by decide +kernel
theorem d8 : decode yB 8 = .ok (.ireturn, 1) := by decide +kernel
def site : List Cond := []
def tab : Cond := tabOf yN yB 2 (some .byte) site
def P (d : Addr) (B : Cell) (args : Array Value) (s : State) : Prop := args = #[.ref d, .int (Int32.ofNat B.slots.size)] ∧ Arr .byte d B s
def E (r : Option Value) (s u : State) : Prop := XT.PureE (some (.int 0)) r s u
/-- an array as long as the number of chars: LATIN1 -/
theorem law (l : Launch) (d : Addr) (B : Cell) : Law l yN 2 2 0 0 yB 2 (some .byte) site (P d B) E [] 0 0 := by
  refine Law.of_walk (plainFor_of_name (by decide +kernel)) (by decide +kernel) (by decide +kernel) (by decide) (fun _ _ h => by rw [h.1]; rfl) (fun _ U U' hal hh h => ⟨h.1, h.2.mv hal hh⟩) (fun r U U' V V' h1 hal h2 h => XT.PureE.mv r U U' V V' h1 hal h2 h) ?_
  intro p e s m args below meth c s₁ X0 hexec hbytes hml hret hlk hnm hown hh0 W hP
  obtain ⟨rfl, hB⟩ := hP
  have hB0 := hB.mv X0.warmed.alike hh0
  have c1 : Steps p.tables e below (s₁.setTop (entryFrame m #[.ref d, .int (Int32.ofNat B.slots.size)] 2)) (s₁.setTop (mkF m 0 #[.val (.ref d), .val (.int (Int32.ofNat B.slots.size))] [])) := entry rfl
  have c2 : Steps p.tables e below (s₁.setTop (entryFrame m #[.ref d, .int (Int32.ofNat B.slots.size)] 2)) (s₁.setTop (mkF m 2 #[.val (.ref d), .val (.int (Int32.ofNat B.slots.size))] [.ref d, .int (Int32.ofNat B.slots.size)])) := c1.trans (by
    refine XS.iloadN X0.here hexec rfl (hb hbytes d0) rfl ?_
    refine XS.aloadN X0.here hexec rfl (hb hbytes d1) rfl rfl ?_
    exact Steps.refl _)
  have c3 : Steps p.tables e below (s₁.setTop (entryFrame m #[.ref d, .int (Int32.ofNat B.slots.size)] 2)) (s₁.setTop (mkF m 8 #[.val (.ref d), .val (.int (Int32.ofNat B.slots.size))] [.int (lo8 (ushr (Int32.ofNat B.slots.size - Int32.ofNat B.slots.size) 31))])) := c2.trans (by
    refine X0.alen hexec hB0 rfl rfl (hb hbytes d2) ?_
    refine XS.isub X0.here hexec rfl (hb hbytes d3) rfl ?_
    refine bipushV X0.here hexec rfl 31 (hb hbytes d4) (by decide) ?_
    refine iushr X0.here hexec rfl (hb hbytes d6) rfl ?_
    refine i2b X0.here hexec rfl (hb hbytes d7) rfl ?_
    exact Steps.refl _)
  have e0 : lo8 (ushr (Int32.ofNat B.slots.size - Int32.ofNat B.slots.size) 31) = 0 := by rw [Int32.sub_self]; decide
  rw [e0] at c3
  exact ⟨s₁, some (.int 0), _, _, _, X0, rfl, rfl, rfl, (fun h => by cases h), ⟨rfl, hh0⟩, fun fs hl => c3.trans (X0.ireturnOut hexec hret rfl (Or.inr (Or.inr (Or.inl rfl))) (hb hbytes d8) hl)⟩
end CodL
/-- the String at a is Latin-1 over a new byte[] (the heap's one new cell): the low bytes of the len chars of A from o on; every cell but a is kept -/
def Got (a : Addr) (D : Cell) (fV fC : Field) (A : Cell) (o len : Nat) (r : Option Value) (s u : State) : Prop := r = none ∧ ∃ D' V : Cell, Blank "java/lang/String" a D' u ∧ Same D D' [fV.slot, fC.slot] ∧ D'.slots[fV.slot]? = some (.ref s.heap.size) ∧ D'.slots[fC.slot]? = some (.int 0) ∧ Arr .byte s.heap.size V u ∧ V.vm = .none ∧ u.vm.findClass "[B" = some V.cls ∧ V.slots.size = len ∧ (∀ j, j < len → V.slots[j]? = some (.int (lo8 (cv A (o + j))))) ∧ (∀ (y : Addr) (c : Cell), y ≠ a → s.heap[y]? = some c → u.heap[y]? = some c) ∧ u.heap.size = s.heap.size + 1
theorem Got.mv {a : Addr} {D A : Cell} {fV fC : Field} {o len : Nat} : ∀ r (U U' V V' : State), U'.heap = U.heap → V.vm.Alike V'.vm → V'.heap = V.heap → Got a D fV fC A o len r U V → Got a D fV fC A o len r U' V' :=
  fun r U U' V V' h1 hal h2 ⟨e0, D', X, a1, a2, a3, a4, a5, a6, a7, a8, a9, a10, a11⟩ => ⟨e0, D', X, a1.mv hal h2, a2, by rw [h1]; exact a3, a4, by rw [h1]; exact a5.mv hal h2, a6, by rw [hal.findClass]; exact a7, a8, a9, by rw [h1, h2]; exact a10, by rw [h1, h2]; exact a11⟩
namespace New4
def yN : MethodName := ⟨"java/lang/String", "<init>", "([CIILjava/lang/Void;)V"⟩
abbrev yB : ByteArray := jdk_42_method_149_code
theorem d0 : decode yB 0 = .ok (.aload_n 0, 1) := by decide +kernel
theorem d1 : decode yB 1 = .ok (.invokespecial 1, 3) := by decide +kernel
theorem d4 : decode yB 4 = .ok (.iload_n 3, 1) := by decide +kernel
theorem d5 : decode yB 5 = .ok (.ifCond (.ne) 22, 3) := by decide +kernel
theorem d27 : decode yB 27 = .ok (.getstatic 38, 3) := by decide +kernel
theorem d30 : decode yB 30 = .ok (.ifCond (.eq) 28, 3) := by decide +kernel
theorem d33 : decode yB 33 = .ok (.aload_n 1, 1) := by decide +kernel
theorem d34 : decode yB 34 = .ok (.iload_n 2, 1) := by decide +kernel
theorem d35 : decode yB 35 = .ok (.iload_n 3, 1) := by decide +kernel
theorem d36 : decode yB 36 = .ok (.invokestatic 177, 3) := by decide +kernel
theorem d39 : decode yB 39 = .ok (.astore 5, 2) := by decide +kernel
theorem d41 : decode yB 41 = .ok (.aload_n 0, 1) := by decide +kernel
theorem d42 : decode yB 42 = .ok (.aload 5, 2) := by decide +kernel
theorem d44 : decode yB 44 = .ok (.iload_n 3, 1) := by decide +kernel
theorem d45 : decode yB 45 = .ok (.invokestatic 47, 3) := by decide +kernel
theorem d48 : decode yB 48 = .ok (.putfield 15, 3) := by decide +kernel
theorem d51 : decode yB 51 = .ok (.aload_n 0, 1) := by decide +kernel
theorem d52 : decode yB 52 = .ok (.aload 5, 2) := by decide +kernel
theorem d54 : decode yB 54 = .ok (.putfield 9, 3) := by decide +kernel
theorem d57 : decode yB 57 = .ok (.return_, 1) := by decide +kernel
def site : List Cond := [.fieldLink "java/lang/String" 38 "java/lang/String" "COMPACT_STRINGS" "Z", Cmp3.tab, CodL.tab, .laysFinal "java/lang/String" "java/lang/String" "value" "[B", .fieldLink "java/lang/String" 9 "java/lang/String" "value" "[B", .laysFinal "java/lang/String" "java/lang/String" "coder" "B", .fieldLink "java/lang/String" 15 "java/lang/String" "coder" "B"] ++ objW "java/lang/String" 1 ++ staticW "java/lang/String" 177 Cmp3.yN ++ staticW "java/lang/String" 47 CodL.yN
def tab : Cond := tabOf yN yB 6 none site
def P (a : Addr) (D : Cell) (fV fC : Field) (b : Addr) (A : Cell) (z : Int32) (o len : Nat) (args : Array Value) (s : State) : Prop := args = #[.ref a, .ref b, .int (Int32.ofNat o), .int (Int32.ofNat len), .null] ∧ Blank "java/lang/String" a D s ∧ Found "java/lang/String" "value" "[B" fV s ∧ Found "java/lang/String" "coder" "B" fC s ∧ Ch b A s ∧ StaticIs s "java/lang/String" "COMPACT_STRINGS" "Z" (.int z) ∧ ¬ z = 0 ∧ 0 < len ∧ o + len ≤ A.slots.size ∧ len ≤ 536870912 ∧ ∀ i, i < len → ¬ 255 < cv A (o + i)
def E (a : Addr) (D : Cell) (fV fC : Field) (A : Cell) (o len : Nat) (r : Option Value) (s u : State) : Prop := Got a D fV fC A o len r s u
/-- len > 0, no char of the range above 255: a Latin-1 String of their low bytes -/
theorem law (l : Launch) (a : Addr) (D : Cell) (fV fC : Field) (b : Addr) (A : Cell) (z : Int32) (o len : Nat) : Law l yN 5 4 2 35 yB 6 none site (P a D fV fC b A z o len) (E a D fV fC A o len) [⟨a, fC.slot⟩, ⟨a, fV.slot⟩] 1 len := by
  refine Law.of_walk (plainFor_of_name (by decide +kernel)) (by decide +kernel) (by decide +kernel) (by decide) (fun _ _ h => by rw [h.1]; rfl) (fun _ U U' hal hh h => ⟨h.1, h.2.1.mv hal hh, h.2.2.1.al hal, h.2.2.2.1.al hal, h.2.2.2.2.1.mv hal hh, h.2.2.2.2.2.1.there hal hh, h.2.2.2.2.2.2⟩) (fun r U U' V V' h1 hal h2 h => Got.mv r U U' V V' h1 hal h2 h) ?_
  intro p e s m args below meth c s₁ X0 hexec hbytes hml hret hlk hnm hown hh0 W hP
  obtain ⟨rfl, hB, f1, f2, hA, s1, hz, l0, l1, l2, hp⟩ := hP
  have a31 := hA.1.2.2.2
  have c1 : Steps p.tables e below (s₁.setTop (entryFrame m #[.ref a, .ref b, .int (Int32.ofNat o), .int (Int32.ofNat len), .null] 6)) (s₁.setTop (mkF m 0 #[.val (.ref a), .val (.ref b), .val (.int (Int32.ofNat o)), .val (.int (Int32.ofNat len)), .val .null, .unset] [])) := entry rfl
  have c2 : Steps p.tables e below (s₁.setTop (entryFrame m #[.ref a, .ref b, .int (Int32.ofNat o), .int (Int32.ofNat len), .null] 6)) (s₁.setTop (mkF m 1 #[.val (.ref a), .val (.ref b), .val (.int (Int32.ofNat o)), .val (.int (Int32.ofNat len)), .val .null, .unset] [.ref a])) := c1.trans (by
    refine XS.aloadN X0.here hexec rfl (hb hbytes d0) rfl rfl ?_
    exact Steps.refl _)
  obtain ⟨T3, X3, q3, st3⟩ := X0.oinit hexec hown (wks W (objW "java/lang/String" 1)) (g := (mkF m 1 #[.val (.ref a), .val (.ref b), .val (.int (Int32.ofNat o)), .val (.int (Int32.ofNat len)), .val .null, .unset] [.ref a])) rfl (by rw [hml]; rfl) (rest := []) rfl (hb hbytes d1) (W := 0) (by show 2 * 0 + 0 ≤ _; decide) (Nat.le_of_ble_eq_true rfl) (Nat.le_of_ble_eq_true rfl)
  have hh3 := q3.trans hh0
  have c4 : Steps p.tables e below (s₁.setTop (entryFrame m #[.ref a, .ref b, .int (Int32.ofNat o), .int (Int32.ofNat len), .null] 6)) (T3.setTop (mkF m 27 #[.val (.ref a), .val (.ref b), .val (.int (Int32.ofNat o)), .val (.int (Int32.ofNat len)), .val .null, .unset] [])) := (c2.trans (st3 _ (Steps.refl _))).trans (by
    refine XS.iloadN X3.here hexec rfl (hb hbytes d4) rfl ?_
    refine XS.ifYes X3.here hexec rfl (pc0 := 5) rfl (hb hbytes d5) rfl (i0_ne_t (nz32 (by omega) l0)) (by decide) rfl ?_
    exact Steps.refl _)
  obtain ⟨T5, X5, q5, st5⟩ := X3.sget hexec hown (wk W (.fieldLink "java/lang/String" 38 "java/lang/String" "COMPACT_STRINGS" "Z")) s1 (fun _ _ h => by rw [hh3]; exact h) (g := (mkF m 27 #[.val (.ref a), .val (.ref b), .val (.int (Int32.ofNat o)), .val (.int (Int32.ofNat len)), .val .null, .unset] [])) rfl (hb hbytes d27)
  have hh5 := q5.trans hh3
  have c6 : Steps p.tables e below (s₁.setTop (entryFrame m #[.ref a, .ref b, .int (Int32.ofNat o), .int (Int32.ofNat len), .null] 6)) (T5.setTop (mkF m 30 #[.val (.ref a), .val (.ref b), .val (.int (Int32.ofNat o)), .val (.int (Int32.ofNat len)), .val .null, .unset] [.int z])) := c4.trans (st5 _ (Steps.refl _))
  have c7 : Steps p.tables e below (s₁.setTop (entryFrame m #[.ref a, .ref b, .int (Int32.ofNat o), .int (Int32.ofNat len), .null] 6)) (T5.setTop (mkF m 36 #[.val (.ref a), .val (.ref b), .val (.int (Int32.ofNat o)), .val (.int (Int32.ofNat len)), .val .null, .unset] [.int (Int32.ofNat len), .int (Int32.ofNat o), .ref b])) := c6.trans (by
    refine XS.ifNo X5.here hexec rfl (hb hbytes d30) rfl (i0_eq_f hz) ?_
    refine XS.aloadN X5.here hexec rfl (hb hbytes d33) rfl rfl ?_
    refine XS.iloadN X5.here hexec rfl (hb hbytes d34) rfl ?_
    refine XS.iloadN X5.here hexec rfl (hb hbytes d35) rfl ?_
    exact Steps.refl _)
  obtain ⟨v8, T8, X8, E8, g8⟩ := X5.callS hexec (Cmp3.law l b A o len) hown (wks W (staticW "java/lang/String" 177 Cmp3.yN)) (wk W Cmp3.tab) (W := 0) (Nat.le_of_ble_eq_true rfl) (Nat.le_of_ble_eq_true rfl) (Nat.le_refl _) (by show 0 + len ≤ len; omega) (g := (mkF m 36 #[.val (.ref a), .val (.ref b), .val (.int (Int32.ofNat o)), .val (.int (Int32.ofNat len)), .val .null, .unset] [.int (Int32.ofNat len), .int (Int32.ofNat o), .ref b])) rfl (by rw [hml]; rfl) c7 (argsL := [.ref b, .int (Int32.ofNat o), .int (Int32.ofNat len)]) (rest := []) rfl rfl (by show 2 * 0 + 0 ≤ _; decide) (hb hbytes d36) (⟨rfl, hA.mv X5.warmed.alike hh5, l1, l2, hp⟩)
  obtain ⟨e8, z8⟩ := E8
  obtain ⟨rfl, N, n1, n2, n3, n4, n5, n6⟩ := NewArr.mv _ T5 s _ _ hh5.symm (Vm.Alike.refl _) rfl e8
  rw [hh5] at z8
  have hB1 := hB.keep X8.warmed.alike (n6 _ _ hB.1)
  have hne : s.heap.size ≠ a := (Nat.ne_of_lt (Array.getElem?_eq_some_iff.mp hB.1).1).symm
  have c9 : Steps p.tables e below (s₁.setTop (entryFrame m #[.ref a, .ref b, .int (Int32.ofNat o), .int (Int32.ofNat len), .null] 6)) (T8.setTop (mkF m 39 #[.val (.ref a), .val (.ref b), .val (.int (Int32.ofNat o)), .val (.int (Int32.ofNat len)), .val .null, .unset] [.ref s.heap.size])) := g8
  have c10 : Steps p.tables e below (s₁.setTop (entryFrame m #[.ref a, .ref b, .int (Int32.ofNat o), .int (Int32.ofNat len), .null] 6)) (T8.setTop (mkF m 45 #[.val (.ref a), .val (.ref b), .val (.int (Int32.ofNat o)), .val (.int (Int32.ofNat len)), .val .null, .val (.ref s.heap.size)] [.int (Int32.ofNat N.slots.size), .ref s.heap.size, .ref a])) := by
    have hc : Steps p.tables e below (s₁.setTop (entryFrame m #[.ref a, .ref b, .int (Int32.ofNat o), .int (Int32.ofNat len), .null] 6)) (T8.setTop (mkF m 45 #[.val (.ref a), .val (.ref b), .val (.int (Int32.ofNat o)), .val (.int (Int32.ofNat len)), .val .null, .val (.ref s.heap.size)] [.int (Int32.ofNat len), .ref s.heap.size, .ref a])) := c9.trans (by
      refine XS.astore X8.here hexec rfl (hb hbytes d39) rfl rfl rfl ?_
      refine XS.aloadN X8.here hexec rfl (hb hbytes d41) rfl rfl ?_
      refine XS.aload X8.here hexec rfl (hb hbytes d42) rfl rfl ?_
      refine XS.iloadN X8.here hexec rfl (hb hbytes d44) rfl ?_
      exact Steps.refl _)
    rw [n4]; exact hc
  obtain ⟨v11, T11, X11, E11, g11⟩ := X8.callS hexec (CodL.law l s.heap.size N) hown (wks W (staticW "java/lang/String" 47 CodL.yN)) (wk W CodL.tab) (W := 1) (Nat.le_of_ble_eq_true rfl) (Nat.le_of_ble_eq_true rfl) (Nat.le_refl _) (by show 0 + len + 0 ≤ len; omega) (g := (mkF m 45 #[.val (.ref a), .val (.ref b), .val (.int (Int32.ofNat o)), .val (.int (Int32.ofNat len)), .val .null, .val (.ref s.heap.size)] [.int (Int32.ofNat N.slots.size), .ref s.heap.size, .ref a])) rfl (by rw [hml]; rfl) c10 (argsL := [.ref s.heap.size, .int (Int32.ofNat N.slots.size)]) (rest := [.ref a]) rfl rfl (by show 2 * 0 + (1 + 0) ≤ _; decide) (hb hbytes d45) (⟨rfl, n1⟩)
  obtain ⟨rfl, q11⟩ := E11
  have hB11 := hB1.mv (X8.warmed.alike.symm.trans X11.warmed.alike) q11
  have c12 : Steps p.tables e below (s₁.setTop (entryFrame m #[.ref a, .ref b, .int (Int32.ofNat o), .int (Int32.ofNat len), .null] 6)) (T11.setTop (mkF m 48 #[.val (.ref a), .val (.ref b), .val (.int (Int32.ofNat o)), .val (.int (Int32.ofNat len)), .val .null, .val (.ref s.heap.size)] [.int 0, .ref a])) := g11
  obtain ⟨T13, X13, p13, bl13, sl13, st13⟩ := X11.finit hexec hown (wk W (.fieldLink "java/lang/String" 15 "java/lang/String" "coder" "B")) (Or.inr ⟨_, (wk W (.laysFinal "java/lang/String" "java/lang/String" "coder" "B"))⟩) (Or.inl ⟨rfl, hnm⟩) f2 (Or.inl rfl) hB11 (t := .byte) (by decide +kernel) rfl (g := (mkF m 48 #[.val (.ref a), .val (.ref b), .val (.int (Int32.ofNat o)), .val (.int (Int32.ofNat len)), .val .null, .val (.ref s.heap.size)] [.int 0, .ref a])) rfl (rest := []) rfl (hb hbytes d48)
  have c14 : Steps p.tables e below (s₁.setTop (entryFrame m #[.ref a, .ref b, .int (Int32.ofNat o), .int (Int32.ofNat len), .null] 6)) (T13.setTop (mkF m 54 #[.val (.ref a), .val (.ref b), .val (.int (Int32.ofNat o)), .val (.int (Int32.ofNat len)), .val .null, .val (.ref s.heap.size)] [.ref s.heap.size, .ref a])) := (c12.trans (st13 _ (Steps.refl _))).trans (by
    refine XS.aloadN X13.here hexec rfl (hb hbytes d51) rfl rfl ?_
    refine XS.aload X13.here hexec rfl (hb hbytes d52) rfl rfl ?_
    exact Steps.refl _)
  obtain ⟨T15, X15, p15, bl15, sl15, st15⟩ := X13.finit hexec hown (wk W (.fieldLink "java/lang/String" 9 "java/lang/String" "value" "[B")) (Or.inr ⟨_, (wk W (.laysFinal "java/lang/String" "java/lang/String" "value" "[B"))⟩) (Or.inl ⟨rfl, hnm⟩) f1 (Or.inl rfl) bl13 (t := (.array .byte)) (by decide +kernel) rfl (g := (mkF m 54 #[.val (.ref a), .val (.ref b), .val (.int (Int32.ofNat o)), .val (.int (Int32.ofNat len)), .val .null, .val (.ref s.heap.size)] [.ref s.heap.size, .ref a])) rfl (rest := []) rfl (hb hbytes d54)
  have c16 : Steps p.tables e below (s₁.setTop (entryFrame m #[.ref a, .ref b, .int (Int32.ofNat o), .int (Int32.ofNat len), .null] 6)) (T15.setTop (mkF m 57 #[.val (.ref a), .val (.ref b), .val (.int (Int32.ofNat o)), .val (.int (Int32.ofNat len)), .val .null, .val (.ref s.heap.size)] [])) := c14.trans (st15 _ (Steps.refl _))
  have ap := apart (Or.inr ⟨_, (wk W (.laysFinal "java/lang/String" "java/lang/String" "value" "[B"))⟩) (Or.inr ⟨_, (wk W (.laysFinal "java/lang/String" "java/lang/String" "coder" "B"))⟩) f1 f2 (t₁ := .array .byte) (t₂ := .byte) (by decide +kernel) (by decide +kernel) (by decide)
  have al := X8.warmed.alike.symm.trans X15.warmed.alike
  have n7 : T11.heap[s.heap.size]? = some N := by rw [q11]; exact n1.1
  exact ⟨T15, none, _, _, _, X15, by simp, rfl, by omega, (fun _ => rfl), ⟨rfl, _, N, bl15, ((Same.refl D _).set _ (by simp)).set _ (by simp), sl15, (Cell.slots_setSlot_ne _ ap).trans sl13, n1.keep al (p15.other hne (p13.other hne n7)), n2, by rw [al.findClass]; exact n3, n4, n5, fun y c h1 h2 => p15.other h1 (p13.other h1 (by rw [q11]; exact n6 y c h2)), by rw [p15.2.2, p13.2.2, q11]; exact z8⟩, fun fs hl => c16.trans (X15.returnOut hexec hret (hb hbytes d57) hl)⟩
end New4
namespace New1
def yN : MethodName := ⟨"java/lang/String", "<init>", "([C)V"⟩
abbrev yB : ByteArray := jdk_42_method_3_code
theorem d0 : decode yB 0 = .ok (.aload_n 0, 1) := by decide +kernel
theorem d1 : decode yB 1 = .ok (.aload_n 1, 1) := by decide +kernel
theorem d2 : decode yB 2 = .ok (.iconst 0, 1) := by decide +kernel
theorem d3 : decode yB 3 = .ok (.aload_n 1, 1) := by decide +kernel
theorem d4 : decode yB 4 = .ok (.arraylength, 1) := by decide +kernel
theorem d5 : decode yB 5 = .ok (.aconst_null, 1) := by decide +kernel
theorem d6 : decode yB 6 = .ok (.invokespecial 27, 3) := by decide +kernel
theorem d9 : decode yB 9 = .ok (.return_, 1) := by decide +kernel
def site : List Cond := [New4.tab] ++ initW "java/lang/String" 27 New4.yN
def tab : Cond := tabOf yN yB 2 none site
def P (a : Addr) (D : Cell) (fV fC : Field) (b : Addr) (A : Cell) (z : Int32) (args : Array Value) (s : State) : Prop := args = #[.ref a, .ref b] ∧ Blank "java/lang/String" a D s ∧ Found "java/lang/String" "value" "[B" fV s ∧ Found "java/lang/String" "coder" "B" fC s ∧ Ch b A s ∧ StaticIs s "java/lang/String" "COMPACT_STRINGS" "Z" (.int z) ∧ ¬ z = 0 ∧ 0 < A.slots.size ∧ A.slots.size ≤ 536870912 ∧ ∀ i, i < A.slots.size → ¬ 255 < cv A i
def E (a : Addr) (D : Cell) (fV fC : Field) (A : Cell) (r : Option Value) (s u : State) : Prop := Got a D fV fC A 0 A.slots.size r s u
/-- new String(chars), not empty, no char above 255: a Latin-1 String of their low bytes -/
theorem law (l : Launch) (a : Addr) (D : Cell) (fV fC : Field) (b : Addr) (A : Cell) (z : Int32) : Law l yN 2 1 3 52 yB 2 none site (P a D fV fC b A z) (E a D fV fC A) [⟨a, fC.slot⟩, ⟨a, fV.slot⟩] 1 A.slots.size := by
  refine Law.of_walk (plainFor_of_name (by decide +kernel)) (by decide +kernel) (by decide +kernel) (by decide) (fun _ _ h => by rw [h.1]; rfl) (fun _ U U' hal hh h => ⟨h.1, h.2.1.mv hal hh, h.2.2.1.al hal, h.2.2.2.1.al hal, h.2.2.2.2.1.mv hal hh, h.2.2.2.2.2.1.there hal hh, h.2.2.2.2.2.2⟩) (fun r U U' V V' h1 hal h2 h => Got.mv r U U' V V' h1 hal h2 h) ?_
  intro p e s m args below meth c s₁ X0 hexec hbytes hml hret hlk hnm hown hh0 W hP
  obtain ⟨rfl, hB, f1, f2, hA, s1, hz, l0, l2, hp⟩ := hP
  have c1 : Steps p.tables e below (s₁.setTop (entryFrame m #[.ref a, .ref b] 2)) (s₁.setTop (mkF m 0 #[.val (.ref a), .val (.ref b)] [])) := entry rfl
  have c2 : Steps p.tables e below (s₁.setTop (entryFrame m #[.ref a, .ref b] 2)) (s₁.setTop (mkF m 6 #[.val (.ref a), .val (.ref b)] [.null, .int (Int32.ofNat A.slots.size), .int 0, .ref b, .ref a])) := c1.trans (by
    refine XS.aloadN X0.here hexec rfl (hb hbytes d0) rfl rfl ?_
    refine XS.aloadN X0.here hexec rfl (hb hbytes d1) rfl rfl ?_
    refine iconstV X0.here hexec rfl 0 (hb hbytes d2) (by decide) ?_
    refine XS.aloadN X0.here hexec rfl (hb hbytes d3) rfl rfl ?_
    refine X0.alen hexec (hA.1.mv X0.warmed.alike hh0) rfl rfl (hb hbytes d4) ?_
    refine XS.aconstNull X0.here hexec rfl (hb hbytes d5) ?_
    exact Steps.refl _)
  obtain ⟨v3, T3, X3, E3, g3⟩ := X0.callN hexec (New4.law l a D fV fC b A z 0 A.slots.size) rfl hown (wks W (initW "java/lang/String" 27 New4.yN)) (W New4.tab (by simp only [site, List.mem_cons, List.mem_append, true_or, or_true])) (W := 0) (Nat.le_of_ble_eq_true rfl) (Nat.le_of_ble_eq_true rfl) (Nat.le_refl _) (by show 0 + A.slots.size ≤ A.slots.size; omega) (g := (mkF m 6 #[.val (.ref a), .val (.ref b)] [.null, .int (Int32.ofNat A.slots.size), .int (Int32.ofNat 0), .ref b, .ref a])) rfl (by rw [hml]; rfl) c2 (argsL := [.ref b, .int (Int32.ofNat 0), .int (Int32.ofNat A.slots.size), .null]) (rest := []) rfl rfl (by show 2 * 0 + 0 ≤ _; decide) (hb hbytes d6) (⟨rfl, hB.mv X0.warmed.alike hh0, f1.al X0.warmed.alike, f2.al X0.warmed.alike, hA.mv X0.warmed.alike hh0, s1.there X0.warmed.alike hh0, hz, l0, by omega, l2, fun i hi => by rw [Nat.zero_add]; exact hp i hi⟩)
  have e0 := Got.mv _ s₁ s _ _ hh0.symm (Vm.Alike.refl _) rfl E3
  obtain rfl := e0.1
  have c4 : Steps p.tables e below (s₁.setTop (entryFrame m #[.ref a, .ref b] 2)) (T3.setTop (mkF m 9 #[.val (.ref a), .val (.ref b)] [])) := g3
  exact ⟨T3, none, _, _, _, X3, by simp, rfl, by omega, (fun _ => rfl), e0, fun fs hl => c4.trans (X3.returnOut hexec hret (hb hbytes d9) hl)⟩
theorem pays {l : Launch} {R : Room} {p : Program} {e : Env} {below : List Frame} {s : State} {sargs : Array Value} {len W : Nat} (a : Addr) (D : Cell) (fV fC : Field) (b : Addr) (A : Cell) (z : Int32) (htab : tab.before sargs s = true) (hfr : 4 ≤ R.frames) (hlo : W + 65 ≤ R.locals) :
    Back l R p e below s sargs yN len W (fun A₁ a₁ => A₁.cells + 1 ≤ R.cells ∧ A₁.slots + A.slots.size ≤ R.slots ∧ P a D fV fC b A z a₁ A₁.U) (fun A₁ _ v₁ B₁ => E a D fV fC A v₁ A₁.U B₁.U ∧ B₁.locs = A₁.locs ++ [⟨a, fC.slot⟩, ⟨a, fV.slot⟩] ∧ B₁.cells = A₁.cells + 1 ∧ B₁.slots = A₁.slots + A.slots.size) :=
  (law l a D fV fC b A z).pays htab hfr (by omega)
end New1
/-- the byte, read back as charAt reads it, is the char -/
theorem lo8_mask {x : Int32} (h0 : ¬ x < 0) (h1 : ¬ 255 < x) : lo8 x &&& 255 = x := by
  have t : ∀ k : Fin 256, lo8 (Int32.ofNat k.val) &&& 255 = Int32.ofNat k.val := by decide +kernel
  rw [Int32.lt_iff_toInt_lt] at h0 h1
  have e0 : (0 : Int32).toInt = 0 := rfl
  have e1 : (255 : Int32).toInt = 255 := rfl
  obtain ⟨k, hk⟩ : ∃ k : Nat, x.toInt = k := ⟨x.toInt.toNat, by omega⟩
  have hx : x = Int32.ofNat k := Int32.toInt_inj.mp (by rw [hk, Int32.toInt_ofNat_small (by omega)])
  rw [hx]
  exact t ⟨k, by omega⟩
end StrChars
namespace StrChars.Road
open Jvm Sem ClassFile Op Lib Jvm.Stand Jvm.Free Jvm.Free.XT
open Jvm.Lib.Cold (StaticIs)
abbrev ST : String := "java/lang/String"
/-- every table word that New1's law asks, flat -/
abbrev words : List Jvm.Cond := [.code New1.yN New1.yB 2 none, .initialized ST, .methodLink ST 27 New4.yN, .instanceMethod New4.yN,
  .code New4.yN New4.yB 6 none, .fieldLink ST 38 ST "COMPACT_STRINGS" "Z", .laysFinal ST ST "value" "[B", .fieldLink ST 9 ST "value" "[B", .laysFinal ST ST "coder" "B", .fieldLink ST 15 ST "coder" "B",
  .methodLink ST 1 Lib.objectInit, .instanceMethod Lib.objectInit, .code Lib.objectInit ⟨#[0xb1]⟩ 1 none, .methodLink ST 177 Cmp3.yN, .static Cmp3.yN, .methodLink ST 47 CodL.yN, .static CodL.yN,
  .code Cmp3.yN Cmp3.yB 6 (some (.array .byte)), .initialized U16, .arrayClass .byte, .methodLink U16 115 Cmp5.yN, .static Cmp5.yN, .code Cmp5.yN Cmp5.yB 7 (some .int), .code CodL.yN CodL.yB 2 (some .byte)]
theorem tab_of {a : Array Value} {s : State} (h : ∀ w ∈ words, w.before a s = true) : New1.tab.before a s = true := by
  have h5 : Cmp5.tab.before a s = true := unparts (wk h (.code Cmp5.yN Cmp5.yB 7 (some .int))) (wks h (.initialized Cmp5.yN.cls :: Cmp5.site))
  have hc : CodL.tab.before a s = true := unparts (wk h (.code CodL.yN CodL.yB 2 (some .byte))) (wks h (.initialized CodL.yN.cls :: CodL.site))
  have q5 : ∀ w ∈ Cmp5.tab :: words, w.before a s = true := fun w hw => (List.mem_cons.mp hw).elim (fun e => e ▸ h5) (h w)
  have h3 : Cmp3.tab.before a s = true := unparts (wk q5 (.code Cmp3.yN Cmp3.yB 6 (some (.array .byte)))) (wks q5 (.initialized Cmp3.yN.cls :: Cmp3.site))
  have q3 : ∀ w ∈ Cmp3.tab :: CodL.tab :: words, w.before a s = true := fun w hw => (List.mem_cons.mp hw).elim (fun e => e ▸ h3) fun hw => (List.mem_cons.mp hw).elim (fun e => e ▸ hc) (h w)
  have h4 : New4.tab.before a s = true := unparts (wk q3 (.code New4.yN New4.yB 6 none)) (wks q3 (.initialized New4.yN.cls :: New4.site))
  have q4 : ∀ w ∈ New4.tab :: words, w.before a s = true := fun w hw => (List.mem_cons.mp hw).elim (fun e => e ▸ h4) (h w)
  exact unparts (wk q4 (.code New1.yN New1.yB 2 none)) (wks q4 (.initialized New1.yN.cls :: New1.site))
/-- the words ride from the start Z to the walk's own state -/
theorem moved {Z s : State} {a0 args : Array Value} (hZ : Z.Warmed39 s.vm) (hw : ∀ d ∈ words, d.before a0 Z = true) : ∀ d ∈ words, d.before args s = true := fun d hd => by
  have q := hw d hd
  have t : ∀ d ∈ words, d = .arrayClass .byte ∨ (d.onTables && d.keepsFace) = true := by decide +kernel
  rcases t d hd with rfl | t
  · exact RoadKit.mvA hZ q
  · exact RoadKit.mv hZ q t
/-- WHAT COMES BACK, over the tables of the start Z: h the heap at the call, h' behind it -/
def Q (Z : State) (x : Addr) (A : Cell) (h : Heap) (v : Option Value) (h' : Heap) (L : List Loc) : Prop := v = none ∧ (∀ y ∈ L, y.base = x) ∧ RoadKit.Keep h h' [x] ∧ h'.size = h.size + 1 ∧ RoadKit.Exa Z h' x ST ∧ RoadKit.Fld Z h' x ST "value" "[B" (.ref h.size) ∧ RoadKit.Fld Z h' x ST "coder" "B" (.int 0) ∧
  (∃ V : Cell, RoadKit.Arr Z h' h.size V .byte ∧ V.vm = .none ∧ Z.vm.findClass "[B" = some V.cls ∧ V.slots.size = A.slots.size ∧ ∀ j, j < A.slots.size → V.slots[j]? = some (.int (lo8 (cv A j)))) ∧
  ∀ (O n d : String) (w : Value), RoadKit.Fld Z h x O n d w → RoadKit.slotOf Z O n d ≠ RoadKit.slotOf Z ST "value" "[B" → RoadKit.slotOf Z O n d ≠ RoadKit.slotOf Z ST "coder" "B" → RoadKit.Fld Z h' x O n d w
/-- **new String(chars) AT A CALL, IN THE ROAD'S FORM**: for specialBack behind newO: x the fresh String, b the char[] with the cell A -/
theorem back {p : Program} {l : Launch} {e : Env} {R : Room} {s : State} {args : Array Value} {below : List Frame} {len W : Nat} {Z : State} {a0 : Array Value} {h : Heap} (hZ : Z.Warmed39 s.vm) (hw : ∀ d ∈ words, d.before a0 Z = true) {kI : Nat} (wi : (Jvm.Cond.instantiable ST kI).before a0 Z = true)
    {x b : Addr} {A : Cell} {z : Int32} {v0 c0 : Value} (E : RoadKit.Exa Z h x ST) (V : RoadKit.Fld Z h x ST "value" "[B" v0) (C : RoadKit.Fld Z h x ST "coder" "B" c0) (K : RoadKit.Arr Z h b A .char) (hty : Typed .char A) (S : RoadKit.Sta Z h ST "COMPACT_STRINGS" "Z" (.int z)) (hz : ¬ z = 0)
    (l0 : 0 < A.slots.size) (l2 : A.slots.size ≤ 536870912) (hp : ∀ i, i < A.slots.size → ¬ 255 < cv A i) (hfr : 4 ≤ R.frames) (hlo : W + 65 ≤ R.locals) :
    Back l R p e below s args New1.yN len W (fun P a => a = #[.ref x, .ref b] ∧ P.U.heap = h ∧ P.cells + 1 ≤ R.cells ∧ P.slots + A.slots.size ≤ R.slots)
      (fun P _ v B => ∃ L, Q Z x A h v B.U.heap L ∧ B.locs = P.locs ++ L ∧ B.cells = P.cells + 1 ∧ B.slots = P.slots + A.slots.size) := by
  intro m meth c P g ig mk a X hg hsize hdg hW hn hp'
  obtain ⟨rfl, rfl, r1, r2⟩ := hp'
  have al : Z.vm.Alike P.U.vm := hZ.alike.trans X.warmed.alike
  obtain ⟨D, cfV, kV, iV, fV, hD, gV, stV, knV, obV, asV, slV⟩ := id V
  obtain ⟨D', cfC, kC, iC, fC, hD', gC, stC, -, -, asC, slC⟩ := id C
  cases hD.symm.trans hD'
  obtain ⟨D2, kD, e1, e2, e3, e4, e5⟩ := id E
  cases hD.symm.trans e1
  obtain ⟨c2, k2, i1, i2, i3, -⟩ := Cond.instantiable_spec wi
  cases e2.symm.trans i1
  cases e3.symm.trans i2
  obtain ⟨kU, u1, u2⟩ := al.2.2 _ _ e3
  have hB : Blank ST x D P.U := ⟨hD, ⟨knV, fun q hq => by rw [hq] at obV; cases obV⟩, by rw [al.findClass]; exact e2, kU, u1, by rw [u2]; exact i3, by rw [u2]; exact e5 i3⟩
  have F1 : Found ST "value" "[B" fV P.U := ⟨SBG.found_only al ⟨cfV, kV, iV, gV⟩, stV⟩
  have F2 : Found ST "coder" "B" fC P.U := ⟨SBG.found_only al ⟨cfC, kC, iC, gC⟩, stC⟩
  have hA : Ch b A P.U := ⟨⟨K.1, State.isArrayOf_alike al K.2.1, K.2.2, by omega⟩, hty⟩
  have hS : StaticIs P.U ST "COMPACT_STRINGS" "Z" (.int z) := by
    obtain ⟨cfS, iS, kS, fS, st, cS, t1, t2, t3, t4, t5, t6, t7⟩ := S
    exact StaticIs.there (s := { Z with heap := P.U.heap }) ⟨cfS, iS, kS, fS, st, cS, t1, t2, t3, t4, t5, (fun q => by rw [q] at t6; cases t6), t7⟩ al rfl
  obtain ⟨v, B, X', ⟨⟨hv, E', V', q1, q2, q3, q4, q5, q6, q7, q8, q9, q10, q11⟩, hl, hc, hs⟩, st⟩ := New1.pays x D fV fC b A z (tab_of (moved hZ hw)) hfr hlo m meth c P g ig mk _ X hg hsize hdg hW hn ⟨r1, r2, rfl, hB, F1, F2, hA, hS, hz, l0, l2, hp⟩
  have al' : Z.vm.Alike B.U.vm := hZ.alike.trans X'.warmed.alike
  have hsz : E'.slots.size = D.slots.size := by
    obtain ⟨-, -, -, kB, w1, w2, w3⟩ := q1
    obtain ⟨kB', y1, y2⟩ := al'.2.2 _ _ e3
    rw [q2.2.1] at w1
    cases w1.symm.trans y1
    rw [w3, e5 i3, y2]
  refine ⟨v, B, X', ⟨_, ⟨hv, ?_, ⟨by omega, fun y cy hy hn' => q10 y cy (by simpa using hn') hy, fun y cy hy => ?_⟩, q11, ⟨E', _, q1.1, by rw [q2.2.1]; exact e2, by rw [q2.2.1]; exact e3, by rw [q2.1]; exact obV, fun _ => by rw [hsz]; exact e5 i3⟩,
    ⟨E', cfV, kV, iV, fV, q1.1, gV, stV, by rw [q2.1]; exact knV, by rw [q2.1]; exact obV, by rw [q2.2.1]; exact asV, q3⟩, ⟨E', cfC, kC, iC, fC, q1.1, gC, stC, by rw [q2.1]; exact knV, by rw [q2.1]; exact obV, by rw [q2.2.1]; exact asC, q4⟩,
    ⟨V', ⟨q5.1, State.isArrayOf_alike al'.symm q5.2.1, q5.2.2.1⟩, q6, by rw [← al'.findClass]; exact q7, q8, fun j hj => by have := q9 j hj; rwa [Nat.zero_add] at this⟩, fun O n d w F n1 n2 => ?_⟩, hl, hc, hs⟩, st⟩
  · intro y hy
    simp only [List.mem_cons, List.not_mem_nil, or_false] at hy
    rcases hy with rfl | rfl <;> rfl
  · by_cases q : y = x
    · subst q
      cases hD.symm.trans hy
      exact ⟨E', q1.1, q2.2.1, q2.1, hsz⟩
    · exact ⟨cy, q10 y cy q hy, rfl, rfl, rfl⟩
  · obtain ⟨D3, cf, k, i, f, g1, g2, g3, g4, g5, g6, g7⟩ := F
    cases hD.symm.trans g1
    simp only [RoadKit.slotOf, g2, gV, gC, Option.map_some, Option.getD_some] at n1 n2
    exact ⟨E', cf, k, i, f, q1.1, g2, g3, by rw [q2.1]; exact g4, by rw [q2.1]; exact g5, by rw [q2.2.1]; exact g6, by rw [q2.2.2 f.slot (by simp [n1, n2])]; exact g7⟩
end StrChars.Road
namespace StrChars.Road
open Jvm Sem ClassFile Op Lib Jvm.Stand Jvm.Free Jvm.Free.XT
/-- WHAT COMES BACK, the byte[] as a list of values -/
def QA (Z : State) (x : Addr) (zn : Int32) (cs : List Int32) (h : Heap) (v : Option Value) (h' : Heap) (L : List Loc) : Prop := v = none ∧ (∀ y ∈ L, y.base = x) ∧ RoadKit.Keep h h' [x] ∧ h'.size = h.size + 1 ∧ RoadKit.Exa Z h' x ST ∧ RoadKit.Fld Z h' x ST "value" "[B" (.ref h.size) ∧ RoadKit.Fld Z h' x ST "coder" "B" (.int 0) ∧
  (∃ kb, Z.vm.findClass "[B" = some kb ∧ RoadKit.Arv Z h' h.size kb .byte zn (cs.map fun c => .int (lo8 c)) (.int 0)) ∧
  ∀ (O n d : String) (w : Value), RoadKit.Fld Z h x O n d w → RoadKit.slotOf Z O n d ≠ RoadKit.slotOf Z ST "value" "[B" → RoadKit.slotOf Z O n d ≠ RoadKit.slotOf Z ST "coder" "B" → RoadKit.Fld Z h' x O n d w
/-- **new String(chars) AT A CALL, THE ARRAYS AS LISTS**: the char[] at b holds cs, not empty, no char above 255 -/
theorem backArv {p : Program} {l : Launch} {e : Env} {R : Room} {s : State} {args : Array Value} {below : List Frame} {len W : Nat} {Z : State} {a0 : Array Value} {h : Heap} (hZ : Z.Warmed39 s.vm) (hw : ∀ d ∈ words, d.before a0 Z = true) {kI : Nat} (wi : (Jvm.Cond.instantiable ST kI).before a0 Z = true)
    {x b : Addr} {k : ClassId} {zn z : Int32} {cs : List Int32} {dv v0 c0 : Value} (E : RoadKit.Exa Z h x ST) (V : RoadKit.Fld Z h x ST "value" "[B" v0) (C : RoadKit.Fld Z h x ST "coder" "B" c0) (K : RoadKit.Arv Z h b k .char zn (cs.map Value.int) dv) (S : RoadKit.Sta Z h ST "COMPACT_STRINGS" "Z" (.int z)) (hz : ¬ z = 0)
    (hlen : zn.toNatClampNeg = cs.length) (h0 : 0 < cs.length) (hbig : cs.length ≤ 536870912) (hall : ∀ c ∈ cs, ¬ 255 < c) (hfr : 4 ≤ R.frames) (hlo : W + 65 ≤ R.locals) :
    Back l R p e below s args New1.yN len W (fun P a => a = #[.ref x, .ref b] ∧ P.U.heap = h ∧ P.cells + 1 ≤ R.cells ∧ P.slots + cs.length ≤ R.slots)
      (fun P _ v B => ∃ L, QA Z x zn cs h v B.U.heap L ∧ B.locs = P.locs ++ L ∧ B.cells = P.cells + 1 ∧ B.slots = P.slots + cs.length) := by
  obtain ⟨A, K1, K2, K3, K4, K5, K6⟩ := K
  have e : A.slots.size = cs.length := K3.trans hlen
  have hat : ∀ (i : Nat) (hi : i < cs.length), A.slots[i]? = some (.int cs[i]) := fun i hi => by rw [K5 i (by omega)]; simp [List.getD_eq_getElem?_getD, hi]
  have hcv : ∀ (i : Nat) (hi : i < cs.length), cv A i = cs[i] := fun i hi => by unfold cv; rw [hat i hi]
  have hty : Typed .char A := fun i v hv => by
    have hi : i < A.slots.size := (Array.getElem?_eq_some_iff.mp hv).1
    have q := K5 i hi
    rw [hv] at q
    rw [Option.some.inj q]
    exact K6 i hi
  refine Back.mono (back hZ hw wi E V C K1 hty S hz (by omega) (by omega) (fun i hi => by rw [hcv i (by omega)]; exact hall _ (List.getElem_mem _)) hfr hlo) (fun P a hp => ⟨hp.1, hp.2.1, hp.2.2.1, by rw [e]; exact hp.2.2.2⟩) (fun P a v B hp hq => ?_)
  obtain ⟨L, ⟨q1, q2, q3, q4, q5, q6, q7, ⟨V', v1, v2, v3, v4, v5⟩, q9⟩, hl, hc, hs⟩ := hq
  refine ⟨L, ⟨q1, q2, q3, q4, q5, q6, q7, ⟨V'.cls, v3, V', v1, rfl, by rw [v4, e, hlen], K4, fun i hi => ?_, fun i hi => ?_⟩, q9⟩, hl, hc, by rw [hs, e]⟩
  · have hi' : i < cs.length := by omega
    rw [v5 i (by omega), hcv i hi']; simp [List.getD_eq_getElem?_getD, hi']
  · have hi' : i < cs.length := by omega
    simp only [List.getD_eq_getElem?_getD, List.getElem?_map, List.getElem?_eq_getElem hi', Option.map_some, Option.getD_some]
    exact fits_lo8 _
end StrChars.Road
namespace StrChars.Road
open Jvm Sem ClassFile Op Lib Jvm.Stand Jvm.Free Jvm.Free.XT
/-- WHAT COMES BACK, in the writer's own shape -/
def QV (Z : State) (x : Addr) (N : Int32) (bs : List Int32) (h : Heap) (n0 : Nat) (v : Option Value) (h' : Heap) (L : List Loc) : Prop := v = none ∧ RoadKit.Fr n0 L ∧ RoadKit.Keep h h' [x] ∧ RoadKit.Exa Z h' x ST ∧ RoadKit.Fld Z h' x ST "coder" "B" (.int 0) ∧
  ∃ (t : Addr) (kb : ClassId), n0 ≤ t ∧ h.size ≤ t ∧ ¬ t = x ∧ RoadKit.Fld Z h' x ST "value" "[B" (.ref t) ∧ RoadKit.Arv Z h' t kb .byte N (bs.map Value.int) (.int 0)
/-- **new String(chars) AT A CALL, FOR THE WRITER**: a char[] of n known ints, each 0 to 255 -/
theorem backV {p : Program} {l : Launch} {e : Env} {R : Room} {s : State} {args : Array Value} {below : List Frame} {len W : Nat} {Z : State} {a0 : Array Value} {h : Heap} (hZ : Z.Warmed39 s.vm) (hw : ∀ d ∈ words, d.before a0 Z = true) {kI : Nat} (wi : (Jvm.Cond.instantiable ST kI).before a0 Z = true)
    {x b : Addr} {kC : ClassId} {cs bs : List Int32} {d v0 c0 : Value} {z N : Int32} {n n0 : Nat} (hx0 : n0 ≤ x) (hh0 : n0 ≤ h.size) (E : RoadKit.Exa Z h x ST) (V : RoadKit.Fld Z h x ST "value" "[B" v0) (C : RoadKit.Fld Z h x ST "coder" "B" c0) (K : RoadKit.Arv Z h b kC .char N (cs.map Value.int) d) (S : RoadKit.Sta Z h ST "COMPACT_STRINGS" "Z" (.int z)) (hz : ¬ z = 0)
    (hn : cs.length = n) (hN : N = Int32.ofNat n) (l0 : 0 < n) (l2 : n ≤ 4000) (hp : ∀ c ∈ cs, ¬ c < 0 ∧ ¬ (255 : Int32) < c) (hb : bs = cs.map (fun c => c.toInt8.toInt32)) (hfr : 4 ≤ R.frames) (hlo : W + 65 ≤ R.locals) :
    Back l R p e below s args (⟨"java/lang/String", "<init>", "([C)V"⟩ : MethodName) len W (fun P a => a = #[.ref x, .ref b] ∧ P.U.heap = h ∧ P.cells + 1 ≤ R.cells ∧ P.slots + n ≤ R.slots)
      (fun P _ v B => ∃ L, QV Z x N bs h n0 v B.U.heap L ∧ B.locs = P.locs ++ L ∧ B.cells = P.cells + 1 ∧ B.slots = P.slots + n) := by
  subst hn hN hb
  refine Back.mono (backArv hZ hw wi E V C K S hz (n32 (by omega)) l0 (by omega) (fun c hc => (hp c hc).2) hfr hlo) (fun P a hp => hp) (fun P a v B hp hq => ?_)
  obtain ⟨L, ⟨q1, q2, q3, q4, q5, q6, q7, ⟨kb, v1, v2⟩, q9⟩, hl, hc, hs⟩ := hq
  exact ⟨L, ⟨q1, fun y hy => by rw [q2 y hy]; exact hx0, q3, q5, q7, h.size, kb, hh0, Nat.le_refl _, Nat.ne_of_gt E.lt, q6, by rw [List.map_map]; exact v2⟩, hl, hc, hs⟩
end StrChars.Road
namespace StrChars
open Jvm Sem ClassFile Op Lib Jvm.Stand Jvm.Free.XT Jvm.Free.ALB Jvm.Free.JM Jvm.Free
open Jvm.Lib.Cold (StaticIs)
def hi8 (x : Int32) : Int32 := lo8 (x >>> ((8 : Int32) &&& 31))
/-- what StringUTF16.getChar makes of two bytes -/
def pairCh (u v : Int32) : Int32 := (((u &&& 255) <<< ((0 : Int32) &&& 31)) ||| ((v &&& 255) <<< ((8 : Int32) &&& 31))).toUInt32.toUInt16.toUInt32.toInt32
theorem lo8_and (x : Int32) : (lo8 x &&& 255).toBitVec.toNat = x.toBitVec.toNat % 256 := by
  have h : (lo8 x).toBitVec = (x.toBitVec.signExtend 8).signExtend 32 := by rw [lo8, Int8.toBitVec_toInt32, Int32.toBitVec_toInt8]
  rw [Int32.toBitVec_and, BitVec.toNat_and, h]
  have e : ((x.toBitVec.signExtend 8).signExtend 32).toNat % 256 = x.toBitVec.toNat % 256 := by
    rw [BitVec.toNat_signExtend]
    have hlt := x.toBitVec.isLt
    simp only [BitVec.toNat_setWidth, BitVec.toNat_signExtend]
    split <;> split <;> omega
  rw [← e]
  exact Nat.and_two_pow_sub_one_eq_mod _ 8
theorem pair_says {c : Int32} (h0 : ¬ c < 0) (h1 : ¬ 65535 < c) : pairCh (lo8 c) (hi8 c) = c := by
  rw [Int32.lt_iff_toInt_lt] at h0 h1
  have e0 : (0 : Int32).toInt = 0 := rfl
  have e1 : (65535 : Int32).toInt = 65535 := rfl
  have hc : c.toInt = c.toBitVec.toNat := by
    have := c.toBitVec.isLt
    have e : c.toInt = c.toBitVec.toInt := rfl
    rw [e] at h0 h1
    rw [e]
    rw [BitVec.toInt_eq_toNat_cond] at h0 h1 ⊢
    split at h0 <;> split <;> omega
  have hn : c.toBitVec.toNat < 65536 := by omega
  have a1 := lo8_and c
  have a2 : (hi8 c &&& 255).toBitVec.toNat = c.toBitVec.toNat / 256 := by
    rw [hi8, lo8_and]
    have e : ((8 : Int32) &&& 31) = 8 := by decide
    rw [e, Int32.toBitVec_shiftRight]
    have e2 : ((8 : Int32).toBitVec.smod 32) = 8#32 := by decide
    rw [e2, BitVec.sshiftRight_eq', BitVec.toNat_sshiftRight_of_msb_false (by rw [BitVec.msb_eq_false_iff_two_mul_lt]; omega)]
    show c.toBitVec.toNat >>> 8 % 256 = _
    rw [Nat.shiftRight_eq_div_pow]
    omega
  unfold pairCh
  apply Int32.toBitVec_inj.mp
  apply BitVec.eq_of_toNat_eq
  have f0 : ((0 : Int32) &&& 31) = 0 := by decide
  have f8 : ((8 : Int32) &&& 31) = 8 := by decide
  rw [f0, f8]
  have g : (((lo8 c &&& 255) <<< (0 : Int32)) ||| ((hi8 c &&& 255) <<< (8 : Int32))).toBitVec.toNat = c.toBitVec.toNat := by
    rw [Int32.toBitVec_or, Int32.toBitVec_shiftLeft, Int32.toBitVec_shiftLeft]
    have s0 : ((0 : Int32).toBitVec.smod 32) = 0#32 := by decide
    have s8 : ((8 : Int32).toBitVec.smod 32) = 8#32 := by decide
    rw [s0, s8, BitVec.toNat_or]
    simp only [BitVec.shiftLeft_eq', BitVec.toNat_shiftLeft, a1, a2]
    show (c.toBitVec.toNat % 256) <<< 0 % 2 ^ 32 ||| (c.toBitVec.toNat / 256) <<< 8 % 2 ^ 32 = _
    rw [Nat.shiftLeft_zero, Nat.mod_eq_of_lt (show c.toBitVec.toNat % 256 < 2 ^ 32 by omega), Nat.mod_eq_of_lt (show (c.toBitVec.toNat / 256) <<< 8 < 2 ^ 32 by rw [Nat.shiftLeft_eq]; omega), Nat.or_comm, ← Nat.shiftLeft_add_eq_or_of_lt (by omega), Nat.shiftLeft_eq]
    omega
  show BitVec.toNat (((((lo8 c &&& 255) <<< (0 : Int32)) ||| ((hi8 c &&& 255) <<< (8 : Int32))).toBitVec.setWidth 16).setWidth 32) = _
  rw [BitVec.toNat_setWidth, BitVec.toNat_setWidth, g]
  omega
end StrChars
namespace StrChars
open Jvm Sem ClassFile Op Lib Jvm.Stand Jvm.Free.XT Jvm.Free.ALB Jvm.Free.JM Jvm.Free
open Jvm.Lib.Cold (StaticIs)
/-- the array's cell V codes the n chars f 0 .. f (n - 1) by the coder cd, as the JDK does: coder 1 just where some char is above 255 -/
def Cod (cd : Int32) (n : Nat) (f : Nat → Int32) (V : Cell) : Prop := (cd = 0 ∧ V.slots.size = n ∧ ∀ j, j < n → V.slots[j]? = some (.int (lo8 (f j))) ∧ ¬ 255 < f j) ∨ (cd = 1 ∧ V.slots.size = 2 * n ∧ (∀ j, j < n → V.slots[2 * j]? = some (.int (lo8 (f j))) ∧ V.slots[2 * j + 1]? = some (.int (hi8 (f j)))) ∧ ∃ j, j < n ∧ 255 < f j)
/-- **x is a String of the n chars f 0 .. f (n - 1)**, Latin-1 or UTF-16; its array at t has the cell V -/
def Txt (x t : Addr) (V : Cell) (cd : Int32) (n : Nat) (f : Nat → Int32) (U : State) : Prop := Exact "java/lang/String" x U ∧ Has x "java/lang/String" "value" "[B" (.ref t) U ∧ Has x "java/lang/String" "coder" "B" (.int cd) U ∧ XT.Arr .byte t V U ∧ Cod cd n f V ∧ ∀ j, j < n → ¬ f j < 0 ∧ ¬ 65535 < f j
theorem Txt.mv {x t : Addr} {V : Cell} {cd : Int32} {n : Nat} {f : Nat → Int32} {U U' : State} (h : Txt x t V cd n f U) (hal : U.vm.Alike U'.vm) (hh : U'.heap = U.heap) : Txt x t V cd n f U' := ⟨h.1.mv hal hh, h.2.1.mv hal hh, h.2.2.1.mv hal hh, h.2.2.2.1.mv hal hh, h.2.2.2.2⟩
end StrChars
namespace StrChars.Road
open Jvm Sem ClassFile Op Lib Jvm.Stand Jvm.Free Jvm.Free.XT
open Jvm.Lib.Cold (StaticIs)
theorem consq {a : Array Value} {s : State} {c : Jvm.Cond} {L : List Jvm.Cond} (h0 : c.before a s = true) (h : ∀ w ∈ L, w.before a s = true) : ∀ w ∈ c :: L, w.before a s = true := fun w hw => (List.mem_cons.mp hw).elim (fun e => e ▸ h0) (h w)
/-- the bytes of the chars cs, low before high -/
def wideBytes : List Int32 → List Value
  | [] => []
  | c :: cs => .int (lo8 c) :: .int (hi8 c) :: wideBytes cs
theorem wide_lo (d : Value) : ∀ (cs : List Int32) (j : Nat), j < cs.length → (wideBytes cs).getD (2 * j) d = .int (lo8 (cs.getD j 0))
  | [], j, h => absurd h (Nat.not_lt_zero j)
  | c :: cs, 0, _ => rfl
  | c :: cs, j + 1, h => by
    have q := wide_lo d cs j (by simpa using h)
    rw [show 2 * (j + 1) = 2 * j + 1 + 1 from by omega]
    simpa [wideBytes] using q
theorem wide_hi (d : Value) : ∀ (cs : List Int32) (j : Nat), j < cs.length → (wideBytes cs).getD (2 * j + 1) d = .int (hi8 (cs.getD j 0))
  | [], j, h => absurd h (Nat.not_lt_zero j)
  | c :: cs, 0, _ => rfl
  | c :: cs, j + 1, h => by
    have q := wide_hi d cs j (by simpa using h)
    rw [show 2 * (j + 1) + 1 = 2 * j + 1 + 1 + 1 from by omega]
    simpa [wideBytes] using q
theorem low_at (d : Value) (cs : List Int32) (j : Nat) (h : j < cs.length) : (cs.map fun c => Value.int (lo8 c)).getD j d = .int (lo8 (cs.getD j 0)) := by
  simp [List.getD_eq_getElem?_getD, h]
/-- an array of N2 bytes vs codes the chars cs by the coder cd -/
def CodA (cs : List Int32) (cd N2 : Int32) (vs : List Value) : Prop := (cd = 0 ∧ N2 = Int32.ofNat cs.length ∧ vs = (cs.map fun c => Value.int (lo8 c)) ∧ ∀ c ∈ cs, ¬ 255 < c) ∨ (cd = 1 ∧ N2 = Int32.ofNat (2 * cs.length) ∧ vs = wideBytes cs ∧ ∃ c ∈ cs, 255 < c)
theorem CodA.cod {cs : List Int32} {cd N2 : Int32} {vs : List Value} {V : Cell} (h : CodA cs cd N2 vs) (hn : 2 * cs.length < 2 ^ 31) (hs : V.slots.size = N2.toNatClampNeg) (hv : RoadKit.Has V vs (.int 0)) : Cod cd cs.length (fun j => cs.getD j 0) V := by
  rcases h with ⟨rfl, rfl, rfl, h⟩ | ⟨rfl, rfl, rfl, c, hc, hw⟩
  · rw [n32 (by omega)] at hs
    exact Or.inl ⟨rfl, hs, fun j hj => ⟨by rw [hv j (by omega), low_at _ _ _ hj], by
      have e : cs.getD j 0 = cs[j] := by simp [List.getD_eq_getElem?_getD, hj]
      show ¬ 255 < cs.getD j 0
      rw [e]; exact h _ (List.getElem_mem _)⟩⟩
  · rw [n32 (by omega)] at hs
    obtain ⟨j, hj, rfl⟩ := List.getElem_of_mem hc
    exact Or.inr ⟨rfl, hs, fun j hj => ⟨by rw [hv _ (by omega), wide_lo _ _ _ hj], by rw [hv _ (by omega), wide_hi _ _ _ hj]⟩, j, hj, by
      have e : cs.getD j 0 = cs[j] := by simp [List.getD_eq_getElem?_getD, hj]
      show 255 < cs.getD j 0
      rw [e]; exact hw⟩
/-- an object of exactly java/lang/String, its two fields found: as the laws ask it -/
theorem strObj {Z U : State} {a0 : Array Value} {kI : Nat} (wi : (Jvm.Cond.instantiable ST kI).before a0 Z = true) (al : Z.vm.Alike U.vm) {x : Addr} {v0 c0 : Value} (E : RoadKit.Exa Z U.heap x ST) (V : RoadKit.Fld Z U.heap x ST "value" "[B" v0) (C : RoadKit.Fld Z U.heap x ST "coder" "B" c0) :
    ∃ (D : Cell) (fV fC : Field), Blank ST x D U ∧ Found ST "value" "[B" fV U ∧ Found ST "coder" "B" fC U ∧ D.slots[fV.slot]? = some v0 ∧ D.slots[fC.slot]? = some c0 ∧ RoadKit.slotOf Z ST "value" "[B" = fV.slot ∧ RoadKit.slotOf Z ST "coder" "B" = fC.slot := by
  obtain ⟨D, cfV, kV, iV, fV, hD, gV, stV, knV, obV, asV, slV⟩ := V
  obtain ⟨D', cfC, kC, iC, fC, hD', gC, stC, -, -, asC, slC⟩ := C
  cases hD.symm.trans hD'
  obtain ⟨D2, kD, e1, e2, e3, e4, e5⟩ := E
  cases hD.symm.trans e1
  obtain ⟨c2, k2, i1, i2, i3, -⟩ := Cond.instantiable_spec wi
  cases e2.symm.trans i1
  cases e3.symm.trans i2
  obtain ⟨kU, u1, u2⟩ := al.2.2 _ _ e3
  exact ⟨D, fV, fC, ⟨hD, ⟨knV, fun q hq => by rw [hq] at obV; cases obV⟩, by rw [al.findClass]; exact e2, kU, u1, by rw [u2]; exact i3, by rw [u2]; exact e5 i3⟩, ⟨SBG.found_only al ⟨cfV, kV, iV, gV⟩, stV⟩, ⟨SBG.found_only al ⟨cfC, kC, iC, gC⟩, stC⟩, slV, slC, by simp [RoadKit.slotOf, gV], by simp [RoadKit.slotOf, gC]⟩
theorem sta_is {Z U : State} (al : Z.vm.Alike U.vm) {C n d : String} {v : Value} (S : RoadKit.Sta Z U.heap C n d v) : StaticIs U C n d v := by
  obtain ⟨cfS, iS, kS, fS, st, cS, t1, t2, t3, t4, t5, t6, t7⟩ := S
  exact StaticIs.there (s := { Z with heap := U.heap }) ⟨cfS, iS, kS, fS, st, cS, t1, t2, t3, t4, t5, (fun q => by rw [q] at t6; cases t6), t7⟩ al rfl
end StrChars.Road
namespace StrChars
open Jvm Sem ClassFile Op Lib Jvm.Stand Jvm.Free.XT Jvm.Free.ALB Jvm.Free.JM Jvm.Free
open Jvm.Lib.Cold (StaticIs)
/-- what place i of a byte[]'s cell holds -/
def yv (A : Cell) (i : Nat) : Int32 := match A.slots[i]? with | some (.int x) => x | _ => 0
theorem yv_get {a : Addr} {A : Cell} {U : State} (h : XT.Arr .byte a A U) (ht : Typed .byte A) {i : Nat} (hi : i < A.slots.size) : A.slots[i]? = some (.int (yv A i)) := by
  have e := Array.getElem?_eq_getElem hi
  have f := ht i _ e
  unfold yv; rw [e]
  generalize A.slots[i] = v at f
  cases v <;> simp [fits] at f ⊢
/-- the two arrays are equal, place for place -/
def EqC (A B : Cell) : Prop := A.slots.size = B.slots.size ∧ ∀ i, i < A.slots.size → yv A i = yv B i
/-- a boolean that says whether p -/
def Says01 (q : Prop) (r : Option Value) (s u : State) : Prop := ∃ v : Int32, r = some (.int v) ∧ u.heap = s.heap ∧ ((v = 1 ∧ q) ∨ (v = 0 ∧ ¬ q))
theorem Says01.mv {q : Prop} : ∀ r (U U' V V' : State), U'.heap = U.heap → V.vm.Alike V'.vm → V'.heap = V.heap → Says01 q r U V → Says01 q r U' V' :=
  fun r U U' V V' h1 _ h2 ⟨v, a, b, c⟩ => ⟨v, a, by rw [h1, h2]; exact b, c⟩
namespace LEq
def yN : MethodName := ⟨"java/lang/StringLatin1", "equals", "([B[B)Z"⟩
abbrev yB : ByteArray := jdk_43_method_13_code
theorem d0 : decode yB 0 = .ok (.aload_n 0, 1) := by decide +kernel
theorem d1 : decode yB 1 = .ok (.arraylength, 1) := by decide +kernel
theorem d2 : decode yB 2 = .ok (.aload_n 1, 1) := by decide +kernel
theorem d3 : decode yB 3 = .ok (.arraylength, 1) := by decide +kernel
theorem d4 : decode yB 4 = .ok (.if_icmp (.ne) 30, 3) := by decide +kernel
theorem d7 : decode yB 7 = .ok (.iconst 0, 1) := by decide +kernel
theorem d8 : decode yB 8 = .ok (.istore_n 2, 1) := by decide +kernel
theorem d9 : decode yB 9 = .ok (.iload_n 2, 1) := by decide +kernel
theorem d10 : decode yB 10 = .ok (.aload_n 0, 1) := by decide +kernel
theorem d11 : decode yB 11 = .ok (.arraylength, 1) := by decide +kernel
theorem d12 : decode yB 12 = .ok (.if_icmp (.ge) 20, 3) := by decide +kernel
theorem d15 : decode yB 15 = .ok (.aload_n 0, 1) := by decide +kernel
theorem d16 : decode yB 16 = .ok (.iload_n 2, 1) := by decide +kernel
theorem d17 : decode yB 17 = .ok (.baload, 1) := by decide +kernel
theorem d18 : decode yB 18 = .ok (.aload_n 1, 1) := by decide +kernel
theorem d19 : decode yB 19 = .ok (.iload_n 2, 1) := by decide +kernel
theorem d20 : decode yB 20 = .ok (.baload, 1) := by decide +kernel
theorem d21 : decode yB 21 = .ok (.if_icmp (.eq) 5, 3) := by decide +kernel
theorem d24 : decode yB 24 = .ok (.iconst 0, 1) := by decide +kernel
theorem d25 : decode yB 25 = .ok (.ireturn, 1) := by decide +kernel
theorem d26 : decode yB 26 = .ok (.iinc 2 1, 3) := by decide +kernel
theorem d29 : decode yB 29 = .ok (.goto (-20), 3) := by decide +kernel
theorem d32 : decode yB 32 = .ok (.iconst 1, 1) := by decide +kernel
theorem d33 : decode yB 33 = .ok (.ireturn, 1) := by decide +kernel
theorem d34 : decode yB 34 = .ok (.iconst 0, 1) := by decide +kernel
theorem d35 : decode yB 35 = .ok (.ireturn, 1) := by decide +kernel
def site : List Cond := []
def tab : Cond := tabOf yN yB 3 (some .boolean) site
def P (a : Addr) (A : Cell) (b : Addr) (B : Cell) (args : Array Value) (s : State) : Prop := args = #[.ref a, .ref b] ∧ XT.Arr .byte a A s ∧ Typed .byte A ∧ XT.Arr .byte b B s ∧ Typed .byte B
/-- whether two byte[] are equal, place for place -/
theorem law (l : Launch) (a : Addr) (A : Cell) (b : Addr) (B : Cell) : Law l yN 2 2 0 0 yB 3 (some .boolean) site (P a A b B) (Says01 (EqC A B)) [] 0 0 := by
  refine Law.of_walk (plainFor_of_name (by decide +kernel)) (by decide +kernel) (by decide +kernel) (by decide) (fun _ _ h => by rw [h.1]; rfl) (fun _ U U' hal hh h => ⟨h.1, h.2.1.mv hal hh, h.2.2.1, h.2.2.2.1.mv hal hh, h.2.2.2.2⟩) (fun r U U' V V' h1 hal h2 h => Says01.mv r U U' V V' h1 hal h2 h) ?_
  intro p e s m args below meth c s₁ X0 hexec hbytes hml hret hlk hnm hown hh0 W hP
  obtain ⟨rfl, hA, tA, hB, tB⟩ := hP
  have a31 := hA.2.2.2
  have b31 := hB.2.2.2
  have hA0 := hA.mv X0.warmed.alike hh0
  have hB0 := hB.mv X0.warmed.alike hh0
  have c1 : Steps p.tables e below (s₁.setTop (entryFrame m #[.ref a, .ref b] 3)) (s₁.setTop (mkF m 0 #[.val (.ref a), .val (.ref b), .unset] [])) := entry rfl
  have c2 : Steps p.tables e below (s₁.setTop (entryFrame m #[.ref a, .ref b] 3)) (s₁.setTop (mkF m 4 #[.val (.ref a), .val (.ref b), .unset] [.int (Int32.ofNat B.slots.size), .int (Int32.ofNat A.slots.size)])) := c1.trans (by
    refine XS.aloadN X0.here hexec rfl (hb hbytes d0) rfl rfl ?_
    refine X0.alen hexec hA0 rfl rfl (hb hbytes d1) ?_
    refine XS.aloadN X0.here hexec rfl (hb hbytes d2) rfl rfl ?_
    refine X0.alen hexec hB0 rfl rfl (hb hbytes d3) ?_
    exact Steps.refl _)
  by_cases hs : A.slots.size = B.slots.size
  · have c3 : Steps p.tables e below (s₁.setTop (entryFrame m #[.ref a, .ref b] 3)) (s₁.setTop (mkF m 9 #[.val (.ref a), .val (.ref b), .val (.int 0)] [])) := c2.trans (by
      refine XS.icmpNo X0.here hexec rfl (hb hbytes d4) rfl (ii_ne_f (by rw [hs])) ?_
      refine iconstV X0.here hexec rfl 0 (hb hbytes d7) (by decide) ?_
      refine XS.istoreN X0.here hexec rfl (hb hbytes d8) rfl rfl ?_
      exact Steps.refl _)
    have loop : ∀ (r i : Nat), i + r = A.slots.size → (∀ j, j < i → yv A j = yv B j) → Steps p.tables e below (s₁.setTop (entryFrame m #[.ref a, .ref b] 3)) (s₁.setTop (mkF m 9 #[.val (.ref a), .val (.ref b), .val (.int (Int32.ofNat i))] [])) → ∃ (pc : Nat) (Ls : Array Slot) (v : Int32), (pc = 25 ∨ pc = 33) ∧ ((v = 1 ∧ EqC A B) ∨ (v = 0 ∧ ¬ EqC A B)) ∧ Steps p.tables e below (s₁.setTop (entryFrame m #[.ref a, .ref b] 3)) (s₁.setTop (mkF m pc Ls [.int v])) := by
      intro r
      induction r with
      | zero =>
        intro i hi he cl
        exact ⟨33, _, 1, Or.inr rfl, Or.inl ⟨rfl, hs, fun j hj => he j (by omega)⟩, cl.trans (by
          refine XS.iloadN X0.here hexec rfl (hb hbytes d9) rfl ?_
          refine XS.aloadN X0.here hexec rfl (hb hbytes d10) rfl rfl ?_
          refine X0.alen hexec hA0 rfl rfl (hb hbytes d11) ?_
          refine XS.icmpYes X0.here hexec rfl (pc0 := 12) rfl (hb hbytes d12) rfl (ii_ge_t (nlt32 (by omega) (by omega))) (by decide) rfl ?_
          refine iconstV X0.here hexec rfl 1 (hb hbytes d32) (by decide) ?_
          exact Steps.refl _)⟩
      | succ r ih =>
        intro i hi he cl
        have c4 : Steps p.tables e below (s₁.setTop (entryFrame m #[.ref a, .ref b] 3)) (s₁.setTop (mkF m 21 #[.val (.ref a), .val (.ref b), .val (.int (Int32.ofNat i))] [.int (yv B i), .int (yv A i)])) := cl.trans (by
          refine XS.iloadN X0.here hexec rfl (hb hbytes d9) rfl ?_
          refine XS.aloadN X0.here hexec rfl (hb hbytes d10) rfl rfl ?_
          refine X0.alen hexec hA0 rfl rfl (hb hbytes d11) ?_
          refine XS.icmpNo X0.here hexec rfl (hb hbytes d12) rfl (ii_ge_f (lt32 (by omega) (by omega))) ?_
          refine XS.aloadN X0.here hexec rfl (hb hbytes d15) rfl rfl ?_
          refine XS.iloadN X0.here hexec rfl (hb hbytes d16) rfl ?_
          refine X0.aget hexec hA0 rfl (yv_get hA tA (i := i) (by omega)) rfl rfl (hb hbytes d17) ?_
          refine XS.aloadN X0.here hexec rfl (hb hbytes d18) rfl rfl ?_
          refine XS.iloadN X0.here hexec rfl (hb hbytes d19) rfl ?_
          refine X0.aget hexec hB0 rfl (yv_get hB tB (i := i) (by omega)) rfl rfl (hb hbytes d20) ?_
          exact Steps.refl _)
        by_cases hv : yv A i = yv B i
        · have c5 : Steps p.tables e below (s₁.setTop (entryFrame m #[.ref a, .ref b] 3)) (s₁.setTop (mkF m 9 #[.val (.ref a), .val (.ref b), .val (.int (Int32.ofNat i + 1))] [])) := c4.trans (by
            refine XS.icmpYes X0.here hexec rfl (pc0 := 21) rfl (hb hbytes d21) rfl (ii_eq_t hv) (by decide) rfl ?_
            refine iincV X0.here hexec rfl 1 (hb hbytes d26) (by decide) rfl rfl ?_
            refine XS.goto X0.here hexec rfl (pc0 := 29) rfl (hb hbytes d29) (by decide) rfl ?_
            exact Steps.refl _)
          rw [succ32] at c5
          exact ih (i + 1) (by omega) (fun j hj => by
            by_cases e : j = i
            · rw [e]; exact hv
            · exact he j (by omega)) c5
        · exact ⟨25, _, 0, Or.inl rfl, Or.inr ⟨rfl, fun q => hv (q.2 i (by omega))⟩, c4.trans (by
            refine XS.icmpNo X0.here hexec rfl (hb hbytes d21) rfl (ii_eq_f hv) ?_
            refine iconstV X0.here hexec rfl 0 (hb hbytes d24) (by decide) ?_
            exact Steps.refl _)⟩
    obtain ⟨pc, Ls, v, hpc, hv, cz⟩ := loop A.slots.size 0 (by omega) (fun j hj => absurd hj (Nat.not_lt_zero j)) c3
    have nv : narrow .boolean (.int v) = .int v := by rcases hv with ⟨rfl, -⟩ | ⟨rfl, -⟩ <;> rfl
    rcases hpc with rfl | rfl
    · exact ⟨s₁, some (.int v), _, _, _, X0, rfl, rfl, rfl, (fun h => by cases h), ⟨v, rfl, hh0, hv⟩, fun fs hl => cz.trans (X0.ireturnOut hexec hret nv (Or.inr (Or.inl rfl)) (hb hbytes d25) hl)⟩
    · exact ⟨s₁, some (.int v), _, _, _, X0, rfl, rfl, rfl, (fun h => by cases h), ⟨v, rfl, hh0, hv⟩, fun fs hl => cz.trans (X0.ireturnOut hexec hret nv (Or.inr (Or.inl rfl)) (hb hbytes d33) hl)⟩
  · have c3 : Steps p.tables e below (s₁.setTop (entryFrame m #[.ref a, .ref b] 3)) (s₁.setTop (mkF m 35 #[.val (.ref a), .val (.ref b), .unset] [.int 0])) := c2.trans (by
      refine XS.icmpYes X0.here hexec rfl (pc0 := 4) rfl (hb hbytes d4) rfl (ii_ne_t (ne32 a31 b31 hs)) (by decide) rfl ?_
      refine iconstV X0.here hexec rfl 0 (hb hbytes d34) (by decide) ?_
      exact Steps.refl _)
    exact ⟨s₁, some (.int 0), _, _, _, X0, rfl, rfl, rfl, (fun h => by cases h), ⟨0, rfl, hh0, Or.inr ⟨rfl, fun q => hs q.1⟩⟩, fun fs hl => c3.trans (X0.ireturnOut hexec hret rfl (Or.inr (Or.inl rfl)) (hb hbytes d35) hl)⟩
end LEq
theorem Cod.ty {cd : Int32} {n : Nat} {f : Nat → Int32} {V : Cell} (h : Cod cd n f V) : Typed .byte V := fun i v hv => by
  have hi : i < V.slots.size := (Array.getElem?_eq_some_iff.mp hv).1
  rcases h with ⟨-, k1, k2⟩ | ⟨-, k1, k2, -⟩
  · rw [(k2 i (by omega)).1] at hv; cases hv; exact fits_lo8 _
  · rcases Nat.mod_two_eq_zero_or_one i with e | e
    · obtain ⟨j, rfl⟩ : ∃ j, i = 2 * j := ⟨i / 2, by omega⟩
      rw [(k2 j (by omega)).1] at hv; cases hv; exact fits_lo8 _
    · obtain ⟨j, rfl⟩ : ∃ j, i = 2 * j + 1 := ⟨i / 2, by omega⟩
      rw [(k2 j (by omega)).2] at hv; cases hv; exact fits_lo8 _
/-- the same text -/
def SameT (n : Nat) (f : Nat → Int32) (k : Nat) (g : Nat → Int32) : Prop := n = k ∧ ∀ j, j < n → f j = g j
theorem lo8_inj {x y : Int32} (h0 : ¬ x < 0) (h1 : ¬ 255 < x) (k0 : ¬ y < 0) (k1 : ¬ 255 < y) (h : lo8 x = lo8 y) : x = y := by
  rw [← lo8_mask h0 h1, ← lo8_mask k0 k1, h]
/-- arrays coded by one coder are equal just where the texts are -/
theorem Cod.eqv {cd : Int32} {n k : Nat} {f g : Nat → Int32} {V V' : Cell} (h : Cod cd n f V) (h' : Cod cd k g V') (hf : ∀ j, j < n → ¬ f j < 0 ∧ ¬ 65535 < f j) (hg : ∀ j, j < k → ¬ g j < 0 ∧ ¬ 65535 < g j) : EqC V V' ↔ SameT n f k g := by
  have yvv : ∀ {W : Cell} {i : Nat} {x : Int32}, W.slots[i]? = some (.int x) → yv W i = x := fun q => by unfold yv; rw [q]
  rcases h with ⟨rfl, k1, k2⟩ | ⟨rfl, k1, k2, -⟩
  · rcases h' with ⟨-, m1, m2⟩ | ⟨e, -⟩
    · constructor
      · rintro ⟨e1, e2⟩
        refine ⟨by omega, fun j hj => ?_⟩
        have q := e2 j (by omega)
        rw [yvv (k2 j hj).1, yvv (m2 j (by omega)).1] at q
        exact lo8_inj (hf j hj).1 (k2 j hj).2 (hg j (by omega)).1 (m2 j (by omega)).2 q
      · rintro ⟨rfl, e2⟩
        refine ⟨by omega, fun j hj => ?_⟩
        rw [yvv (k2 j (by omega)).1, yvv (m2 j (by omega)).1, e2 j (by omega)]
    · exact absurd e (by decide)
  · rcases h' with ⟨e, -⟩ | ⟨-, m1, m2, -⟩
    · exact absurd e (by decide)
    · constructor
      · rintro ⟨e1, e2⟩
        refine ⟨by omega, fun j hj => ?_⟩
        have q1 := e2 (2 * j) (by omega)
        have q2 := e2 (2 * j + 1) (by omega)
        rw [yvv (k2 j hj).1, yvv (m2 j (by omega)).1] at q1
        rw [yvv (k2 j hj).2, yvv (m2 j (by omega)).2] at q2
        rw [← pair_says (hf j hj).1 (hf j hj).2, ← pair_says (hg j (by omega)).1 (hg j (by omega)).2, q1, q2]
      · rintro ⟨rfl, e2⟩
        refine ⟨by omega, fun i hi => ?_⟩
        rcases Nat.mod_two_eq_zero_or_one i with e | e
        · obtain ⟨j, rfl⟩ : ∃ j, i = 2 * j := ⟨i / 2, by omega⟩
          rw [yvv (k2 j (by omega)).1, yvv (m2 j (by omega)).1, e2 j (by omega)]
        · obtain ⟨j, rfl⟩ : ∃ j, i = 2 * j + 1 := ⟨i / 2, by omega⟩
          rw [yvv (k2 j (by omega)).2, yvv (m2 j (by omega)).2, e2 j (by omega)]
/-- two codings differ: so do the texts -/
theorem Cod.dif {cd cd' : Int32} {n k : Nat} {f g : Nat → Int32} {V V' : Cell} (h : Cod cd n f V) (h' : Cod cd' k g V') (hne : ¬ cd = cd') : ¬ SameT n f k g := by
  rintro ⟨rfl, e⟩
  rcases h with ⟨rfl, -, k2⟩ | ⟨rfl, -, -, j, hj, hw⟩
  · rcases h' with ⟨rfl, -⟩ | ⟨-, -, -, j, hj, hw⟩
    · exact hne rfl
    · exact (k2 j hj).2 (by rw [e j hj]; exact hw)
  · rcases h' with ⟨-, -, m2⟩ | ⟨rfl, -⟩
    · exact (m2 j hj).2 (by rw [← e j hj]; exact hw)
    · exact hne rfl
/-- an object of exactly C is an instance of C -/
theorem cinst {p : Program} {l : Launch} {e : Env} {R : Room} {s : State} {m : MethodId} {args : Array Value} {below : List Frame} {meth : Method} {c : Code} {T : State} {locs : List Loc} {cells slots : Nat} (X : Stand p l e R s m args below meth c T locs cells slots) (hexec : p.tables.exec = Jvm.exec) {own C : String} {index : Nat} (hown : s.vm.findClass own = some m.cls) (hlink : (Cond.classLink own index C).before args s = true) {a : Addr} (hE : Exact C a T)
    {g : JFrame} (hg : g.method = m) {rest : List Value} (hstack : g.stack = .ref a :: rest) (hdg : decode c.code g.pc = .ok (.instanceof index, 3)) :
    ∃ T', Stand p l e R s m args below meth c T' locs cells slots ∧ T'.heap = T.heap ∧ ∀ target, Steps p.tables e below (T'.setTop { g with pc := g.pc + 3, stack := .int 1 :: rest }) target → Steps p.tables e below (T.setTop g) target := by
  obtain ⟨cB, h1, D, h2, h3, h4⟩ := hE
  have h1' : s.vm.findClass C = some cB := by rw [← X.warmed.alike.findClass]; exact h1
  obtain ⟨vm', X', st⟩ := X.instanceofYes hexec hown hlink h2 h4 h1' (by rw [h3]; exact Jvm.Free.SB.assignable_self _ _) hg hstack hdg
  exact ⟨_, X', rfl, st⟩
theorem cself {p : Program} {l : Launch} {e : Env} {R : Room} {s : State} {m : MethodId} {args : Array Value} {below : List Frame} {meth : Method} {c : Code} {T : State} {locs : List Loc} {cells slots : Nat} (X : Stand p l e R s m args below meth c T locs cells slots) (hexec : p.tables.exec = Jvm.exec) {own C : String} {index : Nat} (hown : s.vm.findClass own = some m.cls) (hlink : (Cond.classLink own index C).before args s = true) {a : Addr} (hE : Exact C a T)
    {g : JFrame} (hg : g.method = m) {rest : List Value} (hstack : g.stack = .ref a :: rest) (hdg : decode c.code g.pc = .ok (.checkcast index, 3)) :
    ∃ T', Stand p l e R s m args below meth c T' locs cells slots ∧ T'.heap = T.heap ∧ ∀ target, Steps p.tables e below (T'.setTop { g with pc := g.pc + 3, stack := .ref a :: rest }) target → Steps p.tables e below (T.setTop g) target := by
  obtain ⟨cB, h1, D, h2, h3, h4⟩ := hE
  have h1' : s.vm.findClass C = some cB := by rw [← X.warmed.alike.findClass]; exact h1
  obtain ⟨vm', X', st⟩ := X.checkcastYes hexec hown hlink h2 h4 h1' (by rw [h3]; exact Jvm.Free.SB.assignable_self _ _) hg hstack hdg
  exact ⟨_, X', rfl, fun t h => st t (by rw [← hstack] at h; exact h)⟩
namespace SEq
def yN : MethodName := ⟨"java/lang/String", "equals", "(Ljava/lang/Object;)Z"⟩
abbrev yB : ByteArray := jdk_42_method_66_code
theorem d0 : decode yB 0 = .ok (.aload_n 0, 1) := by decide +kernel
theorem d1 : decode yB 1 = .ok (.aload_n 1, 1) := by decide +kernel
theorem d2 : decode yB 2 = .ok (.if_acmp (.ne) 5, 3) := by decide +kernel
theorem d5 : decode yB 5 = .ok (.iconst 1, 1) := by decide +kernel
theorem d6 : decode yB 6 = .ok (.ireturn, 1) := by decide +kernel
theorem d7 : decode yB 7 = .ok (.aload_n 1, 1) := by decide +kernel
theorem d8 : decode yB 8 = .ok (.instanceof 10, 3) := by decide +kernel
theorem d11 : decode yB 11 = .ok (.ifCond (.eq) 43, 3) := by decide +kernel
theorem d14 : decode yB 14 = .ok (.aload_n 1, 1) := by decide +kernel
theorem d15 : decode yB 15 = .ok (.checkcast 10, 3) := by decide +kernel
theorem d18 : decode yB 18 = .ok (.astore_n 2, 1) := by decide +kernel
theorem d19 : decode yB 19 = .ok (.getstatic 38, 3) := by decide +kernel
theorem d22 : decode yB 22 = .ok (.ifCond (.eq) 14, 3) := by decide +kernel
theorem d25 : decode yB 25 = .ok (.aload_n 0, 1) := by decide +kernel
theorem d26 : decode yB 26 = .ok (.getfield 15, 3) := by decide +kernel
theorem d29 : decode yB 29 = .ok (.aload_n 2, 1) := by decide +kernel
theorem d30 : decode yB 30 = .ok (.getfield 15, 3) := by decide +kernel
theorem d33 : decode yB 33 = .ok (.if_icmp (.ne) 21, 3) := by decide +kernel
theorem d36 : decode yB 36 = .ok (.aload_n 0, 1) := by decide +kernel
theorem d37 : decode yB 37 = .ok (.getfield 9, 3) := by decide +kernel
theorem d40 : decode yB 40 = .ok (.aload_n 2, 1) := by decide +kernel
theorem d41 : decode yB 41 = .ok (.getfield 9, 3) := by decide +kernel
theorem d44 : decode yB 44 = .ok (.invokestatic 541, 3) := by decide +kernel
theorem d47 : decode yB 47 = .ok (.ifCond (.eq) 7, 3) := by decide +kernel
theorem d50 : decode yB 50 = .ok (.iconst 1, 1) := by decide +kernel
theorem d51 : decode yB 51 = .ok (.goto 4, 3) := by decide +kernel
theorem d54 : decode yB 54 = .ok (.iconst 0, 1) := by decide +kernel
theorem d55 : decode yB 55 = .ok (.ireturn, 1) := by decide +kernel
def site : List Cond := [.classLink "java/lang/String" 10 "java/lang/String", .fieldLink "java/lang/String" 38 "java/lang/String" "COMPACT_STRINGS" "Z", .fieldLink "java/lang/String" 15 "java/lang/String" "coder" "B", .fieldLink "java/lang/String" 9 "java/lang/String" "value" "[B", LEq.tab] ++ staticW "java/lang/String" 541 LEq.yN
def tab : Cond := tabOf yN yB 3 (some .boolean) site
def P (x t : Addr) (V : Cell) (cd : Int32) (n : Nat) (f : Nat → Int32) (y t' : Addr) (V' : Cell) (cd' : Int32) (k : Nat) (g : Nat → Int32) (z : Int32) (args : Array Value) (s : State) : Prop := args = #[.ref x, .ref y] ∧ Txt x t V cd n f s ∧ Txt y t' V' cd' k g s ∧ StaticIs s "java/lang/String" "COMPACT_STRINGS" "Z" (.int z) ∧ ¬ z = 0
/-- equals(Object) of two Strings: whether the texts are the same -/
theorem law (l : Launch) (x t : Addr) (V : Cell) (cd : Int32) (n : Nat) (f : Nat → Int32) (y t' : Addr) (V' : Cell) (cd' : Int32) (k : Nat) (g : Nat → Int32) (z : Int32) : Law l yN 2 1 1 14 yB 3 (some .boolean) site (P x t V cd n f y t' V' cd' k g z) (Says01 (SameT n f k g)) [] 0 0 := by
  refine Law.of_walk (plainFor_of_name (by decide +kernel)) (by decide +kernel) (by decide +kernel) (by decide) (fun _ _ h => by rw [h.1]; rfl) (fun _ U U' hal hh h => ⟨h.1, h.2.1.mv hal hh, h.2.2.1.mv hal hh, h.2.2.2.1.there hal hh, h.2.2.2.2⟩) (fun r U U' V V' h1 hal h2 h => Says01.mv r U U' V V' h1 hal h2 h) ?_
  intro p e s m args below meth c s₁ X0 hexec hbytes hml hret hlk hnm hown hh0 W hP
  obtain ⟨rfl, hx, hy, s1, hz⟩ := hP
  have c1 : Steps p.tables e below (s₁.setTop (entryFrame m #[.ref x, .ref y] 3)) (s₁.setTop (mkF m 2 #[.val (.ref x), .val (.ref y), .unset] [.ref y, .ref x])) := Steps.trans (entry rfl) (by
    show Steps p.tables e below (s₁.setTop (mkF m 0 #[.val (.ref x), .val (.ref y), .unset] [])) _
    refine XS.aloadN X0.here hexec rfl (hb hbytes d0) rfl rfl ?_
    refine XS.aloadN X0.here hexec rfl (hb hbytes d1) rfl rfl ?_
    exact Steps.refl _)
  by_cases hxy : x = y
  · have c2 : Steps p.tables e below (s₁.setTop (entryFrame m #[.ref x, .ref y] 3)) (s₁.setTop (mkF m 6 #[.val (.ref x), .val (.ref y), .unset] [.int 1])) := c1.trans (by
      refine acmpNo X0.here hexec rfl (hb hbytes d2) rfl rfl rfl (by simp [acmp, hxy]) ?_
      refine iconstV X0.here hexec rfl 1 (hb hbytes d5) (by decide) ?_
      exact Steps.refl _)
    subst hxy
    have ec : cd = cd' := by
      obtain ⟨D, fd, a1, a2, a3⟩ := hx.2.2.1
      obtain ⟨D', fd', b1, b2, b3⟩ := hy.2.2.1
      cases a1.symm.trans b1
      obtain ⟨q1, q2, q3, q4⟩ := a2.1
      obtain ⟨r1, r2, r3, r4⟩ := b2.1
      cases q4.symm.trans r4
      cases a3.symm.trans b3; rfl
    have et : t = t' := by
      obtain ⟨D, fd, a1, a2, a3⟩ := hx.2.1
      obtain ⟨D', fd', b1, b2, b3⟩ := hy.2.1
      cases a1.symm.trans b1
      obtain ⟨q1, q2, q3, q4⟩ := a2.1
      obtain ⟨r1, r2, r3, r4⟩ := b2.1
      cases q4.symm.trans r4
      cases a3.symm.trans b3; rfl
    subst ec et
    have ev : V = V' := by cases hx.2.2.2.1.1.symm.trans hy.2.2.2.1.1; rfl
    subst ev
    have hs : SameT n f k g := (Cod.eqv hx.2.2.2.2.1 hy.2.2.2.2.1 hx.2.2.2.2.2 hy.2.2.2.2.2).mp ⟨rfl, fun _ _ => rfl⟩
    exact ⟨s₁, some (.int 1), _, _, _, X0, rfl, rfl, rfl, (fun h => by cases h), ⟨1, rfl, hh0, Or.inl ⟨rfl, hs⟩⟩, fun fs hl => c2.trans (X0.ireturnOut hexec hret rfl (Or.inr (Or.inl rfl)) (hb hbytes d6) hl)⟩
  · have c2 : Steps p.tables e below (s₁.setTop (entryFrame m #[.ref x, .ref y] 3)) (s₁.setTop (mkF m 8 #[.val (.ref x), .val (.ref y), .unset] [.ref y])) := c1.trans (by
      refine acmpYes X0.here hexec rfl (pc0 := 2) rfl (hb hbytes d2) rfl rfl rfl (by simp [acmp, hxy]) (by decide) rfl ?_
      refine XS.aloadN X0.here hexec rfl (hb hbytes d7) rfl rfl ?_
      exact Steps.refl _)
    obtain ⟨T3, X3, q3, st3⟩ := cinst X0 hexec hown (wk W (.classLink "java/lang/String" 10 "java/lang/String")) (hy.mv X0.warmed.alike hh0).1 (g := (mkF m 8 #[.val (.ref x), .val (.ref y), .unset] [.ref y])) rfl (rest := []) rfl (hb hbytes d8)
    have hh3 := q3.trans hh0
    have c4 : Steps p.tables e below (s₁.setTop (entryFrame m #[.ref x, .ref y] 3)) (T3.setTop (mkF m 15 #[.val (.ref x), .val (.ref y), .unset] [.ref y])) := (c2.trans (st3 _ (Steps.refl _))).trans (by
      refine XS.ifNo X3.here hexec rfl (hb hbytes d11) rfl (i0_eq_f (by decide)) ?_
      refine XS.aloadN X3.here hexec rfl (hb hbytes d14) rfl rfl ?_
      exact Steps.refl _)
    obtain ⟨T5, X5, q5, st5⟩ := cself X3 hexec hown (wk W (.classLink "java/lang/String" 10 "java/lang/String")) (hy.mv X3.warmed.alike hh3).1 (g := (mkF m 15 #[.val (.ref x), .val (.ref y), .unset] [.ref y])) rfl (rest := []) rfl (hb hbytes d15)
    have hh5 := q5.trans hh3
    have c6 : Steps p.tables e below (s₁.setTop (entryFrame m #[.ref x, .ref y] 3)) (T5.setTop (mkF m 19 #[.val (.ref x), .val (.ref y), .val (.ref y)] [])) := (c4.trans (st5 _ (Steps.refl _))).trans (by
      refine XS.astoreN X5.here hexec rfl (hb hbytes d18) rfl rfl rfl ?_
      exact Steps.refl _)
    obtain ⟨T7, X7, q7, st7⟩ := X5.sget hexec hown (wk W (.fieldLink "java/lang/String" 38 "java/lang/String" "COMPACT_STRINGS" "Z")) s1 (fun _ _ h => by rw [hh5]; exact h) (g := (mkF m 19 #[.val (.ref x), .val (.ref y), .val (.ref y)] [])) rfl (hb hbytes d19)
    have hh7 := q7.trans hh5
    have c8 : Steps p.tables e below (s₁.setTop (entryFrame m #[.ref x, .ref y] 3)) (T7.setTop (mkF m 26 #[.val (.ref x), .val (.ref y), .val (.ref y)] [.ref x])) := (c6.trans (st7 _ (Steps.refl _))).trans (by
      refine XS.ifNo X7.here hexec rfl (hb hbytes d22) rfl (i0_eq_f hz) ?_
      refine XS.aloadN X7.here hexec rfl (hb hbytes d25) rfl rfl ?_
      exact Steps.refl _)
    obtain ⟨T9, X9, q9, st9⟩ := X7.hget hexec hown (wk W (.fieldLink "java/lang/String" 15 "java/lang/String" "coder" "B")) (hx.mv X7.warmed.alike hh7).2.2.1 (g := (mkF m 26 #[.val (.ref x), .val (.ref y), .val (.ref y)] [.ref x])) rfl (rest := []) rfl (hb hbytes d26)
    have hh9 := q9.trans hh7
    have c10 : Steps p.tables e below (s₁.setTop (entryFrame m #[.ref x, .ref y] 3)) (T9.setTop (mkF m 30 #[.val (.ref x), .val (.ref y), .val (.ref y)] [.ref y, .int cd])) := (c8.trans (st9 _ (Steps.refl _))).trans (by
      refine XS.aloadN X9.here hexec rfl (hb hbytes d29) rfl rfl ?_
      exact Steps.refl _)
    obtain ⟨T11, X11, q11, st11⟩ := X9.hget hexec hown (wk W (.fieldLink "java/lang/String" 15 "java/lang/String" "coder" "B")) (hy.mv X9.warmed.alike hh9).2.2.1 (g := (mkF m 30 #[.val (.ref x), .val (.ref y), .val (.ref y)] [.ref y, .int cd])) rfl (rest := [.int cd]) rfl (hb hbytes d30)
    have hh11 := q11.trans hh9
    have c12 : Steps p.tables e below (s₁.setTop (entryFrame m #[.ref x, .ref y] 3)) (T11.setTop (mkF m 33 #[.val (.ref x), .val (.ref y), .val (.ref y)] [.int cd', .int cd])) := c10.trans (st11 _ (Steps.refl _))
    by_cases hcd : cd = cd'
    · subst hcd
      have c13 : Steps p.tables e below (s₁.setTop (entryFrame m #[.ref x, .ref y] 3)) (T11.setTop (mkF m 37 #[.val (.ref x), .val (.ref y), .val (.ref y)] [.ref x])) := c12.trans (by
        refine XS.icmpNo X11.here hexec rfl (hb hbytes d33) rfl (ii_ne_f rfl) ?_
        refine XS.aloadN X11.here hexec rfl (hb hbytes d36) rfl rfl ?_
        exact Steps.refl _)
      obtain ⟨T14, X14, q14, st14⟩ := X11.hget hexec hown (wk W (.fieldLink "java/lang/String" 9 "java/lang/String" "value" "[B")) (hx.mv X11.warmed.alike hh11).2.1 (g := (mkF m 37 #[.val (.ref x), .val (.ref y), .val (.ref y)] [.ref x])) rfl (rest := []) rfl (hb hbytes d37)
      have hh14 := q14.trans hh11
      have c15 : Steps p.tables e below (s₁.setTop (entryFrame m #[.ref x, .ref y] 3)) (T14.setTop (mkF m 41 #[.val (.ref x), .val (.ref y), .val (.ref y)] [.ref y, .ref t])) := (c13.trans (st14 _ (Steps.refl _))).trans (by
        refine XS.aloadN X14.here hexec rfl (hb hbytes d40) rfl rfl ?_
        exact Steps.refl _)
      obtain ⟨T16, X16, q16, st16⟩ := X14.hget hexec hown (wk W (.fieldLink "java/lang/String" 9 "java/lang/String" "value" "[B")) (hy.mv X14.warmed.alike hh14).2.1 (g := (mkF m 41 #[.val (.ref x), .val (.ref y), .val (.ref y)] [.ref y, .ref t])) rfl (rest := [.ref t]) rfl (hb hbytes d41)
      have hh16 := q16.trans hh14
      have c17 : Steps p.tables e below (s₁.setTop (entryFrame m #[.ref x, .ref y] 3)) (T16.setTop (mkF m 44 #[.val (.ref x), .val (.ref y), .val (.ref y)] [.ref t', .ref t])) := c15.trans (st16 _ (Steps.refl _))
      obtain ⟨v18, T18, X18, E18, g18⟩ := X16.callS hexec (LEq.law l t V t' V') hown (wks W (staticW "java/lang/String" 541 LEq.yN)) (wk W LEq.tab) (W := 0) (Nat.le_of_ble_eq_true rfl) (Nat.le_of_ble_eq_true rfl) (Nat.le_refl _) (Nat.le_refl _) (g := (mkF m 44 #[.val (.ref x), .val (.ref y), .val (.ref y)] [.ref t', .ref t])) rfl (by rw [hml]; rfl) c17 (argsL := [.ref t, .ref t']) (rest := []) rfl rfl (by show 2 * 0 + 0 ≤ _; decide) (hb hbytes d44) (⟨rfl, hx.2.2.2.1.mv X16.warmed.alike hh16, hx.2.2.2.2.1.ty, hy.2.2.2.1.mv X16.warmed.alike hh16, hy.2.2.2.2.1.ty⟩)
      obtain ⟨v, rfl, q18, hv⟩ := E18
      have iff := Cod.eqv hx.2.2.2.2.1 hy.2.2.2.2.1 hx.2.2.2.2.2 hy.2.2.2.2.2
      rcases hv with ⟨rfl, he⟩ | ⟨rfl, he⟩
      · have c19 : Steps p.tables e below (s₁.setTop (entryFrame m #[.ref x, .ref y] 3)) (T18.setTop (mkF m 55 #[.val (.ref x), .val (.ref y), .val (.ref y)] [.int 1])) := Steps.trans g18 (by
          refine XS.ifNo X18.here hexec rfl (hb hbytes d47) rfl (i0_eq_f (by decide)) ?_
          refine iconstV X18.here hexec rfl 1 (hb hbytes d50) (by decide) ?_
          refine XS.goto X18.here hexec rfl (pc0 := 51) rfl (hb hbytes d51) (by decide) rfl ?_
          exact Steps.refl _)
        exact ⟨T18, some (.int 1), _, _, _, X18, rfl, rfl, rfl, (fun h => by cases h), ⟨1, rfl, q18.trans hh16, Or.inl ⟨rfl, iff.mp he⟩⟩, fun fs hl => c19.trans (X18.ireturnOut hexec hret rfl (Or.inr (Or.inl rfl)) (hb hbytes d55) hl)⟩
      · have c19 : Steps p.tables e below (s₁.setTop (entryFrame m #[.ref x, .ref y] 3)) (T18.setTop (mkF m 55 #[.val (.ref x), .val (.ref y), .val (.ref y)] [.int 0])) := Steps.trans g18 (by
          refine XS.ifYes X18.here hexec rfl (pc0 := 47) rfl (hb hbytes d47) rfl (i0_eq_t rfl) (by decide) rfl ?_
          refine iconstV X18.here hexec rfl 0 (hb hbytes d54) (by decide) ?_
          exact Steps.refl _)
        exact ⟨T18, some (.int 0), _, _, _, X18, rfl, rfl, rfl, (fun h => by cases h), ⟨0, rfl, q18.trans hh16, Or.inr ⟨rfl, fun q => he (iff.mpr q)⟩⟩, fun fs hl => c19.trans (X18.ireturnOut hexec hret rfl (Or.inr (Or.inl rfl)) (hb hbytes d55) hl)⟩
    · have c13 : Steps p.tables e below (s₁.setTop (entryFrame m #[.ref x, .ref y] 3)) (T11.setTop (mkF m 55 #[.val (.ref x), .val (.ref y), .val (.ref y)] [.int 0])) := c12.trans (by
        refine XS.icmpYes X11.here hexec rfl (pc0 := 33) rfl (hb hbytes d33) rfl (ii_ne_t hcd) (by decide) rfl ?_
        refine iconstV X11.here hexec rfl 0 (hb hbytes d54) (by decide) ?_
        exact Steps.refl _)
      exact ⟨T11, some (.int 0), _, _, _, X11, rfl, rfl, rfl, (fun h => by cases h), ⟨0, rfl, hh11, Or.inr ⟨rfl, Cod.dif hx.2.2.2.2.1 hy.2.2.2.2.1 hcd⟩⟩, fun fs hl => c13.trans (X11.ireturnOut hexec hret rfl (Or.inr (Or.inl rfl)) (hb hbytes d55) hl)⟩
theorem pays {l : Launch} {R : Room} {p : Program} {e : Env} {below : List Frame} {s : State} {sargs : Array Value} {len W : Nat} (x t : Addr) (V : Cell) (cd : Int32) (n : Nat) (f : Nat → Int32) (y t' : Addr) (V' : Cell) (cd' : Int32) (k : Nat) (g : Nat → Int32) (z : Int32) (htab : tab.before sargs s = true) (hfr : 2 ≤ R.frames) (hlo : W + 28 ≤ R.locals) :
    Back l R p e below s sargs yN len W (fun A₁ a₁ => A₁.cells + 0 ≤ R.cells ∧ A₁.slots + 0 ≤ R.slots ∧ P x t V cd n f y t' V' cd' k g z a₁ A₁.U) (fun A₁ _ v₁ B₁ => Says01 (SameT n f k g) v₁ A₁.U B₁.U ∧ B₁.locs = A₁.locs ++ [] ∧ B₁.cells = A₁.cells + 0 ∧ B₁.slots = A₁.slots + 0) :=
  (law l x t V cd n f y t' V' cd' k g z).pays htab hfr (by omega)
end SEq
end StrChars
namespace StrChars.Road
open Jvm Sem ClassFile Op Lib Jvm.Stand Jvm.Free Jvm.Free.XT
open Jvm.Lib.Cold (StaticIs)
/-- the words of String.equals(Object) -/
abbrev wordsEq : List Jvm.Cond := [.code SEq.yN SEq.yB 3 (some .boolean), .initialized ST, .classLink ST 10 ST, .fieldLink ST 38 ST "COMPACT_STRINGS" "Z", .fieldLink ST 15 ST "coder" "B", .fieldLink ST 9 ST "value" "[B", .methodLink ST 541 LEq.yN, .static LEq.yN, .code LEq.yN LEq.yB 3 (some .boolean), .initialized "java/lang/StringLatin1"]
theorem tabEq_of {a : Array Value} {s : State} (h : ∀ w ∈ wordsEq, w.before a s = true) : SEq.tab.before a s = true := by
  have hl : LEq.tab.before a s = true := unparts (wk h (.code LEq.yN LEq.yB 3 (some .boolean))) (wks h (.initialized LEq.yN.cls :: LEq.site))
  have q := consq hl h
  exact unparts (wk q (.code SEq.yN SEq.yB 3 (some .boolean))) (wks q (.initialized SEq.yN.cls :: SEq.site))
theorem movedEq {Z s : State} {a0 args : Array Value} (hZ : Z.Warmed39 s.vm) (hw : ∀ d ∈ wordsEq, d.before a0 Z = true) : ∀ d ∈ wordsEq, d.before args s = true := fun d hd => by
  have t : ∀ d ∈ wordsEq, (d.onTables && d.keepsFace) = true := by decide +kernel
  exact RoadKit.mv hZ (hw d hd) (t d hd)
/-- the road's facts of a String, as the laws ask it -/
theorem txt_of {Z U : State} {a0 : Array Value} {kI : Nat} (wi : (Jvm.Cond.instantiable ST kI).before a0 Z = true) (al : Z.vm.Alike U.vm) {x t : Addr} {kb : ClassId} {cs : List Int32} {cd N2 : Int32} {vs : List Value} (E : RoadKit.Exa Z U.heap x ST) (V : RoadKit.Fld Z U.heap x ST "value" "[B" (.ref t)) (C : RoadKit.Fld Z U.heap x ST "coder" "B" (.int cd)) (K : RoadKit.Arv Z U.heap t kb .byte N2 vs (.int 0)) (hc : CodA cs cd N2 vs) (hb : ∀ c ∈ cs, ¬ c < 0 ∧ ¬ (65535 : Int32) < c) (l2 : cs.length ≤ 4000) :
    ∃ A, Txt x t A cd cs.length (fun j => cs.getD j 0) U := by
  obtain ⟨A, K1, K2, K3, K4, K5, K6⟩ := K
  have hcod := hc.cod (by omega) K3 K5
  obtain ⟨D, fV, fC, hB, F1, F2, g1, g2, -, -⟩ := strObj wi al E V C
  exact ⟨A, ⟨_, hB.2.2.1, D, hB.1, rfl, by cases q : D.vm <;> first | rfl | exact absurd q (hB.2.1.2 _)⟩, Has.of hB F1 g1, Has.of hB F2 g2, ⟨K1.1, State.isArrayOf_alike al K1.2.1, K1.2.2, by rcases hcod with ⟨-, q, -⟩ | ⟨-, q, -⟩ <;> omega⟩, hcod, fun j hj => by
    have e : cs.getD j 0 = cs[j] := by simp [List.getD_eq_getElem?_getD, hj]
    show ¬ cs.getD j 0 < 0 ∧ ¬ 65535 < cs.getD j 0
    rw [e]; exact hb _ (List.getElem_mem _)⟩
theorem same_list (cs ds : List Int32) : SameT cs.length (fun j => cs.getD j 0) ds.length (fun j => ds.getD j 0) ↔ cs = ds := by
  constructor
  · rintro ⟨e, q⟩
    refine List.ext_getElem e fun j h1 h2 => ?_
    have := q j h1
    simpa [List.getD_eq_getElem?_getD, h1, h2] using this
  · rintro rfl
    exact ⟨rfl, fun _ _ => rfl⟩
/-- **equals(Object) OF TWO SUCH STRINGS**: 1 just where the chars are the same -/
theorem eqW {p : Program} {l : Launch} {e : Env} {R : Room} {s : State} {args : Array Value} {below : List Frame} {len W : Nat} {Z : State} {a0 : Array Value} {h : Heap} (hZ : Z.Warmed39 s.vm) (hw : ∀ d ∈ wordsEq, d.before a0 Z = true) {kI : Nat} (wi : (Jvm.Cond.instantiable ST kI).before a0 Z = true)
    {x t : Addr} {kb : ClassId} {cs : List Int32} {cd N2 : Int32} {vs : List Value} (E : RoadKit.Exa Z h x ST) (V : RoadKit.Fld Z h x ST "value" "[B" (.ref t)) (C : RoadKit.Fld Z h x ST "coder" "B" (.int cd)) (K : RoadKit.Arv Z h t kb .byte N2 vs (.int 0)) (hc : CodA cs cd N2 vs) (hb : ∀ c ∈ cs, ¬ c < 0 ∧ ¬ (65535 : Int32) < c) (l2 : cs.length ≤ 4000)
    {y t' : Addr} {kb' : ClassId} {ds : List Int32} {cd' N2' : Int32} {vs' : List Value} (E' : RoadKit.Exa Z h y ST) (V' : RoadKit.Fld Z h y ST "value" "[B" (.ref t')) (C' : RoadKit.Fld Z h y ST "coder" "B" (.int cd')) (K' : RoadKit.Arv Z h t' kb' .byte N2' vs' (.int 0)) (hc' : CodA ds cd' N2' vs') (hb' : ∀ c ∈ ds, ¬ c < 0 ∧ ¬ (65535 : Int32) < c) (l2' : ds.length ≤ 4000)
    {z : Int32} (S : RoadKit.Sta Z h ST "COMPACT_STRINGS" "Z" (.int z)) (hz : ¬ z = 0) (hfr : 2 ≤ R.frames) (hlo : W + 28 ≤ R.locals) :
    Back l R p e below s args (⟨"java/lang/String", "equals", "(Ljava/lang/Object;)Z"⟩ : MethodName) len W (fun P a => a = #[.ref x, .ref y] ∧ P.U.heap = h ∧ P.cells + 0 ≤ R.cells ∧ P.slots + 0 ≤ R.slots)
      (fun P _ v B => ∃ L, (((v = some (.int 1) ∧ cs = ds) ∨ (v = some (.int 0) ∧ ¬ cs = ds)) ∧ L = [] ∧ B.U.heap = h) ∧ B.locs = P.locs ++ L ∧ B.cells = P.cells + 0 ∧ B.slots = P.slots + 0) := by
  intro m meth c P g ig mk a X hg hsize hdg hW hn hp'
  obtain ⟨rfl, rfl, r1, r2⟩ := hp'
  have al : Z.vm.Alike P.U.vm := hZ.alike.trans X.warmed.alike
  obtain ⟨A, hx⟩ := txt_of wi al E V C K hc hb l2
  obtain ⟨A', hy⟩ := txt_of wi al E' V' C' K' hc' hb' l2'
  obtain ⟨v, B, X', ⟨⟨w, hv, hh, hq⟩, hl, hk, hs⟩, st⟩ := SEq.pays x t A cd cs.length (fun j => cs.getD j 0) y t' A' cd' ds.length (fun j => ds.getD j 0) z (tabEq_of (movedEq hZ hw)) hfr hlo m meth c P g ig mk _ X hg hsize hdg hW hn ⟨r1, r2, rfl, hx, hy, sta_is al S, hz⟩
  refine ⟨v, B, X', ⟨[], ⟨?_, rfl, hh⟩, hl, hk, hs⟩, st⟩
  rcases hq with ⟨rfl, q⟩ | ⟨rfl, q⟩
  · exact Or.inl ⟨hv, (same_list cs ds).mp q⟩
  · exact Or.inr ⟨hv, fun e => q ((same_list cs ds).mpr e)⟩
end StrChars.Road
namespace StrChars.Road
open Jvm Sem ClassFile Op Lib Jvm.Stand Jvm.Free Jvm.Free.XT
open Jvm.Lib.Cold (StaticIs)
/-- what backV says of its String, as the contracts of this text ask it: cs's low bytes, coder 0 -/
theorem codOf {cs : List Int32} {n : Nat} (hn : cs.length = n) (hb : ∀ c ∈ cs, ¬ 255 < c) : CodA cs 0 (Int32.ofNat n) ((cs.map lo8).map Value.int) := Or.inl ⟨rfl, by rw [hn], by simp [List.map_map, Function.comp_def], hb⟩
end StrChars.Road
end Jvm.Pilot.@@N@@

namespace Jvm.Pilot.@@N@@
open Jvm Jvm.ClassFile Sem Op Lib Jvm.Free Jvm.Stand Jvm.LawKit Jvm.RoadKit Bundle Jvm.Ow Jvm.Pilot.@@N@@.Jvm.D
theorem wSt {a0 : Array Value} {Z : State} (hw : ∀ d ∈ tables_1, d.before a0 Z = true) : ∀ d ∈ Bundle.stringAtoms, d.before a0 Z = true := fun d hd => hw d ((by decide +kernel : ∀ d ∈ Bundle.stringAtoms, d ∈ tables_1) d hd)
theorem nref {t : FieldType} {w : Value} (h : w.isRef = true) : narrow t w = w := by cases w <;> first | (cases t <;> rfl) | cases h
theorem fref {C : String} {w : Value} (h : w.isRef = true) : fits (.object C) w = true := by cases w <;> first | rfl | cases h

theorem wCh {a0 : Array Value} {Z : State} (hw : ∀ d ∈ tables_1, d.before a0 Z = true) : ∀ d ∈ StrChars.Road.words, d.before a0 Z = true := fun d hd => hw d ((by decide +kernel : ∀ d ∈ StrChars.Road.words, d ∈ tables_1) d hd)
/-- what new String(chars) leaves -/
def QStr (Z : State) (x : Addr) (N : Int32) (cs : List Int32) (h : Heap) (v : Option Value) (u : Heap) : Prop := ∃ (t : Addr) (kb : ClassId), v = none ∧ Keep h u [x] ∧ Exa Z u x "java/lang/String" ∧ Fld Z u x "java/lang/String" "coder" "B" (.int (0 : Int32)) ∧ Fld Z u x "java/lang/String" "value" "[B" (.ref t) ∧ Arv Z u t kb .byte N ((cs.map fun c => c.toInt8.toInt32).map Value.int) (.int (0 : Int32)) ∧ h.size ≤ t
theorem payStr {p : Program} {l : Launch} {e : Env} {R : Room} {s : State} {m : MethodId} {args : Array Value} {below : List Frame} {meth : Method} {c : Code} {own : String} {Z : State} {a0 : Array Value} {EL : List (String × Nat)} {h0 : Heap} {T : State} {h : Heap} {vm : Vm} {cells slots : Nat} (X : Wk p l e R s m args below meth c own Z a0 EL h0 T h vm cells slots) {len W : Nat} (hw : ∀ d ∈ tables_1, d.before a0 Z = true) (wi : (Jvm.Cond.instantiable "java/lang/String" 4).before a0 Z = true)
    {x b : Addr} {kC : ClassId} (cs : List Int32) {d v0 c0 : Value} {z N : Int32} (n : Nat) (hx0 : Z.heap.size ≤ x) (E : Exa Z h x "java/lang/String") (V : Fld Z h x "java/lang/String" "value" "[B" v0) (C : Fld Z h x "java/lang/String" "coder" "B" c0) (K : Arv Z h b kC .char N (cs.map Value.int) d) (S : Sta Z Z.heap "java/lang/String" "COMPACT_STRINGS" "Z" (.int z)) (hz : ¬ z = 0)
    (hn : cs.length = n) (hN : N = Int32.ofNat n) (l0 : 0 < n) (l2 : n ≤ 4000) (hp : ∀ c ∈ cs, ¬ c < 0 ∧ ¬ (255 : Int32) < c) (hfr : 4 ≤ R.frames) (hlo : W + 65 ≤ R.locals) (sf : Safe Z EL vm h x) :
    Pay l R p e below s args (⟨"java/lang/String", "<init>", "([C)V"⟩ : MethodName) len W Z EL vm h #[.ref x, .ref b] 1 n (fun v _ u => QStr Z x N cs h v u) :=
  X.payN (ws := [x]) (StrChars.Road.backV (s := s.setVm vm) (n0 := Z.heap.size) X.hZ (wCh hw) wi hx0 X.ge E V C K (X.sta S) hz hn hN l0 l2 hp rfl hfr hlo)
    (fun v u L q => by obtain ⟨q1, q2, q3, q4, q5, t, kb, q6, q7, q8, q9, q10⟩ := q; exact ⟨q2, q3, t, kb, q1, q3, q4, q5, q9, q10, q7⟩) (allS hx0 all0) (sfS sf sf0)

theorem wide_of {cs : List Int32} (H : ∀ c ∈ cs, ¬ c < 0 ∧ ¬ (255 : Int32) < c) : ∀ c ∈ cs, ¬ c < 0 ∧ ¬ (65535 : Int32) < c := fun c hc => ⟨(H c hc).1, fun q => (H c hc).2 (by
  have e1 : (255 : Int32).toInt = 255 := by decide
  have e2 : (65535 : Int32).toInt = 65535 := by decide
  rw [Int32.lt_iff_toInt_lt] at q ⊢; omega)⟩
theorem cod_of {Z : State} {h : Heap} {a b : Addr} {k : ClassId} {cs : List Int32} (F : Str Z h a b k cs) : StrChars.Road.CodA cs 0 (Int32.ofNat cs.length) ((cs.map fun c => c.toInt8.toInt32).map Value.int) := StrChars.Road.codOf rfl fun c hc => (F.2.2.2.2.1 c hc).2

theorem wEq {a0 : Array Value} {Z : State} (hw : ∀ d ∈ tables_1, d.before a0 Z = true) : ∀ d ∈ StrChars.Road.wordsEq, d.before a0 Z = true := fun d hd => hw d ((by decide +kernel : ∀ d ∈ StrChars.Road.wordsEq, d ∈ tables_1) d hd)
theorem payEq {p : Program} {l : Launch} {e : Env} {R : Room} {s : State} {m : MethodId} {args : Array Value} {below : List Frame} {meth : Method} {c : Code} {own : String} {Z : State} {a0 : Array Value} {EL : List (String × Nat)} {h0 : Heap} {T : State} {h : Heap} {vm : Vm} {cells slots : Nat} (X : Wk p l e R s m args below meth c own Z a0 EL h0 T h vm cells slots) {len W : Nat} (hw : ∀ d ∈ tables_1, d.before a0 Z = true) (wi : (Jvm.Cond.instantiable "java/lang/String" 4).before a0 Z = true) {x t : Addr} {kb : ClassId} {cs : List Int32} (S1 : Str Z h x t kb cs) {y t' : Addr} {kb' : ClassId} {ds : List Int32} (S2 : Str Z h y t' kb' ds) {z : Int32} (S : Sta Z Z.heap "java/lang/String" "COMPACT_STRINGS" "Z" (.int z)) (hz : ¬ z = 0) (hfr : 2 ≤ R.frames) (hlo : W + 28 ≤ R.locals) :
    Pay l R p e below s args (⟨"java/lang/String", "equals", "(Ljava/lang/Object;)Z"⟩ : MethodName) len W Z EL vm h #[.ref x, .ref y] 0 0 (fun v _ u => v = some (.int (if cs = ds then 1 else 0)) ∧ u = h) :=
  X.payN (ws := []) (Qn := fun v u L => ((v = some (.int 1) ∧ cs = ds) ∨ (v = some (.int 0) ∧ ¬ cs = ds)) ∧ L = [] ∧ u = h) (StrChars.Road.eqW (s := s.setVm vm) X.hZ (wEq hw) wi S1.1 S1.2.2.1 S1.2.1 S1.2.2.2.1 (cod_of S1) (wide_of S1.2.2.2.2.1) S1.2.2.2.2.2 S2.1 S2.2.2.1 S2.2.1 S2.2.2.2.1 (cod_of S2) (wide_of S2.2.2.2.2.1) S2.2.2.2.2.2 (X.sta S) hz hfr hlo)
    (fun v u L q => by
      obtain ⟨q1, rfl, rfl⟩ := q
      refine ⟨Fr.nil _, Keep.refl _ _, ?_, rfl⟩
      rcases q1 with ⟨rfl, q⟩ | ⟨rfl, q⟩
      · rw [if_pos q]
      · rw [if_neg q]) all0 sf0

theorem arv0 {s : State} {args : Array Value} {t : Term} {a : Addr} {ty : FieldType} (hf : Fit s) (ev : t.eval args s none [] s = some (.ref a)) (hx : (Jvm.Cond.arrayOf t ty).value args s none s [] = some true) (hl : (Jvm.Cond.eq (.length t) (.int (0 : Int32))).value args s none s [] = some true) : ∃ k, Arv s s.heap a k ty (0 : Int32) [] .null := by
  obtain ⟨cl, A⟩ := Arr.start ev hx
  have q : (Term.length t).eval args s none [] s = some (.int (0 : Int32)) := Cond.eq_int (Cond.before_iff.mpr hl) rfl
  have ha : s.arrayAt? a = some cl := A.fin (Vm.Alike.refl _)
  have q2 : cl.slots.size < 2 ^ 31 ∧ cl.slots.size.toInt32 = (0 : Int32) := by simpa [Term.eval, ev, ha] using q
  exact ⟨cl.cls, Arv.start hf A q2.1 q2.2 (by decide) rfl trivial⟩

def subS (s0 : Int64) : List Int32 := if (s0 &&& (3 : Int64)).toInt32 = 0 then [(82 : Int32), (84 : Int32), (78 : Int32)] else if (s0 &&& (3 : Int64)).toInt32 = 1 then [(48 : Int32)] else if (s0 &&& (3 : Int64)).toInt32 = 2 then [(Jvm.Free.XT.ushrL s0 (2 : Int32) &&& (255 : Int64)).toInt32, (Jvm.Free.XT.ushrL s0 (10 : Int32) &&& (255 : Int64)).toInt32, (Jvm.Free.XT.ushrL s0 (18 : Int32) &&& (255 : Int64)).toInt32] else [(Jvm.Free.XT.ushrL s0 (2 : Int32) &&& (255 : Int64)).toInt32]
theorem sub_rtn (s0 : Int64) : subS s0 = [(82 : Int32), (84 : Int32), (78 : Int32)] ↔ (s0 &&& (3 : Int64)).toInt32 = 0 ∨ ((s0 &&& (3 : Int64)).toInt32 = 2 ∧ (Jvm.Free.XT.ushrL s0 (2 : Int32) &&& (255 : Int64)).toInt32 = (82 : Int32) ∧ (Jvm.Free.XT.ushrL s0 (10 : Int32) &&& (255 : Int64)).toInt32 = (84 : Int32) ∧ (Jvm.Free.XT.ushrL s0 (18 : Int32) &&& (255 : Int64)).toInt32 = (78 : Int32)) := by
  unfold subS
  generalize (s0 &&& (3 : Int64)).toInt32 = mm
  generalize (Jvm.Free.XT.ushrL s0 (2 : Int32) &&& (255 : Int64)).toInt32 = x
  generalize (Jvm.Free.XT.ushrL s0 (10 : Int32) &&& (255 : Int64)).toInt32 = y
  generalize (Jvm.Free.XT.ushrL s0 (18 : Int32) &&& (255 : Int64)).toInt32 = z
  by_cases h0 : mm = 0
  · simp [h0]
  · by_cases h1 : mm = 1
    · subst h1; simp
    · by_cases h2 : mm = 2
      · subst h2; simp
      · simp [h0, h1, h2]
theorem m4 (s0 : Int64) : (s0 &&& (3 : Int64)).toInt32 = 0 ∨ (s0 &&& (3 : Int64)).toInt32 = 1 ∨ (s0 &&& (3 : Int64)).toInt32 = 2 ∨ (s0 &&& (3 : Int64)).toInt32 = 3 := by
  have q := c_maskL s0 (3 : Int64) 2 (by decide) (by decide)
  have r := Jvm.Free.XT.narrowInt (x := s0 &&& (3 : Int64)) ⟨by omega, by omega⟩
  have e0 : (0 : Int32).toInt = 0 := by decide
  have e1 : (1 : Int32).toInt = 1 := by decide
  have e2 : (2 : Int32).toInt = 2 := by decide
  have e3 : (3 : Int32).toInt = 3 := by decide
  simp only [← Int32.toInt_inj, e0, e1, e2, e3, r, q]; omega
theorem sub_zer (s0 : Int64) : subS s0 = [(48 : Int32)] ↔ (s0 &&& (3 : Int64)).toInt32 = 1 ∨ ((s0 &&& (3 : Int64)).toInt32 = 3 ∧ (Jvm.Free.XT.ushrL s0 (2 : Int32) &&& (255 : Int64)).toInt32 = (48 : Int32)) := by
  have h := m4 s0
  unfold subS
  generalize (s0 &&& (3 : Int64)).toInt32 = mm at h ⊢
  generalize (Jvm.Free.XT.ushrL s0 (2 : Int32) &&& (255 : Int64)).toInt32 = x
  rcases h with h | h | h | h <;> subst h <;> simp
theorem cas3 (A B : Prop) : (A ∧ B) ∨ (A ∧ ¬ B) ∨ ¬ A := by by_cases h : A <;> by_cases k : B <;> simp [h, k]
theorem sz6 (x : Int32) : ((x &&& (2147483647 : Int32)) % (6 : Int32)) = 0 ∨ ((x &&& (2147483647 : Int32)) % (6 : Int32)) = 1 ∨ ((x &&& (2147483647 : Int32)) % (6 : Int32)) = 2 ∨ ((x &&& (2147483647 : Int32)) % (6 : Int32)) = 3 ∨ ((x &&& (2147483647 : Int32)) % (6 : Int32)) = 4 ∨ ((x &&& (2147483647 : Int32)) % (6 : Int32)) = 5 := by
  have q := c_and x (2147483647 : Int32) (by decide)
  have r := (c_irem (x &&& (2147483647 : Int32)) (6 : Int32) 6 (by decide)).1 q.1
  have e0 : (0 : Int32).toInt = 0 := by decide
  have e1 : (1 : Int32).toInt = 1 := by decide
  have e2 : (2 : Int32).toInt = 2 := by decide
  have e3 : (3 : Int32).toInt = 3 := by decide
  have e4 : (4 : Int32).toInt = 4 := by decide
  have e5 : (5 : Int32).toInt = 5 := by decide
  simp only [← Int32.toInt_inj, e0, e1, e2, e3, e4, e5]; omega

abbrev HW (a0 : Array Value) (Z : State) : Prop := ∀ d ∈ tables_1, d.before a0 Z = true
theorem hw_at {a0 : Array Value} {Z : State} (hw : HW a0 Z) (i : Nat) {d : Jvm.Cond} (h : tables_1[i]? = some d) : d.before a0 Z = true := hw _ (List.mem_of_getElem? h)
abbrev Cx (Z : State) (a0 : Array Value) (zc : Int32) (de : Addr) (kde : ClassId) (em : Addr) (el ee : Addr) (kee : ClassId) (mr : Addr) : Prop := HW a0 Z ∧ (EW Z a0 consts_1) ∧ (Sta Z Z.heap "java/lang/String" "COMPACT_STRINGS" "Z" (.int zc)) ∧ (¬ zc = 0) ∧ (Sta Z Z.heap "java/util/ArrayList" "DEFAULTCAPACITY_EMPTY_ELEMENTDATA" "[Ljava/lang/Object;" (.ref de)) ∧ (Arv Z Z.heap de kde (.object "java/lang/Object") (0 : Int32) [] .null) ∧ (Exa Z Z.heap em "java/lang/Object") ∧ (Sta Z Z.heap "java/util/ImmutableCollections" "EMPTY" "Ljava/lang/Object;" (.ref em)) ∧ (Sta Z Z.heap "java/util/ImmutableCollections" "EMPTY_LIST" "Ljava/util/ImmutableCollections$ListN;" (.ref el)) ∧ (Exa Z Z.heap el "java/util/ImmutableCollections$ListN") ∧ (Fld Z Z.heap el "java/util/ImmutableCollections$ListN" "elements" "[Ljava/lang/Object;" (.ref ee)) ∧ (Arv Z Z.heap ee kee (.object "java/lang/Object") (0 : Int32) [] .null) ∧ (Mir Z "[Ljava/lang/Object;" mr)
variable {l : Launch} {Z : State} {a0 : Array Value} {zc : Int32} {de : Addr} {kde : ClassId} {em : Addr} {el ee : Addr} {kee : ClassId} {mr : Addr}
theorem w0 (hw : HW a0 Z) : (Jvm.Cond.constant "com/example/packwright/packwright/io/BuildAssemblerRoutineOfLinePinLaw" (34 : Nat) (2147483647 : Int32)).before a0 Z = true := hw_at hw 0 rfl
theorem w1 (hw : HW a0 Z) : (Jvm.Cond.classLink "com/example/packwright/packwright/io/BuildAssemblerRoutineOfLinePinLaw" (25 : Nat) "java/lang/String").before a0 Z = true := hw_at hw 1 rfl
theorem w2 (hw : HW a0 Z) : (Jvm.Cond.arrayOver (Jvm.ClassFile.FieldType.object "java/lang/String")).before a0 Z = true := hw_at hw 2 rfl
theorem w3 (hw : HW a0 Z) : (Jvm.Cond.methodLink "com/example/packwright/packwright/io/BuildAssemblerRoutineOfLinePinLaw" (35 : Nat) ({ cls := "com/example/packwright/packwright/io/BuildAssemblerRoutineOfLinePinLaw", name := "sub", desc := "(J)Ljava/lang/String;" } : Jvm.MethodName)).before a0 Z = true := hw_at hw 3 rfl
theorem w4 (hw : HW a0 Z) : (Jvm.Cond.static ({ cls := "com/example/packwright/packwright/io/BuildAssemblerRoutineOfLinePinLaw", name := "sub", desc := "(J)Ljava/lang/String;" } : Jvm.MethodName)).before a0 Z = true := hw_at hw 4 rfl
theorem w5 (hw : HW a0 Z) : (Jvm.Cond.initialized "com/example/packwright/packwright/io/BuildAssemblerRoutineOfLinePinLaw").before a0 Z = true := hw_at hw 5 rfl
theorem w6 (hw : HW a0 Z) : (Jvm.Cond.code ({ cls := "com/example/packwright/packwright/io/BuildAssemblerRoutineOfLinePinLaw", name := "sub", desc := "(J)Ljava/lang/String;" } : Jvm.MethodName) method_4_code (4 : Nat) (Option.some (Jvm.ClassFile.FieldType.object "java/lang/String"))).before a0 Z = true := hw_at hw 6 rfl
theorem w7 (hw : HW a0 Z) : (Jvm.Cond.methodLink "com/example/packwright/packwright/io/BuildAssemblerRoutineOfLinePinLaw" (11 : Nat) ({ cls := "com/example/packwright/packwright/io/BuildAssemblerRoutineOfLinePinLaw", name := "mode", desc := "(J)I" } : Jvm.MethodName)).before a0 Z = true := hw_at hw 7 rfl
theorem w8 (hw : HW a0 Z) : (Jvm.Cond.static ({ cls := "com/example/packwright/packwright/io/BuildAssemblerRoutineOfLinePinLaw", name := "mode", desc := "(J)I" } : Jvm.MethodName)).before a0 Z = true := hw_at hw 8 rfl
theorem w9 (hw : HW a0 Z) : (Jvm.Cond.code ({ cls := "com/example/packwright/packwright/io/BuildAssemblerRoutineOfLinePinLaw", name := "mode", desc := "(J)I" } : Jvm.MethodName) method_3_code (2 : Nat) (Option.some Jvm.ClassFile.FieldType.int)).before a0 Z = true := hw_at hw 9 rfl
theorem w10 (hw : HW a0 Z) : (Jvm.Cond.constantLong "com/example/packwright/packwright/io/BuildAssemblerRoutineOfLinePinLaw" (9 : Nat) (3 : Int64)).before a0 Z = true := hw_at hw 10 rfl
theorem w11 (hw : HW a0 Z) : (Jvm.Cond.arrayClass Jvm.ClassFile.FieldType.char).before a0 Z = true := hw_at hw 11 rfl
theorem w12 (hw : HW a0 Z) : (Jvm.Cond.methodLink "com/example/packwright/packwright/io/BuildAssemblerRoutineOfLinePinLaw" (21 : Nat) ({ cls := "com/example/packwright/packwright/io/BuildAssemblerRoutineOfLinePinLaw", name := "ch", desc := "(JI)C" } : Jvm.MethodName)).before a0 Z = true := hw_at hw 12 rfl
theorem w13 (hw : HW a0 Z) : (Jvm.Cond.static ({ cls := "com/example/packwright/packwright/io/BuildAssemblerRoutineOfLinePinLaw", name := "ch", desc := "(JI)C" } : Jvm.MethodName)).before a0 Z = true := hw_at hw 13 rfl
theorem w14 (hw : HW a0 Z) : (Jvm.Cond.code ({ cls := "com/example/packwright/packwright/io/BuildAssemblerRoutineOfLinePinLaw", name := "ch", desc := "(JI)C" } : Jvm.MethodName) method_2_code (3 : Nat) (Option.some Jvm.ClassFile.FieldType.char)).before a0 Z = true := hw_at hw 14 rfl
theorem w15 (hw : HW a0 Z) : (Jvm.Cond.constantLong "com/example/packwright/packwright/io/BuildAssemblerRoutineOfLinePinLaw" (7 : Nat) (255 : Int64)).before a0 Z = true := hw_at hw 15 rfl
theorem w16 (hw : HW a0 Z) : (Jvm.Cond.instantiable "java/lang/String" (4 : Nat)).before a0 Z = true := hw_at hw 16 rfl
theorem w17 (hw : HW a0 Z) : (Jvm.Cond.initialized "java/lang/String").before a0 Z = true := hw_at hw 17 rfl
theorem w18 (hw : HW a0 Z) : (Jvm.Cond.methodLink "com/example/packwright/packwright/io/BuildAssemblerRoutineOfLinePinLaw" (27 : Nat) ({ cls := "java/lang/String", name := "<init>", desc := "([C)V" } : Jvm.MethodName)).before a0 Z = true := hw_at hw 18 rfl
theorem w19 (hw : HW a0 Z) : (Jvm.Cond.instanceMethod ({ cls := "java/lang/String", name := "<init>", desc := "([C)V" } : Jvm.MethodName)).before a0 Z = true := hw_at hw 19 rfl
theorem w20 (hw : HW a0 Z) : (Jvm.Cond.code ({ cls := "java/lang/String", name := "<init>", desc := "([C)V" } : Jvm.MethodName) jdk_42_method_3_code (2 : Nat) (Option.none : Option Jvm.ClassFile.FieldType)).before a0 Z = true := hw_at hw 20 rfl
theorem w25 (hw : HW a0 Z) : (Jvm.Cond.methodLink "java/lang/String" (1 : Nat) ({ cls := "java/lang/Object", name := "<init>", desc := "()V" } : Jvm.MethodName)).before a0 Z = true := hw_at hw 25 rfl
theorem w26 (hw : HW a0 Z) : (Jvm.Cond.instanceMethod ({ cls := "java/lang/Object", name := "<init>", desc := "()V" } : Jvm.MethodName)).before a0 Z = true := hw_at hw 26 rfl
theorem w27 (hw : HW a0 Z) : (Jvm.Cond.code ({ cls := "java/lang/Object", name := "<init>", desc := "()V" } : Jvm.MethodName) object_method_1_code (1 : Nat) (Option.none : Option Jvm.ClassFile.FieldType)).before a0 Z = true := hw_at hw 27 rfl
theorem w28 (hw : HW a0 Z) : (Jvm.Cond.fieldLink "java/lang/String" (38 : Nat) "java/lang/String" "COMPACT_STRINGS" "Z").before a0 Z = true := hw_at hw 28 rfl
theorem w33 (hw : HW a0 Z) : (Jvm.Cond.arrayClass Jvm.ClassFile.FieldType.byte).before a0 Z = true := hw_at hw 33 rfl
theorem w40 (hw : HW a0 Z) : (Jvm.Cond.fieldLink "java/lang/String" (15 : Nat) "java/lang/String" "coder" "B").before a0 Z = true := hw_at hw 40 rfl
theorem w41 (hw : HW a0 Z) : (Jvm.Cond.laysFinal "java/lang/String" "java/lang/String" "coder" "B").before a0 Z = true := hw_at hw 41 rfl
theorem w42 (hw : HW a0 Z) : (Jvm.Cond.fieldLink "java/lang/String" (9 : Nat) "java/lang/String" "value" "[B").before a0 Z = true := hw_at hw 42 rfl
theorem w43 (hw : HW a0 Z) : (Jvm.Cond.laysFinal "java/lang/String" "java/lang/String" "value" "[B").before a0 Z = true := hw_at hw 43 rfl
theorem w44 (hw : HW a0 Z) : (Jvm.Cond.methodLink "com/example/packwright/packwright/io/BuildAssemblerRoutineOfLinePinLaw" (30 : Nat) ({ cls := "java/lang/String", name := "valueOf", desc := "(C)Ljava/lang/String;" } : Jvm.MethodName)).before a0 Z = true := hw_at hw 44 rfl
theorem w45 (hw : HW a0 Z) : (Jvm.Cond.static ({ cls := "java/lang/String", name := "valueOf", desc := "(C)Ljava/lang/String;" } : Jvm.MethodName)).before a0 Z = true := hw_at hw 45 rfl
theorem w46 (hw : HW a0 Z) : (Jvm.Cond.code ({ cls := "java/lang/String", name := "valueOf", desc := "(C)Ljava/lang/String;" } : Jvm.MethodName) jdk_42_method_139_code (1 : Nat) (Option.some (Jvm.ClassFile.FieldType.object "java/lang/String"))).before a0 Z = true := hw_at hw 46 rfl
theorem w47 (hw : HW a0 Z) : (Jvm.Cond.methodLink "java/lang/String" (1015 : Nat) ({ cls := "java/lang/StringLatin1", name := "canEncode", desc := "(C)Z" } : Jvm.MethodName)).before a0 Z = true := hw_at hw 47 rfl
theorem w48 (hw : HW a0 Z) : (Jvm.Cond.static ({ cls := "java/lang/StringLatin1", name := "canEncode", desc := "(C)Z" } : Jvm.MethodName)).before a0 Z = true := hw_at hw 48 rfl
theorem w49 (hw : HW a0 Z) : (Jvm.Cond.initialized "java/lang/StringLatin1").before a0 Z = true := hw_at hw 49 rfl
theorem w50 (hw : HW a0 Z) : (Jvm.Cond.code ({ cls := "java/lang/StringLatin1", name := "canEncode", desc := "(C)Z" } : Jvm.MethodName) jdk_43_method_3_code (1 : Nat) (Option.some Jvm.ClassFile.FieldType.boolean)).before a0 Z = true := hw_at hw 50 rfl
theorem w51 (hw : HW a0 Z) : (Jvm.Cond.classLink "java/lang/String" (10 : Nat) "java/lang/String").before a0 Z = true := hw_at hw 51 rfl
theorem w52 (hw : HW a0 Z) : (Jvm.Cond.methodLink "java/lang/String" (1018 : Nat) ({ cls := "java/lang/StringLatin1", name := "toBytes", desc := "(C)[B" } : Jvm.MethodName)).before a0 Z = true := hw_at hw 52 rfl
theorem w53 (hw : HW a0 Z) : (Jvm.Cond.static ({ cls := "java/lang/StringLatin1", name := "toBytes", desc := "(C)[B" } : Jvm.MethodName)).before a0 Z = true := hw_at hw 53 rfl
theorem w54 (hw : HW a0 Z) : (Jvm.Cond.code ({ cls := "java/lang/StringLatin1", name := "toBytes", desc := "(C)[B" } : Jvm.MethodName) jdk_43_method_46_code (1 : Nat) (Option.some (Jvm.ClassFile.FieldType.array Jvm.ClassFile.FieldType.byte))).before a0 Z = true := hw_at hw 54 rfl
theorem w55 (hw : HW a0 Z) : (Jvm.Cond.methodLink "java/lang/String" (209 : Nat) ({ cls := "java/lang/String", name := "<init>", desc := "([BB)V" } : Jvm.MethodName)).before a0 Z = true := hw_at hw 55 rfl
theorem w56 (hw : HW a0 Z) : (Jvm.Cond.instanceMethod ({ cls := "java/lang/String", name := "<init>", desc := "([BB)V" } : Jvm.MethodName)).before a0 Z = true := hw_at hw 56 rfl
theorem w57 (hw : HW a0 Z) : (Jvm.Cond.code ({ cls := "java/lang/String", name := "<init>", desc := "([BB)V" } : Jvm.MethodName) jdk_42_method_151_code (3 : Nat) (Option.none : Option Jvm.ClassFile.FieldType)).before a0 Z = true := hw_at hw 57 rfl
theorem w58 (hw : HW a0 Z) : (Jvm.Cond.classLink "com/example/packwright/packwright/io/BuildAssemblerRoutineOfLinePinLaw" (39 : Nat) "java/util/ArrayList").before a0 Z = true := hw_at hw 58 rfl
theorem w59 (hw : HW a0 Z) : (Jvm.Cond.instantiable "java/util/ArrayList" (3 : Nat)).before a0 Z = true := hw_at hw 59 rfl
theorem w60 (hw : HW a0 Z) : (Jvm.Cond.initialized "java/util/ArrayList").before a0 Z = true := hw_at hw 60 rfl
theorem w61 (hw : HW a0 Z) : (Jvm.Cond.methodLink "com/example/packwright/packwright/io/BuildAssemblerRoutineOfLinePinLaw" (41 : Nat) ({ cls := "java/util/ArrayList", name := "<init>", desc := "()V" } : Jvm.MethodName)).before a0 Z = true := hw_at hw 61 rfl
theorem w62 (hw : HW a0 Z) : (Jvm.Cond.instanceMethod ({ cls := "java/util/ArrayList", name := "<init>", desc := "()V" } : Jvm.MethodName)).before a0 Z = true := hw_at hw 62 rfl
theorem w63 (hw : HW a0 Z) : (Jvm.Cond.code ({ cls := "java/util/ArrayList", name := "<init>", desc := "()V" } : Jvm.MethodName) jdk_38_method_2_code (1 : Nat) (Option.none : Option Jvm.ClassFile.FieldType)).before a0 Z = true := hw_at hw 63 rfl
theorem w64 (hw : HW a0 Z) : (Jvm.Cond.methodLink "java/util/ArrayList" (1 : Nat) ({ cls := "java/util/AbstractList", name := "<init>", desc := "()V" } : Jvm.MethodName)).before a0 Z = true := hw_at hw 64 rfl
theorem w65 (hw : HW a0 Z) : (Jvm.Cond.instanceMethod ({ cls := "java/util/AbstractList", name := "<init>", desc := "()V" } : Jvm.MethodName)).before a0 Z = true := hw_at hw 65 rfl
theorem w68 (hw : HW a0 Z) : (Jvm.Cond.initialized "java/util/AbstractList").before a0 Z = true := hw_at hw 68 rfl
theorem w69 (hw : HW a0 Z) : (Jvm.Cond.code ({ cls := "java/util/AbstractList", name := "<init>", desc := "()V" } : Jvm.MethodName) jdk_39_method_1_code (1 : Nat) (Option.none : Option Jvm.ClassFile.FieldType)).before a0 Z = true := hw_at hw 69 rfl
theorem w70 (hw : HW a0 Z) : (Jvm.Cond.methodLink "java/util/AbstractList" (1 : Nat) ({ cls := "java/util/AbstractCollection", name := "<init>", desc := "()V" } : Jvm.MethodName)).before a0 Z = true := hw_at hw 70 rfl
theorem w71 (hw : HW a0 Z) : (Jvm.Cond.instanceMethod ({ cls := "java/util/AbstractCollection", name := "<init>", desc := "()V" } : Jvm.MethodName)).before a0 Z = true := hw_at hw 71 rfl
theorem w74 (hw : HW a0 Z) : (Jvm.Cond.initialized "java/util/AbstractCollection").before a0 Z = true := hw_at hw 74 rfl
theorem w75 (hw : HW a0 Z) : (Jvm.Cond.code ({ cls := "java/util/AbstractCollection", name := "<init>", desc := "()V" } : Jvm.MethodName) jdk_22_method_1_code (1 : Nat) (Option.none : Option Jvm.ClassFile.FieldType)).before a0 Z = true := hw_at hw 75 rfl
theorem w76 (hw : HW a0 Z) : (Jvm.Cond.methodLink "java/util/AbstractCollection" (1 : Nat) ({ cls := "java/lang/Object", name := "<init>", desc := "()V" } : Jvm.MethodName)).before a0 Z = true := hw_at hw 76 rfl
theorem w77 (hw : HW a0 Z) : (Jvm.Cond.fieldLink "java/util/AbstractList" (7 : Nat) "java/util/AbstractList" "modCount" "I").before a0 Z = true := hw_at hw 77 rfl
theorem w78 (hw : HW a0 Z) : (Jvm.Cond.lays "java/util/ArrayList" "java/util/AbstractList" "modCount" "I").before a0 Z = true := hw_at hw 78 rfl
theorem w79 (hw : HW a0 Z) : (Jvm.Cond.fieldLink "java/util/ArrayList" (39 : Nat) "java/util/ArrayList" "DEFAULTCAPACITY_EMPTY_ELEMENTDATA" "[Ljava/lang/Object;").before a0 Z = true := hw_at hw 79 rfl
theorem w80 (hw : HW a0 Z) : (Jvm.Cond.fieldLink "java/util/ArrayList" (9 : Nat) "java/util/ArrayList" "elementData" "[Ljava/lang/Object;").before a0 Z = true := hw_at hw 80 rfl
theorem w81 (hw : HW a0 Z) : (Jvm.Cond.lays "java/util/ArrayList" "java/util/ArrayList" "elementData" "[Ljava/lang/Object;").before a0 Z = true := hw_at hw 81 rfl
theorem w82 (hw : HW a0 Z) : (Jvm.Cond.classLink "com/example/packwright/packwright/io/BuildAssemblerRoutineOfLinePinLaw" (46 : Nat) "com/example/packwright/packwright/model/Node").before a0 Z = true := hw_at hw 82 rfl
theorem w83 (hw : HW a0 Z) : (Jvm.Cond.instantiable "com/example/packwright/packwright/model/Node" (3 : Nat)).before a0 Z = true := hw_at hw 83 rfl
theorem w84 (hw : HW a0 Z) : (Jvm.Cond.initialized "com/example/packwright/packwright/model/Node").before a0 Z = true := hw_at hw 84 rfl
theorem w85 (hw : HW a0 Z) : (Jvm.Cond.stringLink "com/example/packwright/packwright/io/BuildAssemblerRoutineOfLinePinLaw" (48 : Nat) "").before a0 Z = true := hw_at hw 85 rfl
theorem w88 (hw : HW a0 Z) : (Jvm.Cond.methodLink "com/example/packwright/packwright/io/BuildAssemblerRoutineOfLinePinLaw" (50 : Nat) ({ cls := "com/example/packwright/packwright/model/Node", name := "<init>", desc := "(Ljava/lang/String;Ljava/util/List;Ljava/lang/String;)V" } : Jvm.MethodName)).before a0 Z = true := hw_at hw 88 rfl
theorem w89 (hw : HW a0 Z) : (Jvm.Cond.instanceMethod ({ cls := "com/example/packwright/packwright/model/Node", name := "<init>", desc := "(Ljava/lang/String;Ljava/util/List;Ljava/lang/String;)V" } : Jvm.MethodName)).before a0 Z = true := hw_at hw 89 rfl
theorem w90 (hw : HW a0 Z) : (Jvm.Cond.code ({ cls := "com/example/packwright/packwright/model/Node", name := "<init>", desc := "(Ljava/lang/String;Ljava/util/List;Ljava/lang/String;)V" } : Jvm.MethodName) prog_37_method_1_code (4 : Nat) (Option.none : Option Jvm.ClassFile.FieldType)).before a0 Z = true := hw_at hw 90 rfl
theorem w91 (hw : HW a0 Z) : (Jvm.Cond.methodLink "com/example/packwright/packwright/model/Node" (1 : Nat) ({ cls := "java/lang/Record", name := "<init>", desc := "()V" } : Jvm.MethodName)).before a0 Z = true := hw_at hw 91 rfl
theorem w92 (hw : HW a0 Z) : (Jvm.Cond.instanceMethod ({ cls := "java/lang/Record", name := "<init>", desc := "()V" } : Jvm.MethodName)).before a0 Z = true := hw_at hw 92 rfl
theorem w94 (hw : HW a0 Z) : (Jvm.Cond.initialized "java/lang/Record").before a0 Z = true := hw_at hw 94 rfl
theorem w95 (hw : HW a0 Z) : (Jvm.Cond.code ({ cls := "java/lang/Record", name := "<init>", desc := "()V" } : Jvm.MethodName) jdk_30_method_1_code (1 : Nat) (Option.none : Option Jvm.ClassFile.FieldType)).before a0 Z = true := hw_at hw 95 rfl
theorem w96 (hw : HW a0 Z) : (Jvm.Cond.methodLink "java/lang/Record" (1 : Nat) ({ cls := "java/lang/Object", name := "<init>", desc := "()V" } : Jvm.MethodName)).before a0 Z = true := hw_at hw 96 rfl
theorem w97 (hw : HW a0 Z) : (Jvm.Cond.methodLink "com/example/packwright/packwright/model/Node" (7 : Nat) ({ cls := "java/util/List", name := "copyOf", desc := "(Ljava/util/Collection;)Ljava/util/List;" } : Jvm.MethodName)).before a0 Z = true := hw_at hw 97 rfl
theorem w98 (hw : HW a0 Z) : (Jvm.Cond.static ({ cls := "java/util/List", name := "copyOf", desc := "(Ljava/util/Collection;)Ljava/util/List;" } : Jvm.MethodName)).before a0 Z = true := hw_at hw 98 rfl
theorem w99 (hw : HW a0 Z) : (Jvm.Cond.initialized "java/util/List").before a0 Z = true := hw_at hw 99 rfl
theorem w100 (hw : HW a0 Z) : (Jvm.Cond.code ({ cls := "java/util/List", name := "copyOf", desc := "(Ljava/util/Collection;)Ljava/util/List;" } : Jvm.MethodName) jdk_40_method_48_code (1 : Nat) (Option.some (Jvm.ClassFile.FieldType.object "java/util/List"))).before a0 Z = true := hw_at hw 100 rfl
theorem w101 (hw : HW a0 Z) : (Jvm.Cond.methodLink "java/util/List" (112 : Nat) ({ cls := "java/util/ImmutableCollections", name := "listCopy", desc := "(Ljava/util/Collection;)Ljava/util/List;" } : Jvm.MethodName)).before a0 Z = true := hw_at hw 101 rfl
theorem w102 (hw : HW a0 Z) : (Jvm.Cond.static ({ cls := "java/util/ImmutableCollections", name := "listCopy", desc := "(Ljava/util/Collection;)Ljava/util/List;" } : Jvm.MethodName)).before a0 Z = true := hw_at hw 102 rfl
theorem w103 (hw : HW a0 Z) : (Jvm.Cond.initialized "java/util/ImmutableCollections").before a0 Z = true := hw_at hw 103 rfl
theorem w104 (hw : HW a0 Z) : (Jvm.Cond.code ({ cls := "java/util/ImmutableCollections", name := "listCopy", desc := "(Ljava/util/Collection;)Ljava/util/List;" } : Jvm.MethodName) jdk_56_method_3_code (2 : Nat) (Option.some (Jvm.ClassFile.FieldType.object "java/util/List"))).before a0 Z = true := hw_at hw 104 rfl
theorem w105 (hw : HW a0 Z) : (Jvm.Cond.classLink "java/util/ImmutableCollections" (10 : Nat) "java/util/ImmutableCollections$List12").before a0 Z = true := hw_at hw 105 rfl
theorem w106 (hw : HW a0 Z) : (Jvm.Cond.superclass "java/util/ArrayList" "java/util/AbstractList").before a0 Z = true := hw_at hw 106 rfl
theorem w107 (hw : HW a0 Z) : (Jvm.Cond.superclass "java/util/AbstractList" "java/util/AbstractCollection").before a0 Z = true := hw_at hw 107 rfl
theorem w108 (hw : HW a0 Z) : (Jvm.Cond.superclass "java/util/AbstractCollection" "java/lang/Object").before a0 Z = true := hw_at hw 108 rfl
theorem w109 (hw : HW a0 Z) : (Jvm.Cond.noSuperclass "java/lang/Object").before a0 Z = true := hw_at hw 109 rfl
theorem w110 (hw : HW a0 Z) : (Jvm.Cond.classLink "java/util/ImmutableCollections" (12 : Nat) "java/util/ImmutableCollections$ListN").before a0 Z = true := hw_at hw 110 rfl
theorem w111 (hw : HW a0 Z) : (Jvm.Cond.methodLink "java/util/ImmutableCollections" (20 : Nat) ({ cls := "java/util/Collection", name := "isEmpty", desc := "()Z" } : Jvm.MethodName)).before a0 Z = true := hw_at hw 111 rfl
theorem w112 (hw : HW a0 Z) : (Jvm.Cond.declares ({ cls := "java/util/Collection", name := "isEmpty", desc := "()Z" } : Jvm.MethodName)).before a0 Z = true := hw_at hw 112 rfl
theorem w113 (hw : HW a0 Z) : (Jvm.Cond.interfaceMethod "java/util/Collection" "java/util/Collection" "isEmpty" "()Z").before a0 Z = true := hw_at hw 113 rfl
theorem w114 (hw : HW a0 Z) : (Jvm.Cond.selects "java/util/ArrayList" ({ cls := "java/util/Collection", name := "isEmpty", desc := "()Z" } : Jvm.MethodName) ({ cls := "java/util/ArrayList", name := "isEmpty", desc := "()Z" } : Jvm.MethodName)).before a0 Z = true := hw_at hw 114 rfl
theorem w115 (hw : HW a0 Z) : (Jvm.Cond.instanceMethod ({ cls := "java/util/ArrayList", name := "isEmpty", desc := "()Z" } : Jvm.MethodName)).before a0 Z = true := hw_at hw 115 rfl
theorem w116 (hw : HW a0 Z) : (Jvm.Cond.publicMethod ({ cls := "java/util/ArrayList", name := "isEmpty", desc := "()Z" } : Jvm.MethodName)).before a0 Z = true := hw_at hw 116 rfl
theorem w117 (hw : HW a0 Z) : (Jvm.Cond.unhidden "java/util/ArrayList" "isEmpty" "()Z").before a0 Z = true := hw_at hw 117 rfl
theorem w118 (hw : HW a0 Z) : (Jvm.Cond.castable "java/util/ArrayList" "java/util/Collection").before a0 Z = true := hw_at hw 118 rfl
theorem w119 (hw : HW a0 Z) : (Jvm.Cond.code ({ cls := "java/util/ArrayList", name := "isEmpty", desc := "()Z" } : Jvm.MethodName) jdk_38_method_9_code (1 : Nat) (Option.some Jvm.ClassFile.FieldType.boolean)).before a0 Z = true := hw_at hw 119 rfl
theorem w120 (hw : HW a0 Z) : (Jvm.Cond.fieldLink "java/util/ArrayList" (48 : Nat) "java/util/ArrayList" "size" "I").before a0 Z = true := hw_at hw 120 rfl
theorem w121 (hw : HW a0 Z) : (Jvm.Cond.lays "java/util/ArrayList" "java/util/ArrayList" "size" "I").before a0 Z = true := hw_at hw 121 rfl
theorem w122 (hw : HW a0 Z) : (Jvm.Cond.methodLink "java/util/ImmutableCollections" (26 : Nat) ({ cls := "java/util/List", name := "of", desc := "()Ljava/util/List;" } : Jvm.MethodName)).before a0 Z = true := hw_at hw 122 rfl
theorem w123 (hw : HW a0 Z) : (Jvm.Cond.static ({ cls := "java/util/List", name := "of", desc := "()Ljava/util/List;" } : Jvm.MethodName)).before a0 Z = true := hw_at hw 123 rfl
theorem w124 (hw : HW a0 Z) : (Jvm.Cond.code ({ cls := "java/util/List", name := "of", desc := "()Ljava/util/List;" } : Jvm.MethodName) jdk_40_method_36_code (0 : Nat) (Option.some (Jvm.ClassFile.FieldType.object "java/util/List"))).before a0 Z = true := hw_at hw 124 rfl
theorem w125 (hw : HW a0 Z) : (Jvm.Cond.fieldLink "java/util/List" (90 : Nat) "java/util/ImmutableCollections" "EMPTY_LIST" "Ljava/util/ImmutableCollections$ListN;").before a0 Z = true := hw_at hw 125 rfl
theorem w126 (hw : HW a0 Z) : (Jvm.Cond.fieldLink "com/example/packwright/packwright/model/Node" (13 : Nat) "com/example/packwright/packwright/model/Node" "subscriptLine" "Ljava/lang/String;").before a0 Z = true := hw_at hw 126 rfl
theorem w127 (hw : HW a0 Z) : (Jvm.Cond.laysFinal "com/example/packwright/packwright/model/Node" "com/example/packwright/packwright/model/Node" "subscriptLine" "Ljava/lang/String;").before a0 Z = true := hw_at hw 127 rfl
theorem w128 (hw : HW a0 Z) : (Jvm.Cond.fieldLink "com/example/packwright/packwright/model/Node" (19 : Nat) "com/example/packwright/packwright/model/Node" "subscripts" "Ljava/util/List;").before a0 Z = true := hw_at hw 128 rfl
theorem w129 (hw : HW a0 Z) : (Jvm.Cond.laysFinal "com/example/packwright/packwright/model/Node" "com/example/packwright/packwright/model/Node" "subscripts" "Ljava/util/List;").before a0 Z = true := hw_at hw 129 rfl
theorem w130 (hw : HW a0 Z) : (Jvm.Cond.fieldLink "com/example/packwright/packwright/model/Node" (23 : Nat) "com/example/packwright/packwright/model/Node" "value" "Ljava/lang/String;").before a0 Z = true := hw_at hw 130 rfl
theorem w131 (hw : HW a0 Z) : (Jvm.Cond.laysFinal "com/example/packwright/packwright/model/Node" "com/example/packwright/packwright/model/Node" "value" "Ljava/lang/String;").before a0 Z = true := hw_at hw 131 rfl
theorem w132 (hw : HW a0 Z) : (Jvm.Cond.methodLink "com/example/packwright/packwright/io/BuildAssemblerRoutineOfLinePinLaw" (53 : Nat) ({ cls := "com/example/packwright/packwright/io/BuildAssembler", name := "routineOfLine", desc := "(Lcom/example/packwright/packwright/model/Node;)Ljava/lang/String;" } : Jvm.MethodName)).before a0 Z = true := hw_at hw 132 rfl
theorem w133 (hw : HW a0 Z) : (Jvm.Cond.static ({ cls := "com/example/packwright/packwright/io/BuildAssembler", name := "routineOfLine", desc := "(Lcom/example/packwright/packwright/model/Node;)Ljava/lang/String;" } : Jvm.MethodName)).before a0 Z = true := hw_at hw 133 rfl
theorem w134 (hw : HW a0 Z) : (Jvm.Cond.initialized "com/example/packwright/packwright/io/BuildAssembler").before a0 Z = true := hw_at hw 134 rfl
theorem w135 (hw : HW a0 Z) : (Jvm.Cond.code ({ cls := "com/example/packwright/packwright/io/BuildAssembler", name := "routineOfLine", desc := "(Lcom/example/packwright/packwright/model/Node;)Ljava/lang/String;" } : Jvm.MethodName) prog_4_method_10_code (3 : Nat) (Option.some (Jvm.ClassFile.FieldType.object "java/lang/String"))).before a0 Z = true := hw_at hw 135 rfl
theorem w136 (hw : HW a0 Z) : (Jvm.Cond.methodLink "com/example/packwright/packwright/io/BuildAssembler" (69 : Nat) ({ cls := "com/example/packwright/packwright/model/Node", name := "subscripts", desc := "()Ljava/util/List;" } : Jvm.MethodName)).before a0 Z = true := hw_at hw 136 rfl
theorem w137 (hw : HW a0 Z) : (Jvm.Cond.declares ({ cls := "com/example/packwright/packwright/model/Node", name := "subscripts", desc := "()Ljava/util/List;" } : Jvm.MethodName)).before a0 Z = true := hw_at hw 137 rfl
theorem w138 (hw : HW a0 Z) : (Jvm.Cond.instanceMethod ({ cls := "com/example/packwright/packwright/model/Node", name := "subscripts", desc := "()Ljava/util/List;" } : Jvm.MethodName)).before a0 Z = true := hw_at hw 138 rfl
theorem w139 (hw : HW a0 Z) : (Jvm.Cond.selects "com/example/packwright/packwright/model/Node" ({ cls := "com/example/packwright/packwright/model/Node", name := "subscripts", desc := "()Ljava/util/List;" } : Jvm.MethodName) ({ cls := "com/example/packwright/packwright/model/Node", name := "subscripts", desc := "()Ljava/util/List;" } : Jvm.MethodName)).before a0 Z = true := hw_at hw 139 rfl
theorem w140 (hw : HW a0 Z) : (Jvm.Cond.code ({ cls := "com/example/packwright/packwright/model/Node", name := "subscripts", desc := "()Ljava/util/List;" } : Jvm.MethodName) prog_37_method_7_code (1 : Nat) (Option.some (Jvm.ClassFile.FieldType.object "java/util/List"))).before a0 Z = true := hw_at hw 140 rfl
theorem w141 (hw : HW a0 Z) : (Jvm.Cond.methodLink "com/example/packwright/packwright/io/BuildAssembler" (85 : Nat) ({ cls := "java/util/List", name := "size", desc := "()I" } : Jvm.MethodName)).before a0 Z = true := hw_at hw 141 rfl
theorem w142 (hw : HW a0 Z) : (Jvm.Cond.declares ({ cls := "java/util/List", name := "size", desc := "()I" } : Jvm.MethodName)).before a0 Z = true := hw_at hw 142 rfl
theorem w143 (hw : HW a0 Z) : (Jvm.Cond.interfaceMethod "java/util/List" "java/util/List" "size" "()I").before a0 Z = true := hw_at hw 143 rfl
theorem w144 (hw : HW a0 Z) : (Jvm.Cond.selects "java/util/ImmutableCollections$ListN" ({ cls := "java/util/List", name := "size", desc := "()I" } : Jvm.MethodName) ({ cls := "java/util/ImmutableCollections$ListN", name := "size", desc := "()I" } : Jvm.MethodName)).before a0 Z = true := hw_at hw 144 rfl
theorem w145 (hw : HW a0 Z) : (Jvm.Cond.instanceMethod ({ cls := "java/util/ImmutableCollections$ListN", name := "size", desc := "()I" } : Jvm.MethodName)).before a0 Z = true := hw_at hw 145 rfl
theorem w146 (hw : HW a0 Z) : (Jvm.Cond.publicMethod ({ cls := "java/util/ImmutableCollections$ListN", name := "size", desc := "()I" } : Jvm.MethodName)).before a0 Z = true := hw_at hw 146 rfl
theorem w147 (hw : HW a0 Z) : (Jvm.Cond.unhidden "java/util/ImmutableCollections$ListN" "size" "()I").before a0 Z = true := hw_at hw 147 rfl
theorem w148 (hw : HW a0 Z) : (Jvm.Cond.castable "java/util/ImmutableCollections$ListN" "java/util/List").before a0 Z = true := hw_at hw 148 rfl
theorem w149 (hw : HW a0 Z) : (Jvm.Cond.initialized "java/util/ImmutableCollections$ListN").before a0 Z = true := hw_at hw 149 rfl
theorem w150 (hw : HW a0 Z) : (Jvm.Cond.code ({ cls := "java/util/ImmutableCollections$ListN", name := "size", desc := "()I" } : Jvm.MethodName) jdk_45_method_3_code (1 : Nat) (Option.some Jvm.ClassFile.FieldType.int)).before a0 Z = true := hw_at hw 150 rfl
theorem w151 (hw : HW a0 Z) : (Jvm.Cond.fieldLink "java/util/ImmutableCollections$ListN" (7 : Nat) "java/util/ImmutableCollections$ListN" "elements" "[Ljava/lang/Object;").before a0 Z = true := hw_at hw 151 rfl
theorem w152 (hw : HW a0 Z) : (Jvm.Cond.laysFinal "java/util/ImmutableCollections$ListN" "java/util/ImmutableCollections$ListN" "elements" "[Ljava/lang/Object;").before a0 Z = true := hw_at hw 152 rfl
theorem w153 (hw : HW a0 Z) : (Jvm.Cond.stringLink "com/example/packwright/packwright/io/BuildAssemblerRoutineOfLinePinLaw" (19 : Nat) "0").before a0 Z = true := hw_at hw 153 rfl
theorem w154 (hw : HW a0 Z) : (Jvm.Cond.methodLink "com/example/packwright/packwright/io/BuildAssemblerRoutineOfLinePinLaw" (42 : Nat) ({ cls := "java/util/ArrayList", name := "add", desc := "(Ljava/lang/Object;)Z" } : Jvm.MethodName)).before a0 Z = true := hw_at hw 154 rfl
theorem w155 (hw : HW a0 Z) : (Jvm.Cond.declares ({ cls := "java/util/ArrayList", name := "add", desc := "(Ljava/lang/Object;)Z" } : Jvm.MethodName)).before a0 Z = true := hw_at hw 155 rfl
theorem w156 (hw : HW a0 Z) : (Jvm.Cond.instanceMethod ({ cls := "java/util/ArrayList", name := "add", desc := "(Ljava/lang/Object;)Z" } : Jvm.MethodName)).before a0 Z = true := hw_at hw 156 rfl
theorem w157 (hw : HW a0 Z) : (Jvm.Cond.selects "java/util/ArrayList" ({ cls := "java/util/ArrayList", name := "add", desc := "(Ljava/lang/Object;)Z" } : Jvm.MethodName) ({ cls := "java/util/ArrayList", name := "add", desc := "(Ljava/lang/Object;)Z" } : Jvm.MethodName)).before a0 Z = true := hw_at hw 157 rfl
theorem w158 (hw : HW a0 Z) : (Jvm.Cond.code ({ cls := "java/util/ArrayList", name := "add", desc := "(Ljava/lang/Object;)Z" } : Jvm.MethodName) jdk_38_method_25_code (2 : Nat) (Option.some Jvm.ClassFile.FieldType.boolean)).before a0 Z = true := hw_at hw 158 rfl
theorem w159 (hw : HW a0 Z) : (Jvm.Cond.fieldLink "java/util/ArrayList" (63 : Nat) "java/util/ArrayList" "modCount" "I").before a0 Z = true := hw_at hw 159 rfl
theorem w160 (hw : HW a0 Z) : (Jvm.Cond.sameField "java/util/ArrayList" "java/util/AbstractList" "modCount" "I").before a0 Z = true := hw_at hw 160 rfl
theorem w161 (hw : HW a0 Z) : (Jvm.Cond.methodLink "java/util/ArrayList" (131 : Nat) ({ cls := "java/util/ArrayList", name := "add", desc := "(Ljava/lang/Object;[Ljava/lang/Object;I)V" } : Jvm.MethodName)).before a0 Z = true := hw_at hw 161 rfl
theorem w162 (hw : HW a0 Z) : (Jvm.Cond.instanceMethod ({ cls := "java/util/ArrayList", name := "add", desc := "(Ljava/lang/Object;[Ljava/lang/Object;I)V" } : Jvm.MethodName)).before a0 Z = true := hw_at hw 162 rfl
theorem w163 (hw : HW a0 Z) : (Jvm.Cond.privateMethod ({ cls := "java/util/ArrayList", name := "add", desc := "(Ljava/lang/Object;[Ljava/lang/Object;I)V" } : Jvm.MethodName)).before a0 Z = true := hw_at hw 163 rfl
theorem w164 (hw : HW a0 Z) : (Jvm.Cond.selects "java/util/ArrayList" ({ cls := "java/util/ArrayList", name := "add", desc := "(Ljava/lang/Object;[Ljava/lang/Object;I)V" } : Jvm.MethodName) ({ cls := "java/util/ArrayList", name := "add", desc := "(Ljava/lang/Object;[Ljava/lang/Object;I)V" } : Jvm.MethodName)).before a0 Z = true := hw_at hw 164 rfl
theorem w165 (hw : HW a0 Z) : (Jvm.Cond.code ({ cls := "java/util/ArrayList", name := "add", desc := "(Ljava/lang/Object;[Ljava/lang/Object;I)V" } : Jvm.MethodName) jdk_38_method_24_code (4 : Nat) (Option.none : Option Jvm.ClassFile.FieldType)).before a0 Z = true := hw_at hw 165 rfl
theorem w166 (hw : HW a0 Z) : (Jvm.Cond.methodLink "java/util/ArrayList" (129 : Nat) ({ cls := "java/util/ArrayList", name := "grow", desc := "()[Ljava/lang/Object;" } : Jvm.MethodName)).before a0 Z = true := hw_at hw 166 rfl
theorem w167 (hw : HW a0 Z) : (Jvm.Cond.instanceMethod ({ cls := "java/util/ArrayList", name := "grow", desc := "()[Ljava/lang/Object;" } : Jvm.MethodName)).before a0 Z = true := hw_at hw 167 rfl
theorem w168 (hw : HW a0 Z) : (Jvm.Cond.privateMethod ({ cls := "java/util/ArrayList", name := "grow", desc := "()[Ljava/lang/Object;" } : Jvm.MethodName)).before a0 Z = true := hw_at hw 168 rfl
theorem w169 (hw : HW a0 Z) : (Jvm.Cond.selects "java/util/ArrayList" ({ cls := "java/util/ArrayList", name := "grow", desc := "()[Ljava/lang/Object;" } : Jvm.MethodName) ({ cls := "java/util/ArrayList", name := "grow", desc := "()[Ljava/lang/Object;" } : Jvm.MethodName)).before a0 Z = true := hw_at hw 169 rfl
theorem w170 (hw : HW a0 Z) : (Jvm.Cond.code ({ cls := "java/util/ArrayList", name := "grow", desc := "()[Ljava/lang/Object;" } : Jvm.MethodName) jdk_38_method_7_code (1 : Nat) (Option.some (Jvm.ClassFile.FieldType.array (Jvm.ClassFile.FieldType.object "java/lang/Object")))).before a0 Z = true := hw_at hw 170 rfl
theorem w171 (hw : HW a0 Z) : (Jvm.Cond.methodLink "java/util/ArrayList" (69 : Nat) ({ cls := "java/util/ArrayList", name := "grow", desc := "(I)[Ljava/lang/Object;" } : Jvm.MethodName)).before a0 Z = true := hw_at hw 171 rfl
theorem w172 (hw : HW a0 Z) : (Jvm.Cond.instanceMethod ({ cls := "java/util/ArrayList", name := "grow", desc := "(I)[Ljava/lang/Object;" } : Jvm.MethodName)).before a0 Z = true := hw_at hw 172 rfl
theorem w173 (hw : HW a0 Z) : (Jvm.Cond.privateMethod ({ cls := "java/util/ArrayList", name := "grow", desc := "(I)[Ljava/lang/Object;" } : Jvm.MethodName)).before a0 Z = true := hw_at hw 173 rfl
theorem w174 (hw : HW a0 Z) : (Jvm.Cond.selects "java/util/ArrayList" ({ cls := "java/util/ArrayList", name := "grow", desc := "(I)[Ljava/lang/Object;" } : Jvm.MethodName) ({ cls := "java/util/ArrayList", name := "grow", desc := "(I)[Ljava/lang/Object;" } : Jvm.MethodName)).before a0 Z = true := hw_at hw 174 rfl
theorem w175 (hw : HW a0 Z) : (Jvm.Cond.code ({ cls := "java/util/ArrayList", name := "grow", desc := "(I)[Ljava/lang/Object;" } : Jvm.MethodName) jdk_38_method_6_code (4 : Nat) (Option.some (Jvm.ClassFile.FieldType.array (Jvm.ClassFile.FieldType.object "java/lang/Object")))).before a0 Z = true := hw_at hw 175 rfl
theorem w176 (hw : HW a0 Z) : (Jvm.Cond.methodLink "java/util/ArrayList" (79 : Nat) ({ cls := "java/lang/Math", name := "max", desc := "(II)I" } : Jvm.MethodName)).before a0 Z = true := hw_at hw 176 rfl
theorem w177 (hw : HW a0 Z) : (Jvm.Cond.static ({ cls := "java/lang/Math", name := "max", desc := "(II)I" } : Jvm.MethodName)).before a0 Z = true := hw_at hw 177 rfl
theorem w178 (hw : HW a0 Z) : (Jvm.Cond.initialized "java/lang/Math").before a0 Z = true := hw_at hw 178 rfl
theorem w179 (hw : HW a0 Z) : (Jvm.Cond.code ({ cls := "java/lang/Math", name := "max", desc := "(II)I" } : Jvm.MethodName) jdk_29_method_65_code (2 : Nat) (Option.some Jvm.ClassFile.FieldType.int)).before a0 Z = true := hw_at hw 179 rfl
theorem w180 (hw : HW a0 Z) : (Jvm.Cond.classLink "java/util/ArrayList" (7 : Nat) "java/lang/Object").before a0 Z = true := hw_at hw 180 rfl
theorem w181 (hw : HW a0 Z) : (Jvm.Cond.arrayOver (Jvm.ClassFile.FieldType.object "java/lang/Object")).before a0 Z = true := hw_at hw 181 rfl
theorem w182 (hw : HW a0 Z) : (Jvm.Cond.castable "java/lang/String" "java/lang/Object").before a0 Z = true := hw_at hw 182 rfl
theorem w183 (hw : HW a0 Z) : (Jvm.Cond.methodLink "java/util/ImmutableCollections" (30 : Nat) ({ cls := "java/util/Collection", name := "toArray", desc := "()[Ljava/lang/Object;" } : Jvm.MethodName)).before a0 Z = true := hw_at hw 183 rfl
theorem w184 (hw : HW a0 Z) : (Jvm.Cond.declares ({ cls := "java/util/Collection", name := "toArray", desc := "()[Ljava/lang/Object;" } : Jvm.MethodName)).before a0 Z = true := hw_at hw 184 rfl
theorem w185 (hw : HW a0 Z) : (Jvm.Cond.interfaceMethod "java/util/Collection" "java/util/Collection" "toArray" "()[Ljava/lang/Object;").before a0 Z = true := hw_at hw 185 rfl
theorem w186 (hw : HW a0 Z) : (Jvm.Cond.selects "java/util/ArrayList" ({ cls := "java/util/Collection", name := "toArray", desc := "()[Ljava/lang/Object;" } : Jvm.MethodName) ({ cls := "java/util/ArrayList", name := "toArray", desc := "()[Ljava/lang/Object;" } : Jvm.MethodName)).before a0 Z = true := hw_at hw 186 rfl
theorem w187 (hw : HW a0 Z) : (Jvm.Cond.instanceMethod ({ cls := "java/util/ArrayList", name := "toArray", desc := "()[Ljava/lang/Object;" } : Jvm.MethodName)).before a0 Z = true := hw_at hw 187 rfl
theorem w188 (hw : HW a0 Z) : (Jvm.Cond.publicMethod ({ cls := "java/util/ArrayList", name := "toArray", desc := "()[Ljava/lang/Object;" } : Jvm.MethodName)).before a0 Z = true := hw_at hw 188 rfl
theorem w189 (hw : HW a0 Z) : (Jvm.Cond.unhidden "java/util/ArrayList" "toArray" "()[Ljava/lang/Object;").before a0 Z = true := hw_at hw 189 rfl
theorem w190 (hw : HW a0 Z) : (Jvm.Cond.code ({ cls := "java/util/ArrayList", name := "toArray", desc := "()[Ljava/lang/Object;" } : Jvm.MethodName) jdk_38_method_16_code (1 : Nat) (Option.some (Jvm.ClassFile.FieldType.array (Jvm.ClassFile.FieldType.object "java/lang/Object")))).before a0 Z = true := hw_at hw 190 rfl
theorem w191 (hw : HW a0 Z) : (Jvm.Cond.methodLink "java/util/ArrayList" (66 : Nat) ({ cls := "java/util/Arrays", name := "copyOf", desc := "([Ljava/lang/Object;I)[Ljava/lang/Object;" } : Jvm.MethodName)).before a0 Z = true := hw_at hw 191 rfl
theorem w192 (hw : HW a0 Z) : (Jvm.Cond.static ({ cls := "java/util/Arrays", name := "copyOf", desc := "([Ljava/lang/Object;I)[Ljava/lang/Object;" } : Jvm.MethodName)).before a0 Z = true := hw_at hw 192 rfl
theorem w193 (hw : HW a0 Z) : (Jvm.Cond.initialized "java/util/Arrays").before a0 Z = true := hw_at hw 193 rfl
theorem w194 (hw : HW a0 Z) : (Jvm.Cond.code ({ cls := "java/util/Arrays", name := "copyOf", desc := "([Ljava/lang/Object;I)[Ljava/lang/Object;" } : Jvm.MethodName) jdk_65_method_119_code (2 : Nat) (Option.some (Jvm.ClassFile.FieldType.array (Jvm.ClassFile.FieldType.object "java/lang/Object")))).before a0 Z = true := hw_at hw 194 rfl
theorem w195 (hw : HW a0 Z) : (Jvm.Cond.methodLink "java/util/Arrays" (86 : Nat) ({ cls := "java/lang/Object", name := "getClass", desc := "()Ljava/lang/Class;" } : Jvm.MethodName)).before a0 Z = true := hw_at hw 195 rfl
theorem w196 (hw : HW a0 Z) : (Jvm.Cond.declares ({ cls := "java/lang/Object", name := "getClass", desc := "()Ljava/lang/Class;" } : Jvm.MethodName)).before a0 Z = true := hw_at hw 196 rfl
theorem w197 (hw : HW a0 Z) : (Jvm.Cond.instanceMethod ({ cls := "java/lang/Object", name := "getClass", desc := "()Ljava/lang/Class;" } : Jvm.MethodName)).before a0 Z = true := hw_at hw 197 rfl
theorem w198 (hw : HW a0 Z) : (Jvm.Cond.selects "[Ljava/lang/Object;" ({ cls := "java/lang/Object", name := "getClass", desc := "()Ljava/lang/Class;" } : Jvm.MethodName) ({ cls := "java/lang/Object", name := "getClass", desc := "()Ljava/lang/Class;" } : Jvm.MethodName)).before a0 Z = true := hw_at hw 198 rfl
theorem w199 (hw : HW a0 Z) : (Jvm.Cond.native ({ cls := "java/lang/Object", name := "getClass", desc := "()Ljava/lang/Class;" } : Jvm.MethodName)).before a0 Z = true := hw_at hw 199 rfl
theorem w201 (hw : HW a0 Z) : (Jvm.Cond.methodLink "java/util/Arrays" (300 : Nat) ({ cls := "java/util/Arrays", name := "copyOf", desc := "([Ljava/lang/Object;ILjava/lang/Class;)[Ljava/lang/Object;" } : Jvm.MethodName)).before a0 Z = true := hw_at hw 201 rfl
theorem w202 (hw : HW a0 Z) : (Jvm.Cond.static ({ cls := "java/util/Arrays", name := "copyOf", desc := "([Ljava/lang/Object;ILjava/lang/Class;)[Ljava/lang/Object;" } : Jvm.MethodName)).before a0 Z = true := hw_at hw 202 rfl
theorem w203 (hw : HW a0 Z) : (Jvm.Cond.code ({ cls := "java/util/Arrays", name := "copyOf", desc := "([Ljava/lang/Object;ILjava/lang/Class;)[Ljava/lang/Object;" } : Jvm.MethodName) jdk_65_method_120_code (4 : Nat) (Option.some (Jvm.ClassFile.FieldType.array (Jvm.ClassFile.FieldType.object "java/lang/Object")))).before a0 Z = true := hw_at hw 203 rfl
theorem w204 (hw : HW a0 Z) : (Jvm.Cond.classLink "java/util/Arrays" (110 : Nat) "[Ljava/lang/Object;").before a0 Z = true := hw_at hw 204 rfl
theorem w205 (hw : HW a0 Z) : (Jvm.Cond.classLink "java/util/Arrays" (2 : Nat) "java/lang/Object").before a0 Z = true := hw_at hw 205 rfl
theorem w206 (hw : HW a0 Z) : (Jvm.Cond.methodLink "java/util/Arrays" (304 : Nat) ({ cls := "java/lang/Math", name := "min", desc := "(II)I" } : Jvm.MethodName)).before a0 Z = true := hw_at hw 206 rfl
theorem w207 (hw : HW a0 Z) : (Jvm.Cond.static ({ cls := "java/lang/Math", name := "min", desc := "(II)I" } : Jvm.MethodName)).before a0 Z = true := hw_at hw 207 rfl
theorem w208 (hw : HW a0 Z) : (Jvm.Cond.code ({ cls := "java/lang/Math", name := "min", desc := "(II)I" } : Jvm.MethodName) jdk_29_method_69_code (2 : Nat) (Option.some Jvm.ClassFile.FieldType.int)).before a0 Z = true := hw_at hw 208 rfl
theorem w209 (hw : HW a0 Z) : (Jvm.Cond.methodLink "java/util/Arrays" (150 : Nat) ({ cls := "java/lang/System", name := "arraycopy", desc := "(Ljava/lang/Object;ILjava/lang/Object;II)V" } : Jvm.MethodName)).before a0 Z = true := hw_at hw 209 rfl
theorem w210 (hw : HW a0 Z) : (Jvm.Cond.static ({ cls := "java/lang/System", name := "arraycopy", desc := "(Ljava/lang/Object;ILjava/lang/Object;II)V" } : Jvm.MethodName)).before a0 Z = true := hw_at hw 210 rfl
theorem w211 (hw : HW a0 Z) : (Jvm.Cond.initialized "java/lang/System").before a0 Z = true := hw_at hw 211 rfl
theorem w212 (hw : HW a0 Z) : (Jvm.Cond.native ({ cls := "java/lang/System", name := "arraycopy", desc := "(Ljava/lang/Object;ILjava/lang/Object;II)V" } : Jvm.MethodName)).before a0 Z = true := hw_at hw 212 rfl
theorem w213 (hw : HW a0 Z) : (Jvm.Cond.methodLink "java/util/ImmutableCollections" (34 : Nat) ({ cls := "java/util/List", name := "of", desc := "([Ljava/lang/Object;)Ljava/util/List;" } : Jvm.MethodName)).before a0 Z = true := hw_at hw 213 rfl
theorem w214 (hw : HW a0 Z) : (Jvm.Cond.static ({ cls := "java/util/List", name := "of", desc := "([Ljava/lang/Object;)Ljava/util/List;" } : Jvm.MethodName)).before a0 Z = true := hw_at hw 214 rfl
theorem w215 (hw : HW a0 Z) : (Jvm.Cond.code ({ cls := "java/util/List", name := "of", desc := "([Ljava/lang/Object;)Ljava/util/List;" } : Jvm.MethodName) jdk_40_method_47_code (2 : Nat) (Option.some (Jvm.ClassFile.FieldType.object "java/util/List"))).before a0 Z = true := hw_at hw 215 rfl
theorem w216 (hw : HW a0 Z) : (Jvm.Cond.methodLink "java/util/List" (109 : Nat) ({ cls := "java/util/ImmutableCollections", name := "listFromArray", desc := "([Ljava/lang/Object;)Ljava/util/List;" } : Jvm.MethodName)).before a0 Z = true := hw_at hw 216 rfl
theorem w217 (hw : HW a0 Z) : (Jvm.Cond.static ({ cls := "java/util/ImmutableCollections", name := "listFromArray", desc := "([Ljava/lang/Object;)Ljava/util/List;" } : Jvm.MethodName)).before a0 Z = true := hw_at hw 217 rfl
theorem w218 (hw : HW a0 Z) : (Jvm.Cond.code ({ cls := "java/util/ImmutableCollections", name := "listFromArray", desc := "([Ljava/lang/Object;)Ljava/util/List;" } : Jvm.MethodName) jdk_56_method_4_code (3 : Nat) (Option.some (Jvm.ClassFile.FieldType.object "java/util/List"))).before a0 Z = true := hw_at hw 218 rfl
theorem w219 (hw : HW a0 Z) : (Jvm.Cond.classLink "java/util/ImmutableCollections" (2 : Nat) "java/lang/Object").before a0 Z = true := hw_at hw 219 rfl
theorem w220 (hw : HW a0 Z) : (Jvm.Cond.methodLink "java/util/ImmutableCollections" (37 : Nat) ({ cls := "java/util/Objects", name := "requireNonNull", desc := "(Ljava/lang/Object;)Ljava/lang/Object;" } : Jvm.MethodName)).before a0 Z = true := hw_at hw 220 rfl
theorem w221 (hw : HW a0 Z) : (Jvm.Cond.static ({ cls := "java/util/Objects", name := "requireNonNull", desc := "(Ljava/lang/Object;)Ljava/lang/Object;" } : Jvm.MethodName)).before a0 Z = true := hw_at hw 221 rfl
theorem w222 (hw : HW a0 Z) : (Jvm.Cond.initialized "java/util/Objects").before a0 Z = true := hw_at hw 222 rfl
theorem w223 (hw : HW a0 Z) : (Jvm.Cond.code ({ cls := "java/util/Objects", name := "requireNonNull", desc := "(Ljava/lang/Object;)Ljava/lang/Object;" } : Jvm.MethodName) jdk_31_method_10_code (1 : Nat) (Option.some (Jvm.ClassFile.FieldType.object "java/lang/Object"))).before a0 Z = true := hw_at hw 223 rfl
theorem w224 (hw : HW a0 Z) : (Jvm.Cond.instantiable "java/util/ImmutableCollections$ListN" (2 : Nat)).before a0 Z = true := hw_at hw 224 rfl
theorem w225 (hw : HW a0 Z) : (Jvm.Cond.methodLinkNest "java/util/ImmutableCollections" (43 : Nat) ({ cls := "java/util/ImmutableCollections$ListN", name := "<init>", desc := "([Ljava/lang/Object;Z)V" } : Jvm.MethodName) "java/util/ImmutableCollections").before a0 Z = true := hw_at hw 225 rfl
theorem w226 (hw : HW a0 Z) : (Jvm.Cond.instanceMethod ({ cls := "java/util/ImmutableCollections$ListN", name := "<init>", desc := "([Ljava/lang/Object;Z)V" } : Jvm.MethodName)).before a0 Z = true := hw_at hw 226 rfl
theorem w228 (hw : HW a0 Z) : (Jvm.Cond.code ({ cls := "java/util/ImmutableCollections$ListN", name := "<init>", desc := "([Ljava/lang/Object;Z)V" } : Jvm.MethodName) jdk_45_method_1_code (3 : Nat) (Option.none : Option Jvm.ClassFile.FieldType)).before a0 Z = true := hw_at hw 228 rfl
theorem w229 (hw : HW a0 Z) : (Jvm.Cond.methodLink "java/util/ImmutableCollections$ListN" (1 : Nat) ({ cls := "java/util/ImmutableCollections$AbstractImmutableList", name := "<init>", desc := "()V" } : Jvm.MethodName)).before a0 Z = true := hw_at hw 229 rfl
theorem w230 (hw : HW a0 Z) : (Jvm.Cond.instanceMethod ({ cls := "java/util/ImmutableCollections$AbstractImmutableList", name := "<init>", desc := "()V" } : Jvm.MethodName)).before a0 Z = true := hw_at hw 230 rfl
theorem w233 (hw : HW a0 Z) : (Jvm.Cond.initialized "java/util/ImmutableCollections$AbstractImmutableList").before a0 Z = true := hw_at hw 233 rfl
theorem w234 (hw : HW a0 Z) : (Jvm.Cond.code ({ cls := "java/util/ImmutableCollections$AbstractImmutableList", name := "<init>", desc := "()V" } : Jvm.MethodName) jdk_46_method_1_code (1 : Nat) (Option.none : Option Jvm.ClassFile.FieldType)).before a0 Z = true := hw_at hw 234 rfl
theorem w235 (hw : HW a0 Z) : (Jvm.Cond.methodLink "java/util/ImmutableCollections$AbstractImmutableList" (1 : Nat) ({ cls := "java/util/ImmutableCollections$AbstractImmutableCollection", name := "<init>", desc := "()V" } : Jvm.MethodName)).before a0 Z = true := hw_at hw 235 rfl
theorem w236 (hw : HW a0 Z) : (Jvm.Cond.instanceMethod ({ cls := "java/util/ImmutableCollections$AbstractImmutableCollection", name := "<init>", desc := "()V" } : Jvm.MethodName)).before a0 Z = true := hw_at hw 236 rfl
theorem w239 (hw : HW a0 Z) : (Jvm.Cond.initialized "java/util/ImmutableCollections$AbstractImmutableCollection").before a0 Z = true := hw_at hw 239 rfl
theorem w240 (hw : HW a0 Z) : (Jvm.Cond.code ({ cls := "java/util/ImmutableCollections$AbstractImmutableCollection", name := "<init>", desc := "()V" } : Jvm.MethodName) jdk_47_method_1_code (1 : Nat) (Option.none : Option Jvm.ClassFile.FieldType)).before a0 Z = true := hw_at hw 240 rfl
theorem w241 (hw : HW a0 Z) : (Jvm.Cond.methodLink "java/util/ImmutableCollections$AbstractImmutableCollection" (1 : Nat) ({ cls := "java/util/AbstractCollection", name := "<init>", desc := "()V" } : Jvm.MethodName)).before a0 Z = true := hw_at hw 241 rfl
theorem w243 (hw : HW a0 Z) : (Jvm.Cond.fieldLink "java/util/ImmutableCollections$ListN" (13 : Nat) "java/util/ImmutableCollections$ListN" "allowNulls" "Z").before a0 Z = true := hw_at hw 243 rfl
theorem w244 (hw : HW a0 Z) : (Jvm.Cond.laysFinal "java/util/ImmutableCollections$ListN" "java/util/ImmutableCollections$ListN" "allowNulls" "Z").before a0 Z = true := hw_at hw 244 rfl
theorem w245 (hw : HW a0 Z) : (Jvm.Cond.stringLink "com/example/packwright/packwright/io/BuildAssemblerRoutineOfLinePinLaw" (17 : Nat) "RTN").before a0 Z = true := hw_at hw 245 rfl
theorem w246 (hw : HW a0 Z) : (Jvm.Cond.classLink "java/util/List" (96 : Nat) "java/util/ImmutableCollections$List12").before a0 Z = true := hw_at hw 246 rfl
theorem w247 (hw : HW a0 Z) : (Jvm.Cond.instantiable "java/util/ImmutableCollections$List12" (2 : Nat)).before a0 Z = true := hw_at hw 247 rfl
theorem w248 (hw : HW a0 Z) : (Jvm.Cond.initialized "java/util/ImmutableCollections$List12").before a0 Z = true := hw_at hw 248 rfl
theorem w249 (hw : HW a0 Z) : (Jvm.Cond.methodLink "java/util/List" (100 : Nat) ({ cls := "java/util/ImmutableCollections$List12", name := "<init>", desc := "(Ljava/lang/Object;Ljava/lang/Object;)V" } : Jvm.MethodName)).before a0 Z = true := hw_at hw 249 rfl
theorem w250 (hw : HW a0 Z) : (Jvm.Cond.instanceMethod ({ cls := "java/util/ImmutableCollections$List12", name := "<init>", desc := "(Ljava/lang/Object;Ljava/lang/Object;)V" } : Jvm.MethodName)).before a0 Z = true := hw_at hw 250 rfl
theorem w252 (hw : HW a0 Z) : (Jvm.Cond.code ({ cls := "java/util/ImmutableCollections$List12", name := "<init>", desc := "(Ljava/lang/Object;Ljava/lang/Object;)V" } : Jvm.MethodName) jdk_44_method_2_code (3 : Nat) (Option.none : Option Jvm.ClassFile.FieldType)).before a0 Z = true := hw_at hw 252 rfl
theorem w253 (hw : HW a0 Z) : (Jvm.Cond.methodLink "java/util/ImmutableCollections$List12" (1 : Nat) ({ cls := "java/util/ImmutableCollections$AbstractImmutableList", name := "<init>", desc := "()V" } : Jvm.MethodName)).before a0 Z = true := hw_at hw 253 rfl
theorem w257 (hw : HW a0 Z) : (Jvm.Cond.methodLink "java/util/ImmutableCollections$List12" (7 : Nat) ({ cls := "java/util/Objects", name := "requireNonNull", desc := "(Ljava/lang/Object;)Ljava/lang/Object;" } : Jvm.MethodName)).before a0 Z = true := hw_at hw 257 rfl
theorem w258 (hw : HW a0 Z) : (Jvm.Cond.fieldLink "java/util/ImmutableCollections$List12" (13 : Nat) "java/util/ImmutableCollections$List12" "e0" "Ljava/lang/Object;").before a0 Z = true := hw_at hw 258 rfl
theorem w259 (hw : HW a0 Z) : (Jvm.Cond.laysFinal "java/util/ImmutableCollections$List12" "java/util/ImmutableCollections$List12" "e0" "Ljava/lang/Object;").before a0 Z = true := hw_at hw 259 rfl
theorem w260 (hw : HW a0 Z) : (Jvm.Cond.fieldLink "java/util/ImmutableCollections$List12" (24 : Nat) "java/util/ImmutableCollections$List12" "e1" "Ljava/lang/Object;").before a0 Z = true := hw_at hw 260 rfl
theorem w261 (hw : HW a0 Z) : (Jvm.Cond.laysFinal "java/util/ImmutableCollections$List12" "java/util/ImmutableCollections$List12" "e1" "Ljava/lang/Object;").before a0 Z = true := hw_at hw 261 rfl
theorem w262 (hw : HW a0 Z) : (Jvm.Cond.selects "java/util/ImmutableCollections$List12" ({ cls := "java/util/List", name := "size", desc := "()I" } : Jvm.MethodName) ({ cls := "java/util/ImmutableCollections$List12", name := "size", desc := "()I" } : Jvm.MethodName)).before a0 Z = true := hw_at hw 262 rfl
theorem w263 (hw : HW a0 Z) : (Jvm.Cond.instanceMethod ({ cls := "java/util/ImmutableCollections$List12", name := "size", desc := "()I" } : Jvm.MethodName)).before a0 Z = true := hw_at hw 263 rfl
theorem w264 (hw : HW a0 Z) : (Jvm.Cond.publicMethod ({ cls := "java/util/ImmutableCollections$List12", name := "size", desc := "()I" } : Jvm.MethodName)).before a0 Z = true := hw_at hw 264 rfl
theorem w265 (hw : HW a0 Z) : (Jvm.Cond.unhidden "java/util/ImmutableCollections$List12" "size" "()I").before a0 Z = true := hw_at hw 265 rfl
theorem w266 (hw : HW a0 Z) : (Jvm.Cond.castable "java/util/ImmutableCollections$List12" "java/util/List").before a0 Z = true := hw_at hw 266 rfl
theorem w267 (hw : HW a0 Z) : (Jvm.Cond.code ({ cls := "java/util/ImmutableCollections$List12", name := "size", desc := "()I" } : Jvm.MethodName) jdk_44_method_3_code (1 : Nat) (Option.some Jvm.ClassFile.FieldType.int)).before a0 Z = true := hw_at hw 267 rfl
theorem w268 (hw : HW a0 Z) : (Jvm.Cond.fieldLinkNest "java/util/ImmutableCollections$List12" (19 : Nat) "java/util/ImmutableCollections" "EMPTY" "Ljava/lang/Object;" "java/util/ImmutableCollections").before a0 Z = true := hw_at hw 268 rfl
theorem w269 (hw : HW a0 Z) : (Jvm.Cond.methodLink "java/util/List" (98 : Nat) ({ cls := "java/util/ImmutableCollections$List12", name := "<init>", desc := "(Ljava/lang/Object;)V" } : Jvm.MethodName)).before a0 Z = true := hw_at hw 269 rfl
theorem w270 (hw : HW a0 Z) : (Jvm.Cond.instanceMethod ({ cls := "java/util/ImmutableCollections$List12", name := "<init>", desc := "(Ljava/lang/Object;)V" } : Jvm.MethodName)).before a0 Z = true := hw_at hw 270 rfl
theorem w271 (hw : HW a0 Z) : (Jvm.Cond.code ({ cls := "java/util/ImmutableCollections$List12", name := "<init>", desc := "(Ljava/lang/Object;)V" } : Jvm.MethodName) jdk_44_method_1_code (2 : Nat) (Option.none : Option Jvm.ClassFile.FieldType)).before a0 Z = true := hw_at hw 271 rfl
theorem w272 (hw : HW a0 Z) : (Jvm.Cond.methodLink "com/example/packwright/packwright/io/BuildAssembler" (79 : Nat) ({ cls := "java/util/List", name := "get", desc := "(I)Ljava/lang/Object;" } : Jvm.MethodName)).before a0 Z = true := hw_at hw 272 rfl
theorem w273 (hw : HW a0 Z) : (Jvm.Cond.declares ({ cls := "java/util/List", name := "get", desc := "(I)Ljava/lang/Object;" } : Jvm.MethodName)).before a0 Z = true := hw_at hw 273 rfl
theorem w274 (hw : HW a0 Z) : (Jvm.Cond.interfaceMethod "java/util/List" "java/util/List" "get" "(I)Ljava/lang/Object;").before a0 Z = true := hw_at hw 274 rfl
theorem w275 (hw : HW a0 Z) : (Jvm.Cond.selects "java/util/ImmutableCollections$ListN" ({ cls := "java/util/List", name := "get", desc := "(I)Ljava/lang/Object;" } : Jvm.MethodName) ({ cls := "java/util/ImmutableCollections$ListN", name := "get", desc := "(I)Ljava/lang/Object;" } : Jvm.MethodName)).before a0 Z = true := hw_at hw 275 rfl
theorem w276 (hw : HW a0 Z) : (Jvm.Cond.instanceMethod ({ cls := "java/util/ImmutableCollections$ListN", name := "get", desc := "(I)Ljava/lang/Object;" } : Jvm.MethodName)).before a0 Z = true := hw_at hw 276 rfl
theorem w277 (hw : HW a0 Z) : (Jvm.Cond.publicMethod ({ cls := "java/util/ImmutableCollections$ListN", name := "get", desc := "(I)Ljava/lang/Object;" } : Jvm.MethodName)).before a0 Z = true := hw_at hw 277 rfl
theorem w278 (hw : HW a0 Z) : (Jvm.Cond.unhidden "java/util/ImmutableCollections$ListN" "get" "(I)Ljava/lang/Object;").before a0 Z = true := hw_at hw 278 rfl
theorem w279 (hw : HW a0 Z) : (Jvm.Cond.code ({ cls := "java/util/ImmutableCollections$ListN", name := "get", desc := "(I)Ljava/lang/Object;" } : Jvm.MethodName) jdk_45_method_4_code (2 : Nat) (Option.some (Jvm.ClassFile.FieldType.object "java/lang/Object"))).before a0 Z = true := hw_at hw 279 rfl
theorem w280 (hw : HW a0 Z) : (Jvm.Cond.classLink "com/example/packwright/packwright/io/BuildAssembler" (83 : Nat) "java/lang/String").before a0 Z = true := hw_at hw 280 rfl
theorem w281 (hw : HW a0 Z) : (Jvm.Cond.stringLink "com/example/packwright/packwright/io/BuildAssembler" (159 : Nat) "RTN").before a0 Z = true := hw_at hw 281 rfl
theorem w282 (hw : HW a0 Z) : (Jvm.Cond.methodLink "com/example/packwright/packwright/io/BuildAssembler" (91 : Nat) ({ cls := "java/lang/String", name := "equals", desc := "(Ljava/lang/Object;)Z" } : Jvm.MethodName)).before a0 Z = true := hw_at hw 282 rfl
theorem w283 (hw : HW a0 Z) : (Jvm.Cond.declares ({ cls := "java/lang/String", name := "equals", desc := "(Ljava/lang/Object;)Z" } : Jvm.MethodName)).before a0 Z = true := hw_at hw 283 rfl
theorem w284 (hw : HW a0 Z) : (Jvm.Cond.instanceMethod ({ cls := "java/lang/String", name := "equals", desc := "(Ljava/lang/Object;)Z" } : Jvm.MethodName)).before a0 Z = true := hw_at hw 284 rfl
theorem w285 (hw : HW a0 Z) : (Jvm.Cond.selects "java/lang/String" ({ cls := "java/lang/String", name := "equals", desc := "(Ljava/lang/Object;)Z" } : Jvm.MethodName) ({ cls := "java/lang/String", name := "equals", desc := "(Ljava/lang/Object;)Z" } : Jvm.MethodName)).before a0 Z = true := hw_at hw 285 rfl
theorem w290 (hw : HW a0 Z) : (Jvm.Cond.methodLink "com/example/packwright/packwright/io/BuildAssemblerRoutineOfLinePinLaw" (59 : Nat) ({ cls := "com/example/packwright/packwright/io/BuildAssemblerRoutineOfLinePinLaw", name := "isRtn", desc := "(J)Z" } : Jvm.MethodName)).before a0 Z = true := hw_at hw 290 rfl
theorem w291 (hw : HW a0 Z) : (Jvm.Cond.static ({ cls := "com/example/packwright/packwright/io/BuildAssemblerRoutineOfLinePinLaw", name := "isRtn", desc := "(J)Z" } : Jvm.MethodName)).before a0 Z = true := hw_at hw 291 rfl
theorem w292 (hw : HW a0 Z) : (Jvm.Cond.code ({ cls := "com/example/packwright/packwright/io/BuildAssemblerRoutineOfLinePinLaw", name := "isRtn", desc := "(J)Z" } : Jvm.MethodName) method_5_code (3 : Nat) (Option.some Jvm.ClassFile.FieldType.boolean)).before a0 Z = true := hw_at hw 292 rfl
theorem w293 (hw : HW a0 Z) : (Jvm.Cond.stringLink "com/example/packwright/packwright/io/BuildAssembler" (94 : Nat) "0").before a0 Z = true := hw_at hw 293 rfl
theorem w294 (hw : HW a0 Z) : (Jvm.Cond.methodLink "com/example/packwright/packwright/io/BuildAssemblerRoutineOfLinePinLaw" (63 : Nat) ({ cls := "com/example/packwright/packwright/io/BuildAssemblerRoutineOfLinePinLaw", name := "isZero", desc := "(J)Z" } : Jvm.MethodName)).before a0 Z = true := hw_at hw 294 rfl
theorem w295 (hw : HW a0 Z) : (Jvm.Cond.static ({ cls := "com/example/packwright/packwright/io/BuildAssemblerRoutineOfLinePinLaw", name := "isZero", desc := "(J)Z" } : Jvm.MethodName)).before a0 Z = true := hw_at hw 295 rfl
theorem w296 (hw : HW a0 Z) : (Jvm.Cond.code ({ cls := "com/example/packwright/packwright/io/BuildAssemblerRoutineOfLinePinLaw", name := "isZero", desc := "(J)Z" } : Jvm.MethodName) method_6_code (3 : Nat) (Option.some Jvm.ClassFile.FieldType.boolean)).before a0 Z = true := hw_at hw 296 rfl
theorem w297 (hw : HW a0 Z) : (Jvm.Cond.methodLink "com/example/packwright/packwright/io/BuildAssemblerRoutineOfLinePinLaw" (66 : Nat) ({ cls := "java/lang/String", name := "equals", desc := "(Ljava/lang/Object;)Z" } : Jvm.MethodName)).before a0 Z = true := hw_at hw 297 rfl
abbrev B0 : ByteArray := method_4_code
abbrev B1 : ByteArray := method_3_code
abbrev B2 : ByteArray := method_2_code
abbrev B9 : ByteArray := jdk_42_method_139_code
abbrev B10 : ByteArray := jdk_43_method_3_code
abbrev B11 : ByteArray := jdk_43_method_46_code
abbrev B12 : ByteArray := jdk_42_method_151_code
abbrev B13 : ByteArray := jdk_38_method_2_code
abbrev B14 : ByteArray := jdk_39_method_1_code
abbrev B15 : ByteArray := jdk_22_method_1_code
abbrev B16 : ByteArray := prog_37_method_1_code
abbrev B17 : ByteArray := jdk_30_method_1_code
abbrev B18 : ByteArray := jdk_40_method_48_code
abbrev B19 : ByteArray := jdk_56_method_3_code
abbrev B20 : ByteArray := jdk_38_method_9_code
abbrev B21 : ByteArray := jdk_40_method_36_code
abbrev B22 : ByteArray := prog_4_method_10_code
abbrev B23 : ByteArray := prog_37_method_7_code
abbrev B24 : ByteArray := jdk_45_method_3_code
abbrev B25 : ByteArray := jdk_38_method_25_code
abbrev B26 : ByteArray := jdk_38_method_24_code
abbrev B27 : ByteArray := jdk_38_method_7_code
abbrev B28 : ByteArray := jdk_38_method_6_code
abbrev B29 : ByteArray := jdk_29_method_65_code
abbrev B30 : ByteArray := jdk_38_method_16_code
abbrev B31 : ByteArray := jdk_65_method_119_code
abbrev B32 : ByteArray := jdk_65_method_120_code
abbrev B33 : ByteArray := jdk_29_method_69_code
abbrev B34 : ByteArray := jdk_40_method_47_code
abbrev B35 : ByteArray := jdk_56_method_4_code
abbrev B36 : ByteArray := jdk_31_method_10_code
abbrev B37 : ByteArray := jdk_45_method_1_code
abbrev B38 : ByteArray := jdk_46_method_1_code
abbrev B39 : ByteArray := jdk_47_method_1_code
abbrev B40 : ByteArray := jdk_44_method_2_code
abbrev B41 : ByteArray := jdk_44_method_3_code
abbrev B42 : ByteArray := jdk_44_method_1_code
abbrev B43 : ByteArray := jdk_45_method_4_code
abbrev B46 : ByteArray := method_5_code
abbrev B47 : ByteArray := method_6_code
theorem d0_0 : decode B0 0 = .ok (.lload_n 0, 1) := by decide +kernel
theorem d0_1 : decode B0 1 = .ok (.invokestatic 11, 3) := by decide +kernel
theorem d0_4 : decode B0 4 = .ok (.istore_n 2, 1) := by decide +kernel
theorem d0_5 : decode B0 5 = .ok (.iload_n 2, 1) := by decide +kernel
theorem d0_6 : decode B0 6 = .ok (.ifCond .ne 6, 3) := by decide +kernel
theorem d0_9 : decode B0 9 = .ok (.ldc 17, 2) := by decide +kernel
theorem d0_11 : decode B0 11 = .ok (.areturn, 1) := by decide +kernel
theorem d0_12 : decode B0 12 = .ok (.iload_n 2, 1) := by decide +kernel
theorem d0_13 : decode B0 13 = .ok (.iconst 1, 1) := by decide +kernel
theorem d0_14 : decode B0 14 = .ok (.if_icmp .ne 6, 3) := by decide +kernel
theorem d0_17 : decode B0 17 = .ok (.ldc 19, 2) := by decide +kernel
theorem d0_19 : decode B0 19 = .ok (.areturn, 1) := by decide +kernel
theorem d0_20 : decode B0 20 = .ok (.iload_n 2, 1) := by decide +kernel
theorem d0_21 : decode B0 21 = .ok (.iconst 2, 1) := by decide +kernel
theorem d0_22 : decode B0 22 = .ok (.if_icmp .ne 42, 3) := by decide +kernel
theorem d0_25 : decode B0 25 = .ok (.iconst 3, 1) := by decide +kernel
theorem d0_26 : decode B0 26 = .ok (.newarray .char, 2) := by decide +kernel
theorem d0_28 : decode B0 28 = .ok (.astore_n 3, 1) := by decide +kernel
theorem d0_29 : decode B0 29 = .ok (.aload_n 3, 1) := by decide +kernel
theorem d0_30 : decode B0 30 = .ok (.iconst 0, 1) := by decide +kernel
theorem d0_31 : decode B0 31 = .ok (.lload_n 0, 1) := by decide +kernel
theorem d0_32 : decode B0 32 = .ok (.iconst 2, 1) := by decide +kernel
theorem d0_33 : decode B0 33 = .ok (.invokestatic 21, 3) := by decide +kernel
theorem d0_36 : decode B0 36 = .ok (.castore, 1) := by decide +kernel
theorem d0_37 : decode B0 37 = .ok (.aload_n 3, 1) := by decide +kernel
theorem d0_38 : decode B0 38 = .ok (.iconst 1, 1) := by decide +kernel
theorem d0_39 : decode B0 39 = .ok (.lload_n 0, 1) := by decide +kernel
theorem d0_40 : decode B0 40 = .ok (.bipush 10, 2) := by decide +kernel
theorem d0_42 : decode B0 42 = .ok (.invokestatic 21, 3) := by decide +kernel
theorem d0_45 : decode B0 45 = .ok (.castore, 1) := by decide +kernel
theorem d0_46 : decode B0 46 = .ok (.aload_n 3, 1) := by decide +kernel
theorem d0_47 : decode B0 47 = .ok (.iconst 2, 1) := by decide +kernel
theorem d0_48 : decode B0 48 = .ok (.lload_n 0, 1) := by decide +kernel
theorem d0_49 : decode B0 49 = .ok (.bipush 18, 2) := by decide +kernel
theorem d0_51 : decode B0 51 = .ok (.invokestatic 21, 3) := by decide +kernel
theorem d0_54 : decode B0 54 = .ok (.castore, 1) := by decide +kernel
theorem d0_55 : decode B0 55 = .ok (.new 25, 3) := by decide +kernel
theorem d0_58 : decode B0 58 = .ok (.dup, 1) := by decide +kernel
theorem d0_59 : decode B0 59 = .ok (.aload_n 3, 1) := by decide +kernel
theorem d0_60 : decode B0 60 = .ok (.invokespecial 27, 3) := by decide +kernel
theorem d0_63 : decode B0 63 = .ok (.areturn, 1) := by decide +kernel
theorem d0_64 : decode B0 64 = .ok (.lload_n 0, 1) := by decide +kernel
theorem d0_65 : decode B0 65 = .ok (.iconst 2, 1) := by decide +kernel
theorem d0_66 : decode B0 66 = .ok (.invokestatic 21, 3) := by decide +kernel
theorem d0_69 : decode B0 69 = .ok (.invokestatic 30, 3) := by decide +kernel
theorem d0_72 : decode B0 72 = .ok (.areturn, 1) := by decide +kernel
theorem d1_0 : decode B1 0 = .ok (.lload_n 0, 1) := by decide +kernel
theorem d1_1 : decode B1 1 = .ok (.ldc2_w 9, 3) := by decide +kernel
theorem d1_4 : decode B1 4 = .ok (.land, 1) := by decide +kernel
theorem d1_5 : decode B1 5 = .ok (.l2i, 1) := by decide +kernel
theorem d1_6 : decode B1 6 = .ok (.ireturn, 1) := by decide +kernel
theorem d2_0 : decode B2 0 = .ok (.lload_n 0, 1) := by decide +kernel
theorem d2_1 : decode B2 1 = .ok (.iload_n 2, 1) := by decide +kernel
theorem d2_2 : decode B2 2 = .ok (.lushr, 1) := by decide +kernel
theorem d2_3 : decode B2 3 = .ok (.ldc2_w 7, 3) := by decide +kernel
theorem d2_6 : decode B2 6 = .ok (.land, 1) := by decide +kernel
theorem d2_7 : decode B2 7 = .ok (.l2i, 1) := by decide +kernel
theorem d2_8 : decode B2 8 = .ok (.i2c, 1) := by decide +kernel
theorem d2_9 : decode B2 9 = .ok (.ireturn, 1) := by decide +kernel
theorem d9_0 : decode B9 0 = .ok (.getstatic 38, 3) := by decide +kernel
theorem d9_3 : decode B9 3 = .ok (.ifCond .eq 23, 3) := by decide +kernel
theorem d9_6 : decode B9 6 = .ok (.iload_n 0, 1) := by decide +kernel
theorem d9_7 : decode B9 7 = .ok (.invokestatic 1015, 3) := by decide +kernel
theorem d9_10 : decode B9 10 = .ok (.ifCond .eq 16, 3) := by decide +kernel
theorem d9_13 : decode B9 13 = .ok (.new 10, 3) := by decide +kernel
theorem d9_16 : decode B9 16 = .ok (.dup, 1) := by decide +kernel
theorem d9_17 : decode B9 17 = .ok (.iload_n 0, 1) := by decide +kernel
theorem d9_18 : decode B9 18 = .ok (.invokestatic 1018, 3) := by decide +kernel
theorem d9_21 : decode B9 21 = .ok (.iconst 0, 1) := by decide +kernel
theorem d9_22 : decode B9 22 = .ok (.invokespecial 209, 3) := by decide +kernel
theorem d9_25 : decode B9 25 = .ok (.areturn, 1) := by decide +kernel
theorem d10_0 : decode B10 0 = .ok (.iload_n 0, 1) := by decide +kernel
theorem d10_1 : decode B10 1 = .ok (.sipush 255, 3) := by decide +kernel
theorem d10_4 : decode B10 4 = .ok (.if_icmp .gt 7, 3) := by decide +kernel
theorem d10_7 : decode B10 7 = .ok (.iconst 1, 1) := by decide +kernel
theorem d10_8 : decode B10 8 = .ok (.goto 4, 3) := by decide +kernel
theorem d10_12 : decode B10 12 = .ok (.ireturn, 1) := by decide +kernel
theorem d11_0 : decode B11 0 = .ok (.iconst 1, 1) := by decide +kernel
theorem d11_1 : decode B11 1 = .ok (.newarray .byte, 2) := by decide +kernel
theorem d11_3 : decode B11 3 = .ok (.dup, 1) := by decide +kernel
theorem d11_4 : decode B11 4 = .ok (.iconst 0, 1) := by decide +kernel
theorem d11_5 : decode B11 5 = .ok (.iload_n 0, 1) := by decide +kernel
theorem d11_6 : decode B11 6 = .ok (.i2b, 1) := by decide +kernel
theorem d11_7 : decode B11 7 = .ok (.bastore, 1) := by decide +kernel
theorem d11_8 : decode B11 8 = .ok (.areturn, 1) := by decide +kernel
theorem d12_0 : decode B12 0 = .ok (.aload_n 0, 1) := by decide +kernel
theorem d12_1 : decode B12 1 = .ok (.invokespecial 1, 3) := by decide +kernel
theorem d12_4 : decode B12 4 = .ok (.aload_n 0, 1) := by decide +kernel
theorem d12_5 : decode B12 5 = .ok (.aload_n 1, 1) := by decide +kernel
theorem d12_6 : decode B12 6 = .ok (.putfield 9, 3) := by decide +kernel
theorem d12_9 : decode B12 9 = .ok (.aload_n 0, 1) := by decide +kernel
theorem d12_10 : decode B12 10 = .ok (.iload_n 2, 1) := by decide +kernel
theorem d12_11 : decode B12 11 = .ok (.putfield 15, 3) := by decide +kernel
theorem d12_14 : decode B12 14 = .ok (.return_, 1) := by decide +kernel
theorem d13_0 : decode B13 0 = .ok (.aload_n 0, 1) := by decide +kernel
theorem d13_1 : decode B13 1 = .ok (.invokespecial 1, 3) := by decide +kernel
theorem d13_4 : decode B13 4 = .ok (.aload_n 0, 1) := by decide +kernel
theorem d13_5 : decode B13 5 = .ok (.getstatic 39, 3) := by decide +kernel
theorem d13_8 : decode B13 8 = .ok (.putfield 9, 3) := by decide +kernel
theorem d13_11 : decode B13 11 = .ok (.return_, 1) := by decide +kernel
theorem d14_0 : decode B14 0 = .ok (.aload_n 0, 1) := by decide +kernel
theorem d14_1 : decode B14 1 = .ok (.invokespecial 1, 3) := by decide +kernel
theorem d14_4 : decode B14 4 = .ok (.aload_n 0, 1) := by decide +kernel
theorem d14_5 : decode B14 5 = .ok (.iconst 0, 1) := by decide +kernel
theorem d14_6 : decode B14 6 = .ok (.putfield 7, 3) := by decide +kernel
theorem d14_9 : decode B14 9 = .ok (.return_, 1) := by decide +kernel
theorem d15_0 : decode B15 0 = .ok (.aload_n 0, 1) := by decide +kernel
theorem d15_1 : decode B15 1 = .ok (.invokespecial 1, 3) := by decide +kernel
theorem d15_4 : decode B15 4 = .ok (.return_, 1) := by decide +kernel
theorem d16_0 : decode B16 0 = .ok (.aload_n 0, 1) := by decide +kernel
theorem d16_1 : decode B16 1 = .ok (.invokespecial 1, 3) := by decide +kernel
theorem d16_4 : decode B16 4 = .ok (.aload_n 2, 1) := by decide +kernel
theorem d16_5 : decode B16 5 = .ok (.invokestatic 7, 3) := by decide +kernel
theorem d16_8 : decode B16 8 = .ok (.astore_n 2, 1) := by decide +kernel
theorem d16_9 : decode B16 9 = .ok (.aload_n 0, 1) := by decide +kernel
theorem d16_10 : decode B16 10 = .ok (.aload_n 1, 1) := by decide +kernel
theorem d16_11 : decode B16 11 = .ok (.putfield 13, 3) := by decide +kernel
theorem d16_14 : decode B16 14 = .ok (.aload_n 0, 1) := by decide +kernel
theorem d16_15 : decode B16 15 = .ok (.aload_n 2, 1) := by decide +kernel
theorem d16_16 : decode B16 16 = .ok (.putfield 19, 3) := by decide +kernel
theorem d16_19 : decode B16 19 = .ok (.aload_n 0, 1) := by decide +kernel
theorem d16_20 : decode B16 20 = .ok (.aload_n 3, 1) := by decide +kernel
theorem d16_21 : decode B16 21 = .ok (.putfield 23, 3) := by decide +kernel
theorem d16_24 : decode B16 24 = .ok (.return_, 1) := by decide +kernel
theorem d17_0 : decode B17 0 = .ok (.aload_n 0, 1) := by decide +kernel
theorem d17_1 : decode B17 1 = .ok (.invokespecial 1, 3) := by decide +kernel
theorem d17_4 : decode B17 4 = .ok (.return_, 1) := by decide +kernel
theorem d18_0 : decode B18 0 = .ok (.aload_n 0, 1) := by decide +kernel
theorem d18_1 : decode B18 1 = .ok (.invokestatic 112, 3) := by decide +kernel
theorem d18_4 : decode B18 4 = .ok (.areturn, 1) := by decide +kernel
theorem d19_0 : decode B19 0 = .ok (.aload_n 0, 1) := by decide +kernel
theorem d19_1 : decode B19 1 = .ok (.instanceof 10, 3) := by decide +kernel
theorem d19_4 : decode B19 4 = .ok (.ifCond .ne 22, 3) := by decide +kernel
theorem d19_7 : decode B19 7 = .ok (.aload_n 0, 1) := by decide +kernel
theorem d19_8 : decode B19 8 = .ok (.instanceof 12, 3) := by decide +kernel
theorem d19_11 : decode B19 11 = .ok (.ifCond .eq 20, 3) := by decide +kernel
theorem d19_31 : decode B19 31 = .ok (.aload_n 0, 1) := by decide +kernel
theorem d19_32 : decode B19 32 = .ok (.invokeinterface 20 1, 5) := by decide +kernel
theorem d19_37 : decode B19 37 = .ok (.ifCond .eq 7, 3) := by decide +kernel
theorem d19_40 : decode B19 40 = .ok (.invokestatic 26, 3) := by decide +kernel
theorem d19_43 : decode B19 43 = .ok (.areturn, 1) := by decide +kernel
theorem d19_44 : decode B19 44 = .ok (.aload_n 0, 1) := by decide +kernel
theorem d19_45 : decode B19 45 = .ok (.invokeinterface 30 1, 5) := by decide +kernel
theorem d19_50 : decode B19 50 = .ok (.invokestatic 34, 3) := by decide +kernel
theorem d19_53 : decode B19 53 = .ok (.areturn, 1) := by decide +kernel
theorem d20_0 : decode B20 0 = .ok (.aload_n 0, 1) := by decide +kernel
theorem d20_1 : decode B20 1 = .ok (.getfield 48, 3) := by decide +kernel
theorem d20_4 : decode B20 4 = .ok (.ifCond .ne 7, 3) := by decide +kernel
theorem d20_7 : decode B20 7 = .ok (.iconst 1, 1) := by decide +kernel
theorem d20_8 : decode B20 8 = .ok (.goto 4, 3) := by decide +kernel
theorem d20_11 : decode B20 11 = .ok (.iconst 0, 1) := by decide +kernel
theorem d20_12 : decode B20 12 = .ok (.ireturn, 1) := by decide +kernel
theorem d21_0 : decode B21 0 = .ok (.getstatic 90, 3) := by decide +kernel
theorem d21_3 : decode B21 3 = .ok (.areturn, 1) := by decide +kernel
theorem d22_0 : decode B22 0 = .ok (.aload_n 0, 1) := by decide +kernel
theorem d22_1 : decode B22 1 = .ok (.invokevirtual 69, 3) := by decide +kernel
theorem d22_4 : decode B22 4 = .ok (.astore_n 1, 1) := by decide +kernel
theorem d22_5 : decode B22 5 = .ok (.aload_n 1, 1) := by decide +kernel
theorem d22_6 : decode B22 6 = .ok (.invokeinterface 85 1, 5) := by decide +kernel
theorem d22_11 : decode B22 11 = .ok (.iconst 4, 1) := by decide +kernel
theorem d22_12 : decode B22 12 = .ok (.if_icmp .ne 43, 3) := by decide +kernel
theorem d22_15 : decode B22 15 = .ok (.aload_n 1, 1) := by decide +kernel
theorem d22_16 : decode B22 16 = .ok (.iconst 0, 1) := by decide +kernel
theorem d22_17 : decode B22 17 = .ok (.invokeinterface 79 2, 5) := by decide +kernel
theorem d22_22 : decode B22 22 = .ok (.checkcast 83, 3) := by decide +kernel
theorem d22_25 : decode B22 25 = .ok (.ldc 159, 2) := by decide +kernel
theorem d22_27 : decode B22 27 = .ok (.invokevirtual 91, 3) := by decide +kernel
theorem d22_30 : decode B22 30 = .ok (.ifCond .eq 25, 3) := by decide +kernel
theorem d22_33 : decode B22 33 = .ok (.aload_n 1, 1) := by decide +kernel
theorem d22_34 : decode B22 34 = .ok (.iconst 3, 1) := by decide +kernel
theorem d22_35 : decode B22 35 = .ok (.invokeinterface 79 2, 5) := by decide +kernel
theorem d22_40 : decode B22 40 = .ok (.checkcast 83, 3) := by decide +kernel
theorem d22_43 : decode B22 43 = .ok (.ldc 94, 2) := by decide +kernel
theorem d22_45 : decode B22 45 = .ok (.invokevirtual 91, 3) := by decide +kernel
theorem d22_48 : decode B22 48 = .ok (.ifCond .eq 7, 3) := by decide +kernel
theorem d22_51 : decode B22 51 = .ok (.iconst 1, 1) := by decide +kernel
theorem d22_52 : decode B22 52 = .ok (.goto 4, 3) := by decide +kernel
theorem d22_55 : decode B22 55 = .ok (.iconst 0, 1) := by decide +kernel
theorem d22_56 : decode B22 56 = .ok (.istore_n 2, 1) := by decide +kernel
theorem d22_57 : decode B22 57 = .ok (.iload_n 2, 1) := by decide +kernel
theorem d22_58 : decode B22 58 = .ok (.ifCond .eq 16, 3) := by decide +kernel
theorem d22_61 : decode B22 61 = .ok (.aload_n 1, 1) := by decide +kernel
theorem d22_62 : decode B22 62 = .ok (.iconst 1, 1) := by decide +kernel
theorem d22_63 : decode B22 63 = .ok (.invokeinterface 79 2, 5) := by decide +kernel
theorem d22_68 : decode B22 68 = .ok (.checkcast 83, 3) := by decide +kernel
theorem d22_71 : decode B22 71 = .ok (.goto 4, 3) := by decide +kernel
theorem d22_74 : decode B22 74 = .ok (.aconst_null, 1) := by decide +kernel
theorem d22_75 : decode B22 75 = .ok (.areturn, 1) := by decide +kernel
theorem d23_0 : decode B23 0 = .ok (.aload_n 0, 1) := by decide +kernel
theorem d23_1 : decode B23 1 = .ok (.getfield 19, 3) := by decide +kernel
theorem d23_4 : decode B23 4 = .ok (.areturn, 1) := by decide +kernel
theorem d24_0 : decode B24 0 = .ok (.aload_n 0, 1) := by decide +kernel
theorem d24_1 : decode B24 1 = .ok (.getfield 7, 3) := by decide +kernel
theorem d24_4 : decode B24 4 = .ok (.arraylength, 1) := by decide +kernel
theorem d24_5 : decode B24 5 = .ok (.ireturn, 1) := by decide +kernel
theorem d25_0 : decode B25 0 = .ok (.aload_n 0, 1) := by decide +kernel
theorem d25_1 : decode B25 1 = .ok (.dup, 1) := by decide +kernel
theorem d25_2 : decode B25 2 = .ok (.getfield 63, 3) := by decide +kernel
theorem d25_5 : decode B25 5 = .ok (.iconst 1, 1) := by decide +kernel
theorem d25_6 : decode B25 6 = .ok (.iadd, 1) := by decide +kernel
theorem d25_7 : decode B25 7 = .ok (.putfield 63, 3) := by decide +kernel
theorem d25_10 : decode B25 10 = .ok (.aload_n 0, 1) := by decide +kernel
theorem d25_11 : decode B25 11 = .ok (.aload_n 1, 1) := by decide +kernel
theorem d25_12 : decode B25 12 = .ok (.aload_n 0, 1) := by decide +kernel
theorem d25_13 : decode B25 13 = .ok (.getfield 9, 3) := by decide +kernel
theorem d25_16 : decode B25 16 = .ok (.aload_n 0, 1) := by decide +kernel
theorem d25_17 : decode B25 17 = .ok (.getfield 48, 3) := by decide +kernel
theorem d25_20 : decode B25 20 = .ok (.invokevirtual 131, 3) := by decide +kernel
theorem d25_23 : decode B25 23 = .ok (.iconst 1, 1) := by decide +kernel
theorem d25_24 : decode B25 24 = .ok (.ireturn, 1) := by decide +kernel
theorem d26_0 : decode B26 0 = .ok (.iload_n 3, 1) := by decide +kernel
theorem d26_1 : decode B26 1 = .ok (.aload_n 2, 1) := by decide +kernel
theorem d26_2 : decode B26 2 = .ok (.arraylength, 1) := by decide +kernel
theorem d26_3 : decode B26 3 = .ok (.if_icmp .ne 8, 3) := by decide +kernel
theorem d26_6 : decode B26 6 = .ok (.aload_n 0, 1) := by decide +kernel
theorem d26_7 : decode B26 7 = .ok (.invokevirtual 129, 3) := by decide +kernel
theorem d26_10 : decode B26 10 = .ok (.astore_n 2, 1) := by decide +kernel
theorem d26_11 : decode B26 11 = .ok (.aload_n 2, 1) := by decide +kernel
theorem d26_12 : decode B26 12 = .ok (.iload_n 3, 1) := by decide +kernel
theorem d26_13 : decode B26 13 = .ok (.aload_n 1, 1) := by decide +kernel
theorem d26_14 : decode B26 14 = .ok (.aastore, 1) := by decide +kernel
theorem d26_15 : decode B26 15 = .ok (.aload_n 0, 1) := by decide +kernel
theorem d26_16 : decode B26 16 = .ok (.iload_n 3, 1) := by decide +kernel
theorem d26_17 : decode B26 17 = .ok (.iconst 1, 1) := by decide +kernel
theorem d26_18 : decode B26 18 = .ok (.iadd, 1) := by decide +kernel
theorem d26_19 : decode B26 19 = .ok (.putfield 48, 3) := by decide +kernel
theorem d26_22 : decode B26 22 = .ok (.return_, 1) := by decide +kernel
theorem d27_0 : decode B27 0 = .ok (.aload_n 0, 1) := by decide +kernel
theorem d27_1 : decode B27 1 = .ok (.aload_n 0, 1) := by decide +kernel
theorem d27_2 : decode B27 2 = .ok (.getfield 48, 3) := by decide +kernel
theorem d27_5 : decode B27 5 = .ok (.iconst 1, 1) := by decide +kernel
theorem d27_6 : decode B27 6 = .ok (.iadd, 1) := by decide +kernel
theorem d27_7 : decode B27 7 = .ok (.invokevirtual 69, 3) := by decide +kernel
theorem d27_10 : decode B27 10 = .ok (.areturn, 1) := by decide +kernel
theorem d28_0 : decode B28 0 = .ok (.aload_n 0, 1) := by decide +kernel
theorem d28_1 : decode B28 1 = .ok (.getfield 9, 3) := by decide +kernel
theorem d28_4 : decode B28 4 = .ok (.arraylength, 1) := by decide +kernel
theorem d28_5 : decode B28 5 = .ok (.istore_n 2, 1) := by decide +kernel
theorem d28_6 : decode B28 6 = .ok (.iload_n 2, 1) := by decide +kernel
theorem d28_7 : decode B28 7 = .ok (.ifCond .gt 13, 3) := by decide +kernel
theorem d28_10 : decode B28 10 = .ok (.aload_n 0, 1) := by decide +kernel
theorem d28_11 : decode B28 11 = .ok (.getfield 9, 3) := by decide +kernel
theorem d28_14 : decode B28 14 = .ok (.getstatic 39, 3) := by decide +kernel
theorem d28_17 : decode B28 17 = .ok (.if_acmp .eq 28, 3) := by decide +kernel
theorem d28_45 : decode B28 45 = .ok (.aload_n 0, 1) := by decide +kernel
theorem d28_46 : decode B28 46 = .ok (.bipush 10, 2) := by decide +kernel
theorem d28_48 : decode B28 48 = .ok (.iload_n 1, 1) := by decide +kernel
theorem d28_49 : decode B28 49 = .ok (.invokestatic 79, 3) := by decide +kernel
theorem d28_52 : decode B28 52 = .ok (.anewarray 7, 3) := by decide +kernel
theorem d28_55 : decode B28 55 = .ok (.dup_x1, 1) := by decide +kernel
theorem d28_56 : decode B28 56 = .ok (.putfield 9, 3) := by decide +kernel
theorem d28_59 : decode B28 59 = .ok (.areturn, 1) := by decide +kernel
theorem d29_0 : decode B29 0 = .ok (.iload_n 0, 1) := by decide +kernel
theorem d29_1 : decode B29 1 = .ok (.iload_n 1, 1) := by decide +kernel
theorem d29_2 : decode B29 2 = .ok (.if_icmp .lt 7, 3) := by decide +kernel
theorem d29_5 : decode B29 5 = .ok (.iload_n 0, 1) := by decide +kernel
theorem d29_6 : decode B29 6 = .ok (.goto 4, 3) := by decide +kernel
theorem d29_10 : decode B29 10 = .ok (.ireturn, 1) := by decide +kernel
theorem d30_0 : decode B30 0 = .ok (.aload_n 0, 1) := by decide +kernel
theorem d30_1 : decode B30 1 = .ok (.getfield 9, 3) := by decide +kernel
theorem d30_4 : decode B30 4 = .ok (.aload_n 0, 1) := by decide +kernel
theorem d30_5 : decode B30 5 = .ok (.getfield 48, 3) := by decide +kernel
theorem d30_8 : decode B30 8 = .ok (.invokestatic 66, 3) := by decide +kernel
theorem d30_11 : decode B30 11 = .ok (.areturn, 1) := by decide +kernel
theorem d31_0 : decode B31 0 = .ok (.aload_n 0, 1) := by decide +kernel
theorem d31_1 : decode B31 1 = .ok (.iload_n 1, 1) := by decide +kernel
theorem d31_2 : decode B31 2 = .ok (.aload_n 0, 1) := by decide +kernel
theorem d31_3 : decode B31 3 = .ok (.invokevirtual 86, 3) := by decide +kernel
theorem d31_6 : decode B31 6 = .ok (.invokestatic 300, 3) := by decide +kernel
theorem d31_9 : decode B31 9 = .ok (.areturn, 1) := by decide +kernel
theorem d32_0 : decode B32 0 = .ok (.aload_n 2, 1) := by decide +kernel
theorem d32_1 : decode B32 1 = .ok (.ldc 110, 2) := by decide +kernel
theorem d32_3 : decode B32 3 = .ok (.if_acmp .ne 10, 3) := by decide +kernel
theorem d32_6 : decode B32 6 = .ok (.iload_n 1, 1) := by decide +kernel
theorem d32_7 : decode B32 7 = .ok (.anewarray 2, 3) := by decide +kernel
theorem d32_10 : decode B32 10 = .ok (.goto 14, 3) := by decide +kernel
theorem d32_24 : decode B32 24 = .ok (.astore_n 3, 1) := by decide +kernel
theorem d32_25 : decode B32 25 = .ok (.aload_n 0, 1) := by decide +kernel
theorem d32_26 : decode B32 26 = .ok (.iconst 0, 1) := by decide +kernel
theorem d32_27 : decode B32 27 = .ok (.aload_n 3, 1) := by decide +kernel
theorem d32_28 : decode B32 28 = .ok (.iconst 0, 1) := by decide +kernel
theorem d32_29 : decode B32 29 = .ok (.aload_n 0, 1) := by decide +kernel
theorem d32_30 : decode B32 30 = .ok (.arraylength, 1) := by decide +kernel
theorem d32_31 : decode B32 31 = .ok (.iload_n 1, 1) := by decide +kernel
theorem d32_32 : decode B32 32 = .ok (.invokestatic 304, 3) := by decide +kernel
theorem d32_35 : decode B32 35 = .ok (.invokestatic 150, 3) := by decide +kernel
theorem d32_38 : decode B32 38 = .ok (.aload_n 3, 1) := by decide +kernel
theorem d32_39 : decode B32 39 = .ok (.areturn, 1) := by decide +kernel
theorem d33_0 : decode B33 0 = .ok (.iload_n 0, 1) := by decide +kernel
theorem d33_1 : decode B33 1 = .ok (.iload_n 1, 1) := by decide +kernel
theorem d33_2 : decode B33 2 = .ok (.if_icmp .gt 7, 3) := by decide +kernel
theorem d33_9 : decode B33 9 = .ok (.iload_n 1, 1) := by decide +kernel
theorem d33_10 : decode B33 10 = .ok (.ireturn, 1) := by decide +kernel
theorem d34_0 : decode B34 0 = .ok (.aload_n 0, 1) := by decide +kernel
theorem d34_1 : decode B34 1 = .ok (.arraylength, 1) := by decide +kernel
theorem d34_2 : decode B34 2 = .ok (.tableswitch 57 0 2 #[26, 32, 43], 26) := by decide +kernel
theorem d34_34 : decode B34 34 = .ok (.new 96, 3) := by decide +kernel
theorem d34_37 : decode B34 37 = .ok (.dup, 1) := by decide +kernel
theorem d34_38 : decode B34 38 = .ok (.aload_n 0, 1) := by decide +kernel
theorem d34_39 : decode B34 39 = .ok (.iconst 0, 1) := by decide +kernel
theorem d34_40 : decode B34 40 = .ok (.aaload, 1) := by decide +kernel
theorem d34_41 : decode B34 41 = .ok (.invokespecial 98, 3) := by decide +kernel
theorem d34_44 : decode B34 44 = .ok (.areturn, 1) := by decide +kernel
theorem d34_45 : decode B34 45 = .ok (.new 96, 3) := by decide +kernel
theorem d34_48 : decode B34 48 = .ok (.dup, 1) := by decide +kernel
theorem d34_49 : decode B34 49 = .ok (.aload_n 0, 1) := by decide +kernel
theorem d34_50 : decode B34 50 = .ok (.iconst 0, 1) := by decide +kernel
theorem d34_51 : decode B34 51 = .ok (.aaload, 1) := by decide +kernel
theorem d34_52 : decode B34 52 = .ok (.aload_n 0, 1) := by decide +kernel
theorem d34_53 : decode B34 53 = .ok (.iconst 1, 1) := by decide +kernel
theorem d34_54 : decode B34 54 = .ok (.aaload, 1) := by decide +kernel
theorem d34_55 : decode B34 55 = .ok (.invokespecial 100, 3) := by decide +kernel
theorem d34_58 : decode B34 58 = .ok (.areturn, 1) := by decide +kernel
theorem d34_59 : decode B34 59 = .ok (.aload_n 0, 1) := by decide +kernel
theorem d34_60 : decode B34 60 = .ok (.invokestatic 109, 3) := by decide +kernel
theorem d34_63 : decode B34 63 = .ok (.areturn, 1) := by decide +kernel
theorem d35_0 : decode B35 0 = .ok (.aload_n 0, 1) := by decide +kernel
theorem d35_1 : decode B35 1 = .ok (.arraylength, 1) := by decide +kernel
theorem d35_2 : decode B35 2 = .ok (.anewarray 2, 3) := by decide +kernel
theorem d35_5 : decode B35 5 = .ok (.astore_n 1, 1) := by decide +kernel
theorem d35_6 : decode B35 6 = .ok (.iconst 0, 1) := by decide +kernel
theorem d35_7 : decode B35 7 = .ok (.istore_n 2, 1) := by decide +kernel
theorem d35_8 : decode B35 8 = .ok (.iload_n 2, 1) := by decide +kernel
theorem d35_9 : decode B35 9 = .ok (.aload_n 0, 1) := by decide +kernel
theorem d35_10 : decode B35 10 = .ok (.arraylength, 1) := by decide +kernel
theorem d35_11 : decode B35 11 = .ok (.if_icmp .ge 18, 3) := by decide +kernel
theorem d35_14 : decode B35 14 = .ok (.aload_n 1, 1) := by decide +kernel
theorem d35_15 : decode B35 15 = .ok (.iload_n 2, 1) := by decide +kernel
theorem d35_16 : decode B35 16 = .ok (.aload_n 0, 1) := by decide +kernel
theorem d35_17 : decode B35 17 = .ok (.iload_n 2, 1) := by decide +kernel
theorem d35_18 : decode B35 18 = .ok (.aaload, 1) := by decide +kernel
theorem d35_19 : decode B35 19 = .ok (.invokestatic 37, 3) := by decide +kernel
theorem d35_22 : decode B35 22 = .ok (.aastore, 1) := by decide +kernel
theorem d35_23 : decode B35 23 = .ok (.iinc 2 1, 3) := by decide +kernel
theorem d35_26 : decode B35 26 = .ok (.goto (-18), 3) := by decide +kernel
theorem d35_29 : decode B35 29 = .ok (.new 12, 3) := by decide +kernel
theorem d35_32 : decode B35 32 = .ok (.dup, 1) := by decide +kernel
theorem d35_33 : decode B35 33 = .ok (.aload_n 1, 1) := by decide +kernel
theorem d35_34 : decode B35 34 = .ok (.iconst 0, 1) := by decide +kernel
theorem d35_35 : decode B35 35 = .ok (.invokespecial 43, 3) := by decide +kernel
theorem d35_38 : decode B35 38 = .ok (.areturn, 1) := by decide +kernel
theorem d36_0 : decode B36 0 = .ok (.aload_n 0, 1) := by decide +kernel
theorem d36_1 : decode B36 1 = .ok (.ifnonnull 11, 3) := by decide +kernel
theorem d36_12 : decode B36 12 = .ok (.aload_n 0, 1) := by decide +kernel
theorem d36_13 : decode B36 13 = .ok (.areturn, 1) := by decide +kernel
theorem d37_0 : decode B37 0 = .ok (.aload_n 0, 1) := by decide +kernel
theorem d37_1 : decode B37 1 = .ok (.invokespecial 1, 3) := by decide +kernel
theorem d37_4 : decode B37 4 = .ok (.aload_n 0, 1) := by decide +kernel
theorem d37_5 : decode B37 5 = .ok (.aload_n 1, 1) := by decide +kernel
theorem d37_6 : decode B37 6 = .ok (.putfield 7, 3) := by decide +kernel
theorem d37_9 : decode B37 9 = .ok (.aload_n 0, 1) := by decide +kernel
theorem d37_10 : decode B37 10 = .ok (.iload_n 2, 1) := by decide +kernel
theorem d37_11 : decode B37 11 = .ok (.putfield 13, 3) := by decide +kernel
theorem d37_14 : decode B37 14 = .ok (.return_, 1) := by decide +kernel
theorem d38_0 : decode B38 0 = .ok (.aload_n 0, 1) := by decide +kernel
theorem d38_1 : decode B38 1 = .ok (.invokespecial 1, 3) := by decide +kernel
theorem d38_4 : decode B38 4 = .ok (.return_, 1) := by decide +kernel
theorem d39_0 : decode B39 0 = .ok (.aload_n 0, 1) := by decide +kernel
theorem d39_1 : decode B39 1 = .ok (.invokespecial 1, 3) := by decide +kernel
theorem d39_4 : decode B39 4 = .ok (.return_, 1) := by decide +kernel
theorem d40_0 : decode B40 0 = .ok (.aload_n 0, 1) := by decide +kernel
theorem d40_1 : decode B40 1 = .ok (.invokespecial 1, 3) := by decide +kernel
theorem d40_4 : decode B40 4 = .ok (.aload_n 0, 1) := by decide +kernel
theorem d40_5 : decode B40 5 = .ok (.aload_n 1, 1) := by decide +kernel
theorem d40_6 : decode B40 6 = .ok (.invokestatic 7, 3) := by decide +kernel
theorem d40_9 : decode B40 9 = .ok (.putfield 13, 3) := by decide +kernel
theorem d40_12 : decode B40 12 = .ok (.aload_n 0, 1) := by decide +kernel
theorem d40_13 : decode B40 13 = .ok (.aload_n 2, 1) := by decide +kernel
theorem d40_14 : decode B40 14 = .ok (.invokestatic 7, 3) := by decide +kernel
theorem d40_17 : decode B40 17 = .ok (.putfield 24, 3) := by decide +kernel
theorem d40_20 : decode B40 20 = .ok (.return_, 1) := by decide +kernel
theorem d41_0 : decode B41 0 = .ok (.aload_n 0, 1) := by decide +kernel
theorem d41_1 : decode B41 1 = .ok (.getfield 24, 3) := by decide +kernel
theorem d41_4 : decode B41 4 = .ok (.getstatic 19, 3) := by decide +kernel
theorem d41_7 : decode B41 7 = .ok (.if_acmp .eq 7, 3) := by decide +kernel
theorem d41_10 : decode B41 10 = .ok (.iconst 2, 1) := by decide +kernel
theorem d41_11 : decode B41 11 = .ok (.goto 4, 3) := by decide +kernel
theorem d41_14 : decode B41 14 = .ok (.iconst 1, 1) := by decide +kernel
theorem d41_15 : decode B41 15 = .ok (.ireturn, 1) := by decide +kernel
theorem d42_0 : decode B42 0 = .ok (.aload_n 0, 1) := by decide +kernel
theorem d42_1 : decode B42 1 = .ok (.invokespecial 1, 3) := by decide +kernel
theorem d42_4 : decode B42 4 = .ok (.aload_n 0, 1) := by decide +kernel
theorem d42_5 : decode B42 5 = .ok (.aload_n 1, 1) := by decide +kernel
theorem d42_6 : decode B42 6 = .ok (.invokestatic 7, 3) := by decide +kernel
theorem d42_9 : decode B42 9 = .ok (.putfield 13, 3) := by decide +kernel
theorem d42_12 : decode B42 12 = .ok (.aload_n 0, 1) := by decide +kernel
theorem d42_13 : decode B42 13 = .ok (.getstatic 19, 3) := by decide +kernel
theorem d42_16 : decode B42 16 = .ok (.putfield 24, 3) := by decide +kernel
theorem d42_19 : decode B42 19 = .ok (.return_, 1) := by decide +kernel
theorem d43_0 : decode B43 0 = .ok (.aload_n 0, 1) := by decide +kernel
theorem d43_1 : decode B43 1 = .ok (.getfield 7, 3) := by decide +kernel
theorem d43_4 : decode B43 4 = .ok (.iload_n 1, 1) := by decide +kernel
theorem d43_5 : decode B43 5 = .ok (.aaload, 1) := by decide +kernel
theorem d43_6 : decode B43 6 = .ok (.areturn, 1) := by decide +kernel
theorem d46_0 : decode B46 0 = .ok (.lload_n 0, 1) := by decide +kernel
theorem d46_1 : decode B46 1 = .ok (.invokestatic 11, 3) := by decide +kernel
theorem d46_4 : decode B46 4 = .ok (.istore_n 2, 1) := by decide +kernel
theorem d46_5 : decode B46 5 = .ok (.iload_n 2, 1) := by decide +kernel
theorem d46_6 : decode B46 6 = .ok (.ifCond .eq 40, 3) := by decide +kernel
theorem d46_9 : decode B46 9 = .ok (.iload_n 2, 1) := by decide +kernel
theorem d46_10 : decode B46 10 = .ok (.iconst 2, 1) := by decide +kernel
theorem d46_11 : decode B46 11 = .ok (.if_icmp .ne 39, 3) := by decide +kernel
theorem d46_14 : decode B46 14 = .ok (.lload_n 0, 1) := by decide +kernel
theorem d46_15 : decode B46 15 = .ok (.iconst 2, 1) := by decide +kernel
theorem d46_16 : decode B46 16 = .ok (.invokestatic 21, 3) := by decide +kernel
theorem d46_19 : decode B46 19 = .ok (.bipush 82, 2) := by decide +kernel
theorem d46_21 : decode B46 21 = .ok (.if_icmp .ne 29, 3) := by decide +kernel
theorem d46_24 : decode B46 24 = .ok (.lload_n 0, 1) := by decide +kernel
theorem d46_25 : decode B46 25 = .ok (.bipush 10, 2) := by decide +kernel
theorem d46_27 : decode B46 27 = .ok (.invokestatic 21, 3) := by decide +kernel
theorem d46_30 : decode B46 30 = .ok (.bipush 84, 2) := by decide +kernel
theorem d46_32 : decode B46 32 = .ok (.if_icmp .ne 18, 3) := by decide +kernel
theorem d46_35 : decode B46 35 = .ok (.lload_n 0, 1) := by decide +kernel
theorem d46_36 : decode B46 36 = .ok (.bipush 18, 2) := by decide +kernel
theorem d46_38 : decode B46 38 = .ok (.invokestatic 21, 3) := by decide +kernel
theorem d46_41 : decode B46 41 = .ok (.bipush 78, 2) := by decide +kernel
theorem d46_43 : decode B46 43 = .ok (.if_icmp .ne 7, 3) := by decide +kernel
theorem d46_46 : decode B46 46 = .ok (.iconst 1, 1) := by decide +kernel
theorem d46_47 : decode B46 47 = .ok (.goto 4, 3) := by decide +kernel
theorem d46_50 : decode B46 50 = .ok (.iconst 0, 1) := by decide +kernel
theorem d46_51 : decode B46 51 = .ok (.ireturn, 1) := by decide +kernel
theorem d47_0 : decode B47 0 = .ok (.lload_n 0, 1) := by decide +kernel
theorem d47_1 : decode B47 1 = .ok (.invokestatic 11, 3) := by decide +kernel
theorem d47_4 : decode B47 4 = .ok (.istore_n 2, 1) := by decide +kernel
theorem d47_5 : decode B47 5 = .ok (.iload_n 2, 1) := by decide +kernel
theorem d47_6 : decode B47 6 = .ok (.iconst 1, 1) := by decide +kernel
theorem d47_7 : decode B47 7 = .ok (.if_icmp .eq 18, 3) := by decide +kernel
theorem d47_10 : decode B47 10 = .ok (.iload_n 2, 1) := by decide +kernel
theorem d47_11 : decode B47 11 = .ok (.iconst 3, 1) := by decide +kernel
theorem d47_12 : decode B47 12 = .ok (.if_icmp .ne 17, 3) := by decide +kernel
theorem d47_15 : decode B47 15 = .ok (.lload_n 0, 1) := by decide +kernel
theorem d47_16 : decode B47 16 = .ok (.iconst 2, 1) := by decide +kernel
theorem d47_17 : decode B47 17 = .ok (.invokestatic 21, 3) := by decide +kernel
theorem d47_20 : decode B47 20 = .ok (.bipush 48, 2) := by decide +kernel
theorem d47_22 : decode B47 22 = .ok (.if_icmp .ne 7, 3) := by decide +kernel
theorem d47_25 : decode B47 25 = .ok (.iconst 1, 1) := by decide +kernel
theorem d47_26 : decode B47 26 = .ok (.goto 4, 3) := by decide +kernel
theorem d47_29 : decode B47 29 = .ok (.iconst 0, 1) := by decide +kernel
theorem d47_30 : decode B47 30 = .ok (.ireturn, 1) := by decide +kernel
theorem pn0 : plainFor (⟨"com/example/packwright/packwright/io/BuildAssemblerRoutineOfLinePinLaw", "sub", "(J)Ljava/lang/String;"⟩ : MethodName) = true := by first | exact plainFor_of_name (by first | (simp [plainName, overriddenIn]; done) | decide +kernel) | decide +kernel
theorem pn1 : plainFor (⟨"com/example/packwright/packwright/io/BuildAssemblerRoutineOfLinePinLaw", "mode", "(J)I"⟩ : MethodName) = true := by first | exact plainFor_of_name (by first | (simp [plainName, overriddenIn]; done) | decide +kernel) | decide +kernel
theorem pn2 : plainFor (⟨"com/example/packwright/packwright/io/BuildAssemblerRoutineOfLinePinLaw", "ch", "(JI)C"⟩ : MethodName) = true := by first | exact plainFor_of_name (by first | (simp [plainName, overriddenIn]; done) | decide +kernel) | decide +kernel
theorem pn9 : plainFor (⟨"java/lang/String", "valueOf", "(C)Ljava/lang/String;"⟩ : MethodName) = true := by first | exact plainFor_of_name (by first | (simp [plainName, overriddenIn]; done) | decide +kernel) | decide +kernel
theorem pn10 : plainFor (⟨"java/lang/StringLatin1", "canEncode", "(C)Z"⟩ : MethodName) = true := by first | exact plainFor_of_name (by first | (simp [plainName, overriddenIn]; done) | decide +kernel) | decide +kernel
theorem pn11 : plainFor (⟨"java/lang/StringLatin1", "toBytes", "(C)[B"⟩ : MethodName) = true := by first | exact plainFor_of_name (by first | (simp [plainName, overriddenIn]; done) | decide +kernel) | decide +kernel
theorem pn12 : plainFor (⟨"java/lang/String", "<init>", "([BB)V"⟩ : MethodName) = true := by first | exact plainFor_of_name (by first | (simp [plainName, overriddenIn]; done) | decide +kernel) | decide +kernel
theorem pn13 : plainFor (⟨"java/util/ArrayList", "<init>", "()V"⟩ : MethodName) = true := by first | exact plainFor_of_name (by first | (simp [plainName, overriddenIn]; done) | decide +kernel) | decide +kernel
theorem pn14 : plainFor (⟨"java/util/AbstractList", "<init>", "()V"⟩ : MethodName) = true := by first | exact plainFor_of_name (by first | (simp [plainName, overriddenIn]; done) | decide +kernel) | decide +kernel
theorem pn15 : plainFor (⟨"java/util/AbstractCollection", "<init>", "()V"⟩ : MethodName) = true := by first | exact plainFor_of_name (by first | (simp [plainName, overriddenIn]; done) | decide +kernel) | decide +kernel
theorem pn16 : plainFor (⟨"com/example/packwright/packwright/model/Node", "<init>", "(Ljava/lang/String;Ljava/util/List;Ljava/lang/String;)V"⟩ : MethodName) = true := by first | exact plainFor_of_name (by first | (simp [plainName, overriddenIn]; done) | decide +kernel) | decide +kernel
theorem pn17 : plainFor (⟨"java/lang/Record", "<init>", "()V"⟩ : MethodName) = true := by first | exact plainFor_of_name (by first | (simp [plainName, overriddenIn]; done) | decide +kernel) | decide +kernel
theorem pn18 : plainFor (⟨"java/util/List", "copyOf", "(Ljava/util/Collection;)Ljava/util/List;"⟩ : MethodName) = true := by first | exact plainFor_of_name (by first | (simp [plainName, overriddenIn]; done) | decide +kernel) | decide +kernel
theorem pn19 : plainFor (⟨"java/util/ImmutableCollections", "listCopy", "(Ljava/util/Collection;)Ljava/util/List;"⟩ : MethodName) = true := by first | exact plainFor_of_name (by first | (simp [plainName, overriddenIn]; done) | decide +kernel) | decide +kernel
theorem pn20 : plainFor (⟨"java/util/ArrayList", "isEmpty", "()Z"⟩ : MethodName) = true := by first | exact plainFor_of_name (by first | (simp [plainName, overriddenIn]; done) | decide +kernel) | decide +kernel
theorem pn21 : plainFor (⟨"java/util/List", "of", "()Ljava/util/List;"⟩ : MethodName) = true := by first | exact plainFor_of_name (by first | (simp [plainName, overriddenIn]; done) | decide +kernel) | decide +kernel
theorem pn22 : plainFor (⟨"com/example/packwright/packwright/io/BuildAssembler", "routineOfLine", "(Lcom/example/packwright/packwright/model/Node;)Ljava/lang/String;"⟩ : MethodName) = true := by first | exact plainFor_of_name (by first | (simp [plainName, overriddenIn]; done) | decide +kernel) | decide +kernel
theorem pn23 : plainFor (⟨"com/example/packwright/packwright/model/Node", "subscripts", "()Ljava/util/List;"⟩ : MethodName) = true := by first | exact plainFor_of_name (by first | (simp [plainName, overriddenIn]; done) | decide +kernel) | decide +kernel
theorem pn24 : plainFor (⟨"java/util/ImmutableCollections$ListN", "size", "()I"⟩ : MethodName) = true := by first | exact plainFor_of_name (by first | (simp [plainName, overriddenIn]; done) | decide +kernel) | decide +kernel
theorem pn25 : plainFor (⟨"java/util/ArrayList", "add", "(Ljava/lang/Object;)Z"⟩ : MethodName) = true := by first | exact plainFor_of_name (by first | (simp [plainName, overriddenIn]; done) | decide +kernel) | decide +kernel
theorem pn26 : plainFor (⟨"java/util/ArrayList", "add", "(Ljava/lang/Object;[Ljava/lang/Object;I)V"⟩ : MethodName) = true := by first | exact plainFor_of_name (by first | (simp [plainName, overriddenIn]; done) | decide +kernel) | decide +kernel
theorem pn27 : plainFor (⟨"java/util/ArrayList", "grow", "()[Ljava/lang/Object;"⟩ : MethodName) = true := by first | exact plainFor_of_name (by first | (simp [plainName, overriddenIn]; done) | decide +kernel) | decide +kernel
theorem pn28 : plainFor (⟨"java/util/ArrayList", "grow", "(I)[Ljava/lang/Object;"⟩ : MethodName) = true := by first | exact plainFor_of_name (by first | (simp [plainName, overriddenIn]; done) | decide +kernel) | decide +kernel
theorem pn29 : plainFor (⟨"java/lang/Math", "max", "(II)I"⟩ : MethodName) = true := by first | exact plainFor_of_name (by first | (simp [plainName, overriddenIn]; done) | decide +kernel) | decide +kernel
theorem pn30 : plainFor (⟨"java/util/ArrayList", "toArray", "()[Ljava/lang/Object;"⟩ : MethodName) = true := by first | exact plainFor_of_name (by first | (simp [plainName, overriddenIn]; done) | decide +kernel) | decide +kernel
theorem pn31 : plainFor (⟨"java/util/Arrays", "copyOf", "([Ljava/lang/Object;I)[Ljava/lang/Object;"⟩ : MethodName) = true := by first | exact plainFor_of_name (by first | (simp [plainName, overriddenIn]; done) | decide +kernel) | decide +kernel
theorem pn32 : plainFor (⟨"java/util/Arrays", "copyOf", "([Ljava/lang/Object;ILjava/lang/Class;)[Ljava/lang/Object;"⟩ : MethodName) = true := by first | exact plainFor_of_name (by first | (simp [plainName, overriddenIn]; done) | decide +kernel) | decide +kernel
theorem pn33 : plainFor (⟨"java/lang/Math", "min", "(II)I"⟩ : MethodName) = true := by first | exact plainFor_of_name (by first | (simp [plainName, overriddenIn]; done) | decide +kernel) | decide +kernel
theorem pn34 : plainFor (⟨"java/util/List", "of", "([Ljava/lang/Object;)Ljava/util/List;"⟩ : MethodName) = true := by first | exact plainFor_of_name (by first | (simp [plainName, overriddenIn]; done) | decide +kernel) | decide +kernel
theorem pn35 : plainFor (⟨"java/util/ImmutableCollections", "listFromArray", "([Ljava/lang/Object;)Ljava/util/List;"⟩ : MethodName) = true := by first | exact plainFor_of_name (by first | (simp [plainName, overriddenIn]; done) | decide +kernel) | decide +kernel
theorem pn36 : plainFor (⟨"java/util/Objects", "requireNonNull", "(Ljava/lang/Object;)Ljava/lang/Object;"⟩ : MethodName) = true := by first | exact plainFor_of_name (by first | (simp [plainName, overriddenIn]; done) | decide +kernel) | decide +kernel
theorem pn37 : plainFor (⟨"java/util/ImmutableCollections$ListN", "<init>", "([Ljava/lang/Object;Z)V"⟩ : MethodName) = true := by first | exact plainFor_of_name (by first | (simp [plainName, overriddenIn]; done) | decide +kernel) | decide +kernel
theorem pn38 : plainFor (⟨"java/util/ImmutableCollections$AbstractImmutableList", "<init>", "()V"⟩ : MethodName) = true := by first | exact plainFor_of_name (by first | (simp [plainName, overriddenIn]; done) | decide +kernel) | decide +kernel
theorem pn39 : plainFor (⟨"java/util/ImmutableCollections$AbstractImmutableCollection", "<init>", "()V"⟩ : MethodName) = true := by first | exact plainFor_of_name (by first | (simp [plainName, overriddenIn]; done) | decide +kernel) | decide +kernel
theorem pn40 : plainFor (⟨"java/util/ImmutableCollections$List12", "<init>", "(Ljava/lang/Object;Ljava/lang/Object;)V"⟩ : MethodName) = true := by first | exact plainFor_of_name (by first | (simp [plainName, overriddenIn]; done) | decide +kernel) | decide +kernel
theorem pn41 : plainFor (⟨"java/util/ImmutableCollections$List12", "size", "()I"⟩ : MethodName) = true := by first | exact plainFor_of_name (by first | (simp [plainName, overriddenIn]; done) | decide +kernel) | decide +kernel
theorem pn42 : plainFor (⟨"java/util/ImmutableCollections$List12", "<init>", "(Ljava/lang/Object;)V"⟩ : MethodName) = true := by first | exact plainFor_of_name (by first | (simp [plainName, overriddenIn]; done) | decide +kernel) | decide +kernel
theorem pn43 : plainFor (⟨"java/util/ImmutableCollections$ListN", "get", "(I)Ljava/lang/Object;"⟩ : MethodName) = true := by first | exact plainFor_of_name (by first | (simp [plainName, overriddenIn]; done) | decide +kernel) | decide +kernel
theorem pn46 : plainFor (⟨"com/example/packwright/packwright/io/BuildAssemblerRoutineOfLinePinLaw", "isRtn", "(J)Z"⟩ : MethodName) = true := by first | exact plainFor_of_name (by first | (simp [plainName, overriddenIn]; done) | decide +kernel) | decide +kernel
theorem pn47 : plainFor (⟨"com/example/packwright/packwright/io/BuildAssemblerRoutineOfLinePinLaw", "isZero", "(J)Z"⟩ : MethodName) = true := by first | exact plainFor_of_name (by first | (simp [plainName, overriddenIn]; done) | decide +kernel) | decide +kernel
theorem pn48 : plainFor x = true := by first | exact plainFor_of_name (by first | (simp [plainName, overriddenIn]; done) | decide +kernel) | decide +kernel
theorem pd0 : parseMethodDescriptor "(C)Z" = some ⟨[.char], some .boolean⟩ := by decide +kernel
theorem pd1 : parseMethodDescriptor "(C)[B" = some ⟨[.char], some (.array .byte)⟩ := by decide +kernel
theorem pd2 : parseMethodDescriptor "([BB)V" = some ⟨[(.array .byte), .byte], none⟩ := by decide +kernel
theorem pd3 : parseMethodDescriptor "(J)I" = some ⟨[.long], some .int⟩ := by decide +kernel
theorem pd4 : parseMethodDescriptor "(JI)C" = some ⟨[.long, .int], some .char⟩ := by decide +kernel
theorem pd5 : parseMethodDescriptor "([C)V" = some ⟨[(.array .char)], none⟩ := by decide +kernel
theorem pd6 : parseMethodDescriptor "(C)Ljava/lang/String;" = some ⟨[.char], some (.object "java/lang/String")⟩ := by decide +kernel
theorem pd7 : parseMethodDescriptor "()V" = some ⟨[], none⟩ := by decide +kernel
theorem pd8 : parseMethodDescriptor "(Ljava/lang/Object;)Ljava/lang/Object;" = some ⟨[(.object "java/lang/Object")], some (.object "java/lang/Object")⟩ := by decide +kernel
theorem pd9 : parseMethodDescriptor "(J)Ljava/lang/String;" = some ⟨[.long], some (.object "java/lang/String")⟩ := by decide +kernel
theorem pd10 : parseMethodDescriptor "()Z" = some ⟨[], some .boolean⟩ := by decide +kernel
theorem pd11 : parseMethodDescriptor "()Ljava/util/List;" = some ⟨[], some (.object "java/util/List")⟩ := by decide +kernel
theorem pd12 : parseMethodDescriptor "(Ljava/util/Collection;)Ljava/util/List;" = some ⟨[(.object "java/util/Collection")], some (.object "java/util/List")⟩ := by decide +kernel
theorem pd13 : parseMethodDescriptor "(Ljava/lang/String;Ljava/util/List;Ljava/lang/String;)V" = some ⟨[(.object "java/lang/String"), (.object "java/util/List"), (.object "java/lang/String")], none⟩ := by decide +kernel
theorem pd14 : parseMethodDescriptor "()I" = some ⟨[], some .int⟩ := by decide +kernel
theorem pd15 : parseMethodDescriptor "(Lcom/example/packwright/packwright/model/Node;)Ljava/lang/String;" = some ⟨[(.object "com/example/packwright/packwright/model/Node")], some (.object "java/lang/String")⟩ := by decide +kernel
theorem pd16 : parseMethodDescriptor "(II)I" = some ⟨[.int, .int], some .int⟩ := by decide +kernel
theorem pd17 : parseMethodDescriptor "(I)[Ljava/lang/Object;" = some ⟨[.int], some (.array (.object "java/lang/Object"))⟩ := by decide +kernel
theorem pd18 : parseMethodDescriptor "()[Ljava/lang/Object;" = some ⟨[], some (.array (.object "java/lang/Object"))⟩ := by decide +kernel
theorem pd19 : parseMethodDescriptor "(Ljava/lang/Object;[Ljava/lang/Object;I)V" = some ⟨[(.object "java/lang/Object"), (.array (.object "java/lang/Object")), .int], none⟩ := by decide +kernel
theorem pd20 : parseMethodDescriptor "(Ljava/lang/Object;)Z" = some ⟨[(.object "java/lang/Object")], some .boolean⟩ := by decide +kernel
theorem pd21 : parseMethodDescriptor "([Ljava/lang/Object;ILjava/lang/Class;)[Ljava/lang/Object;" = some ⟨[(.array (.object "java/lang/Object")), .int, (.object "java/lang/Class")], some (.array (.object "java/lang/Object"))⟩ := by decide +kernel
theorem pd22 : parseMethodDescriptor "([Ljava/lang/Object;I)[Ljava/lang/Object;" = some ⟨[(.array (.object "java/lang/Object")), .int], some (.array (.object "java/lang/Object"))⟩ := by decide +kernel
theorem pd23 : parseMethodDescriptor "(Ljava/lang/Object;)V" = some ⟨[(.object "java/lang/Object")], none⟩ := by decide +kernel
theorem pd24 : parseMethodDescriptor "([Ljava/lang/Object;)Ljava/util/List;" = some ⟨[(.array (.object "java/lang/Object"))], some (.object "java/util/List")⟩ := by decide +kernel
theorem pd25 : parseMethodDescriptor "(Ljava/lang/Object;Ljava/lang/Object;)V" = some ⟨[(.object "java/lang/Object"), (.object "java/lang/Object")], none⟩ := by decide +kernel
theorem pd26 : parseMethodDescriptor "([Ljava/lang/Object;Z)V" = some ⟨[(.array (.object "java/lang/Object")), .boolean], none⟩ := by decide +kernel
theorem pd27 : parseMethodDescriptor "(I)Ljava/lang/Object;" = some ⟨[.int], some (.object "java/lang/Object")⟩ := by decide +kernel
theorem pd28 : parseMethodDescriptor "(J)Z" = some ⟨[.long], some .boolean⟩ := by decide +kernel
abbrev Rrm10 : Room := { frames := 0, cells := 0, slots := 0, locals := 0 }
def Qrm10 (Z : State) (de : Addr) (el : Addr) (em : Addr) (c : Int32) (h0 : Heap) (v : Option Value) (vm : Vm) (h : Heap) : Prop := v = some (.int (1 : Int32)) ∧ h = h0
theorem rm10 (hcx : Cx Z a0 zc de kde em el ee kee mr) (c : Int32) (h0 : Heap) (O0 : Old Z Z.heap.size h0) (Pr0 : ¬ c < 0 ∧ ¬ (255 : Int32) < c) : Met l Z consts_1 (⟨"java/lang/StringLatin1", "canEncode", "(C)Z"⟩ : MethodName) jdk_43_method_3_code 1 (some .boolean) [] Rrm10 [] #[(.int c)] h0 (Qrm10 Z de el em c h0) := by
  have ⟨hw, hEL, O2, P5, OD, AD, XM, OM, OL, XL, FL, AE, MR⟩ := hcx
  refine Met.start (a0 := a0) (Ls := #[vI c]) pn10 hEL O0 (fun m => by first | (simp [entryFrame, mkF, argsToLocals, Value.category]; done) | rfl) ?_
  intro p e s m below meth cc T0 vm0 X0 sf0_ hby hml hret hnm
  have hx := X0.hx
  have D : ∀ {n r}, decode jdk_43_method_3_code n = r → decode cc.code n = r := fun d => hb hby d
  have zz := X0.ge
  have A0 := X0.at
  refine Gets.via (fun _ k => (XS.iloadN A0 hx rfl (D d10_0) rfl (XS.sipush A0 hx rfl (D d10_1) (XS.icmpNo A0 hx rfl (D d10_4) rfl (Jvm.Free.XT.ii_gt_f Pr0.2) k)))) ?_
  refine Gets.via (fun _ k => (XS.iconst A0 hx rfl (D d10_7) (XS.goto A0 hx rfl (pc0 := 8) (pc' := 12) rfl (D d10_8) (by decide) (by decide) k))) ?_
  exact X0.retI hret (by decide) (by simp) (D d10_12) (by decide) (by decide) (fun vmE CE => ⟨rfl, rfl⟩)
abbrev Rrm11 : Room := { frames := 0, cells := 1, slots := 1, locals := 0 }
def Qrm11 (Z : State) (de : Addr) (el : Addr) (em : Addr) (c : Int32) (h0 : Heap) (v : Option Value) (vm : Vm) (h : Heap) : Prop := ∃ (t : Addr) (kb : ClassId), v = some (.ref t) ∧ Keep h0 h [] ∧ Arv Z h t kb .byte (1 : Int32) [(.int (c.toInt8.toInt32))] (.int (0 : Int32)) ∧ h0.size ≤ t
theorem rm11 (hcx : Cx Z a0 zc de kde em el ee kee mr) (c : Int32) (h0 : Heap) (O0 : Old Z Z.heap.size h0)  : Met l Z consts_1 (⟨"java/lang/StringLatin1", "toBytes", "(C)[B"⟩ : MethodName) jdk_43_method_46_code 1 (some (.array .byte)) [] Rrm11 [] #[(.int c)] h0 (Qrm11 Z de el em c h0) := by
  have ⟨hw, hEL, O2, P5, OD, AD, XM, OM, OL, XL, FL, AE, MR⟩ := hcx
  refine Met.start (a0 := a0) (Ls := #[vI c]) pn11 hEL O0 (fun m => by first | (simp [entryFrame, mkF, argsToLocals, Value.category]; done) | rfl) ?_
  intro p e s m below meth cc T0 vm0 X0 sf0_ hby hml hret hnm
  have hx := X0.hx
  have D : ∀ {n r}, decode jdk_43_method_46_code n = r → decode cc.code n = r := fun d => hb hby d
  have zz := X0.ge
  have A0 := X0.at
  refine Gets.via (fun _ k => (XS.iconst A0 hx rfl (D d11_0) k)) ?_
  refine X0.newA (aty := .byte) (w33 hw) rfl (D d11_1) rfl (by decide) (cap := 1) (by decide) (by decide) (by decide) (by decide) fun T1 h1 a1 k1 X1 C1 E1 g1 S1 V1 => ?_
  have z1 := E1.1
  have l1 := ltA V1.lt
  have V1_ : Arv Z h1 a1 k1 .byte (1 : Int32) [(.int (0 : Int32))] (.int (0 : Int32)) := padN V1 1
  have A2 := X1.at
  refine Gets.via (fun _ k => (XS.dup A2 hx rfl (D d11_3) rfl rfl (XS.iconst A2 hx rfl (D d11_4) (XS.iloadN A2 hx rfl (D d11_5) rfl (XS.i2b A2 hx rfl (D d11_6) rfl k))))) ?_
  refine X1.stB V1_ (i := 0) (by decide) (by decide) (Nat.le_of_ble_eq_true rfl) (by decide) (v := (c.toInt8.toInt32)) (nar_b _) S1 (leA (by omega)) rfl rfl (D d11_7) fun T3 h3 X3 C3 K3 V3 => ?_
  have z3 := K3.1
  have V3_ : Arv Z h3 a1 k1 .byte (1 : Int32) [(.int (c.toInt8.toInt32))] (.int (0 : Int32)) := V3
  show Gets p e below _ (T3.setTop (mkF m 8 #[vI c] [(.ref a1)]))
  exact X3.retA hret rfl rfl rfl (D d11_8) (by decide) (by decide) (fun vmE CE => ⟨a1, k1, rfl, (((Keep.refl h0 []).ext E1).trans K3 (allS (Or.inr (leA (by omega))) all0)), V3_, (leA (by omega))⟩)
abbrev Rrm12 : Room := { frames := 1, cells := 0, slots := 0, locals := 12 }
def Qrm12 (Z : State) (de : Addr) (el : Addr) (em : Addr) (x : Addr) (t : Addr) (h0 : Heap) (v : Option Value) (vm : Vm) (h : Heap) : Prop := v = none ∧ Keep h0 h [x] ∧ Exa Z h x "java/lang/String" ∧ Fld Z h x "java/lang/String" "coder" "B" (.int (0 : Int32)) ∧ Fld Z h x "java/lang/String" "value" "[B" (.ref t)
theorem rm12 (hcx : Cx Z a0 zc de kde em el ee kee mr) (x : Addr) (t : Addr) (h0 : Heap) (O0 : Old Z Z.heap.size h0) (Pr0 : Exa Z h0 x "java/lang/String") (Pr1 : Fld Z h0 x "java/lang/String" "coder" "B" (.int (0 : Int32))) (Pr2 : Fld Z h0 x "java/lang/String" "value" "[B" .null) (Pr3 : Z.heap.size ≤ x) : Met l Z consts_1 (⟨"java/lang/String", "<init>", "([BB)V"⟩ : MethodName) jdk_42_method_151_code 3 (none) [] Rrm12 [x] #[(.ref x), (.ref t), (.int (0 : Int32))] h0 (Qrm12 Z de el em x t h0) := by
  have ⟨hw, hEL, O2, P5, OD, AD, XM, OM, OL, XL, FL, AE, MR⟩ := hcx
  refine Met.start (a0 := a0) (Ls := #[vR x, vR t, vI (0 : Int32)]) pn12 hEL O0 (fun m => by first | (simp [entryFrame, mkF, argsToLocals, Value.category]; done) | rfl) ?_
  intro p e s m below meth cc T0 vm0 X0 sf0_ hby hml hret hnm
  have hx := X0.hx
  have D : ∀ {n r}, decode jdk_42_method_151_code n = r → decode cc.code n = r := fun d => hb hby d
  have zz := X0.ge
  have A0 := X0.at
  have l1 := ltA Pr0.lt
  have s2 := sf0_ x (List.mem_of_getElem? (i := 0) rfl)
  refine Gets.via (fun _ k => (XS.aloadN A0 hx rfl (D d12_0) rfl rfl k)) ?_
  refine X0.objInit (w25 hw) (w26 hw) (w27 hw) rfl (sz hml rfl) rfl (D d12_1) (by decide) (W := 0) (mroom rfl rfl) (by decide) fun T3 X3 => ?_
  have A4 := X3.at
  refine Gets.via (fun _ k => (XS.aloadN A4 hx rfl (D d12_4) rfl rfl (XS.aloadN A4 hx rfl (D d12_5) rfl rfl k))) ?_
  refine X3.putF (host := "") (Or.inl (w42 hw)) Via.refl Pr2 Pr0 (Or.inr ⟨(w43 hw), rfl, hnm⟩) (w16 hw) (ty := (.array .byte)) (by decide) rfl rfl (leA (by omega)) s2 rfl rfl (D d12_6) fun T5 h5 X5 C5 W5 F5 Z5 => ?_
  have z5 := W5.size
  show Gets p e below _ (T5.setTop (mkF m 9 #[vR x, vR t, vI (0 : Int32)] []))
  have A6 := X5.at
  refine Gets.via (fun _ k => (XS.aloadN A6 hx rfl (D d12_9) rfl rfl (XS.iloadN A6 hx rfl (D d12_10) rfl k))) ?_
  have f8 := Pr1.other W5 (Or.inr (slot_ne (t := .byte) (t' := (.array .byte)) (Or.inr (w41 hw)) (Or.inr (w43 hw)) (by decide) (by decide) (by decide)))
  have f9 := C5.safe (x := x) (ltA (by omega)) s2
  refine X5.putF (host := "") (Or.inl (w40 hw)) Via.refl f8 Z5 (Or.inr ⟨(w41 hw), rfl, hnm⟩) (w16 hw) (ty := .byte) (by decide) (by decide) (by decide) (leA (by omega)) f9 rfl rfl (D d12_11) fun T7 h7 X7 C7 W7 F7 Z7 => ?_
  have z7 := W7.size
  have f10 := F5.other W7 (Or.inr (slot_ne (t := (.array .byte)) (t' := .byte) (Or.inr (w43 hw)) (Or.inr (w41 hw)) (by decide) (by decide) (by decide)))
  exact X7.retV hret (D d12_14) (by decide) (by decide) (fun vmE CE => ⟨rfl, (((Keep.refl h0 [x]).wr W5 (Or.inl (List.mem_of_getElem? (i := 0) rfl))).wr W7 (Or.inl (List.mem_of_getElem? (i := 0) rfl))), Z7, F7, f10⟩)
abbrev Rrm9 : Room := { frames := 2, cells := 2, slots := 5, locals := 27 }
def Qrm9 (Z : State) (de : Addr) (el : Addr) (em : Addr) (c : Int32) (h0 : Heap) (v : Option Value) (vm : Vm) (h : Heap) : Prop := ∃ (a : Addr) (t : Addr) (kb : ClassId), v = some (.ref a) ∧ Keep h0 h [] ∧ Str Z h a t kb [c] ∧ h0.size ≤ a ∧ h0.size ≤ t
theorem rm9 (hcx : Cx Z a0 zc de kde em el ee kee mr) (c : Int32) (h0 : Heap) (O0 : Old Z Z.heap.size h0) (Pr0 : ¬ c < 0 ∧ ¬ (255 : Int32) < c) : Met l Z consts_1 (⟨"java/lang/String", "valueOf", "(C)Ljava/lang/String;"⟩ : MethodName) jdk_42_method_139_code 1 (some (.object "java/lang/String")) [] Rrm9 [] #[(.int c)] h0 (Qrm9 Z de el em c h0) := by
  have ⟨hw, hEL, O2, P5, OD, AD, XM, OM, OL, XL, FL, AE, MR⟩ := hcx
  refine Met.start (a0 := a0) (Ls := #[vI c]) pn9 hEL O0 (fun m => by first | (simp [entryFrame, mkF, argsToLocals, Value.category]; done) | rfl) ?_
  intro p e s m below meth cc T0 vm0 X0 sf0_ hby hml hret hnm
  have hx := X0.hx
  have D : ∀ {n r}, decode jdk_42_method_139_code n = r → decode cc.code n = r := fun d => hb hby d
  have zz := X0.ge
  have A0 := X0.at
  refine X0.getS (host := "") (Or.inl (w28 hw)) Via.refl (X0.sta O2) rfl (D d9_0) fun T1 X1 => ?_
  have A2 := X1.at
  refine Gets.via (fun _ k => (XS.ifNo A2 hx rfl (D d9_3) rfl (Jvm.Free.XT.i0_eq_f P5) k)) ?_
  refine Gets.via (fun _ k => (XS.iloadN A2 hx rfl (D d9_6) rfl k)) ?_
  refine X1.callS (W := 0) (w47 hw) (w48 hw) (w49 hw) (w50 hw) (by decide) (X1.payM (sf := []) (rm10 hcx c h0 X1.old Pr0) sf0 (w50 hw) (w49 hw) (by decide) (by decide)) rfl (sz hml rfl) (argsL := [(.int c)]) (rest := []) (lenOf pd0 rfl) rfl rfl (mroom rfl rfl) (D d9_7) (by decide) (by decide) fun T3 h3 vm3 v3 X3 C3 z3 q3 => ?_
  obtain ⟨rfl, K3⟩ := q3
  rw [K3] at X3 C3
  have A4 := X3.at
  refine Gets.via (fun _ k => (XS.ifNo A4 hx rfl (D d9_10) rfl (Jvm.Free.XT.i0_eq_f (by decide)) k)) ?_
  show Gets p e below _ (T3.setTop (mkF m 13 #[vI c] []))
  refine X3.new (w51 hw) (w16 hw) (w17 hw) rfl (D d9_13) (by decide) (by decide) fun T5 h5 a5 X5 C5 E5 g5 Z5 S5 D5 => ?_
  have z5 := E5.1
  have l5 := ltA Z5.lt
  have A6 := X5.at
  refine Gets.via (fun _ k => (XS.dup A6 hx rfl (D d9_16) rfl rfl (XS.iloadN A6 hx rfl (D d9_17) rfl k))) ?_
  refine X5.callS (W := 2) (w52 hw) (w53 hw) (w49 hw) (w54 hw) (by decide) (X5.payM (sf := []) (rm11 hcx c h5 X5.old ) sf0 (w54 hw) (w49 hw) (by decide) (by decide)) rfl (sz hml rfl) (argsL := [(.int c)]) (rest := [(.ref a5), (.ref a5)]) (lenOf pd1 rfl) rfl rfl (mroom rfl rfl) (D d9_18) (by decide) (by decide) fun T7 h7 vm7 v7 X7 C7 z7 q7 => ?_
  obtain ⟨t7, kb7, rfl, K7, g7_0, g7_1⟩ := q7
  have l8 := ltA g7_0.lt
  have A9 := X7.at
  refine Gets.via (fun _ k => (XS.iconst A9 hx rfl (D d9_21) k)) ?_
  have f10 := Z5.keep K7
  have f11 := (D5 (Or.inr (w41 hw)) (ty := .byte) (by decide) : Fld Z h5 a5 "java/lang/String" "coder" "B" (.int (0 : Int32))).keep K7 nin0
  have f12 := (D5 (Or.inr (w43 hw)) (ty := (.array .byte)) (by decide) : Fld Z h5 a5 "java/lang/String" "value" "[B" .null).keep K7 nin0
  have f13 := C7.safe (x := a5) (ltA (by omega)) S5
  refine X7.callI (y := (⟨"java/lang/String", "<init>", "([BB)V"⟩ : MethodName)) (W := 1) rfl (w55 hw) (w56 hw) (w57 hw) (by decide) (X7.payM (sf := [a5]) (rm12 hcx a5 t7 h7 X7.old f10 f11 f12 (leA (by omega))) (sfS f13 sf0) (w57 hw) (w17 hw) (by decide) (by decide)) rfl (sz hml rfl) (a := a5) (argsL := [(.ref t7), (.int (0 : Int32))]) (rest := [(.ref a5)]) (lenOf pd2 rfl) rfl rfl (mroom rfl rfl) (D d9_22) (by decide) (by decide) fun T14 h14 vm14 v14 X14 C14 z14 q14 => ?_
  obtain ⟨rfl, K14, g14_0, g14_1, g14_2⟩ := q14
  have l15 := ltA g14_0.lt
  show Gets p e below _ (T14.setTop (mkF m 25 #[vI c] [(.ref a5)]))
  have f16 := g7_0.keep K14 (ninS (neA (by omega)) nin0)
  have f17 : Str Z h14 a5 t7 kb7 [c] := ⟨g14_0, g14_1, g14_2, f16, (allI Pr0 allN), Nat.le_of_ble_eq_true rfl⟩
  exact X14.retA hret rfl rfl rfl (D d9_25) (by decide) (by decide) (fun vmE CE => ⟨a5, t7, kb7, rfl, ((((Keep.refl h0 []).ext E5).trans K7 all0).trans K14 (allS (Or.inr (leA (by omega))) all0)), f17, (leA (by omega)), (leA (by omega))⟩)
abbrev RrmMode : Room := { frames := 0, cells := 0, slots := 0, locals := 0 }
def QrmMode (Z : State) (de : Addr) (el : Addr) (em : Addr) (s0 : Int64) (h0 : Heap) (v : Option Value) (vm : Vm) (h : Heap) : Prop := v = some (.int ((s0 &&& (3 : Int64)).toInt32)) ∧ h = h0
theorem rmMode (hcx : Cx Z a0 zc de kde em el ee kee mr) (s0 : Int64) (h0 : Heap) (O0 : Old Z Z.heap.size h0)  : Met l Z consts_1 (⟨"com/example/packwright/packwright/io/BuildAssemblerRoutineOfLinePinLaw", "mode", "(J)I"⟩ : MethodName) method_3_code 2 (some .int) [] RrmMode [] #[(.long s0)] h0 (QrmMode Z de el em s0 h0) := by
  have ⟨hw, hEL, O2, P5, OD, AD, XM, OM, OL, XL, FL, AE, MR⟩ := hcx
  refine Met.start (a0 := a0) (Ls := #[.val (.long s0), .second]) pn1 hEL O0 (fun m => by first | (simp [entryFrame, mkF, argsToLocals, Value.category]; done) | rfl) ?_
  intro p e s m below meth cc T0 vm0 X0 sf0_ hby hml hret hnm
  have hx := X0.hx
  have D : ∀ {n r}, decode method_3_code n = r → decode cc.code n = r := fun d => hb hby d
  have zz := X0.ge
  have A0 := X0.at
  refine Gets.via (fun _ k => (XS.lloadN A0 hx rfl (D d1_0) rfl k)) ?_
  refine X0.ldcJ (w10 hw) rfl (D d1_1) ?_
  refine Gets.via (fun _ k => (XS.land A0 hx rfl (D d1_4) rfl (XS.l2i A0 hx rfl (D d1_5) rfl k))) ?_
  exact X0.retI hret rfl (by simp) (D d1_6) (by decide) (by decide) (fun vmE CE => ⟨rfl, rfl⟩)
abbrev RrmCh : Room := { frames := 0, cells := 0, slots := 0, locals := 0 }
def QrmCh (Z : State) (de : Addr) (el : Addr) (em : Addr) (s0 : Int64) (sh : Int32) (h0 : Heap) (v : Option Value) (vm : Vm) (h : Heap) : Prop := v = some (.int ((Jvm.Free.XT.ushrL s0 sh &&& (255 : Int64)).toInt32)) ∧ h = h0
theorem rmCh (hcx : Cx Z a0 zc de kde em el ee kee mr) (s0 : Int64) (sh : Int32) (h0 : Heap) (O0 : Old Z Z.heap.size h0)  : Met l Z consts_1 (⟨"com/example/packwright/packwright/io/BuildAssemblerRoutineOfLinePinLaw", "ch", "(JI)C"⟩ : MethodName) method_2_code 3 (some .char) [] RrmCh [] #[(.long s0), (.int sh)] h0 (QrmCh Z de el em s0 sh h0) := by
  have ⟨hw, hEL, O2, P5, OD, AD, XM, OM, OL, XL, FL, AE, MR⟩ := hcx
  refine Met.start (a0 := a0) (Ls := #[.val (.long s0), .second, vI sh]) pn2 hEL O0 (fun m => by first | (simp [entryFrame, mkF, argsToLocals, Value.category]; done) | rfl) ?_
  intro p e s m below meth cc T0 vm0 X0 sf0_ hby hml hret hnm
  have hx := X0.hx
  have D : ∀ {n r}, decode method_2_code n = r → decode cc.code n = r := fun d => hb hby d
  have zz := X0.ge
  have A0 := X0.at
  refine Gets.via (fun _ k => (XS.lloadN A0 hx rfl (D d2_0) rfl (XS.iloadN A0 hx rfl (D d2_1) rfl (Jvm.Free.XT.lushr A0 hx rfl (D d2_2) rfl k)))) ?_
  refine X0.ldcJ (w15 hw) rfl (D d2_3) ?_
  refine Gets.via (fun _ k => (XS.land A0 hx rfl (D d2_6) rfl (XS.l2i A0 hx rfl (D d2_7) rfl (i2cV A0 hx rfl (D d2_8) rfl (v := (((Jvm.Free.XT.ushrL s0 sh) &&& (255 : Int64)).toInt32)) (i2c_small (m255L _)) k)))) ?_
  show Gets p e below _ (T0.setTop (mkF m 9 #[.val (.long s0), .second, vI sh] [(.int (((Jvm.Free.XT.ushrL s0 sh) &&& (255 : Int64)).toInt32))]))
  exact X0.retI hret (nar_small (m255L _)) (by simp) (D d2_9) (by decide) (by decide) (fun vmE CE => ⟨rfl, rfl⟩)
abbrev RrmSub : Room := { frames := 4, cells := 3, slots := 16, locals := 66 }
def QrmSub (Z : State) (de : Addr) (el : Addr) (em : Addr) (s0 : Int64) (h0 : Heap) (v : Option Value) (vm : Vm) (h : Heap) : Prop := ∃ (a : Addr) (b : Addr) (kb : ClassId) (cs : List Int32), v = some (.ref a) ∧ Keep h0 h [] ∧ Str Z h a b kb cs ∧ cs = subS s0
theorem rmSub (hcx : Cx Z a0 zc de kde em el ee kee mr) (s0 : Int64) (h0 : Heap) (O0 : Old Z Z.heap.size h0)  : Met l Z consts_1 (⟨"com/example/packwright/packwright/io/BuildAssemblerRoutineOfLinePinLaw", "sub", "(J)Ljava/lang/String;"⟩ : MethodName) method_4_code 4 (some (.object "java/lang/String")) [] RrmSub [] #[(.long s0)] h0 (QrmSub Z de el em s0 h0) := by
  have ⟨hw, hEL, O2, P5, OD, AD, XM, OM, OL, XL, FL, AE, MR⟩ := hcx
  refine Met.start (a0 := a0) (Ls := #[.val (.long s0), .second, .unset, .unset]) pn0 hEL O0 (fun m => by first | (simp [entryFrame, mkF, argsToLocals, Value.category]; done) | rfl) ?_
  intro p e s m below meth cc T0 vm0 X0 sf0_ hby hml hret hnm
  have hx := X0.hx
  have D : ∀ {n r}, decode method_4_code n = r → decode cc.code n = r := fun d => hb hby d
  have zz := X0.ge
  have A0 := X0.at
  refine Gets.via (fun _ k => (XS.lloadN A0 hx rfl (D d0_0) rfl k)) ?_
  refine X0.callS (W := 0) (w7 hw) (w8 hw) (w5 hw) (w9 hw) (by decide) (X0.payM (sf := []) (rmMode hcx s0 h0 X0.old ) sf0 (w9 hw) (w5 hw) (by decide) (by decide)) rfl (sz hml rfl) (argsL := [(.long s0)]) (rest := []) (lenOf pd3 rfl) rfl rfl (mroom rfl rfl) (D d0_1) (by decide) (by decide) fun T1 h1 vm1 v1 X1 C1 z1 q1 => ?_
  obtain ⟨rfl, K1⟩ := q1
  rw [K1] at X1 C1
  have A2 := X1.at
  refine Gets.via (fun _ k => (XS.istoreN A2 hx rfl (D d0_4) rfl (l' := #[.val (.long s0), .second, vI ((s0 &&& (3 : Int64)).toInt32), .unset]) rfl (XS.iloadN A2 hx rfl (D d0_5) rfl k))) ?_
  by_cases b6 : ((s0 &&& (3 : Int64)).toInt32) = (0 : Int32)
  · refine Gets.via (fun _ k => (XS.ifNo A2 hx rfl (D d0_6) rfl (Jvm.Free.XT.i0_ne_f b6) k)) ?_
    refine X1.ldcC (w245 hw) (wSt hw) (by decide) (vs := [(.int (82 : Int32)), (.int (84 : Int32)), (.int (78 : Int32))]) (z := (3 : Int32)) ⟨by decide, by decide⟩ (by decide) (by decide) rfl (D d0_9) (n := 12) (by decide) (by decide) (by decide) (by decide) fun T3 h3 vm3 a3 yb3 k3 X3 C3 E3 Z3 Fc3 Fv3 V3 q3 => ?_
    have z3 := E3.1
    have l3 := ltA Z3.lt
    have lb3 := ltA V3.lt
    show Gets p e below _ (T3.setTop (mkF m 11 #[.val (.long s0), .second, vI ((s0 &&& (3 : Int64)).toInt32), .unset] [(.ref a3)]))
    have f4 : Str Z h3 a3 yb3 k3 [(82 : Int32), (84 : Int32), (78 : Int32)] := ⟨Z3, Fc3, Fv3, V3, (allI ⟨by decide, by decide⟩ (allI ⟨by decide, by decide⟩ (allI ⟨by decide, by decide⟩ allN))), Nat.le_of_ble_eq_true rfl⟩
    exact X3.retA hret rfl rfl rfl (D d0_11) (by decide) (by decide) (fun vmE CE => ⟨a3, yb3, k3, [(82 : Int32), (84 : Int32), (78 : Int32)], rfl, ((Keep.refl h0 []).ext E3), f4, (by rw [subS, if_pos b6])⟩)
  · refine Gets.via (fun _ k => (XS.ifYes A2 hx rfl (pc0 := 6) (pc' := 12) rfl (D d0_6) rfl (Jvm.Free.XT.i0_ne_t b6) (by decide) (by decide) k)) ?_
    refine Gets.via (fun _ k => (XS.iloadN A2 hx rfl (D d0_12) rfl (XS.iconst A2 hx rfl (D d0_13) k))) ?_
    by_cases b14 : ((s0 &&& (3 : Int64)).toInt32) = (1 : Int32)
    · refine Gets.via (fun _ k => (XS.icmpNo A2 hx rfl (D d0_14) rfl (Jvm.Free.XT.ii_ne_f b14) k)) ?_
      refine X1.ldcC (w153 hw) (wSt hw) (by decide) (vs := [(.int (48 : Int32))]) (z := (1 : Int32)) ⟨by decide, by decide⟩ (by decide) (by decide) rfl (D d0_17) (n := 4) (by decide) (by decide) (by decide) (by decide) fun T5 h5 vm5 a5 yb5 k5 X5 C5 E5 Z5 Fc5 Fv5 V5 q5 => ?_
      have z5 := E5.1
      have l5 := ltA Z5.lt
      have lb5 := ltA V5.lt
      have f6 : Str Z h5 a5 yb5 k5 [(48 : Int32)] := ⟨Z5, Fc5, Fv5, V5, (allI ⟨by decide, by decide⟩ allN), Nat.le_of_ble_eq_true rfl⟩
      exact X5.retA hret rfl rfl rfl (D d0_19) (by decide) (by decide) (fun vmE CE => ⟨a5, yb5, k5, [(48 : Int32)], rfl, ((Keep.refl h0 []).ext E5), f6, (by rw [subS, if_neg b6, if_pos b14])⟩)
    · refine Gets.via (fun _ k => (XS.icmpYes A2 hx rfl (pc0 := 14) (pc' := 20) rfl (D d0_14) rfl (Jvm.Free.XT.ii_ne_t b14) (by decide) (by decide) k)) ?_
      refine Gets.via (fun _ k => (XS.iloadN A2 hx rfl (D d0_20) rfl (XS.iconst A2 hx rfl (D d0_21) k))) ?_
      by_cases b22 : ((s0 &&& (3 : Int64)).toInt32) = (2 : Int32)
      · refine Gets.via (fun _ k => (XS.icmpNo A2 hx rfl (D d0_22) rfl (Jvm.Free.XT.ii_ne_f b22) k)) ?_
        refine Gets.via (fun _ k => (XS.iconst A2 hx rfl (D d0_25) k)) ?_
        show Gets p e below _ (T1.setTop (mkF m 26 #[.val (.long s0), .second, vI ((s0 &&& (3 : Int64)).toInt32), .unset] [(.int (3 : Int32))]))
        refine X1.newA (aty := .char) (w11 hw) rfl (D d0_26) rfl (by decide) (cap := 3) (by decide) (by decide) (by decide) (by decide) fun T7 h7 a7 k7 X7 C7 E7 g7 S7 V7 => ?_
        have z7 := E7.1
        have l7 := ltA V7.lt
        have V7_ : Arv Z h7 a7 k7 .char (3 : Int32) [(.int (0 : Int32)), (.int (0 : Int32)), (.int (0 : Int32))] (.int (0 : Int32)) := padN V7 3
        have A8 := X7.at
        refine Gets.via (fun _ k => (XS.astoreN A8 hx rfl (D d0_28) rfl rfl (l' := #[.val (.long s0), .second, vI ((s0 &&& (3 : Int64)).toInt32), vR a7]) rfl (XS.aloadN A8 hx rfl (D d0_29) rfl rfl (XS.iconst A8 hx rfl (D d0_30) (XS.lloadN A8 hx rfl (D d0_31) rfl (XS.iconst A8 hx rfl (D d0_32) k)))))) ?_
        refine X7.callS (W := 2) (w12 hw) (w13 hw) (w5 hw) (w14 hw) (by decide) (X7.payM (sf := []) (rmCh hcx s0 (2 : Int32) h7 X7.old ) sf0 (w14 hw) (w5 hw) (by decide) (by decide)) rfl (sz hml rfl) (argsL := [(.long s0), (.int (2 : Int32))]) (rest := [(.int (0 : Int32)), (.ref a7)]) (lenOf pd4 rfl) rfl rfl (mroom rfl rfl) (D d0_33) (by decide) (by decide) fun T9 h9 vm9 v9 X9 C9 z9 q9 => ?_
        obtain ⟨rfl, K9⟩ := q9
        rw [K9] at X9 C9
        refine X9.stC V7_ (i := 0) (by decide) (by decide) (Nat.le_of_ble_eq_true rfl) (by decide) (v := ((Jvm.Free.XT.ushrL s0 (2 : Int32) &&& (255 : Int64)).toInt32)) (i2c_small (m255L _)) (leA (by omega)) rfl rfl (D d0_36) fun T10 h10 X10 C10 K10 V10 => ?_
        have z10 := K10.1
        have V10_ : Arv Z h10 a7 k7 .char (3 : Int32) [(.int ((Jvm.Free.XT.ushrL s0 (2 : Int32) &&& (255 : Int64)).toInt32)), (.int (0 : Int32)), (.int (0 : Int32))] (.int (0 : Int32)) := V10
        show Gets p e below _ (T10.setTop (mkF m 37 #[.val (.long s0), .second, vI ((s0 &&& (3 : Int64)).toInt32), vR a7] []))
        have A11 := X10.at
        refine Gets.via (fun _ k => (XS.aloadN A11 hx rfl (D d0_37) rfl rfl (XS.iconst A11 hx rfl (D d0_38) (XS.lloadN A11 hx rfl (D d0_39) rfl (XS.bipush A11 hx rfl (D d0_40) k))))) ?_
        refine X10.callS (W := 2) (w12 hw) (w13 hw) (w5 hw) (w14 hw) (by decide) (X10.payM (sf := []) (rmCh hcx s0 (10 : Int32) h10 X10.old ) sf0 (w14 hw) (w5 hw) (by decide) (by decide)) rfl (sz hml rfl) (argsL := [(.long s0), (.int (10 : Int32))]) (rest := [(.int (1 : Int32)), (.ref a7)]) (lenOf pd4 rfl) rfl rfl (mroom rfl rfl) (D d0_42) (by decide) (by decide) fun T12 h12 vm12 v12 X12 C12 z12 q12 => ?_
        obtain ⟨rfl, K12⟩ := q12
        rw [K12] at X12 C12
        refine X12.stC V10_ (i := 1) (by decide) (by decide) (Nat.le_of_ble_eq_true rfl) (by decide) (v := ((Jvm.Free.XT.ushrL s0 (10 : Int32) &&& (255 : Int64)).toInt32)) (i2c_small (m255L _)) (leA (by omega)) rfl rfl (D d0_45) fun T13 h13 X13 C13 K13 V13 => ?_
        have z13 := K13.1
        have V13_ : Arv Z h13 a7 k7 .char (3 : Int32) [(.int ((Jvm.Free.XT.ushrL s0 (2 : Int32) &&& (255 : Int64)).toInt32)), (.int ((Jvm.Free.XT.ushrL s0 (10 : Int32) &&& (255 : Int64)).toInt32)), (.int (0 : Int32))] (.int (0 : Int32)) := V13
        have A14 := X13.at
        refine Gets.via (fun _ k => (XS.aloadN A14 hx rfl (D d0_46) rfl rfl (XS.iconst A14 hx rfl (D d0_47) (XS.lloadN A14 hx rfl (D d0_48) rfl (XS.bipush A14 hx rfl (D d0_49) k))))) ?_
        show Gets p e below _ (T13.setTop (mkF m 51 #[.val (.long s0), .second, vI ((s0 &&& (3 : Int64)).toInt32), vR a7] [(.int (18 : Int32)), (.long s0), (.int (2 : Int32)), (.ref a7)]))
        refine X13.callS (W := 2) (w12 hw) (w13 hw) (w5 hw) (w14 hw) (by decide) (X13.payM (sf := []) (rmCh hcx s0 (18 : Int32) h13 X13.old ) sf0 (w14 hw) (w5 hw) (by decide) (by decide)) rfl (sz hml rfl) (argsL := [(.long s0), (.int (18 : Int32))]) (rest := [(.int (2 : Int32)), (.ref a7)]) (lenOf pd4 rfl) rfl rfl (mroom rfl rfl) (D d0_51) (by decide) (by decide) fun T15 h15 vm15 v15 X15 C15 z15 q15 => ?_
        obtain ⟨rfl, K15⟩ := q15
        rw [K15] at X15 C15
        refine X15.stC V13_ (i := 2) (by decide) (by decide) (Nat.le_of_ble_eq_true rfl) (by decide) (v := ((Jvm.Free.XT.ushrL s0 (18 : Int32) &&& (255 : Int64)).toInt32)) (i2c_small (m255L _)) (leA (by omega)) rfl rfl (D d0_54) fun T16 h16 X16 C16 K16 V16 => ?_
        have z16 := K16.1
        have V16_ : Arv Z h16 a7 k7 .char (3 : Int32) [(.int ((Jvm.Free.XT.ushrL s0 (2 : Int32) &&& (255 : Int64)).toInt32)), (.int ((Jvm.Free.XT.ushrL s0 (10 : Int32) &&& (255 : Int64)).toInt32)), (.int ((Jvm.Free.XT.ushrL s0 (18 : Int32) &&& (255 : Int64)).toInt32))] (.int (0 : Int32)) := V16
        refine X16.new (w1 hw) (w16 hw) (w17 hw) rfl (D d0_55) (by decide) (by decide) fun T17 h17 a17 X17 C17 E17 g17 Z17 S17 D17 => ?_
        have z17 := E17.1
        have l17 := ltA Z17.lt
        have A18 := X17.at
        refine Gets.via (fun _ k => (XS.dup A18 hx rfl (D d0_58) rfl rfl (XS.aloadN A18 hx rfl (D d0_59) rfl rfl k))) ?_
        have f19 := V16_.ext E17
        refine X17.callI (y := (⟨"java/lang/String", "<init>", "([C)V"⟩ : MethodName)) (W := 1) rfl (w18 hw) (w19 hw) (w20 hw) (by decide) (payStr X17 hw (w16 hw) [((Jvm.Free.XT.ushrL s0 (2 : Int32) &&& (255 : Int64)).toInt32), ((Jvm.Free.XT.ushrL s0 (10 : Int32) &&& (255 : Int64)).toInt32), ((Jvm.Free.XT.ushrL s0 (18 : Int32) &&& (255 : Int64)).toInt32)] 3 (leA (by omega)) Z17 (D17 (Or.inr (w43 hw)) (ty := (.array .byte)) (by decide) : Fld Z h17 a17 "java/lang/String" "value" "[B" .null) (D17 (Or.inr (w41 hw)) (ty := .byte) (by decide) : Fld Z h17 a17 "java/lang/String" "coder" "B" (.int (0 : Int32))) f19 O2 P5 rfl rfl (by decide) (by decide) (allI (m255L _) (allI (m255L _) (allI (m255L _) allN))) (by decide) (by decide) S17) rfl (sz hml rfl) (a := a17) (argsL := [(.ref a7)]) (rest := [(.ref a17)]) (lenOf pd5 rfl) rfl rfl (mroom rfl rfl) (D d0_60) (by decide) (by decide) fun T20 h20 vm20 v20 X20 C20 z20 q20 => ?_
        obtain ⟨t20, kb20, rfl, K20, g20_0, g20_1, g20_2, g20_3, g20_4⟩ := q20
        have g20_5 : Str Z h20 a17 t20 kb20 [((Jvm.Free.XT.ushrL s0 (2 : Int32) &&& (255 : Int64)).toInt32), ((Jvm.Free.XT.ushrL s0 (10 : Int32) &&& (255 : Int64)).toInt32), ((Jvm.Free.XT.ushrL s0 (18 : Int32) &&& (255 : Int64)).toInt32)] := ⟨g20_0, g20_1, g20_2, g20_3, (allI (m255L _) (allI (m255L _) (allI (m255L _) allN))), Nat.le_of_ble_eq_true rfl⟩
        have l21 := ltA g20_5.lt
        have l22 := ltA g20_5.lb
        show Gets p e below _ (T20.setTop (mkF m 63 #[.val (.long s0), .second, vI ((s0 &&& (3 : Int64)).toInt32), vR a7] [(.ref a17)]))
        exact X20.retA hret rfl rfl rfl (D d0_63) (by decide) (by decide) (fun vmE CE => ⟨a17, t20, kb20, [((Jvm.Free.XT.ushrL s0 (2 : Int32) &&& (255 : Int64)).toInt32), ((Jvm.Free.XT.ushrL s0 (10 : Int32) &&& (255 : Int64)).toInt32), ((Jvm.Free.XT.ushrL s0 (18 : Int32) &&& (255 : Int64)).toInt32)], rfl, (((((((Keep.refl h0 []).ext E7).trans K10 (allS (Or.inr (leA (by omega))) all0)).trans K13 (allS (Or.inr (leA (by omega))) all0)).trans K16 (allS (Or.inr (leA (by omega))) all0)).ext E17).trans K20 (allS (Or.inr (leA (by omega))) all0)), g20_5, (by rw [subS, if_neg b6, if_neg b14, if_pos b22])⟩)
      · refine Gets.via (fun _ k => (XS.icmpYes A2 hx rfl (pc0 := 22) (pc' := 64) rfl (D d0_22) rfl (Jvm.Free.XT.ii_ne_t b22) (by decide) (by decide) k)) ?_
        refine Gets.via (fun _ k => (XS.lloadN A2 hx rfl (D d0_64) rfl (XS.iconst A2 hx rfl (D d0_65) k))) ?_
        refine X1.callS (W := 0) (w12 hw) (w13 hw) (w5 hw) (w14 hw) (by decide) (X1.payM (sf := []) (rmCh hcx s0 (2 : Int32) h0 X1.old ) sf0 (w14 hw) (w5 hw) (by decide) (by decide)) rfl (sz hml rfl) (argsL := [(.long s0), (.int (2 : Int32))]) (rest := []) (lenOf pd4 rfl) rfl rfl (mroom rfl rfl) (D d0_66) (by decide) (by decide) fun T23 h23 vm23 v23 X23 C23 z23 q23 => ?_
        obtain ⟨rfl, K23⟩ := q23
        rw [K23] at X23 C23
        refine X23.callS (W := 0) (w44 hw) (w45 hw) (w17 hw) (w46 hw) (by decide) (X23.payM (sf := []) (rm9 hcx ((Jvm.Free.XT.ushrL s0 (2 : Int32) &&& (255 : Int64)).toInt32) h0 X23.old (m255L _)) sf0 (w46 hw) (w17 hw) (by decide) (by decide)) rfl (sz hml rfl) (argsL := [(.int ((Jvm.Free.XT.ushrL s0 (2 : Int32) &&& (255 : Int64)).toInt32))]) (rest := []) (lenOf pd6 rfl) rfl rfl (mroom rfl rfl) (D d0_69) (by decide) (by decide) fun T24 h24 vm24 v24 X24 C24 z24 q24 => ?_
        obtain ⟨a24, t24, kb24, rfl, K24, g24_0, g24_1, g24_2⟩ := q24
        have l25 := ltA g24_0.lt
        have l26 := ltA g24_0.lb
        exact X24.retA hret rfl rfl rfl (D d0_72) (by decide) (by decide) (fun vmE CE => ⟨a24, t24, kb24, [((Jvm.Free.XT.ushrL s0 (2 : Int32) &&& (255 : Int64)).toInt32)], rfl, ((Keep.refl h0 []).trans K24 all0), g24_0, (by rw [subS, if_neg b6, if_neg b14, if_neg b22])⟩)
abbrev RrmIsRtn : Room := { frames := 1, cells := 0, slots := 0, locals := 14 }
def QrmIsRtn (Z : State) (de : Addr) (el : Addr) (em : Addr) (s0 : Int64) (h0 : Heap) (v : Option Value) (vm : Vm) (h : Heap) : Prop := ∃ (r : Int32), v = some (.int r) ∧ h = h0 ∧ r = if subS s0 = [(82 : Int32), (84 : Int32), (78 : Int32)] then 1 else 0
theorem rmIsRtn (hcx : Cx Z a0 zc de kde em el ee kee mr) (s0 : Int64) (h0 : Heap) (O0 : Old Z Z.heap.size h0)  : Met l Z consts_1 (⟨"com/example/packwright/packwright/io/BuildAssemblerRoutineOfLinePinLaw", "isRtn", "(J)Z"⟩ : MethodName) method_5_code 3 (some .boolean) [] RrmIsRtn [] #[(.long s0)] h0 (QrmIsRtn Z de el em s0 h0) := by
  have ⟨hw, hEL, O2, P5, OD, AD, XM, OM, OL, XL, FL, AE, MR⟩ := hcx
  refine Met.start (a0 := a0) (Ls := #[.val (.long s0), .second, .unset]) pn46 hEL O0 (fun m => by first | (simp [entryFrame, mkF, argsToLocals, Value.category]; done) | rfl) ?_
  intro p e s m below meth cc T0 vm0 X0 sf0_ hby hml hret hnm
  have hx := X0.hx
  have D : ∀ {n r}, decode method_5_code n = r → decode cc.code n = r := fun d => hb hby d
  have zz := X0.ge
  have A0 := X0.at
  refine Gets.via (fun _ k => (XS.lloadN A0 hx rfl (D d46_0) rfl k)) ?_
  refine X0.callS (W := 0) (w7 hw) (w8 hw) (w5 hw) (w9 hw) (by decide) (X0.payM (sf := []) (rmMode hcx s0 h0 X0.old ) sf0 (w9 hw) (w5 hw) (by decide) (by decide)) rfl (sz hml rfl) (argsL := [(.long s0)]) (rest := []) (lenOf pd3 rfl) rfl rfl (mroom rfl rfl) (D d46_1) (by decide) (by decide) fun T1 h1 vm1 v1 X1 C1 z1 q1 => ?_
  obtain ⟨rfl, K1⟩ := q1
  rw [K1] at X1 C1
  have A2 := X1.at
  refine Gets.via (fun _ k => (XS.istoreN A2 hx rfl (D d46_4) rfl (l' := #[.val (.long s0), .second, vI ((s0 &&& (3 : Int64)).toInt32)]) rfl (XS.iloadN A2 hx rfl (D d46_5) rfl k))) ?_
  by_cases b6 : ((s0 &&& (3 : Int64)).toInt32) = (0 : Int32)
  · refine Gets.via (fun _ k => (XS.ifYes A2 hx rfl (pc0 := 6) (pc' := 46) rfl (D d46_6) rfl (Jvm.Free.XT.i0_eq_t b6) (by decide) (by decide) k)) ?_
    refine Gets.via (fun _ k => (XS.iconst A2 hx rfl (D d46_46) (XS.goto A2 hx rfl (pc0 := 47) (pc' := 51) rfl (D d46_47) (by decide) (by decide) k))) ?_
    show Gets p e below _ (T1.setTop (mkF m 51 #[.val (.long s0), .second, vI ((s0 &&& (3 : Int64)).toInt32)] [(.int (1 : Int32))]))
    exact X1.retI hret (by decide) (by simp) (D d46_51) (by decide) (by decide) (fun vmE CE => ⟨(1 : Int32), rfl, rfl, (if_pos ((sub_rtn s0).mpr (Or.inl b6))).symm⟩)
  · refine Gets.via (fun _ k => (XS.ifNo A2 hx rfl (D d46_6) rfl (Jvm.Free.XT.i0_eq_f b6) k)) ?_
    refine Gets.via (fun _ k => (XS.iloadN A2 hx rfl (D d46_9) rfl (XS.iconst A2 hx rfl (D d46_10) k))) ?_
    by_cases b11 : ((s0 &&& (3 : Int64)).toInt32) = (2 : Int32)
    · refine Gets.via (fun _ k => (XS.icmpNo A2 hx rfl (D d46_11) rfl (Jvm.Free.XT.ii_ne_f b11) k)) ?_
      refine Gets.via (fun _ k => (XS.lloadN A2 hx rfl (D d46_14) rfl (XS.iconst A2 hx rfl (D d46_15) k))) ?_
      refine X1.callS (W := 0) (w12 hw) (w13 hw) (w5 hw) (w14 hw) (by decide) (X1.payM (sf := []) (rmCh hcx s0 (2 : Int32) h0 X1.old ) sf0 (w14 hw) (w5 hw) (by decide) (by decide)) rfl (sz hml rfl) (argsL := [(.long s0), (.int (2 : Int32))]) (rest := []) (lenOf pd4 rfl) rfl rfl (mroom rfl rfl) (D d46_16) (by decide) (by decide) fun T3 h3 vm3 v3 X3 C3 z3 q3 => ?_
      obtain ⟨rfl, K3⟩ := q3
      rw [K3] at X3 C3
      have A4 := X3.at
      refine Gets.via (fun _ k => (XS.bipush A4 hx rfl (D d46_19) k)) ?_
      by_cases b21 : ((Jvm.Free.XT.ushrL s0 (2 : Int32) &&& (255 : Int64)).toInt32) = (82 : Int32)
      · refine Gets.via (fun _ k => (XS.icmpNo A4 hx rfl (D d46_21) rfl (Jvm.Free.XT.ii_ne_f b21) k)) ?_
        refine Gets.via (fun _ k => (XS.lloadN A4 hx rfl (D d46_24) rfl (XS.bipush A4 hx rfl (D d46_25) k))) ?_
        show Gets p e below _ (T3.setTop (mkF m 27 #[.val (.long s0), .second, vI ((s0 &&& (3 : Int64)).toInt32)] [(.int (10 : Int32)), (.long s0)]))
        refine X3.callS (W := 0) (w12 hw) (w13 hw) (w5 hw) (w14 hw) (by decide) (X3.payM (sf := []) (rmCh hcx s0 (10 : Int32) h0 X3.old ) sf0 (w14 hw) (w5 hw) (by decide) (by decide)) rfl (sz hml rfl) (argsL := [(.long s0), (.int (10 : Int32))]) (rest := []) (lenOf pd4 rfl) rfl rfl (mroom rfl rfl) (D d46_27) (by decide) (by decide) fun T5 h5 vm5 v5 X5 C5 z5 q5 => ?_
        obtain ⟨rfl, K5⟩ := q5
        rw [K5] at X5 C5
        have A6 := X5.at
        refine Gets.via (fun _ k => (XS.bipush A6 hx rfl (D d46_30) k)) ?_
        by_cases b32 : ((Jvm.Free.XT.ushrL s0 (10 : Int32) &&& (255 : Int64)).toInt32) = (84 : Int32)
        · refine Gets.via (fun _ k => (XS.icmpNo A6 hx rfl (D d46_32) rfl (Jvm.Free.XT.ii_ne_f b32) k)) ?_
          refine Gets.via (fun _ k => (XS.lloadN A6 hx rfl (D d46_35) rfl (XS.bipush A6 hx rfl (D d46_36) k))) ?_
          refine X5.callS (W := 0) (w12 hw) (w13 hw) (w5 hw) (w14 hw) (by decide) (X5.payM (sf := []) (rmCh hcx s0 (18 : Int32) h0 X5.old ) sf0 (w14 hw) (w5 hw) (by decide) (by decide)) rfl (sz hml rfl) (argsL := [(.long s0), (.int (18 : Int32))]) (rest := []) (lenOf pd4 rfl) rfl rfl (mroom rfl rfl) (D d46_38) (by decide) (by decide) fun T7 h7 vm7 v7 X7 C7 z7 q7 => ?_
          obtain ⟨rfl, K7⟩ := q7
          rw [K7] at X7 C7
          have A8 := X7.at
          refine Gets.via (fun _ k => (XS.bipush A8 hx rfl (D d46_41) k)) ?_
          by_cases b43 : ((Jvm.Free.XT.ushrL s0 (18 : Int32) &&& (255 : Int64)).toInt32) = (78 : Int32)
          · refine Gets.via (fun _ k => (XS.icmpNo A8 hx rfl (D d46_43) rfl (Jvm.Free.XT.ii_ne_f b43) k)) ?_
            show Gets p e below _ (T7.setTop (mkF m 46 #[.val (.long s0), .second, vI ((s0 &&& (3 : Int64)).toInt32)] []))
            refine Gets.via (fun _ k => (XS.iconst A8 hx rfl (D d46_46) (XS.goto A8 hx rfl (pc0 := 47) (pc' := 51) rfl (D d46_47) (by decide) (by decide) k))) ?_
            exact X7.retI hret (by decide) (by simp) (D d46_51) (by decide) (by decide) (fun vmE CE => ⟨(1 : Int32), rfl, rfl, (if_pos ((sub_rtn s0).mpr (Or.inr ⟨b11, b21, b32, b43⟩))).symm⟩)
          · refine Gets.via (fun _ k => (XS.icmpYes A8 hx rfl (pc0 := 43) (pc' := 50) rfl (D d46_43) rfl (Jvm.Free.XT.ii_ne_t b43) (by decide) (by decide) k)) ?_
            refine Gets.via (fun _ k => (XS.iconst A8 hx rfl (D d46_50) k)) ?_
            exact X7.retI hret (by decide) (by simp) (D d46_51) (by decide) (by decide) (fun vmE CE => ⟨(0 : Int32), rfl, rfl, (if_neg fun q => ((sub_rtn s0).mp q).elim b6 fun z => b43 z.2.2.2).symm⟩)
        · refine Gets.via (fun _ k => (XS.icmpYes A6 hx rfl (pc0 := 32) (pc' := 50) rfl (D d46_32) rfl (Jvm.Free.XT.ii_ne_t b32) (by decide) (by decide) k)) ?_
          refine Gets.via (fun _ k => (XS.iconst A6 hx rfl (D d46_50) k)) ?_
          exact X5.retI hret (by decide) (by simp) (D d46_51) (by decide) (by decide) (fun vmE CE => ⟨(0 : Int32), rfl, rfl, (if_neg fun q => ((sub_rtn s0).mp q).elim b6 fun z => b32 z.2.2.1).symm⟩)
      · refine Gets.via (fun _ k => (XS.icmpYes A4 hx rfl (pc0 := 21) (pc' := 50) rfl (D d46_21) rfl (Jvm.Free.XT.ii_ne_t b21) (by decide) (by decide) k)) ?_
        refine Gets.via (fun _ k => (XS.iconst A4 hx rfl (D d46_50) k)) ?_
        exact X3.retI hret (by decide) (by simp) (D d46_51) (by decide) (by decide) (fun vmE CE => ⟨(0 : Int32), rfl, rfl, (if_neg fun q => ((sub_rtn s0).mp q).elim b6 fun z => b21 z.2.1).symm⟩)
    · refine Gets.via (fun _ k => (XS.icmpYes A2 hx rfl (pc0 := 11) (pc' := 50) rfl (D d46_11) rfl (Jvm.Free.XT.ii_ne_t b11) (by decide) (by decide) k)) ?_
      refine Gets.via (fun _ k => (XS.iconst A2 hx rfl (D d46_50) k)) ?_
      exact X1.retI hret (by decide) (by simp) (D d46_51) (by decide) (by decide) (fun vmE CE => ⟨(0 : Int32), rfl, rfl, (if_neg fun q => ((sub_rtn s0).mp q).elim b6 fun z => b11 z.1).symm⟩)
abbrev RrmIsZero : Room := { frames := 1, cells := 0, slots := 0, locals := 14 }
def QrmIsZero (Z : State) (de : Addr) (el : Addr) (em : Addr) (s0 : Int64) (h0 : Heap) (v : Option Value) (vm : Vm) (h : Heap) : Prop := ∃ (r : Int32), v = some (.int r) ∧ h = h0 ∧ r = if subS s0 = [(48 : Int32)] then 1 else 0
theorem rmIsZero (hcx : Cx Z a0 zc de kde em el ee kee mr) (s0 : Int64) (h0 : Heap) (O0 : Old Z Z.heap.size h0)  : Met l Z consts_1 (⟨"com/example/packwright/packwright/io/BuildAssemblerRoutineOfLinePinLaw", "isZero", "(J)Z"⟩ : MethodName) method_6_code 3 (some .boolean) [] RrmIsZero [] #[(.long s0)] h0 (QrmIsZero Z de el em s0 h0) := by
  have ⟨hw, hEL, O2, P5, OD, AD, XM, OM, OL, XL, FL, AE, MR⟩ := hcx
  refine Met.start (a0 := a0) (Ls := #[.val (.long s0), .second, .unset]) pn47 hEL O0 (fun m => by first | (simp [entryFrame, mkF, argsToLocals, Value.category]; done) | rfl) ?_
  intro p e s m below meth cc T0 vm0 X0 sf0_ hby hml hret hnm
  have hx := X0.hx
  have D : ∀ {n r}, decode method_6_code n = r → decode cc.code n = r := fun d => hb hby d
  have zz := X0.ge
  have A0 := X0.at
  refine Gets.via (fun _ k => (XS.lloadN A0 hx rfl (D d47_0) rfl k)) ?_
  refine X0.callS (W := 0) (w7 hw) (w8 hw) (w5 hw) (w9 hw) (by decide) (X0.payM (sf := []) (rmMode hcx s0 h0 X0.old ) sf0 (w9 hw) (w5 hw) (by decide) (by decide)) rfl (sz hml rfl) (argsL := [(.long s0)]) (rest := []) (lenOf pd3 rfl) rfl rfl (mroom rfl rfl) (D d47_1) (by decide) (by decide) fun T1 h1 vm1 v1 X1 C1 z1 q1 => ?_
  obtain ⟨rfl, K1⟩ := q1
  rw [K1] at X1 C1
  have A2 := X1.at
  refine Gets.via (fun _ k => (XS.istoreN A2 hx rfl (D d47_4) rfl (l' := #[.val (.long s0), .second, vI ((s0 &&& (3 : Int64)).toInt32)]) rfl (XS.iloadN A2 hx rfl (D d47_5) rfl (XS.iconst A2 hx rfl (D d47_6) k)))) ?_
  by_cases b7 : ((s0 &&& (3 : Int64)).toInt32) = (1 : Int32)
  · refine Gets.via (fun _ k => (XS.icmpYes A2 hx rfl (pc0 := 7) (pc' := 25) rfl (D d47_7) rfl (Jvm.Free.XT.ii_eq_t b7) (by decide) (by decide) k)) ?_
    refine Gets.via (fun _ k => (XS.iconst A2 hx rfl (D d47_25) (XS.goto A2 hx rfl (pc0 := 26) (pc' := 30) rfl (D d47_26) (by decide) (by decide) k))) ?_
    show Gets p e below _ (T1.setTop (mkF m 30 #[.val (.long s0), .second, vI ((s0 &&& (3 : Int64)).toInt32)] [(.int (1 : Int32))]))
    exact X1.retI hret (by decide) (by simp) (D d47_30) (by decide) (by decide) (fun vmE CE => ⟨(1 : Int32), rfl, rfl, (if_pos ((sub_zer s0).mpr (Or.inl b7))).symm⟩)
  · refine Gets.via (fun _ k => (XS.icmpNo A2 hx rfl (D d47_7) rfl (Jvm.Free.XT.ii_eq_f b7) k)) ?_
    refine Gets.via (fun _ k => (XS.iloadN A2 hx rfl (D d47_10) rfl (XS.iconst A2 hx rfl (D d47_11) k))) ?_
    by_cases b12 : ((s0 &&& (3 : Int64)).toInt32) = (3 : Int32)
    · refine Gets.via (fun _ k => (XS.icmpNo A2 hx rfl (D d47_12) rfl (Jvm.Free.XT.ii_ne_f b12) k)) ?_
      refine Gets.via (fun _ k => (XS.lloadN A2 hx rfl (D d47_15) rfl (XS.iconst A2 hx rfl (D d47_16) k))) ?_
      refine X1.callS (W := 0) (w12 hw) (w13 hw) (w5 hw) (w14 hw) (by decide) (X1.payM (sf := []) (rmCh hcx s0 (2 : Int32) h0 X1.old ) sf0 (w14 hw) (w5 hw) (by decide) (by decide)) rfl (sz hml rfl) (argsL := [(.long s0), (.int (2 : Int32))]) (rest := []) (lenOf pd4 rfl) rfl rfl (mroom rfl rfl) (D d47_17) (by decide) (by decide) fun T3 h3 vm3 v3 X3 C3 z3 q3 => ?_
      obtain ⟨rfl, K3⟩ := q3
      rw [K3] at X3 C3
      have A4 := X3.at
      refine Gets.via (fun _ k => (XS.bipush A4 hx rfl (D d47_20) k)) ?_
      by_cases b22 : ((Jvm.Free.XT.ushrL s0 (2 : Int32) &&& (255 : Int64)).toInt32) = (48 : Int32)
      · refine Gets.via (fun _ k => (XS.icmpNo A4 hx rfl (D d47_22) rfl (Jvm.Free.XT.ii_ne_f b22) k)) ?_
        refine Gets.via (fun _ k => (XS.iconst A4 hx rfl (D d47_25) (XS.goto A4 hx rfl (pc0 := 26) (pc' := 30) rfl (D d47_26) (by decide) (by decide) k))) ?_
        show Gets p e below _ (T3.setTop (mkF m 30 #[.val (.long s0), .second, vI ((s0 &&& (3 : Int64)).toInt32)] [(.int (1 : Int32))]))
        exact X3.retI hret (by decide) (by simp) (D d47_30) (by decide) (by decide) (fun vmE CE => ⟨(1 : Int32), rfl, rfl, (if_pos ((sub_zer s0).mpr (Or.inr ⟨b12, b22⟩))).symm⟩)
      · refine Gets.via (fun _ k => (XS.icmpYes A4 hx rfl (pc0 := 22) (pc' := 29) rfl (D d47_22) rfl (Jvm.Free.XT.ii_ne_t b22) (by decide) (by decide) k)) ?_
        refine Gets.via (fun _ k => (XS.iconst A4 hx rfl (D d47_29) k)) ?_
        exact X3.retI hret (by decide) (by simp) (D d47_30) (by decide) (by decide) (fun vmE CE => ⟨(0 : Int32), rfl, rfl, (if_neg fun q => ((sub_zer s0).mp q).elim b7 fun z => b22 z.2).symm⟩)
    · refine Gets.via (fun _ k => (XS.icmpYes A2 hx rfl (pc0 := 12) (pc' := 29) rfl (D d47_12) rfl (Jvm.Free.XT.ii_ne_t b12) (by decide) (by decide) k)) ?_
      refine Gets.via (fun _ k => (XS.iconst A2 hx rfl (D d47_29) k)) ?_
      exact X1.retI hret (by decide) (by simp) (D d47_30) (by decide) (by decide) (fun vmE CE => ⟨(0 : Int32), rfl, rfl, (if_neg fun q => ((sub_zer s0).mp q).elim b7 fun z => b12 z.1).symm⟩)
abbrev Rrm15 : Room := { frames := 1, cells := 0, slots := 0, locals := 12 }
def Qrm15 (Z : State) (de : Addr) (el : Addr) (em : Addr) (x : Addr) (h0 : Heap) (v : Option Value) (vm : Vm) (h : Heap) : Prop := v = none ∧ h = h0
theorem rm15 (hcx : Cx Z a0 zc de kde em el ee kee mr) (x : Addr) (h0 : Heap) (O0 : Old Z Z.heap.size h0)  : Met l Z consts_1 (⟨"java/util/AbstractCollection", "<init>", "()V"⟩ : MethodName) jdk_22_method_1_code 1 (none) [] Rrm15 [] #[(.ref x)] h0 (Qrm15 Z de el em x h0) := by
  have ⟨hw, hEL, O2, P5, OD, AD, XM, OM, OL, XL, FL, AE, MR⟩ := hcx
  refine Met.start (a0 := a0) (Ls := #[vR x]) pn15 hEL O0 (fun m => by first | (simp [entryFrame, mkF, argsToLocals, Value.category]; done) | rfl) ?_
  intro p e s m below meth cc T0 vm0 X0 sf0_ hby hml hret hnm
  have hx := X0.hx
  have D : ∀ {n r}, decode jdk_22_method_1_code n = r → decode cc.code n = r := fun d => hb hby d
  have zz := X0.ge
  have A0 := X0.at
  refine Gets.via (fun _ k => (XS.aloadN A0 hx rfl (D d15_0) rfl rfl k)) ?_
  refine X0.objInit (w76 hw) (w26 hw) (w27 hw) rfl (sz hml rfl) rfl (D d15_1) (by decide) (W := 0) (mroom rfl rfl) (by decide) fun T1 X1 => ?_
  exact X1.retV hret (D d15_4) (by decide) (by decide) (fun vmE CE => ⟨rfl, rfl⟩)
abbrev Rrm14 : Room := { frames := 2, cells := 0, slots := 0, locals := 24 }
def Qrm14 (Z : State) (de : Addr) (el : Addr) (em : Addr) (x : Addr) (h0 : Heap) (v : Option Value) (vm : Vm) (h : Heap) : Prop := v = none ∧ Keep h0 h [x] ∧ Exa Z h x "java/util/ArrayList" ∧ Fld Z h x "java/util/AbstractList" "modCount" "I" (.int (0 : Int32)) ∧ Fld Z h x "java/util/ArrayList" "size" "I" (.int (0 : Int32)) ∧ Fld Z h x "java/util/ArrayList" "elementData" "[Ljava/lang/Object;" .null
theorem rm14 (hcx : Cx Z a0 zc de kde em el ee kee mr) (x : Addr) (h0 : Heap) (O0 : Old Z Z.heap.size h0) (Pr0 : Exa Z h0 x "java/util/ArrayList") (Pr1 : Fld Z h0 x "java/util/AbstractList" "modCount" "I" (.int (0 : Int32))) (Pr2 : Fld Z h0 x "java/util/ArrayList" "size" "I" (.int (0 : Int32))) (Pr3 : Fld Z h0 x "java/util/ArrayList" "elementData" "[Ljava/lang/Object;" .null) (Pr4 : Z.heap.size ≤ x) : Met l Z consts_1 (⟨"java/util/AbstractList", "<init>", "()V"⟩ : MethodName) jdk_39_method_1_code 1 (none) [] Rrm14 [] #[(.ref x)] h0 (Qrm14 Z de el em x h0) := by
  have ⟨hw, hEL, O2, P5, OD, AD, XM, OM, OL, XL, FL, AE, MR⟩ := hcx
  refine Met.start (a0 := a0) (Ls := #[vR x]) pn14 hEL O0 (fun m => by first | (simp [entryFrame, mkF, argsToLocals, Value.category]; done) | rfl) ?_
  intro p e s m below meth cc T0 vm0 X0 sf0_ hby hml hret hnm
  have hx := X0.hx
  have D : ∀ {n r}, decode jdk_39_method_1_code n = r → decode cc.code n = r := fun d => hb hby d
  have zz := X0.ge
  have A0 := X0.at
  have l1 := ltA Pr0.lt
  refine Gets.via (fun _ k => (XS.aloadN A0 hx rfl (D d14_0) rfl rfl k)) ?_
  refine X0.callI (y := (⟨"java/util/AbstractCollection", "<init>", "()V"⟩ : MethodName)) (W := 0) rfl (w70 hw) (w71 hw) (w75 hw) (by decide) (X0.payM (sf := []) (rm15 hcx x h0 X0.old ) sf0 (w75 hw) (w74 hw) (by decide) (by decide)) rfl (sz hml rfl) (a := x) (argsL := []) (rest := []) (lenOf pd7 rfl) rfl rfl (mroom rfl rfl) (D d14_1) (by decide) (by decide) fun T2 h2 vm2 v2 X2 C2 z2 q2 => ?_
  obtain ⟨rfl, K2⟩ := q2
  rw [K2] at X2 C2
  have A3 := X2.at
  refine Gets.via (fun _ k => (XS.aloadN A3 hx rfl (D d14_4) rfl rfl (XS.iconst A3 hx rfl (D d14_5) k))) ?_
  refine X2.putF (host := "") (Or.inl (w77 hw)) Via.refl Pr1 Pr0 (Or.inl (w78 hw)) (w59 hw) (ty := .int) (by decide) rfl rfl (leA (by omega)) (Safe.exa X2.hZ.alike Pr0 (by decide) (by decide)) rfl rfl (D d14_6) fun T4 h4 X4 C4 W4 F4 Z4 => ?_
  have z4 := W4.size
  show Gets p e below _ (T4.setTop (mkF m 9 #[vR x] []))
  have f5 := Pr2.other W4 (Or.inr (slot_ne (t := .int) (t' := .int) (Or.inl (w121 hw)) (Or.inl (w78 hw)) (by decide) (by decide) (by decide)))
  have f6 := Pr3.other W4 (Or.inr (slot_ne (t := (.array (.object "java/lang/Object"))) (t' := .int) (Or.inl (w81 hw)) (Or.inl (w78 hw)) (by decide) (by decide) (by decide)))
  exact X4.retV hret (D d14_9) (by decide) (by decide) (fun vmE CE => ⟨rfl, ((Keep.refl h0 [x]).wr W4 (Or.inl (List.mem_of_getElem? (i := 0) rfl))), Z4, F4, f5, f6⟩)
abbrev Rrm13 : Room := { frames := 3, cells := 0, slots := 0, locals := 36 }
def Qrm13 (Z : State) (de : Addr) (el : Addr) (em : Addr) (x : Addr) (h0 : Heap) (v : Option Value) (vm : Vm) (h : Heap) : Prop := v = none ∧ Keep h0 h [x] ∧ Exa Z h x "java/util/ArrayList" ∧ Fld Z h x "java/util/AbstractList" "modCount" "I" (.int (0 : Int32)) ∧ Fld Z h x "java/util/ArrayList" "size" "I" (.int (0 : Int32)) ∧ Fld Z h x "java/util/ArrayList" "elementData" "[Ljava/lang/Object;" (.ref de)
theorem rm13 (hcx : Cx Z a0 zc de kde em el ee kee mr) (x : Addr) (h0 : Heap) (O0 : Old Z Z.heap.size h0) (Pr0 : Exa Z h0 x "java/util/ArrayList") (Pr1 : Fld Z h0 x "java/util/AbstractList" "modCount" "I" (.int (0 : Int32))) (Pr2 : Fld Z h0 x "java/util/ArrayList" "size" "I" (.int (0 : Int32))) (Pr3 : Fld Z h0 x "java/util/ArrayList" "elementData" "[Ljava/lang/Object;" .null) (Pr4 : Z.heap.size ≤ x) : Met l Z consts_1 (⟨"java/util/ArrayList", "<init>", "()V"⟩ : MethodName) jdk_38_method_2_code 1 (none) [] Rrm13 [] #[(.ref x)] h0 (Qrm13 Z de el em x h0) := by
  have ⟨hw, hEL, O2, P5, OD, AD, XM, OM, OL, XL, FL, AE, MR⟩ := hcx
  refine Met.start (a0 := a0) (Ls := #[vR x]) pn13 hEL O0 (fun m => by first | (simp [entryFrame, mkF, argsToLocals, Value.category]; done) | rfl) ?_
  intro p e s m below meth cc T0 vm0 X0 sf0_ hby hml hret hnm
  have hx := X0.hx
  have D : ∀ {n r}, decode jdk_38_method_2_code n = r → decode cc.code n = r := fun d => hb hby d
  have zz := X0.ge
  have A0 := X0.at
  have l1 := ltA Pr0.lt
  refine Gets.via (fun _ k => (XS.aloadN A0 hx rfl (D d13_0) rfl rfl k)) ?_
  refine X0.callI (y := (⟨"java/util/AbstractList", "<init>", "()V"⟩ : MethodName)) (W := 0) rfl (w64 hw) (w65 hw) (w69 hw) (by decide) (X0.payM (sf := []) (rm14 hcx x h0 X0.old Pr0 Pr1 Pr2 Pr3 Pr4) sf0 (w69 hw) (w68 hw) (by decide) (by decide)) rfl (sz hml rfl) (a := x) (argsL := []) (rest := []) (lenOf pd7 rfl) rfl rfl (mroom rfl rfl) (D d13_1) (by decide) (by decide) fun T2 h2 vm2 v2 X2 C2 z2 q2 => ?_
  obtain ⟨rfl, K2, g2_0, g2_1, g2_2, g2_3⟩ := q2
  have l3 := ltA g2_0.lt
  have A4 := X2.at
  refine Gets.via (fun _ k => (XS.aloadN A4 hx rfl (D d13_4) rfl rfl k)) ?_
  refine X2.getS (host := "") (Or.inl (w79 hw)) Via.refl (X2.sta OD) rfl (D d13_5) fun T5 X5 => ?_
  refine X5.putF (host := "") (Or.inl (w80 hw)) Via.refl g2_3 g2_0 (Or.inl (w81 hw)) (w59 hw) (ty := (.array (.object "java/lang/Object"))) (by decide) rfl rfl (leA (by omega)) (Safe.exa X5.hZ.alike g2_0 (by decide) (by decide)) rfl rfl (D d13_8) fun T6 h6 X6 C6 W6 F6 Z6 => ?_
  have z6 := W6.size
  show Gets p e below _ (T6.setTop (mkF m 11 #[vR x] []))
  have f7 := g2_1.other W6 (Or.inr (slot_ne (t := .int) (t' := (.array (.object "java/lang/Object"))) (Or.inl (w78 hw)) (Or.inl (w81 hw)) (by decide) (by decide) (by decide)))
  have f8 := g2_2.other W6 (Or.inr (slot_ne (t := .int) (t' := (.array (.object "java/lang/Object"))) (Or.inl (w121 hw)) (Or.inl (w81 hw)) (by decide) (by decide) (by decide)))
  exact X6.retV hret (D d13_11) (by decide) (by decide) (fun vmE CE => ⟨rfl, (((Keep.refl h0 [x]).trans K2 (allS (Or.inl (List.mem_of_getElem? (i := 0) rfl)) all0)).wr W6 (Or.inl (List.mem_of_getElem? (i := 0) rfl))), Z6, f7, f8, F6⟩)
abbrev Rrm39 : Room := { frames := 2, cells := 0, slots := 0, locals := 24 }
def Qrm39 (Z : State) (de : Addr) (el : Addr) (em : Addr) (x : Addr) (h0 : Heap) (v : Option Value) (vm : Vm) (h : Heap) : Prop := v = none ∧ h = h0
theorem rm39 (hcx : Cx Z a0 zc de kde em el ee kee mr) (x : Addr) (h0 : Heap) (O0 : Old Z Z.heap.size h0)  : Met l Z consts_1 (⟨"java/util/ImmutableCollections$AbstractImmutableCollection", "<init>", "()V"⟩ : MethodName) jdk_47_method_1_code 1 (none) [] Rrm39 [] #[(.ref x)] h0 (Qrm39 Z de el em x h0) := by
  have ⟨hw, hEL, O2, P5, OD, AD, XM, OM, OL, XL, FL, AE, MR⟩ := hcx
  refine Met.start (a0 := a0) (Ls := #[vR x]) pn39 hEL O0 (fun m => by first | (simp [entryFrame, mkF, argsToLocals, Value.category]; done) | rfl) ?_
  intro p e s m below meth cc T0 vm0 X0 sf0_ hby hml hret hnm
  have hx := X0.hx
  have D : ∀ {n r}, decode jdk_47_method_1_code n = r → decode cc.code n = r := fun d => hb hby d
  have zz := X0.ge
  have A0 := X0.at
  refine Gets.via (fun _ k => (XS.aloadN A0 hx rfl (D d39_0) rfl rfl k)) ?_
  refine X0.callI (y := (⟨"java/util/AbstractCollection", "<init>", "()V"⟩ : MethodName)) (W := 0) rfl (w241 hw) (w71 hw) (w75 hw) (by decide) (X0.payM (sf := []) (rm15 hcx x h0 X0.old ) sf0 (w75 hw) (w74 hw) (by decide) (by decide)) rfl (sz hml rfl) (a := x) (argsL := []) (rest := []) (lenOf pd7 rfl) rfl rfl (mroom rfl rfl) (D d39_1) (by decide) (by decide) fun T1 h1 vm1 v1 X1 C1 z1 q1 => ?_
  obtain ⟨rfl, K1⟩ := q1
  rw [K1] at X1 C1
  exact X1.retV hret (D d39_4) (by decide) (by decide) (fun vmE CE => ⟨rfl, rfl⟩)
abbrev Rrm38 : Room := { frames := 3, cells := 0, slots := 0, locals := 36 }
def Qrm38 (Z : State) (de : Addr) (el : Addr) (em : Addr) (x : Addr) (h0 : Heap) (v : Option Value) (vm : Vm) (h : Heap) : Prop := v = none ∧ h = h0
theorem rm38 (hcx : Cx Z a0 zc de kde em el ee kee mr) (x : Addr) (h0 : Heap) (O0 : Old Z Z.heap.size h0)  : Met l Z consts_1 (⟨"java/util/ImmutableCollections$AbstractImmutableList", "<init>", "()V"⟩ : MethodName) jdk_46_method_1_code 1 (none) [] Rrm38 [] #[(.ref x)] h0 (Qrm38 Z de el em x h0) := by
  have ⟨hw, hEL, O2, P5, OD, AD, XM, OM, OL, XL, FL, AE, MR⟩ := hcx
  refine Met.start (a0 := a0) (Ls := #[vR x]) pn38 hEL O0 (fun m => by first | (simp [entryFrame, mkF, argsToLocals, Value.category]; done) | rfl) ?_
  intro p e s m below meth cc T0 vm0 X0 sf0_ hby hml hret hnm
  have hx := X0.hx
  have D : ∀ {n r}, decode jdk_46_method_1_code n = r → decode cc.code n = r := fun d => hb hby d
  have zz := X0.ge
  have A0 := X0.at
  refine Gets.via (fun _ k => (XS.aloadN A0 hx rfl (D d38_0) rfl rfl k)) ?_
  refine X0.callI (y := (⟨"java/util/ImmutableCollections$AbstractImmutableCollection", "<init>", "()V"⟩ : MethodName)) (W := 0) rfl (w235 hw) (w236 hw) (w240 hw) (by decide) (X0.payM (sf := []) (rm39 hcx x h0 X0.old ) sf0 (w240 hw) (w239 hw) (by decide) (by decide)) rfl (sz hml rfl) (a := x) (argsL := []) (rest := []) (lenOf pd7 rfl) rfl rfl (mroom rfl rfl) (D d38_1) (by decide) (by decide) fun T1 h1 vm1 v1 X1 C1 z1 q1 => ?_
  obtain ⟨rfl, K1⟩ := q1
  rw [K1] at X1 C1
  exact X1.retV hret (D d38_4) (by decide) (by decide) (fun vmE CE => ⟨rfl, rfl⟩)
abbrev Rrm36 : Room := { frames := 0, cells := 0, slots := 0, locals := 0 }
def Qrm36 (Z : State) (de : Addr) (el : Addr) (em : Addr) (a : Addr) (h0 : Heap) (v : Option Value) (vm : Vm) (h : Heap) : Prop := v = some (.ref a) ∧ h = h0
theorem rm36 (hcx : Cx Z a0 zc de kde em el ee kee mr) (a : Addr) (h0 : Heap) (O0 : Old Z Z.heap.size h0)  : Met l Z consts_1 (⟨"java/util/Objects", "requireNonNull", "(Ljava/lang/Object;)Ljava/lang/Object;"⟩ : MethodName) jdk_31_method_10_code 1 (some (.object "java/lang/Object")) [] Rrm36 [] #[(.ref a)] h0 (Qrm36 Z de el em a h0) := by
  have ⟨hw, hEL, O2, P5, OD, AD, XM, OM, OL, XL, FL, AE, MR⟩ := hcx
  refine Met.start (a0 := a0) (Ls := #[vR a]) pn36 hEL O0 (fun m => by first | (simp [entryFrame, mkF, argsToLocals, Value.category]; done) | rfl) ?_
  intro p e s m below meth cc T0 vm0 X0 sf0_ hby hml hret hnm
  have hx := X0.hx
  have D : ∀ {n r}, decode jdk_31_method_10_code n = r → decode cc.code n = r := fun d => hb hby d
  have zz := X0.ge
  have A0 := X0.at
  refine Gets.via (fun _ k => (XS.aloadN A0 hx rfl (D d36_0) rfl rfl (XS.ifnonnullYes A0 hx rfl (pc0 := 1) (pc' := 12) rfl (D d36_1) rfl (by decide) (by decide) k))) ?_
  refine Gets.via (fun _ k => (XS.aloadN A0 hx rfl (D d36_12) rfl rfl k)) ?_
  exact X0.retA hret rfl rfl rfl (D d36_13) (by decide) (by decide) (fun vmE CE => ⟨rfl, rfl⟩)
abbrev Rrm42 : Room := { frames := 4, cells := 0, slots := 0, locals := 48 }
def Qrm42 (Z : State) (de : Addr) (el : Addr) (em : Addr) (x : Addr) (e0 : Addr) (h0 : Heap) (v : Option Value) (vm : Vm) (h : Heap) : Prop := v = none ∧ Keep h0 h [x] ∧ Exa Z h x "java/util/ImmutableCollections$List12" ∧ Fld Z h x "java/util/ImmutableCollections$List12" "e0" "Ljava/lang/Object;" (.ref e0) ∧ Fld Z h x "java/util/ImmutableCollections$List12" "e1" "Ljava/lang/Object;" (.ref em)
theorem rm42 (hcx : Cx Z a0 zc de kde em el ee kee mr) (x : Addr) (e0 : Addr) (h0 : Heap) (O0 : Old Z Z.heap.size h0) (Pr0 : Exa Z h0 x "java/util/ImmutableCollections$List12") (Pr1 : Fld Z h0 x "java/util/ImmutableCollections$List12" "e0" "Ljava/lang/Object;" .null) (Pr2 : Fld Z h0 x "java/util/ImmutableCollections$List12" "e1" "Ljava/lang/Object;" .null) (Pr3 : Z.heap.size ≤ x) : Met l Z consts_1 (⟨"java/util/ImmutableCollections$List12", "<init>", "(Ljava/lang/Object;)V"⟩ : MethodName) jdk_44_method_1_code 2 (none) [] Rrm42 [] #[(.ref x), (.ref e0)] h0 (Qrm42 Z de el em x e0 h0) := by
  have ⟨hw, hEL, O2, P5, OD, AD, XM, OM, OL, XL, FL, AE, MR⟩ := hcx
  refine Met.start (a0 := a0) (Ls := #[vR x, vR e0]) pn42 hEL O0 (fun m => by first | (simp [entryFrame, mkF, argsToLocals, Value.category]; done) | rfl) ?_
  intro p e s m below meth cc T0 vm0 X0 sf0_ hby hml hret hnm
  have hx := X0.hx
  have D : ∀ {n r}, decode jdk_44_method_1_code n = r → decode cc.code n = r := fun d => hb hby d
  have zz := X0.ge
  have A0 := X0.at
  have l1 := ltA Pr0.lt
  refine Gets.via (fun _ k => (XS.aloadN A0 hx rfl (D d42_0) rfl rfl k)) ?_
  refine X0.callI (y := (⟨"java/util/ImmutableCollections$AbstractImmutableList", "<init>", "()V"⟩ : MethodName)) (W := 0) rfl (w253 hw) (w230 hw) (w234 hw) (by decide) (X0.payM (sf := []) (rm38 hcx x h0 X0.old ) sf0 (w234 hw) (w233 hw) (by decide) (by decide)) rfl (sz hml rfl) (a := x) (argsL := []) (rest := []) (lenOf pd7 rfl) rfl rfl (mroom rfl rfl) (D d42_1) (by decide) (by decide) fun T2 h2 vm2 v2 X2 C2 z2 q2 => ?_
  obtain ⟨rfl, K2⟩ := q2
  rw [K2] at X2 C2
  have A3 := X2.at
  refine Gets.via (fun _ k => (XS.aloadN A3 hx rfl (D d42_4) rfl rfl (XS.aloadN A3 hx rfl (D d42_5) rfl rfl k))) ?_
  refine X2.callS (W := 1) (w257 hw) (w221 hw) (w222 hw) (w223 hw) (by decide) (X2.payM (sf := []) (rm36 hcx e0 h0 X2.old ) sf0 (w223 hw) (w222 hw) (by decide) (by decide)) rfl (sz hml rfl) (argsL := [(.ref e0)]) (rest := [(.ref x)]) (lenOf pd8 rfl) rfl rfl (mroom rfl rfl) (D d42_6) (by decide) (by decide) fun T4 h4 vm4 v4 X4 C4 z4 q4 => ?_
  obtain ⟨rfl, K4⟩ := q4
  rw [K4] at X4 C4
  show Gets p e below _ (T4.setTop (mkF m 9 #[vR x, vR e0] [(.ref e0), (.ref x)]))
  refine X4.putF (host := "") (Or.inl (w258 hw)) Via.refl Pr1 Pr0 (Or.inr ⟨(w259 hw), rfl, hnm⟩) (w247 hw) (ty := (.object "java/lang/Object")) (by decide) rfl rfl (leA (by omega)) (Safe.exa X4.hZ.alike Pr0 (by decide) (by decide)) rfl rfl (D d42_9) fun T5 h5 X5 C5 W5 F5 Z5 => ?_
  have z5 := W5.size
  have A6 := X5.at
  refine Gets.via (fun _ k => (XS.aloadN A6 hx rfl (D d42_12) rfl rfl k)) ?_
  refine X5.getS (host := "java/util/ImmutableCollections") (Or.inr (w268 hw)) Via.refl (X5.sta OM) rfl (D d42_13) fun T7 X7 => ?_
  have f9 := Pr2.other W5 (Or.inr (slot_ne (t := (.object "java/lang/Object")) (t' := (.object "java/lang/Object")) (Or.inr (w261 hw)) (Or.inr (w259 hw)) (by decide) (by decide) (by decide)))
  refine X7.putF (host := "") (Or.inl (w260 hw)) Via.refl f9 Z5 (Or.inr ⟨(w261 hw), rfl, hnm⟩) (w247 hw) (ty := (.object "java/lang/Object")) (by decide) rfl rfl (leA (by omega)) (Safe.exa X7.hZ.alike Z5 (by decide) (by decide)) rfl rfl (D d42_16) fun T8 h8 X8 C8 W8 F8 Z8 => ?_
  have z8 := W8.size
  have f10 := F5.other W8 (Or.inr (slot_ne (t := (.object "java/lang/Object")) (t' := (.object "java/lang/Object")) (Or.inr (w259 hw)) (Or.inr (w261 hw)) (by decide) (by decide) (by decide)))
  exact X8.retV hret (D d42_19) (by decide) (by decide) (fun vmE CE => ⟨rfl, (((Keep.refl h0 [x]).wr W5 (Or.inl (List.mem_of_getElem? (i := 0) rfl))).wr W8 (Or.inl (List.mem_of_getElem? (i := 0) rfl))), Z8, f10, F8⟩)
abbrev Rrm40 : Room := { frames := 4, cells := 0, slots := 0, locals := 48 }
def Qrm40 (Z : State) (de : Addr) (el : Addr) (em : Addr) (x : Addr) (e0 : Addr) (e1 : Addr) (h0 : Heap) (v : Option Value) (vm : Vm) (h : Heap) : Prop := v = none ∧ Keep h0 h [x] ∧ Exa Z h x "java/util/ImmutableCollections$List12" ∧ Fld Z h x "java/util/ImmutableCollections$List12" "e0" "Ljava/lang/Object;" (.ref e0) ∧ Fld Z h x "java/util/ImmutableCollections$List12" "e1" "Ljava/lang/Object;" (.ref e1)
theorem rm40 (hcx : Cx Z a0 zc de kde em el ee kee mr) (x : Addr) (e0 : Addr) (e1 : Addr) (h0 : Heap) (O0 : Old Z Z.heap.size h0) (Pr0 : Exa Z h0 x "java/util/ImmutableCollections$List12") (Pr1 : Fld Z h0 x "java/util/ImmutableCollections$List12" "e0" "Ljava/lang/Object;" .null) (Pr2 : Fld Z h0 x "java/util/ImmutableCollections$List12" "e1" "Ljava/lang/Object;" .null) (Pr3 : Z.heap.size ≤ x) : Met l Z consts_1 (⟨"java/util/ImmutableCollections$List12", "<init>", "(Ljava/lang/Object;Ljava/lang/Object;)V"⟩ : MethodName) jdk_44_method_2_code 3 (none) [] Rrm40 [] #[(.ref x), (.ref e0), (.ref e1)] h0 (Qrm40 Z de el em x e0 e1 h0) := by
  have ⟨hw, hEL, O2, P5, OD, AD, XM, OM, OL, XL, FL, AE, MR⟩ := hcx
  refine Met.start (a0 := a0) (Ls := #[vR x, vR e0, vR e1]) pn40 hEL O0 (fun m => by first | (simp [entryFrame, mkF, argsToLocals, Value.category]; done) | rfl) ?_
  intro p e s m below meth cc T0 vm0 X0 sf0_ hby hml hret hnm
  have hx := X0.hx
  have D : ∀ {n r}, decode jdk_44_method_2_code n = r → decode cc.code n = r := fun d => hb hby d
  have zz := X0.ge
  have A0 := X0.at
  have l1 := ltA Pr0.lt
  refine Gets.via (fun _ k => (XS.aloadN A0 hx rfl (D d40_0) rfl rfl k)) ?_
  refine X0.callI (y := (⟨"java/util/ImmutableCollections$AbstractImmutableList", "<init>", "()V"⟩ : MethodName)) (W := 0) rfl (w253 hw) (w230 hw) (w234 hw) (by decide) (X0.payM (sf := []) (rm38 hcx x h0 X0.old ) sf0 (w234 hw) (w233 hw) (by decide) (by decide)) rfl (sz hml rfl) (a := x) (argsL := []) (rest := []) (lenOf pd7 rfl) rfl rfl (mroom rfl rfl) (D d40_1) (by decide) (by decide) fun T2 h2 vm2 v2 X2 C2 z2 q2 => ?_
  obtain ⟨rfl, K2⟩ := q2
  rw [K2] at X2 C2
  have A3 := X2.at
  refine Gets.via (fun _ k => (XS.aloadN A3 hx rfl (D d40_4) rfl rfl (XS.aloadN A3 hx rfl (D d40_5) rfl rfl k))) ?_
  refine X2.callS (W := 1) (w257 hw) (w221 hw) (w222 hw) (w223 hw) (by decide) (X2.payM (sf := []) (rm36 hcx e0 h0 X2.old ) sf0 (w223 hw) (w222 hw) (by decide) (by decide)) rfl (sz hml rfl) (argsL := [(.ref e0)]) (rest := [(.ref x)]) (lenOf pd8 rfl) rfl rfl (mroom rfl rfl) (D d40_6) (by decide) (by decide) fun T4 h4 vm4 v4 X4 C4 z4 q4 => ?_
  obtain ⟨rfl, K4⟩ := q4
  rw [K4] at X4 C4
  show Gets p e below _ (T4.setTop (mkF m 9 #[vR x, vR e0, vR e1] [(.ref e0), (.ref x)]))
  refine X4.putF (host := "") (Or.inl (w258 hw)) Via.refl Pr1 Pr0 (Or.inr ⟨(w259 hw), rfl, hnm⟩) (w247 hw) (ty := (.object "java/lang/Object")) (by decide) rfl rfl (leA (by omega)) (Safe.exa X4.hZ.alike Pr0 (by decide) (by decide)) rfl rfl (D d40_9) fun T5 h5 X5 C5 W5 F5 Z5 => ?_
  have z5 := W5.size
  have A6 := X5.at
  refine Gets.via (fun _ k => (XS.aloadN A6 hx rfl (D d40_12) rfl rfl (XS.aloadN A6 hx rfl (D d40_13) rfl rfl k))) ?_
  refine X5.callS (W := 1) (w257 hw) (w221 hw) (w222 hw) (w223 hw) (by decide) (X5.payM (sf := []) (rm36 hcx e1 h5 X5.old ) sf0 (w223 hw) (w222 hw) (by decide) (by decide)) rfl (sz hml rfl) (argsL := [(.ref e1)]) (rest := [(.ref x)]) (lenOf pd8 rfl) rfl rfl (mroom rfl rfl) (D d40_14) (by decide) (by decide) fun T7 h7 vm7 v7 X7 C7 z7 q7 => ?_
  obtain ⟨rfl, K7⟩ := q7
  rw [K7] at X7 C7
  have f9 := Pr2.other W5 (Or.inr (slot_ne (t := (.object "java/lang/Object")) (t' := (.object "java/lang/Object")) (Or.inr (w261 hw)) (Or.inr (w259 hw)) (by decide) (by decide) (by decide)))
  refine X7.putF (host := "") (Or.inl (w260 hw)) Via.refl f9 Z5 (Or.inr ⟨(w261 hw), rfl, hnm⟩) (w247 hw) (ty := (.object "java/lang/Object")) (by decide) rfl rfl (leA (by omega)) (Safe.exa X7.hZ.alike Z5 (by decide) (by decide)) rfl rfl (D d40_17) fun T8 h8 X8 C8 W8 F8 Z8 => ?_
  have z8 := W8.size
  have f10 := F5.other W8 (Or.inr (slot_ne (t := (.object "java/lang/Object")) (t' := (.object "java/lang/Object")) (Or.inr (w259 hw)) (Or.inr (w261 hw)) (by decide) (by decide) (by decide)))
  exact X8.retV hret (D d40_20) (by decide) (by decide) (fun vmE CE => ⟨rfl, (((Keep.refl h0 [x]).wr W5 (Or.inl (List.mem_of_getElem? (i := 0) rfl))).wr W8 (Or.inl (List.mem_of_getElem? (i := 0) rfl))), Z8, f10, F8⟩)
abbrev Rrm37 : Room := { frames := 4, cells := 0, slots := 0, locals := 48 }
def Qrm37 (Z : State) (de : Addr) (el : Addr) (em : Addr) (x : Addr) (t : Addr) (h0 : Heap) (v : Option Value) (vm : Vm) (h : Heap) : Prop := v = none ∧ Keep h0 h [x] ∧ Exa Z h x "java/util/ImmutableCollections$ListN" ∧ Fld Z h x "java/util/ImmutableCollections$ListN" "elements" "[Ljava/lang/Object;" (.ref t)
theorem rm37 (hcx : Cx Z a0 zc de kde em el ee kee mr) (x : Addr) (t : Addr) (h0 : Heap) (O0 : Old Z Z.heap.size h0) (Pr0 : Exa Z h0 x "java/util/ImmutableCollections$ListN") (Pr1 : Fld Z h0 x "java/util/ImmutableCollections$ListN" "elements" "[Ljava/lang/Object;" .null) (Pr2 : Fld Z h0 x "java/util/ImmutableCollections$ListN" "allowNulls" "Z" (.int (0 : Int32))) (Pr3 : Z.heap.size ≤ x) : Met l Z consts_1 (⟨"java/util/ImmutableCollections$ListN", "<init>", "([Ljava/lang/Object;Z)V"⟩ : MethodName) jdk_45_method_1_code 3 (none) [] Rrm37 [] #[(.ref x), (.ref t), (.int (0 : Int32))] h0 (Qrm37 Z de el em x t h0) := by
  have ⟨hw, hEL, O2, P5, OD, AD, XM, OM, OL, XL, FL, AE, MR⟩ := hcx
  refine Met.start (a0 := a0) (Ls := #[vR x, vR t, vI (0 : Int32)]) pn37 hEL O0 (fun m => by first | (simp [entryFrame, mkF, argsToLocals, Value.category]; done) | rfl) ?_
  intro p e s m below meth cc T0 vm0 X0 sf0_ hby hml hret hnm
  have hx := X0.hx
  have D : ∀ {n r}, decode jdk_45_method_1_code n = r → decode cc.code n = r := fun d => hb hby d
  have zz := X0.ge
  have A0 := X0.at
  have l1 := ltA Pr0.lt
  refine Gets.via (fun _ k => (XS.aloadN A0 hx rfl (D d37_0) rfl rfl k)) ?_
  refine X0.callI (y := (⟨"java/util/ImmutableCollections$AbstractImmutableList", "<init>", "()V"⟩ : MethodName)) (W := 0) rfl (w229 hw) (w230 hw) (w234 hw) (by decide) (X0.payM (sf := []) (rm38 hcx x h0 X0.old ) sf0 (w234 hw) (w233 hw) (by decide) (by decide)) rfl (sz hml rfl) (a := x) (argsL := []) (rest := []) (lenOf pd7 rfl) rfl rfl (mroom rfl rfl) (D d37_1) (by decide) (by decide) fun T2 h2 vm2 v2 X2 C2 z2 q2 => ?_
  obtain ⟨rfl, K2⟩ := q2
  rw [K2] at X2 C2
  have A3 := X2.at
  refine Gets.via (fun _ k => (XS.aloadN A3 hx rfl (D d37_4) rfl rfl (XS.aloadN A3 hx rfl (D d37_5) rfl rfl k))) ?_
  refine X2.putF (host := "") (Or.inl (w151 hw)) Via.refl Pr1 Pr0 (Or.inr ⟨(w152 hw), rfl, hnm⟩) (w224 hw) (ty := (.array (.object "java/lang/Object"))) (by decide) rfl rfl (leA (by omega)) (Safe.exa X2.hZ.alike Pr0 (by decide) (by decide)) rfl rfl (D d37_6) fun T4 h4 X4 C4 W4 F4 Z4 => ?_
  have z4 := W4.size
  show Gets p e below _ (T4.setTop (mkF m 9 #[vR x, vR t, vI (0 : Int32)] []))
  have A5 := X4.at
  refine Gets.via (fun _ k => (XS.aloadN A5 hx rfl (D d37_9) rfl rfl (XS.iloadN A5 hx rfl (D d37_10) rfl k))) ?_
  have f7 := Pr2.other W4 (Or.inr (slot_ne (t := .boolean) (t' := (.array (.object "java/lang/Object"))) (Or.inr (w244 hw)) (Or.inr (w152 hw)) (by decide) (by decide) (by decide)))
  refine X4.putF (host := "") (Or.inl (w243 hw)) Via.refl f7 Z4 (Or.inr ⟨(w244 hw), rfl, hnm⟩) (w224 hw) (ty := .boolean) (by decide) (by decide) (by decide) (leA (by omega)) (Safe.exa X4.hZ.alike Z4 (by decide) (by decide)) rfl rfl (D d37_11) fun T6 h6 X6 C6 W6 F6 Z6 => ?_
  have z6 := W6.size
  have f8 := F4.other W6 (Or.inr (slot_ne (t := (.array (.object "java/lang/Object"))) (t' := .boolean) (Or.inr (w152 hw)) (Or.inr (w244 hw)) (by decide) (by decide) (by decide)))
  exact X6.retV hret (D d37_14) (by decide) (by decide) (fun vmE CE => ⟨rfl, (((Keep.refl h0 [x]).wr W4 (Or.inl (List.mem_of_getElem? (i := 0) rfl))).wr W6 (Or.inl (List.mem_of_getElem? (i := 0) rfl))), Z6, f8⟩)
abbrev Rrm21 : Room := { frames := 0, cells := 0, slots := 0, locals := 0 }
def Qrm21 (Z : State) (de : Addr) (el : Addr) (em : Addr) (h0 : Heap) (v : Option Value) (vm : Vm) (h : Heap) : Prop := v = some (.ref el) ∧ h = h0
theorem rm21 (hcx : Cx Z a0 zc de kde em el ee kee mr)  (h0 : Heap) (O0 : Old Z Z.heap.size h0)  : Met l Z consts_1 (⟨"java/util/List", "of", "()Ljava/util/List;"⟩ : MethodName) jdk_40_method_36_code 0 (some (.object "java/util/List")) [] Rrm21 [] #[] h0 (Qrm21 Z de el em h0) := by
  have ⟨hw, hEL, O2, P5, OD, AD, XM, OM, OL, XL, FL, AE, MR⟩ := hcx
  refine Met.start (a0 := a0) (Ls := #[]) pn21 hEL O0 (fun m => by first | (simp [entryFrame, mkF, argsToLocals, Value.category]; done) | rfl) ?_
  intro p e s m below meth cc T0 vm0 X0 sf0_ hby hml hret hnm
  have hx := X0.hx
  have D : ∀ {n r}, decode jdk_40_method_36_code n = r → decode cc.code n = r := fun d => hb hby d
  have zz := X0.ge
  have A0 := X0.at
  refine X0.getS (host := "") (Or.inl (w125 hw)) Via.refl (X0.sta OL) rfl (D d21_0) fun T1 X1 => ?_
  exact X1.retA hret rfl rfl rfl (D d21_3) (by decide) (by decide) (fun vmE CE => ⟨rfl, rfl⟩)
abbrev Rrm17 : Room := { frames := 1, cells := 0, slots := 0, locals := 12 }
def Qrm17 (Z : State) (de : Addr) (el : Addr) (em : Addr) (x : Addr) (h0 : Heap) (v : Option Value) (vm : Vm) (h : Heap) : Prop := v = none ∧ h = h0
theorem rm17 (hcx : Cx Z a0 zc de kde em el ee kee mr) (x : Addr) (h0 : Heap) (O0 : Old Z Z.heap.size h0)  : Met l Z consts_1 (⟨"java/lang/Record", "<init>", "()V"⟩ : MethodName) jdk_30_method_1_code 1 (none) [] Rrm17 [] #[(.ref x)] h0 (Qrm17 Z de el em x h0) := by
  have ⟨hw, hEL, O2, P5, OD, AD, XM, OM, OL, XL, FL, AE, MR⟩ := hcx
  refine Met.start (a0 := a0) (Ls := #[vR x]) pn17 hEL O0 (fun m => by first | (simp [entryFrame, mkF, argsToLocals, Value.category]; done) | rfl) ?_
  intro p e s m below meth cc T0 vm0 X0 sf0_ hby hml hret hnm
  have hx := X0.hx
  have D : ∀ {n r}, decode jdk_30_method_1_code n = r → decode cc.code n = r := fun d => hb hby d
  have zz := X0.ge
  have A0 := X0.at
  refine Gets.via (fun _ k => (XS.aloadN A0 hx rfl (D d17_0) rfl rfl k)) ?_
  refine X0.objInit (w96 hw) (w26 hw) (w27 hw) rfl (sz hml rfl) rfl (D d17_1) (by decide) (W := 0) (mroom rfl rfl) (by decide) fun T1 X1 => ?_
  exact X1.retV hret (D d17_4) (by decide) (by decide) (fun vmE CE => ⟨rfl, rfl⟩)
abbrev RrmAlEmpty0 : Room := { frames := 0, cells := 0, slots := 0, locals := 0 }
def QrmAlEmpty0 (Z : State) (de : Addr) (el : Addr) (em : Addr) (x : Addr) (h0 : Heap) (v : Option Value) (vm : Vm) (h : Heap) : Prop := v = some (.int (1 : Int32)) ∧ h = h0
theorem rmAlEmpty0 (hcx : Cx Z a0 zc de kde em el ee kee mr) (x : Addr) (h0 : Heap) (O0 : Old Z Z.heap.size h0) (Pr0 : Fld Z h0 x "java/util/ArrayList" "size" "I" (.int (0 : Int32))) : Met l Z consts_1 (⟨"java/util/ArrayList", "isEmpty", "()Z"⟩ : MethodName) jdk_38_method_9_code 1 (some .boolean) [] RrmAlEmpty0 [] #[(.ref x)] h0 (QrmAlEmpty0 Z de el em x h0) := by
  have ⟨hw, hEL, O2, P5, OD, AD, XM, OM, OL, XL, FL, AE, MR⟩ := hcx
  refine Met.start (a0 := a0) (Ls := #[vR x]) pn20 hEL O0 (fun m => by first | (simp [entryFrame, mkF, argsToLocals, Value.category]; done) | rfl) ?_
  intro p e s m below meth cc T0 vm0 X0 sf0_ hby hml hret hnm
  have hx := X0.hx
  have D : ∀ {n r}, decode jdk_38_method_9_code n = r → decode cc.code n = r := fun d => hb hby d
  have zz := X0.ge
  have A0 := X0.at
  have l1 := ltA Pr0.lt
  refine Gets.via (fun _ k => (XS.aloadN A0 hx rfl (D d20_0) rfl rfl k)) ?_
  refine X0.getF (host := "") (Or.inl (w120 hw)) Via.refl Pr0 rfl rfl (D d20_1) fun T2 X2 => ?_
  have A3 := X2.at
  refine Gets.via (fun _ k => (XS.ifNo A3 hx rfl (D d20_4) rfl (Jvm.Free.XT.i0_ne_f (by decide)) k)) ?_
  refine Gets.via (fun _ k => (XS.iconst A3 hx rfl (D d20_7) (XS.goto A3 hx rfl (pc0 := 8) (pc' := 12) rfl (D d20_8) (by decide) (by decide) k))) ?_
  exact X2.retI hret (by decide) (by simp) (D d20_12) (by decide) (by decide) (fun vmE CE => ⟨rfl, rfl⟩)
abbrev RrmLc0 : Room := { frames := 1, cells := 0, slots := 0, locals := 12 }
def QrmLc0 (Z : State) (de : Addr) (el : Addr) (em : Addr) (x : Addr) (h0 : Heap) (v : Option Value) (vm : Vm) (h : Heap) : Prop := v = some (.ref el) ∧ h = h0
theorem rmLc0 (hcx : Cx Z a0 zc de kde em el ee kee mr) (x : Addr) (h0 : Heap) (O0 : Old Z Z.heap.size h0) (Pr0 : Exa Z h0 x "java/util/ArrayList") (Pr1 : Fld Z h0 x "java/util/ArrayList" "size" "I" (.int (0 : Int32))) : Met l Z consts_1 (⟨"java/util/ImmutableCollections", "listCopy", "(Ljava/util/Collection;)Ljava/util/List;"⟩ : MethodName) jdk_56_method_3_code 2 (some (.object "java/util/List")) [] RrmLc0 [] #[(.ref x)] h0 (QrmLc0 Z de el em x h0) := by
  have ⟨hw, hEL, O2, P5, OD, AD, XM, OM, OL, XL, FL, AE, MR⟩ := hcx
  refine Met.start (a0 := a0) (Ls := #[vR x, .unset]) pn19 hEL O0 (fun m => by first | (simp [entryFrame, mkF, argsToLocals, Value.category]; done) | rfl) ?_
  intro p e s m below meth cc T0 vm0 X0 sf0_ hby hml hret hnm
  have hx := X0.hx
  have D : ∀ {n r}, decode jdk_56_method_3_code n = r → decode cc.code n = r := fun d => hb hby d
  have zz := X0.ge
  have A0 := X0.at
  have l1 := ltA Pr0.lt
  refine Gets.via (fun _ k => (XS.aloadN A0 hx rfl (D d19_0) rfl rfl k)) ?_
  refine X0.instNo (w105 hw) Pr0 (ns_no (w106 hw) (plainS (w262 hw) rfl) (NS.step (w106 hw) (NS.step (w107 hw) (NS.step (w108 hw) (ns_root (w109 hw) (plainS (w262 hw) rfl) (by decide)) (by decide)) (by decide)) (by decide)) (by decide)) rfl rfl (D d19_1) fun T2 X2 => ?_
  have A3 := X2.at
  refine Gets.via (fun _ k => (XS.ifNo A3 hx rfl (D d19_4) rfl (Jvm.Free.XT.i0_ne_f (by decide)) k)) ?_
  refine Gets.via (fun _ k => (XS.aloadN A3 hx rfl (D d19_7) rfl rfl k)) ?_
  refine X2.instNo (w110 hw) Pr0 (ns_no (w106 hw) (plainS (w144 hw) rfl) (NS.step (w106 hw) (NS.step (w107 hw) (NS.step (w108 hw) (ns_root (w109 hw) (plainS (w144 hw) rfl) (by decide)) (by decide)) (by decide)) (by decide)) (by decide)) rfl rfl (D d19_8) fun T4 X4 => ?_
  show Gets p e below _ (T4.setTop (mkF m 11 #[vR x, .unset] [(.int (0 : Int32))]))
  have A5 := X4.at
  refine Gets.via (fun _ k => (XS.ifYes A5 hx rfl (pc0 := 11) (pc' := 31) rfl (D d19_11) rfl (Jvm.Free.XT.i0_eq_t (by decide)) (by decide) (by decide) k)) ?_
  refine Gets.via (fun _ k => (XS.aloadN A5 hx rfl (D d19_31) rfl rfl k)) ?_
  refine X4.callF (W := 0) (w111 hw) (w112 hw) (w113 hw) rfl (w114 hw) (w115 hw) (w116 hw) (w117 hw) (w118 hw) (by decide) (X4.payM (sf := []) (rmAlEmpty0 hcx x h0 X4.old Pr1) sf0 (w119 hw) (w60 hw) (by decide) (by decide)) Pr0 rfl (sz hml rfl) (argsL := []) (rest := []) (lenOf pd10 rfl) rfl rfl (mroom rfl rfl) (D d19_32) (by decide) (by decide) fun T6 h6 vm6 v6 X6 C6 z6 q6 => ?_
  obtain ⟨rfl, K6⟩ := q6
  rw [K6] at X6 C6
  have A7 := X6.at
  refine Gets.via (fun _ k => (XS.ifNo A7 hx rfl (D d19_37) rfl (Jvm.Free.XT.i0_eq_f (by decide)) k)) ?_
  refine X6.callS (W := 0) (w122 hw) (w123 hw) (w99 hw) (w124 hw) (by decide) (X6.payM (sf := []) (rm21 hcx  h0 X6.old ) sf0 (w124 hw) (w99 hw) (by decide) (by decide)) rfl (sz hml rfl) (argsL := []) (rest := []) (lenOf pd11 rfl) rfl rfl (mroom rfl rfl) (D d19_40) (by decide) (by decide) fun T8 h8 vm8 v8 X8 C8 z8 q8 => ?_
  obtain ⟨rfl, K8⟩ := q8
  rw [K8] at X8 C8
  exact X8.retA hret rfl rfl rfl (D d19_43) (by decide) (by decide) (fun vmE CE => ⟨rfl, rfl⟩)
abbrev RrmCoL0 : Room := { frames := 2, cells := 0, slots := 0, locals := 25 }
def QrmCoL0 (Z : State) (de : Addr) (el : Addr) (em : Addr) (x : Addr) (h0 : Heap) (v : Option Value) (vm : Vm) (h : Heap) : Prop := v = some (.ref el) ∧ h = h0
theorem rmCoL0 (hcx : Cx Z a0 zc de kde em el ee kee mr) (x : Addr) (h0 : Heap) (O0 : Old Z Z.heap.size h0) (Pr0 : Exa Z h0 x "java/util/ArrayList") (Pr1 : Fld Z h0 x "java/util/ArrayList" "size" "I" (.int (0 : Int32))) : Met l Z consts_1 (⟨"java/util/List", "copyOf", "(Ljava/util/Collection;)Ljava/util/List;"⟩ : MethodName) jdk_40_method_48_code 1 (some (.object "java/util/List")) [] RrmCoL0 [] #[(.ref x)] h0 (QrmCoL0 Z de el em x h0) := by
  have ⟨hw, hEL, O2, P5, OD, AD, XM, OM, OL, XL, FL, AE, MR⟩ := hcx
  refine Met.start (a0 := a0) (Ls := #[vR x]) pn18 hEL O0 (fun m => by first | (simp [entryFrame, mkF, argsToLocals, Value.category]; done) | rfl) ?_
  intro p e s m below meth cc T0 vm0 X0 sf0_ hby hml hret hnm
  have hx := X0.hx
  have D : ∀ {n r}, decode jdk_40_method_48_code n = r → decode cc.code n = r := fun d => hb hby d
  have zz := X0.ge
  have A0 := X0.at
  have l1 := ltA Pr0.lt
  refine Gets.via (fun _ k => (XS.aloadN A0 hx rfl (D d18_0) rfl rfl k)) ?_
  refine X0.callS (W := 0) (w101 hw) (w102 hw) (w103 hw) (w104 hw) (by decide) (X0.payM (sf := []) (rmLc0 hcx x h0 X0.old Pr0 Pr1) sf0 (w104 hw) (w103 hw) (by decide) (by decide)) rfl (sz hml rfl) (argsL := [(.ref x)]) (rest := []) (lenOf pd12 rfl) rfl rfl (mroom rfl rfl) (D d18_1) (by decide) (by decide) fun T2 h2 vm2 v2 X2 C2 z2 q2 => ?_
  obtain ⟨rfl, K2⟩ := q2
  rw [K2] at X2 C2
  exact X2.retA hret rfl rfl rfl (D d18_4) (by decide) (by decide) (fun vmE CE => ⟨rfl, rfl⟩)
abbrev RrmNode0 : Room := { frames := 3, cells := 0, slots := 0, locals := 37 }
def QrmNode0 (Z : State) (de : Addr) (el : Addr) (em : Addr) (x : Addr) (u : Addr) (z : Addr) (v1 : Addr) (h0 : Heap) (v : Option Value) (vm : Vm) (h : Heap) : Prop := v = none ∧ Keep h0 h [x] ∧ Exa Z h x "com/example/packwright/packwright/model/Node" ∧ Fld Z h x "com/example/packwright/packwright/model/Node" "subscripts" "Ljava/util/List;" (.ref el)
theorem rmNode0 (hcx : Cx Z a0 zc de kde em el ee kee mr) (x : Addr) (u : Addr) (z : Addr) (v1 : Addr) (h0 : Heap) (O0 : Old Z Z.heap.size h0) (Pr0 : Exa Z h0 x "com/example/packwright/packwright/model/Node") (Pr1 : Fld Z h0 x "com/example/packwright/packwright/model/Node" "subscriptLine" "Ljava/lang/String;" .null) (Pr2 : Fld Z h0 x "com/example/packwright/packwright/model/Node" "subscripts" "Ljava/util/List;" .null) (Pr3 : Fld Z h0 x "com/example/packwright/packwright/model/Node" "value" "Ljava/lang/String;" .null) (Pr4 : Z.heap.size ≤ x) (Pr5 : Exa Z h0 z "java/util/ArrayList") (Pr6 : Fld Z h0 z "java/util/ArrayList" "size" "I" (.int (0 : Int32))) : Met l Z consts_1 (⟨"com/example/packwright/packwright/model/Node", "<init>", "(Ljava/lang/String;Ljava/util/List;Ljava/lang/String;)V"⟩ : MethodName) prog_37_method_1_code 4 (none) [] RrmNode0 [] #[(.ref x), (.ref u), (.ref z), (.ref v1)] h0 (QrmNode0 Z de el em x u z v1 h0) := by
  have ⟨hw, hEL, O2, P5, OD, AD, XM, OM, OL, XL, FL, AE, MR⟩ := hcx
  refine Met.start (a0 := a0) (Ls := #[vR x, vR u, vR z, vR v1]) pn16 hEL O0 (fun m => by first | (simp [entryFrame, mkF, argsToLocals, Value.category]; done) | rfl) ?_
  intro p e s m below meth cc T0 vm0 X0 sf0_ hby hml hret hnm
  have hx := X0.hx
  have D : ∀ {n r}, decode prog_37_method_1_code n = r → decode cc.code n = r := fun d => hb hby d
  have zz := X0.ge
  have A0 := X0.at
  have l1 := ltA Pr0.lt
  have l2 := ltA Pr5.lt
  refine Gets.via (fun _ k => (XS.aloadN A0 hx rfl (D d16_0) rfl rfl k)) ?_
  refine X0.callI (y := (⟨"java/lang/Record", "<init>", "()V"⟩ : MethodName)) (W := 0) rfl (w91 hw) (w92 hw) (w95 hw) (by decide) (X0.payM (sf := []) (rm17 hcx x h0 X0.old ) sf0 (w95 hw) (w94 hw) (by decide) (by decide)) rfl (sz hml rfl) (a := x) (argsL := []) (rest := []) (lenOf pd7 rfl) rfl rfl (mroom rfl rfl) (D d16_1) (by decide) (by decide) fun T3 h3 vm3 v3 X3 C3 z3 q3 => ?_
  obtain ⟨rfl, K3⟩ := q3
  rw [K3] at X3 C3
  have A4 := X3.at
  refine Gets.via (fun _ k => (XS.aloadN A4 hx rfl (D d16_4) rfl rfl k)) ?_
  refine X3.callS (W := 0) (w97 hw) (w98 hw) (w99 hw) (w100 hw) (by decide) (X3.payM (sf := []) (rmCoL0 hcx z h0 X3.old Pr5 Pr6) sf0 (w100 hw) (w99 hw) (by decide) (by decide)) rfl (sz hml rfl) (argsL := [(.ref z)]) (rest := []) (lenOf pd12 rfl) rfl rfl (mroom rfl rfl) (D d16_5) (by decide) (by decide) fun T5 h5 vm5 v5 X5 C5 z5 q5 => ?_
  obtain ⟨rfl, K5⟩ := q5
  rw [K5] at X5 C5
  have A6 := X5.at
  refine Gets.via (fun _ k => (XS.astoreN A6 hx rfl (D d16_8) rfl rfl (l' := #[vR x, vR u, vR el, vR v1]) rfl (XS.aloadN A6 hx rfl (D d16_9) rfl rfl (XS.aloadN A6 hx rfl (D d16_10) rfl rfl k)))) ?_
  show Gets p e below _ (T5.setTop (mkF m 11 #[vR x, vR u, vR el, vR v1] [(.ref u), (.ref x)]))
  refine X5.putF (host := "") (Or.inl (w126 hw)) Via.refl Pr1 Pr0 (Or.inr ⟨(w127 hw), rfl, hnm⟩) (w83 hw) (ty := (.object "java/lang/String")) (by decide) rfl rfl (leA (by omega)) (Safe.exa X5.hZ.alike Pr0 (by decide) (by decide)) rfl rfl (D d16_11) fun T7 h7 X7 C7 W7 F7 Z7 => ?_
  have z7 := W7.size
  have A8 := X7.at
  refine Gets.via (fun _ k => (XS.aloadN A8 hx rfl (D d16_14) rfl rfl (XS.aloadN A8 hx rfl (D d16_15) rfl rfl k))) ?_
  have f10 := Pr2.other W7 (Or.inr (slot_ne (t := (.object "java/util/List")) (t' := (.object "java/lang/String")) (Or.inr (w129 hw)) (Or.inr (w127 hw)) (by decide) (by decide) (by decide)))
  refine X7.putF (host := "") (Or.inl (w128 hw)) Via.refl f10 Z7 (Or.inr ⟨(w129 hw), rfl, hnm⟩) (w83 hw) (ty := (.object "java/util/List")) (by decide) rfl rfl (leA (by omega)) (Safe.exa X7.hZ.alike Z7 (by decide) (by decide)) rfl rfl (D d16_16) fun T9 h9 X9 C9 W9 F9 Z9 => ?_
  have z9 := W9.size
  have A11 := X9.at
  refine Gets.via (fun _ k => (XS.aloadN A11 hx rfl (D d16_19) rfl rfl (XS.aloadN A11 hx rfl (D d16_20) rfl rfl k))) ?_
  have f13 := Pr3.other W7 (Or.inr (slot_ne (t := (.object "java/lang/String")) (t' := (.object "java/lang/String")) (Or.inr (w131 hw)) (Or.inr (w127 hw)) (by decide) (by decide) (by decide)))
  have f14 := f13.other W9 (Or.inr (slot_ne (t := (.object "java/lang/String")) (t' := (.object "java/util/List")) (Or.inr (w131 hw)) (Or.inr (w129 hw)) (by decide) (by decide) (by decide)))
  refine X9.putF (host := "") (Or.inl (w130 hw)) Via.refl f14 Z9 (Or.inr ⟨(w131 hw), rfl, hnm⟩) (w83 hw) (ty := (.object "java/lang/String")) (by decide) rfl rfl (leA (by omega)) (Safe.exa X9.hZ.alike Z9 (by decide) (by decide)) rfl rfl (D d16_21) fun T12 h12 X12 C12 W12 F12 Z12 => ?_
  have z12 := W12.size
  show Gets p e below _ (T12.setTop (mkF m 24 #[vR x, vR u, vR el, vR v1] []))
  have f15 := F9.other W12 (Or.inr (slot_ne (t := (.object "java/util/List")) (t' := (.object "java/lang/String")) (Or.inr (w129 hw)) (Or.inr (w131 hw)) (by decide) (by decide) (by decide)))
  exact X12.retV hret (D d16_24) (by decide) (by decide) (fun vmE CE => ⟨rfl, ((((Keep.refl h0 [x]).wr W7 (Or.inl (List.mem_of_getElem? (i := 0) rfl))).wr W9 (Or.inl (List.mem_of_getElem? (i := 0) rfl))).wr W12 (Or.inl (List.mem_of_getElem? (i := 0) rfl))), Z12, f15⟩)
abbrev RrmSubs : Room := { frames := 0, cells := 0, slots := 0, locals := 0 }
def QrmSubs (Z : State) (de : Addr) (el : Addr) (em : Addr) (x : Addr) (L : Addr) (h0 : Heap) (v : Option Value) (vm : Vm) (h : Heap) : Prop := v = some (.ref L) ∧ h = h0
theorem rmSubs (hcx : Cx Z a0 zc de kde em el ee kee mr) (x : Addr) (L : Addr) (h0 : Heap) (O0 : Old Z Z.heap.size h0) (Pr0 : Fld Z h0 x "com/example/packwright/packwright/model/Node" "subscripts" "Ljava/util/List;" (.ref L)) : Met l Z consts_1 (⟨"com/example/packwright/packwright/model/Node", "subscripts", "()Ljava/util/List;"⟩ : MethodName) prog_37_method_7_code 1 (some (.object "java/util/List")) [] RrmSubs [] #[(.ref x)] h0 (QrmSubs Z de el em x L h0) := by
  have ⟨hw, hEL, O2, P5, OD, AD, XM, OM, OL, XL, FL, AE, MR⟩ := hcx
  refine Met.start (a0 := a0) (Ls := #[vR x]) pn23 hEL O0 (fun m => by first | (simp [entryFrame, mkF, argsToLocals, Value.category]; done) | rfl) ?_
  intro p e s m below meth cc T0 vm0 X0 sf0_ hby hml hret hnm
  have hx := X0.hx
  have D : ∀ {n r}, decode prog_37_method_7_code n = r → decode cc.code n = r := fun d => hb hby d
  have zz := X0.ge
  have A0 := X0.at
  have l1 := ltA Pr0.lt
  refine Gets.via (fun _ k => (XS.aloadN A0 hx rfl (D d23_0) rfl rfl k)) ?_
  refine X0.getF (host := "") (Or.inl (w128 hw)) Via.refl Pr0 rfl rfl (D d23_1) fun T2 X2 => ?_
  exact X2.retA hret rfl rfl rfl (D d23_4) (by decide) (by decide) (fun vmE CE => ⟨rfl, rfl⟩)
abbrev RrmLNs0 : Room := { frames := 0, cells := 0, slots := 0, locals := 0 }
def QrmLNs0 (Z : State) (de : Addr) (el : Addr) (em : Addr) (x : Addr) (t : Addr) (kt : ClassId) (vs : List Value) (h0 : Heap) (v : Option Value) (vm : Vm) (h : Heap) : Prop := v = some (.int (0 : Int32)) ∧ h = h0
theorem rmLNs0 (hcx : Cx Z a0 zc de kde em el ee kee mr) (x : Addr) (t : Addr) (kt : ClassId) (vs : List Value) (h0 : Heap) (O0 : Old Z Z.heap.size h0) (Pr0 : Fld Z h0 x "java/util/ImmutableCollections$ListN" "elements" "[Ljava/lang/Object;" (.ref t)) (Pr1 : Arv Z h0 t kt (.object "java/lang/Object") (0 : Int32) vs .null) : Met l Z consts_1 (⟨"java/util/ImmutableCollections$ListN", "size", "()I"⟩ : MethodName) jdk_45_method_3_code 1 (some .int) [] RrmLNs0 [] #[(.ref x)] h0 (QrmLNs0 Z de el em x t kt vs h0) := by
  have ⟨hw, hEL, O2, P5, OD, AD, XM, OM, OL, XL, FL, AE, MR⟩ := hcx
  refine Met.start (a0 := a0) (Ls := #[vR x]) pn24 hEL O0 (fun m => by first | (simp [entryFrame, mkF, argsToLocals, Value.category]; done) | rfl) ?_
  intro p e s m below meth cc T0 vm0 X0 sf0_ hby hml hret hnm
  have hx := X0.hx
  have D : ∀ {n r}, decode jdk_45_method_3_code n = r → decode cc.code n = r := fun d => hb hby d
  have zz := X0.ge
  have A0 := X0.at
  have l1 := ltA Pr0.lt
  have l2 := ltA Pr1.lt
  refine Gets.via (fun _ k => (XS.aloadN A0 hx rfl (D d24_0) rfl rfl k)) ?_
  refine X0.getF (host := "") (Or.inl (w151 hw)) Via.refl Pr0 rfl rfl (D d24_1) fun T3 X3 => ?_
  refine X3.alen Pr1 rfl rfl (D d24_4) ?_
  exact X3.retI hret rfl (by simp) (D d24_5) (by decide) (by decide) (fun vmE CE => ⟨rfl, rfl⟩)
abbrev RrmRol0 : Room := { frames := 1, cells := 0, slots := 0, locals := 12 }
def QrmRol0 (Z : State) (de : Addr) (el : Addr) (em : Addr) (x : Addr) (h0 : Heap) (v : Option Value) (vm : Vm) (h : Heap) : Prop := v = some .null ∧ h = h0
theorem rmRol0 (hcx : Cx Z a0 zc de kde em el ee kee mr) (x : Addr) (h0 : Heap) (O0 : Old Z Z.heap.size h0) (Pr0 : Exa Z h0 x "com/example/packwright/packwright/model/Node") (Pr1 : Fld Z h0 x "com/example/packwright/packwright/model/Node" "subscripts" "Ljava/util/List;" (.ref el)) : Met l Z consts_1 (⟨"com/example/packwright/packwright/io/BuildAssembler", "routineOfLine", "(Lcom/example/packwright/packwright/model/Node;)Ljava/lang/String;"⟩ : MethodName) prog_4_method_10_code 3 (some (.object "java/lang/String")) [] RrmRol0 [] #[(.ref x)] h0 (QrmRol0 Z de el em x h0) := by
  have ⟨hw, hEL, O2, P5, OD, AD, XM, OM, OL, XL, FL, AE, MR⟩ := hcx
  refine Met.start (a0 := a0) (Ls := #[vR x, .unset, .unset]) pn22 hEL O0 (fun m => by first | (simp [entryFrame, mkF, argsToLocals, Value.category]; done) | rfl) ?_
  intro p e s m below meth cc T0 vm0 X0 sf0_ hby hml hret hnm
  have hx := X0.hx
  have D : ∀ {n r}, decode prog_4_method_10_code n = r → decode cc.code n = r := fun d => hb hby d
  have zz := X0.ge
  have A0 := X0.at
  have l1 := ltA Pr0.lt
  refine Gets.via (fun _ k => (XS.aloadN A0 hx rfl (D d22_0) rfl rfl k)) ?_
  refine X0.callV (W := 0) (w136 hw) (w137 hw) (w139 hw) (w138 hw) (nfs rfl (w139 hw)) (by decide) (X0.payM (sf := []) (rmSubs hcx x el h0 X0.old Pr1) sf0 (w140 hw) (w84 hw) (by decide) (by decide)) Pr0 rfl (sz hml rfl) (argsL := []) (rest := []) (lenOf pd11 rfl) rfl rfl (mroom rfl rfl) (D d22_1) (by decide) (by decide) fun T2 h2 vm2 v2 X2 C2 z2 q2 => ?_
  obtain ⟨rfl, K2⟩ := q2
  rw [K2] at X2 C2
  have A3 := X2.at
  refine Gets.via (fun _ k => (XS.astoreN A3 hx rfl (D d22_4) rfl rfl (l' := #[vR x, vR el, .unset]) rfl (XS.aloadN A3 hx rfl (D d22_5) rfl rfl k))) ?_
  have f4 : Exa Z h0 el "java/util/ImmutableCollections$ListN" := XL.ext X2.old.2
  have f5 : Fld Z h0 el "java/util/ImmutableCollections$ListN" "elements" "[Ljava/lang/Object;" (.ref ee) := FL.ext X2.old.2
  have f6 : Arv Z h0 ee kee (.object "java/lang/Object") (0 : Int32) [] .null := AE.ext X2.old.2
  refine X2.callF (W := 0) (w141 hw) (w142 hw) (w143 hw) rfl (w144 hw) (w145 hw) (w146 hw) (w147 hw) (w148 hw) (by decide) (X2.payM (sf := []) (rmLNs0 hcx el ee kee [] h0 X2.old f5 f6) sf0 (w150 hw) (w149 hw) (by decide) (by decide)) f4 rfl (sz hml rfl) (argsL := []) (rest := []) (lenOf pd14 rfl) rfl rfl (mroom rfl rfl) (D d22_6) (by decide) (by decide) fun T7 h7 vm7 v7 X7 C7 z7 q7 => ?_
  obtain ⟨rfl, K7⟩ := q7
  rw [K7] at X7 C7
  show Gets p e below _ (T7.setTop (mkF m 11 #[vR x, vR el, .unset] [(.int (0 : Int32))]))
  have A8 := X7.at
  refine Gets.via (fun _ k => (XS.iconst A8 hx rfl (D d22_11) (XS.icmpYes A8 hx rfl (pc0 := 12) (pc' := 55) rfl (D d22_12) rfl (Jvm.Free.XT.ii_ne_t (by decide)) (by decide) (by decide) k))) ?_
  refine Gets.via (fun _ k => (XS.iconst A8 hx rfl (D d22_55) (XS.istoreN A8 hx rfl (D d22_56) rfl (l' := #[vR x, vR el, vI (0 : Int32)]) rfl (XS.iloadN A8 hx rfl (D d22_57) rfl (XS.ifYes A8 hx rfl (pc0 := 58) (pc' := 74) rfl (D d22_58) rfl (Jvm.Free.XT.i0_eq_t (by decide)) (by decide) (by decide) k))))) ?_
  refine Gets.via (fun _ k => (XS.aconstNull A8 hx rfl (D d22_74) k)) ?_
  exact X7.retA hret rfl rfl rfl (D d22_75) (by decide) (by decide) (fun vmE CE => ⟨rfl, rfl⟩)
abbrev Rrmmax_10_1 : Room := { frames := 0, cells := 0, slots := 0, locals := 0 }
def Qrmmax_10_1 (Z : State) (de : Addr) (el : Addr) (em : Addr) (h0 : Heap) (v : Option Value) (vm : Vm) (h : Heap) : Prop := v = some (.int (10 : Int32)) ∧ h = h0
theorem rmmax_10_1 (hcx : Cx Z a0 zc de kde em el ee kee mr)  (h0 : Heap) (O0 : Old Z Z.heap.size h0)  : Met l Z consts_1 (⟨"java/lang/Math", "max", "(II)I"⟩ : MethodName) jdk_29_method_65_code 2 (some .int) [] Rrmmax_10_1 [] #[(.int (10 : Int32)), (.int (1 : Int32))] h0 (Qrmmax_10_1 Z de el em h0) := by
  have ⟨hw, hEL, O2, P5, OD, AD, XM, OM, OL, XL, FL, AE, MR⟩ := hcx
  refine Met.start (a0 := a0) (Ls := #[vI (10 : Int32), vI (1 : Int32)]) pn29 hEL O0 (fun m => by first | (simp [entryFrame, mkF, argsToLocals, Value.category]; done) | rfl) ?_
  intro p e s m below meth cc T0 vm0 X0 sf0_ hby hml hret hnm
  have hx := X0.hx
  have D : ∀ {n r}, decode jdk_29_method_65_code n = r → decode cc.code n = r := fun d => hb hby d
  have zz := X0.ge
  have A0 := X0.at
  refine Gets.via (fun _ k => (XS.iloadN A0 hx rfl (D d29_0) rfl (XS.iloadN A0 hx rfl (D d29_1) rfl (XS.icmpNo A0 hx rfl (D d29_2) rfl (Jvm.Free.XT.ii_lt_f (by decide)) k)))) ?_
  refine Gets.via (fun _ k => (XS.iloadN A0 hx rfl (D d29_5) rfl (XS.goto A0 hx rfl (pc0 := 6) (pc' := 10) rfl (D d29_6) (by decide) (by decide) k))) ?_
  exact X0.retI hret rfl (by simp) (D d29_10) (by decide) (by decide) (fun vmE CE => ⟨rfl, rfl⟩)
abbrev RrmGrowI : Room := { frames := 1, cells := 1, slots := 10, locals := 14 }
def QrmGrowI (Z : State) (de : Addr) (el : Addr) (em : Addr) (x : Addr) (mc : Int32) (h0 : Heap) (v : Option Value) (vm : Vm) (h : Heap) : Prop := ∃ (d : Addr) (kd : ClassId), v = some (.ref d) ∧ Keep h0 h [x] ∧ Exa Z h x "java/util/ArrayList" ∧ Fld Z h x "java/util/AbstractList" "modCount" "I" (.int mc) ∧ Fld Z h x "java/util/ArrayList" "size" "I" (.int (0 : Int32)) ∧ Fld Z h x "java/util/ArrayList" "elementData" "[Ljava/lang/Object;" (.ref d) ∧ Arv Z h d kd (.object "java/lang/Object") (10 : Int32) [.null, .null, .null, .null, .null, .null, .null, .null, .null, .null] .null ∧ Exa Z h d "[Ljava/lang/Object;" ∧ Ovr Z kd "java/lang/Object" ∧ Z.heap.size ≤ d ∧ h0.size ≤ d
theorem rmGrowI (hcx : Cx Z a0 zc de kde em el ee kee mr) (x : Addr) (mc : Int32) (h0 : Heap) (O0 : Old Z Z.heap.size h0) (Pr0 : Exa Z h0 x "java/util/ArrayList") (Pr1 : Fld Z h0 x "java/util/AbstractList" "modCount" "I" (.int mc)) (Pr2 : Fld Z h0 x "java/util/ArrayList" "size" "I" (.int (0 : Int32))) (Pr3 : Fld Z h0 x "java/util/ArrayList" "elementData" "[Ljava/lang/Object;" (.ref de)) (Pr4 : Z.heap.size ≤ x) : Met l Z consts_1 (⟨"java/util/ArrayList", "grow", "(I)[Ljava/lang/Object;"⟩ : MethodName) jdk_38_method_6_code 4 (some (.array (.object "java/lang/Object"))) [] RrmGrowI [] #[(.ref x), (.int (1 : Int32))] h0 (QrmGrowI Z de el em x mc h0) := by
  have ⟨hw, hEL, O2, P5, OD, AD, XM, OM, OL, XL, FL, AE, MR⟩ := hcx
  refine Met.start (a0 := a0) (Ls := #[vR x, vI (1 : Int32), .unset, .unset]) pn28 hEL O0 (fun m => by first | (simp [entryFrame, mkF, argsToLocals, Value.category]; done) | rfl) ?_
  intro p e s m below meth cc T0 vm0 X0 sf0_ hby hml hret hnm
  have hx := X0.hx
  have D : ∀ {n r}, decode jdk_38_method_6_code n = r → decode cc.code n = r := fun d => hb hby d
  have zz := X0.ge
  have A0 := X0.at
  have l1 := ltA Pr0.lt
  refine Gets.via (fun _ k => (XS.aloadN A0 hx rfl (D d28_0) rfl rfl k)) ?_
  refine X0.getF (host := "") (Or.inl (w80 hw)) Via.refl Pr3 rfl rfl (D d28_1) fun T2 X2 => ?_
  have f3 : Arv Z h0 de kde (.object "java/lang/Object") (0 : Int32) [] .null := AD.ext X2.old.2
  refine X2.alen f3 rfl rfl (D d28_4) ?_
  have A4 := X2.at
  refine Gets.via (fun _ k => (XS.istoreN A4 hx rfl (D d28_5) rfl (l' := #[vR x, vI (1 : Int32), vI (0 : Int32), .unset]) rfl (XS.iloadN A4 hx rfl (D d28_6) rfl (XS.ifNo A4 hx rfl (D d28_7) rfl (Jvm.Free.XT.i0_gt_f (by decide)) k)))) ?_
  show Gets p e below _ (T2.setTop (mkF m 10 #[vR x, vI (1 : Int32), vI (0 : Int32), .unset] []))
  refine Gets.via (fun _ k => (XS.aloadN A4 hx rfl (D d28_10) rfl rfl k)) ?_
  refine X2.getF (host := "") (Or.inl (w80 hw)) Via.refl Pr3 rfl rfl (D d28_11) fun T5 X5 => ?_
  refine X5.getS (host := "") (Or.inl (w79 hw)) Via.refl (X5.sta OD) rfl (D d28_14) fun T6 X6 => ?_
  refine X6.acmpW hx rfl rfl rfl (pc0 := 17) (pc' := 45) (same := true) rfl (D d28_17) rfl (by simp) (by decide) (by decide) ?_
  have A7 := X6.at
  refine Gets.via (fun _ k => (XS.aloadN A7 hx rfl (D d28_45) rfl rfl (XS.bipush A7 hx rfl (D d28_46) (XS.iloadN A7 hx rfl (D d28_48) rfl k)))) ?_
  show Gets p e below _ (T6.setTop (mkF m 49 #[vR x, vI (1 : Int32), vI (0 : Int32), .unset] [(.int (1 : Int32)), (.int (10 : Int32)), (.ref x)]))
  refine X6.callS (W := 1) (w176 hw) (w177 hw) (w178 hw) (w179 hw) (by decide) (X6.payM (sf := []) (rmmax_10_1 hcx  h0 X6.old ) sf0 (w179 hw) (w178 hw) (by decide) (by decide)) rfl (sz hml rfl) (argsL := [(.int (10 : Int32)), (.int (1 : Int32))]) (rest := [(.ref x)]) (lenOf pd16 rfl) rfl rfl (mroom rfl rfl) (D d28_49) (by decide) (by decide) fun T8 h8 vm8 v8 X8 C8 z8 q8 => ?_
  obtain ⟨rfl, K8⟩ := q8
  rw [K8] at X8 C8
  refine X8.newR (ad := "[Ljava/lang/Object;") (w180 hw) (w181 hw) rfl (D d28_52) rfl (by decide) (cap := 10) (by decide) (by decide) (by decide) (by decide) (by decide) fun T9 h9 a9 k9 X9 C9 E9 g9 Z9 Ov9 V9 => ?_
  have z9 := E9.1
  have l9 := ltA V9.lt
  have V9_ : Arv Z h9 a9 k9 (.object "java/lang/Object") (10 : Int32) [.null, .null, .null, .null, .null, .null, .null, .null, .null, .null] .null := padN V9 10
  have A10 := X9.at
  refine Gets.via (fun _ k => (XS.dupX1 A10 hx rfl (D d28_55) rfl rfl rfl k)) ?_
  have f12 := Pr3.ext E9
  have f13 := Pr0.ext E9
  refine X9.putF (host := "") (Or.inl (w80 hw)) Via.refl f12 f13 (Or.inl (w81 hw)) (w59 hw) (ty := (.array (.object "java/lang/Object"))) (by decide) rfl rfl (leA (by omega)) (Safe.exa X9.hZ.alike f13 (by decide) (by decide)) rfl rfl (D d28_56) fun T11 h11 X11 C11 W11 F11 Z11 => ?_
  have z11 := W11.size
  have f14 := Pr1.ext E9
  have f15 := f14.other W11 (Or.inr (slot_ne (t := .int) (t' := (.array (.object "java/lang/Object"))) (Or.inl (w78 hw)) (Or.inl (w81 hw)) (by decide) (by decide) (by decide)))
  have f16 := Pr2.ext E9
  have f17 := f16.other W11 (Or.inr (slot_ne (t := .int) (t' := (.array (.object "java/lang/Object"))) (Or.inl (w121 hw)) (Or.inl (w81 hw)) (by decide) (by decide) (by decide)))
  have f18 := V9_.other W11 (neA (by omega))
  have f19 := Z9.wr W11
  exact X11.retA hret rfl rfl rfl (D d28_59) (by decide) (by decide) (fun vmE CE => ⟨a9, k9, rfl, (((Keep.refl h0 [x]).ext E9).wr W11 (Or.inl (List.mem_of_getElem? (i := 0) rfl))), Z11, f15, f17, F11, f18, f19, Ov9, (leA (by omega)), (leA (by omega))⟩)
abbrev RrmGrow : Room := { frames := 2, cells := 1, slots := 10, locals := 29 }
def QrmGrow (Z : State) (de : Addr) (el : Addr) (em : Addr) (x : Addr) (mc : Int32) (h0 : Heap) (v : Option Value) (vm : Vm) (h : Heap) : Prop := ∃ (d : Addr) (kd : ClassId), v = some (.ref d) ∧ Keep h0 h [x] ∧ Exa Z h x "java/util/ArrayList" ∧ Fld Z h x "java/util/AbstractList" "modCount" "I" (.int mc) ∧ Fld Z h x "java/util/ArrayList" "size" "I" (.int (0 : Int32)) ∧ Fld Z h x "java/util/ArrayList" "elementData" "[Ljava/lang/Object;" (.ref d) ∧ Arv Z h d kd (.object "java/lang/Object") (10 : Int32) [.null, .null, .null, .null, .null, .null, .null, .null, .null, .null] .null ∧ Exa Z h d "[Ljava/lang/Object;" ∧ Ovr Z kd "java/lang/Object" ∧ Z.heap.size ≤ d ∧ h0.size ≤ d
theorem rmGrow (hcx : Cx Z a0 zc de kde em el ee kee mr) (x : Addr) (mc : Int32) (h0 : Heap) (O0 : Old Z Z.heap.size h0) (Pr0 : Exa Z h0 x "java/util/ArrayList") (Pr1 : Fld Z h0 x "java/util/AbstractList" "modCount" "I" (.int mc)) (Pr2 : Fld Z h0 x "java/util/ArrayList" "size" "I" (.int (0 : Int32))) (Pr3 : Fld Z h0 x "java/util/ArrayList" "elementData" "[Ljava/lang/Object;" (.ref de)) (Pr4 : Z.heap.size ≤ x) : Met l Z consts_1 (⟨"java/util/ArrayList", "grow", "()[Ljava/lang/Object;"⟩ : MethodName) jdk_38_method_7_code 1 (some (.array (.object "java/lang/Object"))) [] RrmGrow [] #[(.ref x)] h0 (QrmGrow Z de el em x mc h0) := by
  have ⟨hw, hEL, O2, P5, OD, AD, XM, OM, OL, XL, FL, AE, MR⟩ := hcx
  refine Met.start (a0 := a0) (Ls := #[vR x]) pn27 hEL O0 (fun m => by first | (simp [entryFrame, mkF, argsToLocals, Value.category]; done) | rfl) ?_
  intro p e s m below meth cc T0 vm0 X0 sf0_ hby hml hret hnm
  have hx := X0.hx
  have D : ∀ {n r}, decode jdk_38_method_7_code n = r → decode cc.code n = r := fun d => hb hby d
  have zz := X0.ge
  have A0 := X0.at
  have l1 := ltA Pr0.lt
  refine Gets.via (fun _ k => (XS.aloadN A0 hx rfl (D d27_0) rfl rfl (XS.aloadN A0 hx rfl (D d27_1) rfl rfl k))) ?_
  refine X0.getF (host := "") (Or.inl (w120 hw)) Via.refl Pr2 rfl rfl (D d27_2) fun T2 X2 => ?_
  have A3 := X2.at
  refine Gets.via (fun _ k => (XS.iconst A3 hx rfl (D d27_5) (iaddV A3 hx rfl (D d27_6) rfl (v := (1 : Int32)) (by decide) k))) ?_
  refine X2.callP (W := 0) (w171 hw) (w172 hw) (w174 hw) (w173 hw) (w175 hw) (by decide) (X2.payM (sf := []) (rmGrowI hcx x mc h0 X2.old Pr0 Pr1 Pr2 Pr3 Pr4) sf0 (w175 hw) (w60 hw) (by decide) (by decide)) Pr0 rfl (sz hml rfl) (argsL := [(.int (1 : Int32))]) (rest := []) (lenOf pd17 rfl) rfl rfl (mroom rfl rfl) (D d27_7) (by decide) (by decide) fun T4 h4 vm4 v4 X4 C4 z4 q4 => ?_
  obtain ⟨d4, kd4, rfl, K4, g4_0, g4_1, g4_2, g4_3, g4_4, g4_5, g4_6, g4_7, g4_8⟩ := q4
  have l5 := ltA g4_0.lt
  have l6 := ltA g4_4.lt
  show Gets p e below _ (T4.setTop (mkF m 10 #[vR x] [(.ref d4)]))
  exact X4.retA hret rfl rfl rfl (D d27_10) (by decide) (by decide) (fun vmE CE => ⟨d4, kd4, rfl, ((Keep.refl h0 [x]).trans K4 (allS (Or.inl (List.mem_of_getElem? (i := 0) rfl)) all0)), g4_0, g4_1, g4_2, g4_3, g4_4, g4_5, g4_6, g4_7, g4_8⟩)
abbrev RrmAddT0 : Room := { frames := 3, cells := 1, slots := 10, locals := 41 }
def QrmAddT0 (Z : State) (de : Addr) (el : Addr) (em : Addr) (x : Addr) (y : Addr) (mc : Int32) (h0 : Heap) (v : Option Value) (vm : Vm) (h : Heap) : Prop := ∃ (d : Addr) (kd : ClassId), v = none ∧ Keep h0 h [x] ∧ Exa Z h x "java/util/ArrayList" ∧ Fld Z h x "java/util/AbstractList" "modCount" "I" (.int mc) ∧ Fld Z h x "java/util/ArrayList" "size" "I" (.int (1 : Int32)) ∧ Fld Z h x "java/util/ArrayList" "elementData" "[Ljava/lang/Object;" (.ref d) ∧ Arv Z h d kd (.object "java/lang/Object") (10 : Int32) [(.ref y), .null, .null, .null, .null, .null, .null, .null, .null, .null] .null ∧ Exa Z h d "[Ljava/lang/Object;" ∧ Ovr Z kd "java/lang/Object" ∧ Z.heap.size ≤ d ∧ h0.size ≤ d
theorem rmAddT0 (hcx : Cx Z a0 zc de kde em el ee kee mr) (x : Addr) (y : Addr) (mc : Int32) (h0 : Heap) (O0 : Old Z Z.heap.size h0) (Pr0 : Exa Z h0 x "java/util/ArrayList") (Pr1 : Fld Z h0 x "java/util/AbstractList" "modCount" "I" (.int mc)) (Pr2 : Fld Z h0 x "java/util/ArrayList" "size" "I" (.int (0 : Int32))) (Pr3 : Fld Z h0 x "java/util/ArrayList" "elementData" "[Ljava/lang/Object;" (.ref de)) (Pr4 : Z.heap.size ≤ x) (Pr5 : Exa Z h0 y "java/lang/String") : Met l Z consts_1 (⟨"java/util/ArrayList", "add", "(Ljava/lang/Object;[Ljava/lang/Object;I)V"⟩ : MethodName) jdk_38_method_24_code 4 (none) [] RrmAddT0 [] #[(.ref x), (.ref y), (.ref de), (.int (0 : Int32))] h0 (QrmAddT0 Z de el em x y mc h0) := by
  have ⟨hw, hEL, O2, P5, OD, AD, XM, OM, OL, XL, FL, AE, MR⟩ := hcx
  refine Met.start (a0 := a0) (Ls := #[vR x, vR y, vR de, vI (0 : Int32)]) pn26 hEL O0 (fun m => by first | (simp [entryFrame, mkF, argsToLocals, Value.category]; done) | rfl) ?_
  intro p e s m below meth cc T0 vm0 X0 sf0_ hby hml hret hnm
  have hx := X0.hx
  have D : ∀ {n r}, decode jdk_38_method_24_code n = r → decode cc.code n = r := fun d => hb hby d
  have zz := X0.ge
  have A0 := X0.at
  have l1 := ltA Pr0.lt
  have l2 := ltA Pr5.lt
  refine Gets.via (fun _ k => (XS.iloadN A0 hx rfl (D d26_0) rfl (XS.aloadN A0 hx rfl (D d26_1) rfl rfl k))) ?_
  have f3 : Arv Z h0 de kde (.object "java/lang/Object") (0 : Int32) [] .null := AD.ext X0.old.2
  refine X0.alen f3 rfl rfl (D d26_2) ?_
  refine Gets.via (fun _ k => (XS.icmpNo A0 hx rfl (D d26_3) rfl (Jvm.Free.XT.ii_ne_f (by decide)) k)) ?_
  refine Gets.via (fun _ k => (XS.aloadN A0 hx rfl (D d26_6) rfl rfl k)) ?_
  refine X0.callP (W := 0) (w166 hw) (w167 hw) (w169 hw) (w168 hw) (w170 hw) (by decide) (X0.payM (sf := []) (rmGrow hcx x mc h0 X0.old Pr0 Pr1 Pr2 Pr3 Pr4) sf0 (w170 hw) (w60 hw) (by decide) (by decide)) Pr0 rfl (sz hml rfl) (argsL := []) (rest := []) (lenOf pd18 rfl) rfl rfl (mroom rfl rfl) (D d26_7) (by decide) (by decide) fun T4 h4 vm4 v4 X4 C4 z4 q4 => ?_
  obtain ⟨d4, kd4, rfl, K4, g4_0, g4_1, g4_2, g4_3, g4_4, g4_5, g4_6, g4_7, g4_8⟩ := q4
  have l5 := ltA g4_0.lt
  have l6 := ltA g4_4.lt
  show Gets p e below _ (T4.setTop (mkF m 10 #[vR x, vR y, vR de, vI (0 : Int32)] [(.ref d4)]))
  have A7 := X4.at
  refine Gets.via (fun _ k => (XS.astoreN A7 hx rfl (D d26_10) rfl rfl (l' := #[vR x, vR y, vR d4, vI (0 : Int32)]) rfl (XS.aloadN A7 hx rfl (D d26_11) rfl rfl (XS.iloadN A7 hx rfl (D d26_12) rfl (XS.aloadN A7 hx rfl (D d26_13) rfl rfl k))))) ?_
  have f9 := Pr5.keep K4
  refine X4.stR g4_4 (stoV g4_4 g4_6 (Ins.of_exa f9 (w182 hw))) rfl (i := 0) (by decide) (by decide) (Nat.le_of_ble_eq_true rfl) (by decide) (leA (by omega)) rfl rfl (D d26_14) fun T8 h8 X8 C8 K8 V8 => ?_
  have z8 := K8.1
  have V8_ : Arv Z h8 d4 kd4 (.object "java/lang/Object") (10 : Int32) [(.ref y), .null, .null, .null, .null, .null, .null, .null, .null, .null] .null := V8
  have A10 := X8.at
  refine Gets.via (fun _ k => (XS.aloadN A10 hx rfl (D d26_15) rfl rfl (XS.iloadN A10 hx rfl (D d26_16) rfl (XS.iconst A10 hx rfl (D d26_17) (iaddV A10 hx rfl (D d26_18) rfl (v := (1 : Int32)) (by decide) k))))) ?_
  have f12 := g4_2.keep K8 (ninS (neA (by omega)) nin0)
  have f13 := g4_0.keep K8
  refine X8.putF (host := "") (Or.inl (w120 hw)) Via.refl f12 f13 (Or.inl (w121 hw)) (w59 hw) (ty := .int) (by decide) rfl rfl (leA (by omega)) (Safe.exa X8.hZ.alike f13 (by decide) (by decide)) rfl rfl (D d26_19) fun T11 h11 X11 C11 W11 F11 Z11 => ?_
  have z11 := W11.size
  show Gets p e below _ (T11.setTop (mkF m 22 #[vR x, vR y, vR d4, vI (0 : Int32)] []))
  have f14 := g4_1.keep K8 (ninS (neA (by omega)) nin0)
  have f15 := f14.other W11 (Or.inr (slot_ne (t := .int) (t' := .int) (Or.inl (w78 hw)) (Or.inl (w121 hw)) (by decide) (by decide) (by decide)))
  have f16 := g4_3.keep K8 (ninS (neA (by omega)) nin0)
  have f17 := f16.other W11 (Or.inr (slot_ne (t := (.array (.object "java/lang/Object"))) (t' := .int) (Or.inl (w81 hw)) (Or.inl (w121 hw)) (by decide) (by decide) (by decide)))
  have f18 := V8_.other W11 (neA (by omega))
  have f19 := g4_5.keep K8
  have f20 := f19.wr W11
  exact X11.retV hret (D d26_22) (by decide) (by decide) (fun vmE CE => ⟨d4, kd4, rfl, ((((Keep.refl h0 [x]).trans K4 (allS (Or.inl (List.mem_of_getElem? (i := 0) rfl)) all0)).trans K8 (allS (Or.inr (leA (by omega))) all0)).wr W11 (Or.inl (List.mem_of_getElem? (i := 0) rfl))), Z11, f15, F11, f17, f18, f20, g4_6, g4_7, g4_8⟩)
abbrev RrmAdd0 : Room := { frames := 4, cells := 1, slots := 10, locals := 56 }
def QrmAdd0 (Z : State) (de : Addr) (el : Addr) (em : Addr) (x : Addr) (y : Addr) (mc : Int32) (h0 : Heap) (v : Option Value) (vm : Vm) (h : Heap) : Prop := ∃ (d : Addr) (kd : ClassId), v = some (.int (1 : Int32)) ∧ Keep h0 h [x] ∧ Exa Z h x "java/util/ArrayList" ∧ Fld Z h x "java/util/AbstractList" "modCount" "I" (.int (mc + (1 : Int32))) ∧ Fld Z h x "java/util/ArrayList" "size" "I" (.int (1 : Int32)) ∧ Fld Z h x "java/util/ArrayList" "elementData" "[Ljava/lang/Object;" (.ref d) ∧ Arv Z h d kd (.object "java/lang/Object") (10 : Int32) [(.ref y), .null, .null, .null, .null, .null, .null, .null, .null, .null] .null ∧ Exa Z h d "[Ljava/lang/Object;" ∧ Ovr Z kd "java/lang/Object" ∧ Z.heap.size ≤ d ∧ h0.size ≤ d
theorem rmAdd0 (hcx : Cx Z a0 zc de kde em el ee kee mr) (x : Addr) (y : Addr) (mc : Int32) (h0 : Heap) (O0 : Old Z Z.heap.size h0) (Pr0 : Exa Z h0 x "java/util/ArrayList") (Pr1 : Fld Z h0 x "java/util/AbstractList" "modCount" "I" (.int mc)) (Pr2 : Fld Z h0 x "java/util/ArrayList" "size" "I" (.int (0 : Int32))) (Pr3 : Fld Z h0 x "java/util/ArrayList" "elementData" "[Ljava/lang/Object;" (.ref de)) (Pr4 : Z.heap.size ≤ x) (Pr5 : Exa Z h0 y "java/lang/String") : Met l Z consts_1 (⟨"java/util/ArrayList", "add", "(Ljava/lang/Object;)Z"⟩ : MethodName) jdk_38_method_25_code 2 (some .boolean) [] RrmAdd0 [] #[(.ref x), (.ref y)] h0 (QrmAdd0 Z de el em x y mc h0) := by
  have ⟨hw, hEL, O2, P5, OD, AD, XM, OM, OL, XL, FL, AE, MR⟩ := hcx
  refine Met.start (a0 := a0) (Ls := #[vR x, vR y]) pn25 hEL O0 (fun m => by first | (simp [entryFrame, mkF, argsToLocals, Value.category]; done) | rfl) ?_
  intro p e s m below meth cc T0 vm0 X0 sf0_ hby hml hret hnm
  have hx := X0.hx
  have D : ∀ {n r}, decode jdk_38_method_25_code n = r → decode cc.code n = r := fun d => hb hby d
  have zz := X0.ge
  have A0 := X0.at
  have l1 := ltA Pr0.lt
  have l2 := ltA Pr5.lt
  refine Gets.via (fun _ k => (XS.aloadN A0 hx rfl (D d25_0) rfl rfl (XS.dup A0 hx rfl (D d25_1) rfl rfl k))) ?_
  refine X0.getF (host := "") (Or.inl (w159 hw)) (Via.of (w160 hw)) Pr1 rfl rfl (D d25_2) fun T3 X3 => ?_
  have A4 := X3.at
  refine Gets.via (fun _ k => (XS.iconst A4 hx rfl (D d25_5) (XS.iadd A4 hx rfl (D d25_6) rfl k))) ?_
  refine X3.putF (host := "") (Or.inl (w159 hw)) (Via.of (w160 hw)) Pr1 Pr0 (Or.inl (w78 hw)) (w59 hw) (ty := .int) (by decide) rfl rfl (leA (by omega)) (Safe.exa X3.hZ.alike Pr0 (by decide) (by decide)) rfl rfl (D d25_7) fun T5 h5 X5 C5 W5 F5 Z5 => ?_
  have z5 := W5.size
  show Gets p e below _ (T5.setTop (mkF m 10 #[vR x, vR y] []))
  have A6 := X5.at
  refine Gets.via (fun _ k => (XS.aloadN A6 hx rfl (D d25_10) rfl rfl (XS.aloadN A6 hx rfl (D d25_11) rfl rfl (XS.aloadN A6 hx rfl (D d25_12) rfl rfl k)))) ?_
  have f8 := Pr3.other W5 (Or.inr (slot_ne (t := (.array (.object "java/lang/Object"))) (t' := .int) (Or.inl (w81 hw)) (Or.inl (w78 hw)) (by decide) (by decide) (by decide)))
  refine X5.getF (host := "") (Or.inl (w80 hw)) Via.refl f8 rfl rfl (D d25_13) fun T7 X7 => ?_
  have A9 := X7.at
  refine Gets.via (fun _ k => (XS.aloadN A9 hx rfl (D d25_16) rfl rfl k)) ?_
  have f11 := Pr2.other W5 (Or.inr (slot_ne (t := .int) (t' := .int) (Or.inl (w121 hw)) (Or.inl (w78 hw)) (by decide) (by decide) (by decide)))
  refine X7.getF (host := "") (Or.inl (w120 hw)) Via.refl f11 rfl rfl (D d25_17) fun T10 X10 => ?_
  have f12 := Pr5.wr W5
  refine X10.callP (W := 0) (w161 hw) (w162 hw) (w164 hw) (w163 hw) (w165 hw) (by decide) (X10.payM (sf := []) (rmAddT0 hcx x y (mc + (1 : Int32)) h5 X10.old Z5 F5 f11 f8 Pr4 f12) sf0 (w165 hw) (w60 hw) (by decide) (by decide)) Z5 rfl (sz hml rfl) (argsL := [(.ref y), (.ref de), (.int (0 : Int32))]) (rest := []) (lenOf pd19 rfl) rfl rfl (mroom rfl rfl) (D d25_20) (by decide) (by decide) fun T13 h13 vm13 v13 X13 C13 z13 q13 => ?_
  obtain ⟨d13, kd13, rfl, K13, g13_0, g13_1, g13_2, g13_3, g13_4, g13_5, g13_6, g13_7, g13_8⟩ := q13
  have l14 := ltA g13_0.lt
  have l15 := ltA g13_4.lt
  show Gets p e below _ (T13.setTop (mkF m 23 #[vR x, vR y] []))
  have A16 := X13.at
  refine Gets.via (fun _ k => (XS.iconst A16 hx rfl (D d25_23) k)) ?_
  exact X13.retI hret (by decide) (by simp) (D d25_24) (by decide) (by decide) (fun vmE CE => ⟨d13, kd13, rfl, (((Keep.refl h0 [x]).wr W5 (Or.inl (List.mem_of_getElem? (i := 0) rfl))).trans K13 (allS (Or.inl (List.mem_of_getElem? (i := 0) rfl)) all0)), g13_0, g13_1, g13_2, g13_3, g13_4, g13_5, g13_6, g13_7, (leA (by omega))⟩)
abbrev RrmAlEmpty1 : Room := { frames := 0, cells := 0, slots := 0, locals := 0 }
def QrmAlEmpty1 (Z : State) (de : Addr) (el : Addr) (em : Addr) (x : Addr) (h0 : Heap) (v : Option Value) (vm : Vm) (h : Heap) : Prop := v = some (.int (0 : Int32)) ∧ h = h0
theorem rmAlEmpty1 (hcx : Cx Z a0 zc de kde em el ee kee mr) (x : Addr) (h0 : Heap) (O0 : Old Z Z.heap.size h0) (Pr0 : Fld Z h0 x "java/util/ArrayList" "size" "I" (.int (1 : Int32))) : Met l Z consts_1 (⟨"java/util/ArrayList", "isEmpty", "()Z"⟩ : MethodName) jdk_38_method_9_code 1 (some .boolean) [] RrmAlEmpty1 [] #[(.ref x)] h0 (QrmAlEmpty1 Z de el em x h0) := by
  have ⟨hw, hEL, O2, P5, OD, AD, XM, OM, OL, XL, FL, AE, MR⟩ := hcx
  refine Met.start (a0 := a0) (Ls := #[vR x]) pn20 hEL O0 (fun m => by first | (simp [entryFrame, mkF, argsToLocals, Value.category]; done) | rfl) ?_
  intro p e s m below meth cc T0 vm0 X0 sf0_ hby hml hret hnm
  have hx := X0.hx
  have D : ∀ {n r}, decode jdk_38_method_9_code n = r → decode cc.code n = r := fun d => hb hby d
  have zz := X0.ge
  have A0 := X0.at
  have l1 := ltA Pr0.lt
  refine Gets.via (fun _ k => (XS.aloadN A0 hx rfl (D d20_0) rfl rfl k)) ?_
  refine X0.getF (host := "") (Or.inl (w120 hw)) Via.refl Pr0 rfl rfl (D d20_1) fun T2 X2 => ?_
  have A3 := X2.at
  refine Gets.via (fun _ k => (XS.ifYes A3 hx rfl (pc0 := 4) (pc' := 11) rfl (D d20_4) rfl (Jvm.Free.XT.i0_ne_t (by decide)) (by decide) (by decide) k)) ?_
  refine Gets.via (fun _ k => (XS.iconst A3 hx rfl (D d20_11) k)) ?_
  exact X2.retI hret (by decide) (by simp) (D d20_12) (by decide) (by decide) (fun vmE CE => ⟨rfl, rfl⟩)
abbrev Rrmmin_10_1 : Room := { frames := 0, cells := 0, slots := 0, locals := 0 }
def Qrmmin_10_1 (Z : State) (de : Addr) (el : Addr) (em : Addr) (h0 : Heap) (v : Option Value) (vm : Vm) (h : Heap) : Prop := v = some (.int (1 : Int32)) ∧ h = h0
theorem rmmin_10_1 (hcx : Cx Z a0 zc de kde em el ee kee mr)  (h0 : Heap) (O0 : Old Z Z.heap.size h0)  : Met l Z consts_1 (⟨"java/lang/Math", "min", "(II)I"⟩ : MethodName) jdk_29_method_69_code 2 (some .int) [] Rrmmin_10_1 [] #[(.int (10 : Int32)), (.int (1 : Int32))] h0 (Qrmmin_10_1 Z de el em h0) := by
  have ⟨hw, hEL, O2, P5, OD, AD, XM, OM, OL, XL, FL, AE, MR⟩ := hcx
  refine Met.start (a0 := a0) (Ls := #[vI (10 : Int32), vI (1 : Int32)]) pn33 hEL O0 (fun m => by first | (simp [entryFrame, mkF, argsToLocals, Value.category]; done) | rfl) ?_
  intro p e s m below meth cc T0 vm0 X0 sf0_ hby hml hret hnm
  have hx := X0.hx
  have D : ∀ {n r}, decode jdk_29_method_69_code n = r → decode cc.code n = r := fun d => hb hby d
  have zz := X0.ge
  have A0 := X0.at
  refine Gets.via (fun _ k => (XS.iloadN A0 hx rfl (D d33_0) rfl (XS.iloadN A0 hx rfl (D d33_1) rfl (XS.icmpYes A0 hx rfl (pc0 := 2) (pc' := 9) rfl (D d33_2) rfl (Jvm.Free.XT.ii_gt_t (by decide)) (by decide) (by decide) k)))) ?_
  refine Gets.via (fun _ k => (XS.iloadN A0 hx rfl (D d33_9) rfl k)) ?_
  exact X0.retI hret rfl (by simp) (D d33_10) (by decide) (by decide) (fun vmE CE => ⟨rfl, rfl⟩)
abbrev RrmCoT1 : Room := { frames := 1, cells := 1, slots := 1, locals := 22 }
def QrmCoT1 (Z : State) (de : Addr) (el : Addr) (em : Addr) (d : Addr) (kd : ClassId) (e0 : Addr) (h0 : Heap) (v : Option Value) (vm : Vm) (h : Heap) : Prop := ∃ (r : Addr) (kr : ClassId), v = some (.ref r) ∧ Keep h0 h [] ∧ Arv Z h r kr (.object "java/lang/Object") (1 : Int32) [(.ref e0)] .null ∧ Exa Z h r "[Ljava/lang/Object;" ∧ Ovr Z kr "java/lang/Object" ∧ h0.size ≤ r
theorem rmCoT1 (hcx : Cx Z a0 zc de kde em el ee kee mr) (d : Addr) (kd : ClassId) (e0 : Addr) (h0 : Heap) (O0 : Old Z Z.heap.size h0) (Pr0 : Arv Z h0 d kd (.object "java/lang/Object") (10 : Int32) [(.ref e0), .null, .null, .null, .null, .null, .null, .null, .null, .null] .null) (Pr1 : Exa Z h0 d "[Ljava/lang/Object;") (Pr2 : Exa Z h0 e0 "java/lang/String") : Met l Z consts_1 (⟨"java/util/Arrays", "copyOf", "([Ljava/lang/Object;ILjava/lang/Class;)[Ljava/lang/Object;"⟩ : MethodName) jdk_65_method_120_code 4 (some (.array (.object "java/lang/Object"))) [] RrmCoT1 [] #[(.ref d), (.int (1 : Int32)), (.ref mr)] h0 (QrmCoT1 Z de el em d kd e0 h0) := by
  have ⟨hw, hEL, O2, P5, OD, AD, XM, OM, OL, XL, FL, AE, MR⟩ := hcx
  refine Met.start (a0 := a0) (Ls := #[vR d, vI (1 : Int32), vR mr, .unset]) pn32 hEL O0 (fun m => by first | (simp [entryFrame, mkF, argsToLocals, Value.category]; done) | rfl) ?_
  intro p e s m below meth cc T0 vm0 X0 sf0_ hby hml hret hnm
  have hx := X0.hx
  have D : ∀ {n r}, decode jdk_65_method_120_code n = r → decode cc.code n = r := fun d => hb hby d
  have zz := X0.ge
  have A0 := X0.at
  have l1 := ltA Pr0.lt
  have l2 := ltA Pr2.lt
  refine Gets.via (fun _ k => (XS.aloadN A0 hx rfl (D d32_0) rfl rfl k)) ?_
  refine X0.ldcM (w204 hw) MR rfl (D d32_1) fun T3 X3 => ?_
  refine X3.acmpW hx rfl rfl rfl (pc0 := 3) (pc' := 6) (same := true) rfl (D d32_3) rfl (by simp) (by decide) (by decide) ?_
  have A4 := X3.at
  refine Gets.via (fun _ k => (XS.iloadN A4 hx rfl (D d32_6) rfl k)) ?_
  refine X3.newR (ad := "[Ljava/lang/Object;") (w205 hw) (w181 hw) rfl (D d32_7) rfl (by decide) (cap := 1) (by decide) (by decide) (by decide) (by decide) (by decide) fun T5 h5 a5 k5 X5 C5 E5 g5 Z5 Ov5 V5 => ?_
  have z5 := E5.1
  have l5 := ltA V5.lt
  have V5_ : Arv Z h5 a5 k5 (.object "java/lang/Object") (1 : Int32) [.null] .null := padN V5 1
  show Gets p e below _ (T5.setTop (mkF m 10 #[vR d, vI (1 : Int32), vR mr, .unset] [(.ref a5)]))
  have A6 := X5.at
  refine Gets.via (fun _ k => (XS.goto A6 hx rfl (pc0 := 10) (pc' := 24) rfl (D d32_10) (by decide) (by decide) k)) ?_
  refine Gets.via (fun _ k => (XS.astoreN A6 hx rfl (D d32_24) rfl rfl (l' := #[vR d, vI (1 : Int32), vR mr, vR a5]) rfl (XS.aloadN A6 hx rfl (D d32_25) rfl rfl (XS.iconst A6 hx rfl (D d32_26) (XS.aloadN A6 hx rfl (D d32_27) rfl rfl (XS.iconst A6 hx rfl (D d32_28) (XS.aloadN A6 hx rfl (D d32_29) rfl rfl k))))))) ?_
  have f7 := Pr0.ext E5
  refine X5.alen f7 rfl rfl (D d32_30) ?_
  refine Gets.via (fun _ k => (XS.iloadN A6 hx rfl (D d32_31) rfl k)) ?_
  refine X5.callS (W := 4) (w206 hw) (w207 hw) (w178 hw) (w208 hw) (by decide) (X5.payM (sf := []) (rmmin_10_1 hcx  h5 X5.old ) sf0 (w208 hw) (w178 hw) (by decide) (by decide)) rfl (sz hml rfl) (argsL := [(.int (10 : Int32)), (.int (1 : Int32))]) (rest := [(.int (0 : Int32)), (.ref a5), (.int (0 : Int32)), (.ref d)]) (lenOf pd16 rfl) rfl rfl (mroom rfl rfl) (D d32_32) (by decide) (by decide) fun T8 h8 vm8 v8 X8 C8 z8 q8 => ?_
  obtain ⟨rfl, K8⟩ := q8
  rw [K8] at X8 C8
  show Gets p e below _ (T8.setTop (mkF m 35 #[vR d, vI (1 : Int32), vR mr, vR a5] [(.int (1 : Int32)), (.int (0 : Int32)), (.ref a5), (.int (0 : Int32)), (.ref d)]))
  have f10 := Pr2.ext E5
  refine X8.copy (w209 hw) (w212 hw) (w210 hw) (w211 hw) (us := [(.ref e0)]) f7 V5_ (Or.inr ⟨rfl, rfl, ⟨(stoV V5_ Ov5 (Ins.of_exa f10 (w182 hw))), trivial⟩⟩) (by decide) (by decide) (by decide) (by decide) (by decide) rfl (Nat.le_of_ble_eq_true rfl) (leA (by omega)) (Safe.exa X8.hZ.alike Z5 (by decide) (by decide)) rfl (sz hml rfl) rfl (D d32_35) (by decide) (W := 0) (mroom rfl rfl) (by decide) fun T9 h9 X9 C9 K9 V9 => ?_
  have z9 := K9.1
  have V9_ : Arv Z h9 a5 k5 (.object "java/lang/Object") (1 : Int32) [(.ref e0)] .null := V9
  have A11 := X9.at
  refine Gets.via (fun _ k => (XS.aloadN A11 hx rfl (D d32_38) rfl rfl k)) ?_
  have f12 := Z5.keep K9
  exact X9.retA hret rfl rfl rfl (D d32_39) (by decide) (by decide) (fun vmE CE => ⟨a5, k5, rfl, (((Keep.refl h0 []).ext E5).trans K9 (allS (Or.inr (leA (by omega))) all0)), V9_, f12, Ov5, (leA (by omega))⟩)
abbrev RrmCo1 : Room := { frames := 2, cells := 1, slots := 1, locals := 37 }
def QrmCo1 (Z : State) (de : Addr) (el : Addr) (em : Addr) (d : Addr) (kd : ClassId) (e0 : Addr) (h0 : Heap) (v : Option Value) (vm : Vm) (h : Heap) : Prop := ∃ (r : Addr) (kr : ClassId), v = some (.ref r) ∧ Keep h0 h [] ∧ Arv Z h r kr (.object "java/lang/Object") (1 : Int32) [(.ref e0)] .null ∧ Exa Z h r "[Ljava/lang/Object;" ∧ Ovr Z kr "java/lang/Object" ∧ h0.size ≤ r
theorem rmCo1 (hcx : Cx Z a0 zc de kde em el ee kee mr) (d : Addr) (kd : ClassId) (e0 : Addr) (h0 : Heap) (O0 : Old Z Z.heap.size h0) (Pr0 : Arv Z h0 d kd (.object "java/lang/Object") (10 : Int32) [(.ref e0), .null, .null, .null, .null, .null, .null, .null, .null, .null] .null) (Pr1 : Exa Z h0 d "[Ljava/lang/Object;") (Pr2 : Exa Z h0 e0 "java/lang/String") : Met l Z consts_1 (⟨"java/util/Arrays", "copyOf", "([Ljava/lang/Object;I)[Ljava/lang/Object;"⟩ : MethodName) jdk_65_method_119_code 2 (some (.array (.object "java/lang/Object"))) [] RrmCo1 [] #[(.ref d), (.int (1 : Int32))] h0 (QrmCo1 Z de el em d kd e0 h0) := by
  have ⟨hw, hEL, O2, P5, OD, AD, XM, OM, OL, XL, FL, AE, MR⟩ := hcx
  refine Met.start (a0 := a0) (Ls := #[vR d, vI (1 : Int32)]) pn31 hEL O0 (fun m => by first | (simp [entryFrame, mkF, argsToLocals, Value.category]; done) | rfl) ?_
  intro p e s m below meth cc T0 vm0 X0 sf0_ hby hml hret hnm
  have hx := X0.hx
  have D : ∀ {n r}, decode jdk_65_method_119_code n = r → decode cc.code n = r := fun d => hb hby d
  have zz := X0.ge
  have A0 := X0.at
  have l1 := ltA Pr0.lt
  have l2 := ltA Pr2.lt
  refine Gets.via (fun _ k => (XS.aloadN A0 hx rfl (D d31_0) rfl rfl (XS.iloadN A0 hx rfl (D d31_1) rfl (XS.aloadN A0 hx rfl (D d31_2) rfl rfl k)))) ?_
  refine X0.getC (w195 hw) (w196 hw) (w109 hw) (w198 hw) (w197 hw) (w199 hw) Pr1 MR rfl (sz hml rfl) rfl (D d31_3) (by decide) (W := 2) (mroom rfl rfl) (by decide) fun T3 X3 => ?_
  refine X3.callS (W := 0) (w201 hw) (w202 hw) (w193 hw) (w203 hw) (by decide) (X3.payM (sf := []) (rmCoT1 hcx d kd e0 h0 X3.old Pr0 Pr1 Pr2) sf0 (w203 hw) (w193 hw) (by decide) (by decide)) rfl (sz hml rfl) (argsL := [(.ref d), (.int (1 : Int32)), (.ref mr)]) (rest := []) (lenOf pd21 rfl) rfl rfl (mroom rfl rfl) (D d31_6) (by decide) (by decide) fun T4 h4 vm4 v4 X4 C4 z4 q4 => ?_
  obtain ⟨r4, kr4, rfl, K4, g4_0, g4_1, g4_2, g4_3⟩ := q4
  have l5 := ltA g4_0.lt
  show Gets p e below _ (T4.setTop (mkF m 9 #[vR d, vI (1 : Int32)] [(.ref r4)]))
  exact X4.retA hret rfl rfl rfl (D d31_9) (by decide) (by decide) (fun vmE CE => ⟨r4, kr4, rfl, ((Keep.refl h0 []).trans K4 all0), g4_0, g4_1, g4_2, g4_3⟩)
abbrev RrmToA1 : Room := { frames := 3, cells := 1, slots := 1, locals := 50 }
def QrmToA1 (Z : State) (de : Addr) (el : Addr) (em : Addr) (x : Addr) (d : Addr) (kd : ClassId) (e0 : Addr) (h0 : Heap) (v : Option Value) (vm : Vm) (h : Heap) : Prop := ∃ (r : Addr) (kr : ClassId), v = some (.ref r) ∧ Keep h0 h [] ∧ Arv Z h r kr (.object "java/lang/Object") (1 : Int32) [(.ref e0)] .null ∧ Exa Z h r "[Ljava/lang/Object;" ∧ Ovr Z kr "java/lang/Object" ∧ h0.size ≤ r
theorem rmToA1 (hcx : Cx Z a0 zc de kde em el ee kee mr) (x : Addr) (d : Addr) (kd : ClassId) (e0 : Addr) (h0 : Heap) (O0 : Old Z Z.heap.size h0) (Pr0 : Fld Z h0 x "java/util/ArrayList" "size" "I" (.int (1 : Int32))) (Pr1 : Fld Z h0 x "java/util/ArrayList" "elementData" "[Ljava/lang/Object;" (.ref d)) (Pr2 : Arv Z h0 d kd (.object "java/lang/Object") (10 : Int32) [(.ref e0), .null, .null, .null, .null, .null, .null, .null, .null, .null] .null) (Pr3 : Exa Z h0 d "[Ljava/lang/Object;") (Pr4 : Exa Z h0 e0 "java/lang/String") : Met l Z consts_1 (⟨"java/util/ArrayList", "toArray", "()[Ljava/lang/Object;"⟩ : MethodName) jdk_38_method_16_code 1 (some (.array (.object "java/lang/Object"))) [] RrmToA1 [] #[(.ref x)] h0 (QrmToA1 Z de el em x d kd e0 h0) := by
  have ⟨hw, hEL, O2, P5, OD, AD, XM, OM, OL, XL, FL, AE, MR⟩ := hcx
  refine Met.start (a0 := a0) (Ls := #[vR x]) pn30 hEL O0 (fun m => by first | (simp [entryFrame, mkF, argsToLocals, Value.category]; done) | rfl) ?_
  intro p e s m below meth cc T0 vm0 X0 sf0_ hby hml hret hnm
  have hx := X0.hx
  have D : ∀ {n r}, decode jdk_38_method_16_code n = r → decode cc.code n = r := fun d => hb hby d
  have zz := X0.ge
  have A0 := X0.at
  have l1 := ltA Pr0.lt
  have l2 := ltA Pr2.lt
  have l3 := ltA Pr4.lt
  refine Gets.via (fun _ k => (XS.aloadN A0 hx rfl (D d30_0) rfl rfl k)) ?_
  refine X0.getF (host := "") (Or.inl (w80 hw)) Via.refl Pr1 rfl rfl (D d30_1) fun T4 X4 => ?_
  have A5 := X4.at
  refine Gets.via (fun _ k => (XS.aloadN A5 hx rfl (D d30_4) rfl rfl k)) ?_
  refine X4.getF (host := "") (Or.inl (w120 hw)) Via.refl Pr0 rfl rfl (D d30_5) fun T6 X6 => ?_
  refine X6.callS (W := 0) (w191 hw) (w192 hw) (w193 hw) (w194 hw) (by decide) (X6.payM (sf := []) (rmCo1 hcx d kd e0 h0 X6.old Pr2 Pr3 Pr4) sf0 (w194 hw) (w193 hw) (by decide) (by decide)) rfl (sz hml rfl) (argsL := [(.ref d), (.int (1 : Int32))]) (rest := []) (lenOf pd22 rfl) rfl rfl (mroom rfl rfl) (D d30_8) (by decide) (by decide) fun T7 h7 vm7 v7 X7 C7 z7 q7 => ?_
  obtain ⟨r7, kr7, rfl, K7, g7_0, g7_1, g7_2, g7_3⟩ := q7
  have l8 := ltA g7_0.lt
  show Gets p e below _ (T7.setTop (mkF m 11 #[vR x] [(.ref r7)]))
  exact X7.retA hret rfl rfl rfl (D d30_11) (by decide) (by decide) (fun vmE CE => ⟨r7, kr7, rfl, ((Keep.refl h0 []).trans K7 all0), g7_0, g7_1, g7_2, g7_3⟩)
abbrev RrmOf1 : Room := { frames := 5, cells := 1, slots := 2, locals := 62 }
def QrmOf1 (Z : State) (de : Addr) (el : Addr) (em : Addr) (r : Addr) (kr : ClassId) (e0 : Addr) (h0 : Heap) (v : Option Value) (vm : Vm) (h : Heap) : Prop := ∃ (a : Addr), v = some (.ref a) ∧ Keep h0 h [] ∧ Exa Z h a "java/util/ImmutableCollections$List12" ∧ Fld Z h a "java/util/ImmutableCollections$List12" "e0" "Ljava/lang/Object;" (.ref e0) ∧ Fld Z h a "java/util/ImmutableCollections$List12" "e1" "Ljava/lang/Object;" (.ref em) ∧ h0.size ≤ a
theorem rmOf1 (hcx : Cx Z a0 zc de kde em el ee kee mr) (r : Addr) (kr : ClassId) (e0 : Addr) (h0 : Heap) (O0 : Old Z Z.heap.size h0) (Pr0 : Arv Z h0 r kr (.object "java/lang/Object") (1 : Int32) [(.ref e0)] .null) (Pr1 : Exa Z h0 e0 "java/lang/String") : Met l Z consts_1 (⟨"java/util/List", "of", "([Ljava/lang/Object;)Ljava/util/List;"⟩ : MethodName) jdk_40_method_47_code 2 (some (.object "java/util/List")) [] RrmOf1 [] #[(.ref r)] h0 (QrmOf1 Z de el em r kr e0 h0) := by
  have ⟨hw, hEL, O2, P5, OD, AD, XM, OM, OL, XL, FL, AE, MR⟩ := hcx
  refine Met.start (a0 := a0) (Ls := #[vR r, .unset]) pn34 hEL O0 (fun m => by first | (simp [entryFrame, mkF, argsToLocals, Value.category]; done) | rfl) ?_
  intro p e s m below meth cc T0 vm0 X0 sf0_ hby hml hret hnm
  have hx := X0.hx
  have D : ∀ {n r}, decode jdk_40_method_47_code n = r → decode cc.code n = r := fun d => hb hby d
  have zz := X0.ge
  have A0 := X0.at
  have l1 := ltA Pr0.lt
  have l2 := ltA Pr1.lt
  refine Gets.via (fun _ k => (XS.aloadN A0 hx rfl (D d34_0) rfl rfl k)) ?_
  refine X0.alen Pr0 rfl rfl (D d34_1) ?_
  refine Gets.via (fun _ k => (XS.tswIn A0 hx rfl (pc0 := 2) (pc' := 34) rfl (D d34_2) rfl (by decide) (o := 32) rfl (by decide) (by decide) k)) ?_
  refine X0.new (w246 hw) (w247 hw) (w248 hw) rfl (D d34_34) (by decide) (by decide) fun T3 h3 a3 X3 C3 E3 g3 Z3 S3 D3 => ?_
  have z3 := E3.1
  have l3 := ltA Z3.lt
  have A4 := X3.at
  refine Gets.via (fun _ k => (XS.dup A4 hx rfl (D d34_37) rfl rfl (XS.aloadN A4 hx rfl (D d34_38) rfl rfl (XS.iconst A4 hx rfl (D d34_39) k)))) ?_
  show Gets p e below _ (T3.setTop (mkF m 40 #[vR r, .unset] [(.int (0 : Int32)), (.ref r), (.ref a3), (.ref a3)]))
  have f5 := Pr0.ext E3
  refine X3.ldR f5 rfl (i := 0) (by decide) (by decide) (by decide) rfl rfl rfl (D d34_40) ?_
  refine X3.callI (y := (⟨"java/util/ImmutableCollections$List12", "<init>", "(Ljava/lang/Object;)V"⟩ : MethodName)) (W := 1) rfl (w269 hw) (w270 hw) (w271 hw) (by decide) (X3.payM (sf := []) (rm42 hcx a3 e0 h3 X3.old Z3 (D3 (Or.inr (w259 hw)) (ty := (.object "java/lang/Object")) (by decide) : Fld Z h3 a3 "java/util/ImmutableCollections$List12" "e0" "Ljava/lang/Object;" .null) (D3 (Or.inr (w261 hw)) (ty := (.object "java/lang/Object")) (by decide) : Fld Z h3 a3 "java/util/ImmutableCollections$List12" "e1" "Ljava/lang/Object;" .null) (leA (by omega))) sf0 (w271 hw) (w248 hw) (by decide) (by decide)) rfl (sz hml rfl) (a := a3) (argsL := [(.ref e0)]) (rest := [(.ref a3)]) (lenOf pd23 rfl) rfl rfl (mroom rfl rfl) (D d34_41) (by decide) (by decide) fun T6 h6 vm6 v6 X6 C6 z6 q6 => ?_
  obtain ⟨rfl, K6, g6_0, g6_1, g6_2⟩ := q6
  have l7 := ltA g6_0.lt
  exact X6.retA hret rfl rfl rfl (D d34_44) (by decide) (by decide) (fun vmE CE => ⟨a3, rfl, (((Keep.refl h0 []).ext E3).trans K6 (allS (Or.inr (leA (by omega))) all0)), g6_0, g6_1, g6_2, (leA (by omega))⟩)
abbrev RrmLc1 : Room := { frames := 6, cells := 2, slots := 3, locals := 75 }
def QrmLc1 (Z : State) (de : Addr) (el : Addr) (em : Addr) (x : Addr) (d : Addr) (kd : ClassId) (e0 : Addr) (h0 : Heap) (v : Option Value) (vm : Vm) (h : Heap) : Prop := ∃ (a : Addr), v = some (.ref a) ∧ Keep h0 h [] ∧ Exa Z h a "java/util/ImmutableCollections$List12" ∧ Fld Z h a "java/util/ImmutableCollections$List12" "e0" "Ljava/lang/Object;" (.ref e0) ∧ Fld Z h a "java/util/ImmutableCollections$List12" "e1" "Ljava/lang/Object;" (.ref em) ∧ h0.size ≤ a
theorem rmLc1 (hcx : Cx Z a0 zc de kde em el ee kee mr) (x : Addr) (d : Addr) (kd : ClassId) (e0 : Addr) (h0 : Heap) (O0 : Old Z Z.heap.size h0) (Pr0 : Exa Z h0 x "java/util/ArrayList") (Pr1 : Fld Z h0 x "java/util/ArrayList" "size" "I" (.int (1 : Int32))) (Pr2 : Fld Z h0 x "java/util/ArrayList" "elementData" "[Ljava/lang/Object;" (.ref d)) (Pr3 : Arv Z h0 d kd (.object "java/lang/Object") (10 : Int32) [(.ref e0), .null, .null, .null, .null, .null, .null, .null, .null, .null] .null) (Pr4 : Exa Z h0 d "[Ljava/lang/Object;") (Pr5 : Exa Z h0 e0 "java/lang/String") : Met l Z consts_1 (⟨"java/util/ImmutableCollections", "listCopy", "(Ljava/util/Collection;)Ljava/util/List;"⟩ : MethodName) jdk_56_method_3_code 2 (some (.object "java/util/List")) [] RrmLc1 [] #[(.ref x)] h0 (QrmLc1 Z de el em x d kd e0 h0) := by
  have ⟨hw, hEL, O2, P5, OD, AD, XM, OM, OL, XL, FL, AE, MR⟩ := hcx
  refine Met.start (a0 := a0) (Ls := #[vR x, .unset]) pn19 hEL O0 (fun m => by first | (simp [entryFrame, mkF, argsToLocals, Value.category]; done) | rfl) ?_
  intro p e s m below meth cc T0 vm0 X0 sf0_ hby hml hret hnm
  have hx := X0.hx
  have D : ∀ {n r}, decode jdk_56_method_3_code n = r → decode cc.code n = r := fun d => hb hby d
  have zz := X0.ge
  have A0 := X0.at
  have l1 := ltA Pr0.lt
  have l2 := ltA Pr3.lt
  have l3 := ltA Pr5.lt
  refine Gets.via (fun _ k => (XS.aloadN A0 hx rfl (D d19_0) rfl rfl k)) ?_
  refine X0.instNo (w105 hw) Pr0 (ns_no (w106 hw) (plainS (w262 hw) rfl) (NS.step (w106 hw) (NS.step (w107 hw) (NS.step (w108 hw) (ns_root (w109 hw) (plainS (w262 hw) rfl) (by decide)) (by decide)) (by decide)) (by decide)) (by decide)) rfl rfl (D d19_1) fun T4 X4 => ?_
  have A5 := X4.at
  refine Gets.via (fun _ k => (XS.ifNo A5 hx rfl (D d19_4) rfl (Jvm.Free.XT.i0_ne_f (by decide)) k)) ?_
  refine Gets.via (fun _ k => (XS.aloadN A5 hx rfl (D d19_7) rfl rfl k)) ?_
  refine X4.instNo (w110 hw) Pr0 (ns_no (w106 hw) (plainS (w144 hw) rfl) (NS.step (w106 hw) (NS.step (w107 hw) (NS.step (w108 hw) (ns_root (w109 hw) (plainS (w144 hw) rfl) (by decide)) (by decide)) (by decide)) (by decide)) (by decide)) rfl rfl (D d19_8) fun T6 X6 => ?_
  show Gets p e below _ (T6.setTop (mkF m 11 #[vR x, .unset] [(.int (0 : Int32))]))
  have A7 := X6.at
  refine Gets.via (fun _ k => (XS.ifYes A7 hx rfl (pc0 := 11) (pc' := 31) rfl (D d19_11) rfl (Jvm.Free.XT.i0_eq_t (by decide)) (by decide) (by decide) k)) ?_
  refine Gets.via (fun _ k => (XS.aloadN A7 hx rfl (D d19_31) rfl rfl k)) ?_
  refine X6.callF (W := 0) (w111 hw) (w112 hw) (w113 hw) rfl (w114 hw) (w115 hw) (w116 hw) (w117 hw) (w118 hw) (by decide) (X6.payM (sf := []) (rmAlEmpty1 hcx x h0 X6.old Pr1) sf0 (w119 hw) (w60 hw) (by decide) (by decide)) Pr0 rfl (sz hml rfl) (argsL := []) (rest := []) (lenOf pd10 rfl) rfl rfl (mroom rfl rfl) (D d19_32) (by decide) (by decide) fun T8 h8 vm8 v8 X8 C8 z8 q8 => ?_
  obtain ⟨rfl, K8⟩ := q8
  rw [K8] at X8 C8
  have A9 := X8.at
  refine Gets.via (fun _ k => (XS.ifYes A9 hx rfl (pc0 := 37) (pc' := 44) rfl (D d19_37) rfl (Jvm.Free.XT.i0_eq_t (by decide)) (by decide) (by decide) k)) ?_
  refine Gets.via (fun _ k => (XS.aloadN A9 hx rfl (D d19_44) rfl rfl k)) ?_
  refine X8.callF (W := 0) (w183 hw) (w184 hw) (w185 hw) rfl (w186 hw) (w187 hw) (w188 hw) (w189 hw) (w118 hw) (by decide) (X8.payM (sf := []) (rmToA1 hcx x d kd e0 h0 X8.old Pr1 Pr2 Pr3 Pr4 Pr5) sf0 (w190 hw) (w60 hw) (by decide) (by decide)) Pr0 rfl (sz hml rfl) (argsL := []) (rest := []) (lenOf pd18 rfl) rfl rfl (mroom rfl rfl) (D d19_45) (by decide) (by decide) fun T10 h10 vm10 v10 X10 C10 z10 q10 => ?_
  obtain ⟨r10, kr10, rfl, K10, g10_0, g10_1, g10_2, g10_3⟩ := q10
  have l11 := ltA g10_0.lt
  have f12 := Pr5.keep K10
  refine X10.callS (W := 0) (w213 hw) (w214 hw) (w99 hw) (w215 hw) (by decide) (X10.payM (sf := []) (rmOf1 hcx r10 kr10 e0 h10 X10.old g10_0 f12) sf0 (w215 hw) (w99 hw) (by decide) (by decide)) rfl (sz hml rfl) (argsL := [(.ref r10)]) (rest := []) (lenOf pd24 rfl) rfl rfl (mroom rfl rfl) (D d19_50) (by decide) (by decide) fun T13 h13 vm13 v13 X13 C13 z13 q13 => ?_
  obtain ⟨a13, rfl, K13, g13_0, g13_1, g13_2, g13_3⟩ := q13
  have l14 := ltA g13_0.lt
  show Gets p e below _ (T13.setTop (mkF m 53 #[vR x, .unset] [(.ref a13)]))
  exact X13.retA hret rfl rfl rfl (D d19_53) (by decide) (by decide) (fun vmE CE => ⟨a13, rfl, (((Keep.refl h0 []).trans K10 all0).trans K13 all0), g13_0, g13_1, g13_2, (leA (by omega))⟩)
abbrev RrmCoL1 : Room := { frames := 7, cells := 2, slots := 3, locals := 88 }
def QrmCoL1 (Z : State) (de : Addr) (el : Addr) (em : Addr) (x : Addr) (d : Addr) (kd : ClassId) (e0 : Addr) (h0 : Heap) (v : Option Value) (vm : Vm) (h : Heap) : Prop := ∃ (a : Addr), v = some (.ref a) ∧ Keep h0 h [] ∧ Exa Z h a "java/util/ImmutableCollections$List12" ∧ Fld Z h a "java/util/ImmutableCollections$List12" "e0" "Ljava/lang/Object;" (.ref e0) ∧ Fld Z h a "java/util/ImmutableCollections$List12" "e1" "Ljava/lang/Object;" (.ref em) ∧ h0.size ≤ a
theorem rmCoL1 (hcx : Cx Z a0 zc de kde em el ee kee mr) (x : Addr) (d : Addr) (kd : ClassId) (e0 : Addr) (h0 : Heap) (O0 : Old Z Z.heap.size h0) (Pr0 : Exa Z h0 x "java/util/ArrayList") (Pr1 : Fld Z h0 x "java/util/ArrayList" "size" "I" (.int (1 : Int32))) (Pr2 : Fld Z h0 x "java/util/ArrayList" "elementData" "[Ljava/lang/Object;" (.ref d)) (Pr3 : Arv Z h0 d kd (.object "java/lang/Object") (10 : Int32) [(.ref e0), .null, .null, .null, .null, .null, .null, .null, .null, .null] .null) (Pr4 : Exa Z h0 d "[Ljava/lang/Object;") (Pr5 : Exa Z h0 e0 "java/lang/String") : Met l Z consts_1 (⟨"java/util/List", "copyOf", "(Ljava/util/Collection;)Ljava/util/List;"⟩ : MethodName) jdk_40_method_48_code 1 (some (.object "java/util/List")) [] RrmCoL1 [] #[(.ref x)] h0 (QrmCoL1 Z de el em x d kd e0 h0) := by
  have ⟨hw, hEL, O2, P5, OD, AD, XM, OM, OL, XL, FL, AE, MR⟩ := hcx
  refine Met.start (a0 := a0) (Ls := #[vR x]) pn18 hEL O0 (fun m => by first | (simp [entryFrame, mkF, argsToLocals, Value.category]; done) | rfl) ?_
  intro p e s m below meth cc T0 vm0 X0 sf0_ hby hml hret hnm
  have hx := X0.hx
  have D : ∀ {n r}, decode jdk_40_method_48_code n = r → decode cc.code n = r := fun d => hb hby d
  have zz := X0.ge
  have A0 := X0.at
  have l1 := ltA Pr0.lt
  have l2 := ltA Pr3.lt
  have l3 := ltA Pr5.lt
  refine Gets.via (fun _ k => (XS.aloadN A0 hx rfl (D d18_0) rfl rfl k)) ?_
  refine X0.callS (W := 0) (w101 hw) (w102 hw) (w103 hw) (w104 hw) (by decide) (X0.payM (sf := []) (rmLc1 hcx x d kd e0 h0 X0.old Pr0 Pr1 Pr2 Pr3 Pr4 Pr5) sf0 (w104 hw) (w103 hw) (by decide) (by decide)) rfl (sz hml rfl) (argsL := [(.ref x)]) (rest := []) (lenOf pd12 rfl) rfl rfl (mroom rfl rfl) (D d18_1) (by decide) (by decide) fun T4 h4 vm4 v4 X4 C4 z4 q4 => ?_
  obtain ⟨a4, rfl, K4, g4_0, g4_1, g4_2, g4_3⟩ := q4
  have l5 := ltA g4_0.lt
  exact X4.retA hret rfl rfl rfl (D d18_4) (by decide) (by decide) (fun vmE CE => ⟨a4, rfl, ((Keep.refl h0 []).trans K4 all0), g4_0, g4_1, g4_2, g4_3⟩)
abbrev RrmNode1 : Room := { frames := 8, cells := 2, slots := 3, locals := 100 }
def QrmNode1 (Z : State) (de : Addr) (el : Addr) (em : Addr) (x : Addr) (u : Addr) (z : Addr) (v1 : Addr) (d : Addr) (kd : ClassId) (e0 : Addr) (h0 : Heap) (v : Option Value) (vm : Vm) (h : Heap) : Prop := ∃ (L : Addr), v = none ∧ Keep h0 h [x] ∧ Exa Z h x "com/example/packwright/packwright/model/Node" ∧ Fld Z h x "com/example/packwright/packwright/model/Node" "subscripts" "Ljava/util/List;" (.ref L) ∧ Exa Z h L "java/util/ImmutableCollections$List12" ∧ Fld Z h L "java/util/ImmutableCollections$List12" "e0" "Ljava/lang/Object;" (.ref e0) ∧ Fld Z h L "java/util/ImmutableCollections$List12" "e1" "Ljava/lang/Object;" (.ref em)
theorem rmNode1 (hcx : Cx Z a0 zc de kde em el ee kee mr) (x : Addr) (u : Addr) (z : Addr) (v1 : Addr) (d : Addr) (kd : ClassId) (e0 : Addr) (h0 : Heap) (O0 : Old Z Z.heap.size h0) (Pr0 : Exa Z h0 x "com/example/packwright/packwright/model/Node") (Pr1 : Fld Z h0 x "com/example/packwright/packwright/model/Node" "subscriptLine" "Ljava/lang/String;" .null) (Pr2 : Fld Z h0 x "com/example/packwright/packwright/model/Node" "subscripts" "Ljava/util/List;" .null) (Pr3 : Fld Z h0 x "com/example/packwright/packwright/model/Node" "value" "Ljava/lang/String;" .null) (Pr4 : Z.heap.size ≤ x) (Pr5 : Exa Z h0 z "java/util/ArrayList") (Pr6 : Fld Z h0 z "java/util/ArrayList" "size" "I" (.int (1 : Int32))) (Pr7 : Fld Z h0 z "java/util/ArrayList" "elementData" "[Ljava/lang/Object;" (.ref d)) (Pr8 : Arv Z h0 d kd (.object "java/lang/Object") (10 : Int32) [(.ref e0), .null, .null, .null, .null, .null, .null, .null, .null, .null] .null) (Pr9 : Exa Z h0 d "[Ljava/lang/Object;") (Pr10 : Exa Z h0 e0 "java/lang/String") : Met l Z consts_1 (⟨"com/example/packwright/packwright/model/Node", "<init>", "(Ljava/lang/String;Ljava/util/List;Ljava/lang/String;)V"⟩ : MethodName) prog_37_method_1_code 4 (none) [] RrmNode1 [] #[(.ref x), (.ref u), (.ref z), (.ref v1)] h0 (QrmNode1 Z de el em x u z v1 d kd e0 h0) := by
  have ⟨hw, hEL, O2, P5, OD, AD, XM, OM, OL, XL, FL, AE, MR⟩ := hcx
  refine Met.start (a0 := a0) (Ls := #[vR x, vR u, vR z, vR v1]) pn16 hEL O0 (fun m => by first | (simp [entryFrame, mkF, argsToLocals, Value.category]; done) | rfl) ?_
  intro p e s m below meth cc T0 vm0 X0 sf0_ hby hml hret hnm
  have hx := X0.hx
  have D : ∀ {n r}, decode prog_37_method_1_code n = r → decode cc.code n = r := fun d => hb hby d
  have zz := X0.ge
  have A0 := X0.at
  have l1 := ltA Pr0.lt
  have l2 := ltA Pr5.lt
  have l3 := ltA Pr8.lt
  have l4 := ltA Pr10.lt
  refine Gets.via (fun _ k => (XS.aloadN A0 hx rfl (D d16_0) rfl rfl k)) ?_
  refine X0.callI (y := (⟨"java/lang/Record", "<init>", "()V"⟩ : MethodName)) (W := 0) rfl (w91 hw) (w92 hw) (w95 hw) (by decide) (X0.payM (sf := []) (rm17 hcx x h0 X0.old ) sf0 (w95 hw) (w94 hw) (by decide) (by decide)) rfl (sz hml rfl) (a := x) (argsL := []) (rest := []) (lenOf pd7 rfl) rfl rfl (mroom rfl rfl) (D d16_1) (by decide) (by decide) fun T5 h5 vm5 v5 X5 C5 z5 q5 => ?_
  obtain ⟨rfl, K5⟩ := q5
  rw [K5] at X5 C5
  have A6 := X5.at
  refine Gets.via (fun _ k => (XS.aloadN A6 hx rfl (D d16_4) rfl rfl k)) ?_
  refine X5.callS (W := 0) (w97 hw) (w98 hw) (w99 hw) (w100 hw) (by decide) (X5.payM (sf := []) (rmCoL1 hcx z d kd e0 h0 X5.old Pr5 Pr6 Pr7 Pr8 Pr9 Pr10) sf0 (w100 hw) (w99 hw) (by decide) (by decide)) rfl (sz hml rfl) (argsL := [(.ref z)]) (rest := []) (lenOf pd12 rfl) rfl rfl (mroom rfl rfl) (D d16_5) (by decide) (by decide) fun T7 h7 vm7 v7 X7 C7 z7 q7 => ?_
  obtain ⟨a7, rfl, K7, g7_0, g7_1, g7_2, g7_3⟩ := q7
  have l8 := ltA g7_0.lt
  have A9 := X7.at
  refine Gets.via (fun _ k => (XS.astoreN A9 hx rfl (D d16_8) rfl rfl (l' := #[vR x, vR u, vR a7, vR v1]) rfl (XS.aloadN A9 hx rfl (D d16_9) rfl rfl (XS.aloadN A9 hx rfl (D d16_10) rfl rfl k)))) ?_
  show Gets p e below _ (T7.setTop (mkF m 11 #[vR x, vR u, vR a7, vR v1] [(.ref u), (.ref x)]))
  have f11 := Pr1.keep K7 nin0
  have f12 := Pr0.keep K7
  refine X7.putF (host := "") (Or.inl (w126 hw)) Via.refl f11 f12 (Or.inr ⟨(w127 hw), rfl, hnm⟩) (w83 hw) (ty := (.object "java/lang/String")) (by decide) rfl rfl (leA (by omega)) (Safe.exa X7.hZ.alike f12 (by decide) (by decide)) rfl rfl (D d16_11) fun T10 h10 X10 C10 W10 F10 Z10 => ?_
  have z10 := W10.size
  have A13 := X10.at
  refine Gets.via (fun _ k => (XS.aloadN A13 hx rfl (D d16_14) rfl rfl (XS.aloadN A13 hx rfl (D d16_15) rfl rfl k))) ?_
  have f15 := Pr2.keep K7 nin0
  have f16 := f15.other W10 (Or.inr (slot_ne (t := (.object "java/util/List")) (t' := (.object "java/lang/String")) (Or.inr (w129 hw)) (Or.inr (w127 hw)) (by decide) (by decide) (by decide)))
  refine X10.putF (host := "") (Or.inl (w128 hw)) Via.refl f16 Z10 (Or.inr ⟨(w129 hw), rfl, hnm⟩) (w83 hw) (ty := (.object "java/util/List")) (by decide) rfl rfl (leA (by omega)) (Safe.exa X10.hZ.alike Z10 (by decide) (by decide)) rfl rfl (D d16_16) fun T14 h14 X14 C14 W14 F14 Z14 => ?_
  have z14 := W14.size
  have A17 := X14.at
  refine Gets.via (fun _ k => (XS.aloadN A17 hx rfl (D d16_19) rfl rfl (XS.aloadN A17 hx rfl (D d16_20) rfl rfl k))) ?_
  have f19 := Pr3.keep K7 nin0
  have f20 := f19.other W10 (Or.inr (slot_ne (t := (.object "java/lang/String")) (t' := (.object "java/lang/String")) (Or.inr (w131 hw)) (Or.inr (w127 hw)) (by decide) (by decide) (by decide)))
  have f21 := f20.other W14 (Or.inr (slot_ne (t := (.object "java/lang/String")) (t' := (.object "java/util/List")) (Or.inr (w131 hw)) (Or.inr (w129 hw)) (by decide) (by decide) (by decide)))
  refine X14.putF (host := "") (Or.inl (w130 hw)) Via.refl f21 Z14 (Or.inr ⟨(w131 hw), rfl, hnm⟩) (w83 hw) (ty := (.object "java/lang/String")) (by decide) rfl rfl (leA (by omega)) (Safe.exa X14.hZ.alike Z14 (by decide) (by decide)) rfl rfl (D d16_21) fun T18 h18 X18 C18 W18 F18 Z18 => ?_
  have z18 := W18.size
  show Gets p e below _ (T18.setTop (mkF m 24 #[vR x, vR u, vR a7, vR v1] []))
  have f22 := F14.other W18 (Or.inr (slot_ne (t := (.object "java/util/List")) (t' := (.object "java/lang/String")) (Or.inr (w129 hw)) (Or.inr (w131 hw)) (by decide) (by decide) (by decide)))
  have f23 := g7_0.wr W10
  have f24 := f23.wr W14
  have f25 := f24.wr W18
  have f26 := g7_1.other W10 (Or.inl (neA (by omega)))
  have f27 := f26.other W14 (Or.inl (neA (by omega)))
  have f28 := f27.other W18 (Or.inl (neA (by omega)))
  have f29 := g7_2.other W10 (Or.inl (neA (by omega)))
  have f30 := f29.other W14 (Or.inl (neA (by omega)))
  have f31 := f30.other W18 (Or.inl (neA (by omega)))
  exact X18.retV hret (D d16_24) (by decide) (by decide) (fun vmE CE => ⟨a7, rfl, (((((Keep.refl h0 [x]).trans K7 all0).wr W10 (Or.inl (List.mem_of_getElem? (i := 0) rfl))).wr W14 (Or.inl (List.mem_of_getElem? (i := 0) rfl))).wr W18 (Or.inl (List.mem_of_getElem? (i := 0) rfl))), Z18, f22, f25, f28, f31⟩)
abbrev RrmL12s1 : Room := { frames := 0, cells := 0, slots := 0, locals := 0 }
def QrmL12s1 (Z : State) (de : Addr) (el : Addr) (em : Addr) (x : Addr) (h0 : Heap) (v : Option Value) (vm : Vm) (h : Heap) : Prop := v = some (.int (1 : Int32)) ∧ h = h0
theorem rmL12s1 (hcx : Cx Z a0 zc de kde em el ee kee mr) (x : Addr) (h0 : Heap) (O0 : Old Z Z.heap.size h0) (Pr0 : Fld Z h0 x "java/util/ImmutableCollections$List12" "e1" "Ljava/lang/Object;" (.ref em)) : Met l Z consts_1 (⟨"java/util/ImmutableCollections$List12", "size", "()I"⟩ : MethodName) jdk_44_method_3_code 1 (some .int) [] RrmL12s1 [] #[(.ref x)] h0 (QrmL12s1 Z de el em x h0) := by
  have ⟨hw, hEL, O2, P5, OD, AD, XM, OM, OL, XL, FL, AE, MR⟩ := hcx
  refine Met.start (a0 := a0) (Ls := #[vR x]) pn41 hEL O0 (fun m => by first | (simp [entryFrame, mkF, argsToLocals, Value.category]; done) | rfl) ?_
  intro p e s m below meth cc T0 vm0 X0 sf0_ hby hml hret hnm
  have hx := X0.hx
  have D : ∀ {n r}, decode jdk_44_method_3_code n = r → decode cc.code n = r := fun d => hb hby d
  have zz := X0.ge
  have A0 := X0.at
  have l1 := ltA Pr0.lt
  refine Gets.via (fun _ k => (XS.aloadN A0 hx rfl (D d41_0) rfl rfl k)) ?_
  refine X0.getF (host := "") (Or.inl (w260 hw)) Via.refl Pr0 rfl rfl (D d41_1) fun T2 X2 => ?_
  refine X2.getS (host := "java/util/ImmutableCollections") (Or.inr (w268 hw)) Via.refl (X2.sta OM) rfl (D d41_4) fun T3 X3 => ?_
  refine X3.acmpW hx rfl rfl rfl (pc0 := 7) (pc' := 14) (same := true) rfl (D d41_7) rfl (by simp) (by decide) (by decide) ?_
  show Gets p e below _ (T3.setTop (mkF m 14 #[vR x] []))
  have A4 := X3.at
  refine Gets.via (fun _ k => (XS.iconst A4 hx rfl (D d41_14) k)) ?_
  exact X3.retI hret rfl (by simp) (D d41_15) (by decide) (by decide) (fun vmE CE => ⟨rfl, rfl⟩)
abbrev RrmRol1 : Room := { frames := 1, cells := 0, slots := 0, locals := 12 }
def QrmRol1 (Z : State) (de : Addr) (el : Addr) (em : Addr) (x : Addr) (L : Addr) (e0 : Addr) (h0 : Heap) (v : Option Value) (vm : Vm) (h : Heap) : Prop := v = some .null ∧ h = h0
theorem rmRol1 (hcx : Cx Z a0 zc de kde em el ee kee mr) (x : Addr) (L : Addr) (e0 : Addr) (h0 : Heap) (O0 : Old Z Z.heap.size h0) (Pr0 : Exa Z h0 x "com/example/packwright/packwright/model/Node") (Pr1 : Fld Z h0 x "com/example/packwright/packwright/model/Node" "subscripts" "Ljava/util/List;" (.ref L)) (Pr2 : Exa Z h0 L "java/util/ImmutableCollections$List12") (Pr3 : Fld Z h0 L "java/util/ImmutableCollections$List12" "e0" "Ljava/lang/Object;" (.ref e0)) (Pr4 : Fld Z h0 L "java/util/ImmutableCollections$List12" "e1" "Ljava/lang/Object;" (.ref em)) : Met l Z consts_1 (⟨"com/example/packwright/packwright/io/BuildAssembler", "routineOfLine", "(Lcom/example/packwright/packwright/model/Node;)Ljava/lang/String;"⟩ : MethodName) prog_4_method_10_code 3 (some (.object "java/lang/String")) [] RrmRol1 [] #[(.ref x)] h0 (QrmRol1 Z de el em x L e0 h0) := by
  have ⟨hw, hEL, O2, P5, OD, AD, XM, OM, OL, XL, FL, AE, MR⟩ := hcx
  refine Met.start (a0 := a0) (Ls := #[vR x, .unset, .unset]) pn22 hEL O0 (fun m => by first | (simp [entryFrame, mkF, argsToLocals, Value.category]; done) | rfl) ?_
  intro p e s m below meth cc T0 vm0 X0 sf0_ hby hml hret hnm
  have hx := X0.hx
  have D : ∀ {n r}, decode prog_4_method_10_code n = r → decode cc.code n = r := fun d => hb hby d
  have zz := X0.ge
  have A0 := X0.at
  have l1 := ltA Pr0.lt
  have l2 := ltA Pr2.lt
  refine Gets.via (fun _ k => (XS.aloadN A0 hx rfl (D d22_0) rfl rfl k)) ?_
  refine X0.callV (W := 0) (w136 hw) (w137 hw) (w139 hw) (w138 hw) (nfs rfl (w139 hw)) (by decide) (X0.payM (sf := []) (rmSubs hcx x L h0 X0.old Pr1) sf0 (w140 hw) (w84 hw) (by decide) (by decide)) Pr0 rfl (sz hml rfl) (argsL := []) (rest := []) (lenOf pd11 rfl) rfl rfl (mroom rfl rfl) (D d22_1) (by decide) (by decide) fun T3 h3 vm3 v3 X3 C3 z3 q3 => ?_
  obtain ⟨rfl, K3⟩ := q3
  rw [K3] at X3 C3
  have A4 := X3.at
  refine Gets.via (fun _ k => (XS.astoreN A4 hx rfl (D d22_4) rfl rfl (l' := #[vR x, vR L, .unset]) rfl (XS.aloadN A4 hx rfl (D d22_5) rfl rfl k))) ?_
  refine X3.callF (W := 0) (w141 hw) (w142 hw) (w143 hw) rfl (w262 hw) (w263 hw) (w264 hw) (w265 hw) (w266 hw) (by decide) (X3.payM (sf := []) (rmL12s1 hcx L h0 X3.old Pr4) sf0 (w267 hw) (w248 hw) (by decide) (by decide)) Pr2 rfl (sz hml rfl) (argsL := []) (rest := []) (lenOf pd14 rfl) rfl rfl (mroom rfl rfl) (D d22_6) (by decide) (by decide) fun T5 h5 vm5 v5 X5 C5 z5 q5 => ?_
  obtain ⟨rfl, K5⟩ := q5
  rw [K5] at X5 C5
  show Gets p e below _ (T5.setTop (mkF m 11 #[vR x, vR L, .unset] [(.int (1 : Int32))]))
  have A6 := X5.at
  refine Gets.via (fun _ k => (XS.iconst A6 hx rfl (D d22_11) (XS.icmpYes A6 hx rfl (pc0 := 12) (pc' := 55) rfl (D d22_12) rfl (Jvm.Free.XT.ii_ne_t (by decide)) (by decide) (by decide) k))) ?_
  refine Gets.via (fun _ k => (XS.iconst A6 hx rfl (D d22_55) (XS.istoreN A6 hx rfl (D d22_56) rfl (l' := #[vR x, vR L, vI (0 : Int32)]) rfl (XS.iloadN A6 hx rfl (D d22_57) rfl (XS.ifYes A6 hx rfl (pc0 := 58) (pc' := 74) rfl (D d22_58) rfl (Jvm.Free.XT.i0_eq_t (by decide)) (by decide) (by decide) k))))) ?_
  refine Gets.via (fun _ k => (XS.aconstNull A6 hx rfl (D d22_74) k)) ?_
  exact X5.retA hret rfl rfl rfl (D d22_75) (by decide) (by decide) (fun vmE CE => ⟨rfl, rfl⟩)
abbrev RrmAddT1 : Room := { frames := 0, cells := 0, slots := 0, locals := 0 }
def QrmAddT1 (Z : State) (de : Addr) (el : Addr) (em : Addr) (x : Addr) (y : Addr) (mc : Int32) (d : Addr) (kd : ClassId) (e0 : Addr) (h0 : Heap) (v : Option Value) (vm : Vm) (h : Heap) : Prop := v = none ∧ Keep h0 h [x, d] ∧ Exa Z h x "java/util/ArrayList" ∧ Fld Z h x "java/util/AbstractList" "modCount" "I" (.int mc) ∧ Fld Z h x "java/util/ArrayList" "size" "I" (.int (2 : Int32)) ∧ Fld Z h x "java/util/ArrayList" "elementData" "[Ljava/lang/Object;" (.ref d) ∧ Arv Z h d kd (.object "java/lang/Object") (10 : Int32) [(.ref e0), (.ref y), .null, .null, .null, .null, .null, .null, .null, .null] .null ∧ Exa Z h d "[Ljava/lang/Object;"
theorem rmAddT1 (hcx : Cx Z a0 zc de kde em el ee kee mr) (x : Addr) (y : Addr) (mc : Int32) (d : Addr) (kd : ClassId) (e0 : Addr) (h0 : Heap) (O0 : Old Z Z.heap.size h0) (Pr0 : Exa Z h0 x "java/util/ArrayList") (Pr1 : Fld Z h0 x "java/util/AbstractList" "modCount" "I" (.int mc)) (Pr2 : Fld Z h0 x "java/util/ArrayList" "size" "I" (.int (1 : Int32))) (Pr3 : Fld Z h0 x "java/util/ArrayList" "elementData" "[Ljava/lang/Object;" (.ref d)) (Pr4 : Arv Z h0 d kd (.object "java/lang/Object") (10 : Int32) [(.ref e0), .null, .null, .null, .null, .null, .null, .null, .null, .null] .null) (Pr5 : Exa Z h0 d "[Ljava/lang/Object;") (Pr6 : Ovr Z kd "java/lang/Object") (Pr7 : Z.heap.size ≤ d) (Pr8 : x ≠ d) (Pr9 : Z.heap.size ≤ x) (Pr10 : Exa Z h0 y "java/lang/String") : Met l Z consts_1 (⟨"java/util/ArrayList", "add", "(Ljava/lang/Object;[Ljava/lang/Object;I)V"⟩ : MethodName) jdk_38_method_24_code 4 (none) [] RrmAddT1 [] #[(.ref x), (.ref y), (.ref d), (.int (1 : Int32))] h0 (QrmAddT1 Z de el em x y mc d kd e0 h0) := by
  have ⟨hw, hEL, O2, P5, OD, AD, XM, OM, OL, XL, FL, AE, MR⟩ := hcx
  refine Met.start (a0 := a0) (Ls := #[vR x, vR y, vR d, vI (1 : Int32)]) pn26 hEL O0 (fun m => by first | (simp [entryFrame, mkF, argsToLocals, Value.category]; done) | rfl) ?_
  intro p e s m below meth cc T0 vm0 X0 sf0_ hby hml hret hnm
  have hx := X0.hx
  have D : ∀ {n r}, decode jdk_38_method_24_code n = r → decode cc.code n = r := fun d => hb hby d
  have zz := X0.ge
  have A0 := X0.at
  have l1 := ltA Pr0.lt
  have l2 := ltA Pr4.lt
  have l3 := neA Pr8
  have l4 := ltA Pr10.lt
  refine Gets.via (fun _ k => (XS.iloadN A0 hx rfl (D d26_0) rfl (XS.aloadN A0 hx rfl (D d26_1) rfl rfl k))) ?_
  refine X0.alen Pr4 rfl rfl (D d26_2) ?_
  refine Gets.via (fun _ k => (XS.icmpYes A0 hx rfl (pc0 := 3) (pc' := 11) rfl (D d26_3) rfl (Jvm.Free.XT.ii_ne_t (by decide)) (by decide) (by decide) k)) ?_
  refine Gets.via (fun _ k => (XS.aloadN A0 hx rfl (D d26_11) rfl rfl (XS.iloadN A0 hx rfl (D d26_12) rfl (XS.aloadN A0 hx rfl (D d26_13) rfl rfl k)))) ?_
  show Gets p e below _ (T0.setTop (mkF m 14 #[vR x, vR y, vR d, vI (1 : Int32)] [(.ref y), (.int (1 : Int32)), (.ref d)]))
  refine X0.stR Pr4 (stoV Pr4 Pr6 (Ins.of_exa Pr10 (w182 hw))) rfl (i := 1) (by decide) (by decide) (Nat.le_of_ble_eq_true rfl) (by decide) (leA (by omega)) rfl rfl (D d26_14) fun T5 h5 X5 C5 K5 V5 => ?_
  have z5 := K5.1
  have V5_ : Arv Z h5 d kd (.object "java/lang/Object") (10 : Int32) [(.ref e0), (.ref y), .null, .null, .null, .null, .null, .null, .null, .null] .null := V5
  have A6 := X5.at
  refine Gets.via (fun _ k => (XS.aloadN A6 hx rfl (D d26_15) rfl rfl (XS.iloadN A6 hx rfl (D d26_16) rfl (XS.iconst A6 hx rfl (D d26_17) (iaddV A6 hx rfl (D d26_18) rfl (v := (2 : Int32)) (by decide) k))))) ?_
  have f8 := Pr2.keep K5 (ninS (neA (by omega)) nin0)
  have f9 := Pr0.keep K5
  refine X5.putF (host := "") (Or.inl (w120 hw)) Via.refl f8 f9 (Or.inl (w121 hw)) (w59 hw) (ty := .int) (by decide) rfl rfl (leA (by omega)) (Safe.exa X5.hZ.alike f9 (by decide) (by decide)) rfl rfl (D d26_19) fun T7 h7 X7 C7 W7 F7 Z7 => ?_
  have z7 := W7.size
  have f10 := Pr1.keep K5 (ninS (neA (by omega)) nin0)
  have f11 := f10.other W7 (Or.inr (slot_ne (t := .int) (t' := .int) (Or.inl (w78 hw)) (Or.inl (w121 hw)) (by decide) (by decide) (by decide)))
  have f12 := Pr3.keep K5 (ninS (neA (by omega)) nin0)
  have f13 := f12.other W7 (Or.inr (slot_ne (t := (.array (.object "java/lang/Object"))) (t' := .int) (Or.inl (w81 hw)) (Or.inl (w121 hw)) (by decide) (by decide) (by decide)))
  have f14 := V5_.other W7 (neA (by omega))
  have f15 := Pr5.keep K5
  have f16 := f15.wr W7
  exact X7.retV hret (D d26_22) (by decide) (by decide) (fun vmE CE => ⟨rfl, (((Keep.refl h0 [x, d]).trans K5 (allS (Or.inl (List.mem_of_getElem? (i := 1) rfl)) all0)).wr W7 (Or.inl (List.mem_of_getElem? (i := 0) rfl))), Z7, f11, F7, f13, f14, f16⟩)
abbrev RrmAdd1 : Room := { frames := 1, cells := 0, slots := 0, locals := 15 }
def QrmAdd1 (Z : State) (de : Addr) (el : Addr) (em : Addr) (x : Addr) (y : Addr) (mc : Int32) (d : Addr) (kd : ClassId) (e0 : Addr) (h0 : Heap) (v : Option Value) (vm : Vm) (h : Heap) : Prop := v = some (.int (1 : Int32)) ∧ Keep h0 h [x, d] ∧ Exa Z h x "java/util/ArrayList" ∧ Fld Z h x "java/util/AbstractList" "modCount" "I" (.int (mc + (1 : Int32))) ∧ Fld Z h x "java/util/ArrayList" "size" "I" (.int (2 : Int32)) ∧ Fld Z h x "java/util/ArrayList" "elementData" "[Ljava/lang/Object;" (.ref d) ∧ Arv Z h d kd (.object "java/lang/Object") (10 : Int32) [(.ref e0), (.ref y), .null, .null, .null, .null, .null, .null, .null, .null] .null ∧ Exa Z h d "[Ljava/lang/Object;"
theorem rmAdd1 (hcx : Cx Z a0 zc de kde em el ee kee mr) (x : Addr) (y : Addr) (mc : Int32) (d : Addr) (kd : ClassId) (e0 : Addr) (h0 : Heap) (O0 : Old Z Z.heap.size h0) (Pr0 : Exa Z h0 x "java/util/ArrayList") (Pr1 : Fld Z h0 x "java/util/AbstractList" "modCount" "I" (.int mc)) (Pr2 : Fld Z h0 x "java/util/ArrayList" "size" "I" (.int (1 : Int32))) (Pr3 : Fld Z h0 x "java/util/ArrayList" "elementData" "[Ljava/lang/Object;" (.ref d)) (Pr4 : Arv Z h0 d kd (.object "java/lang/Object") (10 : Int32) [(.ref e0), .null, .null, .null, .null, .null, .null, .null, .null, .null] .null) (Pr5 : Exa Z h0 d "[Ljava/lang/Object;") (Pr6 : Ovr Z kd "java/lang/Object") (Pr7 : Z.heap.size ≤ d) (Pr8 : x ≠ d) (Pr9 : Z.heap.size ≤ x) (Pr10 : Exa Z h0 y "java/lang/String") : Met l Z consts_1 (⟨"java/util/ArrayList", "add", "(Ljava/lang/Object;)Z"⟩ : MethodName) jdk_38_method_25_code 2 (some .boolean) [] RrmAdd1 [] #[(.ref x), (.ref y)] h0 (QrmAdd1 Z de el em x y mc d kd e0 h0) := by
  have ⟨hw, hEL, O2, P5, OD, AD, XM, OM, OL, XL, FL, AE, MR⟩ := hcx
  refine Met.start (a0 := a0) (Ls := #[vR x, vR y]) pn25 hEL O0 (fun m => by first | (simp [entryFrame, mkF, argsToLocals, Value.category]; done) | rfl) ?_
  intro p e s m below meth cc T0 vm0 X0 sf0_ hby hml hret hnm
  have hx := X0.hx
  have D : ∀ {n r}, decode jdk_38_method_25_code n = r → decode cc.code n = r := fun d => hb hby d
  have zz := X0.ge
  have A0 := X0.at
  have l1 := ltA Pr0.lt
  have l2 := ltA Pr4.lt
  have l3 := neA Pr8
  have l4 := ltA Pr10.lt
  refine Gets.via (fun _ k => (XS.aloadN A0 hx rfl (D d25_0) rfl rfl (XS.dup A0 hx rfl (D d25_1) rfl rfl k))) ?_
  refine X0.getF (host := "") (Or.inl (w159 hw)) (Via.of (w160 hw)) Pr1 rfl rfl (D d25_2) fun T5 X5 => ?_
  have A6 := X5.at
  refine Gets.via (fun _ k => (XS.iconst A6 hx rfl (D d25_5) (XS.iadd A6 hx rfl (D d25_6) rfl k))) ?_
  refine X5.putF (host := "") (Or.inl (w159 hw)) (Via.of (w160 hw)) Pr1 Pr0 (Or.inl (w78 hw)) (w59 hw) (ty := .int) (by decide) rfl rfl (leA (by omega)) (Safe.exa X5.hZ.alike Pr0 (by decide) (by decide)) rfl rfl (D d25_7) fun T7 h7 X7 C7 W7 F7 Z7 => ?_
  have z7 := W7.size
  show Gets p e below _ (T7.setTop (mkF m 10 #[vR x, vR y] []))
  have A8 := X7.at
  refine Gets.via (fun _ k => (XS.aloadN A8 hx rfl (D d25_10) rfl rfl (XS.aloadN A8 hx rfl (D d25_11) rfl rfl (XS.aloadN A8 hx rfl (D d25_12) rfl rfl k)))) ?_
  have f10 := Pr3.other W7 (Or.inr (slot_ne (t := (.array (.object "java/lang/Object"))) (t' := .int) (Or.inl (w81 hw)) (Or.inl (w78 hw)) (by decide) (by decide) (by decide)))
  refine X7.getF (host := "") (Or.inl (w80 hw)) Via.refl f10 rfl rfl (D d25_13) fun T9 X9 => ?_
  have A11 := X9.at
  refine Gets.via (fun _ k => (XS.aloadN A11 hx rfl (D d25_16) rfl rfl k)) ?_
  have f13 := Pr2.other W7 (Or.inr (slot_ne (t := .int) (t' := .int) (Or.inl (w121 hw)) (Or.inl (w78 hw)) (by decide) (by decide) (by decide)))
  refine X9.getF (host := "") (Or.inl (w120 hw)) Via.refl f13 rfl rfl (D d25_17) fun T12 X12 => ?_
  have f14 := Pr4.other W7 (neA (by omega))
  have f15 := Pr5.wr W7
  have f16 := Pr10.wr W7
  refine X12.callP (W := 0) (w161 hw) (w162 hw) (w164 hw) (w163 hw) (w165 hw) (by decide) (X12.payM (sf := []) (rmAddT1 hcx x y (mc + (1 : Int32)) d kd e0 h7 X12.old Z7 F7 f13 f10 f14 f15 Pr6 Pr7 Pr8 Pr9 f16) sf0 (w165 hw) (w60 hw) (by decide) (by decide)) Z7 rfl (sz hml rfl) (argsL := [(.ref y), (.ref d), (.int (1 : Int32))]) (rest := []) (lenOf pd19 rfl) rfl rfl (mroom rfl rfl) (D d25_20) (by decide) (by decide) fun T17 h17 vm17 v17 X17 C17 z17 q17 => ?_
  obtain ⟨rfl, K17, g17_0, g17_1, g17_2, g17_3, g17_4, g17_5⟩ := q17
  have l18 := ltA g17_0.lt
  have l19 := ltA g17_4.lt
  show Gets p e below _ (T17.setTop (mkF m 23 #[vR x, vR y] []))
  have A20 := X17.at
  refine Gets.via (fun _ k => (XS.iconst A20 hx rfl (D d25_23) k)) ?_
  exact X17.retI hret (by decide) (by simp) (D d25_24) (by decide) (by decide) (fun vmE CE => ⟨rfl, (((Keep.refl h0 [x, d]).wr W7 (Or.inl (List.mem_of_getElem? (i := 0) rfl))).trans K17 (allS (Or.inl (List.mem_of_getElem? (i := 0) rfl)) (allS (Or.inl (List.mem_of_getElem? (i := 1) rfl)) all0))), g17_0, g17_1, g17_2, g17_3, g17_4, g17_5⟩)
abbrev RrmAlEmpty2 : Room := { frames := 0, cells := 0, slots := 0, locals := 0 }
def QrmAlEmpty2 (Z : State) (de : Addr) (el : Addr) (em : Addr) (x : Addr) (h0 : Heap) (v : Option Value) (vm : Vm) (h : Heap) : Prop := v = some (.int (0 : Int32)) ∧ h = h0
theorem rmAlEmpty2 (hcx : Cx Z a0 zc de kde em el ee kee mr) (x : Addr) (h0 : Heap) (O0 : Old Z Z.heap.size h0) (Pr0 : Fld Z h0 x "java/util/ArrayList" "size" "I" (.int (2 : Int32))) : Met l Z consts_1 (⟨"java/util/ArrayList", "isEmpty", "()Z"⟩ : MethodName) jdk_38_method_9_code 1 (some .boolean) [] RrmAlEmpty2 [] #[(.ref x)] h0 (QrmAlEmpty2 Z de el em x h0) := by
  have ⟨hw, hEL, O2, P5, OD, AD, XM, OM, OL, XL, FL, AE, MR⟩ := hcx
  refine Met.start (a0 := a0) (Ls := #[vR x]) pn20 hEL O0 (fun m => by first | (simp [entryFrame, mkF, argsToLocals, Value.category]; done) | rfl) ?_
  intro p e s m below meth cc T0 vm0 X0 sf0_ hby hml hret hnm
  have hx := X0.hx
  have D : ∀ {n r}, decode jdk_38_method_9_code n = r → decode cc.code n = r := fun d => hb hby d
  have zz := X0.ge
  have A0 := X0.at
  have l1 := ltA Pr0.lt
  refine Gets.via (fun _ k => (XS.aloadN A0 hx rfl (D d20_0) rfl rfl k)) ?_
  refine X0.getF (host := "") (Or.inl (w120 hw)) Via.refl Pr0 rfl rfl (D d20_1) fun T2 X2 => ?_
  have A3 := X2.at
  refine Gets.via (fun _ k => (XS.ifYes A3 hx rfl (pc0 := 4) (pc' := 11) rfl (D d20_4) rfl (Jvm.Free.XT.i0_ne_t (by decide)) (by decide) (by decide) k)) ?_
  refine Gets.via (fun _ k => (XS.iconst A3 hx rfl (D d20_11) k)) ?_
  exact X2.retI hret (by decide) (by simp) (D d20_12) (by decide) (by decide) (fun vmE CE => ⟨rfl, rfl⟩)
abbrev Rrmmin_10_2 : Room := { frames := 0, cells := 0, slots := 0, locals := 0 }
def Qrmmin_10_2 (Z : State) (de : Addr) (el : Addr) (em : Addr) (h0 : Heap) (v : Option Value) (vm : Vm) (h : Heap) : Prop := v = some (.int (2 : Int32)) ∧ h = h0
theorem rmmin_10_2 (hcx : Cx Z a0 zc de kde em el ee kee mr)  (h0 : Heap) (O0 : Old Z Z.heap.size h0)  : Met l Z consts_1 (⟨"java/lang/Math", "min", "(II)I"⟩ : MethodName) jdk_29_method_69_code 2 (some .int) [] Rrmmin_10_2 [] #[(.int (10 : Int32)), (.int (2 : Int32))] h0 (Qrmmin_10_2 Z de el em h0) := by
  have ⟨hw, hEL, O2, P5, OD, AD, XM, OM, OL, XL, FL, AE, MR⟩ := hcx
  refine Met.start (a0 := a0) (Ls := #[vI (10 : Int32), vI (2 : Int32)]) pn33 hEL O0 (fun m => by first | (simp [entryFrame, mkF, argsToLocals, Value.category]; done) | rfl) ?_
  intro p e s m below meth cc T0 vm0 X0 sf0_ hby hml hret hnm
  have hx := X0.hx
  have D : ∀ {n r}, decode jdk_29_method_69_code n = r → decode cc.code n = r := fun d => hb hby d
  have zz := X0.ge
  have A0 := X0.at
  refine Gets.via (fun _ k => (XS.iloadN A0 hx rfl (D d33_0) rfl (XS.iloadN A0 hx rfl (D d33_1) rfl (XS.icmpYes A0 hx rfl (pc0 := 2) (pc' := 9) rfl (D d33_2) rfl (Jvm.Free.XT.ii_gt_t (by decide)) (by decide) (by decide) k)))) ?_
  refine Gets.via (fun _ k => (XS.iloadN A0 hx rfl (D d33_9) rfl k)) ?_
  exact X0.retI hret rfl (by simp) (D d33_10) (by decide) (by decide) (fun vmE CE => ⟨rfl, rfl⟩)
abbrev RrmCoT2 : Room := { frames := 1, cells := 1, slots := 2, locals := 22 }
def QrmCoT2 (Z : State) (de : Addr) (el : Addr) (em : Addr) (d : Addr) (kd : ClassId) (e0 : Addr) (e1 : Addr) (h0 : Heap) (v : Option Value) (vm : Vm) (h : Heap) : Prop := ∃ (r : Addr) (kr : ClassId), v = some (.ref r) ∧ Keep h0 h [] ∧ Arv Z h r kr (.object "java/lang/Object") (2 : Int32) [(.ref e0), (.ref e1)] .null ∧ Exa Z h r "[Ljava/lang/Object;" ∧ Ovr Z kr "java/lang/Object" ∧ h0.size ≤ r
theorem rmCoT2 (hcx : Cx Z a0 zc de kde em el ee kee mr) (d : Addr) (kd : ClassId) (e0 : Addr) (e1 : Addr) (h0 : Heap) (O0 : Old Z Z.heap.size h0) (Pr0 : Arv Z h0 d kd (.object "java/lang/Object") (10 : Int32) [(.ref e0), (.ref e1), .null, .null, .null, .null, .null, .null, .null, .null] .null) (Pr1 : Exa Z h0 d "[Ljava/lang/Object;") (Pr2 : Exa Z h0 e0 "java/lang/String") (Pr3 : Exa Z h0 e1 "java/lang/String") : Met l Z consts_1 (⟨"java/util/Arrays", "copyOf", "([Ljava/lang/Object;ILjava/lang/Class;)[Ljava/lang/Object;"⟩ : MethodName) jdk_65_method_120_code 4 (some (.array (.object "java/lang/Object"))) [] RrmCoT2 [] #[(.ref d), (.int (2 : Int32)), (.ref mr)] h0 (QrmCoT2 Z de el em d kd e0 e1 h0) := by
  have ⟨hw, hEL, O2, P5, OD, AD, XM, OM, OL, XL, FL, AE, MR⟩ := hcx
  refine Met.start (a0 := a0) (Ls := #[vR d, vI (2 : Int32), vR mr, .unset]) pn32 hEL O0 (fun m => by first | (simp [entryFrame, mkF, argsToLocals, Value.category]; done) | rfl) ?_
  intro p e s m below meth cc T0 vm0 X0 sf0_ hby hml hret hnm
  have hx := X0.hx
  have D : ∀ {n r}, decode jdk_65_method_120_code n = r → decode cc.code n = r := fun d => hb hby d
  have zz := X0.ge
  have A0 := X0.at
  have l1 := ltA Pr0.lt
  have l2 := ltA Pr2.lt
  have l3 := ltA Pr3.lt
  refine Gets.via (fun _ k => (XS.aloadN A0 hx rfl (D d32_0) rfl rfl k)) ?_
  refine X0.ldcM (w204 hw) MR rfl (D d32_1) fun T4 X4 => ?_
  refine X4.acmpW hx rfl rfl rfl (pc0 := 3) (pc' := 6) (same := true) rfl (D d32_3) rfl (by simp) (by decide) (by decide) ?_
  have A5 := X4.at
  refine Gets.via (fun _ k => (XS.iloadN A5 hx rfl (D d32_6) rfl k)) ?_
  refine X4.newR (ad := "[Ljava/lang/Object;") (w205 hw) (w181 hw) rfl (D d32_7) rfl (by decide) (cap := 2) (by decide) (by decide) (by decide) (by decide) (by decide) fun T6 h6 a6 k6 X6 C6 E6 g6 Z6 Ov6 V6 => ?_
  have z6 := E6.1
  have l6 := ltA V6.lt
  have V6_ : Arv Z h6 a6 k6 (.object "java/lang/Object") (2 : Int32) [.null, .null] .null := padN V6 2
  show Gets p e below _ (T6.setTop (mkF m 10 #[vR d, vI (2 : Int32), vR mr, .unset] [(.ref a6)]))
  have A7 := X6.at
  refine Gets.via (fun _ k => (XS.goto A7 hx rfl (pc0 := 10) (pc' := 24) rfl (D d32_10) (by decide) (by decide) k)) ?_
  refine Gets.via (fun _ k => (XS.astoreN A7 hx rfl (D d32_24) rfl rfl (l' := #[vR d, vI (2 : Int32), vR mr, vR a6]) rfl (XS.aloadN A7 hx rfl (D d32_25) rfl rfl (XS.iconst A7 hx rfl (D d32_26) (XS.aloadN A7 hx rfl (D d32_27) rfl rfl (XS.iconst A7 hx rfl (D d32_28) (XS.aloadN A7 hx rfl (D d32_29) rfl rfl k))))))) ?_
  have f8 := Pr0.ext E6
  refine X6.alen f8 rfl rfl (D d32_30) ?_
  refine Gets.via (fun _ k => (XS.iloadN A7 hx rfl (D d32_31) rfl k)) ?_
  refine X6.callS (W := 4) (w206 hw) (w207 hw) (w178 hw) (w208 hw) (by decide) (X6.payM (sf := []) (rmmin_10_2 hcx  h6 X6.old ) sf0 (w208 hw) (w178 hw) (by decide) (by decide)) rfl (sz hml rfl) (argsL := [(.int (10 : Int32)), (.int (2 : Int32))]) (rest := [(.int (0 : Int32)), (.ref a6), (.int (0 : Int32)), (.ref d)]) (lenOf pd16 rfl) rfl rfl (mroom rfl rfl) (D d32_32) (by decide) (by decide) fun T9 h9 vm9 v9 X9 C9 z9 q9 => ?_
  obtain ⟨rfl, K9⟩ := q9
  rw [K9] at X9 C9
  show Gets p e below _ (T9.setTop (mkF m 35 #[vR d, vI (2 : Int32), vR mr, vR a6] [(.int (2 : Int32)), (.int (0 : Int32)), (.ref a6), (.int (0 : Int32)), (.ref d)]))
  have f11 := Pr3.ext E6
  have f12 := Pr2.ext E6
  refine X9.copy (w209 hw) (w212 hw) (w210 hw) (w211 hw) (us := [(.ref e0), (.ref e1)]) f8 V6_ (Or.inr ⟨rfl, rfl, ⟨(stoV V6_ Ov6 (Ins.of_exa f12 (w182 hw))), ⟨(stoV V6_ Ov6 (Ins.of_exa f11 (w182 hw))), trivial⟩⟩⟩) (by decide) (by decide) (by decide) (by decide) (by decide) rfl (Nat.le_of_ble_eq_true rfl) (leA (by omega)) (Safe.exa X9.hZ.alike Z6 (by decide) (by decide)) rfl (sz hml rfl) rfl (D d32_35) (by decide) (W := 0) (mroom rfl rfl) (by decide) fun T10 h10 X10 C10 K10 V10 => ?_
  have z10 := K10.1
  have V10_ : Arv Z h10 a6 k6 (.object "java/lang/Object") (2 : Int32) [(.ref e0), (.ref e1)] .null := V10
  have A13 := X10.at
  refine Gets.via (fun _ k => (XS.aloadN A13 hx rfl (D d32_38) rfl rfl k)) ?_
  have f14 := Z6.keep K10
  exact X10.retA hret rfl rfl rfl (D d32_39) (by decide) (by decide) (fun vmE CE => ⟨a6, k6, rfl, (((Keep.refl h0 []).ext E6).trans K10 (allS (Or.inr (leA (by omega))) all0)), V10_, f14, Ov6, (leA (by omega))⟩)
abbrev RrmCo2 : Room := { frames := 2, cells := 1, slots := 2, locals := 37 }
def QrmCo2 (Z : State) (de : Addr) (el : Addr) (em : Addr) (d : Addr) (kd : ClassId) (e0 : Addr) (e1 : Addr) (h0 : Heap) (v : Option Value) (vm : Vm) (h : Heap) : Prop := ∃ (r : Addr) (kr : ClassId), v = some (.ref r) ∧ Keep h0 h [] ∧ Arv Z h r kr (.object "java/lang/Object") (2 : Int32) [(.ref e0), (.ref e1)] .null ∧ Exa Z h r "[Ljava/lang/Object;" ∧ Ovr Z kr "java/lang/Object" ∧ h0.size ≤ r
theorem rmCo2 (hcx : Cx Z a0 zc de kde em el ee kee mr) (d : Addr) (kd : ClassId) (e0 : Addr) (e1 : Addr) (h0 : Heap) (O0 : Old Z Z.heap.size h0) (Pr0 : Arv Z h0 d kd (.object "java/lang/Object") (10 : Int32) [(.ref e0), (.ref e1), .null, .null, .null, .null, .null, .null, .null, .null] .null) (Pr1 : Exa Z h0 d "[Ljava/lang/Object;") (Pr2 : Exa Z h0 e0 "java/lang/String") (Pr3 : Exa Z h0 e1 "java/lang/String") : Met l Z consts_1 (⟨"java/util/Arrays", "copyOf", "([Ljava/lang/Object;I)[Ljava/lang/Object;"⟩ : MethodName) jdk_65_method_119_code 2 (some (.array (.object "java/lang/Object"))) [] RrmCo2 [] #[(.ref d), (.int (2 : Int32))] h0 (QrmCo2 Z de el em d kd e0 e1 h0) := by
  have ⟨hw, hEL, O2, P5, OD, AD, XM, OM, OL, XL, FL, AE, MR⟩ := hcx
  refine Met.start (a0 := a0) (Ls := #[vR d, vI (2 : Int32)]) pn31 hEL O0 (fun m => by first | (simp [entryFrame, mkF, argsToLocals, Value.category]; done) | rfl) ?_
  intro p e s m below meth cc T0 vm0 X0 sf0_ hby hml hret hnm
  have hx := X0.hx
  have D : ∀ {n r}, decode jdk_65_method_119_code n = r → decode cc.code n = r := fun d => hb hby d
  have zz := X0.ge
  have A0 := X0.at
  have l1 := ltA Pr0.lt
  have l2 := ltA Pr2.lt
  have l3 := ltA Pr3.lt
  refine Gets.via (fun _ k => (XS.aloadN A0 hx rfl (D d31_0) rfl rfl (XS.iloadN A0 hx rfl (D d31_1) rfl (XS.aloadN A0 hx rfl (D d31_2) rfl rfl k)))) ?_
  refine X0.getC (w195 hw) (w196 hw) (w109 hw) (w198 hw) (w197 hw) (w199 hw) Pr1 MR rfl (sz hml rfl) rfl (D d31_3) (by decide) (W := 2) (mroom rfl rfl) (by decide) fun T4 X4 => ?_
  refine X4.callS (W := 0) (w201 hw) (w202 hw) (w193 hw) (w203 hw) (by decide) (X4.payM (sf := []) (rmCoT2 hcx d kd e0 e1 h0 X4.old Pr0 Pr1 Pr2 Pr3) sf0 (w203 hw) (w193 hw) (by decide) (by decide)) rfl (sz hml rfl) (argsL := [(.ref d), (.int (2 : Int32)), (.ref mr)]) (rest := []) (lenOf pd21 rfl) rfl rfl (mroom rfl rfl) (D d31_6) (by decide) (by decide) fun T5 h5 vm5 v5 X5 C5 z5 q5 => ?_
  obtain ⟨r5, kr5, rfl, K5, g5_0, g5_1, g5_2, g5_3⟩ := q5
  have l6 := ltA g5_0.lt
  show Gets p e below _ (T5.setTop (mkF m 9 #[vR d, vI (2 : Int32)] [(.ref r5)]))
  exact X5.retA hret rfl rfl rfl (D d31_9) (by decide) (by decide) (fun vmE CE => ⟨r5, kr5, rfl, ((Keep.refl h0 []).trans K5 all0), g5_0, g5_1, g5_2, g5_3⟩)
abbrev RrmToA2 : Room := { frames := 3, cells := 1, slots := 2, locals := 50 }
def QrmToA2 (Z : State) (de : Addr) (el : Addr) (em : Addr) (x : Addr) (d : Addr) (kd : ClassId) (e0 : Addr) (e1 : Addr) (h0 : Heap) (v : Option Value) (vm : Vm) (h : Heap) : Prop := ∃ (r : Addr) (kr : ClassId), v = some (.ref r) ∧ Keep h0 h [] ∧ Arv Z h r kr (.object "java/lang/Object") (2 : Int32) [(.ref e0), (.ref e1)] .null ∧ Exa Z h r "[Ljava/lang/Object;" ∧ Ovr Z kr "java/lang/Object" ∧ h0.size ≤ r
theorem rmToA2 (hcx : Cx Z a0 zc de kde em el ee kee mr) (x : Addr) (d : Addr) (kd : ClassId) (e0 : Addr) (e1 : Addr) (h0 : Heap) (O0 : Old Z Z.heap.size h0) (Pr0 : Fld Z h0 x "java/util/ArrayList" "size" "I" (.int (2 : Int32))) (Pr1 : Fld Z h0 x "java/util/ArrayList" "elementData" "[Ljava/lang/Object;" (.ref d)) (Pr2 : Arv Z h0 d kd (.object "java/lang/Object") (10 : Int32) [(.ref e0), (.ref e1), .null, .null, .null, .null, .null, .null, .null, .null] .null) (Pr3 : Exa Z h0 d "[Ljava/lang/Object;") (Pr4 : Exa Z h0 e0 "java/lang/String") (Pr5 : Exa Z h0 e1 "java/lang/String") : Met l Z consts_1 (⟨"java/util/ArrayList", "toArray", "()[Ljava/lang/Object;"⟩ : MethodName) jdk_38_method_16_code 1 (some (.array (.object "java/lang/Object"))) [] RrmToA2 [] #[(.ref x)] h0 (QrmToA2 Z de el em x d kd e0 e1 h0) := by
  have ⟨hw, hEL, O2, P5, OD, AD, XM, OM, OL, XL, FL, AE, MR⟩ := hcx
  refine Met.start (a0 := a0) (Ls := #[vR x]) pn30 hEL O0 (fun m => by first | (simp [entryFrame, mkF, argsToLocals, Value.category]; done) | rfl) ?_
  intro p e s m below meth cc T0 vm0 X0 sf0_ hby hml hret hnm
  have hx := X0.hx
  have D : ∀ {n r}, decode jdk_38_method_16_code n = r → decode cc.code n = r := fun d => hb hby d
  have zz := X0.ge
  have A0 := X0.at
  have l1 := ltA Pr0.lt
  have l2 := ltA Pr2.lt
  have l3 := ltA Pr4.lt
  have l4 := ltA Pr5.lt
  refine Gets.via (fun _ k => (XS.aloadN A0 hx rfl (D d30_0) rfl rfl k)) ?_
  refine X0.getF (host := "") (Or.inl (w80 hw)) Via.refl Pr1 rfl rfl (D d30_1) fun T5 X5 => ?_
  have A6 := X5.at
  refine Gets.via (fun _ k => (XS.aloadN A6 hx rfl (D d30_4) rfl rfl k)) ?_
  refine X5.getF (host := "") (Or.inl (w120 hw)) Via.refl Pr0 rfl rfl (D d30_5) fun T7 X7 => ?_
  refine X7.callS (W := 0) (w191 hw) (w192 hw) (w193 hw) (w194 hw) (by decide) (X7.payM (sf := []) (rmCo2 hcx d kd e0 e1 h0 X7.old Pr2 Pr3 Pr4 Pr5) sf0 (w194 hw) (w193 hw) (by decide) (by decide)) rfl (sz hml rfl) (argsL := [(.ref d), (.int (2 : Int32))]) (rest := []) (lenOf pd22 rfl) rfl rfl (mroom rfl rfl) (D d30_8) (by decide) (by decide) fun T8 h8 vm8 v8 X8 C8 z8 q8 => ?_
  obtain ⟨r8, kr8, rfl, K8, g8_0, g8_1, g8_2, g8_3⟩ := q8
  have l9 := ltA g8_0.lt
  show Gets p e below _ (T8.setTop (mkF m 11 #[vR x] [(.ref r8)]))
  exact X8.retA hret rfl rfl rfl (D d30_11) (by decide) (by decide) (fun vmE CE => ⟨r8, kr8, rfl, ((Keep.refl h0 []).trans K8 all0), g8_0, g8_1, g8_2, g8_3⟩)
abbrev RrmOf2 : Room := { frames := 5, cells := 1, slots := 2, locals := 63 }
def QrmOf2 (Z : State) (de : Addr) (el : Addr) (em : Addr) (r : Addr) (kr : ClassId) (e0 : Addr) (e1 : Addr) (h0 : Heap) (v : Option Value) (vm : Vm) (h : Heap) : Prop := ∃ (a : Addr), v = some (.ref a) ∧ Keep h0 h [] ∧ Exa Z h a "java/util/ImmutableCollections$List12" ∧ Fld Z h a "java/util/ImmutableCollections$List12" "e0" "Ljava/lang/Object;" (.ref e0) ∧ Fld Z h a "java/util/ImmutableCollections$List12" "e1" "Ljava/lang/Object;" (.ref e1) ∧ h0.size ≤ a
theorem rmOf2 (hcx : Cx Z a0 zc de kde em el ee kee mr) (r : Addr) (kr : ClassId) (e0 : Addr) (e1 : Addr) (h0 : Heap) (O0 : Old Z Z.heap.size h0) (Pr0 : Arv Z h0 r kr (.object "java/lang/Object") (2 : Int32) [(.ref e0), (.ref e1)] .null) (Pr1 : Exa Z h0 e0 "java/lang/String") (Pr2 : Exa Z h0 e1 "java/lang/String") : Met l Z consts_1 (⟨"java/util/List", "of", "([Ljava/lang/Object;)Ljava/util/List;"⟩ : MethodName) jdk_40_method_47_code 2 (some (.object "java/util/List")) [] RrmOf2 [] #[(.ref r)] h0 (QrmOf2 Z de el em r kr e0 e1 h0) := by
  have ⟨hw, hEL, O2, P5, OD, AD, XM, OM, OL, XL, FL, AE, MR⟩ := hcx
  refine Met.start (a0 := a0) (Ls := #[vR r, .unset]) pn34 hEL O0 (fun m => by first | (simp [entryFrame, mkF, argsToLocals, Value.category]; done) | rfl) ?_
  intro p e s m below meth cc T0 vm0 X0 sf0_ hby hml hret hnm
  have hx := X0.hx
  have D : ∀ {n r}, decode jdk_40_method_47_code n = r → decode cc.code n = r := fun d => hb hby d
  have zz := X0.ge
  have A0 := X0.at
  have l1 := ltA Pr0.lt
  have l2 := ltA Pr1.lt
  have l3 := ltA Pr2.lt
  refine Gets.via (fun _ k => (XS.aloadN A0 hx rfl (D d34_0) rfl rfl k)) ?_
  refine X0.alen Pr0 rfl rfl (D d34_1) ?_
  refine Gets.via (fun _ k => (XS.tswIn A0 hx rfl (pc0 := 2) (pc' := 45) rfl (D d34_2) rfl (by decide) (o := 43) rfl (by decide) (by decide) k)) ?_
  refine X0.new (w246 hw) (w247 hw) (w248 hw) rfl (D d34_45) (by decide) (by decide) fun T4 h4 a4 X4 C4 E4 g4 Z4 S4 D4 => ?_
  have z4 := E4.1
  have l4 := ltA Z4.lt
  have A5 := X4.at
  refine Gets.via (fun _ k => (XS.dup A5 hx rfl (D d34_48) rfl rfl (XS.aloadN A5 hx rfl (D d34_49) rfl rfl (XS.iconst A5 hx rfl (D d34_50) k)))) ?_
  show Gets p e below _ (T4.setTop (mkF m 51 #[vR r, .unset] [(.int (0 : Int32)), (.ref r), (.ref a4), (.ref a4)]))
  have f6 := Pr0.ext E4
  refine X4.ldR f6 rfl (i := 0) (by decide) (by decide) (by decide) rfl rfl rfl (D d34_51) ?_
  refine Gets.via (fun _ k => (XS.aloadN A5 hx rfl (D d34_52) rfl rfl (XS.iconst A5 hx rfl (D d34_53) k))) ?_
  refine X4.ldR f6 rfl (i := 1) (by decide) (by decide) (by decide) rfl rfl rfl (D d34_54) ?_
  refine X4.callI (y := (⟨"java/util/ImmutableCollections$List12", "<init>", "(Ljava/lang/Object;Ljava/lang/Object;)V"⟩ : MethodName)) (W := 1) rfl (w249 hw) (w250 hw) (w252 hw) (by decide) (X4.payM (sf := []) (rm40 hcx a4 e0 e1 h4 X4.old Z4 (D4 (Or.inr (w259 hw)) (ty := (.object "java/lang/Object")) (by decide) : Fld Z h4 a4 "java/util/ImmutableCollections$List12" "e0" "Ljava/lang/Object;" .null) (D4 (Or.inr (w261 hw)) (ty := (.object "java/lang/Object")) (by decide) : Fld Z h4 a4 "java/util/ImmutableCollections$List12" "e1" "Ljava/lang/Object;" .null) (leA (by omega))) sf0 (w252 hw) (w248 hw) (by decide) (by decide)) rfl (sz hml rfl) (a := a4) (argsL := [(.ref e0), (.ref e1)]) (rest := [(.ref a4)]) (lenOf pd25 rfl) rfl rfl (mroom rfl rfl) (D d34_55) (by decide) (by decide) fun T7 h7 vm7 v7 X7 C7 z7 q7 => ?_
  obtain ⟨rfl, K7, g7_0, g7_1, g7_2⟩ := q7
  have l8 := ltA g7_0.lt
  exact X7.retA hret rfl rfl rfl (D d34_58) (by decide) (by decide) (fun vmE CE => ⟨a4, rfl, (((Keep.refl h0 []).ext E4).trans K7 (allS (Or.inr (leA (by omega))) all0)), g7_0, g7_1, g7_2, (leA (by omega))⟩)
abbrev RrmLc2 : Room := { frames := 6, cells := 2, slots := 4, locals := 76 }
def QrmLc2 (Z : State) (de : Addr) (el : Addr) (em : Addr) (x : Addr) (d : Addr) (kd : ClassId) (e0 : Addr) (e1 : Addr) (h0 : Heap) (v : Option Value) (vm : Vm) (h : Heap) : Prop := ∃ (a : Addr), v = some (.ref a) ∧ Keep h0 h [] ∧ Exa Z h a "java/util/ImmutableCollections$List12" ∧ Fld Z h a "java/util/ImmutableCollections$List12" "e0" "Ljava/lang/Object;" (.ref e0) ∧ Fld Z h a "java/util/ImmutableCollections$List12" "e1" "Ljava/lang/Object;" (.ref e1) ∧ h0.size ≤ a
theorem rmLc2 (hcx : Cx Z a0 zc de kde em el ee kee mr) (x : Addr) (d : Addr) (kd : ClassId) (e0 : Addr) (e1 : Addr) (h0 : Heap) (O0 : Old Z Z.heap.size h0) (Pr0 : Exa Z h0 x "java/util/ArrayList") (Pr1 : Fld Z h0 x "java/util/ArrayList" "size" "I" (.int (2 : Int32))) (Pr2 : Fld Z h0 x "java/util/ArrayList" "elementData" "[Ljava/lang/Object;" (.ref d)) (Pr3 : Arv Z h0 d kd (.object "java/lang/Object") (10 : Int32) [(.ref e0), (.ref e1), .null, .null, .null, .null, .null, .null, .null, .null] .null) (Pr4 : Exa Z h0 d "[Ljava/lang/Object;") (Pr5 : Exa Z h0 e0 "java/lang/String") (Pr6 : Exa Z h0 e1 "java/lang/String") : Met l Z consts_1 (⟨"java/util/ImmutableCollections", "listCopy", "(Ljava/util/Collection;)Ljava/util/List;"⟩ : MethodName) jdk_56_method_3_code 2 (some (.object "java/util/List")) [] RrmLc2 [] #[(.ref x)] h0 (QrmLc2 Z de el em x d kd e0 e1 h0) := by
  have ⟨hw, hEL, O2, P5, OD, AD, XM, OM, OL, XL, FL, AE, MR⟩ := hcx
  refine Met.start (a0 := a0) (Ls := #[vR x, .unset]) pn19 hEL O0 (fun m => by first | (simp [entryFrame, mkF, argsToLocals, Value.category]; done) | rfl) ?_
  intro p e s m below meth cc T0 vm0 X0 sf0_ hby hml hret hnm
  have hx := X0.hx
  have D : ∀ {n r}, decode jdk_56_method_3_code n = r → decode cc.code n = r := fun d => hb hby d
  have zz := X0.ge
  have A0 := X0.at
  have l1 := ltA Pr0.lt
  have l2 := ltA Pr3.lt
  have l3 := ltA Pr5.lt
  have l4 := ltA Pr6.lt
  refine Gets.via (fun _ k => (XS.aloadN A0 hx rfl (D d19_0) rfl rfl k)) ?_
  refine X0.instNo (w105 hw) Pr0 (ns_no (w106 hw) (plainS (w262 hw) rfl) (NS.step (w106 hw) (NS.step (w107 hw) (NS.step (w108 hw) (ns_root (w109 hw) (plainS (w262 hw) rfl) (by decide)) (by decide)) (by decide)) (by decide)) (by decide)) rfl rfl (D d19_1) fun T5 X5 => ?_
  have A6 := X5.at
  refine Gets.via (fun _ k => (XS.ifNo A6 hx rfl (D d19_4) rfl (Jvm.Free.XT.i0_ne_f (by decide)) k)) ?_
  refine Gets.via (fun _ k => (XS.aloadN A6 hx rfl (D d19_7) rfl rfl k)) ?_
  refine X5.instNo (w110 hw) Pr0 (ns_no (w106 hw) (plainS (w144 hw) rfl) (NS.step (w106 hw) (NS.step (w107 hw) (NS.step (w108 hw) (ns_root (w109 hw) (plainS (w144 hw) rfl) (by decide)) (by decide)) (by decide)) (by decide)) (by decide)) rfl rfl (D d19_8) fun T7 X7 => ?_
  show Gets p e below _ (T7.setTop (mkF m 11 #[vR x, .unset] [(.int (0 : Int32))]))
  have A8 := X7.at
  refine Gets.via (fun _ k => (XS.ifYes A8 hx rfl (pc0 := 11) (pc' := 31) rfl (D d19_11) rfl (Jvm.Free.XT.i0_eq_t (by decide)) (by decide) (by decide) k)) ?_
  refine Gets.via (fun _ k => (XS.aloadN A8 hx rfl (D d19_31) rfl rfl k)) ?_
  refine X7.callF (W := 0) (w111 hw) (w112 hw) (w113 hw) rfl (w114 hw) (w115 hw) (w116 hw) (w117 hw) (w118 hw) (by decide) (X7.payM (sf := []) (rmAlEmpty2 hcx x h0 X7.old Pr1) sf0 (w119 hw) (w60 hw) (by decide) (by decide)) Pr0 rfl (sz hml rfl) (argsL := []) (rest := []) (lenOf pd10 rfl) rfl rfl (mroom rfl rfl) (D d19_32) (by decide) (by decide) fun T9 h9 vm9 v9 X9 C9 z9 q9 => ?_
  obtain ⟨rfl, K9⟩ := q9
  rw [K9] at X9 C9
  have A10 := X9.at
  refine Gets.via (fun _ k => (XS.ifYes A10 hx rfl (pc0 := 37) (pc' := 44) rfl (D d19_37) rfl (Jvm.Free.XT.i0_eq_t (by decide)) (by decide) (by decide) k)) ?_
  refine Gets.via (fun _ k => (XS.aloadN A10 hx rfl (D d19_44) rfl rfl k)) ?_
  refine X9.callF (W := 0) (w183 hw) (w184 hw) (w185 hw) rfl (w186 hw) (w187 hw) (w188 hw) (w189 hw) (w118 hw) (by decide) (X9.payM (sf := []) (rmToA2 hcx x d kd e0 e1 h0 X9.old Pr1 Pr2 Pr3 Pr4 Pr5 Pr6) sf0 (w190 hw) (w60 hw) (by decide) (by decide)) Pr0 rfl (sz hml rfl) (argsL := []) (rest := []) (lenOf pd18 rfl) rfl rfl (mroom rfl rfl) (D d19_45) (by decide) (by decide) fun T11 h11 vm11 v11 X11 C11 z11 q11 => ?_
  obtain ⟨r11, kr11, rfl, K11, g11_0, g11_1, g11_2, g11_3⟩ := q11
  have l12 := ltA g11_0.lt
  have f13 := Pr5.keep K11
  have f14 := Pr6.keep K11
  refine X11.callS (W := 0) (w213 hw) (w214 hw) (w99 hw) (w215 hw) (by decide) (X11.payM (sf := []) (rmOf2 hcx r11 kr11 e0 e1 h11 X11.old g11_0 f13 f14) sf0 (w215 hw) (w99 hw) (by decide) (by decide)) rfl (sz hml rfl) (argsL := [(.ref r11)]) (rest := []) (lenOf pd24 rfl) rfl rfl (mroom rfl rfl) (D d19_50) (by decide) (by decide) fun T15 h15 vm15 v15 X15 C15 z15 q15 => ?_
  obtain ⟨a15, rfl, K15, g15_0, g15_1, g15_2, g15_3⟩ := q15
  have l16 := ltA g15_0.lt
  show Gets p e below _ (T15.setTop (mkF m 53 #[vR x, .unset] [(.ref a15)]))
  exact X15.retA hret rfl rfl rfl (D d19_53) (by decide) (by decide) (fun vmE CE => ⟨a15, rfl, (((Keep.refl h0 []).trans K11 all0).trans K15 all0), g15_0, g15_1, g15_2, (leA (by omega))⟩)
abbrev RrmCoL2 : Room := { frames := 7, cells := 2, slots := 4, locals := 89 }
def QrmCoL2 (Z : State) (de : Addr) (el : Addr) (em : Addr) (x : Addr) (d : Addr) (kd : ClassId) (e0 : Addr) (e1 : Addr) (h0 : Heap) (v : Option Value) (vm : Vm) (h : Heap) : Prop := ∃ (a : Addr), v = some (.ref a) ∧ Keep h0 h [] ∧ Exa Z h a "java/util/ImmutableCollections$List12" ∧ Fld Z h a "java/util/ImmutableCollections$List12" "e0" "Ljava/lang/Object;" (.ref e0) ∧ Fld Z h a "java/util/ImmutableCollections$List12" "e1" "Ljava/lang/Object;" (.ref e1) ∧ h0.size ≤ a
theorem rmCoL2 (hcx : Cx Z a0 zc de kde em el ee kee mr) (x : Addr) (d : Addr) (kd : ClassId) (e0 : Addr) (e1 : Addr) (h0 : Heap) (O0 : Old Z Z.heap.size h0) (Pr0 : Exa Z h0 x "java/util/ArrayList") (Pr1 : Fld Z h0 x "java/util/ArrayList" "size" "I" (.int (2 : Int32))) (Pr2 : Fld Z h0 x "java/util/ArrayList" "elementData" "[Ljava/lang/Object;" (.ref d)) (Pr3 : Arv Z h0 d kd (.object "java/lang/Object") (10 : Int32) [(.ref e0), (.ref e1), .null, .null, .null, .null, .null, .null, .null, .null] .null) (Pr4 : Exa Z h0 d "[Ljava/lang/Object;") (Pr5 : Exa Z h0 e0 "java/lang/String") (Pr6 : Exa Z h0 e1 "java/lang/String") : Met l Z consts_1 (⟨"java/util/List", "copyOf", "(Ljava/util/Collection;)Ljava/util/List;"⟩ : MethodName) jdk_40_method_48_code 1 (some (.object "java/util/List")) [] RrmCoL2 [] #[(.ref x)] h0 (QrmCoL2 Z de el em x d kd e0 e1 h0) := by
  have ⟨hw, hEL, O2, P5, OD, AD, XM, OM, OL, XL, FL, AE, MR⟩ := hcx
  refine Met.start (a0 := a0) (Ls := #[vR x]) pn18 hEL O0 (fun m => by first | (simp [entryFrame, mkF, argsToLocals, Value.category]; done) | rfl) ?_
  intro p e s m below meth cc T0 vm0 X0 sf0_ hby hml hret hnm
  have hx := X0.hx
  have D : ∀ {n r}, decode jdk_40_method_48_code n = r → decode cc.code n = r := fun d => hb hby d
  have zz := X0.ge
  have A0 := X0.at
  have l1 := ltA Pr0.lt
  have l2 := ltA Pr3.lt
  have l3 := ltA Pr5.lt
  have l4 := ltA Pr6.lt
  refine Gets.via (fun _ k => (XS.aloadN A0 hx rfl (D d18_0) rfl rfl k)) ?_
  refine X0.callS (W := 0) (w101 hw) (w102 hw) (w103 hw) (w104 hw) (by decide) (X0.payM (sf := []) (rmLc2 hcx x d kd e0 e1 h0 X0.old Pr0 Pr1 Pr2 Pr3 Pr4 Pr5 Pr6) sf0 (w104 hw) (w103 hw) (by decide) (by decide)) rfl (sz hml rfl) (argsL := [(.ref x)]) (rest := []) (lenOf pd12 rfl) rfl rfl (mroom rfl rfl) (D d18_1) (by decide) (by decide) fun T5 h5 vm5 v5 X5 C5 z5 q5 => ?_
  obtain ⟨a5, rfl, K5, g5_0, g5_1, g5_2, g5_3⟩ := q5
  have l6 := ltA g5_0.lt
  exact X5.retA hret rfl rfl rfl (D d18_4) (by decide) (by decide) (fun vmE CE => ⟨a5, rfl, ((Keep.refl h0 []).trans K5 all0), g5_0, g5_1, g5_2, g5_3⟩)
abbrev RrmNode2 : Room := { frames := 8, cells := 2, slots := 4, locals := 101 }
def QrmNode2 (Z : State) (de : Addr) (el : Addr) (em : Addr) (x : Addr) (u : Addr) (z : Addr) (v1 : Addr) (d : Addr) (kd : ClassId) (e0 : Addr) (e1 : Addr) (h0 : Heap) (v : Option Value) (vm : Vm) (h : Heap) : Prop := ∃ (L : Addr), v = none ∧ Keep h0 h [x] ∧ Exa Z h x "com/example/packwright/packwright/model/Node" ∧ Fld Z h x "com/example/packwright/packwright/model/Node" "subscripts" "Ljava/util/List;" (.ref L) ∧ Exa Z h L "java/util/ImmutableCollections$List12" ∧ Fld Z h L "java/util/ImmutableCollections$List12" "e0" "Ljava/lang/Object;" (.ref e0) ∧ Fld Z h L "java/util/ImmutableCollections$List12" "e1" "Ljava/lang/Object;" (.ref e1)
theorem rmNode2 (hcx : Cx Z a0 zc de kde em el ee kee mr) (x : Addr) (u : Addr) (z : Addr) (v1 : Addr) (d : Addr) (kd : ClassId) (e0 : Addr) (e1 : Addr) (h0 : Heap) (O0 : Old Z Z.heap.size h0) (Pr0 : Exa Z h0 x "com/example/packwright/packwright/model/Node") (Pr1 : Fld Z h0 x "com/example/packwright/packwright/model/Node" "subscriptLine" "Ljava/lang/String;" .null) (Pr2 : Fld Z h0 x "com/example/packwright/packwright/model/Node" "subscripts" "Ljava/util/List;" .null) (Pr3 : Fld Z h0 x "com/example/packwright/packwright/model/Node" "value" "Ljava/lang/String;" .null) (Pr4 : Z.heap.size ≤ x) (Pr5 : Exa Z h0 z "java/util/ArrayList") (Pr6 : Fld Z h0 z "java/util/ArrayList" "size" "I" (.int (2 : Int32))) (Pr7 : Fld Z h0 z "java/util/ArrayList" "elementData" "[Ljava/lang/Object;" (.ref d)) (Pr8 : Arv Z h0 d kd (.object "java/lang/Object") (10 : Int32) [(.ref e0), (.ref e1), .null, .null, .null, .null, .null, .null, .null, .null] .null) (Pr9 : Exa Z h0 d "[Ljava/lang/Object;") (Pr10 : Exa Z h0 e0 "java/lang/String") (Pr11 : Exa Z h0 e1 "java/lang/String") : Met l Z consts_1 (⟨"com/example/packwright/packwright/model/Node", "<init>", "(Ljava/lang/String;Ljava/util/List;Ljava/lang/String;)V"⟩ : MethodName) prog_37_method_1_code 4 (none) [] RrmNode2 [] #[(.ref x), (.ref u), (.ref z), (.ref v1)] h0 (QrmNode2 Z de el em x u z v1 d kd e0 e1 h0) := by
  have ⟨hw, hEL, O2, P5, OD, AD, XM, OM, OL, XL, FL, AE, MR⟩ := hcx
  refine Met.start (a0 := a0) (Ls := #[vR x, vR u, vR z, vR v1]) pn16 hEL O0 (fun m => by first | (simp [entryFrame, mkF, argsToLocals, Value.category]; done) | rfl) ?_
  intro p e s m below meth cc T0 vm0 X0 sf0_ hby hml hret hnm
  have hx := X0.hx
  have D : ∀ {n r}, decode prog_37_method_1_code n = r → decode cc.code n = r := fun d => hb hby d
  have zz := X0.ge
  have A0 := X0.at
  have l1 := ltA Pr0.lt
  have l2 := ltA Pr5.lt
  have l3 := ltA Pr8.lt
  have l4 := ltA Pr10.lt
  have l5 := ltA Pr11.lt
  refine Gets.via (fun _ k => (XS.aloadN A0 hx rfl (D d16_0) rfl rfl k)) ?_
  refine X0.callI (y := (⟨"java/lang/Record", "<init>", "()V"⟩ : MethodName)) (W := 0) rfl (w91 hw) (w92 hw) (w95 hw) (by decide) (X0.payM (sf := []) (rm17 hcx x h0 X0.old ) sf0 (w95 hw) (w94 hw) (by decide) (by decide)) rfl (sz hml rfl) (a := x) (argsL := []) (rest := []) (lenOf pd7 rfl) rfl rfl (mroom rfl rfl) (D d16_1) (by decide) (by decide) fun T6 h6 vm6 v6 X6 C6 z6 q6 => ?_
  obtain ⟨rfl, K6⟩ := q6
  rw [K6] at X6 C6
  have A7 := X6.at
  refine Gets.via (fun _ k => (XS.aloadN A7 hx rfl (D d16_4) rfl rfl k)) ?_
  refine X6.callS (W := 0) (w97 hw) (w98 hw) (w99 hw) (w100 hw) (by decide) (X6.payM (sf := []) (rmCoL2 hcx z d kd e0 e1 h0 X6.old Pr5 Pr6 Pr7 Pr8 Pr9 Pr10 Pr11) sf0 (w100 hw) (w99 hw) (by decide) (by decide)) rfl (sz hml rfl) (argsL := [(.ref z)]) (rest := []) (lenOf pd12 rfl) rfl rfl (mroom rfl rfl) (D d16_5) (by decide) (by decide) fun T8 h8 vm8 v8 X8 C8 z8 q8 => ?_
  obtain ⟨a8, rfl, K8, g8_0, g8_1, g8_2, g8_3⟩ := q8
  have l9 := ltA g8_0.lt
  have A10 := X8.at
  refine Gets.via (fun _ k => (XS.astoreN A10 hx rfl (D d16_8) rfl rfl (l' := #[vR x, vR u, vR a8, vR v1]) rfl (XS.aloadN A10 hx rfl (D d16_9) rfl rfl (XS.aloadN A10 hx rfl (D d16_10) rfl rfl k)))) ?_
  show Gets p e below _ (T8.setTop (mkF m 11 #[vR x, vR u, vR a8, vR v1] [(.ref u), (.ref x)]))
  have f12 := Pr1.keep K8 nin0
  have f13 := Pr0.keep K8
  refine X8.putF (host := "") (Or.inl (w126 hw)) Via.refl f12 f13 (Or.inr ⟨(w127 hw), rfl, hnm⟩) (w83 hw) (ty := (.object "java/lang/String")) (by decide) rfl rfl (leA (by omega)) (Safe.exa X8.hZ.alike f13 (by decide) (by decide)) rfl rfl (D d16_11) fun T11 h11 X11 C11 W11 F11 Z11 => ?_
  have z11 := W11.size
  have A14 := X11.at
  refine Gets.via (fun _ k => (XS.aloadN A14 hx rfl (D d16_14) rfl rfl (XS.aloadN A14 hx rfl (D d16_15) rfl rfl k))) ?_
  have f16 := Pr2.keep K8 nin0
  have f17 := f16.other W11 (Or.inr (slot_ne (t := (.object "java/util/List")) (t' := (.object "java/lang/String")) (Or.inr (w129 hw)) (Or.inr (w127 hw)) (by decide) (by decide) (by decide)))
  refine X11.putF (host := "") (Or.inl (w128 hw)) Via.refl f17 Z11 (Or.inr ⟨(w129 hw), rfl, hnm⟩) (w83 hw) (ty := (.object "java/util/List")) (by decide) rfl rfl (leA (by omega)) (Safe.exa X11.hZ.alike Z11 (by decide) (by decide)) rfl rfl (D d16_16) fun T15 h15 X15 C15 W15 F15 Z15 => ?_
  have z15 := W15.size
  have A18 := X15.at
  refine Gets.via (fun _ k => (XS.aloadN A18 hx rfl (D d16_19) rfl rfl (XS.aloadN A18 hx rfl (D d16_20) rfl rfl k))) ?_
  have f20 := Pr3.keep K8 nin0
  have f21 := f20.other W11 (Or.inr (slot_ne (t := (.object "java/lang/String")) (t' := (.object "java/lang/String")) (Or.inr (w131 hw)) (Or.inr (w127 hw)) (by decide) (by decide) (by decide)))
  have f22 := f21.other W15 (Or.inr (slot_ne (t := (.object "java/lang/String")) (t' := (.object "java/util/List")) (Or.inr (w131 hw)) (Or.inr (w129 hw)) (by decide) (by decide) (by decide)))
  refine X15.putF (host := "") (Or.inl (w130 hw)) Via.refl f22 Z15 (Or.inr ⟨(w131 hw), rfl, hnm⟩) (w83 hw) (ty := (.object "java/lang/String")) (by decide) rfl rfl (leA (by omega)) (Safe.exa X15.hZ.alike Z15 (by decide) (by decide)) rfl rfl (D d16_21) fun T19 h19 X19 C19 W19 F19 Z19 => ?_
  have z19 := W19.size
  show Gets p e below _ (T19.setTop (mkF m 24 #[vR x, vR u, vR a8, vR v1] []))
  have f23 := F15.other W19 (Or.inr (slot_ne (t := (.object "java/util/List")) (t' := (.object "java/lang/String")) (Or.inr (w129 hw)) (Or.inr (w131 hw)) (by decide) (by decide) (by decide)))
  have f24 := g8_0.wr W11
  have f25 := f24.wr W15
  have f26 := f25.wr W19
  have f27 := g8_1.other W11 (Or.inl (neA (by omega)))
  have f28 := f27.other W15 (Or.inl (neA (by omega)))
  have f29 := f28.other W19 (Or.inl (neA (by omega)))
  have f30 := g8_2.other W11 (Or.inl (neA (by omega)))
  have f31 := f30.other W15 (Or.inl (neA (by omega)))
  have f32 := f31.other W19 (Or.inl (neA (by omega)))
  exact X19.retV hret (D d16_24) (by decide) (by decide) (fun vmE CE => ⟨a8, rfl, (((((Keep.refl h0 [x]).trans K8 all0).wr W11 (Or.inl (List.mem_of_getElem? (i := 0) rfl))).wr W15 (Or.inl (List.mem_of_getElem? (i := 0) rfl))).wr W19 (Or.inl (List.mem_of_getElem? (i := 0) rfl))), Z19, f23, f26, f29, f32⟩)
abbrev RrmL12s2 : Room := { frames := 0, cells := 0, slots := 0, locals := 0 }
def QrmL12s2 (Z : State) (de : Addr) (el : Addr) (em : Addr) (x : Addr) (e1 : Addr) (h0 : Heap) (v : Option Value) (vm : Vm) (h : Heap) : Prop := v = some (.int (2 : Int32)) ∧ h = h0
theorem rmL12s2 (hcx : Cx Z a0 zc de kde em el ee kee mr) (x : Addr) (e1 : Addr) (h0 : Heap) (O0 : Old Z Z.heap.size h0) (Pr0 : Fld Z h0 x "java/util/ImmutableCollections$List12" "e1" "Ljava/lang/Object;" (.ref e1)) (Pr1 : e1 ≠ em) : Met l Z consts_1 (⟨"java/util/ImmutableCollections$List12", "size", "()I"⟩ : MethodName) jdk_44_method_3_code 1 (some .int) [] RrmL12s2 [] #[(.ref x)] h0 (QrmL12s2 Z de el em x e1 h0) := by
  have ⟨hw, hEL, O2, P5, OD, AD, XM, OM, OL, XL, FL, AE, MR⟩ := hcx
  refine Met.start (a0 := a0) (Ls := #[vR x]) pn41 hEL O0 (fun m => by first | (simp [entryFrame, mkF, argsToLocals, Value.category]; done) | rfl) ?_
  intro p e s m below meth cc T0 vm0 X0 sf0_ hby hml hret hnm
  have hx := X0.hx
  have D : ∀ {n r}, decode jdk_44_method_3_code n = r → decode cc.code n = r := fun d => hb hby d
  have zz := X0.ge
  have A0 := X0.at
  have l1 := ltA Pr0.lt
  have l2 := neA Pr1
  refine Gets.via (fun _ k => (XS.aloadN A0 hx rfl (D d41_0) rfl rfl k)) ?_
  refine X0.getF (host := "") (Or.inl (w260 hw)) Via.refl Pr0 rfl rfl (D d41_1) fun T3 X3 => ?_
  refine X3.getS (host := "java/util/ImmutableCollections") (Or.inr (w268 hw)) Via.refl (X3.sta OM) rfl (D d41_4) fun T4 X4 => ?_
  refine X4.acmpW hx rfl rfl rfl (pc0 := 7) (pc' := 10) (same := false) rfl (D d41_7) rfl (decide_eq_false fun q => Pr1 (Value.ref.inj q)) (by decide) (by decide) ?_
  show Gets p e below _ (T4.setTop (mkF m 10 #[vR x] []))
  have A5 := X4.at
  refine Gets.via (fun _ k => (XS.iconst A5 hx rfl (D d41_10) (XS.goto A5 hx rfl (pc0 := 11) (pc' := 15) rfl (D d41_11) (by decide) (by decide) k))) ?_
  exact X4.retI hret rfl (by simp) (D d41_15) (by decide) (by decide) (fun vmE CE => ⟨rfl, rfl⟩)
abbrev RrmRol2 : Room := { frames := 1, cells := 0, slots := 0, locals := 12 }
def QrmRol2 (Z : State) (de : Addr) (el : Addr) (em : Addr) (x : Addr) (L : Addr) (e0 : Addr) (e1 : Addr) (h0 : Heap) (v : Option Value) (vm : Vm) (h : Heap) : Prop := v = some .null ∧ h = h0
theorem rmRol2 (hcx : Cx Z a0 zc de kde em el ee kee mr) (x : Addr) (L : Addr) (e0 : Addr) (e1 : Addr) (h0 : Heap) (O0 : Old Z Z.heap.size h0) (Pr0 : Exa Z h0 x "com/example/packwright/packwright/model/Node") (Pr1 : Fld Z h0 x "com/example/packwright/packwright/model/Node" "subscripts" "Ljava/util/List;" (.ref L)) (Pr2 : Exa Z h0 L "java/util/ImmutableCollections$List12") (Pr3 : Fld Z h0 L "java/util/ImmutableCollections$List12" "e0" "Ljava/lang/Object;" (.ref e0)) (Pr4 : Fld Z h0 L "java/util/ImmutableCollections$List12" "e1" "Ljava/lang/Object;" (.ref e1)) (Pr5 : Exa Z h0 e1 "java/lang/String") : Met l Z consts_1 (⟨"com/example/packwright/packwright/io/BuildAssembler", "routineOfLine", "(Lcom/example/packwright/packwright/model/Node;)Ljava/lang/String;"⟩ : MethodName) prog_4_method_10_code 3 (some (.object "java/lang/String")) [] RrmRol2 [] #[(.ref x)] h0 (QrmRol2 Z de el em x L e0 e1 h0) := by
  have ⟨hw, hEL, O2, P5, OD, AD, XM, OM, OL, XL, FL, AE, MR⟩ := hcx
  refine Met.start (a0 := a0) (Ls := #[vR x, .unset, .unset]) pn22 hEL O0 (fun m => by first | (simp [entryFrame, mkF, argsToLocals, Value.category]; done) | rfl) ?_
  intro p e s m below meth cc T0 vm0 X0 sf0_ hby hml hret hnm
  have hx := X0.hx
  have D : ∀ {n r}, decode prog_4_method_10_code n = r → decode cc.code n = r := fun d => hb hby d
  have zz := X0.ge
  have A0 := X0.at
  have l1 := ltA Pr0.lt
  have l2 := ltA Pr2.lt
  have l3 := ltA Pr5.lt
  refine Gets.via (fun _ k => (XS.aloadN A0 hx rfl (D d22_0) rfl rfl k)) ?_
  refine X0.callV (W := 0) (w136 hw) (w137 hw) (w139 hw) (w138 hw) (nfs rfl (w139 hw)) (by decide) (X0.payM (sf := []) (rmSubs hcx x L h0 X0.old Pr1) sf0 (w140 hw) (w84 hw) (by decide) (by decide)) Pr0 rfl (sz hml rfl) (argsL := []) (rest := []) (lenOf pd11 rfl) rfl rfl (mroom rfl rfl) (D d22_1) (by decide) (by decide) fun T4 h4 vm4 v4 X4 C4 z4 q4 => ?_
  obtain ⟨rfl, K4⟩ := q4
  rw [K4] at X4 C4
  have A5 := X4.at
  refine Gets.via (fun _ k => (XS.astoreN A5 hx rfl (D d22_4) rfl rfl (l' := #[vR x, vR L, .unset]) rfl (XS.aloadN A5 hx rfl (D d22_5) rfl rfl k))) ?_
  have f7 : Exa Z h0 em "java/lang/Object" := XM.ext X4.old.2
  have nm6 : e1 ≠ em := ne_exa Pr5 f7 (by decide)
  refine X4.callF (W := 0) (w141 hw) (w142 hw) (w143 hw) rfl (w262 hw) (w263 hw) (w264 hw) (w265 hw) (w266 hw) (by decide) (X4.payM (sf := []) (rmL12s2 hcx L e1 h0 X4.old Pr4 nm6) sf0 (w267 hw) (w248 hw) (by decide) (by decide)) Pr2 rfl (sz hml rfl) (argsL := []) (rest := []) (lenOf pd14 rfl) rfl rfl (mroom rfl rfl) (D d22_6) (by decide) (by decide) fun T8 h8 vm8 v8 X8 C8 z8 q8 => ?_
  obtain ⟨rfl, K8⟩ := q8
  rw [K8] at X8 C8
  show Gets p e below _ (T8.setTop (mkF m 11 #[vR x, vR L, .unset] [(.int (2 : Int32))]))
  have A9 := X8.at
  refine Gets.via (fun _ k => (XS.iconst A9 hx rfl (D d22_11) (XS.icmpYes A9 hx rfl (pc0 := 12) (pc' := 55) rfl (D d22_12) rfl (Jvm.Free.XT.ii_ne_t (by decide)) (by decide) (by decide) k))) ?_
  refine Gets.via (fun _ k => (XS.iconst A9 hx rfl (D d22_55) (XS.istoreN A9 hx rfl (D d22_56) rfl (l' := #[vR x, vR L, vI (0 : Int32)]) rfl (XS.iloadN A9 hx rfl (D d22_57) rfl (XS.ifYes A9 hx rfl (pc0 := 58) (pc' := 74) rfl (D d22_58) rfl (Jvm.Free.XT.i0_eq_t (by decide)) (by decide) (by decide) k))))) ?_
  refine Gets.via (fun _ k => (XS.aconstNull A9 hx rfl (D d22_74) k)) ?_
  exact X8.retA hret rfl rfl rfl (D d22_75) (by decide) (by decide) (fun vmE CE => ⟨rfl, rfl⟩)
abbrev RrmAddT2 : Room := { frames := 0, cells := 0, slots := 0, locals := 0 }
def QrmAddT2 (Z : State) (de : Addr) (el : Addr) (em : Addr) (x : Addr) (y : Addr) (mc : Int32) (d : Addr) (kd : ClassId) (e0 : Addr) (e1 : Addr) (h0 : Heap) (v : Option Value) (vm : Vm) (h : Heap) : Prop := v = none ∧ Keep h0 h [x, d] ∧ Exa Z h x "java/util/ArrayList" ∧ Fld Z h x "java/util/AbstractList" "modCount" "I" (.int mc) ∧ Fld Z h x "java/util/ArrayList" "size" "I" (.int (3 : Int32)) ∧ Fld Z h x "java/util/ArrayList" "elementData" "[Ljava/lang/Object;" (.ref d) ∧ Arv Z h d kd (.object "java/lang/Object") (10 : Int32) [(.ref e0), (.ref e1), (.ref y), .null, .null, .null, .null, .null, .null, .null] .null ∧ Exa Z h d "[Ljava/lang/Object;"
theorem rmAddT2 (hcx : Cx Z a0 zc de kde em el ee kee mr) (x : Addr) (y : Addr) (mc : Int32) (d : Addr) (kd : ClassId) (e0 : Addr) (e1 : Addr) (h0 : Heap) (O0 : Old Z Z.heap.size h0) (Pr0 : Exa Z h0 x "java/util/ArrayList") (Pr1 : Fld Z h0 x "java/util/AbstractList" "modCount" "I" (.int mc)) (Pr2 : Fld Z h0 x "java/util/ArrayList" "size" "I" (.int (2 : Int32))) (Pr3 : Fld Z h0 x "java/util/ArrayList" "elementData" "[Ljava/lang/Object;" (.ref d)) (Pr4 : Arv Z h0 d kd (.object "java/lang/Object") (10 : Int32) [(.ref e0), (.ref e1), .null, .null, .null, .null, .null, .null, .null, .null] .null) (Pr5 : Exa Z h0 d "[Ljava/lang/Object;") (Pr6 : Ovr Z kd "java/lang/Object") (Pr7 : Z.heap.size ≤ d) (Pr8 : x ≠ d) (Pr9 : Z.heap.size ≤ x) (Pr10 : Exa Z h0 y "java/lang/String") : Met l Z consts_1 (⟨"java/util/ArrayList", "add", "(Ljava/lang/Object;[Ljava/lang/Object;I)V"⟩ : MethodName) jdk_38_method_24_code 4 (none) [] RrmAddT2 [] #[(.ref x), (.ref y), (.ref d), (.int (2 : Int32))] h0 (QrmAddT2 Z de el em x y mc d kd e0 e1 h0) := by
  have ⟨hw, hEL, O2, P5, OD, AD, XM, OM, OL, XL, FL, AE, MR⟩ := hcx
  refine Met.start (a0 := a0) (Ls := #[vR x, vR y, vR d, vI (2 : Int32)]) pn26 hEL O0 (fun m => by first | (simp [entryFrame, mkF, argsToLocals, Value.category]; done) | rfl) ?_
  intro p e s m below meth cc T0 vm0 X0 sf0_ hby hml hret hnm
  have hx := X0.hx
  have D : ∀ {n r}, decode jdk_38_method_24_code n = r → decode cc.code n = r := fun d => hb hby d
  have zz := X0.ge
  have A0 := X0.at
  have l1 := ltA Pr0.lt
  have l2 := ltA Pr4.lt
  have l3 := neA Pr8
  have l4 := ltA Pr10.lt
  refine Gets.via (fun _ k => (XS.iloadN A0 hx rfl (D d26_0) rfl (XS.aloadN A0 hx rfl (D d26_1) rfl rfl k))) ?_
  refine X0.alen Pr4 rfl rfl (D d26_2) ?_
  refine Gets.via (fun _ k => (XS.icmpYes A0 hx rfl (pc0 := 3) (pc' := 11) rfl (D d26_3) rfl (Jvm.Free.XT.ii_ne_t (by decide)) (by decide) (by decide) k)) ?_
  refine Gets.via (fun _ k => (XS.aloadN A0 hx rfl (D d26_11) rfl rfl (XS.iloadN A0 hx rfl (D d26_12) rfl (XS.aloadN A0 hx rfl (D d26_13) rfl rfl k)))) ?_
  show Gets p e below _ (T0.setTop (mkF m 14 #[vR x, vR y, vR d, vI (2 : Int32)] [(.ref y), (.int (2 : Int32)), (.ref d)]))
  refine X0.stR Pr4 (stoV Pr4 Pr6 (Ins.of_exa Pr10 (w182 hw))) rfl (i := 2) (by decide) (by decide) (Nat.le_of_ble_eq_true rfl) (by decide) (leA (by omega)) rfl rfl (D d26_14) fun T5 h5 X5 C5 K5 V5 => ?_
  have z5 := K5.1
  have V5_ : Arv Z h5 d kd (.object "java/lang/Object") (10 : Int32) [(.ref e0), (.ref e1), (.ref y), .null, .null, .null, .null, .null, .null, .null] .null := V5
  have A6 := X5.at
  refine Gets.via (fun _ k => (XS.aloadN A6 hx rfl (D d26_15) rfl rfl (XS.iloadN A6 hx rfl (D d26_16) rfl (XS.iconst A6 hx rfl (D d26_17) (iaddV A6 hx rfl (D d26_18) rfl (v := (3 : Int32)) (by decide) k))))) ?_
  have f8 := Pr2.keep K5 (ninS (neA (by omega)) nin0)
  have f9 := Pr0.keep K5
  refine X5.putF (host := "") (Or.inl (w120 hw)) Via.refl f8 f9 (Or.inl (w121 hw)) (w59 hw) (ty := .int) (by decide) rfl rfl (leA (by omega)) (Safe.exa X5.hZ.alike f9 (by decide) (by decide)) rfl rfl (D d26_19) fun T7 h7 X7 C7 W7 F7 Z7 => ?_
  have z7 := W7.size
  have f10 := Pr1.keep K5 (ninS (neA (by omega)) nin0)
  have f11 := f10.other W7 (Or.inr (slot_ne (t := .int) (t' := .int) (Or.inl (w78 hw)) (Or.inl (w121 hw)) (by decide) (by decide) (by decide)))
  have f12 := Pr3.keep K5 (ninS (neA (by omega)) nin0)
  have f13 := f12.other W7 (Or.inr (slot_ne (t := (.array (.object "java/lang/Object"))) (t' := .int) (Or.inl (w81 hw)) (Or.inl (w121 hw)) (by decide) (by decide) (by decide)))
  have f14 := V5_.other W7 (neA (by omega))
  have f15 := Pr5.keep K5
  have f16 := f15.wr W7
  exact X7.retV hret (D d26_22) (by decide) (by decide) (fun vmE CE => ⟨rfl, (((Keep.refl h0 [x, d]).trans K5 (allS (Or.inl (List.mem_of_getElem? (i := 1) rfl)) all0)).wr W7 (Or.inl (List.mem_of_getElem? (i := 0) rfl))), Z7, f11, F7, f13, f14, f16⟩)
abbrev RrmAdd2 : Room := { frames := 1, cells := 0, slots := 0, locals := 15 }
def QrmAdd2 (Z : State) (de : Addr) (el : Addr) (em : Addr) (x : Addr) (y : Addr) (mc : Int32) (d : Addr) (kd : ClassId) (e0 : Addr) (e1 : Addr) (h0 : Heap) (v : Option Value) (vm : Vm) (h : Heap) : Prop := v = some (.int (1 : Int32)) ∧ Keep h0 h [x, d] ∧ Exa Z h x "java/util/ArrayList" ∧ Fld Z h x "java/util/AbstractList" "modCount" "I" (.int (mc + (1 : Int32))) ∧ Fld Z h x "java/util/ArrayList" "size" "I" (.int (3 : Int32)) ∧ Fld Z h x "java/util/ArrayList" "elementData" "[Ljava/lang/Object;" (.ref d) ∧ Arv Z h d kd (.object "java/lang/Object") (10 : Int32) [(.ref e0), (.ref e1), (.ref y), .null, .null, .null, .null, .null, .null, .null] .null ∧ Exa Z h d "[Ljava/lang/Object;"
theorem rmAdd2 (hcx : Cx Z a0 zc de kde em el ee kee mr) (x : Addr) (y : Addr) (mc : Int32) (d : Addr) (kd : ClassId) (e0 : Addr) (e1 : Addr) (h0 : Heap) (O0 : Old Z Z.heap.size h0) (Pr0 : Exa Z h0 x "java/util/ArrayList") (Pr1 : Fld Z h0 x "java/util/AbstractList" "modCount" "I" (.int mc)) (Pr2 : Fld Z h0 x "java/util/ArrayList" "size" "I" (.int (2 : Int32))) (Pr3 : Fld Z h0 x "java/util/ArrayList" "elementData" "[Ljava/lang/Object;" (.ref d)) (Pr4 : Arv Z h0 d kd (.object "java/lang/Object") (10 : Int32) [(.ref e0), (.ref e1), .null, .null, .null, .null, .null, .null, .null, .null] .null) (Pr5 : Exa Z h0 d "[Ljava/lang/Object;") (Pr6 : Ovr Z kd "java/lang/Object") (Pr7 : Z.heap.size ≤ d) (Pr8 : x ≠ d) (Pr9 : Z.heap.size ≤ x) (Pr10 : Exa Z h0 y "java/lang/String") : Met l Z consts_1 (⟨"java/util/ArrayList", "add", "(Ljava/lang/Object;)Z"⟩ : MethodName) jdk_38_method_25_code 2 (some .boolean) [] RrmAdd2 [] #[(.ref x), (.ref y)] h0 (QrmAdd2 Z de el em x y mc d kd e0 e1 h0) := by
  have ⟨hw, hEL, O2, P5, OD, AD, XM, OM, OL, XL, FL, AE, MR⟩ := hcx
  refine Met.start (a0 := a0) (Ls := #[vR x, vR y]) pn25 hEL O0 (fun m => by first | (simp [entryFrame, mkF, argsToLocals, Value.category]; done) | rfl) ?_
  intro p e s m below meth cc T0 vm0 X0 sf0_ hby hml hret hnm
  have hx := X0.hx
  have D : ∀ {n r}, decode jdk_38_method_25_code n = r → decode cc.code n = r := fun d => hb hby d
  have zz := X0.ge
  have A0 := X0.at
  have l1 := ltA Pr0.lt
  have l2 := ltA Pr4.lt
  have l3 := neA Pr8
  have l4 := ltA Pr10.lt
  refine Gets.via (fun _ k => (XS.aloadN A0 hx rfl (D d25_0) rfl rfl (XS.dup A0 hx rfl (D d25_1) rfl rfl k))) ?_
  refine X0.getF (host := "") (Or.inl (w159 hw)) (Via.of (w160 hw)) Pr1 rfl rfl (D d25_2) fun T5 X5 => ?_
  have A6 := X5.at
  refine Gets.via (fun _ k => (XS.iconst A6 hx rfl (D d25_5) (XS.iadd A6 hx rfl (D d25_6) rfl k))) ?_
  refine X5.putF (host := "") (Or.inl (w159 hw)) (Via.of (w160 hw)) Pr1 Pr0 (Or.inl (w78 hw)) (w59 hw) (ty := .int) (by decide) rfl rfl (leA (by omega)) (Safe.exa X5.hZ.alike Pr0 (by decide) (by decide)) rfl rfl (D d25_7) fun T7 h7 X7 C7 W7 F7 Z7 => ?_
  have z7 := W7.size
  show Gets p e below _ (T7.setTop (mkF m 10 #[vR x, vR y] []))
  have A8 := X7.at
  refine Gets.via (fun _ k => (XS.aloadN A8 hx rfl (D d25_10) rfl rfl (XS.aloadN A8 hx rfl (D d25_11) rfl rfl (XS.aloadN A8 hx rfl (D d25_12) rfl rfl k)))) ?_
  have f10 := Pr3.other W7 (Or.inr (slot_ne (t := (.array (.object "java/lang/Object"))) (t' := .int) (Or.inl (w81 hw)) (Or.inl (w78 hw)) (by decide) (by decide) (by decide)))
  refine X7.getF (host := "") (Or.inl (w80 hw)) Via.refl f10 rfl rfl (D d25_13) fun T9 X9 => ?_
  have A11 := X9.at
  refine Gets.via (fun _ k => (XS.aloadN A11 hx rfl (D d25_16) rfl rfl k)) ?_
  have f13 := Pr2.other W7 (Or.inr (slot_ne (t := .int) (t' := .int) (Or.inl (w121 hw)) (Or.inl (w78 hw)) (by decide) (by decide) (by decide)))
  refine X9.getF (host := "") (Or.inl (w120 hw)) Via.refl f13 rfl rfl (D d25_17) fun T12 X12 => ?_
  have f14 := Pr4.other W7 (neA (by omega))
  have f15 := Pr5.wr W7
  have f16 := Pr10.wr W7
  refine X12.callP (W := 0) (w161 hw) (w162 hw) (w164 hw) (w163 hw) (w165 hw) (by decide) (X12.payM (sf := []) (rmAddT2 hcx x y (mc + (1 : Int32)) d kd e0 e1 h7 X12.old Z7 F7 f13 f10 f14 f15 Pr6 Pr7 Pr8 Pr9 f16) sf0 (w165 hw) (w60 hw) (by decide) (by decide)) Z7 rfl (sz hml rfl) (argsL := [(.ref y), (.ref d), (.int (2 : Int32))]) (rest := []) (lenOf pd19 rfl) rfl rfl (mroom rfl rfl) (D d25_20) (by decide) (by decide) fun T17 h17 vm17 v17 X17 C17 z17 q17 => ?_
  obtain ⟨rfl, K17, g17_0, g17_1, g17_2, g17_3, g17_4, g17_5⟩ := q17
  have l18 := ltA g17_0.lt
  have l19 := ltA g17_4.lt
  show Gets p e below _ (T17.setTop (mkF m 23 #[vR x, vR y] []))
  have A20 := X17.at
  refine Gets.via (fun _ k => (XS.iconst A20 hx rfl (D d25_23) k)) ?_
  exact X17.retI hret (by decide) (by simp) (D d25_24) (by decide) (by decide) (fun vmE CE => ⟨rfl, (((Keep.refl h0 [x, d]).wr W7 (Or.inl (List.mem_of_getElem? (i := 0) rfl))).trans K17 (allS (Or.inl (List.mem_of_getElem? (i := 0) rfl)) (allS (Or.inl (List.mem_of_getElem? (i := 1) rfl)) all0))), g17_0, g17_1, g17_2, g17_3, g17_4, g17_5⟩)
abbrev RrmAlEmpty3 : Room := { frames := 0, cells := 0, slots := 0, locals := 0 }
def QrmAlEmpty3 (Z : State) (de : Addr) (el : Addr) (em : Addr) (x : Addr) (h0 : Heap) (v : Option Value) (vm : Vm) (h : Heap) : Prop := v = some (.int (0 : Int32)) ∧ h = h0
theorem rmAlEmpty3 (hcx : Cx Z a0 zc de kde em el ee kee mr) (x : Addr) (h0 : Heap) (O0 : Old Z Z.heap.size h0) (Pr0 : Fld Z h0 x "java/util/ArrayList" "size" "I" (.int (3 : Int32))) : Met l Z consts_1 (⟨"java/util/ArrayList", "isEmpty", "()Z"⟩ : MethodName) jdk_38_method_9_code 1 (some .boolean) [] RrmAlEmpty3 [] #[(.ref x)] h0 (QrmAlEmpty3 Z de el em x h0) := by
  have ⟨hw, hEL, O2, P5, OD, AD, XM, OM, OL, XL, FL, AE, MR⟩ := hcx
  refine Met.start (a0 := a0) (Ls := #[vR x]) pn20 hEL O0 (fun m => by first | (simp [entryFrame, mkF, argsToLocals, Value.category]; done) | rfl) ?_
  intro p e s m below meth cc T0 vm0 X0 sf0_ hby hml hret hnm
  have hx := X0.hx
  have D : ∀ {n r}, decode jdk_38_method_9_code n = r → decode cc.code n = r := fun d => hb hby d
  have zz := X0.ge
  have A0 := X0.at
  have l1 := ltA Pr0.lt
  refine Gets.via (fun _ k => (XS.aloadN A0 hx rfl (D d20_0) rfl rfl k)) ?_
  refine X0.getF (host := "") (Or.inl (w120 hw)) Via.refl Pr0 rfl rfl (D d20_1) fun T2 X2 => ?_
  have A3 := X2.at
  refine Gets.via (fun _ k => (XS.ifYes A3 hx rfl (pc0 := 4) (pc' := 11) rfl (D d20_4) rfl (Jvm.Free.XT.i0_ne_t (by decide)) (by decide) (by decide) k)) ?_
  refine Gets.via (fun _ k => (XS.iconst A3 hx rfl (D d20_11) k)) ?_
  exact X2.retI hret (by decide) (by simp) (D d20_12) (by decide) (by decide) (fun vmE CE => ⟨rfl, rfl⟩)
abbrev Rrmmin_10_3 : Room := { frames := 0, cells := 0, slots := 0, locals := 0 }
def Qrmmin_10_3 (Z : State) (de : Addr) (el : Addr) (em : Addr) (h0 : Heap) (v : Option Value) (vm : Vm) (h : Heap) : Prop := v = some (.int (3 : Int32)) ∧ h = h0
theorem rmmin_10_3 (hcx : Cx Z a0 zc de kde em el ee kee mr)  (h0 : Heap) (O0 : Old Z Z.heap.size h0)  : Met l Z consts_1 (⟨"java/lang/Math", "min", "(II)I"⟩ : MethodName) jdk_29_method_69_code 2 (some .int) [] Rrmmin_10_3 [] #[(.int (10 : Int32)), (.int (3 : Int32))] h0 (Qrmmin_10_3 Z de el em h0) := by
  have ⟨hw, hEL, O2, P5, OD, AD, XM, OM, OL, XL, FL, AE, MR⟩ := hcx
  refine Met.start (a0 := a0) (Ls := #[vI (10 : Int32), vI (3 : Int32)]) pn33 hEL O0 (fun m => by first | (simp [entryFrame, mkF, argsToLocals, Value.category]; done) | rfl) ?_
  intro p e s m below meth cc T0 vm0 X0 sf0_ hby hml hret hnm
  have hx := X0.hx
  have D : ∀ {n r}, decode jdk_29_method_69_code n = r → decode cc.code n = r := fun d => hb hby d
  have zz := X0.ge
  have A0 := X0.at
  refine Gets.via (fun _ k => (XS.iloadN A0 hx rfl (D d33_0) rfl (XS.iloadN A0 hx rfl (D d33_1) rfl (XS.icmpYes A0 hx rfl (pc0 := 2) (pc' := 9) rfl (D d33_2) rfl (Jvm.Free.XT.ii_gt_t (by decide)) (by decide) (by decide) k)))) ?_
  refine Gets.via (fun _ k => (XS.iloadN A0 hx rfl (D d33_9) rfl k)) ?_
  exact X0.retI hret rfl (by simp) (D d33_10) (by decide) (by decide) (fun vmE CE => ⟨rfl, rfl⟩)
abbrev RrmCoT3 : Room := { frames := 1, cells := 1, slots := 3, locals := 22 }
def QrmCoT3 (Z : State) (de : Addr) (el : Addr) (em : Addr) (d : Addr) (kd : ClassId) (e0 : Addr) (e1 : Addr) (e2 : Addr) (h0 : Heap) (v : Option Value) (vm : Vm) (h : Heap) : Prop := ∃ (r : Addr) (kr : ClassId), v = some (.ref r) ∧ Keep h0 h [] ∧ Arv Z h r kr (.object "java/lang/Object") (3 : Int32) [(.ref e0), (.ref e1), (.ref e2)] .null ∧ Exa Z h r "[Ljava/lang/Object;" ∧ Ovr Z kr "java/lang/Object" ∧ h0.size ≤ r
theorem rmCoT3 (hcx : Cx Z a0 zc de kde em el ee kee mr) (d : Addr) (kd : ClassId) (e0 : Addr) (e1 : Addr) (e2 : Addr) (h0 : Heap) (O0 : Old Z Z.heap.size h0) (Pr0 : Arv Z h0 d kd (.object "java/lang/Object") (10 : Int32) [(.ref e0), (.ref e1), (.ref e2), .null, .null, .null, .null, .null, .null, .null] .null) (Pr1 : Exa Z h0 d "[Ljava/lang/Object;") (Pr2 : Exa Z h0 e0 "java/lang/String") (Pr3 : Exa Z h0 e1 "java/lang/String") (Pr4 : Exa Z h0 e2 "java/lang/String") : Met l Z consts_1 (⟨"java/util/Arrays", "copyOf", "([Ljava/lang/Object;ILjava/lang/Class;)[Ljava/lang/Object;"⟩ : MethodName) jdk_65_method_120_code 4 (some (.array (.object "java/lang/Object"))) [] RrmCoT3 [] #[(.ref d), (.int (3 : Int32)), (.ref mr)] h0 (QrmCoT3 Z de el em d kd e0 e1 e2 h0) := by
  have ⟨hw, hEL, O2, P5, OD, AD, XM, OM, OL, XL, FL, AE, MR⟩ := hcx
  refine Met.start (a0 := a0) (Ls := #[vR d, vI (3 : Int32), vR mr, .unset]) pn32 hEL O0 (fun m => by first | (simp [entryFrame, mkF, argsToLocals, Value.category]; done) | rfl) ?_
  intro p e s m below meth cc T0 vm0 X0 sf0_ hby hml hret hnm
  have hx := X0.hx
  have D : ∀ {n r}, decode jdk_65_method_120_code n = r → decode cc.code n = r := fun d => hb hby d
  have zz := X0.ge
  have A0 := X0.at
  have l1 := ltA Pr0.lt
  have l2 := ltA Pr2.lt
  have l3 := ltA Pr3.lt
  have l4 := ltA Pr4.lt
  refine Gets.via (fun _ k => (XS.aloadN A0 hx rfl (D d32_0) rfl rfl k)) ?_
  refine X0.ldcM (w204 hw) MR rfl (D d32_1) fun T5 X5 => ?_
  refine X5.acmpW hx rfl rfl rfl (pc0 := 3) (pc' := 6) (same := true) rfl (D d32_3) rfl (by simp) (by decide) (by decide) ?_
  have A6 := X5.at
  refine Gets.via (fun _ k => (XS.iloadN A6 hx rfl (D d32_6) rfl k)) ?_
  refine X5.newR (ad := "[Ljava/lang/Object;") (w205 hw) (w181 hw) rfl (D d32_7) rfl (by decide) (cap := 3) (by decide) (by decide) (by decide) (by decide) (by decide) fun T7 h7 a7 k7 X7 C7 E7 g7 Z7 Ov7 V7 => ?_
  have z7 := E7.1
  have l7 := ltA V7.lt
  have V7_ : Arv Z h7 a7 k7 (.object "java/lang/Object") (3 : Int32) [.null, .null, .null] .null := padN V7 3
  show Gets p e below _ (T7.setTop (mkF m 10 #[vR d, vI (3 : Int32), vR mr, .unset] [(.ref a7)]))
  have A8 := X7.at
  refine Gets.via (fun _ k => (XS.goto A8 hx rfl (pc0 := 10) (pc' := 24) rfl (D d32_10) (by decide) (by decide) k)) ?_
  refine Gets.via (fun _ k => (XS.astoreN A8 hx rfl (D d32_24) rfl rfl (l' := #[vR d, vI (3 : Int32), vR mr, vR a7]) rfl (XS.aloadN A8 hx rfl (D d32_25) rfl rfl (XS.iconst A8 hx rfl (D d32_26) (XS.aloadN A8 hx rfl (D d32_27) rfl rfl (XS.iconst A8 hx rfl (D d32_28) (XS.aloadN A8 hx rfl (D d32_29) rfl rfl k))))))) ?_
  have f9 := Pr0.ext E7
  refine X7.alen f9 rfl rfl (D d32_30) ?_
  refine Gets.via (fun _ k => (XS.iloadN A8 hx rfl (D d32_31) rfl k)) ?_
  refine X7.callS (W := 4) (w206 hw) (w207 hw) (w178 hw) (w208 hw) (by decide) (X7.payM (sf := []) (rmmin_10_3 hcx  h7 X7.old ) sf0 (w208 hw) (w178 hw) (by decide) (by decide)) rfl (sz hml rfl) (argsL := [(.int (10 : Int32)), (.int (3 : Int32))]) (rest := [(.int (0 : Int32)), (.ref a7), (.int (0 : Int32)), (.ref d)]) (lenOf pd16 rfl) rfl rfl (mroom rfl rfl) (D d32_32) (by decide) (by decide) fun T10 h10 vm10 v10 X10 C10 z10 q10 => ?_
  obtain ⟨rfl, K10⟩ := q10
  rw [K10] at X10 C10
  show Gets p e below _ (T10.setTop (mkF m 35 #[vR d, vI (3 : Int32), vR mr, vR a7] [(.int (3 : Int32)), (.int (0 : Int32)), (.ref a7), (.int (0 : Int32)), (.ref d)]))
  have f12 := Pr4.ext E7
  have f13 := Pr3.ext E7
  have f14 := Pr2.ext E7
  refine X10.copy (w209 hw) (w212 hw) (w210 hw) (w211 hw) (us := [(.ref e0), (.ref e1), (.ref e2)]) f9 V7_ (Or.inr ⟨rfl, rfl, ⟨(stoV V7_ Ov7 (Ins.of_exa f14 (w182 hw))), ⟨(stoV V7_ Ov7 (Ins.of_exa f13 (w182 hw))), ⟨(stoV V7_ Ov7 (Ins.of_exa f12 (w182 hw))), trivial⟩⟩⟩⟩) (by decide) (by decide) (by decide) (by decide) (by decide) rfl (Nat.le_of_ble_eq_true rfl) (leA (by omega)) (Safe.exa X10.hZ.alike Z7 (by decide) (by decide)) rfl (sz hml rfl) rfl (D d32_35) (by decide) (W := 0) (mroom rfl rfl) (by decide) fun T11 h11 X11 C11 K11 V11 => ?_
  have z11 := K11.1
  have V11_ : Arv Z h11 a7 k7 (.object "java/lang/Object") (3 : Int32) [(.ref e0), (.ref e1), (.ref e2)] .null := V11
  have A15 := X11.at
  refine Gets.via (fun _ k => (XS.aloadN A15 hx rfl (D d32_38) rfl rfl k)) ?_
  have f16 := Z7.keep K11
  exact X11.retA hret rfl rfl rfl (D d32_39) (by decide) (by decide) (fun vmE CE => ⟨a7, k7, rfl, (((Keep.refl h0 []).ext E7).trans K11 (allS (Or.inr (leA (by omega))) all0)), V11_, f16, Ov7, (leA (by omega))⟩)
abbrev RrmCo3 : Room := { frames := 2, cells := 1, slots := 3, locals := 37 }
def QrmCo3 (Z : State) (de : Addr) (el : Addr) (em : Addr) (d : Addr) (kd : ClassId) (e0 : Addr) (e1 : Addr) (e2 : Addr) (h0 : Heap) (v : Option Value) (vm : Vm) (h : Heap) : Prop := ∃ (r : Addr) (kr : ClassId), v = some (.ref r) ∧ Keep h0 h [] ∧ Arv Z h r kr (.object "java/lang/Object") (3 : Int32) [(.ref e0), (.ref e1), (.ref e2)] .null ∧ Exa Z h r "[Ljava/lang/Object;" ∧ Ovr Z kr "java/lang/Object" ∧ h0.size ≤ r
theorem rmCo3 (hcx : Cx Z a0 zc de kde em el ee kee mr) (d : Addr) (kd : ClassId) (e0 : Addr) (e1 : Addr) (e2 : Addr) (h0 : Heap) (O0 : Old Z Z.heap.size h0) (Pr0 : Arv Z h0 d kd (.object "java/lang/Object") (10 : Int32) [(.ref e0), (.ref e1), (.ref e2), .null, .null, .null, .null, .null, .null, .null] .null) (Pr1 : Exa Z h0 d "[Ljava/lang/Object;") (Pr2 : Exa Z h0 e0 "java/lang/String") (Pr3 : Exa Z h0 e1 "java/lang/String") (Pr4 : Exa Z h0 e2 "java/lang/String") : Met l Z consts_1 (⟨"java/util/Arrays", "copyOf", "([Ljava/lang/Object;I)[Ljava/lang/Object;"⟩ : MethodName) jdk_65_method_119_code 2 (some (.array (.object "java/lang/Object"))) [] RrmCo3 [] #[(.ref d), (.int (3 : Int32))] h0 (QrmCo3 Z de el em d kd e0 e1 e2 h0) := by
  have ⟨hw, hEL, O2, P5, OD, AD, XM, OM, OL, XL, FL, AE, MR⟩ := hcx
  refine Met.start (a0 := a0) (Ls := #[vR d, vI (3 : Int32)]) pn31 hEL O0 (fun m => by first | (simp [entryFrame, mkF, argsToLocals, Value.category]; done) | rfl) ?_
  intro p e s m below meth cc T0 vm0 X0 sf0_ hby hml hret hnm
  have hx := X0.hx
  have D : ∀ {n r}, decode jdk_65_method_119_code n = r → decode cc.code n = r := fun d => hb hby d
  have zz := X0.ge
  have A0 := X0.at
  have l1 := ltA Pr0.lt
  have l2 := ltA Pr2.lt
  have l3 := ltA Pr3.lt
  have l4 := ltA Pr4.lt
  refine Gets.via (fun _ k => (XS.aloadN A0 hx rfl (D d31_0) rfl rfl (XS.iloadN A0 hx rfl (D d31_1) rfl (XS.aloadN A0 hx rfl (D d31_2) rfl rfl k)))) ?_
  refine X0.getC (w195 hw) (w196 hw) (w109 hw) (w198 hw) (w197 hw) (w199 hw) Pr1 MR rfl (sz hml rfl) rfl (D d31_3) (by decide) (W := 2) (mroom rfl rfl) (by decide) fun T5 X5 => ?_
  refine X5.callS (W := 0) (w201 hw) (w202 hw) (w193 hw) (w203 hw) (by decide) (X5.payM (sf := []) (rmCoT3 hcx d kd e0 e1 e2 h0 X5.old Pr0 Pr1 Pr2 Pr3 Pr4) sf0 (w203 hw) (w193 hw) (by decide) (by decide)) rfl (sz hml rfl) (argsL := [(.ref d), (.int (3 : Int32)), (.ref mr)]) (rest := []) (lenOf pd21 rfl) rfl rfl (mroom rfl rfl) (D d31_6) (by decide) (by decide) fun T6 h6 vm6 v6 X6 C6 z6 q6 => ?_
  obtain ⟨r6, kr6, rfl, K6, g6_0, g6_1, g6_2, g6_3⟩ := q6
  have l7 := ltA g6_0.lt
  show Gets p e below _ (T6.setTop (mkF m 9 #[vR d, vI (3 : Int32)] [(.ref r6)]))
  exact X6.retA hret rfl rfl rfl (D d31_9) (by decide) (by decide) (fun vmE CE => ⟨r6, kr6, rfl, ((Keep.refl h0 []).trans K6 all0), g6_0, g6_1, g6_2, g6_3⟩)
abbrev RrmToA3 : Room := { frames := 3, cells := 1, slots := 3, locals := 50 }
def QrmToA3 (Z : State) (de : Addr) (el : Addr) (em : Addr) (x : Addr) (d : Addr) (kd : ClassId) (e0 : Addr) (e1 : Addr) (e2 : Addr) (h0 : Heap) (v : Option Value) (vm : Vm) (h : Heap) : Prop := ∃ (r : Addr) (kr : ClassId), v = some (.ref r) ∧ Keep h0 h [] ∧ Arv Z h r kr (.object "java/lang/Object") (3 : Int32) [(.ref e0), (.ref e1), (.ref e2)] .null ∧ Exa Z h r "[Ljava/lang/Object;" ∧ Ovr Z kr "java/lang/Object" ∧ h0.size ≤ r
theorem rmToA3 (hcx : Cx Z a0 zc de kde em el ee kee mr) (x : Addr) (d : Addr) (kd : ClassId) (e0 : Addr) (e1 : Addr) (e2 : Addr) (h0 : Heap) (O0 : Old Z Z.heap.size h0) (Pr0 : Fld Z h0 x "java/util/ArrayList" "size" "I" (.int (3 : Int32))) (Pr1 : Fld Z h0 x "java/util/ArrayList" "elementData" "[Ljava/lang/Object;" (.ref d)) (Pr2 : Arv Z h0 d kd (.object "java/lang/Object") (10 : Int32) [(.ref e0), (.ref e1), (.ref e2), .null, .null, .null, .null, .null, .null, .null] .null) (Pr3 : Exa Z h0 d "[Ljava/lang/Object;") (Pr4 : Exa Z h0 e0 "java/lang/String") (Pr5 : Exa Z h0 e1 "java/lang/String") (Pr6 : Exa Z h0 e2 "java/lang/String") : Met l Z consts_1 (⟨"java/util/ArrayList", "toArray", "()[Ljava/lang/Object;"⟩ : MethodName) jdk_38_method_16_code 1 (some (.array (.object "java/lang/Object"))) [] RrmToA3 [] #[(.ref x)] h0 (QrmToA3 Z de el em x d kd e0 e1 e2 h0) := by
  have ⟨hw, hEL, O2, P5, OD, AD, XM, OM, OL, XL, FL, AE, MR⟩ := hcx
  refine Met.start (a0 := a0) (Ls := #[vR x]) pn30 hEL O0 (fun m => by first | (simp [entryFrame, mkF, argsToLocals, Value.category]; done) | rfl) ?_
  intro p e s m below meth cc T0 vm0 X0 sf0_ hby hml hret hnm
  have hx := X0.hx
  have D : ∀ {n r}, decode jdk_38_method_16_code n = r → decode cc.code n = r := fun d => hb hby d
  have zz := X0.ge
  have A0 := X0.at
  have l1 := ltA Pr0.lt
  have l2 := ltA Pr2.lt
  have l3 := ltA Pr4.lt
  have l4 := ltA Pr5.lt
  have l5 := ltA Pr6.lt
  refine Gets.via (fun _ k => (XS.aloadN A0 hx rfl (D d30_0) rfl rfl k)) ?_
  refine X0.getF (host := "") (Or.inl (w80 hw)) Via.refl Pr1 rfl rfl (D d30_1) fun T6 X6 => ?_
  have A7 := X6.at
  refine Gets.via (fun _ k => (XS.aloadN A7 hx rfl (D d30_4) rfl rfl k)) ?_
  refine X6.getF (host := "") (Or.inl (w120 hw)) Via.refl Pr0 rfl rfl (D d30_5) fun T8 X8 => ?_
  refine X8.callS (W := 0) (w191 hw) (w192 hw) (w193 hw) (w194 hw) (by decide) (X8.payM (sf := []) (rmCo3 hcx d kd e0 e1 e2 h0 X8.old Pr2 Pr3 Pr4 Pr5 Pr6) sf0 (w194 hw) (w193 hw) (by decide) (by decide)) rfl (sz hml rfl) (argsL := [(.ref d), (.int (3 : Int32))]) (rest := []) (lenOf pd22 rfl) rfl rfl (mroom rfl rfl) (D d30_8) (by decide) (by decide) fun T9 h9 vm9 v9 X9 C9 z9 q9 => ?_
  obtain ⟨r9, kr9, rfl, K9, g9_0, g9_1, g9_2, g9_3⟩ := q9
  have l10 := ltA g9_0.lt
  show Gets p e below _ (T9.setTop (mkF m 11 #[vR x] [(.ref r9)]))
  exact X9.retA hret rfl rfl rfl (D d30_11) (by decide) (by decide) (fun vmE CE => ⟨r9, kr9, rfl, ((Keep.refl h0 []).trans K9 all0), g9_0, g9_1, g9_2, g9_3⟩)
abbrev RrmLf3 : Room := { frames := 5, cells := 2, slots := 5, locals := 63 }
def QrmLf3 (Z : State) (de : Addr) (el : Addr) (em : Addr) (r : Addr) (kr : ClassId) (e0 : Addr) (e1 : Addr) (e2 : Addr) (h0 : Heap) (v : Option Value) (vm : Vm) (h : Heap) : Prop := ∃ (a : Addr) (t : Addr) (kn : ClassId), v = some (.ref a) ∧ Keep h0 h [] ∧ Exa Z h a "java/util/ImmutableCollections$ListN" ∧ Fld Z h a "java/util/ImmutableCollections$ListN" "elements" "[Ljava/lang/Object;" (.ref t) ∧ Arv Z h t kn (.object "java/lang/Object") (3 : Int32) [(.ref e0), (.ref e1), (.ref e2)] .null ∧ h0.size ≤ t ∧ h0.size ≤ a
theorem rmLf3 (hcx : Cx Z a0 zc de kde em el ee kee mr) (r : Addr) (kr : ClassId) (e0 : Addr) (e1 : Addr) (e2 : Addr) (h0 : Heap) (O0 : Old Z Z.heap.size h0) (Pr0 : Arv Z h0 r kr (.object "java/lang/Object") (3 : Int32) [(.ref e0), (.ref e1), (.ref e2)] .null) (Pr1 : Exa Z h0 e0 "java/lang/String") (Pr2 : Exa Z h0 e1 "java/lang/String") (Pr3 : Exa Z h0 e2 "java/lang/String") : Met l Z consts_1 (⟨"java/util/ImmutableCollections", "listFromArray", "([Ljava/lang/Object;)Ljava/util/List;"⟩ : MethodName) jdk_56_method_4_code 3 (some (.object "java/util/List")) [] RrmLf3 [] #[(.ref r)] h0 (QrmLf3 Z de el em r kr e0 e1 e2 h0) := by
  have ⟨hw, hEL, O2, P5, OD, AD, XM, OM, OL, XL, FL, AE, MR⟩ := hcx
  refine Met.start (a0 := a0) (Ls := #[vR r, .unset, .unset]) pn35 hEL O0 (fun m => by first | (simp [entryFrame, mkF, argsToLocals, Value.category]; done) | rfl) ?_
  intro p e s m below meth cc T0 vm0 X0 sf0_ hby hml hret hnm
  have hx := X0.hx
  have D : ∀ {n r}, decode jdk_56_method_4_code n = r → decode cc.code n = r := fun d => hb hby d
  have zz := X0.ge
  have A0 := X0.at
  have l1 := ltA Pr0.lt
  have l2 := ltA Pr1.lt
  have l3 := ltA Pr2.lt
  have l4 := ltA Pr3.lt
  refine Gets.via (fun _ k => (XS.aloadN A0 hx rfl (D d35_0) rfl rfl k)) ?_
  refine X0.alen Pr0 rfl rfl (D d35_1) ?_
  refine X0.newR (ad := "[Ljava/lang/Object;") (w219 hw) (w181 hw) rfl (D d35_2) rfl (by decide) (cap := 3) (by decide) (by decide) (by decide) (by decide) (by decide) fun T5 h5 a5 k5 X5 C5 E5 g5 Z5 Ov5 V5 => ?_
  have z5 := E5.1
  have l5 := ltA V5.lt
  have V5_ : Arv Z h5 a5 k5 (.object "java/lang/Object") (3 : Int32) [.null, .null, .null] .null := padN V5 3
  have A6 := X5.at
  refine Gets.via (fun _ k => (XS.astoreN A6 hx rfl (D d35_5) rfl rfl (l' := #[vR r, vR a5, .unset]) rfl (XS.iconst A6 hx rfl (D d35_6) (XS.istoreN A6 hx rfl (D d35_7) rfl (l' := #[vR r, vR a5, vI (0 : Int32)]) rfl (XS.iloadN A6 hx rfl (D d35_8) rfl (XS.aloadN A6 hx rfl (D d35_9) rfl rfl k)))))) ?_
  show Gets p e below _ (T5.setTop (mkF m 10 #[vR r, vR a5, vI (0 : Int32)] [(.ref r), (.int (0 : Int32))]))
  have f7 := Pr0.ext E5
  refine X5.alen f7 rfl rfl (D d35_10) ?_
  refine Gets.via (fun _ k => (XS.icmpNo A6 hx rfl (D d35_11) rfl (Jvm.Free.XT.ii_ge_f (by decide)) k)) ?_
  refine Gets.via (fun _ k => (XS.aloadN A6 hx rfl (D d35_14) rfl rfl (XS.iloadN A6 hx rfl (D d35_15) rfl (XS.aloadN A6 hx rfl (D d35_16) rfl rfl (XS.iloadN A6 hx rfl (D d35_17) rfl k))))) ?_
  refine X5.ldR f7 rfl (i := 0) (by decide) (by decide) (by decide) rfl rfl rfl (D d35_18) ?_
  refine X5.callS (W := 2) (w220 hw) (w221 hw) (w222 hw) (w223 hw) (by decide) (X5.payM (sf := []) (rm36 hcx e0 h5 X5.old ) sf0 (w223 hw) (w222 hw) (by decide) (by decide)) rfl (sz hml rfl) (argsL := [(.ref e0)]) (rest := [(.int (0 : Int32)), (.ref a5)]) (lenOf pd8 rfl) rfl rfl (mroom rfl rfl) (D d35_19) (by decide) (by decide) fun T8 h8 vm8 v8 X8 C8 z8 q8 => ?_
  obtain ⟨rfl, K8⟩ := q8
  rw [K8] at X8 C8
  show Gets p e below _ (T8.setTop (mkF m 22 #[vR r, vR a5, vI (0 : Int32)] [(.ref e0), (.int (0 : Int32)), (.ref a5)]))
  have f10 := Pr1.ext E5
  refine X8.stR V5_ (stoV V5_ Ov5 (Ins.of_exa f10 (w182 hw))) rfl (i := 0) (by decide) (by decide) (Nat.le_of_ble_eq_true rfl) (by decide) (leA (by omega)) rfl rfl (D d35_22) fun T9 h9 X9 C9 K9 V9 => ?_
  have z9 := K9.1
  have V9_ : Arv Z h9 a5 k5 (.object "java/lang/Object") (3 : Int32) [(.ref e0), .null, .null] .null := V9
  have A11 := X9.at
  refine Gets.via (fun _ k => (iincV A11 hx rfl (D d35_23) rfl (v := (1 : Int32)) (by decide) (l' := #[vR r, vR a5, vI (1 : Int32)]) rfl (XS.goto A11 hx rfl (pc0 := 26) (pc' := 8) rfl (D d35_26) (by decide) (by decide) k))) ?_
  refine Gets.via (fun _ k => (XS.iloadN A11 hx rfl (D d35_8) rfl (XS.aloadN A11 hx rfl (D d35_9) rfl rfl k))) ?_
  have f12 := f7.keep K9 (ninS (neA (by omega)) nin0)
  refine X9.alen f12 rfl rfl (D d35_10) ?_
  refine Gets.via (fun _ k => (XS.icmpNo A11 hx rfl (D d35_11) rfl (Jvm.Free.XT.ii_ge_f (by decide)) k)) ?_
  refine Gets.via (fun _ k => (XS.aloadN A11 hx rfl (D d35_14) rfl rfl (XS.iloadN A11 hx rfl (D d35_15) rfl (XS.aloadN A11 hx rfl (D d35_16) rfl rfl (XS.iloadN A11 hx rfl (D d35_17) rfl k))))) ?_
  show Gets p e below _ (T9.setTop (mkF m 18 #[vR r, vR a5, vI (1 : Int32)] [(.int (1 : Int32)), (.ref r), (.int (1 : Int32)), (.ref a5)]))
  refine X9.ldR f12 rfl (i := 1) (by decide) (by decide) (by decide) rfl rfl rfl (D d35_18) ?_
  refine X9.callS (W := 2) (w220 hw) (w221 hw) (w222 hw) (w223 hw) (by decide) (X9.payM (sf := []) (rm36 hcx e1 h9 X9.old ) sf0 (w223 hw) (w222 hw) (by decide) (by decide)) rfl (sz hml rfl) (argsL := [(.ref e1)]) (rest := [(.int (1 : Int32)), (.ref a5)]) (lenOf pd8 rfl) rfl rfl (mroom rfl rfl) (D d35_19) (by decide) (by decide) fun T13 h13 vm13 v13 X13 C13 z13 q13 => ?_
  obtain ⟨rfl, K13⟩ := q13
  rw [K13] at X13 C13
  have f15 := Pr2.ext E5
  have f16 := f15.keep K9
  refine X13.stR V9_ (stoV V9_ Ov5 (Ins.of_exa f16 (w182 hw))) rfl (i := 1) (by decide) (by decide) (Nat.le_of_ble_eq_true rfl) (by decide) (leA (by omega)) rfl rfl (D d35_22) fun T14 h14 X14 C14 K14 V14 => ?_
  have z14 := K14.1
  have V14_ : Arv Z h14 a5 k5 (.object "java/lang/Object") (3 : Int32) [(.ref e0), (.ref e1), .null] .null := V14
  have A17 := X14.at
  refine Gets.via (fun _ k => (iincV A17 hx rfl (D d35_23) rfl (v := (2 : Int32)) (by decide) (l' := #[vR r, vR a5, vI (2 : Int32)]) rfl (XS.goto A17 hx rfl (pc0 := 26) (pc' := 8) rfl (D d35_26) (by decide) (by decide) k))) ?_
  refine Gets.via (fun _ k => (XS.iloadN A17 hx rfl (D d35_8) rfl (XS.aloadN A17 hx rfl (D d35_9) rfl rfl k))) ?_
  show Gets p e below _ (T14.setTop (mkF m 10 #[vR r, vR a5, vI (2 : Int32)] [(.ref r), (.int (2 : Int32))]))
  have f18 := f12.keep K14 (ninS (neA (by omega)) nin0)
  refine X14.alen f18 rfl rfl (D d35_10) ?_
  refine Gets.via (fun _ k => (XS.icmpNo A17 hx rfl (D d35_11) rfl (Jvm.Free.XT.ii_ge_f (by decide)) k)) ?_
  refine Gets.via (fun _ k => (XS.aloadN A17 hx rfl (D d35_14) rfl rfl (XS.iloadN A17 hx rfl (D d35_15) rfl (XS.aloadN A17 hx rfl (D d35_16) rfl rfl (XS.iloadN A17 hx rfl (D d35_17) rfl k))))) ?_
  refine X14.ldR f18 rfl (i := 2) (by decide) (by decide) (by decide) rfl rfl rfl (D d35_18) ?_
  refine X14.callS (W := 2) (w220 hw) (w221 hw) (w222 hw) (w223 hw) (by decide) (X14.payM (sf := []) (rm36 hcx e2 h14 X14.old ) sf0 (w223 hw) (w222 hw) (by decide) (by decide)) rfl (sz hml rfl) (argsL := [(.ref e2)]) (rest := [(.int (2 : Int32)), (.ref a5)]) (lenOf pd8 rfl) rfl rfl (mroom rfl rfl) (D d35_19) (by decide) (by decide) fun T19 h19 vm19 v19 X19 C19 z19 q19 => ?_
  obtain ⟨rfl, K19⟩ := q19
  rw [K19] at X19 C19
  show Gets p e below _ (T19.setTop (mkF m 22 #[vR r, vR a5, vI (2 : Int32)] [(.ref e2), (.int (2 : Int32)), (.ref a5)]))
  have f21 := Pr3.ext E5
  have f22 := f21.keep K9
  have f23 := f22.keep K14
  refine X19.stR V14_ (stoV V14_ Ov5 (Ins.of_exa f23 (w182 hw))) rfl (i := 2) (by decide) (by decide) (Nat.le_of_ble_eq_true rfl) (by decide) (leA (by omega)) rfl rfl (D d35_22) fun T20 h20 X20 C20 K20 V20 => ?_
  have z20 := K20.1
  have V20_ : Arv Z h20 a5 k5 (.object "java/lang/Object") (3 : Int32) [(.ref e0), (.ref e1), (.ref e2)] .null := V20
  have A24 := X20.at
  refine Gets.via (fun _ k => (iincV A24 hx rfl (D d35_23) rfl (v := (3 : Int32)) (by decide) (l' := #[vR r, vR a5, vI (3 : Int32)]) rfl (XS.goto A24 hx rfl (pc0 := 26) (pc' := 8) rfl (D d35_26) (by decide) (by decide) k))) ?_
  refine Gets.via (fun _ k => (XS.iloadN A24 hx rfl (D d35_8) rfl (XS.aloadN A24 hx rfl (D d35_9) rfl rfl k))) ?_
  have f25 := f18.keep K20 (ninS (neA (by omega)) nin0)
  refine X20.alen f25 rfl rfl (D d35_10) ?_
  refine Gets.via (fun _ k => (XS.icmpYes A24 hx rfl (pc0 := 11) (pc' := 29) rfl (D d35_11) rfl (Jvm.Free.XT.ii_ge_t (by decide)) (by decide) (by decide) k)) ?_
  refine X20.new (w110 hw) (w224 hw) (w149 hw) rfl (D d35_29) (by decide) (by decide) fun T26 h26 a26 X26 C26 E26 g26 Z26 S26 D26 => ?_
  have z26 := E26.1
  have l26 := ltA Z26.lt
  show Gets p e below _ (T26.setTop (mkF m 32 #[vR r, vR a5, vI (3 : Int32)] [(.ref a26)]))
  have A27 := X26.at
  refine Gets.via (fun _ k => (XS.dup A27 hx rfl (D d35_32) rfl rfl (XS.aloadN A27 hx rfl (D d35_33) rfl rfl (XS.iconst A27 hx rfl (D d35_34) k)))) ?_
  refine X26.callIN (W := 1) rfl (w225 hw) (w226 hw) (w228 hw) (by decide) (X26.payM (sf := []) (rm37 hcx a26 a5 h26 X26.old Z26 ((D26 (Or.inr (w152 hw)) (ty := (.array (.object "java/lang/Object"))) (by decide) : Fld Z h26 a26 "java/util/ImmutableCollections$ListN" "elements" "[Ljava/lang/Object;" .null)) (D26 (Or.inr (w244 hw)) (ty := .boolean) (by decide) : Fld Z h26 a26 "java/util/ImmutableCollections$ListN" "allowNulls" "Z" (.int (0 : Int32))) (leA (by omega))) sf0 (w228 hw) (w149 hw) (by decide) (by decide)) rfl (sz hml rfl) (a := a26) (argsL := [(.ref a5), (.int (0 : Int32))]) (rest := [(.ref a26)]) (lenOf pd26 rfl) rfl rfl (mroom rfl rfl) (D d35_35) (by decide) (by decide) fun T28 h28 vm28 v28 X28 C28 z28 q28 => ?_
  obtain ⟨rfl, K28, g28_0, g28_1⟩ := q28
  have l29 := ltA g28_0.lt
  have f30 := V20_.ext E26
  have f31 := f30.keep K28 (ninS (neA (by omega)) nin0)
  exact X28.retA hret rfl rfl rfl (D d35_38) (by decide) (by decide) (fun vmE CE => ⟨a26, a5, k5, rfl, (((((((Keep.refl h0 []).ext E5).trans K9 (allS (Or.inr (leA (by omega))) all0)).trans K14 (allS (Or.inr (leA (by omega))) all0)).trans K20 (allS (Or.inr (leA (by omega))) all0)).ext E26).trans K28 (allS (Or.inr (leA (by omega))) all0)), g28_0, g28_1, f31, (leA (by omega)), (leA (by omega))⟩)
abbrev RrmOf3 : Room := { frames := 6, cells := 2, slots := 5, locals := 77 }
def QrmOf3 (Z : State) (de : Addr) (el : Addr) (em : Addr) (r : Addr) (kr : ClassId) (e0 : Addr) (e1 : Addr) (e2 : Addr) (h0 : Heap) (v : Option Value) (vm : Vm) (h : Heap) : Prop := ∃ (a : Addr) (t : Addr) (kn : ClassId), v = some (.ref a) ∧ Keep h0 h [] ∧ Exa Z h a "java/util/ImmutableCollections$ListN" ∧ Fld Z h a "java/util/ImmutableCollections$ListN" "elements" "[Ljava/lang/Object;" (.ref t) ∧ Arv Z h t kn (.object "java/lang/Object") (3 : Int32) [(.ref e0), (.ref e1), (.ref e2)] .null ∧ h0.size ≤ t ∧ h0.size ≤ a
theorem rmOf3 (hcx : Cx Z a0 zc de kde em el ee kee mr) (r : Addr) (kr : ClassId) (e0 : Addr) (e1 : Addr) (e2 : Addr) (h0 : Heap) (O0 : Old Z Z.heap.size h0) (Pr0 : Arv Z h0 r kr (.object "java/lang/Object") (3 : Int32) [(.ref e0), (.ref e1), (.ref e2)] .null) (Pr1 : Exa Z h0 e0 "java/lang/String") (Pr2 : Exa Z h0 e1 "java/lang/String") (Pr3 : Exa Z h0 e2 "java/lang/String") : Met l Z consts_1 (⟨"java/util/List", "of", "([Ljava/lang/Object;)Ljava/util/List;"⟩ : MethodName) jdk_40_method_47_code 2 (some (.object "java/util/List")) [] RrmOf3 [] #[(.ref r)] h0 (QrmOf3 Z de el em r kr e0 e1 e2 h0) := by
  have ⟨hw, hEL, O2, P5, OD, AD, XM, OM, OL, XL, FL, AE, MR⟩ := hcx
  refine Met.start (a0 := a0) (Ls := #[vR r, .unset]) pn34 hEL O0 (fun m => by first | (simp [entryFrame, mkF, argsToLocals, Value.category]; done) | rfl) ?_
  intro p e s m below meth cc T0 vm0 X0 sf0_ hby hml hret hnm
  have hx := X0.hx
  have D : ∀ {n r}, decode jdk_40_method_47_code n = r → decode cc.code n = r := fun d => hb hby d
  have zz := X0.ge
  have A0 := X0.at
  have l1 := ltA Pr0.lt
  have l2 := ltA Pr1.lt
  have l3 := ltA Pr2.lt
  have l4 := ltA Pr3.lt
  refine Gets.via (fun _ k => (XS.aloadN A0 hx rfl (D d34_0) rfl rfl k)) ?_
  refine X0.alen Pr0 rfl rfl (D d34_1) ?_
  refine Gets.via (fun _ k => (XS.tswOut A0 hx rfl (pc0 := 2) (pc' := 59) rfl (D d34_2) rfl (by decide) (by decide) (by decide) k)) ?_
  refine Gets.via (fun _ k => (XS.aloadN A0 hx rfl (D d34_59) rfl rfl k)) ?_
  refine X0.callS (W := 0) (w216 hw) (w217 hw) (w103 hw) (w218 hw) (by decide) (X0.payM (sf := []) (rmLf3 hcx r kr e0 e1 e2 h0 X0.old Pr0 Pr1 Pr2 Pr3) sf0 (w218 hw) (w103 hw) (by decide) (by decide)) rfl (sz hml rfl) (argsL := [(.ref r)]) (rest := []) (lenOf pd24 rfl) rfl rfl (mroom rfl rfl) (D d34_60) (by decide) (by decide) fun T5 h5 vm5 v5 X5 C5 z5 q5 => ?_
  obtain ⟨a5, t5, kn5, rfl, K5, g5_0, g5_1, g5_2, g5_3, g5_4⟩ := q5
  have l6 := ltA g5_0.lt
  have l7 := ltA g5_2.lt
  show Gets p e below _ (T5.setTop (mkF m 63 #[vR r, .unset] [(.ref a5)]))
  exact X5.retA hret rfl rfl rfl (D d34_63) (by decide) (by decide) (fun vmE CE => ⟨a5, t5, kn5, rfl, ((Keep.refl h0 []).trans K5 all0), g5_0, g5_1, g5_2, g5_3, g5_4⟩)
abbrev RrmLc3 : Room := { frames := 7, cells := 3, slots := 8, locals := 90 }
def QrmLc3 (Z : State) (de : Addr) (el : Addr) (em : Addr) (x : Addr) (d : Addr) (kd : ClassId) (e0 : Addr) (e1 : Addr) (e2 : Addr) (h0 : Heap) (v : Option Value) (vm : Vm) (h : Heap) : Prop := ∃ (a : Addr) (t : Addr) (kn : ClassId), v = some (.ref a) ∧ Keep h0 h [] ∧ Exa Z h a "java/util/ImmutableCollections$ListN" ∧ Fld Z h a "java/util/ImmutableCollections$ListN" "elements" "[Ljava/lang/Object;" (.ref t) ∧ Arv Z h t kn (.object "java/lang/Object") (3 : Int32) [(.ref e0), (.ref e1), (.ref e2)] .null ∧ h0.size ≤ t ∧ h0.size ≤ a
theorem rmLc3 (hcx : Cx Z a0 zc de kde em el ee kee mr) (x : Addr) (d : Addr) (kd : ClassId) (e0 : Addr) (e1 : Addr) (e2 : Addr) (h0 : Heap) (O0 : Old Z Z.heap.size h0) (Pr0 : Exa Z h0 x "java/util/ArrayList") (Pr1 : Fld Z h0 x "java/util/ArrayList" "size" "I" (.int (3 : Int32))) (Pr2 : Fld Z h0 x "java/util/ArrayList" "elementData" "[Ljava/lang/Object;" (.ref d)) (Pr3 : Arv Z h0 d kd (.object "java/lang/Object") (10 : Int32) [(.ref e0), (.ref e1), (.ref e2), .null, .null, .null, .null, .null, .null, .null] .null) (Pr4 : Exa Z h0 d "[Ljava/lang/Object;") (Pr5 : Exa Z h0 e0 "java/lang/String") (Pr6 : Exa Z h0 e1 "java/lang/String") (Pr7 : Exa Z h0 e2 "java/lang/String") : Met l Z consts_1 (⟨"java/util/ImmutableCollections", "listCopy", "(Ljava/util/Collection;)Ljava/util/List;"⟩ : MethodName) jdk_56_method_3_code 2 (some (.object "java/util/List")) [] RrmLc3 [] #[(.ref x)] h0 (QrmLc3 Z de el em x d kd e0 e1 e2 h0) := by
  have ⟨hw, hEL, O2, P5, OD, AD, XM, OM, OL, XL, FL, AE, MR⟩ := hcx
  refine Met.start (a0 := a0) (Ls := #[vR x, .unset]) pn19 hEL O0 (fun m => by first | (simp [entryFrame, mkF, argsToLocals, Value.category]; done) | rfl) ?_
  intro p e s m below meth cc T0 vm0 X0 sf0_ hby hml hret hnm
  have hx := X0.hx
  have D : ∀ {n r}, decode jdk_56_method_3_code n = r → decode cc.code n = r := fun d => hb hby d
  have zz := X0.ge
  have A0 := X0.at
  have l1 := ltA Pr0.lt
  have l2 := ltA Pr3.lt
  have l3 := ltA Pr5.lt
  have l4 := ltA Pr6.lt
  have l5 := ltA Pr7.lt
  refine Gets.via (fun _ k => (XS.aloadN A0 hx rfl (D d19_0) rfl rfl k)) ?_
  refine X0.instNo (w105 hw) Pr0 (ns_no (w106 hw) (plainS (w262 hw) rfl) (NS.step (w106 hw) (NS.step (w107 hw) (NS.step (w108 hw) (ns_root (w109 hw) (plainS (w262 hw) rfl) (by decide)) (by decide)) (by decide)) (by decide)) (by decide)) rfl rfl (D d19_1) fun T6 X6 => ?_
  have A7 := X6.at
  refine Gets.via (fun _ k => (XS.ifNo A7 hx rfl (D d19_4) rfl (Jvm.Free.XT.i0_ne_f (by decide)) k)) ?_
  refine Gets.via (fun _ k => (XS.aloadN A7 hx rfl (D d19_7) rfl rfl k)) ?_
  refine X6.instNo (w110 hw) Pr0 (ns_no (w106 hw) (plainS (w144 hw) rfl) (NS.step (w106 hw) (NS.step (w107 hw) (NS.step (w108 hw) (ns_root (w109 hw) (plainS (w144 hw) rfl) (by decide)) (by decide)) (by decide)) (by decide)) (by decide)) rfl rfl (D d19_8) fun T8 X8 => ?_
  show Gets p e below _ (T8.setTop (mkF m 11 #[vR x, .unset] [(.int (0 : Int32))]))
  have A9 := X8.at
  refine Gets.via (fun _ k => (XS.ifYes A9 hx rfl (pc0 := 11) (pc' := 31) rfl (D d19_11) rfl (Jvm.Free.XT.i0_eq_t (by decide)) (by decide) (by decide) k)) ?_
  refine Gets.via (fun _ k => (XS.aloadN A9 hx rfl (D d19_31) rfl rfl k)) ?_
  refine X8.callF (W := 0) (w111 hw) (w112 hw) (w113 hw) rfl (w114 hw) (w115 hw) (w116 hw) (w117 hw) (w118 hw) (by decide) (X8.payM (sf := []) (rmAlEmpty3 hcx x h0 X8.old Pr1) sf0 (w119 hw) (w60 hw) (by decide) (by decide)) Pr0 rfl (sz hml rfl) (argsL := []) (rest := []) (lenOf pd10 rfl) rfl rfl (mroom rfl rfl) (D d19_32) (by decide) (by decide) fun T10 h10 vm10 v10 X10 C10 z10 q10 => ?_
  obtain ⟨rfl, K10⟩ := q10
  rw [K10] at X10 C10
  have A11 := X10.at
  refine Gets.via (fun _ k => (XS.ifYes A11 hx rfl (pc0 := 37) (pc' := 44) rfl (D d19_37) rfl (Jvm.Free.XT.i0_eq_t (by decide)) (by decide) (by decide) k)) ?_
  refine Gets.via (fun _ k => (XS.aloadN A11 hx rfl (D d19_44) rfl rfl k)) ?_
  refine X10.callF (W := 0) (w183 hw) (w184 hw) (w185 hw) rfl (w186 hw) (w187 hw) (w188 hw) (w189 hw) (w118 hw) (by decide) (X10.payM (sf := []) (rmToA3 hcx x d kd e0 e1 e2 h0 X10.old Pr1 Pr2 Pr3 Pr4 Pr5 Pr6 Pr7) sf0 (w190 hw) (w60 hw) (by decide) (by decide)) Pr0 rfl (sz hml rfl) (argsL := []) (rest := []) (lenOf pd18 rfl) rfl rfl (mroom rfl rfl) (D d19_45) (by decide) (by decide) fun T12 h12 vm12 v12 X12 C12 z12 q12 => ?_
  obtain ⟨r12, kr12, rfl, K12, g12_0, g12_1, g12_2, g12_3⟩ := q12
  have l13 := ltA g12_0.lt
  have f14 := Pr5.keep K12
  have f15 := Pr6.keep K12
  have f16 := Pr7.keep K12
  refine X12.callS (W := 0) (w213 hw) (w214 hw) (w99 hw) (w215 hw) (by decide) (X12.payM (sf := []) (rmOf3 hcx r12 kr12 e0 e1 e2 h12 X12.old g12_0 f14 f15 f16) sf0 (w215 hw) (w99 hw) (by decide) (by decide)) rfl (sz hml rfl) (argsL := [(.ref r12)]) (rest := []) (lenOf pd24 rfl) rfl rfl (mroom rfl rfl) (D d19_50) (by decide) (by decide) fun T17 h17 vm17 v17 X17 C17 z17 q17 => ?_
  obtain ⟨a17, t17, kn17, rfl, K17, g17_0, g17_1, g17_2, g17_3, g17_4⟩ := q17
  have l18 := ltA g17_0.lt
  have l19 := ltA g17_2.lt
  show Gets p e below _ (T17.setTop (mkF m 53 #[vR x, .unset] [(.ref a17)]))
  exact X17.retA hret rfl rfl rfl (D d19_53) (by decide) (by decide) (fun vmE CE => ⟨a17, t17, kn17, rfl, (((Keep.refl h0 []).trans K12 all0).trans K17 all0), g17_0, g17_1, g17_2, (leA (by omega)), (leA (by omega))⟩)
abbrev RrmCoL3 : Room := { frames := 8, cells := 3, slots := 8, locals := 103 }
def QrmCoL3 (Z : State) (de : Addr) (el : Addr) (em : Addr) (x : Addr) (d : Addr) (kd : ClassId) (e0 : Addr) (e1 : Addr) (e2 : Addr) (h0 : Heap) (v : Option Value) (vm : Vm) (h : Heap) : Prop := ∃ (a : Addr) (t : Addr) (kn : ClassId), v = some (.ref a) ∧ Keep h0 h [] ∧ Exa Z h a "java/util/ImmutableCollections$ListN" ∧ Fld Z h a "java/util/ImmutableCollections$ListN" "elements" "[Ljava/lang/Object;" (.ref t) ∧ Arv Z h t kn (.object "java/lang/Object") (3 : Int32) [(.ref e0), (.ref e1), (.ref e2)] .null ∧ h0.size ≤ t ∧ h0.size ≤ a
theorem rmCoL3 (hcx : Cx Z a0 zc de kde em el ee kee mr) (x : Addr) (d : Addr) (kd : ClassId) (e0 : Addr) (e1 : Addr) (e2 : Addr) (h0 : Heap) (O0 : Old Z Z.heap.size h0) (Pr0 : Exa Z h0 x "java/util/ArrayList") (Pr1 : Fld Z h0 x "java/util/ArrayList" "size" "I" (.int (3 : Int32))) (Pr2 : Fld Z h0 x "java/util/ArrayList" "elementData" "[Ljava/lang/Object;" (.ref d)) (Pr3 : Arv Z h0 d kd (.object "java/lang/Object") (10 : Int32) [(.ref e0), (.ref e1), (.ref e2), .null, .null, .null, .null, .null, .null, .null] .null) (Pr4 : Exa Z h0 d "[Ljava/lang/Object;") (Pr5 : Exa Z h0 e0 "java/lang/String") (Pr6 : Exa Z h0 e1 "java/lang/String") (Pr7 : Exa Z h0 e2 "java/lang/String") : Met l Z consts_1 (⟨"java/util/List", "copyOf", "(Ljava/util/Collection;)Ljava/util/List;"⟩ : MethodName) jdk_40_method_48_code 1 (some (.object "java/util/List")) [] RrmCoL3 [] #[(.ref x)] h0 (QrmCoL3 Z de el em x d kd e0 e1 e2 h0) := by
  have ⟨hw, hEL, O2, P5, OD, AD, XM, OM, OL, XL, FL, AE, MR⟩ := hcx
  refine Met.start (a0 := a0) (Ls := #[vR x]) pn18 hEL O0 (fun m => by first | (simp [entryFrame, mkF, argsToLocals, Value.category]; done) | rfl) ?_
  intro p e s m below meth cc T0 vm0 X0 sf0_ hby hml hret hnm
  have hx := X0.hx
  have D : ∀ {n r}, decode jdk_40_method_48_code n = r → decode cc.code n = r := fun d => hb hby d
  have zz := X0.ge
  have A0 := X0.at
  have l1 := ltA Pr0.lt
  have l2 := ltA Pr3.lt
  have l3 := ltA Pr5.lt
  have l4 := ltA Pr6.lt
  have l5 := ltA Pr7.lt
  refine Gets.via (fun _ k => (XS.aloadN A0 hx rfl (D d18_0) rfl rfl k)) ?_
  refine X0.callS (W := 0) (w101 hw) (w102 hw) (w103 hw) (w104 hw) (by decide) (X0.payM (sf := []) (rmLc3 hcx x d kd e0 e1 e2 h0 X0.old Pr0 Pr1 Pr2 Pr3 Pr4 Pr5 Pr6 Pr7) sf0 (w104 hw) (w103 hw) (by decide) (by decide)) rfl (sz hml rfl) (argsL := [(.ref x)]) (rest := []) (lenOf pd12 rfl) rfl rfl (mroom rfl rfl) (D d18_1) (by decide) (by decide) fun T6 h6 vm6 v6 X6 C6 z6 q6 => ?_
  obtain ⟨a6, t6, kn6, rfl, K6, g6_0, g6_1, g6_2, g6_3, g6_4⟩ := q6
  have l7 := ltA g6_0.lt
  have l8 := ltA g6_2.lt
  exact X6.retA hret rfl rfl rfl (D d18_4) (by decide) (by decide) (fun vmE CE => ⟨a6, t6, kn6, rfl, ((Keep.refl h0 []).trans K6 all0), g6_0, g6_1, g6_2, g6_3, g6_4⟩)
abbrev RrmNode3 : Room := { frames := 9, cells := 3, slots := 8, locals := 115 }
def QrmNode3 (Z : State) (de : Addr) (el : Addr) (em : Addr) (x : Addr) (u : Addr) (z : Addr) (v1 : Addr) (d : Addr) (kd : ClassId) (e0 : Addr) (e1 : Addr) (e2 : Addr) (h0 : Heap) (v : Option Value) (vm : Vm) (h : Heap) : Prop := ∃ (L : Addr) (t : Addr) (kn : ClassId), v = none ∧ Keep h0 h [x] ∧ Exa Z h x "com/example/packwright/packwright/model/Node" ∧ Fld Z h x "com/example/packwright/packwright/model/Node" "subscripts" "Ljava/util/List;" (.ref L) ∧ Exa Z h L "java/util/ImmutableCollections$ListN" ∧ Fld Z h L "java/util/ImmutableCollections$ListN" "elements" "[Ljava/lang/Object;" (.ref t) ∧ Arv Z h t kn (.object "java/lang/Object") (3 : Int32) [(.ref e0), (.ref e1), (.ref e2)] .null
theorem rmNode3 (hcx : Cx Z a0 zc de kde em el ee kee mr) (x : Addr) (u : Addr) (z : Addr) (v1 : Addr) (d : Addr) (kd : ClassId) (e0 : Addr) (e1 : Addr) (e2 : Addr) (h0 : Heap) (O0 : Old Z Z.heap.size h0) (Pr0 : Exa Z h0 x "com/example/packwright/packwright/model/Node") (Pr1 : Fld Z h0 x "com/example/packwright/packwright/model/Node" "subscriptLine" "Ljava/lang/String;" .null) (Pr2 : Fld Z h0 x "com/example/packwright/packwright/model/Node" "subscripts" "Ljava/util/List;" .null) (Pr3 : Fld Z h0 x "com/example/packwright/packwright/model/Node" "value" "Ljava/lang/String;" .null) (Pr4 : Z.heap.size ≤ x) (Pr5 : Exa Z h0 z "java/util/ArrayList") (Pr6 : Fld Z h0 z "java/util/ArrayList" "size" "I" (.int (3 : Int32))) (Pr7 : Fld Z h0 z "java/util/ArrayList" "elementData" "[Ljava/lang/Object;" (.ref d)) (Pr8 : Arv Z h0 d kd (.object "java/lang/Object") (10 : Int32) [(.ref e0), (.ref e1), (.ref e2), .null, .null, .null, .null, .null, .null, .null] .null) (Pr9 : Exa Z h0 d "[Ljava/lang/Object;") (Pr10 : Exa Z h0 e0 "java/lang/String") (Pr11 : Exa Z h0 e1 "java/lang/String") (Pr12 : Exa Z h0 e2 "java/lang/String") : Met l Z consts_1 (⟨"com/example/packwright/packwright/model/Node", "<init>", "(Ljava/lang/String;Ljava/util/List;Ljava/lang/String;)V"⟩ : MethodName) prog_37_method_1_code 4 (none) [] RrmNode3 [] #[(.ref x), (.ref u), (.ref z), (.ref v1)] h0 (QrmNode3 Z de el em x u z v1 d kd e0 e1 e2 h0) := by
  have ⟨hw, hEL, O2, P5, OD, AD, XM, OM, OL, XL, FL, AE, MR⟩ := hcx
  refine Met.start (a0 := a0) (Ls := #[vR x, vR u, vR z, vR v1]) pn16 hEL O0 (fun m => by first | (simp [entryFrame, mkF, argsToLocals, Value.category]; done) | rfl) ?_
  intro p e s m below meth cc T0 vm0 X0 sf0_ hby hml hret hnm
  have hx := X0.hx
  have D : ∀ {n r}, decode prog_37_method_1_code n = r → decode cc.code n = r := fun d => hb hby d
  have zz := X0.ge
  have A0 := X0.at
  have l1 := ltA Pr0.lt
  have l2 := ltA Pr5.lt
  have l3 := ltA Pr8.lt
  have l4 := ltA Pr10.lt
  have l5 := ltA Pr11.lt
  have l6 := ltA Pr12.lt
  refine Gets.via (fun _ k => (XS.aloadN A0 hx rfl (D d16_0) rfl rfl k)) ?_
  refine X0.callI (y := (⟨"java/lang/Record", "<init>", "()V"⟩ : MethodName)) (W := 0) rfl (w91 hw) (w92 hw) (w95 hw) (by decide) (X0.payM (sf := []) (rm17 hcx x h0 X0.old ) sf0 (w95 hw) (w94 hw) (by decide) (by decide)) rfl (sz hml rfl) (a := x) (argsL := []) (rest := []) (lenOf pd7 rfl) rfl rfl (mroom rfl rfl) (D d16_1) (by decide) (by decide) fun T7 h7 vm7 v7 X7 C7 z7 q7 => ?_
  obtain ⟨rfl, K7⟩ := q7
  rw [K7] at X7 C7
  have A8 := X7.at
  refine Gets.via (fun _ k => (XS.aloadN A8 hx rfl (D d16_4) rfl rfl k)) ?_
  refine X7.callS (W := 0) (w97 hw) (w98 hw) (w99 hw) (w100 hw) (by decide) (X7.payM (sf := []) (rmCoL3 hcx z d kd e0 e1 e2 h0 X7.old Pr5 Pr6 Pr7 Pr8 Pr9 Pr10 Pr11 Pr12) sf0 (w100 hw) (w99 hw) (by decide) (by decide)) rfl (sz hml rfl) (argsL := [(.ref z)]) (rest := []) (lenOf pd12 rfl) rfl rfl (mroom rfl rfl) (D d16_5) (by decide) (by decide) fun T9 h9 vm9 v9 X9 C9 z9 q9 => ?_
  obtain ⟨a9, t9, kn9, rfl, K9, g9_0, g9_1, g9_2, g9_3, g9_4⟩ := q9
  have l10 := ltA g9_0.lt
  have l11 := ltA g9_2.lt
  have A12 := X9.at
  refine Gets.via (fun _ k => (XS.astoreN A12 hx rfl (D d16_8) rfl rfl (l' := #[vR x, vR u, vR a9, vR v1]) rfl (XS.aloadN A12 hx rfl (D d16_9) rfl rfl (XS.aloadN A12 hx rfl (D d16_10) rfl rfl k)))) ?_
  show Gets p e below _ (T9.setTop (mkF m 11 #[vR x, vR u, vR a9, vR v1] [(.ref u), (.ref x)]))
  have f14 := Pr1.keep K9 nin0
  have f15 := Pr0.keep K9
  refine X9.putF (host := "") (Or.inl (w126 hw)) Via.refl f14 f15 (Or.inr ⟨(w127 hw), rfl, hnm⟩) (w83 hw) (ty := (.object "java/lang/String")) (by decide) rfl rfl (leA (by omega)) (Safe.exa X9.hZ.alike f15 (by decide) (by decide)) rfl rfl (D d16_11) fun T13 h13 X13 C13 W13 F13 Z13 => ?_
  have z13 := W13.size
  have A16 := X13.at
  refine Gets.via (fun _ k => (XS.aloadN A16 hx rfl (D d16_14) rfl rfl (XS.aloadN A16 hx rfl (D d16_15) rfl rfl k))) ?_
  have f18 := Pr2.keep K9 nin0
  have f19 := f18.other W13 (Or.inr (slot_ne (t := (.object "java/util/List")) (t' := (.object "java/lang/String")) (Or.inr (w129 hw)) (Or.inr (w127 hw)) (by decide) (by decide) (by decide)))
  refine X13.putF (host := "") (Or.inl (w128 hw)) Via.refl f19 Z13 (Or.inr ⟨(w129 hw), rfl, hnm⟩) (w83 hw) (ty := (.object "java/util/List")) (by decide) rfl rfl (leA (by omega)) (Safe.exa X13.hZ.alike Z13 (by decide) (by decide)) rfl rfl (D d16_16) fun T17 h17 X17 C17 W17 F17 Z17 => ?_
  have z17 := W17.size
  have A20 := X17.at
  refine Gets.via (fun _ k => (XS.aloadN A20 hx rfl (D d16_19) rfl rfl (XS.aloadN A20 hx rfl (D d16_20) rfl rfl k))) ?_
  have f22 := Pr3.keep K9 nin0
  have f23 := f22.other W13 (Or.inr (slot_ne (t := (.object "java/lang/String")) (t' := (.object "java/lang/String")) (Or.inr (w131 hw)) (Or.inr (w127 hw)) (by decide) (by decide) (by decide)))
  have f24 := f23.other W17 (Or.inr (slot_ne (t := (.object "java/lang/String")) (t' := (.object "java/util/List")) (Or.inr (w131 hw)) (Or.inr (w129 hw)) (by decide) (by decide) (by decide)))
  refine X17.putF (host := "") (Or.inl (w130 hw)) Via.refl f24 Z17 (Or.inr ⟨(w131 hw), rfl, hnm⟩) (w83 hw) (ty := (.object "java/lang/String")) (by decide) rfl rfl (leA (by omega)) (Safe.exa X17.hZ.alike Z17 (by decide) (by decide)) rfl rfl (D d16_21) fun T21 h21 X21 C21 W21 F21 Z21 => ?_
  have z21 := W21.size
  show Gets p e below _ (T21.setTop (mkF m 24 #[vR x, vR u, vR a9, vR v1] []))
  have f25 := F17.other W21 (Or.inr (slot_ne (t := (.object "java/util/List")) (t' := (.object "java/lang/String")) (Or.inr (w129 hw)) (Or.inr (w131 hw)) (by decide) (by decide) (by decide)))
  have f26 := g9_0.wr W13
  have f27 := f26.wr W17
  have f28 := f27.wr W21
  have f29 := g9_1.other W13 (Or.inl (neA (by omega)))
  have f30 := f29.other W17 (Or.inl (neA (by omega)))
  have f31 := f30.other W21 (Or.inl (neA (by omega)))
  have f32 := g9_2.other W13 (neA (by omega))
  have f33 := f32.other W17 (neA (by omega))
  have f34 := f33.other W21 (neA (by omega))
  exact X21.retV hret (D d16_24) (by decide) (by decide) (fun vmE CE => ⟨a9, t9, kn9, rfl, (((((Keep.refl h0 [x]).trans K9 all0).wr W13 (Or.inl (List.mem_of_getElem? (i := 0) rfl))).wr W17 (Or.inl (List.mem_of_getElem? (i := 0) rfl))).wr W21 (Or.inl (List.mem_of_getElem? (i := 0) rfl))), Z21, f25, f28, f31, f34⟩)
abbrev RrmLNs3 : Room := { frames := 0, cells := 0, slots := 0, locals := 0 }
def QrmLNs3 (Z : State) (de : Addr) (el : Addr) (em : Addr) (x : Addr) (t : Addr) (kt : ClassId) (vs : List Value) (h0 : Heap) (v : Option Value) (vm : Vm) (h : Heap) : Prop := v = some (.int (3 : Int32)) ∧ h = h0
theorem rmLNs3 (hcx : Cx Z a0 zc de kde em el ee kee mr) (x : Addr) (t : Addr) (kt : ClassId) (vs : List Value) (h0 : Heap) (O0 : Old Z Z.heap.size h0) (Pr0 : Fld Z h0 x "java/util/ImmutableCollections$ListN" "elements" "[Ljava/lang/Object;" (.ref t)) (Pr1 : Arv Z h0 t kt (.object "java/lang/Object") (3 : Int32) vs .null) : Met l Z consts_1 (⟨"java/util/ImmutableCollections$ListN", "size", "()I"⟩ : MethodName) jdk_45_method_3_code 1 (some .int) [] RrmLNs3 [] #[(.ref x)] h0 (QrmLNs3 Z de el em x t kt vs h0) := by
  have ⟨hw, hEL, O2, P5, OD, AD, XM, OM, OL, XL, FL, AE, MR⟩ := hcx
  refine Met.start (a0 := a0) (Ls := #[vR x]) pn24 hEL O0 (fun m => by first | (simp [entryFrame, mkF, argsToLocals, Value.category]; done) | rfl) ?_
  intro p e s m below meth cc T0 vm0 X0 sf0_ hby hml hret hnm
  have hx := X0.hx
  have D : ∀ {n r}, decode jdk_45_method_3_code n = r → decode cc.code n = r := fun d => hb hby d
  have zz := X0.ge
  have A0 := X0.at
  have l1 := ltA Pr0.lt
  have l2 := ltA Pr1.lt
  refine Gets.via (fun _ k => (XS.aloadN A0 hx rfl (D d24_0) rfl rfl k)) ?_
  refine X0.getF (host := "") (Or.inl (w151 hw)) Via.refl Pr0 rfl rfl (D d24_1) fun T3 X3 => ?_
  refine X3.alen Pr1 rfl rfl (D d24_4) ?_
  exact X3.retI hret rfl (by simp) (D d24_5) (by decide) (by decide) (fun vmE CE => ⟨rfl, rfl⟩)
abbrev RrmRol3 : Room := { frames := 1, cells := 0, slots := 0, locals := 12 }
def QrmRol3 (Z : State) (de : Addr) (el : Addr) (em : Addr) (x : Addr) (L : Addr) (e0 : Addr) (e1 : Addr) (e2 : Addr) (t : Addr) (kn : ClassId) (h0 : Heap) (v : Option Value) (vm : Vm) (h : Heap) : Prop := v = some .null ∧ h = h0
theorem rmRol3 (hcx : Cx Z a0 zc de kde em el ee kee mr) (x : Addr) (L : Addr) (e0 : Addr) (e1 : Addr) (e2 : Addr) (t : Addr) (kn : ClassId) (h0 : Heap) (O0 : Old Z Z.heap.size h0) (Pr0 : Exa Z h0 x "com/example/packwright/packwright/model/Node") (Pr1 : Fld Z h0 x "com/example/packwright/packwright/model/Node" "subscripts" "Ljava/util/List;" (.ref L)) (Pr2 : Exa Z h0 L "java/util/ImmutableCollections$ListN") (Pr3 : Fld Z h0 L "java/util/ImmutableCollections$ListN" "elements" "[Ljava/lang/Object;" (.ref t)) (Pr4 : Arv Z h0 t kn (.object "java/lang/Object") (3 : Int32) [(.ref e0), (.ref e1), (.ref e2)] .null) : Met l Z consts_1 (⟨"com/example/packwright/packwright/io/BuildAssembler", "routineOfLine", "(Lcom/example/packwright/packwright/model/Node;)Ljava/lang/String;"⟩ : MethodName) prog_4_method_10_code 3 (some (.object "java/lang/String")) [] RrmRol3 [] #[(.ref x)] h0 (QrmRol3 Z de el em x L e0 e1 e2 t kn h0) := by
  have ⟨hw, hEL, O2, P5, OD, AD, XM, OM, OL, XL, FL, AE, MR⟩ := hcx
  refine Met.start (a0 := a0) (Ls := #[vR x, .unset, .unset]) pn22 hEL O0 (fun m => by first | (simp [entryFrame, mkF, argsToLocals, Value.category]; done) | rfl) ?_
  intro p e s m below meth cc T0 vm0 X0 sf0_ hby hml hret hnm
  have hx := X0.hx
  have D : ∀ {n r}, decode prog_4_method_10_code n = r → decode cc.code n = r := fun d => hb hby d
  have zz := X0.ge
  have A0 := X0.at
  have l1 := ltA Pr0.lt
  have l2 := ltA Pr2.lt
  have l3 := ltA Pr4.lt
  refine Gets.via (fun _ k => (XS.aloadN A0 hx rfl (D d22_0) rfl rfl k)) ?_
  refine X0.callV (W := 0) (w136 hw) (w137 hw) (w139 hw) (w138 hw) (nfs rfl (w139 hw)) (by decide) (X0.payM (sf := []) (rmSubs hcx x L h0 X0.old Pr1) sf0 (w140 hw) (w84 hw) (by decide) (by decide)) Pr0 rfl (sz hml rfl) (argsL := []) (rest := []) (lenOf pd11 rfl) rfl rfl (mroom rfl rfl) (D d22_1) (by decide) (by decide) fun T4 h4 vm4 v4 X4 C4 z4 q4 => ?_
  obtain ⟨rfl, K4⟩ := q4
  rw [K4] at X4 C4
  have A5 := X4.at
  refine Gets.via (fun _ k => (XS.astoreN A5 hx rfl (D d22_4) rfl rfl (l' := #[vR x, vR L, .unset]) rfl (XS.aloadN A5 hx rfl (D d22_5) rfl rfl k))) ?_
  refine X4.callF (W := 0) (w141 hw) (w142 hw) (w143 hw) rfl (w144 hw) (w145 hw) (w146 hw) (w147 hw) (w148 hw) (by decide) (X4.payM (sf := []) (rmLNs3 hcx L t kn [(.ref e0), (.ref e1), (.ref e2)] h0 X4.old Pr3 Pr4) sf0 (w150 hw) (w149 hw) (by decide) (by decide)) Pr2 rfl (sz hml rfl) (argsL := []) (rest := []) (lenOf pd14 rfl) rfl rfl (mroom rfl rfl) (D d22_6) (by decide) (by decide) fun T6 h6 vm6 v6 X6 C6 z6 q6 => ?_
  obtain ⟨rfl, K6⟩ := q6
  rw [K6] at X6 C6
  show Gets p e below _ (T6.setTop (mkF m 11 #[vR x, vR L, .unset] [(.int (3 : Int32))]))
  have A7 := X6.at
  refine Gets.via (fun _ k => (XS.iconst A7 hx rfl (D d22_11) (XS.icmpYes A7 hx rfl (pc0 := 12) (pc' := 55) rfl (D d22_12) rfl (Jvm.Free.XT.ii_ne_t (by decide)) (by decide) (by decide) k))) ?_
  refine Gets.via (fun _ k => (XS.iconst A7 hx rfl (D d22_55) (XS.istoreN A7 hx rfl (D d22_56) rfl (l' := #[vR x, vR L, vI (0 : Int32)]) rfl (XS.iloadN A7 hx rfl (D d22_57) rfl (XS.ifYes A7 hx rfl (pc0 := 58) (pc' := 74) rfl (D d22_58) rfl (Jvm.Free.XT.i0_eq_t (by decide)) (by decide) (by decide) k))))) ?_
  refine Gets.via (fun _ k => (XS.aconstNull A7 hx rfl (D d22_74) k)) ?_
  exact X6.retA hret rfl rfl rfl (D d22_75) (by decide) (by decide) (fun vmE CE => ⟨rfl, rfl⟩)
abbrev RrmAddT3 : Room := { frames := 0, cells := 0, slots := 0, locals := 0 }
def QrmAddT3 (Z : State) (de : Addr) (el : Addr) (em : Addr) (x : Addr) (y : Addr) (mc : Int32) (d : Addr) (kd : ClassId) (e0 : Addr) (e1 : Addr) (e2 : Addr) (h0 : Heap) (v : Option Value) (vm : Vm) (h : Heap) : Prop := v = none ∧ Keep h0 h [x, d] ∧ Exa Z h x "java/util/ArrayList" ∧ Fld Z h x "java/util/AbstractList" "modCount" "I" (.int mc) ∧ Fld Z h x "java/util/ArrayList" "size" "I" (.int (4 : Int32)) ∧ Fld Z h x "java/util/ArrayList" "elementData" "[Ljava/lang/Object;" (.ref d) ∧ Arv Z h d kd (.object "java/lang/Object") (10 : Int32) [(.ref e0), (.ref e1), (.ref e2), (.ref y), .null, .null, .null, .null, .null, .null] .null ∧ Exa Z h d "[Ljava/lang/Object;"
theorem rmAddT3 (hcx : Cx Z a0 zc de kde em el ee kee mr) (x : Addr) (y : Addr) (mc : Int32) (d : Addr) (kd : ClassId) (e0 : Addr) (e1 : Addr) (e2 : Addr) (h0 : Heap) (O0 : Old Z Z.heap.size h0) (Pr0 : Exa Z h0 x "java/util/ArrayList") (Pr1 : Fld Z h0 x "java/util/AbstractList" "modCount" "I" (.int mc)) (Pr2 : Fld Z h0 x "java/util/ArrayList" "size" "I" (.int (3 : Int32))) (Pr3 : Fld Z h0 x "java/util/ArrayList" "elementData" "[Ljava/lang/Object;" (.ref d)) (Pr4 : Arv Z h0 d kd (.object "java/lang/Object") (10 : Int32) [(.ref e0), (.ref e1), (.ref e2), .null, .null, .null, .null, .null, .null, .null] .null) (Pr5 : Exa Z h0 d "[Ljava/lang/Object;") (Pr6 : Ovr Z kd "java/lang/Object") (Pr7 : Z.heap.size ≤ d) (Pr8 : x ≠ d) (Pr9 : Z.heap.size ≤ x) (Pr10 : Exa Z h0 y "java/lang/String") : Met l Z consts_1 (⟨"java/util/ArrayList", "add", "(Ljava/lang/Object;[Ljava/lang/Object;I)V"⟩ : MethodName) jdk_38_method_24_code 4 (none) [] RrmAddT3 [] #[(.ref x), (.ref y), (.ref d), (.int (3 : Int32))] h0 (QrmAddT3 Z de el em x y mc d kd e0 e1 e2 h0) := by
  have ⟨hw, hEL, O2, P5, OD, AD, XM, OM, OL, XL, FL, AE, MR⟩ := hcx
  refine Met.start (a0 := a0) (Ls := #[vR x, vR y, vR d, vI (3 : Int32)]) pn26 hEL O0 (fun m => by first | (simp [entryFrame, mkF, argsToLocals, Value.category]; done) | rfl) ?_
  intro p e s m below meth cc T0 vm0 X0 sf0_ hby hml hret hnm
  have hx := X0.hx
  have D : ∀ {n r}, decode jdk_38_method_24_code n = r → decode cc.code n = r := fun d => hb hby d
  have zz := X0.ge
  have A0 := X0.at
  have l1 := ltA Pr0.lt
  have l2 := ltA Pr4.lt
  have l3 := neA Pr8
  have l4 := ltA Pr10.lt
  refine Gets.via (fun _ k => (XS.iloadN A0 hx rfl (D d26_0) rfl (XS.aloadN A0 hx rfl (D d26_1) rfl rfl k))) ?_
  refine X0.alen Pr4 rfl rfl (D d26_2) ?_
  refine Gets.via (fun _ k => (XS.icmpYes A0 hx rfl (pc0 := 3) (pc' := 11) rfl (D d26_3) rfl (Jvm.Free.XT.ii_ne_t (by decide)) (by decide) (by decide) k)) ?_
  refine Gets.via (fun _ k => (XS.aloadN A0 hx rfl (D d26_11) rfl rfl (XS.iloadN A0 hx rfl (D d26_12) rfl (XS.aloadN A0 hx rfl (D d26_13) rfl rfl k)))) ?_
  show Gets p e below _ (T0.setTop (mkF m 14 #[vR x, vR y, vR d, vI (3 : Int32)] [(.ref y), (.int (3 : Int32)), (.ref d)]))
  refine X0.stR Pr4 (stoV Pr4 Pr6 (Ins.of_exa Pr10 (w182 hw))) rfl (i := 3) (by decide) (by decide) (Nat.le_of_ble_eq_true rfl) (by decide) (leA (by omega)) rfl rfl (D d26_14) fun T5 h5 X5 C5 K5 V5 => ?_
  have z5 := K5.1
  have V5_ : Arv Z h5 d kd (.object "java/lang/Object") (10 : Int32) [(.ref e0), (.ref e1), (.ref e2), (.ref y), .null, .null, .null, .null, .null, .null] .null := V5
  have A6 := X5.at
  refine Gets.via (fun _ k => (XS.aloadN A6 hx rfl (D d26_15) rfl rfl (XS.iloadN A6 hx rfl (D d26_16) rfl (XS.iconst A6 hx rfl (D d26_17) (iaddV A6 hx rfl (D d26_18) rfl (v := (4 : Int32)) (by decide) k))))) ?_
  have f8 := Pr2.keep K5 (ninS (neA (by omega)) nin0)
  have f9 := Pr0.keep K5
  refine X5.putF (host := "") (Or.inl (w120 hw)) Via.refl f8 f9 (Or.inl (w121 hw)) (w59 hw) (ty := .int) (by decide) rfl rfl (leA (by omega)) (Safe.exa X5.hZ.alike f9 (by decide) (by decide)) rfl rfl (D d26_19) fun T7 h7 X7 C7 W7 F7 Z7 => ?_
  have z7 := W7.size
  have f10 := Pr1.keep K5 (ninS (neA (by omega)) nin0)
  have f11 := f10.other W7 (Or.inr (slot_ne (t := .int) (t' := .int) (Or.inl (w78 hw)) (Or.inl (w121 hw)) (by decide) (by decide) (by decide)))
  have f12 := Pr3.keep K5 (ninS (neA (by omega)) nin0)
  have f13 := f12.other W7 (Or.inr (slot_ne (t := (.array (.object "java/lang/Object"))) (t' := .int) (Or.inl (w81 hw)) (Or.inl (w121 hw)) (by decide) (by decide) (by decide)))
  have f14 := V5_.other W7 (neA (by omega))
  have f15 := Pr5.keep K5
  have f16 := f15.wr W7
  exact X7.retV hret (D d26_22) (by decide) (by decide) (fun vmE CE => ⟨rfl, (((Keep.refl h0 [x, d]).trans K5 (allS (Or.inl (List.mem_of_getElem? (i := 1) rfl)) all0)).wr W7 (Or.inl (List.mem_of_getElem? (i := 0) rfl))), Z7, f11, F7, f13, f14, f16⟩)
abbrev RrmAdd3 : Room := { frames := 1, cells := 0, slots := 0, locals := 15 }
def QrmAdd3 (Z : State) (de : Addr) (el : Addr) (em : Addr) (x : Addr) (y : Addr) (mc : Int32) (d : Addr) (kd : ClassId) (e0 : Addr) (e1 : Addr) (e2 : Addr) (h0 : Heap) (v : Option Value) (vm : Vm) (h : Heap) : Prop := v = some (.int (1 : Int32)) ∧ Keep h0 h [x, d] ∧ Exa Z h x "java/util/ArrayList" ∧ Fld Z h x "java/util/AbstractList" "modCount" "I" (.int (mc + (1 : Int32))) ∧ Fld Z h x "java/util/ArrayList" "size" "I" (.int (4 : Int32)) ∧ Fld Z h x "java/util/ArrayList" "elementData" "[Ljava/lang/Object;" (.ref d) ∧ Arv Z h d kd (.object "java/lang/Object") (10 : Int32) [(.ref e0), (.ref e1), (.ref e2), (.ref y), .null, .null, .null, .null, .null, .null] .null ∧ Exa Z h d "[Ljava/lang/Object;"
theorem rmAdd3 (hcx : Cx Z a0 zc de kde em el ee kee mr) (x : Addr) (y : Addr) (mc : Int32) (d : Addr) (kd : ClassId) (e0 : Addr) (e1 : Addr) (e2 : Addr) (h0 : Heap) (O0 : Old Z Z.heap.size h0) (Pr0 : Exa Z h0 x "java/util/ArrayList") (Pr1 : Fld Z h0 x "java/util/AbstractList" "modCount" "I" (.int mc)) (Pr2 : Fld Z h0 x "java/util/ArrayList" "size" "I" (.int (3 : Int32))) (Pr3 : Fld Z h0 x "java/util/ArrayList" "elementData" "[Ljava/lang/Object;" (.ref d)) (Pr4 : Arv Z h0 d kd (.object "java/lang/Object") (10 : Int32) [(.ref e0), (.ref e1), (.ref e2), .null, .null, .null, .null, .null, .null, .null] .null) (Pr5 : Exa Z h0 d "[Ljava/lang/Object;") (Pr6 : Ovr Z kd "java/lang/Object") (Pr7 : Z.heap.size ≤ d) (Pr8 : x ≠ d) (Pr9 : Z.heap.size ≤ x) (Pr10 : Exa Z h0 y "java/lang/String") : Met l Z consts_1 (⟨"java/util/ArrayList", "add", "(Ljava/lang/Object;)Z"⟩ : MethodName) jdk_38_method_25_code 2 (some .boolean) [] RrmAdd3 [] #[(.ref x), (.ref y)] h0 (QrmAdd3 Z de el em x y mc d kd e0 e1 e2 h0) := by
  have ⟨hw, hEL, O2, P5, OD, AD, XM, OM, OL, XL, FL, AE, MR⟩ := hcx
  refine Met.start (a0 := a0) (Ls := #[vR x, vR y]) pn25 hEL O0 (fun m => by first | (simp [entryFrame, mkF, argsToLocals, Value.category]; done) | rfl) ?_
  intro p e s m below meth cc T0 vm0 X0 sf0_ hby hml hret hnm
  have hx := X0.hx
  have D : ∀ {n r}, decode jdk_38_method_25_code n = r → decode cc.code n = r := fun d => hb hby d
  have zz := X0.ge
  have A0 := X0.at
  have l1 := ltA Pr0.lt
  have l2 := ltA Pr4.lt
  have l3 := neA Pr8
  have l4 := ltA Pr10.lt
  refine Gets.via (fun _ k => (XS.aloadN A0 hx rfl (D d25_0) rfl rfl (XS.dup A0 hx rfl (D d25_1) rfl rfl k))) ?_
  refine X0.getF (host := "") (Or.inl (w159 hw)) (Via.of (w160 hw)) Pr1 rfl rfl (D d25_2) fun T5 X5 => ?_
  have A6 := X5.at
  refine Gets.via (fun _ k => (XS.iconst A6 hx rfl (D d25_5) (XS.iadd A6 hx rfl (D d25_6) rfl k))) ?_
  refine X5.putF (host := "") (Or.inl (w159 hw)) (Via.of (w160 hw)) Pr1 Pr0 (Or.inl (w78 hw)) (w59 hw) (ty := .int) (by decide) rfl rfl (leA (by omega)) (Safe.exa X5.hZ.alike Pr0 (by decide) (by decide)) rfl rfl (D d25_7) fun T7 h7 X7 C7 W7 F7 Z7 => ?_
  have z7 := W7.size
  show Gets p e below _ (T7.setTop (mkF m 10 #[vR x, vR y] []))
  have A8 := X7.at
  refine Gets.via (fun _ k => (XS.aloadN A8 hx rfl (D d25_10) rfl rfl (XS.aloadN A8 hx rfl (D d25_11) rfl rfl (XS.aloadN A8 hx rfl (D d25_12) rfl rfl k)))) ?_
  have f10 := Pr3.other W7 (Or.inr (slot_ne (t := (.array (.object "java/lang/Object"))) (t' := .int) (Or.inl (w81 hw)) (Or.inl (w78 hw)) (by decide) (by decide) (by decide)))
  refine X7.getF (host := "") (Or.inl (w80 hw)) Via.refl f10 rfl rfl (D d25_13) fun T9 X9 => ?_
  have A11 := X9.at
  refine Gets.via (fun _ k => (XS.aloadN A11 hx rfl (D d25_16) rfl rfl k)) ?_
  have f13 := Pr2.other W7 (Or.inr (slot_ne (t := .int) (t' := .int) (Or.inl (w121 hw)) (Or.inl (w78 hw)) (by decide) (by decide) (by decide)))
  refine X9.getF (host := "") (Or.inl (w120 hw)) Via.refl f13 rfl rfl (D d25_17) fun T12 X12 => ?_
  have f14 := Pr4.other W7 (neA (by omega))
  have f15 := Pr5.wr W7
  have f16 := Pr10.wr W7
  refine X12.callP (W := 0) (w161 hw) (w162 hw) (w164 hw) (w163 hw) (w165 hw) (by decide) (X12.payM (sf := []) (rmAddT3 hcx x y (mc + (1 : Int32)) d kd e0 e1 e2 h7 X12.old Z7 F7 f13 f10 f14 f15 Pr6 Pr7 Pr8 Pr9 f16) sf0 (w165 hw) (w60 hw) (by decide) (by decide)) Z7 rfl (sz hml rfl) (argsL := [(.ref y), (.ref d), (.int (3 : Int32))]) (rest := []) (lenOf pd19 rfl) rfl rfl (mroom rfl rfl) (D d25_20) (by decide) (by decide) fun T17 h17 vm17 v17 X17 C17 z17 q17 => ?_
  obtain ⟨rfl, K17, g17_0, g17_1, g17_2, g17_3, g17_4, g17_5⟩ := q17
  have l18 := ltA g17_0.lt
  have l19 := ltA g17_4.lt
  show Gets p e below _ (T17.setTop (mkF m 23 #[vR x, vR y] []))
  have A20 := X17.at
  refine Gets.via (fun _ k => (XS.iconst A20 hx rfl (D d25_23) k)) ?_
  exact X17.retI hret (by decide) (by simp) (D d25_24) (by decide) (by decide) (fun vmE CE => ⟨rfl, (((Keep.refl h0 [x, d]).wr W7 (Or.inl (List.mem_of_getElem? (i := 0) rfl))).trans K17 (allS (Or.inl (List.mem_of_getElem? (i := 0) rfl)) (allS (Or.inl (List.mem_of_getElem? (i := 1) rfl)) all0))), g17_0, g17_1, g17_2, g17_3, g17_4, g17_5⟩)
abbrev RrmAlEmpty4 : Room := { frames := 0, cells := 0, slots := 0, locals := 0 }
def QrmAlEmpty4 (Z : State) (de : Addr) (el : Addr) (em : Addr) (x : Addr) (h0 : Heap) (v : Option Value) (vm : Vm) (h : Heap) : Prop := v = some (.int (0 : Int32)) ∧ h = h0
theorem rmAlEmpty4 (hcx : Cx Z a0 zc de kde em el ee kee mr) (x : Addr) (h0 : Heap) (O0 : Old Z Z.heap.size h0) (Pr0 : Fld Z h0 x "java/util/ArrayList" "size" "I" (.int (4 : Int32))) : Met l Z consts_1 (⟨"java/util/ArrayList", "isEmpty", "()Z"⟩ : MethodName) jdk_38_method_9_code 1 (some .boolean) [] RrmAlEmpty4 [] #[(.ref x)] h0 (QrmAlEmpty4 Z de el em x h0) := by
  have ⟨hw, hEL, O2, P5, OD, AD, XM, OM, OL, XL, FL, AE, MR⟩ := hcx
  refine Met.start (a0 := a0) (Ls := #[vR x]) pn20 hEL O0 (fun m => by first | (simp [entryFrame, mkF, argsToLocals, Value.category]; done) | rfl) ?_
  intro p e s m below meth cc T0 vm0 X0 sf0_ hby hml hret hnm
  have hx := X0.hx
  have D : ∀ {n r}, decode jdk_38_method_9_code n = r → decode cc.code n = r := fun d => hb hby d
  have zz := X0.ge
  have A0 := X0.at
  have l1 := ltA Pr0.lt
  refine Gets.via (fun _ k => (XS.aloadN A0 hx rfl (D d20_0) rfl rfl k)) ?_
  refine X0.getF (host := "") (Or.inl (w120 hw)) Via.refl Pr0 rfl rfl (D d20_1) fun T2 X2 => ?_
  have A3 := X2.at
  refine Gets.via (fun _ k => (XS.ifYes A3 hx rfl (pc0 := 4) (pc' := 11) rfl (D d20_4) rfl (Jvm.Free.XT.i0_ne_t (by decide)) (by decide) (by decide) k)) ?_
  refine Gets.via (fun _ k => (XS.iconst A3 hx rfl (D d20_11) k)) ?_
  exact X2.retI hret (by decide) (by simp) (D d20_12) (by decide) (by decide) (fun vmE CE => ⟨rfl, rfl⟩)
abbrev Rrmmin_10_4 : Room := { frames := 0, cells := 0, slots := 0, locals := 0 }
def Qrmmin_10_4 (Z : State) (de : Addr) (el : Addr) (em : Addr) (h0 : Heap) (v : Option Value) (vm : Vm) (h : Heap) : Prop := v = some (.int (4 : Int32)) ∧ h = h0
theorem rmmin_10_4 (hcx : Cx Z a0 zc de kde em el ee kee mr)  (h0 : Heap) (O0 : Old Z Z.heap.size h0)  : Met l Z consts_1 (⟨"java/lang/Math", "min", "(II)I"⟩ : MethodName) jdk_29_method_69_code 2 (some .int) [] Rrmmin_10_4 [] #[(.int (10 : Int32)), (.int (4 : Int32))] h0 (Qrmmin_10_4 Z de el em h0) := by
  have ⟨hw, hEL, O2, P5, OD, AD, XM, OM, OL, XL, FL, AE, MR⟩ := hcx
  refine Met.start (a0 := a0) (Ls := #[vI (10 : Int32), vI (4 : Int32)]) pn33 hEL O0 (fun m => by first | (simp [entryFrame, mkF, argsToLocals, Value.category]; done) | rfl) ?_
  intro p e s m below meth cc T0 vm0 X0 sf0_ hby hml hret hnm
  have hx := X0.hx
  have D : ∀ {n r}, decode jdk_29_method_69_code n = r → decode cc.code n = r := fun d => hb hby d
  have zz := X0.ge
  have A0 := X0.at
  refine Gets.via (fun _ k => (XS.iloadN A0 hx rfl (D d33_0) rfl (XS.iloadN A0 hx rfl (D d33_1) rfl (XS.icmpYes A0 hx rfl (pc0 := 2) (pc' := 9) rfl (D d33_2) rfl (Jvm.Free.XT.ii_gt_t (by decide)) (by decide) (by decide) k)))) ?_
  refine Gets.via (fun _ k => (XS.iloadN A0 hx rfl (D d33_9) rfl k)) ?_
  exact X0.retI hret rfl (by simp) (D d33_10) (by decide) (by decide) (fun vmE CE => ⟨rfl, rfl⟩)
abbrev RrmCoT4 : Room := { frames := 1, cells := 1, slots := 4, locals := 22 }
def QrmCoT4 (Z : State) (de : Addr) (el : Addr) (em : Addr) (d : Addr) (kd : ClassId) (e0 : Addr) (e1 : Addr) (e2 : Addr) (e3 : Addr) (h0 : Heap) (v : Option Value) (vm : Vm) (h : Heap) : Prop := ∃ (r : Addr) (kr : ClassId), v = some (.ref r) ∧ Keep h0 h [] ∧ Arv Z h r kr (.object "java/lang/Object") (4 : Int32) [(.ref e0), (.ref e1), (.ref e2), (.ref e3)] .null ∧ Exa Z h r "[Ljava/lang/Object;" ∧ Ovr Z kr "java/lang/Object" ∧ h0.size ≤ r
theorem rmCoT4 (hcx : Cx Z a0 zc de kde em el ee kee mr) (d : Addr) (kd : ClassId) (e0 : Addr) (e1 : Addr) (e2 : Addr) (e3 : Addr) (h0 : Heap) (O0 : Old Z Z.heap.size h0) (Pr0 : Arv Z h0 d kd (.object "java/lang/Object") (10 : Int32) [(.ref e0), (.ref e1), (.ref e2), (.ref e3), .null, .null, .null, .null, .null, .null] .null) (Pr1 : Exa Z h0 d "[Ljava/lang/Object;") (Pr2 : Exa Z h0 e0 "java/lang/String") (Pr3 : Exa Z h0 e1 "java/lang/String") (Pr4 : Exa Z h0 e2 "java/lang/String") (Pr5 : Exa Z h0 e3 "java/lang/String") : Met l Z consts_1 (⟨"java/util/Arrays", "copyOf", "([Ljava/lang/Object;ILjava/lang/Class;)[Ljava/lang/Object;"⟩ : MethodName) jdk_65_method_120_code 4 (some (.array (.object "java/lang/Object"))) [] RrmCoT4 [] #[(.ref d), (.int (4 : Int32)), (.ref mr)] h0 (QrmCoT4 Z de el em d kd e0 e1 e2 e3 h0) := by
  have ⟨hw, hEL, O2, P5, OD, AD, XM, OM, OL, XL, FL, AE, MR⟩ := hcx
  refine Met.start (a0 := a0) (Ls := #[vR d, vI (4 : Int32), vR mr, .unset]) pn32 hEL O0 (fun m => by first | (simp [entryFrame, mkF, argsToLocals, Value.category]; done) | rfl) ?_
  intro p e s m below meth cc T0 vm0 X0 sf0_ hby hml hret hnm
  have hx := X0.hx
  have D : ∀ {n r}, decode jdk_65_method_120_code n = r → decode cc.code n = r := fun d => hb hby d
  have zz := X0.ge
  have A0 := X0.at
  have l1 := ltA Pr0.lt
  have l2 := ltA Pr2.lt
  have l3 := ltA Pr3.lt
  have l4 := ltA Pr4.lt
  have l5 := ltA Pr5.lt
  refine Gets.via (fun _ k => (XS.aloadN A0 hx rfl (D d32_0) rfl rfl k)) ?_
  refine X0.ldcM (w204 hw) MR rfl (D d32_1) fun T6 X6 => ?_
  refine X6.acmpW hx rfl rfl rfl (pc0 := 3) (pc' := 6) (same := true) rfl (D d32_3) rfl (by simp) (by decide) (by decide) ?_
  have A7 := X6.at
  refine Gets.via (fun _ k => (XS.iloadN A7 hx rfl (D d32_6) rfl k)) ?_
  refine X6.newR (ad := "[Ljava/lang/Object;") (w205 hw) (w181 hw) rfl (D d32_7) rfl (by decide) (cap := 4) (by decide) (by decide) (by decide) (by decide) (by decide) fun T8 h8 a8 k8 X8 C8 E8 g8 Z8 Ov8 V8 => ?_
  have z8 := E8.1
  have l8 := ltA V8.lt
  have V8_ : Arv Z h8 a8 k8 (.object "java/lang/Object") (4 : Int32) [.null, .null, .null, .null] .null := padN V8 4
  show Gets p e below _ (T8.setTop (mkF m 10 #[vR d, vI (4 : Int32), vR mr, .unset] [(.ref a8)]))
  have A9 := X8.at
  refine Gets.via (fun _ k => (XS.goto A9 hx rfl (pc0 := 10) (pc' := 24) rfl (D d32_10) (by decide) (by decide) k)) ?_
  refine Gets.via (fun _ k => (XS.astoreN A9 hx rfl (D d32_24) rfl rfl (l' := #[vR d, vI (4 : Int32), vR mr, vR a8]) rfl (XS.aloadN A9 hx rfl (D d32_25) rfl rfl (XS.iconst A9 hx rfl (D d32_26) (XS.aloadN A9 hx rfl (D d32_27) rfl rfl (XS.iconst A9 hx rfl (D d32_28) (XS.aloadN A9 hx rfl (D d32_29) rfl rfl k))))))) ?_
  have f10 := Pr0.ext E8
  refine X8.alen f10 rfl rfl (D d32_30) ?_
  refine Gets.via (fun _ k => (XS.iloadN A9 hx rfl (D d32_31) rfl k)) ?_
  refine X8.callS (W := 4) (w206 hw) (w207 hw) (w178 hw) (w208 hw) (by decide) (X8.payM (sf := []) (rmmin_10_4 hcx  h8 X8.old ) sf0 (w208 hw) (w178 hw) (by decide) (by decide)) rfl (sz hml rfl) (argsL := [(.int (10 : Int32)), (.int (4 : Int32))]) (rest := [(.int (0 : Int32)), (.ref a8), (.int (0 : Int32)), (.ref d)]) (lenOf pd16 rfl) rfl rfl (mroom rfl rfl) (D d32_32) (by decide) (by decide) fun T11 h11 vm11 v11 X11 C11 z11 q11 => ?_
  obtain ⟨rfl, K11⟩ := q11
  rw [K11] at X11 C11
  show Gets p e below _ (T11.setTop (mkF m 35 #[vR d, vI (4 : Int32), vR mr, vR a8] [(.int (4 : Int32)), (.int (0 : Int32)), (.ref a8), (.int (0 : Int32)), (.ref d)]))
  have f13 := Pr5.ext E8
  have f14 := Pr4.ext E8
  have f15 := Pr3.ext E8
  have f16 := Pr2.ext E8
  refine X11.copy (w209 hw) (w212 hw) (w210 hw) (w211 hw) (us := [(.ref e0), (.ref e1), (.ref e2), (.ref e3)]) f10 V8_ (Or.inr ⟨rfl, rfl, ⟨(stoV V8_ Ov8 (Ins.of_exa f16 (w182 hw))), ⟨(stoV V8_ Ov8 (Ins.of_exa f15 (w182 hw))), ⟨(stoV V8_ Ov8 (Ins.of_exa f14 (w182 hw))), ⟨(stoV V8_ Ov8 (Ins.of_exa f13 (w182 hw))), trivial⟩⟩⟩⟩⟩) (by decide) (by decide) (by decide) (by decide) (by decide) rfl (Nat.le_of_ble_eq_true rfl) (leA (by omega)) (Safe.exa X11.hZ.alike Z8 (by decide) (by decide)) rfl (sz hml rfl) rfl (D d32_35) (by decide) (W := 0) (mroom rfl rfl) (by decide) fun T12 h12 X12 C12 K12 V12 => ?_
  have z12 := K12.1
  have V12_ : Arv Z h12 a8 k8 (.object "java/lang/Object") (4 : Int32) [(.ref e0), (.ref e1), (.ref e2), (.ref e3)] .null := V12
  have A17 := X12.at
  refine Gets.via (fun _ k => (XS.aloadN A17 hx rfl (D d32_38) rfl rfl k)) ?_
  have f18 := Z8.keep K12
  exact X12.retA hret rfl rfl rfl (D d32_39) (by decide) (by decide) (fun vmE CE => ⟨a8, k8, rfl, (((Keep.refl h0 []).ext E8).trans K12 (allS (Or.inr (leA (by omega))) all0)), V12_, f18, Ov8, (leA (by omega))⟩)
abbrev RrmCo4 : Room := { frames := 2, cells := 1, slots := 4, locals := 37 }
def QrmCo4 (Z : State) (de : Addr) (el : Addr) (em : Addr) (d : Addr) (kd : ClassId) (e0 : Addr) (e1 : Addr) (e2 : Addr) (e3 : Addr) (h0 : Heap) (v : Option Value) (vm : Vm) (h : Heap) : Prop := ∃ (r : Addr) (kr : ClassId), v = some (.ref r) ∧ Keep h0 h [] ∧ Arv Z h r kr (.object "java/lang/Object") (4 : Int32) [(.ref e0), (.ref e1), (.ref e2), (.ref e3)] .null ∧ Exa Z h r "[Ljava/lang/Object;" ∧ Ovr Z kr "java/lang/Object" ∧ h0.size ≤ r
theorem rmCo4 (hcx : Cx Z a0 zc de kde em el ee kee mr) (d : Addr) (kd : ClassId) (e0 : Addr) (e1 : Addr) (e2 : Addr) (e3 : Addr) (h0 : Heap) (O0 : Old Z Z.heap.size h0) (Pr0 : Arv Z h0 d kd (.object "java/lang/Object") (10 : Int32) [(.ref e0), (.ref e1), (.ref e2), (.ref e3), .null, .null, .null, .null, .null, .null] .null) (Pr1 : Exa Z h0 d "[Ljava/lang/Object;") (Pr2 : Exa Z h0 e0 "java/lang/String") (Pr3 : Exa Z h0 e1 "java/lang/String") (Pr4 : Exa Z h0 e2 "java/lang/String") (Pr5 : Exa Z h0 e3 "java/lang/String") : Met l Z consts_1 (⟨"java/util/Arrays", "copyOf", "([Ljava/lang/Object;I)[Ljava/lang/Object;"⟩ : MethodName) jdk_65_method_119_code 2 (some (.array (.object "java/lang/Object"))) [] RrmCo4 [] #[(.ref d), (.int (4 : Int32))] h0 (QrmCo4 Z de el em d kd e0 e1 e2 e3 h0) := by
  have ⟨hw, hEL, O2, P5, OD, AD, XM, OM, OL, XL, FL, AE, MR⟩ := hcx
  refine Met.start (a0 := a0) (Ls := #[vR d, vI (4 : Int32)]) pn31 hEL O0 (fun m => by first | (simp [entryFrame, mkF, argsToLocals, Value.category]; done) | rfl) ?_
  intro p e s m below meth cc T0 vm0 X0 sf0_ hby hml hret hnm
  have hx := X0.hx
  have D : ∀ {n r}, decode jdk_65_method_119_code n = r → decode cc.code n = r := fun d => hb hby d
  have zz := X0.ge
  have A0 := X0.at
  have l1 := ltA Pr0.lt
  have l2 := ltA Pr2.lt
  have l3 := ltA Pr3.lt
  have l4 := ltA Pr4.lt
  have l5 := ltA Pr5.lt
  refine Gets.via (fun _ k => (XS.aloadN A0 hx rfl (D d31_0) rfl rfl (XS.iloadN A0 hx rfl (D d31_1) rfl (XS.aloadN A0 hx rfl (D d31_2) rfl rfl k)))) ?_
  refine X0.getC (w195 hw) (w196 hw) (w109 hw) (w198 hw) (w197 hw) (w199 hw) Pr1 MR rfl (sz hml rfl) rfl (D d31_3) (by decide) (W := 2) (mroom rfl rfl) (by decide) fun T6 X6 => ?_
  refine X6.callS (W := 0) (w201 hw) (w202 hw) (w193 hw) (w203 hw) (by decide) (X6.payM (sf := []) (rmCoT4 hcx d kd e0 e1 e2 e3 h0 X6.old Pr0 Pr1 Pr2 Pr3 Pr4 Pr5) sf0 (w203 hw) (w193 hw) (by decide) (by decide)) rfl (sz hml rfl) (argsL := [(.ref d), (.int (4 : Int32)), (.ref mr)]) (rest := []) (lenOf pd21 rfl) rfl rfl (mroom rfl rfl) (D d31_6) (by decide) (by decide) fun T7 h7 vm7 v7 X7 C7 z7 q7 => ?_
  obtain ⟨r7, kr7, rfl, K7, g7_0, g7_1, g7_2, g7_3⟩ := q7
  have l8 := ltA g7_0.lt
  show Gets p e below _ (T7.setTop (mkF m 9 #[vR d, vI (4 : Int32)] [(.ref r7)]))
  exact X7.retA hret rfl rfl rfl (D d31_9) (by decide) (by decide) (fun vmE CE => ⟨r7, kr7, rfl, ((Keep.refl h0 []).trans K7 all0), g7_0, g7_1, g7_2, g7_3⟩)
abbrev RrmToA4 : Room := { frames := 3, cells := 1, slots := 4, locals := 50 }
def QrmToA4 (Z : State) (de : Addr) (el : Addr) (em : Addr) (x : Addr) (d : Addr) (kd : ClassId) (e0 : Addr) (e1 : Addr) (e2 : Addr) (e3 : Addr) (h0 : Heap) (v : Option Value) (vm : Vm) (h : Heap) : Prop := ∃ (r : Addr) (kr : ClassId), v = some (.ref r) ∧ Keep h0 h [] ∧ Arv Z h r kr (.object "java/lang/Object") (4 : Int32) [(.ref e0), (.ref e1), (.ref e2), (.ref e3)] .null ∧ Exa Z h r "[Ljava/lang/Object;" ∧ Ovr Z kr "java/lang/Object" ∧ h0.size ≤ r
theorem rmToA4 (hcx : Cx Z a0 zc de kde em el ee kee mr) (x : Addr) (d : Addr) (kd : ClassId) (e0 : Addr) (e1 : Addr) (e2 : Addr) (e3 : Addr) (h0 : Heap) (O0 : Old Z Z.heap.size h0) (Pr0 : Fld Z h0 x "java/util/ArrayList" "size" "I" (.int (4 : Int32))) (Pr1 : Fld Z h0 x "java/util/ArrayList" "elementData" "[Ljava/lang/Object;" (.ref d)) (Pr2 : Arv Z h0 d kd (.object "java/lang/Object") (10 : Int32) [(.ref e0), (.ref e1), (.ref e2), (.ref e3), .null, .null, .null, .null, .null, .null] .null) (Pr3 : Exa Z h0 d "[Ljava/lang/Object;") (Pr4 : Exa Z h0 e0 "java/lang/String") (Pr5 : Exa Z h0 e1 "java/lang/String") (Pr6 : Exa Z h0 e2 "java/lang/String") (Pr7 : Exa Z h0 e3 "java/lang/String") : Met l Z consts_1 (⟨"java/util/ArrayList", "toArray", "()[Ljava/lang/Object;"⟩ : MethodName) jdk_38_method_16_code 1 (some (.array (.object "java/lang/Object"))) [] RrmToA4 [] #[(.ref x)] h0 (QrmToA4 Z de el em x d kd e0 e1 e2 e3 h0) := by
  have ⟨hw, hEL, O2, P5, OD, AD, XM, OM, OL, XL, FL, AE, MR⟩ := hcx
  refine Met.start (a0 := a0) (Ls := #[vR x]) pn30 hEL O0 (fun m => by first | (simp [entryFrame, mkF, argsToLocals, Value.category]; done) | rfl) ?_
  intro p e s m below meth cc T0 vm0 X0 sf0_ hby hml hret hnm
  have hx := X0.hx
  have D : ∀ {n r}, decode jdk_38_method_16_code n = r → decode cc.code n = r := fun d => hb hby d
  have zz := X0.ge
  have A0 := X0.at
  have l1 := ltA Pr0.lt
  have l2 := ltA Pr2.lt
  have l3 := ltA Pr4.lt
  have l4 := ltA Pr5.lt
  have l5 := ltA Pr6.lt
  have l6 := ltA Pr7.lt
  refine Gets.via (fun _ k => (XS.aloadN A0 hx rfl (D d30_0) rfl rfl k)) ?_
  refine X0.getF (host := "") (Or.inl (w80 hw)) Via.refl Pr1 rfl rfl (D d30_1) fun T7 X7 => ?_
  have A8 := X7.at
  refine Gets.via (fun _ k => (XS.aloadN A8 hx rfl (D d30_4) rfl rfl k)) ?_
  refine X7.getF (host := "") (Or.inl (w120 hw)) Via.refl Pr0 rfl rfl (D d30_5) fun T9 X9 => ?_
  refine X9.callS (W := 0) (w191 hw) (w192 hw) (w193 hw) (w194 hw) (by decide) (X9.payM (sf := []) (rmCo4 hcx d kd e0 e1 e2 e3 h0 X9.old Pr2 Pr3 Pr4 Pr5 Pr6 Pr7) sf0 (w194 hw) (w193 hw) (by decide) (by decide)) rfl (sz hml rfl) (argsL := [(.ref d), (.int (4 : Int32))]) (rest := []) (lenOf pd22 rfl) rfl rfl (mroom rfl rfl) (D d30_8) (by decide) (by decide) fun T10 h10 vm10 v10 X10 C10 z10 q10 => ?_
  obtain ⟨r10, kr10, rfl, K10, g10_0, g10_1, g10_2, g10_3⟩ := q10
  have l11 := ltA g10_0.lt
  show Gets p e below _ (T10.setTop (mkF m 11 #[vR x] [(.ref r10)]))
  exact X10.retA hret rfl rfl rfl (D d30_11) (by decide) (by decide) (fun vmE CE => ⟨r10, kr10, rfl, ((Keep.refl h0 []).trans K10 all0), g10_0, g10_1, g10_2, g10_3⟩)
abbrev RrmLf4 : Room := { frames := 5, cells := 2, slots := 6, locals := 63 }
def QrmLf4 (Z : State) (de : Addr) (el : Addr) (em : Addr) (r : Addr) (kr : ClassId) (e0 : Addr) (e1 : Addr) (e2 : Addr) (e3 : Addr) (h0 : Heap) (v : Option Value) (vm : Vm) (h : Heap) : Prop := ∃ (a : Addr) (t : Addr) (kn : ClassId), v = some (.ref a) ∧ Keep h0 h [] ∧ Exa Z h a "java/util/ImmutableCollections$ListN" ∧ Fld Z h a "java/util/ImmutableCollections$ListN" "elements" "[Ljava/lang/Object;" (.ref t) ∧ Arv Z h t kn (.object "java/lang/Object") (4 : Int32) [(.ref e0), (.ref e1), (.ref e2), (.ref e3)] .null ∧ h0.size ≤ t ∧ h0.size ≤ a
theorem rmLf4 (hcx : Cx Z a0 zc de kde em el ee kee mr) (r : Addr) (kr : ClassId) (e0 : Addr) (e1 : Addr) (e2 : Addr) (e3 : Addr) (h0 : Heap) (O0 : Old Z Z.heap.size h0) (Pr0 : Arv Z h0 r kr (.object "java/lang/Object") (4 : Int32) [(.ref e0), (.ref e1), (.ref e2), (.ref e3)] .null) (Pr1 : Exa Z h0 e0 "java/lang/String") (Pr2 : Exa Z h0 e1 "java/lang/String") (Pr3 : Exa Z h0 e2 "java/lang/String") (Pr4 : Exa Z h0 e3 "java/lang/String") : Met l Z consts_1 (⟨"java/util/ImmutableCollections", "listFromArray", "([Ljava/lang/Object;)Ljava/util/List;"⟩ : MethodName) jdk_56_method_4_code 3 (some (.object "java/util/List")) [] RrmLf4 [] #[(.ref r)] h0 (QrmLf4 Z de el em r kr e0 e1 e2 e3 h0) := by
  have ⟨hw, hEL, O2, P5, OD, AD, XM, OM, OL, XL, FL, AE, MR⟩ := hcx
  refine Met.start (a0 := a0) (Ls := #[vR r, .unset, .unset]) pn35 hEL O0 (fun m => by first | (simp [entryFrame, mkF, argsToLocals, Value.category]; done) | rfl) ?_
  intro p e s m below meth cc T0 vm0 X0 sf0_ hby hml hret hnm
  have hx := X0.hx
  have D : ∀ {n r}, decode jdk_56_method_4_code n = r → decode cc.code n = r := fun d => hb hby d
  have zz := X0.ge
  have A0 := X0.at
  have l1 := ltA Pr0.lt
  have l2 := ltA Pr1.lt
  have l3 := ltA Pr2.lt
  have l4 := ltA Pr3.lt
  have l5 := ltA Pr4.lt
  refine Gets.via (fun _ k => (XS.aloadN A0 hx rfl (D d35_0) rfl rfl k)) ?_
  refine X0.alen Pr0 rfl rfl (D d35_1) ?_
  refine X0.newR (ad := "[Ljava/lang/Object;") (w219 hw) (w181 hw) rfl (D d35_2) rfl (by decide) (cap := 4) (by decide) (by decide) (by decide) (by decide) (by decide) fun T6 h6 a6 k6 X6 C6 E6 g6 Z6 Ov6 V6 => ?_
  have z6 := E6.1
  have l6 := ltA V6.lt
  have V6_ : Arv Z h6 a6 k6 (.object "java/lang/Object") (4 : Int32) [.null, .null, .null, .null] .null := padN V6 4
  have A7 := X6.at
  refine Gets.via (fun _ k => (XS.astoreN A7 hx rfl (D d35_5) rfl rfl (l' := #[vR r, vR a6, .unset]) rfl (XS.iconst A7 hx rfl (D d35_6) (XS.istoreN A7 hx rfl (D d35_7) rfl (l' := #[vR r, vR a6, vI (0 : Int32)]) rfl (XS.iloadN A7 hx rfl (D d35_8) rfl (XS.aloadN A7 hx rfl (D d35_9) rfl rfl k)))))) ?_
  show Gets p e below _ (T6.setTop (mkF m 10 #[vR r, vR a6, vI (0 : Int32)] [(.ref r), (.int (0 : Int32))]))
  have f8 := Pr0.ext E6
  refine X6.alen f8 rfl rfl (D d35_10) ?_
  refine Gets.via (fun _ k => (XS.icmpNo A7 hx rfl (D d35_11) rfl (Jvm.Free.XT.ii_ge_f (by decide)) k)) ?_
  refine Gets.via (fun _ k => (XS.aloadN A7 hx rfl (D d35_14) rfl rfl (XS.iloadN A7 hx rfl (D d35_15) rfl (XS.aloadN A7 hx rfl (D d35_16) rfl rfl (XS.iloadN A7 hx rfl (D d35_17) rfl k))))) ?_
  refine X6.ldR f8 rfl (i := 0) (by decide) (by decide) (by decide) rfl rfl rfl (D d35_18) ?_
  refine X6.callS (W := 2) (w220 hw) (w221 hw) (w222 hw) (w223 hw) (by decide) (X6.payM (sf := []) (rm36 hcx e0 h6 X6.old ) sf0 (w223 hw) (w222 hw) (by decide) (by decide)) rfl (sz hml rfl) (argsL := [(.ref e0)]) (rest := [(.int (0 : Int32)), (.ref a6)]) (lenOf pd8 rfl) rfl rfl (mroom rfl rfl) (D d35_19) (by decide) (by decide) fun T9 h9 vm9 v9 X9 C9 z9 q9 => ?_
  obtain ⟨rfl, K9⟩ := q9
  rw [K9] at X9 C9
  show Gets p e below _ (T9.setTop (mkF m 22 #[vR r, vR a6, vI (0 : Int32)] [(.ref e0), (.int (0 : Int32)), (.ref a6)]))
  have f11 := Pr1.ext E6
  refine X9.stR V6_ (stoV V6_ Ov6 (Ins.of_exa f11 (w182 hw))) rfl (i := 0) (by decide) (by decide) (Nat.le_of_ble_eq_true rfl) (by decide) (leA (by omega)) rfl rfl (D d35_22) fun T10 h10 X10 C10 K10 V10 => ?_
  have z10 := K10.1
  have V10_ : Arv Z h10 a6 k6 (.object "java/lang/Object") (4 : Int32) [(.ref e0), .null, .null, .null] .null := V10
  have A12 := X10.at
  refine Gets.via (fun _ k => (iincV A12 hx rfl (D d35_23) rfl (v := (1 : Int32)) (by decide) (l' := #[vR r, vR a6, vI (1 : Int32)]) rfl (XS.goto A12 hx rfl (pc0 := 26) (pc' := 8) rfl (D d35_26) (by decide) (by decide) k))) ?_
  refine Gets.via (fun _ k => (XS.iloadN A12 hx rfl (D d35_8) rfl (XS.aloadN A12 hx rfl (D d35_9) rfl rfl k))) ?_
  have f13 := f8.keep K10 (ninS (neA (by omega)) nin0)
  refine X10.alen f13 rfl rfl (D d35_10) ?_
  refine Gets.via (fun _ k => (XS.icmpNo A12 hx rfl (D d35_11) rfl (Jvm.Free.XT.ii_ge_f (by decide)) k)) ?_
  refine Gets.via (fun _ k => (XS.aloadN A12 hx rfl (D d35_14) rfl rfl (XS.iloadN A12 hx rfl (D d35_15) rfl (XS.aloadN A12 hx rfl (D d35_16) rfl rfl (XS.iloadN A12 hx rfl (D d35_17) rfl k))))) ?_
  show Gets p e below _ (T10.setTop (mkF m 18 #[vR r, vR a6, vI (1 : Int32)] [(.int (1 : Int32)), (.ref r), (.int (1 : Int32)), (.ref a6)]))
  refine X10.ldR f13 rfl (i := 1) (by decide) (by decide) (by decide) rfl rfl rfl (D d35_18) ?_
  refine X10.callS (W := 2) (w220 hw) (w221 hw) (w222 hw) (w223 hw) (by decide) (X10.payM (sf := []) (rm36 hcx e1 h10 X10.old ) sf0 (w223 hw) (w222 hw) (by decide) (by decide)) rfl (sz hml rfl) (argsL := [(.ref e1)]) (rest := [(.int (1 : Int32)), (.ref a6)]) (lenOf pd8 rfl) rfl rfl (mroom rfl rfl) (D d35_19) (by decide) (by decide) fun T14 h14 vm14 v14 X14 C14 z14 q14 => ?_
  obtain ⟨rfl, K14⟩ := q14
  rw [K14] at X14 C14
  have f16 := Pr2.ext E6
  have f17 := f16.keep K10
  refine X14.stR V10_ (stoV V10_ Ov6 (Ins.of_exa f17 (w182 hw))) rfl (i := 1) (by decide) (by decide) (Nat.le_of_ble_eq_true rfl) (by decide) (leA (by omega)) rfl rfl (D d35_22) fun T15 h15 X15 C15 K15 V15 => ?_
  have z15 := K15.1
  have V15_ : Arv Z h15 a6 k6 (.object "java/lang/Object") (4 : Int32) [(.ref e0), (.ref e1), .null, .null] .null := V15
  have A18 := X15.at
  refine Gets.via (fun _ k => (iincV A18 hx rfl (D d35_23) rfl (v := (2 : Int32)) (by decide) (l' := #[vR r, vR a6, vI (2 : Int32)]) rfl (XS.goto A18 hx rfl (pc0 := 26) (pc' := 8) rfl (D d35_26) (by decide) (by decide) k))) ?_
  refine Gets.via (fun _ k => (XS.iloadN A18 hx rfl (D d35_8) rfl (XS.aloadN A18 hx rfl (D d35_9) rfl rfl k))) ?_
  show Gets p e below _ (T15.setTop (mkF m 10 #[vR r, vR a6, vI (2 : Int32)] [(.ref r), (.int (2 : Int32))]))
  have f19 := f13.keep K15 (ninS (neA (by omega)) nin0)
  refine X15.alen f19 rfl rfl (D d35_10) ?_
  refine Gets.via (fun _ k => (XS.icmpNo A18 hx rfl (D d35_11) rfl (Jvm.Free.XT.ii_ge_f (by decide)) k)) ?_
  refine Gets.via (fun _ k => (XS.aloadN A18 hx rfl (D d35_14) rfl rfl (XS.iloadN A18 hx rfl (D d35_15) rfl (XS.aloadN A18 hx rfl (D d35_16) rfl rfl (XS.iloadN A18 hx rfl (D d35_17) rfl k))))) ?_
  refine X15.ldR f19 rfl (i := 2) (by decide) (by decide) (by decide) rfl rfl rfl (D d35_18) ?_
  refine X15.callS (W := 2) (w220 hw) (w221 hw) (w222 hw) (w223 hw) (by decide) (X15.payM (sf := []) (rm36 hcx e2 h15 X15.old ) sf0 (w223 hw) (w222 hw) (by decide) (by decide)) rfl (sz hml rfl) (argsL := [(.ref e2)]) (rest := [(.int (2 : Int32)), (.ref a6)]) (lenOf pd8 rfl) rfl rfl (mroom rfl rfl) (D d35_19) (by decide) (by decide) fun T20 h20 vm20 v20 X20 C20 z20 q20 => ?_
  obtain ⟨rfl, K20⟩ := q20
  rw [K20] at X20 C20
  show Gets p e below _ (T20.setTop (mkF m 22 #[vR r, vR a6, vI (2 : Int32)] [(.ref e2), (.int (2 : Int32)), (.ref a6)]))
  have f22 := Pr3.ext E6
  have f23 := f22.keep K10
  have f24 := f23.keep K15
  refine X20.stR V15_ (stoV V15_ Ov6 (Ins.of_exa f24 (w182 hw))) rfl (i := 2) (by decide) (by decide) (Nat.le_of_ble_eq_true rfl) (by decide) (leA (by omega)) rfl rfl (D d35_22) fun T21 h21 X21 C21 K21 V21 => ?_
  have z21 := K21.1
  have V21_ : Arv Z h21 a6 k6 (.object "java/lang/Object") (4 : Int32) [(.ref e0), (.ref e1), (.ref e2), .null] .null := V21
  have A25 := X21.at
  refine Gets.via (fun _ k => (iincV A25 hx rfl (D d35_23) rfl (v := (3 : Int32)) (by decide) (l' := #[vR r, vR a6, vI (3 : Int32)]) rfl (XS.goto A25 hx rfl (pc0 := 26) (pc' := 8) rfl (D d35_26) (by decide) (by decide) k))) ?_
  refine Gets.via (fun _ k => (XS.iloadN A25 hx rfl (D d35_8) rfl (XS.aloadN A25 hx rfl (D d35_9) rfl rfl k))) ?_
  have f26 := f19.keep K21 (ninS (neA (by omega)) nin0)
  refine X21.alen f26 rfl rfl (D d35_10) ?_
  refine Gets.via (fun _ k => (XS.icmpNo A25 hx rfl (D d35_11) rfl (Jvm.Free.XT.ii_ge_f (by decide)) k)) ?_
  refine Gets.via (fun _ k => (XS.aloadN A25 hx rfl (D d35_14) rfl rfl (XS.iloadN A25 hx rfl (D d35_15) rfl (XS.aloadN A25 hx rfl (D d35_16) rfl rfl (XS.iloadN A25 hx rfl (D d35_17) rfl k))))) ?_
  show Gets p e below _ (T21.setTop (mkF m 18 #[vR r, vR a6, vI (3 : Int32)] [(.int (3 : Int32)), (.ref r), (.int (3 : Int32)), (.ref a6)]))
  refine X21.ldR f26 rfl (i := 3) (by decide) (by decide) (by decide) rfl rfl rfl (D d35_18) ?_
  refine X21.callS (W := 2) (w220 hw) (w221 hw) (w222 hw) (w223 hw) (by decide) (X21.payM (sf := []) (rm36 hcx e3 h21 X21.old ) sf0 (w223 hw) (w222 hw) (by decide) (by decide)) rfl (sz hml rfl) (argsL := [(.ref e3)]) (rest := [(.int (3 : Int32)), (.ref a6)]) (lenOf pd8 rfl) rfl rfl (mroom rfl rfl) (D d35_19) (by decide) (by decide) fun T27 h27 vm27 v27 X27 C27 z27 q27 => ?_
  obtain ⟨rfl, K27⟩ := q27
  rw [K27] at X27 C27
  have f29 := Pr4.ext E6
  have f30 := f29.keep K10
  have f31 := f30.keep K15
  have f32 := f31.keep K21
  refine X27.stR V21_ (stoV V21_ Ov6 (Ins.of_exa f32 (w182 hw))) rfl (i := 3) (by decide) (by decide) (Nat.le_of_ble_eq_true rfl) (by decide) (leA (by omega)) rfl rfl (D d35_22) fun T28 h28 X28 C28 K28 V28 => ?_
  have z28 := K28.1
  have V28_ : Arv Z h28 a6 k6 (.object "java/lang/Object") (4 : Int32) [(.ref e0), (.ref e1), (.ref e2), (.ref e3)] .null := V28
  have A33 := X28.at
  refine Gets.via (fun _ k => (iincV A33 hx rfl (D d35_23) rfl (v := (4 : Int32)) (by decide) (l' := #[vR r, vR a6, vI (4 : Int32)]) rfl (XS.goto A33 hx rfl (pc0 := 26) (pc' := 8) rfl (D d35_26) (by decide) (by decide) k))) ?_
  refine Gets.via (fun _ k => (XS.iloadN A33 hx rfl (D d35_8) rfl (XS.aloadN A33 hx rfl (D d35_9) rfl rfl k))) ?_
  show Gets p e below _ (T28.setTop (mkF m 10 #[vR r, vR a6, vI (4 : Int32)] [(.ref r), (.int (4 : Int32))]))
  have f34 := f26.keep K28 (ninS (neA (by omega)) nin0)
  refine X28.alen f34 rfl rfl (D d35_10) ?_
  refine Gets.via (fun _ k => (XS.icmpYes A33 hx rfl (pc0 := 11) (pc' := 29) rfl (D d35_11) rfl (Jvm.Free.XT.ii_ge_t (by decide)) (by decide) (by decide) k)) ?_
  refine X28.new (w110 hw) (w224 hw) (w149 hw) rfl (D d35_29) (by decide) (by decide) fun T35 h35 a35 X35 C35 E35 g35 Z35 S35 D35 => ?_
  have z35 := E35.1
  have l35 := ltA Z35.lt
  have A36 := X35.at
  refine Gets.via (fun _ k => (XS.dup A36 hx rfl (D d35_32) rfl rfl (XS.aloadN A36 hx rfl (D d35_33) rfl rfl (XS.iconst A36 hx rfl (D d35_34) k)))) ?_
  refine X35.callIN (W := 1) rfl (w225 hw) (w226 hw) (w228 hw) (by decide) (X35.payM (sf := []) (rm37 hcx a35 a6 h35 X35.old Z35 ((D35 (Or.inr (w152 hw)) (ty := (.array (.object "java/lang/Object"))) (by decide) : Fld Z h35 a35 "java/util/ImmutableCollections$ListN" "elements" "[Ljava/lang/Object;" .null)) (D35 (Or.inr (w244 hw)) (ty := .boolean) (by decide) : Fld Z h35 a35 "java/util/ImmutableCollections$ListN" "allowNulls" "Z" (.int (0 : Int32))) (leA (by omega))) sf0 (w228 hw) (w149 hw) (by decide) (by decide)) rfl (sz hml rfl) (a := a35) (argsL := [(.ref a6), (.int (0 : Int32))]) (rest := [(.ref a35)]) (lenOf pd26 rfl) rfl rfl (mroom rfl rfl) (D d35_35) (by decide) (by decide) fun T37 h37 vm37 v37 X37 C37 z37 q37 => ?_
  obtain ⟨rfl, K37, g37_0, g37_1⟩ := q37
  have l38 := ltA g37_0.lt
  show Gets p e below _ (T37.setTop (mkF m 38 #[vR r, vR a6, vI (4 : Int32)] [(.ref a35)]))
  have f39 := V28_.ext E35
  have f40 := f39.keep K37 (ninS (neA (by omega)) nin0)
  exact X37.retA hret rfl rfl rfl (D d35_38) (by decide) (by decide) (fun vmE CE => ⟨a35, a6, k6, rfl, ((((((((Keep.refl h0 []).ext E6).trans K10 (allS (Or.inr (leA (by omega))) all0)).trans K15 (allS (Or.inr (leA (by omega))) all0)).trans K21 (allS (Or.inr (leA (by omega))) all0)).trans K28 (allS (Or.inr (leA (by omega))) all0)).ext E35).trans K37 (allS (Or.inr (leA (by omega))) all0)), g37_0, g37_1, f40, (leA (by omega)), (leA (by omega))⟩)
abbrev RrmOf4 : Room := { frames := 6, cells := 2, slots := 6, locals := 77 }
def QrmOf4 (Z : State) (de : Addr) (el : Addr) (em : Addr) (r : Addr) (kr : ClassId) (e0 : Addr) (e1 : Addr) (e2 : Addr) (e3 : Addr) (h0 : Heap) (v : Option Value) (vm : Vm) (h : Heap) : Prop := ∃ (a : Addr) (t : Addr) (kn : ClassId), v = some (.ref a) ∧ Keep h0 h [] ∧ Exa Z h a "java/util/ImmutableCollections$ListN" ∧ Fld Z h a "java/util/ImmutableCollections$ListN" "elements" "[Ljava/lang/Object;" (.ref t) ∧ Arv Z h t kn (.object "java/lang/Object") (4 : Int32) [(.ref e0), (.ref e1), (.ref e2), (.ref e3)] .null ∧ h0.size ≤ t ∧ h0.size ≤ a
theorem rmOf4 (hcx : Cx Z a0 zc de kde em el ee kee mr) (r : Addr) (kr : ClassId) (e0 : Addr) (e1 : Addr) (e2 : Addr) (e3 : Addr) (h0 : Heap) (O0 : Old Z Z.heap.size h0) (Pr0 : Arv Z h0 r kr (.object "java/lang/Object") (4 : Int32) [(.ref e0), (.ref e1), (.ref e2), (.ref e3)] .null) (Pr1 : Exa Z h0 e0 "java/lang/String") (Pr2 : Exa Z h0 e1 "java/lang/String") (Pr3 : Exa Z h0 e2 "java/lang/String") (Pr4 : Exa Z h0 e3 "java/lang/String") : Met l Z consts_1 (⟨"java/util/List", "of", "([Ljava/lang/Object;)Ljava/util/List;"⟩ : MethodName) jdk_40_method_47_code 2 (some (.object "java/util/List")) [] RrmOf4 [] #[(.ref r)] h0 (QrmOf4 Z de el em r kr e0 e1 e2 e3 h0) := by
  have ⟨hw, hEL, O2, P5, OD, AD, XM, OM, OL, XL, FL, AE, MR⟩ := hcx
  refine Met.start (a0 := a0) (Ls := #[vR r, .unset]) pn34 hEL O0 (fun m => by first | (simp [entryFrame, mkF, argsToLocals, Value.category]; done) | rfl) ?_
  intro p e s m below meth cc T0 vm0 X0 sf0_ hby hml hret hnm
  have hx := X0.hx
  have D : ∀ {n r}, decode jdk_40_method_47_code n = r → decode cc.code n = r := fun d => hb hby d
  have zz := X0.ge
  have A0 := X0.at
  have l1 := ltA Pr0.lt
  have l2 := ltA Pr1.lt
  have l3 := ltA Pr2.lt
  have l4 := ltA Pr3.lt
  have l5 := ltA Pr4.lt
  refine Gets.via (fun _ k => (XS.aloadN A0 hx rfl (D d34_0) rfl rfl k)) ?_
  refine X0.alen Pr0 rfl rfl (D d34_1) ?_
  refine Gets.via (fun _ k => (XS.tswOut A0 hx rfl (pc0 := 2) (pc' := 59) rfl (D d34_2) rfl (by decide) (by decide) (by decide) k)) ?_
  refine Gets.via (fun _ k => (XS.aloadN A0 hx rfl (D d34_59) rfl rfl k)) ?_
  refine X0.callS (W := 0) (w216 hw) (w217 hw) (w103 hw) (w218 hw) (by decide) (X0.payM (sf := []) (rmLf4 hcx r kr e0 e1 e2 e3 h0 X0.old Pr0 Pr1 Pr2 Pr3 Pr4) sf0 (w218 hw) (w103 hw) (by decide) (by decide)) rfl (sz hml rfl) (argsL := [(.ref r)]) (rest := []) (lenOf pd24 rfl) rfl rfl (mroom rfl rfl) (D d34_60) (by decide) (by decide) fun T6 h6 vm6 v6 X6 C6 z6 q6 => ?_
  obtain ⟨a6, t6, kn6, rfl, K6, g6_0, g6_1, g6_2, g6_3, g6_4⟩ := q6
  have l7 := ltA g6_0.lt
  have l8 := ltA g6_2.lt
  show Gets p e below _ (T6.setTop (mkF m 63 #[vR r, .unset] [(.ref a6)]))
  exact X6.retA hret rfl rfl rfl (D d34_63) (by decide) (by decide) (fun vmE CE => ⟨a6, t6, kn6, rfl, ((Keep.refl h0 []).trans K6 all0), g6_0, g6_1, g6_2, g6_3, g6_4⟩)
abbrev RrmLc4 : Room := { frames := 7, cells := 3, slots := 10, locals := 90 }
def QrmLc4 (Z : State) (de : Addr) (el : Addr) (em : Addr) (x : Addr) (d : Addr) (kd : ClassId) (e0 : Addr) (e1 : Addr) (e2 : Addr) (e3 : Addr) (h0 : Heap) (v : Option Value) (vm : Vm) (h : Heap) : Prop := ∃ (a : Addr) (t : Addr) (kn : ClassId), v = some (.ref a) ∧ Keep h0 h [] ∧ Exa Z h a "java/util/ImmutableCollections$ListN" ∧ Fld Z h a "java/util/ImmutableCollections$ListN" "elements" "[Ljava/lang/Object;" (.ref t) ∧ Arv Z h t kn (.object "java/lang/Object") (4 : Int32) [(.ref e0), (.ref e1), (.ref e2), (.ref e3)] .null ∧ h0.size ≤ t ∧ h0.size ≤ a
theorem rmLc4 (hcx : Cx Z a0 zc de kde em el ee kee mr) (x : Addr) (d : Addr) (kd : ClassId) (e0 : Addr) (e1 : Addr) (e2 : Addr) (e3 : Addr) (h0 : Heap) (O0 : Old Z Z.heap.size h0) (Pr0 : Exa Z h0 x "java/util/ArrayList") (Pr1 : Fld Z h0 x "java/util/ArrayList" "size" "I" (.int (4 : Int32))) (Pr2 : Fld Z h0 x "java/util/ArrayList" "elementData" "[Ljava/lang/Object;" (.ref d)) (Pr3 : Arv Z h0 d kd (.object "java/lang/Object") (10 : Int32) [(.ref e0), (.ref e1), (.ref e2), (.ref e3), .null, .null, .null, .null, .null, .null] .null) (Pr4 : Exa Z h0 d "[Ljava/lang/Object;") (Pr5 : Exa Z h0 e0 "java/lang/String") (Pr6 : Exa Z h0 e1 "java/lang/String") (Pr7 : Exa Z h0 e2 "java/lang/String") (Pr8 : Exa Z h0 e3 "java/lang/String") : Met l Z consts_1 (⟨"java/util/ImmutableCollections", "listCopy", "(Ljava/util/Collection;)Ljava/util/List;"⟩ : MethodName) jdk_56_method_3_code 2 (some (.object "java/util/List")) [] RrmLc4 [] #[(.ref x)] h0 (QrmLc4 Z de el em x d kd e0 e1 e2 e3 h0) := by
  have ⟨hw, hEL, O2, P5, OD, AD, XM, OM, OL, XL, FL, AE, MR⟩ := hcx
  refine Met.start (a0 := a0) (Ls := #[vR x, .unset]) pn19 hEL O0 (fun m => by first | (simp [entryFrame, mkF, argsToLocals, Value.category]; done) | rfl) ?_
  intro p e s m below meth cc T0 vm0 X0 sf0_ hby hml hret hnm
  have hx := X0.hx
  have D : ∀ {n r}, decode jdk_56_method_3_code n = r → decode cc.code n = r := fun d => hb hby d
  have zz := X0.ge
  have A0 := X0.at
  have l1 := ltA Pr0.lt
  have l2 := ltA Pr3.lt
  have l3 := ltA Pr5.lt
  have l4 := ltA Pr6.lt
  have l5 := ltA Pr7.lt
  have l6 := ltA Pr8.lt
  refine Gets.via (fun _ k => (XS.aloadN A0 hx rfl (D d19_0) rfl rfl k)) ?_
  refine X0.instNo (w105 hw) Pr0 (ns_no (w106 hw) (plainS (w262 hw) rfl) (NS.step (w106 hw) (NS.step (w107 hw) (NS.step (w108 hw) (ns_root (w109 hw) (plainS (w262 hw) rfl) (by decide)) (by decide)) (by decide)) (by decide)) (by decide)) rfl rfl (D d19_1) fun T7 X7 => ?_
  have A8 := X7.at
  refine Gets.via (fun _ k => (XS.ifNo A8 hx rfl (D d19_4) rfl (Jvm.Free.XT.i0_ne_f (by decide)) k)) ?_
  refine Gets.via (fun _ k => (XS.aloadN A8 hx rfl (D d19_7) rfl rfl k)) ?_
  refine X7.instNo (w110 hw) Pr0 (ns_no (w106 hw) (plainS (w144 hw) rfl) (NS.step (w106 hw) (NS.step (w107 hw) (NS.step (w108 hw) (ns_root (w109 hw) (plainS (w144 hw) rfl) (by decide)) (by decide)) (by decide)) (by decide)) (by decide)) rfl rfl (D d19_8) fun T9 X9 => ?_
  show Gets p e below _ (T9.setTop (mkF m 11 #[vR x, .unset] [(.int (0 : Int32))]))
  have A10 := X9.at
  refine Gets.via (fun _ k => (XS.ifYes A10 hx rfl (pc0 := 11) (pc' := 31) rfl (D d19_11) rfl (Jvm.Free.XT.i0_eq_t (by decide)) (by decide) (by decide) k)) ?_
  refine Gets.via (fun _ k => (XS.aloadN A10 hx rfl (D d19_31) rfl rfl k)) ?_
  refine X9.callF (W := 0) (w111 hw) (w112 hw) (w113 hw) rfl (w114 hw) (w115 hw) (w116 hw) (w117 hw) (w118 hw) (by decide) (X9.payM (sf := []) (rmAlEmpty4 hcx x h0 X9.old Pr1) sf0 (w119 hw) (w60 hw) (by decide) (by decide)) Pr0 rfl (sz hml rfl) (argsL := []) (rest := []) (lenOf pd10 rfl) rfl rfl (mroom rfl rfl) (D d19_32) (by decide) (by decide) fun T11 h11 vm11 v11 X11 C11 z11 q11 => ?_
  obtain ⟨rfl, K11⟩ := q11
  rw [K11] at X11 C11
  have A12 := X11.at
  refine Gets.via (fun _ k => (XS.ifYes A12 hx rfl (pc0 := 37) (pc' := 44) rfl (D d19_37) rfl (Jvm.Free.XT.i0_eq_t (by decide)) (by decide) (by decide) k)) ?_
  refine Gets.via (fun _ k => (XS.aloadN A12 hx rfl (D d19_44) rfl rfl k)) ?_
  refine X11.callF (W := 0) (w183 hw) (w184 hw) (w185 hw) rfl (w186 hw) (w187 hw) (w188 hw) (w189 hw) (w118 hw) (by decide) (X11.payM (sf := []) (rmToA4 hcx x d kd e0 e1 e2 e3 h0 X11.old Pr1 Pr2 Pr3 Pr4 Pr5 Pr6 Pr7 Pr8) sf0 (w190 hw) (w60 hw) (by decide) (by decide)) Pr0 rfl (sz hml rfl) (argsL := []) (rest := []) (lenOf pd18 rfl) rfl rfl (mroom rfl rfl) (D d19_45) (by decide) (by decide) fun T13 h13 vm13 v13 X13 C13 z13 q13 => ?_
  obtain ⟨r13, kr13, rfl, K13, g13_0, g13_1, g13_2, g13_3⟩ := q13
  have l14 := ltA g13_0.lt
  have f15 := Pr5.keep K13
  have f16 := Pr6.keep K13
  have f17 := Pr7.keep K13
  have f18 := Pr8.keep K13
  refine X13.callS (W := 0) (w213 hw) (w214 hw) (w99 hw) (w215 hw) (by decide) (X13.payM (sf := []) (rmOf4 hcx r13 kr13 e0 e1 e2 e3 h13 X13.old g13_0 f15 f16 f17 f18) sf0 (w215 hw) (w99 hw) (by decide) (by decide)) rfl (sz hml rfl) (argsL := [(.ref r13)]) (rest := []) (lenOf pd24 rfl) rfl rfl (mroom rfl rfl) (D d19_50) (by decide) (by decide) fun T19 h19 vm19 v19 X19 C19 z19 q19 => ?_
  obtain ⟨a19, t19, kn19, rfl, K19, g19_0, g19_1, g19_2, g19_3, g19_4⟩ := q19
  have l20 := ltA g19_0.lt
  have l21 := ltA g19_2.lt
  show Gets p e below _ (T19.setTop (mkF m 53 #[vR x, .unset] [(.ref a19)]))
  exact X19.retA hret rfl rfl rfl (D d19_53) (by decide) (by decide) (fun vmE CE => ⟨a19, t19, kn19, rfl, (((Keep.refl h0 []).trans K13 all0).trans K19 all0), g19_0, g19_1, g19_2, (leA (by omega)), (leA (by omega))⟩)
abbrev RrmCoL4 : Room := { frames := 8, cells := 3, slots := 10, locals := 103 }
def QrmCoL4 (Z : State) (de : Addr) (el : Addr) (em : Addr) (x : Addr) (d : Addr) (kd : ClassId) (e0 : Addr) (e1 : Addr) (e2 : Addr) (e3 : Addr) (h0 : Heap) (v : Option Value) (vm : Vm) (h : Heap) : Prop := ∃ (a : Addr) (t : Addr) (kn : ClassId), v = some (.ref a) ∧ Keep h0 h [] ∧ Exa Z h a "java/util/ImmutableCollections$ListN" ∧ Fld Z h a "java/util/ImmutableCollections$ListN" "elements" "[Ljava/lang/Object;" (.ref t) ∧ Arv Z h t kn (.object "java/lang/Object") (4 : Int32) [(.ref e0), (.ref e1), (.ref e2), (.ref e3)] .null ∧ h0.size ≤ t ∧ h0.size ≤ a
theorem rmCoL4 (hcx : Cx Z a0 zc de kde em el ee kee mr) (x : Addr) (d : Addr) (kd : ClassId) (e0 : Addr) (e1 : Addr) (e2 : Addr) (e3 : Addr) (h0 : Heap) (O0 : Old Z Z.heap.size h0) (Pr0 : Exa Z h0 x "java/util/ArrayList") (Pr1 : Fld Z h0 x "java/util/ArrayList" "size" "I" (.int (4 : Int32))) (Pr2 : Fld Z h0 x "java/util/ArrayList" "elementData" "[Ljava/lang/Object;" (.ref d)) (Pr3 : Arv Z h0 d kd (.object "java/lang/Object") (10 : Int32) [(.ref e0), (.ref e1), (.ref e2), (.ref e3), .null, .null, .null, .null, .null, .null] .null) (Pr4 : Exa Z h0 d "[Ljava/lang/Object;") (Pr5 : Exa Z h0 e0 "java/lang/String") (Pr6 : Exa Z h0 e1 "java/lang/String") (Pr7 : Exa Z h0 e2 "java/lang/String") (Pr8 : Exa Z h0 e3 "java/lang/String") : Met l Z consts_1 (⟨"java/util/List", "copyOf", "(Ljava/util/Collection;)Ljava/util/List;"⟩ : MethodName) jdk_40_method_48_code 1 (some (.object "java/util/List")) [] RrmCoL4 [] #[(.ref x)] h0 (QrmCoL4 Z de el em x d kd e0 e1 e2 e3 h0) := by
  have ⟨hw, hEL, O2, P5, OD, AD, XM, OM, OL, XL, FL, AE, MR⟩ := hcx
  refine Met.start (a0 := a0) (Ls := #[vR x]) pn18 hEL O0 (fun m => by first | (simp [entryFrame, mkF, argsToLocals, Value.category]; done) | rfl) ?_
  intro p e s m below meth cc T0 vm0 X0 sf0_ hby hml hret hnm
  have hx := X0.hx
  have D : ∀ {n r}, decode jdk_40_method_48_code n = r → decode cc.code n = r := fun d => hb hby d
  have zz := X0.ge
  have A0 := X0.at
  have l1 := ltA Pr0.lt
  have l2 := ltA Pr3.lt
  have l3 := ltA Pr5.lt
  have l4 := ltA Pr6.lt
  have l5 := ltA Pr7.lt
  have l6 := ltA Pr8.lt
  refine Gets.via (fun _ k => (XS.aloadN A0 hx rfl (D d18_0) rfl rfl k)) ?_
  refine X0.callS (W := 0) (w101 hw) (w102 hw) (w103 hw) (w104 hw) (by decide) (X0.payM (sf := []) (rmLc4 hcx x d kd e0 e1 e2 e3 h0 X0.old Pr0 Pr1 Pr2 Pr3 Pr4 Pr5 Pr6 Pr7 Pr8) sf0 (w104 hw) (w103 hw) (by decide) (by decide)) rfl (sz hml rfl) (argsL := [(.ref x)]) (rest := []) (lenOf pd12 rfl) rfl rfl (mroom rfl rfl) (D d18_1) (by decide) (by decide) fun T7 h7 vm7 v7 X7 C7 z7 q7 => ?_
  obtain ⟨a7, t7, kn7, rfl, K7, g7_0, g7_1, g7_2, g7_3, g7_4⟩ := q7
  have l8 := ltA g7_0.lt
  have l9 := ltA g7_2.lt
  exact X7.retA hret rfl rfl rfl (D d18_4) (by decide) (by decide) (fun vmE CE => ⟨a7, t7, kn7, rfl, ((Keep.refl h0 []).trans K7 all0), g7_0, g7_1, g7_2, g7_3, g7_4⟩)
abbrev RrmNode4 : Room := { frames := 9, cells := 3, slots := 10, locals := 115 }
def QrmNode4 (Z : State) (de : Addr) (el : Addr) (em : Addr) (x : Addr) (u : Addr) (z : Addr) (v1 : Addr) (d : Addr) (kd : ClassId) (e0 : Addr) (e1 : Addr) (e2 : Addr) (e3 : Addr) (h0 : Heap) (v : Option Value) (vm : Vm) (h : Heap) : Prop := ∃ (L : Addr) (t : Addr) (kn : ClassId), v = none ∧ Keep h0 h [x] ∧ Exa Z h x "com/example/packwright/packwright/model/Node" ∧ Fld Z h x "com/example/packwright/packwright/model/Node" "subscripts" "Ljava/util/List;" (.ref L) ∧ Exa Z h L "java/util/ImmutableCollections$ListN" ∧ Fld Z h L "java/util/ImmutableCollections$ListN" "elements" "[Ljava/lang/Object;" (.ref t) ∧ Arv Z h t kn (.object "java/lang/Object") (4 : Int32) [(.ref e0), (.ref e1), (.ref e2), (.ref e3)] .null
theorem rmNode4 (hcx : Cx Z a0 zc de kde em el ee kee mr) (x : Addr) (u : Addr) (z : Addr) (v1 : Addr) (d : Addr) (kd : ClassId) (e0 : Addr) (e1 : Addr) (e2 : Addr) (e3 : Addr) (h0 : Heap) (O0 : Old Z Z.heap.size h0) (Pr0 : Exa Z h0 x "com/example/packwright/packwright/model/Node") (Pr1 : Fld Z h0 x "com/example/packwright/packwright/model/Node" "subscriptLine" "Ljava/lang/String;" .null) (Pr2 : Fld Z h0 x "com/example/packwright/packwright/model/Node" "subscripts" "Ljava/util/List;" .null) (Pr3 : Fld Z h0 x "com/example/packwright/packwright/model/Node" "value" "Ljava/lang/String;" .null) (Pr4 : Z.heap.size ≤ x) (Pr5 : Exa Z h0 z "java/util/ArrayList") (Pr6 : Fld Z h0 z "java/util/ArrayList" "size" "I" (.int (4 : Int32))) (Pr7 : Fld Z h0 z "java/util/ArrayList" "elementData" "[Ljava/lang/Object;" (.ref d)) (Pr8 : Arv Z h0 d kd (.object "java/lang/Object") (10 : Int32) [(.ref e0), (.ref e1), (.ref e2), (.ref e3), .null, .null, .null, .null, .null, .null] .null) (Pr9 : Exa Z h0 d "[Ljava/lang/Object;") (Pr10 : Exa Z h0 e0 "java/lang/String") (Pr11 : Exa Z h0 e1 "java/lang/String") (Pr12 : Exa Z h0 e2 "java/lang/String") (Pr13 : Exa Z h0 e3 "java/lang/String") : Met l Z consts_1 (⟨"com/example/packwright/packwright/model/Node", "<init>", "(Ljava/lang/String;Ljava/util/List;Ljava/lang/String;)V"⟩ : MethodName) prog_37_method_1_code 4 (none) [] RrmNode4 [] #[(.ref x), (.ref u), (.ref z), (.ref v1)] h0 (QrmNode4 Z de el em x u z v1 d kd e0 e1 e2 e3 h0) := by
  have ⟨hw, hEL, O2, P5, OD, AD, XM, OM, OL, XL, FL, AE, MR⟩ := hcx
  refine Met.start (a0 := a0) (Ls := #[vR x, vR u, vR z, vR v1]) pn16 hEL O0 (fun m => by first | (simp [entryFrame, mkF, argsToLocals, Value.category]; done) | rfl) ?_
  intro p e s m below meth cc T0 vm0 X0 sf0_ hby hml hret hnm
  have hx := X0.hx
  have D : ∀ {n r}, decode prog_37_method_1_code n = r → decode cc.code n = r := fun d => hb hby d
  have zz := X0.ge
  have A0 := X0.at
  have l1 := ltA Pr0.lt
  have l2 := ltA Pr5.lt
  have l3 := ltA Pr8.lt
  have l4 := ltA Pr10.lt
  have l5 := ltA Pr11.lt
  have l6 := ltA Pr12.lt
  have l7 := ltA Pr13.lt
  refine Gets.via (fun _ k => (XS.aloadN A0 hx rfl (D d16_0) rfl rfl k)) ?_
  refine X0.callI (y := (⟨"java/lang/Record", "<init>", "()V"⟩ : MethodName)) (W := 0) rfl (w91 hw) (w92 hw) (w95 hw) (by decide) (X0.payM (sf := []) (rm17 hcx x h0 X0.old ) sf0 (w95 hw) (w94 hw) (by decide) (by decide)) rfl (sz hml rfl) (a := x) (argsL := []) (rest := []) (lenOf pd7 rfl) rfl rfl (mroom rfl rfl) (D d16_1) (by decide) (by decide) fun T8 h8 vm8 v8 X8 C8 z8 q8 => ?_
  obtain ⟨rfl, K8⟩ := q8
  rw [K8] at X8 C8
  have A9 := X8.at
  refine Gets.via (fun _ k => (XS.aloadN A9 hx rfl (D d16_4) rfl rfl k)) ?_
  refine X8.callS (W := 0) (w97 hw) (w98 hw) (w99 hw) (w100 hw) (by decide) (X8.payM (sf := []) (rmCoL4 hcx z d kd e0 e1 e2 e3 h0 X8.old Pr5 Pr6 Pr7 Pr8 Pr9 Pr10 Pr11 Pr12 Pr13) sf0 (w100 hw) (w99 hw) (by decide) (by decide)) rfl (sz hml rfl) (argsL := [(.ref z)]) (rest := []) (lenOf pd12 rfl) rfl rfl (mroom rfl rfl) (D d16_5) (by decide) (by decide) fun T10 h10 vm10 v10 X10 C10 z10 q10 => ?_
  obtain ⟨a10, t10, kn10, rfl, K10, g10_0, g10_1, g10_2, g10_3, g10_4⟩ := q10
  have l11 := ltA g10_0.lt
  have l12 := ltA g10_2.lt
  have A13 := X10.at
  refine Gets.via (fun _ k => (XS.astoreN A13 hx rfl (D d16_8) rfl rfl (l' := #[vR x, vR u, vR a10, vR v1]) rfl (XS.aloadN A13 hx rfl (D d16_9) rfl rfl (XS.aloadN A13 hx rfl (D d16_10) rfl rfl k)))) ?_
  show Gets p e below _ (T10.setTop (mkF m 11 #[vR x, vR u, vR a10, vR v1] [(.ref u), (.ref x)]))
  have f15 := Pr1.keep K10 nin0
  have f16 := Pr0.keep K10
  refine X10.putF (host := "") (Or.inl (w126 hw)) Via.refl f15 f16 (Or.inr ⟨(w127 hw), rfl, hnm⟩) (w83 hw) (ty := (.object "java/lang/String")) (by decide) rfl rfl (leA (by omega)) (Safe.exa X10.hZ.alike f16 (by decide) (by decide)) rfl rfl (D d16_11) fun T14 h14 X14 C14 W14 F14 Z14 => ?_
  have z14 := W14.size
  have A17 := X14.at
  refine Gets.via (fun _ k => (XS.aloadN A17 hx rfl (D d16_14) rfl rfl (XS.aloadN A17 hx rfl (D d16_15) rfl rfl k))) ?_
  have f19 := Pr2.keep K10 nin0
  have f20 := f19.other W14 (Or.inr (slot_ne (t := (.object "java/util/List")) (t' := (.object "java/lang/String")) (Or.inr (w129 hw)) (Or.inr (w127 hw)) (by decide) (by decide) (by decide)))
  refine X14.putF (host := "") (Or.inl (w128 hw)) Via.refl f20 Z14 (Or.inr ⟨(w129 hw), rfl, hnm⟩) (w83 hw) (ty := (.object "java/util/List")) (by decide) rfl rfl (leA (by omega)) (Safe.exa X14.hZ.alike Z14 (by decide) (by decide)) rfl rfl (D d16_16) fun T18 h18 X18 C18 W18 F18 Z18 => ?_
  have z18 := W18.size
  have A21 := X18.at
  refine Gets.via (fun _ k => (XS.aloadN A21 hx rfl (D d16_19) rfl rfl (XS.aloadN A21 hx rfl (D d16_20) rfl rfl k))) ?_
  have f23 := Pr3.keep K10 nin0
  have f24 := f23.other W14 (Or.inr (slot_ne (t := (.object "java/lang/String")) (t' := (.object "java/lang/String")) (Or.inr (w131 hw)) (Or.inr (w127 hw)) (by decide) (by decide) (by decide)))
  have f25 := f24.other W18 (Or.inr (slot_ne (t := (.object "java/lang/String")) (t' := (.object "java/util/List")) (Or.inr (w131 hw)) (Or.inr (w129 hw)) (by decide) (by decide) (by decide)))
  refine X18.putF (host := "") (Or.inl (w130 hw)) Via.refl f25 Z18 (Or.inr ⟨(w131 hw), rfl, hnm⟩) (w83 hw) (ty := (.object "java/lang/String")) (by decide) rfl rfl (leA (by omega)) (Safe.exa X18.hZ.alike Z18 (by decide) (by decide)) rfl rfl (D d16_21) fun T22 h22 X22 C22 W22 F22 Z22 => ?_
  have z22 := W22.size
  show Gets p e below _ (T22.setTop (mkF m 24 #[vR x, vR u, vR a10, vR v1] []))
  have f26 := F18.other W22 (Or.inr (slot_ne (t := (.object "java/util/List")) (t' := (.object "java/lang/String")) (Or.inr (w129 hw)) (Or.inr (w131 hw)) (by decide) (by decide) (by decide)))
  have f27 := g10_0.wr W14
  have f28 := f27.wr W18
  have f29 := f28.wr W22
  have f30 := g10_1.other W14 (Or.inl (neA (by omega)))
  have f31 := f30.other W18 (Or.inl (neA (by omega)))
  have f32 := f31.other W22 (Or.inl (neA (by omega)))
  have f33 := g10_2.other W14 (neA (by omega))
  have f34 := f33.other W18 (neA (by omega))
  have f35 := f34.other W22 (neA (by omega))
  exact X22.retV hret (D d16_24) (by decide) (by decide) (fun vmE CE => ⟨a10, t10, kn10, rfl, (((((Keep.refl h0 [x]).trans K10 all0).wr W14 (Or.inl (List.mem_of_getElem? (i := 0) rfl))).wr W18 (Or.inl (List.mem_of_getElem? (i := 0) rfl))).wr W22 (Or.inl (List.mem_of_getElem? (i := 0) rfl))), Z22, f26, f29, f32, f35⟩)
abbrev RrmLNs4 : Room := { frames := 0, cells := 0, slots := 0, locals := 0 }
def QrmLNs4 (Z : State) (de : Addr) (el : Addr) (em : Addr) (x : Addr) (t : Addr) (kt : ClassId) (vs : List Value) (h0 : Heap) (v : Option Value) (vm : Vm) (h : Heap) : Prop := v = some (.int (4 : Int32)) ∧ h = h0
theorem rmLNs4 (hcx : Cx Z a0 zc de kde em el ee kee mr) (x : Addr) (t : Addr) (kt : ClassId) (vs : List Value) (h0 : Heap) (O0 : Old Z Z.heap.size h0) (Pr0 : Fld Z h0 x "java/util/ImmutableCollections$ListN" "elements" "[Ljava/lang/Object;" (.ref t)) (Pr1 : Arv Z h0 t kt (.object "java/lang/Object") (4 : Int32) vs .null) : Met l Z consts_1 (⟨"java/util/ImmutableCollections$ListN", "size", "()I"⟩ : MethodName) jdk_45_method_3_code 1 (some .int) [] RrmLNs4 [] #[(.ref x)] h0 (QrmLNs4 Z de el em x t kt vs h0) := by
  have ⟨hw, hEL, O2, P5, OD, AD, XM, OM, OL, XL, FL, AE, MR⟩ := hcx
  refine Met.start (a0 := a0) (Ls := #[vR x]) pn24 hEL O0 (fun m => by first | (simp [entryFrame, mkF, argsToLocals, Value.category]; done) | rfl) ?_
  intro p e s m below meth cc T0 vm0 X0 sf0_ hby hml hret hnm
  have hx := X0.hx
  have D : ∀ {n r}, decode jdk_45_method_3_code n = r → decode cc.code n = r := fun d => hb hby d
  have zz := X0.ge
  have A0 := X0.at
  have l1 := ltA Pr0.lt
  have l2 := ltA Pr1.lt
  refine Gets.via (fun _ k => (XS.aloadN A0 hx rfl (D d24_0) rfl rfl k)) ?_
  refine X0.getF (host := "") (Or.inl (w151 hw)) Via.refl Pr0 rfl rfl (D d24_1) fun T3 X3 => ?_
  refine X3.alen Pr1 rfl rfl (D d24_4) ?_
  exact X3.retI hret rfl (by simp) (D d24_5) (by decide) (by decide) (fun vmE CE => ⟨rfl, rfl⟩)
abbrev RrmLNg4_0 : Room := { frames := 0, cells := 0, slots := 0, locals := 0 }
def QrmLNg4_0 (Z : State) (de : Addr) (el : Addr) (em : Addr) (x : Addr) (t : Addr) (kt : ClassId) (e0 : Addr) (e1 : Addr) (e2 : Addr) (e3 : Addr) (h0 : Heap) (v : Option Value) (vm : Vm) (h : Heap) : Prop := v = some (.ref e0) ∧ h = h0
theorem rmLNg4_0 (hcx : Cx Z a0 zc de kde em el ee kee mr) (x : Addr) (t : Addr) (kt : ClassId) (e0 : Addr) (e1 : Addr) (e2 : Addr) (e3 : Addr) (h0 : Heap) (O0 : Old Z Z.heap.size h0) (Pr0 : Fld Z h0 x "java/util/ImmutableCollections$ListN" "elements" "[Ljava/lang/Object;" (.ref t)) (Pr1 : Arv Z h0 t kt (.object "java/lang/Object") (4 : Int32) [(.ref e0), (.ref e1), (.ref e2), (.ref e3)] .null) : Met l Z consts_1 (⟨"java/util/ImmutableCollections$ListN", "get", "(I)Ljava/lang/Object;"⟩ : MethodName) jdk_45_method_4_code 2 (some (.object "java/lang/Object")) [] RrmLNg4_0 [] #[(.ref x), (.int (0 : Int32))] h0 (QrmLNg4_0 Z de el em x t kt e0 e1 e2 e3 h0) := by
  have ⟨hw, hEL, O2, P5, OD, AD, XM, OM, OL, XL, FL, AE, MR⟩ := hcx
  refine Met.start (a0 := a0) (Ls := #[vR x, vI (0 : Int32)]) pn43 hEL O0 (fun m => by first | (simp [entryFrame, mkF, argsToLocals, Value.category]; done) | rfl) ?_
  intro p e s m below meth cc T0 vm0 X0 sf0_ hby hml hret hnm
  have hx := X0.hx
  have D : ∀ {n r}, decode jdk_45_method_4_code n = r → decode cc.code n = r := fun d => hb hby d
  have zz := X0.ge
  have A0 := X0.at
  have l1 := ltA Pr0.lt
  have l2 := ltA Pr1.lt
  refine Gets.via (fun _ k => (XS.aloadN A0 hx rfl (D d43_0) rfl rfl k)) ?_
  refine X0.getF (host := "") (Or.inl (w151 hw)) Via.refl Pr0 rfl rfl (D d43_1) fun T3 X3 => ?_
  have A4 := X3.at
  refine Gets.via (fun _ k => (XS.iloadN A4 hx rfl (D d43_4) rfl k)) ?_
  refine X3.ldR Pr1 rfl (i := 0) (by decide) (by decide) (by decide) rfl rfl rfl (D d43_5) ?_
  exact X3.retA hret rfl rfl rfl (D d43_6) (by decide) (by decide) (fun vmE CE => ⟨rfl, rfl⟩)
abbrev RrmLNg4_3 : Room := { frames := 0, cells := 0, slots := 0, locals := 0 }
def QrmLNg4_3 (Z : State) (de : Addr) (el : Addr) (em : Addr) (x : Addr) (t : Addr) (kt : ClassId) (e0 : Addr) (e1 : Addr) (e2 : Addr) (e3 : Addr) (h0 : Heap) (v : Option Value) (vm : Vm) (h : Heap) : Prop := v = some (.ref e3) ∧ h = h0
theorem rmLNg4_3 (hcx : Cx Z a0 zc de kde em el ee kee mr) (x : Addr) (t : Addr) (kt : ClassId) (e0 : Addr) (e1 : Addr) (e2 : Addr) (e3 : Addr) (h0 : Heap) (O0 : Old Z Z.heap.size h0) (Pr0 : Fld Z h0 x "java/util/ImmutableCollections$ListN" "elements" "[Ljava/lang/Object;" (.ref t)) (Pr1 : Arv Z h0 t kt (.object "java/lang/Object") (4 : Int32) [(.ref e0), (.ref e1), (.ref e2), (.ref e3)] .null) : Met l Z consts_1 (⟨"java/util/ImmutableCollections$ListN", "get", "(I)Ljava/lang/Object;"⟩ : MethodName) jdk_45_method_4_code 2 (some (.object "java/lang/Object")) [] RrmLNg4_3 [] #[(.ref x), (.int (3 : Int32))] h0 (QrmLNg4_3 Z de el em x t kt e0 e1 e2 e3 h0) := by
  have ⟨hw, hEL, O2, P5, OD, AD, XM, OM, OL, XL, FL, AE, MR⟩ := hcx
  refine Met.start (a0 := a0) (Ls := #[vR x, vI (3 : Int32)]) pn43 hEL O0 (fun m => by first | (simp [entryFrame, mkF, argsToLocals, Value.category]; done) | rfl) ?_
  intro p e s m below meth cc T0 vm0 X0 sf0_ hby hml hret hnm
  have hx := X0.hx
  have D : ∀ {n r}, decode jdk_45_method_4_code n = r → decode cc.code n = r := fun d => hb hby d
  have zz := X0.ge
  have A0 := X0.at
  have l1 := ltA Pr0.lt
  have l2 := ltA Pr1.lt
  refine Gets.via (fun _ k => (XS.aloadN A0 hx rfl (D d43_0) rfl rfl k)) ?_
  refine X0.getF (host := "") (Or.inl (w151 hw)) Via.refl Pr0 rfl rfl (D d43_1) fun T3 X3 => ?_
  have A4 := X3.at
  refine Gets.via (fun _ k => (XS.iloadN A4 hx rfl (D d43_4) rfl k)) ?_
  refine X3.ldR Pr1 rfl (i := 3) (by decide) (by decide) (by decide) rfl rfl rfl (D d43_5) ?_
  exact X3.retA hret rfl rfl rfl (D d43_6) (by decide) (by decide) (fun vmE CE => ⟨rfl, rfl⟩)
abbrev RrmLNg4_1 : Room := { frames := 0, cells := 0, slots := 0, locals := 0 }
def QrmLNg4_1 (Z : State) (de : Addr) (el : Addr) (em : Addr) (x : Addr) (t : Addr) (kt : ClassId) (e0 : Addr) (e1 : Addr) (e2 : Addr) (e3 : Addr) (h0 : Heap) (v : Option Value) (vm : Vm) (h : Heap) : Prop := v = some (.ref e1) ∧ h = h0
theorem rmLNg4_1 (hcx : Cx Z a0 zc de kde em el ee kee mr) (x : Addr) (t : Addr) (kt : ClassId) (e0 : Addr) (e1 : Addr) (e2 : Addr) (e3 : Addr) (h0 : Heap) (O0 : Old Z Z.heap.size h0) (Pr0 : Fld Z h0 x "java/util/ImmutableCollections$ListN" "elements" "[Ljava/lang/Object;" (.ref t)) (Pr1 : Arv Z h0 t kt (.object "java/lang/Object") (4 : Int32) [(.ref e0), (.ref e1), (.ref e2), (.ref e3)] .null) : Met l Z consts_1 (⟨"java/util/ImmutableCollections$ListN", "get", "(I)Ljava/lang/Object;"⟩ : MethodName) jdk_45_method_4_code 2 (some (.object "java/lang/Object")) [] RrmLNg4_1 [] #[(.ref x), (.int (1 : Int32))] h0 (QrmLNg4_1 Z de el em x t kt e0 e1 e2 e3 h0) := by
  have ⟨hw, hEL, O2, P5, OD, AD, XM, OM, OL, XL, FL, AE, MR⟩ := hcx
  refine Met.start (a0 := a0) (Ls := #[vR x, vI (1 : Int32)]) pn43 hEL O0 (fun m => by first | (simp [entryFrame, mkF, argsToLocals, Value.category]; done) | rfl) ?_
  intro p e s m below meth cc T0 vm0 X0 sf0_ hby hml hret hnm
  have hx := X0.hx
  have D : ∀ {n r}, decode jdk_45_method_4_code n = r → decode cc.code n = r := fun d => hb hby d
  have zz := X0.ge
  have A0 := X0.at
  have l1 := ltA Pr0.lt
  have l2 := ltA Pr1.lt
  refine Gets.via (fun _ k => (XS.aloadN A0 hx rfl (D d43_0) rfl rfl k)) ?_
  refine X0.getF (host := "") (Or.inl (w151 hw)) Via.refl Pr0 rfl rfl (D d43_1) fun T3 X3 => ?_
  have A4 := X3.at
  refine Gets.via (fun _ k => (XS.iloadN A4 hx rfl (D d43_4) rfl k)) ?_
  refine X3.ldR Pr1 rfl (i := 1) (by decide) (by decide) (by decide) rfl rfl rfl (D d43_5) ?_
  exact X3.retA hret rfl rfl rfl (D d43_6) (by decide) (by decide) (fun vmE CE => ⟨rfl, rfl⟩)
abbrev RrmRol4tt : Room := { frames := 2, cells := 4, slots := 24, locals := 28 }
def QrmRol4tt (Z : State) (de : Addr) (el : Addr) (em : Addr) (x : Addr) (L : Addr) (e0 : Addr) (e1 : Addr) (e2 : Addr) (e3 : Addr) (t : Addr) (kn : ClassId) (b0 : Addr) (k0 : ClassId) (cs : List Int32) (b3 : Addr) (k3 : ClassId) (ds : List Int32) (h0 : Heap) (v : Option Value) (vm : Vm) (h : Heap) : Prop := v = some (.ref e1) ∧ Keep h0 h []
theorem rmRol4tt (hcx : Cx Z a0 zc de kde em el ee kee mr) (x : Addr) (L : Addr) (e0 : Addr) (e1 : Addr) (e2 : Addr) (e3 : Addr) (t : Addr) (kn : ClassId) (b0 : Addr) (k0 : ClassId) (cs : List Int32) (b3 : Addr) (k3 : ClassId) (ds : List Int32) (h0 : Heap) (O0 : Old Z Z.heap.size h0) (Pr0 : Exa Z h0 x "com/example/packwright/packwright/model/Node") (Pr1 : Fld Z h0 x "com/example/packwright/packwright/model/Node" "subscripts" "Ljava/util/List;" (.ref L)) (Pr2 : Exa Z h0 L "java/util/ImmutableCollections$ListN") (Pr3 : Fld Z h0 L "java/util/ImmutableCollections$ListN" "elements" "[Ljava/lang/Object;" (.ref t)) (Pr4 : Arv Z h0 t kn (.object "java/lang/Object") (4 : Int32) [(.ref e0), (.ref e1), (.ref e2), (.ref e3)] .null) (Pr5 : Str Z h0 e0 b0 k0 cs) (Pr6 : Str Z h0 e3 b3 k3 ds) (Pr7 : Exa Z h0 e1 "java/lang/String") (Pr8 : cs = [(82 : Int32), (84 : Int32), (78 : Int32)]) (Pr9 : ds = [(48 : Int32)]) : Met l Z consts_1 (⟨"com/example/packwright/packwright/io/BuildAssembler", "routineOfLine", "(Lcom/example/packwright/packwright/model/Node;)Ljava/lang/String;"⟩ : MethodName) prog_4_method_10_code 3 (some (.object "java/lang/String")) [] RrmRol4tt [] #[(.ref x)] h0 (QrmRol4tt Z de el em x L e0 e1 e2 e3 t kn b0 k0 cs b3 k3 ds h0) := by
  have ⟨hw, hEL, O2, P5, OD, AD, XM, OM, OL, XL, FL, AE, MR⟩ := hcx
  refine Met.start (a0 := a0) (Ls := #[vR x, .unset, .unset]) pn22 hEL O0 (fun m => by first | (simp [entryFrame, mkF, argsToLocals, Value.category]; done) | rfl) ?_
  intro p e s m below meth cc T0 vm0 X0 sf0_ hby hml hret hnm
  have hx := X0.hx
  have D : ∀ {n r}, decode prog_4_method_10_code n = r → decode cc.code n = r := fun d => hb hby d
  have zz := X0.ge
  have A0 := X0.at
  have l1 := ltA Pr0.lt
  have l2 := ltA Pr2.lt
  have l3 := ltA Pr4.lt
  have l4 := ltA Pr5.lt
  have l5 := ltA Pr5.lb
  have l6 := ltA Pr6.lt
  have l7 := ltA Pr6.lb
  have l8 := ltA Pr7.lt
  refine Gets.via (fun _ k => (XS.aloadN A0 hx rfl (D d22_0) rfl rfl k)) ?_
  refine X0.callV (W := 0) (w136 hw) (w137 hw) (w139 hw) (w138 hw) (nfs rfl (w139 hw)) (by decide) (X0.payM (sf := []) (rmSubs hcx x L h0 X0.old Pr1) sf0 (w140 hw) (w84 hw) (by decide) (by decide)) Pr0 rfl (sz hml rfl) (argsL := []) (rest := []) (lenOf pd11 rfl) rfl rfl (mroom rfl rfl) (D d22_1) (by decide) (by decide) fun T9 h9 vm9 v9 X9 C9 z9 q9 => ?_
  obtain ⟨rfl, K9⟩ := q9
  rw [K9] at X9 C9
  have A10 := X9.at
  refine Gets.via (fun _ k => (XS.astoreN A10 hx rfl (D d22_4) rfl rfl (l' := #[vR x, vR L, .unset]) rfl (XS.aloadN A10 hx rfl (D d22_5) rfl rfl k))) ?_
  refine X9.callF (W := 0) (w141 hw) (w142 hw) (w143 hw) rfl (w144 hw) (w145 hw) (w146 hw) (w147 hw) (w148 hw) (by decide) (X9.payM (sf := []) (rmLNs4 hcx L t kn [(.ref e0), (.ref e1), (.ref e2), (.ref e3)] h0 X9.old Pr3 Pr4) sf0 (w150 hw) (w149 hw) (by decide) (by decide)) Pr2 rfl (sz hml rfl) (argsL := []) (rest := []) (lenOf pd14 rfl) rfl rfl (mroom rfl rfl) (D d22_6) (by decide) (by decide) fun T11 h11 vm11 v11 X11 C11 z11 q11 => ?_
  obtain ⟨rfl, K11⟩ := q11
  rw [K11] at X11 C11
  show Gets p e below _ (T11.setTop (mkF m 11 #[vR x, vR L, .unset] [(.int (4 : Int32))]))
  have A12 := X11.at
  refine Gets.via (fun _ k => (XS.iconst A12 hx rfl (D d22_11) (XS.icmpNo A12 hx rfl (D d22_12) rfl (Jvm.Free.XT.ii_ne_f (by decide)) k))) ?_
  refine Gets.via (fun _ k => (XS.aloadN A12 hx rfl (D d22_15) rfl rfl (XS.iconst A12 hx rfl (D d22_16) k))) ?_
  refine X11.callF (W := 0) (w272 hw) (w273 hw) (w274 hw) rfl (w275 hw) (w276 hw) (w277 hw) (w278 hw) (w148 hw) (by decide) (X11.payM (sf := []) (rmLNg4_0 hcx L t kn e0 e1 e2 e3 h0 X11.old Pr3 Pr4) sf0 (w279 hw) (w149 hw) (by decide) (by decide)) Pr2 rfl (sz hml rfl) (argsL := [(.int (0 : Int32))]) (rest := []) (lenOf pd27 rfl) rfl rfl (mroom rfl rfl) (D d22_17) (by decide) (by decide) fun T13 h13 vm13 v13 X13 C13 z13 q13 => ?_
  obtain ⟨rfl, K13⟩ := q13
  rw [K13] at X13 C13
  refine X13.cast (w280 hw) (Ins.self Pr5.1) rfl rfl (D d22_22) fun T14 X14 => ?_
  refine X14.ldcC (w281 hw) (wSt hw) (by decide) (vs := [(.int (82 : Int32)), (.int (84 : Int32)), (.int (78 : Int32))]) (z := (3 : Int32)) ⟨by decide, by decide⟩ (by decide) (by decide) rfl (D d22_25) (n := 12) (by decide) (by decide) (by decide) (by decide) fun T15 h15 vm15 a15 yb15 k15 X15 C15 E15 Z15 Fc15 Fv15 V15 q15 => ?_
  have z15 := E15.1
  have l15 := ltA Z15.lt
  have lb15 := ltA V15.lt
  show Gets p e below _ (T15.setTop (mkF m 27 #[vR x, vR L, .unset] [(.ref a15), (.ref e0)]))
  have f16 : Str Z h15 e0 b0 k0 cs := Pr5.ext E15
  have f17 : Str Z h15 a15 yb15 k15 [(82 : Int32), (84 : Int32), (78 : Int32)] := ⟨Z15, Fc15, Fv15, V15, (allI ⟨by decide, by decide⟩ (allI ⟨by decide, by decide⟩ (allI ⟨by decide, by decide⟩ allN))), Nat.le_of_ble_eq_true rfl⟩
  refine X15.callV (W := 0) (w282 hw) (w283 hw) (w285 hw) (w284 hw) (nfs rfl (w285 hw)) (by decide) (payEq X15 hw (w16 hw) f16 f17 O2 P5 (by decide) (by decide)) f16.1 rfl (sz hml rfl) (argsL := [(.ref a15)]) (rest := []) (lenOf pd20 rfl) rfl rfl (mroom rfl rfl) (D d22_27) (by decide) (by decide) fun T18 h18 vm18 v18 X18 C18 z18 q18 => ?_
  obtain ⟨rfl, K18⟩ := q18
  rw [K18] at X18 C18
  have A19 := X18.at
  refine Gets.via (fun _ k => (XS.ifNo A19 hx rfl (D d22_30) rfl (Jvm.Free.XT.i0_eq_f (by rw [if_pos Pr8]; decide)) k)) ?_
  refine Gets.via (fun _ k => (XS.aloadN A19 hx rfl (D d22_33) rfl rfl (XS.iconst A19 hx rfl (D d22_34) k))) ?_
  have f20 := Pr2.ext E15
  have f21 := Pr3.ext E15
  have f22 := Pr4.ext E15
  refine X18.callF (W := 0) (w272 hw) (w273 hw) (w274 hw) rfl (w275 hw) (w276 hw) (w277 hw) (w278 hw) (w148 hw) (by decide) (X18.payM (sf := []) (rmLNg4_3 hcx L t kn e0 e1 e2 e3 h15 X18.old f21 f22) sf0 (w279 hw) (w149 hw) (by decide) (by decide)) f20 rfl (sz hml rfl) (argsL := [(.int (3 : Int32))]) (rest := []) (lenOf pd27 rfl) rfl rfl (mroom rfl rfl) (D d22_35) (by decide) (by decide) fun T23 h23 vm23 v23 X23 C23 z23 q23 => ?_
  obtain ⟨rfl, K23⟩ := q23
  rw [K23] at X23 C23
  have f25 : Str Z h15 e3 b3 k3 ds := Pr6.ext E15
  refine X23.cast (w280 hw) (Ins.self f25.1) rfl rfl (D d22_40) fun T24 X24 => ?_
  show Gets p e below _ (T24.setTop (mkF m 43 #[vR x, vR L, .unset] [(.ref e3)]))
  refine X24.ldcC (w293 hw) (wSt hw) (by decide) (vs := [(.int (48 : Int32))]) (z := (1 : Int32)) ⟨by decide, by decide⟩ (by decide) (by decide) rfl (D d22_43) (n := 4) (by decide) (by decide) (by decide) (by decide) fun T26 h26 vm26 a26 yb26 k26 X26 C26 E26 Z26 Fc26 Fv26 V26 q26 => ?_
  have z26 := E26.1
  have l26 := ltA Z26.lt
  have lb26 := ltA V26.lt
  have f27 : Str Z h26 e3 b3 k3 ds := f25.ext E26
  have f28 : Str Z h26 a26 yb26 k26 [(48 : Int32)] := ⟨Z26, Fc26, Fv26, V26, (allI ⟨by decide, by decide⟩ allN), Nat.le_of_ble_eq_true rfl⟩
  refine X26.callV (W := 0) (w282 hw) (w283 hw) (w285 hw) (w284 hw) (nfs rfl (w285 hw)) (by decide) (payEq X26 hw (w16 hw) f27 f28 O2 P5 (by decide) (by decide)) f27.1 rfl (sz hml rfl) (argsL := [(.ref a26)]) (rest := []) (lenOf pd20 rfl) rfl rfl (mroom rfl rfl) (D d22_45) (by decide) (by decide) fun T29 h29 vm29 v29 X29 C29 z29 q29 => ?_
  obtain ⟨rfl, K29⟩ := q29
  rw [K29] at X29 C29
  have A30 := X29.at
  refine Gets.via (fun _ k => (XS.ifNo A30 hx rfl (D d22_48) rfl (Jvm.Free.XT.i0_eq_f (by rw [if_pos Pr9]; decide)) k)) ?_
  refine Gets.via (fun _ k => (XS.iconst A30 hx rfl (D d22_51) (XS.goto A30 hx rfl (pc0 := 52) (pc' := 56) rfl (D d22_52) (by decide) (by decide) k))) ?_
  refine Gets.via (fun _ k => (XS.istoreN A30 hx rfl (D d22_56) rfl (l' := #[vR x, vR L, vI (1 : Int32)]) rfl (XS.iloadN A30 hx rfl (D d22_57) rfl (XS.ifNo A30 hx rfl (D d22_58) rfl (Jvm.Free.XT.i0_eq_f (by decide)) k)))) ?_
  show Gets p e below _ (T29.setTop (mkF m 61 #[vR x, vR L, vI (1 : Int32)] []))
  refine Gets.via (fun _ k => (XS.aloadN A30 hx rfl (D d22_61) rfl rfl (XS.iconst A30 hx rfl (D d22_62) k))) ?_
  have f31 := f20.ext E26
  have f32 := f21.ext E26
  have f33 := f22.ext E26
  refine X29.callF (W := 0) (w272 hw) (w273 hw) (w274 hw) rfl (w275 hw) (w276 hw) (w277 hw) (w278 hw) (w148 hw) (by decide) (X29.payM (sf := []) (rmLNg4_1 hcx L t kn e0 e1 e2 e3 h26 X29.old f32 f33) sf0 (w279 hw) (w149 hw) (by decide) (by decide)) f31 rfl (sz hml rfl) (argsL := [(.int (1 : Int32))]) (rest := []) (lenOf pd27 rfl) rfl rfl (mroom rfl rfl) (D d22_63) (by decide) (by decide) fun T34 h34 vm34 v34 X34 C34 z34 q34 => ?_
  obtain ⟨rfl, K34⟩ := q34
  rw [K34] at X34 C34
  have f36 := Pr7.ext E15
  have f37 := f36.ext E26
  refine X34.cast (w280 hw) (Ins.self f37) rfl rfl (D d22_68) fun T35 X35 => ?_
  have A38 := X35.at
  refine Gets.via (fun _ k => (XS.goto A38 hx rfl (pc0 := 71) (pc' := 75) rfl (D d22_71) (by decide) (by decide) k)) ?_
  exact X35.retA hret rfl rfl rfl (D d22_75) (by decide) (by decide) (fun vmE CE => ⟨rfl, (((Keep.refl h0 []).ext E15).ext E26)⟩)
abbrev RrmRol4tf : Room := { frames := 2, cells := 4, slots := 24, locals := 28 }
def QrmRol4tf (Z : State) (de : Addr) (el : Addr) (em : Addr) (x : Addr) (L : Addr) (e0 : Addr) (e1 : Addr) (e2 : Addr) (e3 : Addr) (t : Addr) (kn : ClassId) (b0 : Addr) (k0 : ClassId) (cs : List Int32) (b3 : Addr) (k3 : ClassId) (ds : List Int32) (h0 : Heap) (v : Option Value) (vm : Vm) (h : Heap) : Prop := v = some .null ∧ Keep h0 h []
theorem rmRol4tf (hcx : Cx Z a0 zc de kde em el ee kee mr) (x : Addr) (L : Addr) (e0 : Addr) (e1 : Addr) (e2 : Addr) (e3 : Addr) (t : Addr) (kn : ClassId) (b0 : Addr) (k0 : ClassId) (cs : List Int32) (b3 : Addr) (k3 : ClassId) (ds : List Int32) (h0 : Heap) (O0 : Old Z Z.heap.size h0) (Pr0 : Exa Z h0 x "com/example/packwright/packwright/model/Node") (Pr1 : Fld Z h0 x "com/example/packwright/packwright/model/Node" "subscripts" "Ljava/util/List;" (.ref L)) (Pr2 : Exa Z h0 L "java/util/ImmutableCollections$ListN") (Pr3 : Fld Z h0 L "java/util/ImmutableCollections$ListN" "elements" "[Ljava/lang/Object;" (.ref t)) (Pr4 : Arv Z h0 t kn (.object "java/lang/Object") (4 : Int32) [(.ref e0), (.ref e1), (.ref e2), (.ref e3)] .null) (Pr5 : Str Z h0 e0 b0 k0 cs) (Pr6 : Str Z h0 e3 b3 k3 ds) (Pr7 : Exa Z h0 e1 "java/lang/String") (Pr8 : cs = [(82 : Int32), (84 : Int32), (78 : Int32)]) (Pr9 : ¬ ds = [(48 : Int32)]) : Met l Z consts_1 (⟨"com/example/packwright/packwright/io/BuildAssembler", "routineOfLine", "(Lcom/example/packwright/packwright/model/Node;)Ljava/lang/String;"⟩ : MethodName) prog_4_method_10_code 3 (some (.object "java/lang/String")) [] RrmRol4tf [] #[(.ref x)] h0 (QrmRol4tf Z de el em x L e0 e1 e2 e3 t kn b0 k0 cs b3 k3 ds h0) := by
  have ⟨hw, hEL, O2, P5, OD, AD, XM, OM, OL, XL, FL, AE, MR⟩ := hcx
  refine Met.start (a0 := a0) (Ls := #[vR x, .unset, .unset]) pn22 hEL O0 (fun m => by first | (simp [entryFrame, mkF, argsToLocals, Value.category]; done) | rfl) ?_
  intro p e s m below meth cc T0 vm0 X0 sf0_ hby hml hret hnm
  have hx := X0.hx
  have D : ∀ {n r}, decode prog_4_method_10_code n = r → decode cc.code n = r := fun d => hb hby d
  have zz := X0.ge
  have A0 := X0.at
  have l1 := ltA Pr0.lt
  have l2 := ltA Pr2.lt
  have l3 := ltA Pr4.lt
  have l4 := ltA Pr5.lt
  have l5 := ltA Pr5.lb
  have l6 := ltA Pr6.lt
  have l7 := ltA Pr6.lb
  have l8 := ltA Pr7.lt
  refine Gets.via (fun _ k => (XS.aloadN A0 hx rfl (D d22_0) rfl rfl k)) ?_
  refine X0.callV (W := 0) (w136 hw) (w137 hw) (w139 hw) (w138 hw) (nfs rfl (w139 hw)) (by decide) (X0.payM (sf := []) (rmSubs hcx x L h0 X0.old Pr1) sf0 (w140 hw) (w84 hw) (by decide) (by decide)) Pr0 rfl (sz hml rfl) (argsL := []) (rest := []) (lenOf pd11 rfl) rfl rfl (mroom rfl rfl) (D d22_1) (by decide) (by decide) fun T9 h9 vm9 v9 X9 C9 z9 q9 => ?_
  obtain ⟨rfl, K9⟩ := q9
  rw [K9] at X9 C9
  have A10 := X9.at
  refine Gets.via (fun _ k => (XS.astoreN A10 hx rfl (D d22_4) rfl rfl (l' := #[vR x, vR L, .unset]) rfl (XS.aloadN A10 hx rfl (D d22_5) rfl rfl k))) ?_
  refine X9.callF (W := 0) (w141 hw) (w142 hw) (w143 hw) rfl (w144 hw) (w145 hw) (w146 hw) (w147 hw) (w148 hw) (by decide) (X9.payM (sf := []) (rmLNs4 hcx L t kn [(.ref e0), (.ref e1), (.ref e2), (.ref e3)] h0 X9.old Pr3 Pr4) sf0 (w150 hw) (w149 hw) (by decide) (by decide)) Pr2 rfl (sz hml rfl) (argsL := []) (rest := []) (lenOf pd14 rfl) rfl rfl (mroom rfl rfl) (D d22_6) (by decide) (by decide) fun T11 h11 vm11 v11 X11 C11 z11 q11 => ?_
  obtain ⟨rfl, K11⟩ := q11
  rw [K11] at X11 C11
  show Gets p e below _ (T11.setTop (mkF m 11 #[vR x, vR L, .unset] [(.int (4 : Int32))]))
  have A12 := X11.at
  refine Gets.via (fun _ k => (XS.iconst A12 hx rfl (D d22_11) (XS.icmpNo A12 hx rfl (D d22_12) rfl (Jvm.Free.XT.ii_ne_f (by decide)) k))) ?_
  refine Gets.via (fun _ k => (XS.aloadN A12 hx rfl (D d22_15) rfl rfl (XS.iconst A12 hx rfl (D d22_16) k))) ?_
  refine X11.callF (W := 0) (w272 hw) (w273 hw) (w274 hw) rfl (w275 hw) (w276 hw) (w277 hw) (w278 hw) (w148 hw) (by decide) (X11.payM (sf := []) (rmLNg4_0 hcx L t kn e0 e1 e2 e3 h0 X11.old Pr3 Pr4) sf0 (w279 hw) (w149 hw) (by decide) (by decide)) Pr2 rfl (sz hml rfl) (argsL := [(.int (0 : Int32))]) (rest := []) (lenOf pd27 rfl) rfl rfl (mroom rfl rfl) (D d22_17) (by decide) (by decide) fun T13 h13 vm13 v13 X13 C13 z13 q13 => ?_
  obtain ⟨rfl, K13⟩ := q13
  rw [K13] at X13 C13
  refine X13.cast (w280 hw) (Ins.self Pr5.1) rfl rfl (D d22_22) fun T14 X14 => ?_
  refine X14.ldcC (w281 hw) (wSt hw) (by decide) (vs := [(.int (82 : Int32)), (.int (84 : Int32)), (.int (78 : Int32))]) (z := (3 : Int32)) ⟨by decide, by decide⟩ (by decide) (by decide) rfl (D d22_25) (n := 12) (by decide) (by decide) (by decide) (by decide) fun T15 h15 vm15 a15 yb15 k15 X15 C15 E15 Z15 Fc15 Fv15 V15 q15 => ?_
  have z15 := E15.1
  have l15 := ltA Z15.lt
  have lb15 := ltA V15.lt
  show Gets p e below _ (T15.setTop (mkF m 27 #[vR x, vR L, .unset] [(.ref a15), (.ref e0)]))
  have f16 : Str Z h15 e0 b0 k0 cs := Pr5.ext E15
  have f17 : Str Z h15 a15 yb15 k15 [(82 : Int32), (84 : Int32), (78 : Int32)] := ⟨Z15, Fc15, Fv15, V15, (allI ⟨by decide, by decide⟩ (allI ⟨by decide, by decide⟩ (allI ⟨by decide, by decide⟩ allN))), Nat.le_of_ble_eq_true rfl⟩
  refine X15.callV (W := 0) (w282 hw) (w283 hw) (w285 hw) (w284 hw) (nfs rfl (w285 hw)) (by decide) (payEq X15 hw (w16 hw) f16 f17 O2 P5 (by decide) (by decide)) f16.1 rfl (sz hml rfl) (argsL := [(.ref a15)]) (rest := []) (lenOf pd20 rfl) rfl rfl (mroom rfl rfl) (D d22_27) (by decide) (by decide) fun T18 h18 vm18 v18 X18 C18 z18 q18 => ?_
  obtain ⟨rfl, K18⟩ := q18
  rw [K18] at X18 C18
  have A19 := X18.at
  refine Gets.via (fun _ k => (XS.ifNo A19 hx rfl (D d22_30) rfl (Jvm.Free.XT.i0_eq_f (by rw [if_pos Pr8]; decide)) k)) ?_
  refine Gets.via (fun _ k => (XS.aloadN A19 hx rfl (D d22_33) rfl rfl (XS.iconst A19 hx rfl (D d22_34) k))) ?_
  have f20 := Pr2.ext E15
  have f21 := Pr3.ext E15
  have f22 := Pr4.ext E15
  refine X18.callF (W := 0) (w272 hw) (w273 hw) (w274 hw) rfl (w275 hw) (w276 hw) (w277 hw) (w278 hw) (w148 hw) (by decide) (X18.payM (sf := []) (rmLNg4_3 hcx L t kn e0 e1 e2 e3 h15 X18.old f21 f22) sf0 (w279 hw) (w149 hw) (by decide) (by decide)) f20 rfl (sz hml rfl) (argsL := [(.int (3 : Int32))]) (rest := []) (lenOf pd27 rfl) rfl rfl (mroom rfl rfl) (D d22_35) (by decide) (by decide) fun T23 h23 vm23 v23 X23 C23 z23 q23 => ?_
  obtain ⟨rfl, K23⟩ := q23
  rw [K23] at X23 C23
  have f25 : Str Z h15 e3 b3 k3 ds := Pr6.ext E15
  refine X23.cast (w280 hw) (Ins.self f25.1) rfl rfl (D d22_40) fun T24 X24 => ?_
  show Gets p e below _ (T24.setTop (mkF m 43 #[vR x, vR L, .unset] [(.ref e3)]))
  refine X24.ldcC (w293 hw) (wSt hw) (by decide) (vs := [(.int (48 : Int32))]) (z := (1 : Int32)) ⟨by decide, by decide⟩ (by decide) (by decide) rfl (D d22_43) (n := 4) (by decide) (by decide) (by decide) (by decide) fun T26 h26 vm26 a26 yb26 k26 X26 C26 E26 Z26 Fc26 Fv26 V26 q26 => ?_
  have z26 := E26.1
  have l26 := ltA Z26.lt
  have lb26 := ltA V26.lt
  have f27 : Str Z h26 e3 b3 k3 ds := f25.ext E26
  have f28 : Str Z h26 a26 yb26 k26 [(48 : Int32)] := ⟨Z26, Fc26, Fv26, V26, (allI ⟨by decide, by decide⟩ allN), Nat.le_of_ble_eq_true rfl⟩
  refine X26.callV (W := 0) (w282 hw) (w283 hw) (w285 hw) (w284 hw) (nfs rfl (w285 hw)) (by decide) (payEq X26 hw (w16 hw) f27 f28 O2 P5 (by decide) (by decide)) f27.1 rfl (sz hml rfl) (argsL := [(.ref a26)]) (rest := []) (lenOf pd20 rfl) rfl rfl (mroom rfl rfl) (D d22_45) (by decide) (by decide) fun T29 h29 vm29 v29 X29 C29 z29 q29 => ?_
  obtain ⟨rfl, K29⟩ := q29
  rw [K29] at X29 C29
  have A30 := X29.at
  refine Gets.via (fun _ k => (XS.ifYes A30 hx rfl (pc0 := 48) (pc' := 55) rfl (D d22_48) rfl (Jvm.Free.XT.i0_eq_t (if_neg Pr9)) (by decide) (by decide) k)) ?_
  refine Gets.via (fun _ k => (XS.iconst A30 hx rfl (D d22_55) (XS.istoreN A30 hx rfl (D d22_56) rfl (l' := #[vR x, vR L, vI (0 : Int32)]) rfl (XS.iloadN A30 hx rfl (D d22_57) rfl (XS.ifYes A30 hx rfl (pc0 := 58) (pc' := 74) rfl (D d22_58) rfl (Jvm.Free.XT.i0_eq_t (by decide)) (by decide) (by decide) k))))) ?_
  refine Gets.via (fun _ k => (XS.aconstNull A30 hx rfl (D d22_74) k)) ?_
  show Gets p e below _ (T29.setTop (mkF m 75 #[vR x, vR L, vI (0 : Int32)] [.null]))
  exact X29.retA hret rfl rfl rfl (D d22_75) (by decide) (by decide) (fun vmE CE => ⟨rfl, (((Keep.refl h0 []).ext E15).ext E26)⟩)
abbrev RrmRol4f : Room := { frames := 2, cells := 2, slots := 16, locals := 28 }
def QrmRol4f (Z : State) (de : Addr) (el : Addr) (em : Addr) (x : Addr) (L : Addr) (e0 : Addr) (e1 : Addr) (e2 : Addr) (e3 : Addr) (t : Addr) (kn : ClassId) (b0 : Addr) (k0 : ClassId) (cs : List Int32) (b3 : Addr) (k3 : ClassId) (ds : List Int32) (h0 : Heap) (v : Option Value) (vm : Vm) (h : Heap) : Prop := v = some .null ∧ Keep h0 h []
theorem rmRol4f (hcx : Cx Z a0 zc de kde em el ee kee mr) (x : Addr) (L : Addr) (e0 : Addr) (e1 : Addr) (e2 : Addr) (e3 : Addr) (t : Addr) (kn : ClassId) (b0 : Addr) (k0 : ClassId) (cs : List Int32) (b3 : Addr) (k3 : ClassId) (ds : List Int32) (h0 : Heap) (O0 : Old Z Z.heap.size h0) (Pr0 : Exa Z h0 x "com/example/packwright/packwright/model/Node") (Pr1 : Fld Z h0 x "com/example/packwright/packwright/model/Node" "subscripts" "Ljava/util/List;" (.ref L)) (Pr2 : Exa Z h0 L "java/util/ImmutableCollections$ListN") (Pr3 : Fld Z h0 L "java/util/ImmutableCollections$ListN" "elements" "[Ljava/lang/Object;" (.ref t)) (Pr4 : Arv Z h0 t kn (.object "java/lang/Object") (4 : Int32) [(.ref e0), (.ref e1), (.ref e2), (.ref e3)] .null) (Pr5 : Str Z h0 e0 b0 k0 cs) (Pr6 : Str Z h0 e3 b3 k3 ds) (Pr7 : Exa Z h0 e1 "java/lang/String") (Pr8 : ¬ cs = [(82 : Int32), (84 : Int32), (78 : Int32)]) : Met l Z consts_1 (⟨"com/example/packwright/packwright/io/BuildAssembler", "routineOfLine", "(Lcom/example/packwright/packwright/model/Node;)Ljava/lang/String;"⟩ : MethodName) prog_4_method_10_code 3 (some (.object "java/lang/String")) [] RrmRol4f [] #[(.ref x)] h0 (QrmRol4f Z de el em x L e0 e1 e2 e3 t kn b0 k0 cs b3 k3 ds h0) := by
  have ⟨hw, hEL, O2, P5, OD, AD, XM, OM, OL, XL, FL, AE, MR⟩ := hcx
  refine Met.start (a0 := a0) (Ls := #[vR x, .unset, .unset]) pn22 hEL O0 (fun m => by first | (simp [entryFrame, mkF, argsToLocals, Value.category]; done) | rfl) ?_
  intro p e s m below meth cc T0 vm0 X0 sf0_ hby hml hret hnm
  have hx := X0.hx
  have D : ∀ {n r}, decode prog_4_method_10_code n = r → decode cc.code n = r := fun d => hb hby d
  have zz := X0.ge
  have A0 := X0.at
  have l1 := ltA Pr0.lt
  have l2 := ltA Pr2.lt
  have l3 := ltA Pr4.lt
  have l4 := ltA Pr5.lt
  have l5 := ltA Pr5.lb
  have l6 := ltA Pr6.lt
  have l7 := ltA Pr6.lb
  have l8 := ltA Pr7.lt
  refine Gets.via (fun _ k => (XS.aloadN A0 hx rfl (D d22_0) rfl rfl k)) ?_
  refine X0.callV (W := 0) (w136 hw) (w137 hw) (w139 hw) (w138 hw) (nfs rfl (w139 hw)) (by decide) (X0.payM (sf := []) (rmSubs hcx x L h0 X0.old Pr1) sf0 (w140 hw) (w84 hw) (by decide) (by decide)) Pr0 rfl (sz hml rfl) (argsL := []) (rest := []) (lenOf pd11 rfl) rfl rfl (mroom rfl rfl) (D d22_1) (by decide) (by decide) fun T9 h9 vm9 v9 X9 C9 z9 q9 => ?_
  obtain ⟨rfl, K9⟩ := q9
  rw [K9] at X9 C9
  have A10 := X9.at
  refine Gets.via (fun _ k => (XS.astoreN A10 hx rfl (D d22_4) rfl rfl (l' := #[vR x, vR L, .unset]) rfl (XS.aloadN A10 hx rfl (D d22_5) rfl rfl k))) ?_
  refine X9.callF (W := 0) (w141 hw) (w142 hw) (w143 hw) rfl (w144 hw) (w145 hw) (w146 hw) (w147 hw) (w148 hw) (by decide) (X9.payM (sf := []) (rmLNs4 hcx L t kn [(.ref e0), (.ref e1), (.ref e2), (.ref e3)] h0 X9.old Pr3 Pr4) sf0 (w150 hw) (w149 hw) (by decide) (by decide)) Pr2 rfl (sz hml rfl) (argsL := []) (rest := []) (lenOf pd14 rfl) rfl rfl (mroom rfl rfl) (D d22_6) (by decide) (by decide) fun T11 h11 vm11 v11 X11 C11 z11 q11 => ?_
  obtain ⟨rfl, K11⟩ := q11
  rw [K11] at X11 C11
  show Gets p e below _ (T11.setTop (mkF m 11 #[vR x, vR L, .unset] [(.int (4 : Int32))]))
  have A12 := X11.at
  refine Gets.via (fun _ k => (XS.iconst A12 hx rfl (D d22_11) (XS.icmpNo A12 hx rfl (D d22_12) rfl (Jvm.Free.XT.ii_ne_f (by decide)) k))) ?_
  refine Gets.via (fun _ k => (XS.aloadN A12 hx rfl (D d22_15) rfl rfl (XS.iconst A12 hx rfl (D d22_16) k))) ?_
  refine X11.callF (W := 0) (w272 hw) (w273 hw) (w274 hw) rfl (w275 hw) (w276 hw) (w277 hw) (w278 hw) (w148 hw) (by decide) (X11.payM (sf := []) (rmLNg4_0 hcx L t kn e0 e1 e2 e3 h0 X11.old Pr3 Pr4) sf0 (w279 hw) (w149 hw) (by decide) (by decide)) Pr2 rfl (sz hml rfl) (argsL := [(.int (0 : Int32))]) (rest := []) (lenOf pd27 rfl) rfl rfl (mroom rfl rfl) (D d22_17) (by decide) (by decide) fun T13 h13 vm13 v13 X13 C13 z13 q13 => ?_
  obtain ⟨rfl, K13⟩ := q13
  rw [K13] at X13 C13
  refine X13.cast (w280 hw) (Ins.self Pr5.1) rfl rfl (D d22_22) fun T14 X14 => ?_
  refine X14.ldcC (w281 hw) (wSt hw) (by decide) (vs := [(.int (82 : Int32)), (.int (84 : Int32)), (.int (78 : Int32))]) (z := (3 : Int32)) ⟨by decide, by decide⟩ (by decide) (by decide) rfl (D d22_25) (n := 12) (by decide) (by decide) (by decide) (by decide) fun T15 h15 vm15 a15 yb15 k15 X15 C15 E15 Z15 Fc15 Fv15 V15 q15 => ?_
  have z15 := E15.1
  have l15 := ltA Z15.lt
  have lb15 := ltA V15.lt
  show Gets p e below _ (T15.setTop (mkF m 27 #[vR x, vR L, .unset] [(.ref a15), (.ref e0)]))
  have f16 : Str Z h15 e0 b0 k0 cs := Pr5.ext E15
  have f17 : Str Z h15 a15 yb15 k15 [(82 : Int32), (84 : Int32), (78 : Int32)] := ⟨Z15, Fc15, Fv15, V15, (allI ⟨by decide, by decide⟩ (allI ⟨by decide, by decide⟩ (allI ⟨by decide, by decide⟩ allN))), Nat.le_of_ble_eq_true rfl⟩
  refine X15.callV (W := 0) (w282 hw) (w283 hw) (w285 hw) (w284 hw) (nfs rfl (w285 hw)) (by decide) (payEq X15 hw (w16 hw) f16 f17 O2 P5 (by decide) (by decide)) f16.1 rfl (sz hml rfl) (argsL := [(.ref a15)]) (rest := []) (lenOf pd20 rfl) rfl rfl (mroom rfl rfl) (D d22_27) (by decide) (by decide) fun T18 h18 vm18 v18 X18 C18 z18 q18 => ?_
  obtain ⟨rfl, K18⟩ := q18
  rw [K18] at X18 C18
  have A19 := X18.at
  refine Gets.via (fun _ k => (XS.ifYes A19 hx rfl (pc0 := 30) (pc' := 55) rfl (D d22_30) rfl (Jvm.Free.XT.i0_eq_t (if_neg Pr8)) (by decide) (by decide) k)) ?_
  refine Gets.via (fun _ k => (XS.iconst A19 hx rfl (D d22_55) (XS.istoreN A19 hx rfl (D d22_56) rfl (l' := #[vR x, vR L, vI (0 : Int32)]) rfl (XS.iloadN A19 hx rfl (D d22_57) rfl (XS.ifYes A19 hx rfl (pc0 := 58) (pc' := 74) rfl (D d22_58) rfl (Jvm.Free.XT.i0_eq_t (by decide)) (by decide) (by decide) k))))) ?_
  refine Gets.via (fun _ k => (XS.aconstNull A19 hx rfl (D d22_74) k)) ?_
  exact X18.retA hret rfl rfl rfl (D d22_75) (by decide) (by decide) (fun vmE CE => ⟨rfl, ((Keep.refl h0 []).ext E15)⟩)
abbrev RrmAddT4 : Room := { frames := 0, cells := 0, slots := 0, locals := 0 }
def QrmAddT4 (Z : State) (de : Addr) (el : Addr) (em : Addr) (x : Addr) (y : Addr) (mc : Int32) (d : Addr) (kd : ClassId) (e0 : Addr) (e1 : Addr) (e2 : Addr) (e3 : Addr) (h0 : Heap) (v : Option Value) (vm : Vm) (h : Heap) : Prop := v = none ∧ Keep h0 h [x, d] ∧ Exa Z h x "java/util/ArrayList" ∧ Fld Z h x "java/util/AbstractList" "modCount" "I" (.int mc) ∧ Fld Z h x "java/util/ArrayList" "size" "I" (.int (5 : Int32)) ∧ Fld Z h x "java/util/ArrayList" "elementData" "[Ljava/lang/Object;" (.ref d) ∧ Arv Z h d kd (.object "java/lang/Object") (10 : Int32) [(.ref e0), (.ref e1), (.ref e2), (.ref e3), (.ref y), .null, .null, .null, .null, .null] .null ∧ Exa Z h d "[Ljava/lang/Object;"
theorem rmAddT4 (hcx : Cx Z a0 zc de kde em el ee kee mr) (x : Addr) (y : Addr) (mc : Int32) (d : Addr) (kd : ClassId) (e0 : Addr) (e1 : Addr) (e2 : Addr) (e3 : Addr) (h0 : Heap) (O0 : Old Z Z.heap.size h0) (Pr0 : Exa Z h0 x "java/util/ArrayList") (Pr1 : Fld Z h0 x "java/util/AbstractList" "modCount" "I" (.int mc)) (Pr2 : Fld Z h0 x "java/util/ArrayList" "size" "I" (.int (4 : Int32))) (Pr3 : Fld Z h0 x "java/util/ArrayList" "elementData" "[Ljava/lang/Object;" (.ref d)) (Pr4 : Arv Z h0 d kd (.object "java/lang/Object") (10 : Int32) [(.ref e0), (.ref e1), (.ref e2), (.ref e3), .null, .null, .null, .null, .null, .null] .null) (Pr5 : Exa Z h0 d "[Ljava/lang/Object;") (Pr6 : Ovr Z kd "java/lang/Object") (Pr7 : Z.heap.size ≤ d) (Pr8 : x ≠ d) (Pr9 : Z.heap.size ≤ x) (Pr10 : Exa Z h0 y "java/lang/String") : Met l Z consts_1 (⟨"java/util/ArrayList", "add", "(Ljava/lang/Object;[Ljava/lang/Object;I)V"⟩ : MethodName) jdk_38_method_24_code 4 (none) [] RrmAddT4 [] #[(.ref x), (.ref y), (.ref d), (.int (4 : Int32))] h0 (QrmAddT4 Z de el em x y mc d kd e0 e1 e2 e3 h0) := by
  have ⟨hw, hEL, O2, P5, OD, AD, XM, OM, OL, XL, FL, AE, MR⟩ := hcx
  refine Met.start (a0 := a0) (Ls := #[vR x, vR y, vR d, vI (4 : Int32)]) pn26 hEL O0 (fun m => by first | (simp [entryFrame, mkF, argsToLocals, Value.category]; done) | rfl) ?_
  intro p e s m below meth cc T0 vm0 X0 sf0_ hby hml hret hnm
  have hx := X0.hx
  have D : ∀ {n r}, decode jdk_38_method_24_code n = r → decode cc.code n = r := fun d => hb hby d
  have zz := X0.ge
  have A0 := X0.at
  have l1 := ltA Pr0.lt
  have l2 := ltA Pr4.lt
  have l3 := neA Pr8
  have l4 := ltA Pr10.lt
  refine Gets.via (fun _ k => (XS.iloadN A0 hx rfl (D d26_0) rfl (XS.aloadN A0 hx rfl (D d26_1) rfl rfl k))) ?_
  refine X0.alen Pr4 rfl rfl (D d26_2) ?_
  refine Gets.via (fun _ k => (XS.icmpYes A0 hx rfl (pc0 := 3) (pc' := 11) rfl (D d26_3) rfl (Jvm.Free.XT.ii_ne_t (by decide)) (by decide) (by decide) k)) ?_
  refine Gets.via (fun _ k => (XS.aloadN A0 hx rfl (D d26_11) rfl rfl (XS.iloadN A0 hx rfl (D d26_12) rfl (XS.aloadN A0 hx rfl (D d26_13) rfl rfl k)))) ?_
  show Gets p e below _ (T0.setTop (mkF m 14 #[vR x, vR y, vR d, vI (4 : Int32)] [(.ref y), (.int (4 : Int32)), (.ref d)]))
  refine X0.stR Pr4 (stoV Pr4 Pr6 (Ins.of_exa Pr10 (w182 hw))) rfl (i := 4) (by decide) (by decide) (Nat.le_of_ble_eq_true rfl) (by decide) (leA (by omega)) rfl rfl (D d26_14) fun T5 h5 X5 C5 K5 V5 => ?_
  have z5 := K5.1
  have V5_ : Arv Z h5 d kd (.object "java/lang/Object") (10 : Int32) [(.ref e0), (.ref e1), (.ref e2), (.ref e3), (.ref y), .null, .null, .null, .null, .null] .null := V5
  have A6 := X5.at
  refine Gets.via (fun _ k => (XS.aloadN A6 hx rfl (D d26_15) rfl rfl (XS.iloadN A6 hx rfl (D d26_16) rfl (XS.iconst A6 hx rfl (D d26_17) (iaddV A6 hx rfl (D d26_18) rfl (v := (5 : Int32)) (by decide) k))))) ?_
  have f8 := Pr2.keep K5 (ninS (neA (by omega)) nin0)
  have f9 := Pr0.keep K5
  refine X5.putF (host := "") (Or.inl (w120 hw)) Via.refl f8 f9 (Or.inl (w121 hw)) (w59 hw) (ty := .int) (by decide) rfl rfl (leA (by omega)) (Safe.exa X5.hZ.alike f9 (by decide) (by decide)) rfl rfl (D d26_19) fun T7 h7 X7 C7 W7 F7 Z7 => ?_
  have z7 := W7.size
  have f10 := Pr1.keep K5 (ninS (neA (by omega)) nin0)
  have f11 := f10.other W7 (Or.inr (slot_ne (t := .int) (t' := .int) (Or.inl (w78 hw)) (Or.inl (w121 hw)) (by decide) (by decide) (by decide)))
  have f12 := Pr3.keep K5 (ninS (neA (by omega)) nin0)
  have f13 := f12.other W7 (Or.inr (slot_ne (t := (.array (.object "java/lang/Object"))) (t' := .int) (Or.inl (w81 hw)) (Or.inl (w121 hw)) (by decide) (by decide) (by decide)))
  have f14 := V5_.other W7 (neA (by omega))
  have f15 := Pr5.keep K5
  have f16 := f15.wr W7
  exact X7.retV hret (D d26_22) (by decide) (by decide) (fun vmE CE => ⟨rfl, (((Keep.refl h0 [x, d]).trans K5 (allS (Or.inl (List.mem_of_getElem? (i := 1) rfl)) all0)).wr W7 (Or.inl (List.mem_of_getElem? (i := 0) rfl))), Z7, f11, F7, f13, f14, f16⟩)
abbrev RrmAdd4 : Room := { frames := 1, cells := 0, slots := 0, locals := 15 }
def QrmAdd4 (Z : State) (de : Addr) (el : Addr) (em : Addr) (x : Addr) (y : Addr) (mc : Int32) (d : Addr) (kd : ClassId) (e0 : Addr) (e1 : Addr) (e2 : Addr) (e3 : Addr) (h0 : Heap) (v : Option Value) (vm : Vm) (h : Heap) : Prop := v = some (.int (1 : Int32)) ∧ Keep h0 h [x, d] ∧ Exa Z h x "java/util/ArrayList" ∧ Fld Z h x "java/util/AbstractList" "modCount" "I" (.int (mc + (1 : Int32))) ∧ Fld Z h x "java/util/ArrayList" "size" "I" (.int (5 : Int32)) ∧ Fld Z h x "java/util/ArrayList" "elementData" "[Ljava/lang/Object;" (.ref d) ∧ Arv Z h d kd (.object "java/lang/Object") (10 : Int32) [(.ref e0), (.ref e1), (.ref e2), (.ref e3), (.ref y), .null, .null, .null, .null, .null] .null ∧ Exa Z h d "[Ljava/lang/Object;"
theorem rmAdd4 (hcx : Cx Z a0 zc de kde em el ee kee mr) (x : Addr) (y : Addr) (mc : Int32) (d : Addr) (kd : ClassId) (e0 : Addr) (e1 : Addr) (e2 : Addr) (e3 : Addr) (h0 : Heap) (O0 : Old Z Z.heap.size h0) (Pr0 : Exa Z h0 x "java/util/ArrayList") (Pr1 : Fld Z h0 x "java/util/AbstractList" "modCount" "I" (.int mc)) (Pr2 : Fld Z h0 x "java/util/ArrayList" "size" "I" (.int (4 : Int32))) (Pr3 : Fld Z h0 x "java/util/ArrayList" "elementData" "[Ljava/lang/Object;" (.ref d)) (Pr4 : Arv Z h0 d kd (.object "java/lang/Object") (10 : Int32) [(.ref e0), (.ref e1), (.ref e2), (.ref e3), .null, .null, .null, .null, .null, .null] .null) (Pr5 : Exa Z h0 d "[Ljava/lang/Object;") (Pr6 : Ovr Z kd "java/lang/Object") (Pr7 : Z.heap.size ≤ d) (Pr8 : x ≠ d) (Pr9 : Z.heap.size ≤ x) (Pr10 : Exa Z h0 y "java/lang/String") : Met l Z consts_1 (⟨"java/util/ArrayList", "add", "(Ljava/lang/Object;)Z"⟩ : MethodName) jdk_38_method_25_code 2 (some .boolean) [] RrmAdd4 [] #[(.ref x), (.ref y)] h0 (QrmAdd4 Z de el em x y mc d kd e0 e1 e2 e3 h0) := by
  have ⟨hw, hEL, O2, P5, OD, AD, XM, OM, OL, XL, FL, AE, MR⟩ := hcx
  refine Met.start (a0 := a0) (Ls := #[vR x, vR y]) pn25 hEL O0 (fun m => by first | (simp [entryFrame, mkF, argsToLocals, Value.category]; done) | rfl) ?_
  intro p e s m below meth cc T0 vm0 X0 sf0_ hby hml hret hnm
  have hx := X0.hx
  have D : ∀ {n r}, decode jdk_38_method_25_code n = r → decode cc.code n = r := fun d => hb hby d
  have zz := X0.ge
  have A0 := X0.at
  have l1 := ltA Pr0.lt
  have l2 := ltA Pr4.lt
  have l3 := neA Pr8
  have l4 := ltA Pr10.lt
  refine Gets.via (fun _ k => (XS.aloadN A0 hx rfl (D d25_0) rfl rfl (XS.dup A0 hx rfl (D d25_1) rfl rfl k))) ?_
  refine X0.getF (host := "") (Or.inl (w159 hw)) (Via.of (w160 hw)) Pr1 rfl rfl (D d25_2) fun T5 X5 => ?_
  have A6 := X5.at
  refine Gets.via (fun _ k => (XS.iconst A6 hx rfl (D d25_5) (XS.iadd A6 hx rfl (D d25_6) rfl k))) ?_
  refine X5.putF (host := "") (Or.inl (w159 hw)) (Via.of (w160 hw)) Pr1 Pr0 (Or.inl (w78 hw)) (w59 hw) (ty := .int) (by decide) rfl rfl (leA (by omega)) (Safe.exa X5.hZ.alike Pr0 (by decide) (by decide)) rfl rfl (D d25_7) fun T7 h7 X7 C7 W7 F7 Z7 => ?_
  have z7 := W7.size
  show Gets p e below _ (T7.setTop (mkF m 10 #[vR x, vR y] []))
  have A8 := X7.at
  refine Gets.via (fun _ k => (XS.aloadN A8 hx rfl (D d25_10) rfl rfl (XS.aloadN A8 hx rfl (D d25_11) rfl rfl (XS.aloadN A8 hx rfl (D d25_12) rfl rfl k)))) ?_
  have f10 := Pr3.other W7 (Or.inr (slot_ne (t := (.array (.object "java/lang/Object"))) (t' := .int) (Or.inl (w81 hw)) (Or.inl (w78 hw)) (by decide) (by decide) (by decide)))
  refine X7.getF (host := "") (Or.inl (w80 hw)) Via.refl f10 rfl rfl (D d25_13) fun T9 X9 => ?_
  have A11 := X9.at
  refine Gets.via (fun _ k => (XS.aloadN A11 hx rfl (D d25_16) rfl rfl k)) ?_
  have f13 := Pr2.other W7 (Or.inr (slot_ne (t := .int) (t' := .int) (Or.inl (w121 hw)) (Or.inl (w78 hw)) (by decide) (by decide) (by decide)))
  refine X9.getF (host := "") (Or.inl (w120 hw)) Via.refl f13 rfl rfl (D d25_17) fun T12 X12 => ?_
  have f14 := Pr4.other W7 (neA (by omega))
  have f15 := Pr5.wr W7
  have f16 := Pr10.wr W7
  refine X12.callP (W := 0) (w161 hw) (w162 hw) (w164 hw) (w163 hw) (w165 hw) (by decide) (X12.payM (sf := []) (rmAddT4 hcx x y (mc + (1 : Int32)) d kd e0 e1 e2 e3 h7 X12.old Z7 F7 f13 f10 f14 f15 Pr6 Pr7 Pr8 Pr9 f16) sf0 (w165 hw) (w60 hw) (by decide) (by decide)) Z7 rfl (sz hml rfl) (argsL := [(.ref y), (.ref d), (.int (4 : Int32))]) (rest := []) (lenOf pd19 rfl) rfl rfl (mroom rfl rfl) (D d25_20) (by decide) (by decide) fun T17 h17 vm17 v17 X17 C17 z17 q17 => ?_
  obtain ⟨rfl, K17, g17_0, g17_1, g17_2, g17_3, g17_4, g17_5⟩ := q17
  have l18 := ltA g17_0.lt
  have l19 := ltA g17_4.lt
  show Gets p e below _ (T17.setTop (mkF m 23 #[vR x, vR y] []))
  have A20 := X17.at
  refine Gets.via (fun _ k => (XS.iconst A20 hx rfl (D d25_23) k)) ?_
  exact X17.retI hret (by decide) (by simp) (D d25_24) (by decide) (by decide) (fun vmE CE => ⟨rfl, (((Keep.refl h0 [x, d]).wr W7 (Or.inl (List.mem_of_getElem? (i := 0) rfl))).trans K17 (allS (Or.inl (List.mem_of_getElem? (i := 0) rfl)) (allS (Or.inl (List.mem_of_getElem? (i := 1) rfl)) all0))), g17_0, g17_1, g17_2, g17_3, g17_4, g17_5⟩)
abbrev RrmAlEmpty5 : Room := { frames := 0, cells := 0, slots := 0, locals := 0 }
def QrmAlEmpty5 (Z : State) (de : Addr) (el : Addr) (em : Addr) (x : Addr) (h0 : Heap) (v : Option Value) (vm : Vm) (h : Heap) : Prop := v = some (.int (0 : Int32)) ∧ h = h0
theorem rmAlEmpty5 (hcx : Cx Z a0 zc de kde em el ee kee mr) (x : Addr) (h0 : Heap) (O0 : Old Z Z.heap.size h0) (Pr0 : Fld Z h0 x "java/util/ArrayList" "size" "I" (.int (5 : Int32))) : Met l Z consts_1 (⟨"java/util/ArrayList", "isEmpty", "()Z"⟩ : MethodName) jdk_38_method_9_code 1 (some .boolean) [] RrmAlEmpty5 [] #[(.ref x)] h0 (QrmAlEmpty5 Z de el em x h0) := by
  have ⟨hw, hEL, O2, P5, OD, AD, XM, OM, OL, XL, FL, AE, MR⟩ := hcx
  refine Met.start (a0 := a0) (Ls := #[vR x]) pn20 hEL O0 (fun m => by first | (simp [entryFrame, mkF, argsToLocals, Value.category]; done) | rfl) ?_
  intro p e s m below meth cc T0 vm0 X0 sf0_ hby hml hret hnm
  have hx := X0.hx
  have D : ∀ {n r}, decode jdk_38_method_9_code n = r → decode cc.code n = r := fun d => hb hby d
  have zz := X0.ge
  have A0 := X0.at
  have l1 := ltA Pr0.lt
  refine Gets.via (fun _ k => (XS.aloadN A0 hx rfl (D d20_0) rfl rfl k)) ?_
  refine X0.getF (host := "") (Or.inl (w120 hw)) Via.refl Pr0 rfl rfl (D d20_1) fun T2 X2 => ?_
  have A3 := X2.at
  refine Gets.via (fun _ k => (XS.ifYes A3 hx rfl (pc0 := 4) (pc' := 11) rfl (D d20_4) rfl (Jvm.Free.XT.i0_ne_t (by decide)) (by decide) (by decide) k)) ?_
  refine Gets.via (fun _ k => (XS.iconst A3 hx rfl (D d20_11) k)) ?_
  exact X2.retI hret (by decide) (by simp) (D d20_12) (by decide) (by decide) (fun vmE CE => ⟨rfl, rfl⟩)
abbrev Rrmmin_10_5 : Room := { frames := 0, cells := 0, slots := 0, locals := 0 }
def Qrmmin_10_5 (Z : State) (de : Addr) (el : Addr) (em : Addr) (h0 : Heap) (v : Option Value) (vm : Vm) (h : Heap) : Prop := v = some (.int (5 : Int32)) ∧ h = h0
theorem rmmin_10_5 (hcx : Cx Z a0 zc de kde em el ee kee mr)  (h0 : Heap) (O0 : Old Z Z.heap.size h0)  : Met l Z consts_1 (⟨"java/lang/Math", "min", "(II)I"⟩ : MethodName) jdk_29_method_69_code 2 (some .int) [] Rrmmin_10_5 [] #[(.int (10 : Int32)), (.int (5 : Int32))] h0 (Qrmmin_10_5 Z de el em h0) := by
  have ⟨hw, hEL, O2, P5, OD, AD, XM, OM, OL, XL, FL, AE, MR⟩ := hcx
  refine Met.start (a0 := a0) (Ls := #[vI (10 : Int32), vI (5 : Int32)]) pn33 hEL O0 (fun m => by first | (simp [entryFrame, mkF, argsToLocals, Value.category]; done) | rfl) ?_
  intro p e s m below meth cc T0 vm0 X0 sf0_ hby hml hret hnm
  have hx := X0.hx
  have D : ∀ {n r}, decode jdk_29_method_69_code n = r → decode cc.code n = r := fun d => hb hby d
  have zz := X0.ge
  have A0 := X0.at
  refine Gets.via (fun _ k => (XS.iloadN A0 hx rfl (D d33_0) rfl (XS.iloadN A0 hx rfl (D d33_1) rfl (XS.icmpYes A0 hx rfl (pc0 := 2) (pc' := 9) rfl (D d33_2) rfl (Jvm.Free.XT.ii_gt_t (by decide)) (by decide) (by decide) k)))) ?_
  refine Gets.via (fun _ k => (XS.iloadN A0 hx rfl (D d33_9) rfl k)) ?_
  exact X0.retI hret rfl (by simp) (D d33_10) (by decide) (by decide) (fun vmE CE => ⟨rfl, rfl⟩)
abbrev RrmCoT5 : Room := { frames := 1, cells := 1, slots := 5, locals := 22 }
def QrmCoT5 (Z : State) (de : Addr) (el : Addr) (em : Addr) (d : Addr) (kd : ClassId) (e0 : Addr) (e1 : Addr) (e2 : Addr) (e3 : Addr) (e4 : Addr) (h0 : Heap) (v : Option Value) (vm : Vm) (h : Heap) : Prop := ∃ (r : Addr) (kr : ClassId), v = some (.ref r) ∧ Keep h0 h [] ∧ Arv Z h r kr (.object "java/lang/Object") (5 : Int32) [(.ref e0), (.ref e1), (.ref e2), (.ref e3), (.ref e4)] .null ∧ Exa Z h r "[Ljava/lang/Object;" ∧ Ovr Z kr "java/lang/Object" ∧ h0.size ≤ r
theorem rmCoT5 (hcx : Cx Z a0 zc de kde em el ee kee mr) (d : Addr) (kd : ClassId) (e0 : Addr) (e1 : Addr) (e2 : Addr) (e3 : Addr) (e4 : Addr) (h0 : Heap) (O0 : Old Z Z.heap.size h0) (Pr0 : Arv Z h0 d kd (.object "java/lang/Object") (10 : Int32) [(.ref e0), (.ref e1), (.ref e2), (.ref e3), (.ref e4), .null, .null, .null, .null, .null] .null) (Pr1 : Exa Z h0 d "[Ljava/lang/Object;") (Pr2 : Exa Z h0 e0 "java/lang/String") (Pr3 : Exa Z h0 e1 "java/lang/String") (Pr4 : Exa Z h0 e2 "java/lang/String") (Pr5 : Exa Z h0 e3 "java/lang/String") (Pr6 : Exa Z h0 e4 "java/lang/String") : Met l Z consts_1 (⟨"java/util/Arrays", "copyOf", "([Ljava/lang/Object;ILjava/lang/Class;)[Ljava/lang/Object;"⟩ : MethodName) jdk_65_method_120_code 4 (some (.array (.object "java/lang/Object"))) [] RrmCoT5 [] #[(.ref d), (.int (5 : Int32)), (.ref mr)] h0 (QrmCoT5 Z de el em d kd e0 e1 e2 e3 e4 h0) := by
  have ⟨hw, hEL, O2, P5, OD, AD, XM, OM, OL, XL, FL, AE, MR⟩ := hcx
  refine Met.start (a0 := a0) (Ls := #[vR d, vI (5 : Int32), vR mr, .unset]) pn32 hEL O0 (fun m => by first | (simp [entryFrame, mkF, argsToLocals, Value.category]; done) | rfl) ?_
  intro p e s m below meth cc T0 vm0 X0 sf0_ hby hml hret hnm
  have hx := X0.hx
  have D : ∀ {n r}, decode jdk_65_method_120_code n = r → decode cc.code n = r := fun d => hb hby d
  have zz := X0.ge
  have A0 := X0.at
  have l1 := ltA Pr0.lt
  have l2 := ltA Pr2.lt
  have l3 := ltA Pr3.lt
  have l4 := ltA Pr4.lt
  have l5 := ltA Pr5.lt
  have l6 := ltA Pr6.lt
  refine Gets.via (fun _ k => (XS.aloadN A0 hx rfl (D d32_0) rfl rfl k)) ?_
  refine X0.ldcM (w204 hw) MR rfl (D d32_1) fun T7 X7 => ?_
  refine X7.acmpW hx rfl rfl rfl (pc0 := 3) (pc' := 6) (same := true) rfl (D d32_3) rfl (by simp) (by decide) (by decide) ?_
  have A8 := X7.at
  refine Gets.via (fun _ k => (XS.iloadN A8 hx rfl (D d32_6) rfl k)) ?_
  refine X7.newR (ad := "[Ljava/lang/Object;") (w205 hw) (w181 hw) rfl (D d32_7) rfl (by decide) (cap := 5) (by decide) (by decide) (by decide) (by decide) (by decide) fun T9 h9 a9 k9 X9 C9 E9 g9 Z9 Ov9 V9 => ?_
  have z9 := E9.1
  have l9 := ltA V9.lt
  have V9_ : Arv Z h9 a9 k9 (.object "java/lang/Object") (5 : Int32) [.null, .null, .null, .null, .null] .null := padN V9 5
  show Gets p e below _ (T9.setTop (mkF m 10 #[vR d, vI (5 : Int32), vR mr, .unset] [(.ref a9)]))
  have A10 := X9.at
  refine Gets.via (fun _ k => (XS.goto A10 hx rfl (pc0 := 10) (pc' := 24) rfl (D d32_10) (by decide) (by decide) k)) ?_
  refine Gets.via (fun _ k => (XS.astoreN A10 hx rfl (D d32_24) rfl rfl (l' := #[vR d, vI (5 : Int32), vR mr, vR a9]) rfl (XS.aloadN A10 hx rfl (D d32_25) rfl rfl (XS.iconst A10 hx rfl (D d32_26) (XS.aloadN A10 hx rfl (D d32_27) rfl rfl (XS.iconst A10 hx rfl (D d32_28) (XS.aloadN A10 hx rfl (D d32_29) rfl rfl k))))))) ?_
  have f11 := Pr0.ext E9
  refine X9.alen f11 rfl rfl (D d32_30) ?_
  refine Gets.via (fun _ k => (XS.iloadN A10 hx rfl (D d32_31) rfl k)) ?_
  refine X9.callS (W := 4) (w206 hw) (w207 hw) (w178 hw) (w208 hw) (by decide) (X9.payM (sf := []) (rmmin_10_5 hcx  h9 X9.old ) sf0 (w208 hw) (w178 hw) (by decide) (by decide)) rfl (sz hml rfl) (argsL := [(.int (10 : Int32)), (.int (5 : Int32))]) (rest := [(.int (0 : Int32)), (.ref a9), (.int (0 : Int32)), (.ref d)]) (lenOf pd16 rfl) rfl rfl (mroom rfl rfl) (D d32_32) (by decide) (by decide) fun T12 h12 vm12 v12 X12 C12 z12 q12 => ?_
  obtain ⟨rfl, K12⟩ := q12
  rw [K12] at X12 C12
  show Gets p e below _ (T12.setTop (mkF m 35 #[vR d, vI (5 : Int32), vR mr, vR a9] [(.int (5 : Int32)), (.int (0 : Int32)), (.ref a9), (.int (0 : Int32)), (.ref d)]))
  have f14 := Pr6.ext E9
  have f15 := Pr5.ext E9
  have f16 := Pr4.ext E9
  have f17 := Pr3.ext E9
  have f18 := Pr2.ext E9
  refine X12.copy (w209 hw) (w212 hw) (w210 hw) (w211 hw) (us := [(.ref e0), (.ref e1), (.ref e2), (.ref e3), (.ref e4)]) f11 V9_ (Or.inr ⟨rfl, rfl, ⟨(stoV V9_ Ov9 (Ins.of_exa f18 (w182 hw))), ⟨(stoV V9_ Ov9 (Ins.of_exa f17 (w182 hw))), ⟨(stoV V9_ Ov9 (Ins.of_exa f16 (w182 hw))), ⟨(stoV V9_ Ov9 (Ins.of_exa f15 (w182 hw))), ⟨(stoV V9_ Ov9 (Ins.of_exa f14 (w182 hw))), trivial⟩⟩⟩⟩⟩⟩) (by decide) (by decide) (by decide) (by decide) (by decide) rfl (Nat.le_of_ble_eq_true rfl) (leA (by omega)) (Safe.exa X12.hZ.alike Z9 (by decide) (by decide)) rfl (sz hml rfl) rfl (D d32_35) (by decide) (W := 0) (mroom rfl rfl) (by decide) fun T13 h13 X13 C13 K13 V13 => ?_
  have z13 := K13.1
  have V13_ : Arv Z h13 a9 k9 (.object "java/lang/Object") (5 : Int32) [(.ref e0), (.ref e1), (.ref e2), (.ref e3), (.ref e4)] .null := V13
  have A19 := X13.at
  refine Gets.via (fun _ k => (XS.aloadN A19 hx rfl (D d32_38) rfl rfl k)) ?_
  have f20 := Z9.keep K13
  exact X13.retA hret rfl rfl rfl (D d32_39) (by decide) (by decide) (fun vmE CE => ⟨a9, k9, rfl, (((Keep.refl h0 []).ext E9).trans K13 (allS (Or.inr (leA (by omega))) all0)), V13_, f20, Ov9, (leA (by omega))⟩)
abbrev RrmCo5 : Room := { frames := 2, cells := 1, slots := 5, locals := 37 }
def QrmCo5 (Z : State) (de : Addr) (el : Addr) (em : Addr) (d : Addr) (kd : ClassId) (e0 : Addr) (e1 : Addr) (e2 : Addr) (e3 : Addr) (e4 : Addr) (h0 : Heap) (v : Option Value) (vm : Vm) (h : Heap) : Prop := ∃ (r : Addr) (kr : ClassId), v = some (.ref r) ∧ Keep h0 h [] ∧ Arv Z h r kr (.object "java/lang/Object") (5 : Int32) [(.ref e0), (.ref e1), (.ref e2), (.ref e3), (.ref e4)] .null ∧ Exa Z h r "[Ljava/lang/Object;" ∧ Ovr Z kr "java/lang/Object" ∧ h0.size ≤ r
theorem rmCo5 (hcx : Cx Z a0 zc de kde em el ee kee mr) (d : Addr) (kd : ClassId) (e0 : Addr) (e1 : Addr) (e2 : Addr) (e3 : Addr) (e4 : Addr) (h0 : Heap) (O0 : Old Z Z.heap.size h0) (Pr0 : Arv Z h0 d kd (.object "java/lang/Object") (10 : Int32) [(.ref e0), (.ref e1), (.ref e2), (.ref e3), (.ref e4), .null, .null, .null, .null, .null] .null) (Pr1 : Exa Z h0 d "[Ljava/lang/Object;") (Pr2 : Exa Z h0 e0 "java/lang/String") (Pr3 : Exa Z h0 e1 "java/lang/String") (Pr4 : Exa Z h0 e2 "java/lang/String") (Pr5 : Exa Z h0 e3 "java/lang/String") (Pr6 : Exa Z h0 e4 "java/lang/String") : Met l Z consts_1 (⟨"java/util/Arrays", "copyOf", "([Ljava/lang/Object;I)[Ljava/lang/Object;"⟩ : MethodName) jdk_65_method_119_code 2 (some (.array (.object "java/lang/Object"))) [] RrmCo5 [] #[(.ref d), (.int (5 : Int32))] h0 (QrmCo5 Z de el em d kd e0 e1 e2 e3 e4 h0) := by
  have ⟨hw, hEL, O2, P5, OD, AD, XM, OM, OL, XL, FL, AE, MR⟩ := hcx
  refine Met.start (a0 := a0) (Ls := #[vR d, vI (5 : Int32)]) pn31 hEL O0 (fun m => by first | (simp [entryFrame, mkF, argsToLocals, Value.category]; done) | rfl) ?_
  intro p e s m below meth cc T0 vm0 X0 sf0_ hby hml hret hnm
  have hx := X0.hx
  have D : ∀ {n r}, decode jdk_65_method_119_code n = r → decode cc.code n = r := fun d => hb hby d
  have zz := X0.ge
  have A0 := X0.at
  have l1 := ltA Pr0.lt
  have l2 := ltA Pr2.lt
  have l3 := ltA Pr3.lt
  have l4 := ltA Pr4.lt
  have l5 := ltA Pr5.lt
  have l6 := ltA Pr6.lt
  refine Gets.via (fun _ k => (XS.aloadN A0 hx rfl (D d31_0) rfl rfl (XS.iloadN A0 hx rfl (D d31_1) rfl (XS.aloadN A0 hx rfl (D d31_2) rfl rfl k)))) ?_
  refine X0.getC (w195 hw) (w196 hw) (w109 hw) (w198 hw) (w197 hw) (w199 hw) Pr1 MR rfl (sz hml rfl) rfl (D d31_3) (by decide) (W := 2) (mroom rfl rfl) (by decide) fun T7 X7 => ?_
  refine X7.callS (W := 0) (w201 hw) (w202 hw) (w193 hw) (w203 hw) (by decide) (X7.payM (sf := []) (rmCoT5 hcx d kd e0 e1 e2 e3 e4 h0 X7.old Pr0 Pr1 Pr2 Pr3 Pr4 Pr5 Pr6) sf0 (w203 hw) (w193 hw) (by decide) (by decide)) rfl (sz hml rfl) (argsL := [(.ref d), (.int (5 : Int32)), (.ref mr)]) (rest := []) (lenOf pd21 rfl) rfl rfl (mroom rfl rfl) (D d31_6) (by decide) (by decide) fun T8 h8 vm8 v8 X8 C8 z8 q8 => ?_
  obtain ⟨r8, kr8, rfl, K8, g8_0, g8_1, g8_2, g8_3⟩ := q8
  have l9 := ltA g8_0.lt
  show Gets p e below _ (T8.setTop (mkF m 9 #[vR d, vI (5 : Int32)] [(.ref r8)]))
  exact X8.retA hret rfl rfl rfl (D d31_9) (by decide) (by decide) (fun vmE CE => ⟨r8, kr8, rfl, ((Keep.refl h0 []).trans K8 all0), g8_0, g8_1, g8_2, g8_3⟩)
abbrev RrmToA5 : Room := { frames := 3, cells := 1, slots := 5, locals := 50 }
def QrmToA5 (Z : State) (de : Addr) (el : Addr) (em : Addr) (x : Addr) (d : Addr) (kd : ClassId) (e0 : Addr) (e1 : Addr) (e2 : Addr) (e3 : Addr) (e4 : Addr) (h0 : Heap) (v : Option Value) (vm : Vm) (h : Heap) : Prop := ∃ (r : Addr) (kr : ClassId), v = some (.ref r) ∧ Keep h0 h [] ∧ Arv Z h r kr (.object "java/lang/Object") (5 : Int32) [(.ref e0), (.ref e1), (.ref e2), (.ref e3), (.ref e4)] .null ∧ Exa Z h r "[Ljava/lang/Object;" ∧ Ovr Z kr "java/lang/Object" ∧ h0.size ≤ r
theorem rmToA5 (hcx : Cx Z a0 zc de kde em el ee kee mr) (x : Addr) (d : Addr) (kd : ClassId) (e0 : Addr) (e1 : Addr) (e2 : Addr) (e3 : Addr) (e4 : Addr) (h0 : Heap) (O0 : Old Z Z.heap.size h0) (Pr0 : Fld Z h0 x "java/util/ArrayList" "size" "I" (.int (5 : Int32))) (Pr1 : Fld Z h0 x "java/util/ArrayList" "elementData" "[Ljava/lang/Object;" (.ref d)) (Pr2 : Arv Z h0 d kd (.object "java/lang/Object") (10 : Int32) [(.ref e0), (.ref e1), (.ref e2), (.ref e3), (.ref e4), .null, .null, .null, .null, .null] .null) (Pr3 : Exa Z h0 d "[Ljava/lang/Object;") (Pr4 : Exa Z h0 e0 "java/lang/String") (Pr5 : Exa Z h0 e1 "java/lang/String") (Pr6 : Exa Z h0 e2 "java/lang/String") (Pr7 : Exa Z h0 e3 "java/lang/String") (Pr8 : Exa Z h0 e4 "java/lang/String") : Met l Z consts_1 (⟨"java/util/ArrayList", "toArray", "()[Ljava/lang/Object;"⟩ : MethodName) jdk_38_method_16_code 1 (some (.array (.object "java/lang/Object"))) [] RrmToA5 [] #[(.ref x)] h0 (QrmToA5 Z de el em x d kd e0 e1 e2 e3 e4 h0) := by
  have ⟨hw, hEL, O2, P5, OD, AD, XM, OM, OL, XL, FL, AE, MR⟩ := hcx
  refine Met.start (a0 := a0) (Ls := #[vR x]) pn30 hEL O0 (fun m => by first | (simp [entryFrame, mkF, argsToLocals, Value.category]; done) | rfl) ?_
  intro p e s m below meth cc T0 vm0 X0 sf0_ hby hml hret hnm
  have hx := X0.hx
  have D : ∀ {n r}, decode jdk_38_method_16_code n = r → decode cc.code n = r := fun d => hb hby d
  have zz := X0.ge
  have A0 := X0.at
  have l1 := ltA Pr0.lt
  have l2 := ltA Pr2.lt
  have l3 := ltA Pr4.lt
  have l4 := ltA Pr5.lt
  have l5 := ltA Pr6.lt
  have l6 := ltA Pr7.lt
  have l7 := ltA Pr8.lt
  refine Gets.via (fun _ k => (XS.aloadN A0 hx rfl (D d30_0) rfl rfl k)) ?_
  refine X0.getF (host := "") (Or.inl (w80 hw)) Via.refl Pr1 rfl rfl (D d30_1) fun T8 X8 => ?_
  have A9 := X8.at
  refine Gets.via (fun _ k => (XS.aloadN A9 hx rfl (D d30_4) rfl rfl k)) ?_
  refine X8.getF (host := "") (Or.inl (w120 hw)) Via.refl Pr0 rfl rfl (D d30_5) fun T10 X10 => ?_
  refine X10.callS (W := 0) (w191 hw) (w192 hw) (w193 hw) (w194 hw) (by decide) (X10.payM (sf := []) (rmCo5 hcx d kd e0 e1 e2 e3 e4 h0 X10.old Pr2 Pr3 Pr4 Pr5 Pr6 Pr7 Pr8) sf0 (w194 hw) (w193 hw) (by decide) (by decide)) rfl (sz hml rfl) (argsL := [(.ref d), (.int (5 : Int32))]) (rest := []) (lenOf pd22 rfl) rfl rfl (mroom rfl rfl) (D d30_8) (by decide) (by decide) fun T11 h11 vm11 v11 X11 C11 z11 q11 => ?_
  obtain ⟨r11, kr11, rfl, K11, g11_0, g11_1, g11_2, g11_3⟩ := q11
  have l12 := ltA g11_0.lt
  show Gets p e below _ (T11.setTop (mkF m 11 #[vR x] [(.ref r11)]))
  exact X11.retA hret rfl rfl rfl (D d30_11) (by decide) (by decide) (fun vmE CE => ⟨r11, kr11, rfl, ((Keep.refl h0 []).trans K11 all0), g11_0, g11_1, g11_2, g11_3⟩)
abbrev RrmLf5 : Room := { frames := 5, cells := 2, slots := 7, locals := 63 }
def QrmLf5 (Z : State) (de : Addr) (el : Addr) (em : Addr) (r : Addr) (kr : ClassId) (e0 : Addr) (e1 : Addr) (e2 : Addr) (e3 : Addr) (e4 : Addr) (h0 : Heap) (v : Option Value) (vm : Vm) (h : Heap) : Prop := ∃ (a : Addr) (t : Addr) (kn : ClassId), v = some (.ref a) ∧ Keep h0 h [] ∧ Exa Z h a "java/util/ImmutableCollections$ListN" ∧ Fld Z h a "java/util/ImmutableCollections$ListN" "elements" "[Ljava/lang/Object;" (.ref t) ∧ Arv Z h t kn (.object "java/lang/Object") (5 : Int32) [(.ref e0), (.ref e1), (.ref e2), (.ref e3), (.ref e4)] .null ∧ h0.size ≤ t ∧ h0.size ≤ a
theorem rmLf5 (hcx : Cx Z a0 zc de kde em el ee kee mr) (r : Addr) (kr : ClassId) (e0 : Addr) (e1 : Addr) (e2 : Addr) (e3 : Addr) (e4 : Addr) (h0 : Heap) (O0 : Old Z Z.heap.size h0) (Pr0 : Arv Z h0 r kr (.object "java/lang/Object") (5 : Int32) [(.ref e0), (.ref e1), (.ref e2), (.ref e3), (.ref e4)] .null) (Pr1 : Exa Z h0 e0 "java/lang/String") (Pr2 : Exa Z h0 e1 "java/lang/String") (Pr3 : Exa Z h0 e2 "java/lang/String") (Pr4 : Exa Z h0 e3 "java/lang/String") (Pr5 : Exa Z h0 e4 "java/lang/String") : Met l Z consts_1 (⟨"java/util/ImmutableCollections", "listFromArray", "([Ljava/lang/Object;)Ljava/util/List;"⟩ : MethodName) jdk_56_method_4_code 3 (some (.object "java/util/List")) [] RrmLf5 [] #[(.ref r)] h0 (QrmLf5 Z de el em r kr e0 e1 e2 e3 e4 h0) := by
  have ⟨hw, hEL, O2, P5, OD, AD, XM, OM, OL, XL, FL, AE, MR⟩ := hcx
  refine Met.start (a0 := a0) (Ls := #[vR r, .unset, .unset]) pn35 hEL O0 (fun m => by first | (simp [entryFrame, mkF, argsToLocals, Value.category]; done) | rfl) ?_
  intro p e s m below meth cc T0 vm0 X0 sf0_ hby hml hret hnm
  have hx := X0.hx
  have D : ∀ {n r}, decode jdk_56_method_4_code n = r → decode cc.code n = r := fun d => hb hby d
  have zz := X0.ge
  have A0 := X0.at
  have l1 := ltA Pr0.lt
  have l2 := ltA Pr1.lt
  have l3 := ltA Pr2.lt
  have l4 := ltA Pr3.lt
  have l5 := ltA Pr4.lt
  have l6 := ltA Pr5.lt
  refine Gets.via (fun _ k => (XS.aloadN A0 hx rfl (D d35_0) rfl rfl k)) ?_
  refine X0.alen Pr0 rfl rfl (D d35_1) ?_
  refine X0.newR (ad := "[Ljava/lang/Object;") (w219 hw) (w181 hw) rfl (D d35_2) rfl (by decide) (cap := 5) (by decide) (by decide) (by decide) (by decide) (by decide) fun T7 h7 a7 k7 X7 C7 E7 g7 Z7 Ov7 V7 => ?_
  have z7 := E7.1
  have l7 := ltA V7.lt
  have V7_ : Arv Z h7 a7 k7 (.object "java/lang/Object") (5 : Int32) [.null, .null, .null, .null, .null] .null := padN V7 5
  have A8 := X7.at
  refine Gets.via (fun _ k => (XS.astoreN A8 hx rfl (D d35_5) rfl rfl (l' := #[vR r, vR a7, .unset]) rfl (XS.iconst A8 hx rfl (D d35_6) (XS.istoreN A8 hx rfl (D d35_7) rfl (l' := #[vR r, vR a7, vI (0 : Int32)]) rfl (XS.iloadN A8 hx rfl (D d35_8) rfl (XS.aloadN A8 hx rfl (D d35_9) rfl rfl k)))))) ?_
  show Gets p e below _ (T7.setTop (mkF m 10 #[vR r, vR a7, vI (0 : Int32)] [(.ref r), (.int (0 : Int32))]))
  have f9 := Pr0.ext E7
  refine X7.alen f9 rfl rfl (D d35_10) ?_
  refine Gets.via (fun _ k => (XS.icmpNo A8 hx rfl (D d35_11) rfl (Jvm.Free.XT.ii_ge_f (by decide)) k)) ?_
  refine Gets.via (fun _ k => (XS.aloadN A8 hx rfl (D d35_14) rfl rfl (XS.iloadN A8 hx rfl (D d35_15) rfl (XS.aloadN A8 hx rfl (D d35_16) rfl rfl (XS.iloadN A8 hx rfl (D d35_17) rfl k))))) ?_
  refine X7.ldR f9 rfl (i := 0) (by decide) (by decide) (by decide) rfl rfl rfl (D d35_18) ?_
  refine X7.callS (W := 2) (w220 hw) (w221 hw) (w222 hw) (w223 hw) (by decide) (X7.payM (sf := []) (rm36 hcx e0 h7 X7.old ) sf0 (w223 hw) (w222 hw) (by decide) (by decide)) rfl (sz hml rfl) (argsL := [(.ref e0)]) (rest := [(.int (0 : Int32)), (.ref a7)]) (lenOf pd8 rfl) rfl rfl (mroom rfl rfl) (D d35_19) (by decide) (by decide) fun T10 h10 vm10 v10 X10 C10 z10 q10 => ?_
  obtain ⟨rfl, K10⟩ := q10
  rw [K10] at X10 C10
  show Gets p e below _ (T10.setTop (mkF m 22 #[vR r, vR a7, vI (0 : Int32)] [(.ref e0), (.int (0 : Int32)), (.ref a7)]))
  have f12 := Pr1.ext E7
  refine X10.stR V7_ (stoV V7_ Ov7 (Ins.of_exa f12 (w182 hw))) rfl (i := 0) (by decide) (by decide) (Nat.le_of_ble_eq_true rfl) (by decide) (leA (by omega)) rfl rfl (D d35_22) fun T11 h11 X11 C11 K11 V11 => ?_
  have z11 := K11.1
  have V11_ : Arv Z h11 a7 k7 (.object "java/lang/Object") (5 : Int32) [(.ref e0), .null, .null, .null, .null] .null := V11
  have A13 := X11.at
  refine Gets.via (fun _ k => (iincV A13 hx rfl (D d35_23) rfl (v := (1 : Int32)) (by decide) (l' := #[vR r, vR a7, vI (1 : Int32)]) rfl (XS.goto A13 hx rfl (pc0 := 26) (pc' := 8) rfl (D d35_26) (by decide) (by decide) k))) ?_
  refine Gets.via (fun _ k => (XS.iloadN A13 hx rfl (D d35_8) rfl (XS.aloadN A13 hx rfl (D d35_9) rfl rfl k))) ?_
  have f14 := f9.keep K11 (ninS (neA (by omega)) nin0)
  refine X11.alen f14 rfl rfl (D d35_10) ?_
  refine Gets.via (fun _ k => (XS.icmpNo A13 hx rfl (D d35_11) rfl (Jvm.Free.XT.ii_ge_f (by decide)) k)) ?_
  refine Gets.via (fun _ k => (XS.aloadN A13 hx rfl (D d35_14) rfl rfl (XS.iloadN A13 hx rfl (D d35_15) rfl (XS.aloadN A13 hx rfl (D d35_16) rfl rfl (XS.iloadN A13 hx rfl (D d35_17) rfl k))))) ?_
  show Gets p e below _ (T11.setTop (mkF m 18 #[vR r, vR a7, vI (1 : Int32)] [(.int (1 : Int32)), (.ref r), (.int (1 : Int32)), (.ref a7)]))
  refine X11.ldR f14 rfl (i := 1) (by decide) (by decide) (by decide) rfl rfl rfl (D d35_18) ?_
  refine X11.callS (W := 2) (w220 hw) (w221 hw) (w222 hw) (w223 hw) (by decide) (X11.payM (sf := []) (rm36 hcx e1 h11 X11.old ) sf0 (w223 hw) (w222 hw) (by decide) (by decide)) rfl (sz hml rfl) (argsL := [(.ref e1)]) (rest := [(.int (1 : Int32)), (.ref a7)]) (lenOf pd8 rfl) rfl rfl (mroom rfl rfl) (D d35_19) (by decide) (by decide) fun T15 h15 vm15 v15 X15 C15 z15 q15 => ?_
  obtain ⟨rfl, K15⟩ := q15
  rw [K15] at X15 C15
  have f17 := Pr2.ext E7
  have f18 := f17.keep K11
  refine X15.stR V11_ (stoV V11_ Ov7 (Ins.of_exa f18 (w182 hw))) rfl (i := 1) (by decide) (by decide) (Nat.le_of_ble_eq_true rfl) (by decide) (leA (by omega)) rfl rfl (D d35_22) fun T16 h16 X16 C16 K16 V16 => ?_
  have z16 := K16.1
  have V16_ : Arv Z h16 a7 k7 (.object "java/lang/Object") (5 : Int32) [(.ref e0), (.ref e1), .null, .null, .null] .null := V16
  have A19 := X16.at
  refine Gets.via (fun _ k => (iincV A19 hx rfl (D d35_23) rfl (v := (2 : Int32)) (by decide) (l' := #[vR r, vR a7, vI (2 : Int32)]) rfl (XS.goto A19 hx rfl (pc0 := 26) (pc' := 8) rfl (D d35_26) (by decide) (by decide) k))) ?_
  refine Gets.via (fun _ k => (XS.iloadN A19 hx rfl (D d35_8) rfl (XS.aloadN A19 hx rfl (D d35_9) rfl rfl k))) ?_
  show Gets p e below _ (T16.setTop (mkF m 10 #[vR r, vR a7, vI (2 : Int32)] [(.ref r), (.int (2 : Int32))]))
  have f20 := f14.keep K16 (ninS (neA (by omega)) nin0)
  refine X16.alen f20 rfl rfl (D d35_10) ?_
  refine Gets.via (fun _ k => (XS.icmpNo A19 hx rfl (D d35_11) rfl (Jvm.Free.XT.ii_ge_f (by decide)) k)) ?_
  refine Gets.via (fun _ k => (XS.aloadN A19 hx rfl (D d35_14) rfl rfl (XS.iloadN A19 hx rfl (D d35_15) rfl (XS.aloadN A19 hx rfl (D d35_16) rfl rfl (XS.iloadN A19 hx rfl (D d35_17) rfl k))))) ?_
  refine X16.ldR f20 rfl (i := 2) (by decide) (by decide) (by decide) rfl rfl rfl (D d35_18) ?_
  refine X16.callS (W := 2) (w220 hw) (w221 hw) (w222 hw) (w223 hw) (by decide) (X16.payM (sf := []) (rm36 hcx e2 h16 X16.old ) sf0 (w223 hw) (w222 hw) (by decide) (by decide)) rfl (sz hml rfl) (argsL := [(.ref e2)]) (rest := [(.int (2 : Int32)), (.ref a7)]) (lenOf pd8 rfl) rfl rfl (mroom rfl rfl) (D d35_19) (by decide) (by decide) fun T21 h21 vm21 v21 X21 C21 z21 q21 => ?_
  obtain ⟨rfl, K21⟩ := q21
  rw [K21] at X21 C21
  show Gets p e below _ (T21.setTop (mkF m 22 #[vR r, vR a7, vI (2 : Int32)] [(.ref e2), (.int (2 : Int32)), (.ref a7)]))
  have f23 := Pr3.ext E7
  have f24 := f23.keep K11
  have f25 := f24.keep K16
  refine X21.stR V16_ (stoV V16_ Ov7 (Ins.of_exa f25 (w182 hw))) rfl (i := 2) (by decide) (by decide) (Nat.le_of_ble_eq_true rfl) (by decide) (leA (by omega)) rfl rfl (D d35_22) fun T22 h22 X22 C22 K22 V22 => ?_
  have z22 := K22.1
  have V22_ : Arv Z h22 a7 k7 (.object "java/lang/Object") (5 : Int32) [(.ref e0), (.ref e1), (.ref e2), .null, .null] .null := V22
  have A26 := X22.at
  refine Gets.via (fun _ k => (iincV A26 hx rfl (D d35_23) rfl (v := (3 : Int32)) (by decide) (l' := #[vR r, vR a7, vI (3 : Int32)]) rfl (XS.goto A26 hx rfl (pc0 := 26) (pc' := 8) rfl (D d35_26) (by decide) (by decide) k))) ?_
  refine Gets.via (fun _ k => (XS.iloadN A26 hx rfl (D d35_8) rfl (XS.aloadN A26 hx rfl (D d35_9) rfl rfl k))) ?_
  have f27 := f20.keep K22 (ninS (neA (by omega)) nin0)
  refine X22.alen f27 rfl rfl (D d35_10) ?_
  refine Gets.via (fun _ k => (XS.icmpNo A26 hx rfl (D d35_11) rfl (Jvm.Free.XT.ii_ge_f (by decide)) k)) ?_
  refine Gets.via (fun _ k => (XS.aloadN A26 hx rfl (D d35_14) rfl rfl (XS.iloadN A26 hx rfl (D d35_15) rfl (XS.aloadN A26 hx rfl (D d35_16) rfl rfl (XS.iloadN A26 hx rfl (D d35_17) rfl k))))) ?_
  show Gets p e below _ (T22.setTop (mkF m 18 #[vR r, vR a7, vI (3 : Int32)] [(.int (3 : Int32)), (.ref r), (.int (3 : Int32)), (.ref a7)]))
  refine X22.ldR f27 rfl (i := 3) (by decide) (by decide) (by decide) rfl rfl rfl (D d35_18) ?_
  refine X22.callS (W := 2) (w220 hw) (w221 hw) (w222 hw) (w223 hw) (by decide) (X22.payM (sf := []) (rm36 hcx e3 h22 X22.old ) sf0 (w223 hw) (w222 hw) (by decide) (by decide)) rfl (sz hml rfl) (argsL := [(.ref e3)]) (rest := [(.int (3 : Int32)), (.ref a7)]) (lenOf pd8 rfl) rfl rfl (mroom rfl rfl) (D d35_19) (by decide) (by decide) fun T28 h28 vm28 v28 X28 C28 z28 q28 => ?_
  obtain ⟨rfl, K28⟩ := q28
  rw [K28] at X28 C28
  have f30 := Pr4.ext E7
  have f31 := f30.keep K11
  have f32 := f31.keep K16
  have f33 := f32.keep K22
  refine X28.stR V22_ (stoV V22_ Ov7 (Ins.of_exa f33 (w182 hw))) rfl (i := 3) (by decide) (by decide) (Nat.le_of_ble_eq_true rfl) (by decide) (leA (by omega)) rfl rfl (D d35_22) fun T29 h29 X29 C29 K29 V29 => ?_
  have z29 := K29.1
  have V29_ : Arv Z h29 a7 k7 (.object "java/lang/Object") (5 : Int32) [(.ref e0), (.ref e1), (.ref e2), (.ref e3), .null] .null := V29
  have A34 := X29.at
  refine Gets.via (fun _ k => (iincV A34 hx rfl (D d35_23) rfl (v := (4 : Int32)) (by decide) (l' := #[vR r, vR a7, vI (4 : Int32)]) rfl (XS.goto A34 hx rfl (pc0 := 26) (pc' := 8) rfl (D d35_26) (by decide) (by decide) k))) ?_
  refine Gets.via (fun _ k => (XS.iloadN A34 hx rfl (D d35_8) rfl (XS.aloadN A34 hx rfl (D d35_9) rfl rfl k))) ?_
  show Gets p e below _ (T29.setTop (mkF m 10 #[vR r, vR a7, vI (4 : Int32)] [(.ref r), (.int (4 : Int32))]))
  have f35 := f27.keep K29 (ninS (neA (by omega)) nin0)
  refine X29.alen f35 rfl rfl (D d35_10) ?_
  refine Gets.via (fun _ k => (XS.icmpNo A34 hx rfl (D d35_11) rfl (Jvm.Free.XT.ii_ge_f (by decide)) k)) ?_
  refine Gets.via (fun _ k => (XS.aloadN A34 hx rfl (D d35_14) rfl rfl (XS.iloadN A34 hx rfl (D d35_15) rfl (XS.aloadN A34 hx rfl (D d35_16) rfl rfl (XS.iloadN A34 hx rfl (D d35_17) rfl k))))) ?_
  refine X29.ldR f35 rfl (i := 4) (by decide) (by decide) (by decide) rfl rfl rfl (D d35_18) ?_
  refine X29.callS (W := 2) (w220 hw) (w221 hw) (w222 hw) (w223 hw) (by decide) (X29.payM (sf := []) (rm36 hcx e4 h29 X29.old ) sf0 (w223 hw) (w222 hw) (by decide) (by decide)) rfl (sz hml rfl) (argsL := [(.ref e4)]) (rest := [(.int (4 : Int32)), (.ref a7)]) (lenOf pd8 rfl) rfl rfl (mroom rfl rfl) (D d35_19) (by decide) (by decide) fun T36 h36 vm36 v36 X36 C36 z36 q36 => ?_
  obtain ⟨rfl, K36⟩ := q36
  rw [K36] at X36 C36
  show Gets p e below _ (T36.setTop (mkF m 22 #[vR r, vR a7, vI (4 : Int32)] [(.ref e4), (.int (4 : Int32)), (.ref a7)]))
  have f38 := Pr5.ext E7
  have f39 := f38.keep K11
  have f40 := f39.keep K16
  have f41 := f40.keep K22
  have f42 := f41.keep K29
  refine X36.stR V29_ (stoV V29_ Ov7 (Ins.of_exa f42 (w182 hw))) rfl (i := 4) (by decide) (by decide) (Nat.le_of_ble_eq_true rfl) (by decide) (leA (by omega)) rfl rfl (D d35_22) fun T37 h37 X37 C37 K37 V37 => ?_
  have z37 := K37.1
  have V37_ : Arv Z h37 a7 k7 (.object "java/lang/Object") (5 : Int32) [(.ref e0), (.ref e1), (.ref e2), (.ref e3), (.ref e4)] .null := V37
  have A43 := X37.at
  refine Gets.via (fun _ k => (iincV A43 hx rfl (D d35_23) rfl (v := (5 : Int32)) (by decide) (l' := #[vR r, vR a7, vI (5 : Int32)]) rfl (XS.goto A43 hx rfl (pc0 := 26) (pc' := 8) rfl (D d35_26) (by decide) (by decide) k))) ?_
  refine Gets.via (fun _ k => (XS.iloadN A43 hx rfl (D d35_8) rfl (XS.aloadN A43 hx rfl (D d35_9) rfl rfl k))) ?_
  have f44 := f35.keep K37 (ninS (neA (by omega)) nin0)
  refine X37.alen f44 rfl rfl (D d35_10) ?_
  refine Gets.via (fun _ k => (XS.icmpYes A43 hx rfl (pc0 := 11) (pc' := 29) rfl (D d35_11) rfl (Jvm.Free.XT.ii_ge_t (by decide)) (by decide) (by decide) k)) ?_
  refine X37.new (w110 hw) (w224 hw) (w149 hw) rfl (D d35_29) (by decide) (by decide) fun T45 h45 a45 X45 C45 E45 g45 Z45 S45 D45 => ?_
  have z45 := E45.1
  have l45 := ltA Z45.lt
  show Gets p e below _ (T45.setTop (mkF m 32 #[vR r, vR a7, vI (5 : Int32)] [(.ref a45)]))
  have A46 := X45.at
  refine Gets.via (fun _ k => (XS.dup A46 hx rfl (D d35_32) rfl rfl (XS.aloadN A46 hx rfl (D d35_33) rfl rfl (XS.iconst A46 hx rfl (D d35_34) k)))) ?_
  refine X45.callIN (W := 1) rfl (w225 hw) (w226 hw) (w228 hw) (by decide) (X45.payM (sf := []) (rm37 hcx a45 a7 h45 X45.old Z45 ((D45 (Or.inr (w152 hw)) (ty := (.array (.object "java/lang/Object"))) (by decide) : Fld Z h45 a45 "java/util/ImmutableCollections$ListN" "elements" "[Ljava/lang/Object;" .null)) (D45 (Or.inr (w244 hw)) (ty := .boolean) (by decide) : Fld Z h45 a45 "java/util/ImmutableCollections$ListN" "allowNulls" "Z" (.int (0 : Int32))) (leA (by omega))) sf0 (w228 hw) (w149 hw) (by decide) (by decide)) rfl (sz hml rfl) (a := a45) (argsL := [(.ref a7), (.int (0 : Int32))]) (rest := [(.ref a45)]) (lenOf pd26 rfl) rfl rfl (mroom rfl rfl) (D d35_35) (by decide) (by decide) fun T47 h47 vm47 v47 X47 C47 z47 q47 => ?_
  obtain ⟨rfl, K47, g47_0, g47_1⟩ := q47
  have l48 := ltA g47_0.lt
  have f49 := V37_.ext E45
  have f50 := f49.keep K47 (ninS (neA (by omega)) nin0)
  exact X47.retA hret rfl rfl rfl (D d35_38) (by decide) (by decide) (fun vmE CE => ⟨a45, a7, k7, rfl, (((((((((Keep.refl h0 []).ext E7).trans K11 (allS (Or.inr (leA (by omega))) all0)).trans K16 (allS (Or.inr (leA (by omega))) all0)).trans K22 (allS (Or.inr (leA (by omega))) all0)).trans K29 (allS (Or.inr (leA (by omega))) all0)).trans K37 (allS (Or.inr (leA (by omega))) all0)).ext E45).trans K47 (allS (Or.inr (leA (by omega))) all0)), g47_0, g47_1, f50, (leA (by omega)), (leA (by omega))⟩)
abbrev RrmOf5 : Room := { frames := 6, cells := 2, slots := 7, locals := 77 }
def QrmOf5 (Z : State) (de : Addr) (el : Addr) (em : Addr) (r : Addr) (kr : ClassId) (e0 : Addr) (e1 : Addr) (e2 : Addr) (e3 : Addr) (e4 : Addr) (h0 : Heap) (v : Option Value) (vm : Vm) (h : Heap) : Prop := ∃ (a : Addr) (t : Addr) (kn : ClassId), v = some (.ref a) ∧ Keep h0 h [] ∧ Exa Z h a "java/util/ImmutableCollections$ListN" ∧ Fld Z h a "java/util/ImmutableCollections$ListN" "elements" "[Ljava/lang/Object;" (.ref t) ∧ Arv Z h t kn (.object "java/lang/Object") (5 : Int32) [(.ref e0), (.ref e1), (.ref e2), (.ref e3), (.ref e4)] .null ∧ h0.size ≤ t ∧ h0.size ≤ a
theorem rmOf5 (hcx : Cx Z a0 zc de kde em el ee kee mr) (r : Addr) (kr : ClassId) (e0 : Addr) (e1 : Addr) (e2 : Addr) (e3 : Addr) (e4 : Addr) (h0 : Heap) (O0 : Old Z Z.heap.size h0) (Pr0 : Arv Z h0 r kr (.object "java/lang/Object") (5 : Int32) [(.ref e0), (.ref e1), (.ref e2), (.ref e3), (.ref e4)] .null) (Pr1 : Exa Z h0 e0 "java/lang/String") (Pr2 : Exa Z h0 e1 "java/lang/String") (Pr3 : Exa Z h0 e2 "java/lang/String") (Pr4 : Exa Z h0 e3 "java/lang/String") (Pr5 : Exa Z h0 e4 "java/lang/String") : Met l Z consts_1 (⟨"java/util/List", "of", "([Ljava/lang/Object;)Ljava/util/List;"⟩ : MethodName) jdk_40_method_47_code 2 (some (.object "java/util/List")) [] RrmOf5 [] #[(.ref r)] h0 (QrmOf5 Z de el em r kr e0 e1 e2 e3 e4 h0) := by
  have ⟨hw, hEL, O2, P5, OD, AD, XM, OM, OL, XL, FL, AE, MR⟩ := hcx
  refine Met.start (a0 := a0) (Ls := #[vR r, .unset]) pn34 hEL O0 (fun m => by first | (simp [entryFrame, mkF, argsToLocals, Value.category]; done) | rfl) ?_
  intro p e s m below meth cc T0 vm0 X0 sf0_ hby hml hret hnm
  have hx := X0.hx
  have D : ∀ {n r}, decode jdk_40_method_47_code n = r → decode cc.code n = r := fun d => hb hby d
  have zz := X0.ge
  have A0 := X0.at
  have l1 := ltA Pr0.lt
  have l2 := ltA Pr1.lt
  have l3 := ltA Pr2.lt
  have l4 := ltA Pr3.lt
  have l5 := ltA Pr4.lt
  have l6 := ltA Pr5.lt
  refine Gets.via (fun _ k => (XS.aloadN A0 hx rfl (D d34_0) rfl rfl k)) ?_
  refine X0.alen Pr0 rfl rfl (D d34_1) ?_
  refine Gets.via (fun _ k => (XS.tswOut A0 hx rfl (pc0 := 2) (pc' := 59) rfl (D d34_2) rfl (by decide) (by decide) (by decide) k)) ?_
  refine Gets.via (fun _ k => (XS.aloadN A0 hx rfl (D d34_59) rfl rfl k)) ?_
  refine X0.callS (W := 0) (w216 hw) (w217 hw) (w103 hw) (w218 hw) (by decide) (X0.payM (sf := []) (rmLf5 hcx r kr e0 e1 e2 e3 e4 h0 X0.old Pr0 Pr1 Pr2 Pr3 Pr4 Pr5) sf0 (w218 hw) (w103 hw) (by decide) (by decide)) rfl (sz hml rfl) (argsL := [(.ref r)]) (rest := []) (lenOf pd24 rfl) rfl rfl (mroom rfl rfl) (D d34_60) (by decide) (by decide) fun T7 h7 vm7 v7 X7 C7 z7 q7 => ?_
  obtain ⟨a7, t7, kn7, rfl, K7, g7_0, g7_1, g7_2, g7_3, g7_4⟩ := q7
  have l8 := ltA g7_0.lt
  have l9 := ltA g7_2.lt
  show Gets p e below _ (T7.setTop (mkF m 63 #[vR r, .unset] [(.ref a7)]))
  exact X7.retA hret rfl rfl rfl (D d34_63) (by decide) (by decide) (fun vmE CE => ⟨a7, t7, kn7, rfl, ((Keep.refl h0 []).trans K7 all0), g7_0, g7_1, g7_2, g7_3, g7_4⟩)
abbrev RrmLc5 : Room := { frames := 7, cells := 3, slots := 12, locals := 90 }
def QrmLc5 (Z : State) (de : Addr) (el : Addr) (em : Addr) (x : Addr) (d : Addr) (kd : ClassId) (e0 : Addr) (e1 : Addr) (e2 : Addr) (e3 : Addr) (e4 : Addr) (h0 : Heap) (v : Option Value) (vm : Vm) (h : Heap) : Prop := ∃ (a : Addr) (t : Addr) (kn : ClassId), v = some (.ref a) ∧ Keep h0 h [] ∧ Exa Z h a "java/util/ImmutableCollections$ListN" ∧ Fld Z h a "java/util/ImmutableCollections$ListN" "elements" "[Ljava/lang/Object;" (.ref t) ∧ Arv Z h t kn (.object "java/lang/Object") (5 : Int32) [(.ref e0), (.ref e1), (.ref e2), (.ref e3), (.ref e4)] .null ∧ h0.size ≤ t ∧ h0.size ≤ a
theorem rmLc5 (hcx : Cx Z a0 zc de kde em el ee kee mr) (x : Addr) (d : Addr) (kd : ClassId) (e0 : Addr) (e1 : Addr) (e2 : Addr) (e3 : Addr) (e4 : Addr) (h0 : Heap) (O0 : Old Z Z.heap.size h0) (Pr0 : Exa Z h0 x "java/util/ArrayList") (Pr1 : Fld Z h0 x "java/util/ArrayList" "size" "I" (.int (5 : Int32))) (Pr2 : Fld Z h0 x "java/util/ArrayList" "elementData" "[Ljava/lang/Object;" (.ref d)) (Pr3 : Arv Z h0 d kd (.object "java/lang/Object") (10 : Int32) [(.ref e0), (.ref e1), (.ref e2), (.ref e3), (.ref e4), .null, .null, .null, .null, .null] .null) (Pr4 : Exa Z h0 d "[Ljava/lang/Object;") (Pr5 : Exa Z h0 e0 "java/lang/String") (Pr6 : Exa Z h0 e1 "java/lang/String") (Pr7 : Exa Z h0 e2 "java/lang/String") (Pr8 : Exa Z h0 e3 "java/lang/String") (Pr9 : Exa Z h0 e4 "java/lang/String") : Met l Z consts_1 (⟨"java/util/ImmutableCollections", "listCopy", "(Ljava/util/Collection;)Ljava/util/List;"⟩ : MethodName) jdk_56_method_3_code 2 (some (.object "java/util/List")) [] RrmLc5 [] #[(.ref x)] h0 (QrmLc5 Z de el em x d kd e0 e1 e2 e3 e4 h0) := by
  have ⟨hw, hEL, O2, P5, OD, AD, XM, OM, OL, XL, FL, AE, MR⟩ := hcx
  refine Met.start (a0 := a0) (Ls := #[vR x, .unset]) pn19 hEL O0 (fun m => by first | (simp [entryFrame, mkF, argsToLocals, Value.category]; done) | rfl) ?_
  intro p e s m below meth cc T0 vm0 X0 sf0_ hby hml hret hnm
  have hx := X0.hx
  have D : ∀ {n r}, decode jdk_56_method_3_code n = r → decode cc.code n = r := fun d => hb hby d
  have zz := X0.ge
  have A0 := X0.at
  have l1 := ltA Pr0.lt
  have l2 := ltA Pr3.lt
  have l3 := ltA Pr5.lt
  have l4 := ltA Pr6.lt
  have l5 := ltA Pr7.lt
  have l6 := ltA Pr8.lt
  have l7 := ltA Pr9.lt
  refine Gets.via (fun _ k => (XS.aloadN A0 hx rfl (D d19_0) rfl rfl k)) ?_
  refine X0.instNo (w105 hw) Pr0 (ns_no (w106 hw) (plainS (w262 hw) rfl) (NS.step (w106 hw) (NS.step (w107 hw) (NS.step (w108 hw) (ns_root (w109 hw) (plainS (w262 hw) rfl) (by decide)) (by decide)) (by decide)) (by decide)) (by decide)) rfl rfl (D d19_1) fun T8 X8 => ?_
  have A9 := X8.at
  refine Gets.via (fun _ k => (XS.ifNo A9 hx rfl (D d19_4) rfl (Jvm.Free.XT.i0_ne_f (by decide)) k)) ?_
  refine Gets.via (fun _ k => (XS.aloadN A9 hx rfl (D d19_7) rfl rfl k)) ?_
  refine X8.instNo (w110 hw) Pr0 (ns_no (w106 hw) (plainS (w144 hw) rfl) (NS.step (w106 hw) (NS.step (w107 hw) (NS.step (w108 hw) (ns_root (w109 hw) (plainS (w144 hw) rfl) (by decide)) (by decide)) (by decide)) (by decide)) (by decide)) rfl rfl (D d19_8) fun T10 X10 => ?_
  show Gets p e below _ (T10.setTop (mkF m 11 #[vR x, .unset] [(.int (0 : Int32))]))
  have A11 := X10.at
  refine Gets.via (fun _ k => (XS.ifYes A11 hx rfl (pc0 := 11) (pc' := 31) rfl (D d19_11) rfl (Jvm.Free.XT.i0_eq_t (by decide)) (by decide) (by decide) k)) ?_
  refine Gets.via (fun _ k => (XS.aloadN A11 hx rfl (D d19_31) rfl rfl k)) ?_
  refine X10.callF (W := 0) (w111 hw) (w112 hw) (w113 hw) rfl (w114 hw) (w115 hw) (w116 hw) (w117 hw) (w118 hw) (by decide) (X10.payM (sf := []) (rmAlEmpty5 hcx x h0 X10.old Pr1) sf0 (w119 hw) (w60 hw) (by decide) (by decide)) Pr0 rfl (sz hml rfl) (argsL := []) (rest := []) (lenOf pd10 rfl) rfl rfl (mroom rfl rfl) (D d19_32) (by decide) (by decide) fun T12 h12 vm12 v12 X12 C12 z12 q12 => ?_
  obtain ⟨rfl, K12⟩ := q12
  rw [K12] at X12 C12
  have A13 := X12.at
  refine Gets.via (fun _ k => (XS.ifYes A13 hx rfl (pc0 := 37) (pc' := 44) rfl (D d19_37) rfl (Jvm.Free.XT.i0_eq_t (by decide)) (by decide) (by decide) k)) ?_
  refine Gets.via (fun _ k => (XS.aloadN A13 hx rfl (D d19_44) rfl rfl k)) ?_
  refine X12.callF (W := 0) (w183 hw) (w184 hw) (w185 hw) rfl (w186 hw) (w187 hw) (w188 hw) (w189 hw) (w118 hw) (by decide) (X12.payM (sf := []) (rmToA5 hcx x d kd e0 e1 e2 e3 e4 h0 X12.old Pr1 Pr2 Pr3 Pr4 Pr5 Pr6 Pr7 Pr8 Pr9) sf0 (w190 hw) (w60 hw) (by decide) (by decide)) Pr0 rfl (sz hml rfl) (argsL := []) (rest := []) (lenOf pd18 rfl) rfl rfl (mroom rfl rfl) (D d19_45) (by decide) (by decide) fun T14 h14 vm14 v14 X14 C14 z14 q14 => ?_
  obtain ⟨r14, kr14, rfl, K14, g14_0, g14_1, g14_2, g14_3⟩ := q14
  have l15 := ltA g14_0.lt
  have f16 := Pr5.keep K14
  have f17 := Pr6.keep K14
  have f18 := Pr7.keep K14
  have f19 := Pr8.keep K14
  have f20 := Pr9.keep K14
  refine X14.callS (W := 0) (w213 hw) (w214 hw) (w99 hw) (w215 hw) (by decide) (X14.payM (sf := []) (rmOf5 hcx r14 kr14 e0 e1 e2 e3 e4 h14 X14.old g14_0 f16 f17 f18 f19 f20) sf0 (w215 hw) (w99 hw) (by decide) (by decide)) rfl (sz hml rfl) (argsL := [(.ref r14)]) (rest := []) (lenOf pd24 rfl) rfl rfl (mroom rfl rfl) (D d19_50) (by decide) (by decide) fun T21 h21 vm21 v21 X21 C21 z21 q21 => ?_
  obtain ⟨a21, t21, kn21, rfl, K21, g21_0, g21_1, g21_2, g21_3, g21_4⟩ := q21
  have l22 := ltA g21_0.lt
  have l23 := ltA g21_2.lt
  show Gets p e below _ (T21.setTop (mkF m 53 #[vR x, .unset] [(.ref a21)]))
  exact X21.retA hret rfl rfl rfl (D d19_53) (by decide) (by decide) (fun vmE CE => ⟨a21, t21, kn21, rfl, (((Keep.refl h0 []).trans K14 all0).trans K21 all0), g21_0, g21_1, g21_2, (leA (by omega)), (leA (by omega))⟩)
abbrev RrmCoL5 : Room := { frames := 8, cells := 3, slots := 12, locals := 103 }
def QrmCoL5 (Z : State) (de : Addr) (el : Addr) (em : Addr) (x : Addr) (d : Addr) (kd : ClassId) (e0 : Addr) (e1 : Addr) (e2 : Addr) (e3 : Addr) (e4 : Addr) (h0 : Heap) (v : Option Value) (vm : Vm) (h : Heap) : Prop := ∃ (a : Addr) (t : Addr) (kn : ClassId), v = some (.ref a) ∧ Keep h0 h [] ∧ Exa Z h a "java/util/ImmutableCollections$ListN" ∧ Fld Z h a "java/util/ImmutableCollections$ListN" "elements" "[Ljava/lang/Object;" (.ref t) ∧ Arv Z h t kn (.object "java/lang/Object") (5 : Int32) [(.ref e0), (.ref e1), (.ref e2), (.ref e3), (.ref e4)] .null ∧ h0.size ≤ t ∧ h0.size ≤ a
theorem rmCoL5 (hcx : Cx Z a0 zc de kde em el ee kee mr) (x : Addr) (d : Addr) (kd : ClassId) (e0 : Addr) (e1 : Addr) (e2 : Addr) (e3 : Addr) (e4 : Addr) (h0 : Heap) (O0 : Old Z Z.heap.size h0) (Pr0 : Exa Z h0 x "java/util/ArrayList") (Pr1 : Fld Z h0 x "java/util/ArrayList" "size" "I" (.int (5 : Int32))) (Pr2 : Fld Z h0 x "java/util/ArrayList" "elementData" "[Ljava/lang/Object;" (.ref d)) (Pr3 : Arv Z h0 d kd (.object "java/lang/Object") (10 : Int32) [(.ref e0), (.ref e1), (.ref e2), (.ref e3), (.ref e4), .null, .null, .null, .null, .null] .null) (Pr4 : Exa Z h0 d "[Ljava/lang/Object;") (Pr5 : Exa Z h0 e0 "java/lang/String") (Pr6 : Exa Z h0 e1 "java/lang/String") (Pr7 : Exa Z h0 e2 "java/lang/String") (Pr8 : Exa Z h0 e3 "java/lang/String") (Pr9 : Exa Z h0 e4 "java/lang/String") : Met l Z consts_1 (⟨"java/util/List", "copyOf", "(Ljava/util/Collection;)Ljava/util/List;"⟩ : MethodName) jdk_40_method_48_code 1 (some (.object "java/util/List")) [] RrmCoL5 [] #[(.ref x)] h0 (QrmCoL5 Z de el em x d kd e0 e1 e2 e3 e4 h0) := by
  have ⟨hw, hEL, O2, P5, OD, AD, XM, OM, OL, XL, FL, AE, MR⟩ := hcx
  refine Met.start (a0 := a0) (Ls := #[vR x]) pn18 hEL O0 (fun m => by first | (simp [entryFrame, mkF, argsToLocals, Value.category]; done) | rfl) ?_
  intro p e s m below meth cc T0 vm0 X0 sf0_ hby hml hret hnm
  have hx := X0.hx
  have D : ∀ {n r}, decode jdk_40_method_48_code n = r → decode cc.code n = r := fun d => hb hby d
  have zz := X0.ge
  have A0 := X0.at
  have l1 := ltA Pr0.lt
  have l2 := ltA Pr3.lt
  have l3 := ltA Pr5.lt
  have l4 := ltA Pr6.lt
  have l5 := ltA Pr7.lt
  have l6 := ltA Pr8.lt
  have l7 := ltA Pr9.lt
  refine Gets.via (fun _ k => (XS.aloadN A0 hx rfl (D d18_0) rfl rfl k)) ?_
  refine X0.callS (W := 0) (w101 hw) (w102 hw) (w103 hw) (w104 hw) (by decide) (X0.payM (sf := []) (rmLc5 hcx x d kd e0 e1 e2 e3 e4 h0 X0.old Pr0 Pr1 Pr2 Pr3 Pr4 Pr5 Pr6 Pr7 Pr8 Pr9) sf0 (w104 hw) (w103 hw) (by decide) (by decide)) rfl (sz hml rfl) (argsL := [(.ref x)]) (rest := []) (lenOf pd12 rfl) rfl rfl (mroom rfl rfl) (D d18_1) (by decide) (by decide) fun T8 h8 vm8 v8 X8 C8 z8 q8 => ?_
  obtain ⟨a8, t8, kn8, rfl, K8, g8_0, g8_1, g8_2, g8_3, g8_4⟩ := q8
  have l9 := ltA g8_0.lt
  have l10 := ltA g8_2.lt
  exact X8.retA hret rfl rfl rfl (D d18_4) (by decide) (by decide) (fun vmE CE => ⟨a8, t8, kn8, rfl, ((Keep.refl h0 []).trans K8 all0), g8_0, g8_1, g8_2, g8_3, g8_4⟩)
abbrev RrmNode5 : Room := { frames := 9, cells := 3, slots := 12, locals := 115 }
def QrmNode5 (Z : State) (de : Addr) (el : Addr) (em : Addr) (x : Addr) (u : Addr) (z : Addr) (v1 : Addr) (d : Addr) (kd : ClassId) (e0 : Addr) (e1 : Addr) (e2 : Addr) (e3 : Addr) (e4 : Addr) (h0 : Heap) (v : Option Value) (vm : Vm) (h : Heap) : Prop := ∃ (L : Addr) (t : Addr) (kn : ClassId), v = none ∧ Keep h0 h [x] ∧ Exa Z h x "com/example/packwright/packwright/model/Node" ∧ Fld Z h x "com/example/packwright/packwright/model/Node" "subscripts" "Ljava/util/List;" (.ref L) ∧ Exa Z h L "java/util/ImmutableCollections$ListN" ∧ Fld Z h L "java/util/ImmutableCollections$ListN" "elements" "[Ljava/lang/Object;" (.ref t) ∧ Arv Z h t kn (.object "java/lang/Object") (5 : Int32) [(.ref e0), (.ref e1), (.ref e2), (.ref e3), (.ref e4)] .null
theorem rmNode5 (hcx : Cx Z a0 zc de kde em el ee kee mr) (x : Addr) (u : Addr) (z : Addr) (v1 : Addr) (d : Addr) (kd : ClassId) (e0 : Addr) (e1 : Addr) (e2 : Addr) (e3 : Addr) (e4 : Addr) (h0 : Heap) (O0 : Old Z Z.heap.size h0) (Pr0 : Exa Z h0 x "com/example/packwright/packwright/model/Node") (Pr1 : Fld Z h0 x "com/example/packwright/packwright/model/Node" "subscriptLine" "Ljava/lang/String;" .null) (Pr2 : Fld Z h0 x "com/example/packwright/packwright/model/Node" "subscripts" "Ljava/util/List;" .null) (Pr3 : Fld Z h0 x "com/example/packwright/packwright/model/Node" "value" "Ljava/lang/String;" .null) (Pr4 : Z.heap.size ≤ x) (Pr5 : Exa Z h0 z "java/util/ArrayList") (Pr6 : Fld Z h0 z "java/util/ArrayList" "size" "I" (.int (5 : Int32))) (Pr7 : Fld Z h0 z "java/util/ArrayList" "elementData" "[Ljava/lang/Object;" (.ref d)) (Pr8 : Arv Z h0 d kd (.object "java/lang/Object") (10 : Int32) [(.ref e0), (.ref e1), (.ref e2), (.ref e3), (.ref e4), .null, .null, .null, .null, .null] .null) (Pr9 : Exa Z h0 d "[Ljava/lang/Object;") (Pr10 : Exa Z h0 e0 "java/lang/String") (Pr11 : Exa Z h0 e1 "java/lang/String") (Pr12 : Exa Z h0 e2 "java/lang/String") (Pr13 : Exa Z h0 e3 "java/lang/String") (Pr14 : Exa Z h0 e4 "java/lang/String") : Met l Z consts_1 (⟨"com/example/packwright/packwright/model/Node", "<init>", "(Ljava/lang/String;Ljava/util/List;Ljava/lang/String;)V"⟩ : MethodName) prog_37_method_1_code 4 (none) [] RrmNode5 [] #[(.ref x), (.ref u), (.ref z), (.ref v1)] h0 (QrmNode5 Z de el em x u z v1 d kd e0 e1 e2 e3 e4 h0) := by
  have ⟨hw, hEL, O2, P5, OD, AD, XM, OM, OL, XL, FL, AE, MR⟩ := hcx
  refine Met.start (a0 := a0) (Ls := #[vR x, vR u, vR z, vR v1]) pn16 hEL O0 (fun m => by first | (simp [entryFrame, mkF, argsToLocals, Value.category]; done) | rfl) ?_
  intro p e s m below meth cc T0 vm0 X0 sf0_ hby hml hret hnm
  have hx := X0.hx
  have D : ∀ {n r}, decode prog_37_method_1_code n = r → decode cc.code n = r := fun d => hb hby d
  have zz := X0.ge
  have A0 := X0.at
  have l1 := ltA Pr0.lt
  have l2 := ltA Pr5.lt
  have l3 := ltA Pr8.lt
  have l4 := ltA Pr10.lt
  have l5 := ltA Pr11.lt
  have l6 := ltA Pr12.lt
  have l7 := ltA Pr13.lt
  have l8 := ltA Pr14.lt
  refine Gets.via (fun _ k => (XS.aloadN A0 hx rfl (D d16_0) rfl rfl k)) ?_
  refine X0.callI (y := (⟨"java/lang/Record", "<init>", "()V"⟩ : MethodName)) (W := 0) rfl (w91 hw) (w92 hw) (w95 hw) (by decide) (X0.payM (sf := []) (rm17 hcx x h0 X0.old ) sf0 (w95 hw) (w94 hw) (by decide) (by decide)) rfl (sz hml rfl) (a := x) (argsL := []) (rest := []) (lenOf pd7 rfl) rfl rfl (mroom rfl rfl) (D d16_1) (by decide) (by decide) fun T9 h9 vm9 v9 X9 C9 z9 q9 => ?_
  obtain ⟨rfl, K9⟩ := q9
  rw [K9] at X9 C9
  have A10 := X9.at
  refine Gets.via (fun _ k => (XS.aloadN A10 hx rfl (D d16_4) rfl rfl k)) ?_
  refine X9.callS (W := 0) (w97 hw) (w98 hw) (w99 hw) (w100 hw) (by decide) (X9.payM (sf := []) (rmCoL5 hcx z d kd e0 e1 e2 e3 e4 h0 X9.old Pr5 Pr6 Pr7 Pr8 Pr9 Pr10 Pr11 Pr12 Pr13 Pr14) sf0 (w100 hw) (w99 hw) (by decide) (by decide)) rfl (sz hml rfl) (argsL := [(.ref z)]) (rest := []) (lenOf pd12 rfl) rfl rfl (mroom rfl rfl) (D d16_5) (by decide) (by decide) fun T11 h11 vm11 v11 X11 C11 z11 q11 => ?_
  obtain ⟨a11, t11, kn11, rfl, K11, g11_0, g11_1, g11_2, g11_3, g11_4⟩ := q11
  have l12 := ltA g11_0.lt
  have l13 := ltA g11_2.lt
  have A14 := X11.at
  refine Gets.via (fun _ k => (XS.astoreN A14 hx rfl (D d16_8) rfl rfl (l' := #[vR x, vR u, vR a11, vR v1]) rfl (XS.aloadN A14 hx rfl (D d16_9) rfl rfl (XS.aloadN A14 hx rfl (D d16_10) rfl rfl k)))) ?_
  show Gets p e below _ (T11.setTop (mkF m 11 #[vR x, vR u, vR a11, vR v1] [(.ref u), (.ref x)]))
  have f16 := Pr1.keep K11 nin0
  have f17 := Pr0.keep K11
  refine X11.putF (host := "") (Or.inl (w126 hw)) Via.refl f16 f17 (Or.inr ⟨(w127 hw), rfl, hnm⟩) (w83 hw) (ty := (.object "java/lang/String")) (by decide) rfl rfl (leA (by omega)) (Safe.exa X11.hZ.alike f17 (by decide) (by decide)) rfl rfl (D d16_11) fun T15 h15 X15 C15 W15 F15 Z15 => ?_
  have z15 := W15.size
  have A18 := X15.at
  refine Gets.via (fun _ k => (XS.aloadN A18 hx rfl (D d16_14) rfl rfl (XS.aloadN A18 hx rfl (D d16_15) rfl rfl k))) ?_
  have f20 := Pr2.keep K11 nin0
  have f21 := f20.other W15 (Or.inr (slot_ne (t := (.object "java/util/List")) (t' := (.object "java/lang/String")) (Or.inr (w129 hw)) (Or.inr (w127 hw)) (by decide) (by decide) (by decide)))
  refine X15.putF (host := "") (Or.inl (w128 hw)) Via.refl f21 Z15 (Or.inr ⟨(w129 hw), rfl, hnm⟩) (w83 hw) (ty := (.object "java/util/List")) (by decide) rfl rfl (leA (by omega)) (Safe.exa X15.hZ.alike Z15 (by decide) (by decide)) rfl rfl (D d16_16) fun T19 h19 X19 C19 W19 F19 Z19 => ?_
  have z19 := W19.size
  have A22 := X19.at
  refine Gets.via (fun _ k => (XS.aloadN A22 hx rfl (D d16_19) rfl rfl (XS.aloadN A22 hx rfl (D d16_20) rfl rfl k))) ?_
  have f24 := Pr3.keep K11 nin0
  have f25 := f24.other W15 (Or.inr (slot_ne (t := (.object "java/lang/String")) (t' := (.object "java/lang/String")) (Or.inr (w131 hw)) (Or.inr (w127 hw)) (by decide) (by decide) (by decide)))
  have f26 := f25.other W19 (Or.inr (slot_ne (t := (.object "java/lang/String")) (t' := (.object "java/util/List")) (Or.inr (w131 hw)) (Or.inr (w129 hw)) (by decide) (by decide) (by decide)))
  refine X19.putF (host := "") (Or.inl (w130 hw)) Via.refl f26 Z19 (Or.inr ⟨(w131 hw), rfl, hnm⟩) (w83 hw) (ty := (.object "java/lang/String")) (by decide) rfl rfl (leA (by omega)) (Safe.exa X19.hZ.alike Z19 (by decide) (by decide)) rfl rfl (D d16_21) fun T23 h23 X23 C23 W23 F23 Z23 => ?_
  have z23 := W23.size
  show Gets p e below _ (T23.setTop (mkF m 24 #[vR x, vR u, vR a11, vR v1] []))
  have f27 := F19.other W23 (Or.inr (slot_ne (t := (.object "java/util/List")) (t' := (.object "java/lang/String")) (Or.inr (w129 hw)) (Or.inr (w131 hw)) (by decide) (by decide) (by decide)))
  have f28 := g11_0.wr W15
  have f29 := f28.wr W19
  have f30 := f29.wr W23
  have f31 := g11_1.other W15 (Or.inl (neA (by omega)))
  have f32 := f31.other W19 (Or.inl (neA (by omega)))
  have f33 := f32.other W23 (Or.inl (neA (by omega)))
  have f34 := g11_2.other W15 (neA (by omega))
  have f35 := f34.other W19 (neA (by omega))
  have f36 := f35.other W23 (neA (by omega))
  exact X23.retV hret (D d16_24) (by decide) (by decide) (fun vmE CE => ⟨a11, t11, kn11, rfl, (((((Keep.refl h0 [x]).trans K11 all0).wr W15 (Or.inl (List.mem_of_getElem? (i := 0) rfl))).wr W19 (Or.inl (List.mem_of_getElem? (i := 0) rfl))).wr W23 (Or.inl (List.mem_of_getElem? (i := 0) rfl))), Z23, f27, f30, f33, f36⟩)
abbrev RrmLNs5 : Room := { frames := 0, cells := 0, slots := 0, locals := 0 }
def QrmLNs5 (Z : State) (de : Addr) (el : Addr) (em : Addr) (x : Addr) (t : Addr) (kt : ClassId) (vs : List Value) (h0 : Heap) (v : Option Value) (vm : Vm) (h : Heap) : Prop := v = some (.int (5 : Int32)) ∧ h = h0
theorem rmLNs5 (hcx : Cx Z a0 zc de kde em el ee kee mr) (x : Addr) (t : Addr) (kt : ClassId) (vs : List Value) (h0 : Heap) (O0 : Old Z Z.heap.size h0) (Pr0 : Fld Z h0 x "java/util/ImmutableCollections$ListN" "elements" "[Ljava/lang/Object;" (.ref t)) (Pr1 : Arv Z h0 t kt (.object "java/lang/Object") (5 : Int32) vs .null) : Met l Z consts_1 (⟨"java/util/ImmutableCollections$ListN", "size", "()I"⟩ : MethodName) jdk_45_method_3_code 1 (some .int) [] RrmLNs5 [] #[(.ref x)] h0 (QrmLNs5 Z de el em x t kt vs h0) := by
  have ⟨hw, hEL, O2, P5, OD, AD, XM, OM, OL, XL, FL, AE, MR⟩ := hcx
  refine Met.start (a0 := a0) (Ls := #[vR x]) pn24 hEL O0 (fun m => by first | (simp [entryFrame, mkF, argsToLocals, Value.category]; done) | rfl) ?_
  intro p e s m below meth cc T0 vm0 X0 sf0_ hby hml hret hnm
  have hx := X0.hx
  have D : ∀ {n r}, decode jdk_45_method_3_code n = r → decode cc.code n = r := fun d => hb hby d
  have zz := X0.ge
  have A0 := X0.at
  have l1 := ltA Pr0.lt
  have l2 := ltA Pr1.lt
  refine Gets.via (fun _ k => (XS.aloadN A0 hx rfl (D d24_0) rfl rfl k)) ?_
  refine X0.getF (host := "") (Or.inl (w151 hw)) Via.refl Pr0 rfl rfl (D d24_1) fun T3 X3 => ?_
  refine X3.alen Pr1 rfl rfl (D d24_4) ?_
  exact X3.retI hret rfl (by simp) (D d24_5) (by decide) (by decide) (fun vmE CE => ⟨rfl, rfl⟩)
abbrev RrmRol5 : Room := { frames := 1, cells := 0, slots := 0, locals := 12 }
def QrmRol5 (Z : State) (de : Addr) (el : Addr) (em : Addr) (x : Addr) (L : Addr) (e0 : Addr) (e1 : Addr) (e2 : Addr) (e3 : Addr) (e4 : Addr) (t : Addr) (kn : ClassId) (h0 : Heap) (v : Option Value) (vm : Vm) (h : Heap) : Prop := v = some .null ∧ h = h0
theorem rmRol5 (hcx : Cx Z a0 zc de kde em el ee kee mr) (x : Addr) (L : Addr) (e0 : Addr) (e1 : Addr) (e2 : Addr) (e3 : Addr) (e4 : Addr) (t : Addr) (kn : ClassId) (h0 : Heap) (O0 : Old Z Z.heap.size h0) (Pr0 : Exa Z h0 x "com/example/packwright/packwright/model/Node") (Pr1 : Fld Z h0 x "com/example/packwright/packwright/model/Node" "subscripts" "Ljava/util/List;" (.ref L)) (Pr2 : Exa Z h0 L "java/util/ImmutableCollections$ListN") (Pr3 : Fld Z h0 L "java/util/ImmutableCollections$ListN" "elements" "[Ljava/lang/Object;" (.ref t)) (Pr4 : Arv Z h0 t kn (.object "java/lang/Object") (5 : Int32) [(.ref e0), (.ref e1), (.ref e2), (.ref e3), (.ref e4)] .null) : Met l Z consts_1 (⟨"com/example/packwright/packwright/io/BuildAssembler", "routineOfLine", "(Lcom/example/packwright/packwright/model/Node;)Ljava/lang/String;"⟩ : MethodName) prog_4_method_10_code 3 (some (.object "java/lang/String")) [] RrmRol5 [] #[(.ref x)] h0 (QrmRol5 Z de el em x L e0 e1 e2 e3 e4 t kn h0) := by
  have ⟨hw, hEL, O2, P5, OD, AD, XM, OM, OL, XL, FL, AE, MR⟩ := hcx
  refine Met.start (a0 := a0) (Ls := #[vR x, .unset, .unset]) pn22 hEL O0 (fun m => by first | (simp [entryFrame, mkF, argsToLocals, Value.category]; done) | rfl) ?_
  intro p e s m below meth cc T0 vm0 X0 sf0_ hby hml hret hnm
  have hx := X0.hx
  have D : ∀ {n r}, decode prog_4_method_10_code n = r → decode cc.code n = r := fun d => hb hby d
  have zz := X0.ge
  have A0 := X0.at
  have l1 := ltA Pr0.lt
  have l2 := ltA Pr2.lt
  have l3 := ltA Pr4.lt
  refine Gets.via (fun _ k => (XS.aloadN A0 hx rfl (D d22_0) rfl rfl k)) ?_
  refine X0.callV (W := 0) (w136 hw) (w137 hw) (w139 hw) (w138 hw) (nfs rfl (w139 hw)) (by decide) (X0.payM (sf := []) (rmSubs hcx x L h0 X0.old Pr1) sf0 (w140 hw) (w84 hw) (by decide) (by decide)) Pr0 rfl (sz hml rfl) (argsL := []) (rest := []) (lenOf pd11 rfl) rfl rfl (mroom rfl rfl) (D d22_1) (by decide) (by decide) fun T4 h4 vm4 v4 X4 C4 z4 q4 => ?_
  obtain ⟨rfl, K4⟩ := q4
  rw [K4] at X4 C4
  have A5 := X4.at
  refine Gets.via (fun _ k => (XS.astoreN A5 hx rfl (D d22_4) rfl rfl (l' := #[vR x, vR L, .unset]) rfl (XS.aloadN A5 hx rfl (D d22_5) rfl rfl k))) ?_
  refine X4.callF (W := 0) (w141 hw) (w142 hw) (w143 hw) rfl (w144 hw) (w145 hw) (w146 hw) (w147 hw) (w148 hw) (by decide) (X4.payM (sf := []) (rmLNs5 hcx L t kn [(.ref e0), (.ref e1), (.ref e2), (.ref e3), (.ref e4)] h0 X4.old Pr3 Pr4) sf0 (w150 hw) (w149 hw) (by decide) (by decide)) Pr2 rfl (sz hml rfl) (argsL := []) (rest := []) (lenOf pd14 rfl) rfl rfl (mroom rfl rfl) (D d22_6) (by decide) (by decide) fun T6 h6 vm6 v6 X6 C6 z6 q6 => ?_
  obtain ⟨rfl, K6⟩ := q6
  rw [K6] at X6 C6
  show Gets p e below _ (T6.setTop (mkF m 11 #[vR x, vR L, .unset] [(.int (5 : Int32))]))
  have A7 := X6.at
  refine Gets.via (fun _ k => (XS.iconst A7 hx rfl (D d22_11) (XS.icmpYes A7 hx rfl (pc0 := 12) (pc' := 55) rfl (D d22_12) rfl (Jvm.Free.XT.ii_ne_t (by decide)) (by decide) (by decide) k))) ?_
  refine Gets.via (fun _ k => (XS.iconst A7 hx rfl (D d22_55) (XS.istoreN A7 hx rfl (D d22_56) rfl (l' := #[vR x, vR L, vI (0 : Int32)]) rfl (XS.iloadN A7 hx rfl (D d22_57) rfl (XS.ifYes A7 hx rfl (pc0 := 58) (pc' := 74) rfl (D d22_58) rfl (Jvm.Free.XT.i0_eq_t (by decide)) (by decide) (by decide) k))))) ?_
  refine Gets.via (fun _ k => (XS.aconstNull A7 hx rfl (D d22_74) k)) ?_
  exact X6.retA hret rfl rfl rfl (D d22_75) (by decide) (by decide) (fun vmE CE => ⟨rfl, rfl⟩)
abbrev RrmLaw : Room := room_1
def QrmLaw (Z : State) (de : Addr) (el : Addr) (em : Addr) (p0 : Int32) (p1 : Int64) (p2 : Int64) (p3 : Int64) (p4 : Int64) (p5 : Int64) (h0 : Heap) (v : Option Value) (vm : Vm) (h : Heap) : Prop := v = some (.int (1 : Int32)) ∧ Keep h0 h []
theorem rmLaw (hcx : Cx Z a0 zc de kde em el ee kee mr) (p0 : Int32) (p1 : Int64) (p2 : Int64) (p3 : Int64) (p4 : Int64) (p5 : Int64) (h0 : Heap) (O0 : Old Z Z.heap.size h0)  : Met l Z consts_1 x code maxLocals ret tables_1 RrmLaw [] #[(.int p0), (.long p1), (.long p2), (.long p3), (.long p4), (.long p5)] h0 (QrmLaw Z de el em p0 p1 p2 p3 p4 p5 h0) := by
  have ⟨hw, hEL, O2, P5, OD, AD, XM, OM, OL, XL, FL, AE, MR⟩ := hcx
  refine Met.start (a0 := a0) (Ls := #[vI p0, .val (.long p1), .second, .val (.long p2), .second, .val (.long p3), .second, .val (.long p4), .second, .val (.long p5), .second, .unset, .unset, .unset, .unset, .unset, .unset]) pn48 hEL O0 (fun m => by first | (simp [entryFrame, mkF, argsToLocals, Value.category, maxLocals]; done) | rfl) ?_
  intro p e s m below meth cc T0 vm0 X0 sf0_ hby hml hret hnm
  have hx := X0.hx
  have D : ∀ {n r}, decode code n = r → decode cc.code n = r := fun d => hb hby d
  have zz := X0.ge
  have A0 := X0.at
  refine Gets.via (fun _ k => (XS.iloadN A0 hx rfl (D at_0) rfl k)) ?_
  refine X0.ldcI (w0 hw) rfl (D at_1) ?_
  refine Gets.via (fun _ k => (XS.iand A0 hx rfl (D at_3) rfl (XS.bipush A0 hx rfl (D at_4) (iremV A0 hx rfl (D at_6) rfl (by decide) (XS.istore A0 hx rfl (D at_7) rfl (l' := #[vI p0, .val (.long p1), .second, .val (.long p2), .second, .val (.long p3), .second, .val (.long p4), .second, .val (.long p5), .second, vI ((p0 &&& (2147483647 : Int32)) % (6 : Int32)), .unset, .unset, .unset, .unset, .unset]) rfl (XS.iconst A0 hx rfl (D at_9) k)))))) ?_
  show Gets p e below _ (T0.setTop (mkF m 10 #[vI p0, .val (.long p1), .second, .val (.long p2), .second, .val (.long p3), .second, .val (.long p4), .second, .val (.long p5), .second, vI ((p0 &&& (2147483647 : Int32)) % (6 : Int32)), .unset, .unset, .unset, .unset, .unset] [(.int (5 : Int32))]))
  refine X0.newR (ad := "[Ljava/lang/String;") (w1 hw) (w2 hw) rfl (D at_10) rfl (by decide) (cap := 5) (by decide) (by decide) (by decide) (by decide) (by decide) fun T2 h2 a2 k2 X2 C2 E2 g2 Z2 Ov2 V2 => ?_
  have z2 := E2.1
  have l2 := ltA V2.lt
  have V2_ : Arv Z h2 a2 k2 (.object "java/lang/String") (5 : Int32) [.null, .null, .null, .null, .null] .null := padN V2 5
  have A3 := X2.at
  refine Gets.via (fun _ k => (XS.astore A3 hx rfl (D at_13) rfl rfl (l' := #[vI p0, .val (.long p1), .second, .val (.long p2), .second, .val (.long p3), .second, .val (.long p4), .second, .val (.long p5), .second, vI ((p0 &&& (2147483647 : Int32)) % (6 : Int32)), vR a2, .unset, .unset, .unset, .unset]) rfl (XS.aload A3 hx rfl (D at_15) rfl rfl (XS.iconst A3 hx rfl (D at_17) (XS.lloadN A3 hx rfl (D at_18) rfl k))))) ?_
  refine X2.callS (W := 2) (w3 hw) (w4 hw) (w5 hw) (w6 hw) (by decide) (X2.payM (sf := []) (rmSub hcx p1 h2 X2.old ) sf0 (w6 hw) (w5 hw) (by decide) (by decide)) rfl (sz hml rfl) (argsL := [(.long p1)]) (rest := [(.int (0 : Int32)), (.ref a2)]) (lenOf pd9 rfl) rfl rfl (mroom rfl rfl) (D at_19) (by decide) (by decide) fun T4 h4 vm4 v4 X4 C4 z4 q4 => ?_
  obtain ⟨a4, b4, kb4, cs4, rfl, K4, g4_0, rfl⟩ := q4
  have l5 := ltA g4_0.lt
  have l6 := ltA g4_0.lb
  have f8 := V2_.keep K4 nin0
  refine X4.stR f8 (stoV f8 Ov2 (Ins.self g4_0.1)) rfl (i := 0) (by decide) (by decide) (Nat.le_of_ble_eq_true rfl) (by decide) (leA (by omega)) rfl rfl (D at_22) fun T7 h7 X7 C7 K7 V7 => ?_
  have z7 := K7.1
  have V7_ : Arv Z h7 a2 k2 (.object "java/lang/String") (5 : Int32) [(.ref a4), .null, .null, .null, .null] .null := V7
  show Gets p e below _ (T7.setTop (mkF m 23 #[vI p0, .val (.long p1), .second, .val (.long p2), .second, .val (.long p3), .second, .val (.long p4), .second, .val (.long p5), .second, vI ((p0 &&& (2147483647 : Int32)) % (6 : Int32)), vR a2, .unset, .unset, .unset, .unset] []))
  have A9 := X7.at
  refine Gets.via (fun _ k => (XS.aload A9 hx rfl (D at_23) rfl rfl (XS.iconst A9 hx rfl (D at_25) (XS.lloadN A9 hx rfl (D at_26) rfl k)))) ?_
  refine X7.callS (W := 2) (w3 hw) (w4 hw) (w5 hw) (w6 hw) (by decide) (X7.payM (sf := []) (rmSub hcx p2 h7 X7.old ) sf0 (w6 hw) (w5 hw) (by decide) (by decide)) rfl (sz hml rfl) (argsL := [(.long p2)]) (rest := [(.int (1 : Int32)), (.ref a2)]) (lenOf pd9 rfl) rfl rfl (mroom rfl rfl) (D at_27) (by decide) (by decide) fun T10 h10 vm10 v10 X10 C10 z10 q10 => ?_
  obtain ⟨a10, b10, kb10, cs10, rfl, K10, g10_0, rfl⟩ := q10
  have l11 := ltA g10_0.lt
  have l12 := ltA g10_0.lb
  have f14 := V7_.keep K10 nin0
  refine X10.stR f14 (stoV f14 Ov2 (Ins.self g10_0.1)) rfl (i := 1) (by decide) (by decide) (Nat.le_of_ble_eq_true rfl) (by decide) (leA (by omega)) rfl rfl (D at_30) fun T13 h13 X13 C13 K13 V13 => ?_
  have z13 := K13.1
  have V13_ : Arv Z h13 a2 k2 (.object "java/lang/String") (5 : Int32) [(.ref a4), (.ref a10), .null, .null, .null] .null := V13
  have A15 := X13.at
  refine Gets.via (fun _ k => (XS.aload A15 hx rfl (D at_31) rfl rfl (XS.iconst A15 hx rfl (D at_33) (XS.lload A15 hx rfl (D at_34) rfl k)))) ?_
  show Gets p e below _ (T13.setTop (mkF m 36 #[vI p0, .val (.long p1), .second, .val (.long p2), .second, .val (.long p3), .second, .val (.long p4), .second, .val (.long p5), .second, vI ((p0 &&& (2147483647 : Int32)) % (6 : Int32)), vR a2, .unset, .unset, .unset, .unset] [(.long p3), (.int (2 : Int32)), (.ref a2)]))
  refine X13.callS (W := 2) (w3 hw) (w4 hw) (w5 hw) (w6 hw) (by decide) (X13.payM (sf := []) (rmSub hcx p3 h13 X13.old ) sf0 (w6 hw) (w5 hw) (by decide) (by decide)) rfl (sz hml rfl) (argsL := [(.long p3)]) (rest := [(.int (2 : Int32)), (.ref a2)]) (lenOf pd9 rfl) rfl rfl (mroom rfl rfl) (D at_36) (by decide) (by decide) fun T16 h16 vm16 v16 X16 C16 z16 q16 => ?_
  obtain ⟨a16, b16, kb16, cs16, rfl, K16, g16_0, rfl⟩ := q16
  have l17 := ltA g16_0.lt
  have l18 := ltA g16_0.lb
  have f20 := V13_.keep K16 nin0
  refine X16.stR f20 (stoV f20 Ov2 (Ins.self g16_0.1)) rfl (i := 2) (by decide) (by decide) (Nat.le_of_ble_eq_true rfl) (by decide) (leA (by omega)) rfl rfl (D at_39) fun T19 h19 X19 C19 K19 V19 => ?_
  have z19 := K19.1
  have V19_ : Arv Z h19 a2 k2 (.object "java/lang/String") (5 : Int32) [(.ref a4), (.ref a10), (.ref a16), .null, .null] .null := V19
  have A21 := X19.at
  refine Gets.via (fun _ k => (XS.aload A21 hx rfl (D at_40) rfl rfl (XS.iconst A21 hx rfl (D at_42) (XS.lload A21 hx rfl (D at_43) rfl k)))) ?_
  refine X19.callS (W := 2) (w3 hw) (w4 hw) (w5 hw) (w6 hw) (by decide) (X19.payM (sf := []) (rmSub hcx p4 h19 X19.old ) sf0 (w6 hw) (w5 hw) (by decide) (by decide)) rfl (sz hml rfl) (argsL := [(.long p4)]) (rest := [(.int (3 : Int32)), (.ref a2)]) (lenOf pd9 rfl) rfl rfl (mroom rfl rfl) (D at_45) (by decide) (by decide) fun T22 h22 vm22 v22 X22 C22 z22 q22 => ?_
  obtain ⟨a22, b22, kb22, cs22, rfl, K22, g22_0, rfl⟩ := q22
  have l23 := ltA g22_0.lt
  have l24 := ltA g22_0.lb
  show Gets p e below _ (T22.setTop (mkF m 48 #[vI p0, .val (.long p1), .second, .val (.long p2), .second, .val (.long p3), .second, .val (.long p4), .second, .val (.long p5), .second, vI ((p0 &&& (2147483647 : Int32)) % (6 : Int32)), vR a2, .unset, .unset, .unset, .unset] [(.ref a22), (.int (3 : Int32)), (.ref a2)]))
  have f26 := V19_.keep K22 nin0
  refine X22.stR f26 (stoV f26 Ov2 (Ins.self g22_0.1)) rfl (i := 3) (by decide) (by decide) (Nat.le_of_ble_eq_true rfl) (by decide) (leA (by omega)) rfl rfl (D at_48) fun T25 h25 X25 C25 K25 V25 => ?_
  have z25 := K25.1
  have V25_ : Arv Z h25 a2 k2 (.object "java/lang/String") (5 : Int32) [(.ref a4), (.ref a10), (.ref a16), (.ref a22), .null] .null := V25
  have A27 := X25.at
  refine Gets.via (fun _ k => (XS.aload A27 hx rfl (D at_49) rfl rfl (XS.iconst A27 hx rfl (D at_51) (XS.lload A27 hx rfl (D at_52) rfl k)))) ?_
  refine X25.callS (W := 2) (w3 hw) (w4 hw) (w5 hw) (w6 hw) (by decide) (X25.payM (sf := []) (rmSub hcx p5 h25 X25.old ) sf0 (w6 hw) (w5 hw) (by decide) (by decide)) rfl (sz hml rfl) (argsL := [(.long p5)]) (rest := [(.int (4 : Int32)), (.ref a2)]) (lenOf pd9 rfl) rfl rfl (mroom rfl rfl) (D at_54) (by decide) (by decide) fun T28 h28 vm28 v28 X28 C28 z28 q28 => ?_
  obtain ⟨a28, b28, kb28, cs28, rfl, K28, g28_0, rfl⟩ := q28
  have l29 := ltA g28_0.lt
  have l30 := ltA g28_0.lb
  have f32 := V25_.keep K28 nin0
  refine X28.stR f32 (stoV f32 Ov2 (Ins.self g28_0.1)) rfl (i := 4) (by decide) (by decide) (Nat.le_of_ble_eq_true rfl) (by decide) (leA (by omega)) rfl rfl (D at_57) fun T31 h31 X31 C31 K31 V31 => ?_
  have z31 := K31.1
  have V31_ : Arv Z h31 a2 k2 (.object "java/lang/String") (5 : Int32) [(.ref a4), (.ref a10), (.ref a16), (.ref a22), (.ref a28)] .null := V31
  show Gets p e below _ (T31.setTop (mkF m 58 #[vI p0, .val (.long p1), .second, .val (.long p2), .second, .val (.long p3), .second, .val (.long p4), .second, .val (.long p5), .second, vI ((p0 &&& (2147483647 : Int32)) % (6 : Int32)), vR a2, .unset, .unset, .unset, .unset] []))
  refine X31.new (w58 hw) (w59 hw) (w60 hw) rfl (D at_58) (by decide) (by decide) fun T33 h33 a33 X33 C33 E33 g33 Z33 S33 D33 => ?_
  have z33 := E33.1
  have l33 := ltA Z33.lt
  have A34 := X33.at
  refine Gets.via (fun _ k => (XS.dup A34 hx rfl (D at_61) rfl rfl k)) ?_
  refine X33.callI (y := (⟨"java/util/ArrayList", "<init>", "()V"⟩ : MethodName)) (W := 1) rfl (w61 hw) (w62 hw) (w63 hw) (by decide) (X33.payM (sf := []) (rm13 hcx a33 h33 X33.old Z33 (D33 (Or.inl (w78 hw)) (ty := .int) (by decide) : Fld Z h33 a33 "java/util/AbstractList" "modCount" "I" (.int (0 : Int32))) (D33 (Or.inl (w121 hw)) (ty := .int) (by decide) : Fld Z h33 a33 "java/util/ArrayList" "size" "I" (.int (0 : Int32))) ((D33 (Or.inl (w81 hw)) (ty := (.array (.object "java/lang/Object"))) (by decide) : Fld Z h33 a33 "java/util/ArrayList" "elementData" "[Ljava/lang/Object;" .null)) (leA (by omega))) sf0 (w63 hw) (w60 hw) (by decide) (by decide)) rfl (sz hml rfl) (a := a33) (argsL := []) (rest := [(.ref a33)]) (lenOf pd7 rfl) rfl rfl (mroom rfl rfl) (D at_62) (by decide) (by decide) fun T35 h35 vm35 v35 X35 C35 z35 q35 => ?_
  obtain ⟨rfl, K35, g35_0, g35_1, g35_2, g35_3⟩ := q35
  have l36 := ltA g35_0.lt
  have A37 := X35.at
  refine Gets.via (fun _ k => (XS.astore A37 hx rfl (D at_65) rfl rfl (l' := #[vI p0, .val (.long p1), .second, .val (.long p2), .second, .val (.long p3), .second, .val (.long p4), .second, .val (.long p5), .second, vI ((p0 &&& (2147483647 : Int32)) % (6 : Int32)), vR a2, vR a33, .unset, .unset, .unset]) rfl k)) ?_
  rcases sz6 p0 with hs | hs | hs | hs | hs | hs
  · refine Gets.via (fun _ k => (XS.iload A37 hx rfl (D at_67) rfl (XS.ifYes A37 hx rfl (pc0 := 69) (pc' := 82) rfl (D at_69) rfl (Jvm.Free.XT.i0_le_t (by rw [hs]; decide)) (by decide) (by decide) k))) ?_
    refine Gets.via (fun _ k => (XS.iload A37 hx rfl (D at_82) rfl (XS.iconst A37 hx rfl (D at_84) (XS.icmpYes A37 hx rfl (pc0 := 85) (pc' := 98) rfl (D at_85) rfl (Jvm.Free.XT.ii_le_t (by rw [hs]; decide)) (by decide) (by decide) k)))) ?_
    show Gets p e below _ (T35.setTop (mkF m 98 #[vI p0, .val (.long p1), .second, .val (.long p2), .second, .val (.long p3), .second, .val (.long p4), .second, .val (.long p5), .second, vI ((p0 &&& (2147483647 : Int32)) % (6 : Int32)), vR a2, vR a33, .unset, .unset, .unset] []))
    refine Gets.via (fun _ k => (XS.iload A37 hx rfl (D at_98) rfl (XS.iconst A37 hx rfl (D at_100) (XS.icmpYes A37 hx rfl (pc0 := 101) (pc' := 114) rfl (D at_101) rfl (Jvm.Free.XT.ii_le_t (by rw [hs]; decide)) (by decide) (by decide) k)))) ?_
    refine Gets.via (fun _ k => (XS.iload A37 hx rfl (D at_114) rfl (XS.iconst A37 hx rfl (D at_116) (XS.icmpYes A37 hx rfl (pc0 := 117) (pc' := 130) rfl (D at_117) rfl (Jvm.Free.XT.ii_le_t (by rw [hs]; decide)) (by decide) (by decide) k)))) ?_
    refine Gets.via (fun _ k => (XS.iload A37 hx rfl (D at_130) rfl (XS.iconst A37 hx rfl (D at_132) (XS.icmpYes A37 hx rfl (pc0 := 133) (pc' := 146) rfl (D at_133) rfl (Jvm.Free.XT.ii_le_t (by rw [hs]; decide)) (by decide) (by decide) k)))) ?_
    refine X35.new (w82 hw) (w83 hw) (w84 hw) rfl (D at_146) (by decide) (by decide) fun T38 h38 a38 X38 C38 E38 g38 Z38 S38 D38 => ?_
    have z38 := E38.1
    have l38 := ltA Z38.lt
    show Gets p e below _ (T38.setTop (mkF m 149 #[vI p0, .val (.long p1), .second, .val (.long p2), .second, .val (.long p3), .second, .val (.long p4), .second, .val (.long p5), .second, vI ((p0 &&& (2147483647 : Int32)) % (6 : Int32)), vR a2, vR a33, .unset, .unset, .unset] [(.ref a38)]))
    have A39 := X38.at
    refine Gets.via (fun _ k => (XS.dup A39 hx rfl (D at_149) rfl rfl k)) ?_
    refine X38.ldcO (w85 hw) (wSt hw) rfl (D at_150) (n := 1) (by decide) (by decide) (by decide) (by decide) fun T40 h40 vm40 a40 X40 C40 E40 => ?_
    have z40 := E40.1
    have A41 := X40.at
    refine Gets.via (fun _ k => (XS.aload A41 hx rfl (D at_152) rfl rfl k)) ?_
    refine X40.ldcO (w85 hw) (wSt hw) rfl (D at_154) (n := 1) (by decide) (by decide) (by decide) (by decide) fun T42 h42 vm42 a42 X42 C42 E42 => ?_
    have z42 := E42.1
    have f43 := g35_2.ext E38
    have f44 := f43.ext E40
    have f45 := f44.ext E42
    have f46 := Z38.ext E40
    have f47 := f46.ext E42
    have f48 := (D38 (Or.inr (w127 hw)) (ty := (.object "java/lang/String")) (by decide) : Fld Z h38 a38 "com/example/packwright/packwright/model/Node" "subscriptLine" "Ljava/lang/String;" .null).ext E40
    have f49 := f48.ext E42
    have f50 := (D38 (Or.inr (w129 hw)) (ty := (.object "java/util/List")) (by decide) : Fld Z h38 a38 "com/example/packwright/packwright/model/Node" "subscripts" "Ljava/util/List;" .null).ext E40
    have f51 := f50.ext E42
    have f52 := (D38 (Or.inr (w131 hw)) (ty := (.object "java/lang/String")) (by decide) : Fld Z h38 a38 "com/example/packwright/packwright/model/Node" "value" "Ljava/lang/String;" .null).ext E40
    have f53 := f52.ext E42
    have f54 := g35_0.ext E38
    have f55 := f54.ext E40
    have f56 := f55.ext E42
    refine X42.callI (y := (⟨"com/example/packwright/packwright/model/Node", "<init>", "(Ljava/lang/String;Ljava/util/List;Ljava/lang/String;)V"⟩ : MethodName)) (W := 1) rfl (w88 hw) (w89 hw) (w90 hw) (by decide) (X42.payM (sf := []) (rmNode0 hcx a38 a40 a33 a42 h42 X42.old f47 f49 f51 f53 (leA (by omega)) f56 f45) sf0 (w90 hw) (w84 hw) (by decide) (by decide)) rfl (sz hml rfl) (a := a38) (argsL := [(.ref a40), (.ref a33), (.ref a42)]) (rest := [(.ref a38)]) (lenOf pd13 rfl) rfl rfl (mroom rfl rfl) (D at_156) (by decide) (by decide) fun T57 h57 vm57 v57 X57 C57 z57 q57 => ?_
    obtain ⟨rfl, K57, g57_0, g57_1⟩ := q57
    have l58 := ltA g57_0.lt
    have A59 := X57.at
    refine Gets.via (fun _ k => (XS.astore A59 hx rfl (D at_159) rfl rfl (l' := #[vI p0, .val (.long p1), .second, .val (.long p2), .second, .val (.long p3), .second, .val (.long p4), .second, .val (.long p5), .second, vI ((p0 &&& (2147483647 : Int32)) % (6 : Int32)), vR a2, vR a33, vR a38, .unset, .unset]) rfl (XS.aload A59 hx rfl (D at_161) rfl rfl k))) ?_
    show Gets p e below _ (T57.setTop (mkF m 163 #[vI p0, .val (.long p1), .second, .val (.long p2), .second, .val (.long p3), .second, .val (.long p4), .second, .val (.long p5), .second, vI ((p0 &&& (2147483647 : Int32)) % (6 : Int32)), vR a2, vR a33, vR a38, .unset, .unset] [(.ref a38)]))
    refine X57.callS (W := 0) (w132 hw) (w133 hw) (w134 hw) (w135 hw) (by decide) (X57.payM (sf := []) (rmRol0 hcx a38 h57 X57.old g57_0 g57_1) sf0 (w135 hw) (w134 hw) (by decide) (by decide)) rfl (sz hml rfl) (argsL := [(.ref a38)]) (rest := []) (lenOf pd15 rfl) rfl rfl (mroom rfl rfl) (D at_163) (by decide) (by decide) fun T60 h60 vm60 v60 X60 C60 z60 q60 => ?_
    obtain ⟨rfl, K60⟩ := q60
    rw [K60] at X60 C60
    have A61 := X60.at
    refine Gets.via (fun _ k => (XS.astore A61 hx rfl (D at_166) rfl rfl (l' := #[vI p0, .val (.long p1), .second, .val (.long p2), .second, .val (.long p3), .second, .val (.long p4), .second, .val (.long p5), .second, vI ((p0 &&& (2147483647 : Int32)) % (6 : Int32)), vR a2, vR a33, vR a38, .val .null, .unset]) rfl (XS.iload A61 hx rfl (D at_168) rfl (XS.iconst A61 hx rfl (D at_170) (XS.icmpYes A61 hx rfl (pc0 := 171) (pc' := 193) rfl (D at_171) rfl (Jvm.Free.XT.ii_ne_t (by rw [hs]; decide)) (by decide) (by decide) k))))) ?_
    refine Gets.via (fun _ k => (XS.iconst A61 hx rfl (D at_193) (XS.istore A61 hx rfl (D at_194) rfl (l' := #[vI p0, .val (.long p1), .second, .val (.long p2), .second, .val (.long p3), .second, .val (.long p4), .second, .val (.long p5), .second, vI ((p0 &&& (2147483647 : Int32)) % (6 : Int32)), vR a2, vR a33, vR a38, .val .null, vI (0 : Int32)]) rfl (XS.iload A61 hx rfl (D at_196) rfl (XS.ifYes A61 hx rfl (pc0 := 198) (pc' := 224) rfl (D at_198) rfl (Jvm.Free.XT.i0_eq_t (by decide)) (by decide) (by decide) k))))) ?_
    refine Gets.via (fun _ k => (XS.aload A61 hx rfl (D at_224) rfl rfl (XS.ifnonnullNo A61 hx rfl (D at_226) rfl k))) ?_
    show Gets p e below _ (T60.setTop (mkF m 229 #[vI p0, .val (.long p1), .second, .val (.long p2), .second, .val (.long p3), .second, .val (.long p4), .second, .val (.long p5), .second, vI ((p0 &&& (2147483647 : Int32)) % (6 : Int32)), vR a2, vR a33, vR a38, .val .null, vI (0 : Int32)] []))
    refine Gets.via (fun _ k => (XS.iconst A61 hx rfl (D at_229) (XS.goto A61 hx rfl (pc0 := 230) (pc' := 234) rfl (D at_230) (by decide) (by decide) k))) ?_
    exact X60.retI hret (by decide) (by simp) (D at_234) (by decide) (by decide) (fun vmE CE => ⟨rfl, ((((((((((((((((((Keep.refl h0 []).ext E2).trans K4 all0).trans K7 (allS (Or.inr (leA (by omega))) all0)).trans K10 all0).trans K13 (allS (Or.inr (leA (by omega))) all0)).trans K16 all0).trans K19 (allS (Or.inr (leA (by omega))) all0)).trans K22 all0).trans K25 (allS (Or.inr (leA (by omega))) all0)).trans K28 all0).trans K31 (allS (Or.inr (leA (by omega))) all0)).ext E33).trans K35 (allS (Or.inr (leA (by omega))) all0)).ext E38).ext E40).ext E42).trans K57 (allS (Or.inr (leA (by omega))) all0))⟩)
  · refine Gets.via (fun _ k => (XS.iload A37 hx rfl (D at_67) rfl (XS.ifNo A37 hx rfl (D at_69) rfl (Jvm.Free.XT.i0_le_f (by rw [hs]; decide)) k))) ?_
    refine Gets.via (fun _ k => (XS.aload A37 hx rfl (D at_72) rfl rfl (XS.aload A37 hx rfl (D at_74) rfl rfl (XS.iconst A37 hx rfl (D at_76) k)))) ?_
    have f62 := V31_.ext E33
    have f63 := f62.keep K35 (ninS (neA (by omega)) nin0)
    refine X35.ldR f63 rfl (i := 0) (by decide) (by decide) (by decide) rfl rfl rfl (D at_77) ?_
    have f64 := Z2.keep K4
    have l65 := neA (Exa.ne g4_0.1 f64 (by decide))
    have l66 := neA (Arv.nty g4_0.2.2.2.1 f8 (by decide))
    have f67 : Str Z h7 a4 b4 kb4 (subS p1) := g4_0.keep K7 (ninS (neA (by omega)) nin0) (ninS (neA (by omega)) nin0)
    have f68 : Str Z h10 a4 b4 kb4 (subS p1) := f67.keep K10 nin0 nin0
    have f69 : Str Z h13 a4 b4 kb4 (subS p1) := f68.keep K13 (ninS (neA (by omega)) nin0) (ninS (neA (by omega)) nin0)
    have f70 : Str Z h16 a4 b4 kb4 (subS p1) := f69.keep K16 nin0 nin0
    have f71 : Str Z h19 a4 b4 kb4 (subS p1) := f70.keep K19 (ninS (neA (by omega)) nin0) (ninS (neA (by omega)) nin0)
    have f72 : Str Z h22 a4 b4 kb4 (subS p1) := f71.keep K22 nin0 nin0
    have f73 : Str Z h25 a4 b4 kb4 (subS p1) := f72.keep K25 (ninS (neA (by omega)) nin0) (ninS (neA (by omega)) nin0)
    have f74 : Str Z h28 a4 b4 kb4 (subS p1) := f73.keep K28 nin0 nin0
    have f75 : Str Z h31 a4 b4 kb4 (subS p1) := f74.keep K31 (ninS (neA (by omega)) nin0) (ninS (neA (by omega)) nin0)
    have f76 : Str Z h33 a4 b4 kb4 (subS p1) := f75.ext E33
    have l77 := neA (Exa.ne f76.1 Z33 (by decide))
    have f78 : Str Z h35 a4 b4 kb4 (subS p1) := f76.keep K35 (ninS (neA (by omega)) nin0) (ninS (neA (by omega)) nin0)
    refine X35.callV (W := 0) (w154 hw) (w155 hw) (w157 hw) (w156 hw) (nfs rfl (w157 hw)) (by decide) (X35.payM (sf := []) (rmAdd0 hcx a33 a4 (0 : Int32) h35 X35.old g35_0 g35_1 g35_2 g35_3 (leA (by omega)) f78.1) sf0 (w158 hw) (w60 hw) (by decide) (by decide)) g35_0 rfl (sz hml rfl) (argsL := [(.ref a4)]) (rest := []) (lenOf pd20 rfl) rfl rfl (mroom rfl rfl) (D at_78) (by decide) (by decide) fun T79 h79 vm79 v79 X79 C79 z79 q79 => ?_
    obtain ⟨d79, kd79, rfl, K79, g79_0, g79_1, g79_2, g79_3, g79_4, g79_5, g79_6, g79_7, g79_8⟩ := q79
    have l80 := ltA g79_0.lt
    have l81 := ltA g79_4.lt
    show Gets p e below _ (T79.setTop (mkF m 81 #[vI p0, .val (.long p1), .second, .val (.long p2), .second, .val (.long p3), .second, .val (.long p4), .second, .val (.long p5), .second, vI ((p0 &&& (2147483647 : Int32)) % (6 : Int32)), vR a2, vR a33, .unset, .unset, .unset] [(.int (1 : Int32))]))
    have A82 := X79.at
    refine Gets.via (fun _ k => (XS.pop A82 hx rfl (D at_81) rfl rfl (XS.iload A82 hx rfl (D at_82) rfl (XS.iconst A82 hx rfl (D at_84) (XS.icmpYes A82 hx rfl (pc0 := 85) (pc' := 98) rfl (D at_85) rfl (Jvm.Free.XT.ii_le_t (by rw [hs]; decide)) (by decide) (by decide) k))))) ?_
    refine Gets.via (fun _ k => (XS.iload A82 hx rfl (D at_98) rfl (XS.iconst A82 hx rfl (D at_100) (XS.icmpYes A82 hx rfl (pc0 := 101) (pc' := 114) rfl (D at_101) rfl (Jvm.Free.XT.ii_le_t (by rw [hs]; decide)) (by decide) (by decide) k)))) ?_
    refine Gets.via (fun _ k => (XS.iload A82 hx rfl (D at_114) rfl (XS.iconst A82 hx rfl (D at_116) (XS.icmpYes A82 hx rfl (pc0 := 117) (pc' := 130) rfl (D at_117) rfl (Jvm.Free.XT.ii_le_t (by rw [hs]; decide)) (by decide) (by decide) k)))) ?_
    refine Gets.via (fun _ k => (XS.iload A82 hx rfl (D at_130) rfl (XS.iconst A82 hx rfl (D at_132) (XS.icmpYes A82 hx rfl (pc0 := 133) (pc' := 146) rfl (D at_133) rfl (Jvm.Free.XT.ii_le_t (by rw [hs]; decide)) (by decide) (by decide) k)))) ?_
    show Gets p e below _ (T79.setTop (mkF m 146 #[vI p0, .val (.long p1), .second, .val (.long p2), .second, .val (.long p3), .second, .val (.long p4), .second, .val (.long p5), .second, vI ((p0 &&& (2147483647 : Int32)) % (6 : Int32)), vR a2, vR a33, .unset, .unset, .unset] []))
    refine X79.new (w82 hw) (w83 hw) (w84 hw) rfl (D at_146) (by decide) (by decide) fun T83 h83 a83 X83 C83 E83 g83 Z83 S83 D83 => ?_
    have z83 := E83.1
    have l83 := ltA Z83.lt
    have A84 := X83.at
    refine Gets.via (fun _ k => (XS.dup A84 hx rfl (D at_149) rfl rfl k)) ?_
    refine X83.ldcO (w85 hw) (wSt hw) rfl (D at_150) (n := 1) (by decide) (by decide) (by decide) (by decide) fun T85 h85 vm85 a85 X85 C85 E85 => ?_
    have z85 := E85.1
    have A86 := X85.at
    refine Gets.via (fun _ k => (XS.aload A86 hx rfl (D at_152) rfl rfl k)) ?_
    refine X85.ldcO (w85 hw) (wSt hw) rfl (D at_154) (n := 1) (by decide) (by decide) (by decide) (by decide) fun T87 h87 vm87 a87 X87 C87 E87 => ?_
    have z87 := E87.1
    have f88 := g79_2.ext E83
    have f89 := f88.ext E85
    have f90 := f89.ext E87
    have f91 := Z83.ext E85
    have f92 := f91.ext E87
    have f93 := (D83 (Or.inr (w127 hw)) (ty := (.object "java/lang/String")) (by decide) : Fld Z h83 a83 "com/example/packwright/packwright/model/Node" "subscriptLine" "Ljava/lang/String;" .null).ext E85
    have f94 := f93.ext E87
    have f95 := (D83 (Or.inr (w129 hw)) (ty := (.object "java/util/List")) (by decide) : Fld Z h83 a83 "com/example/packwright/packwright/model/Node" "subscripts" "Ljava/util/List;" .null).ext E85
    have f96 := f95.ext E87
    have f97 := (D83 (Or.inr (w131 hw)) (ty := (.object "java/lang/String")) (by decide) : Fld Z h83 a83 "com/example/packwright/packwright/model/Node" "value" "Ljava/lang/String;" .null).ext E85
    have f98 := f97.ext E87
    have f99 := g79_0.ext E83
    have f100 := f99.ext E85
    have f101 := f100.ext E87
    have f102 := g79_3.ext E83
    have f103 := f102.ext E85
    have f104 := f103.ext E87
    have f105 := g79_4.ext E83
    have f106 := f105.ext E85
    have f107 := f106.ext E87
    have f108 := g79_5.ext E83
    have f109 := f108.ext E85
    have f110 := f109.ext E87
    have f111 : Str Z h79 a4 b4 kb4 (subS p1) := f78.keep K79 (ninS (neA (by omega)) nin0) (ninS (neA (by omega)) nin0)
    have f112 : Str Z h83 a4 b4 kb4 (subS p1) := f111.ext E83
    have f113 : Str Z h85 a4 b4 kb4 (subS p1) := f112.ext E85
    have f114 : Str Z h87 a4 b4 kb4 (subS p1) := f113.ext E87
    refine X87.callI (y := (⟨"com/example/packwright/packwright/model/Node", "<init>", "(Ljava/lang/String;Ljava/util/List;Ljava/lang/String;)V"⟩ : MethodName)) (W := 1) rfl (w88 hw) (w89 hw) (w90 hw) (by decide) (X87.payM (sf := []) (rmNode1 hcx a83 a85 a33 a87 d79 kd79 a4 h87 X87.old f92 f94 f96 f98 (leA (by omega)) f101 f90 f104 f107 f110 f114.1) sf0 (w90 hw) (w84 hw) (by decide) (by decide)) rfl (sz hml rfl) (a := a83) (argsL := [(.ref a85), (.ref a33), (.ref a87)]) (rest := [(.ref a83)]) (lenOf pd13 rfl) rfl rfl (mroom rfl rfl) (D at_156) (by decide) (by decide) fun T115 h115 vm115 v115 X115 C115 z115 q115 => ?_
    obtain ⟨L115, rfl, K115, g115_0, g115_1, g115_2, g115_3, g115_4⟩ := q115
    have l116 := ltA g115_0.lt
    have l117 := ltA g115_2.lt
    show Gets p e below _ (T115.setTop (mkF m 159 #[vI p0, .val (.long p1), .second, .val (.long p2), .second, .val (.long p3), .second, .val (.long p4), .second, .val (.long p5), .second, vI ((p0 &&& (2147483647 : Int32)) % (6 : Int32)), vR a2, vR a33, .unset, .unset, .unset] [(.ref a83)]))
    have A118 := X115.at
    refine Gets.via (fun _ k => (XS.astore A118 hx rfl (D at_159) rfl rfl (l' := #[vI p0, .val (.long p1), .second, .val (.long p2), .second, .val (.long p3), .second, .val (.long p4), .second, .val (.long p5), .second, vI ((p0 &&& (2147483647 : Int32)) % (6 : Int32)), vR a2, vR a33, vR a83, .unset, .unset]) rfl (XS.aload A118 hx rfl (D at_161) rfl rfl k))) ?_
    refine X115.callS (W := 0) (w132 hw) (w133 hw) (w134 hw) (w135 hw) (by decide) (X115.payM (sf := []) (rmRol1 hcx a83 L115 a4 h115 X115.old g115_0 g115_1 g115_2 g115_3 g115_4) sf0 (w135 hw) (w134 hw) (by decide) (by decide)) rfl (sz hml rfl) (argsL := [(.ref a83)]) (rest := []) (lenOf pd15 rfl) rfl rfl (mroom rfl rfl) (D at_163) (by decide) (by decide) fun T119 h119 vm119 v119 X119 C119 z119 q119 => ?_
    obtain ⟨rfl, K119⟩ := q119
    rw [K119] at X119 C119
    have A120 := X119.at
    refine Gets.via (fun _ k => (XS.astore A120 hx rfl (D at_166) rfl rfl (l' := #[vI p0, .val (.long p1), .second, .val (.long p2), .second, .val (.long p3), .second, .val (.long p4), .second, .val (.long p5), .second, vI ((p0 &&& (2147483647 : Int32)) % (6 : Int32)), vR a2, vR a33, vR a83, .val .null, .unset]) rfl (XS.iload A120 hx rfl (D at_168) rfl (XS.iconst A120 hx rfl (D at_170) (XS.icmpYes A120 hx rfl (pc0 := 171) (pc' := 193) rfl (D at_171) rfl (Jvm.Free.XT.ii_ne_t (by rw [hs]; decide)) (by decide) (by decide) k))))) ?_
    refine Gets.via (fun _ k => (XS.iconst A120 hx rfl (D at_193) (XS.istore A120 hx rfl (D at_194) rfl (l' := #[vI p0, .val (.long p1), .second, .val (.long p2), .second, .val (.long p3), .second, .val (.long p4), .second, .val (.long p5), .second, vI ((p0 &&& (2147483647 : Int32)) % (6 : Int32)), vR a2, vR a33, vR a83, .val .null, vI (0 : Int32)]) rfl (XS.iload A120 hx rfl (D at_196) rfl (XS.ifYes A120 hx rfl (pc0 := 198) (pc' := 224) rfl (D at_198) rfl (Jvm.Free.XT.i0_eq_t (by decide)) (by decide) (by decide) k))))) ?_
    show Gets p e below _ (T119.setTop (mkF m 224 #[vI p0, .val (.long p1), .second, .val (.long p2), .second, .val (.long p3), .second, .val (.long p4), .second, .val (.long p5), .second, vI ((p0 &&& (2147483647 : Int32)) % (6 : Int32)), vR a2, vR a33, vR a83, .val .null, vI (0 : Int32)] []))
    refine Gets.via (fun _ k => (XS.aload A120 hx rfl (D at_224) rfl rfl (XS.ifnonnullNo A120 hx rfl (D at_226) rfl k))) ?_
    refine Gets.via (fun _ k => (XS.iconst A120 hx rfl (D at_229) (XS.goto A120 hx rfl (pc0 := 230) (pc' := 234) rfl (D at_230) (by decide) (by decide) k))) ?_
    exact X119.retI hret (by decide) (by simp) (D at_234) (by decide) (by decide) (fun vmE CE => ⟨rfl, (((((((((((((((((((Keep.refl h0 []).ext E2).trans K4 all0).trans K7 (allS (Or.inr (leA (by omega))) all0)).trans K10 all0).trans K13 (allS (Or.inr (leA (by omega))) all0)).trans K16 all0).trans K19 (allS (Or.inr (leA (by omega))) all0)).trans K22 all0).trans K25 (allS (Or.inr (leA (by omega))) all0)).trans K28 all0).trans K31 (allS (Or.inr (leA (by omega))) all0)).ext E33).trans K35 (allS (Or.inr (leA (by omega))) all0)).trans K79 (allS (Or.inr (leA (by omega))) all0)).ext E83).ext E85).ext E87).trans K115 (allS (Or.inr (leA (by omega))) all0))⟩)
  · refine Gets.via (fun _ k => (XS.iload A37 hx rfl (D at_67) rfl (XS.ifNo A37 hx rfl (D at_69) rfl (Jvm.Free.XT.i0_le_f (by rw [hs]; decide)) k))) ?_
    refine Gets.via (fun _ k => (XS.aload A37 hx rfl (D at_72) rfl rfl (XS.aload A37 hx rfl (D at_74) rfl rfl (XS.iconst A37 hx rfl (D at_76) k)))) ?_
    have f121 := V31_.ext E33
    have f122 := f121.keep K35 (ninS (neA (by omega)) nin0)
    refine X35.ldR f122 rfl (i := 0) (by decide) (by decide) (by decide) rfl rfl rfl (D at_77) ?_
    show Gets p e below _ (T35.setTop (mkF m 78 #[vI p0, .val (.long p1), .second, .val (.long p2), .second, .val (.long p3), .second, .val (.long p4), .second, .val (.long p5), .second, vI ((p0 &&& (2147483647 : Int32)) % (6 : Int32)), vR a2, vR a33, .unset, .unset, .unset] [(.ref a4), (.ref a33)]))
    have f123 := Z2.keep K4
    have l124 := neA (Exa.ne g4_0.1 f123 (by decide))
    have l125 := neA (Arv.nty g4_0.2.2.2.1 f8 (by decide))
    have f126 : Str Z h7 a4 b4 kb4 (subS p1) := g4_0.keep K7 (ninS (neA (by omega)) nin0) (ninS (neA (by omega)) nin0)
    have f127 : Str Z h10 a4 b4 kb4 (subS p1) := f126.keep K10 nin0 nin0
    have f128 : Str Z h13 a4 b4 kb4 (subS p1) := f127.keep K13 (ninS (neA (by omega)) nin0) (ninS (neA (by omega)) nin0)
    have f129 : Str Z h16 a4 b4 kb4 (subS p1) := f128.keep K16 nin0 nin0
    have f130 : Str Z h19 a4 b4 kb4 (subS p1) := f129.keep K19 (ninS (neA (by omega)) nin0) (ninS (neA (by omega)) nin0)
    have f131 : Str Z h22 a4 b4 kb4 (subS p1) := f130.keep K22 nin0 nin0
    have f132 : Str Z h25 a4 b4 kb4 (subS p1) := f131.keep K25 (ninS (neA (by omega)) nin0) (ninS (neA (by omega)) nin0)
    have f133 : Str Z h28 a4 b4 kb4 (subS p1) := f132.keep K28 nin0 nin0
    have f134 : Str Z h31 a4 b4 kb4 (subS p1) := f133.keep K31 (ninS (neA (by omega)) nin0) (ninS (neA (by omega)) nin0)
    have f135 : Str Z h33 a4 b4 kb4 (subS p1) := f134.ext E33
    have l136 := neA (Exa.ne f135.1 Z33 (by decide))
    have f137 : Str Z h35 a4 b4 kb4 (subS p1) := f135.keep K35 (ninS (neA (by omega)) nin0) (ninS (neA (by omega)) nin0)
    refine X35.callV (W := 0) (w154 hw) (w155 hw) (w157 hw) (w156 hw) (nfs rfl (w157 hw)) (by decide) (X35.payM (sf := []) (rmAdd0 hcx a33 a4 (0 : Int32) h35 X35.old g35_0 g35_1 g35_2 g35_3 (leA (by omega)) f137.1) sf0 (w158 hw) (w60 hw) (by decide) (by decide)) g35_0 rfl (sz hml rfl) (argsL := [(.ref a4)]) (rest := []) (lenOf pd20 rfl) rfl rfl (mroom rfl rfl) (D at_78) (by decide) (by decide) fun T138 h138 vm138 v138 X138 C138 z138 q138 => ?_
    obtain ⟨d138, kd138, rfl, K138, g138_0, g138_1, g138_2, g138_3, g138_4, g138_5, g138_6, g138_7, g138_8⟩ := q138
    have l139 := ltA g138_0.lt
    have l140 := ltA g138_4.lt
    have A141 := X138.at
    refine Gets.via (fun _ k => (XS.pop A141 hx rfl (D at_81) rfl rfl (XS.iload A141 hx rfl (D at_82) rfl (XS.iconst A141 hx rfl (D at_84) (XS.icmpNo A141 hx rfl (D at_85) rfl (Jvm.Free.XT.ii_le_f (by rw [hs]; decide)) k))))) ?_
    refine Gets.via (fun _ k => (XS.aload A141 hx rfl (D at_88) rfl rfl (XS.aload A141 hx rfl (D at_90) rfl rfl (XS.iconst A141 hx rfl (D at_92) k)))) ?_
    have f142 := f122.keep K138 (ninS (neA (by omega)) nin0)
    refine X138.ldR f142 rfl (i := 1) (by decide) (by decide) (by decide) rfl rfl rfl (D at_93) ?_
    show Gets p e below _ (T138.setTop (mkF m 94 #[vI p0, .val (.long p1), .second, .val (.long p2), .second, .val (.long p3), .second, .val (.long p4), .second, .val (.long p5), .second, vI ((p0 &&& (2147483647 : Int32)) % (6 : Int32)), vR a2, vR a33, .unset, .unset, .unset] [(.ref a10), (.ref a33)]))
    have f143 := f123.keep K7
    have f144 := f143.keep K10
    have l145 := neA (Exa.ne g10_0.1 f144 (by decide))
    have l146 := neA (Arv.nty g10_0.2.2.2.1 f14 (by decide))
    have f147 : Str Z h13 a10 b10 kb10 (subS p2) := g10_0.keep K13 (ninS (neA (by omega)) nin0) (ninS (neA (by omega)) nin0)
    have f148 : Str Z h16 a10 b10 kb10 (subS p2) := f147.keep K16 nin0 nin0
    have f149 : Str Z h19 a10 b10 kb10 (subS p2) := f148.keep K19 (ninS (neA (by omega)) nin0) (ninS (neA (by omega)) nin0)
    have f150 : Str Z h22 a10 b10 kb10 (subS p2) := f149.keep K22 nin0 nin0
    have f151 : Str Z h25 a10 b10 kb10 (subS p2) := f150.keep K25 (ninS (neA (by omega)) nin0) (ninS (neA (by omega)) nin0)
    have f152 : Str Z h28 a10 b10 kb10 (subS p2) := f151.keep K28 nin0 nin0
    have f153 : Str Z h31 a10 b10 kb10 (subS p2) := f152.keep K31 (ninS (neA (by omega)) nin0) (ninS (neA (by omega)) nin0)
    have f154 : Str Z h33 a10 b10 kb10 (subS p2) := f153.ext E33
    have l155 := neA (Exa.ne f154.1 Z33 (by decide))
    have f156 : Str Z h35 a10 b10 kb10 (subS p2) := f154.keep K35 (ninS (neA (by omega)) nin0) (ninS (neA (by omega)) nin0)
    have f157 : Str Z h138 a10 b10 kb10 (subS p2) := f156.keep K138 (ninS (neA (by omega)) nin0) (ninS (neA (by omega)) nin0)
    refine X138.callV (W := 0) (w154 hw) (w155 hw) (w157 hw) (w156 hw) (nfs rfl (w157 hw)) (by decide) (X138.payM (sf := []) (rmAdd1 hcx a33 a10 ((0 : Int32) + (1 : Int32)) d138 kd138 a4 h138 X138.old g138_0 g138_1 g138_2 g138_3 g138_4 g138_5 g138_6 g138_7 (neA (by omega)) (leA (by omega)) f157.1) sf0 (w158 hw) (w60 hw) (by decide) (by decide)) g138_0 rfl (sz hml rfl) (argsL := [(.ref a10)]) (rest := []) (lenOf pd20 rfl) rfl rfl (mroom rfl rfl) (D at_94) (by decide) (by decide) fun T158 h158 vm158 v158 X158 C158 z158 q158 => ?_
    obtain ⟨rfl, K158, g158_0, g158_1, g158_2, g158_3, g158_4, g158_5⟩ := q158
    have l159 := ltA g158_0.lt
    have l160 := ltA g158_4.lt
    have A161 := X158.at
    refine Gets.via (fun _ k => (XS.pop A161 hx rfl (D at_97) rfl rfl (XS.iload A161 hx rfl (D at_98) rfl (XS.iconst A161 hx rfl (D at_100) (XS.icmpYes A161 hx rfl (pc0 := 101) (pc' := 114) rfl (D at_101) rfl (Jvm.Free.XT.ii_le_t (by rw [hs]; decide)) (by decide) (by decide) k))))) ?_
    refine Gets.via (fun _ k => (XS.iload A161 hx rfl (D at_114) rfl (XS.iconst A161 hx rfl (D at_116) (XS.icmpYes A161 hx rfl (pc0 := 117) (pc' := 130) rfl (D at_117) rfl (Jvm.Free.XT.ii_le_t (by rw [hs]; decide)) (by decide) (by decide) k)))) ?_
    refine Gets.via (fun _ k => (XS.iload A161 hx rfl (D at_130) rfl (XS.iconst A161 hx rfl (D at_132) (XS.icmpYes A161 hx rfl (pc0 := 133) (pc' := 146) rfl (D at_133) rfl (Jvm.Free.XT.ii_le_t (by rw [hs]; decide)) (by decide) (by decide) k)))) ?_
    show Gets p e below _ (T158.setTop (mkF m 146 #[vI p0, .val (.long p1), .second, .val (.long p2), .second, .val (.long p3), .second, .val (.long p4), .second, .val (.long p5), .second, vI ((p0 &&& (2147483647 : Int32)) % (6 : Int32)), vR a2, vR a33, .unset, .unset, .unset] []))
    refine X158.new (w82 hw) (w83 hw) (w84 hw) rfl (D at_146) (by decide) (by decide) fun T162 h162 a162 X162 C162 E162 g162 Z162 S162 D162 => ?_
    have z162 := E162.1
    have l162 := ltA Z162.lt
    have A163 := X162.at
    refine Gets.via (fun _ k => (XS.dup A163 hx rfl (D at_149) rfl rfl k)) ?_
    refine X162.ldcO (w85 hw) (wSt hw) rfl (D at_150) (n := 1) (by decide) (by decide) (by decide) (by decide) fun T164 h164 vm164 a164 X164 C164 E164 => ?_
    have z164 := E164.1
    have A165 := X164.at
    refine Gets.via (fun _ k => (XS.aload A165 hx rfl (D at_152) rfl rfl k)) ?_
    refine X164.ldcO (w85 hw) (wSt hw) rfl (D at_154) (n := 1) (by decide) (by decide) (by decide) (by decide) fun T166 h166 vm166 a166 X166 C166 E166 => ?_
    have z166 := E166.1
    have f167 := g158_2.ext E162
    have f168 := f167.ext E164
    have f169 := f168.ext E166
    have f170 := Z162.ext E164
    have f171 := f170.ext E166
    have f172 := (D162 (Or.inr (w127 hw)) (ty := (.object "java/lang/String")) (by decide) : Fld Z h162 a162 "com/example/packwright/packwright/model/Node" "subscriptLine" "Ljava/lang/String;" .null).ext E164
    have f173 := f172.ext E166
    have f174 := (D162 (Or.inr (w129 hw)) (ty := (.object "java/util/List")) (by decide) : Fld Z h162 a162 "com/example/packwright/packwright/model/Node" "subscripts" "Ljava/util/List;" .null).ext E164
    have f175 := f174.ext E166
    have f176 := (D162 (Or.inr (w131 hw)) (ty := (.object "java/lang/String")) (by decide) : Fld Z h162 a162 "com/example/packwright/packwright/model/Node" "value" "Ljava/lang/String;" .null).ext E164
    have f177 := f176.ext E166
    have f178 := g158_0.ext E162
    have f179 := f178.ext E164
    have f180 := f179.ext E166
    have f181 := g158_3.ext E162
    have f182 := f181.ext E164
    have f183 := f182.ext E166
    have f184 := g158_4.ext E162
    have f185 := f184.ext E164
    have f186 := f185.ext E166
    have f187 := g158_5.ext E162
    have f188 := f187.ext E164
    have f189 := f188.ext E166
    have f190 : Str Z h138 a4 b4 kb4 (subS p1) := f137.keep K138 (ninS (neA (by omega)) nin0) (ninS (neA (by omega)) nin0)
    have l191 := neA (Exa.ne f190.1 g138_5 (by decide))
    have l192 := neA (Arv.nty f190.2.2.2.1 g138_4 (by decide))
    have f193 : Str Z h158 a4 b4 kb4 (subS p1) := f190.keep K158 (ninS (neA (by omega)) (ninS (neA (by omega)) nin0)) (ninS (neA (by omega)) (ninS (neA (by omega)) nin0))
    have f194 : Str Z h162 a4 b4 kb4 (subS p1) := f193.ext E162
    have f195 : Str Z h164 a4 b4 kb4 (subS p1) := f194.ext E164
    have f196 : Str Z h166 a4 b4 kb4 (subS p1) := f195.ext E166
    have l197 := neA (Exa.ne f157.1 g138_5 (by decide))
    have l198 := neA (Arv.nty f157.2.2.2.1 g138_4 (by decide))
    have f199 : Str Z h158 a10 b10 kb10 (subS p2) := f157.keep K158 (ninS (neA (by omega)) (ninS (neA (by omega)) nin0)) (ninS (neA (by omega)) (ninS (neA (by omega)) nin0))
    have f200 : Str Z h162 a10 b10 kb10 (subS p2) := f199.ext E162
    have f201 : Str Z h164 a10 b10 kb10 (subS p2) := f200.ext E164
    have f202 : Str Z h166 a10 b10 kb10 (subS p2) := f201.ext E166
    refine X166.callI (y := (⟨"com/example/packwright/packwright/model/Node", "<init>", "(Ljava/lang/String;Ljava/util/List;Ljava/lang/String;)V"⟩ : MethodName)) (W := 1) rfl (w88 hw) (w89 hw) (w90 hw) (by decide) (X166.payM (sf := []) (rmNode2 hcx a162 a164 a33 a166 d138 kd138 a4 a10 h166 X166.old f171 f173 f175 f177 (leA (by omega)) f180 f169 f183 f186 f189 f196.1 f202.1) sf0 (w90 hw) (w84 hw) (by decide) (by decide)) rfl (sz hml rfl) (a := a162) (argsL := [(.ref a164), (.ref a33), (.ref a166)]) (rest := [(.ref a162)]) (lenOf pd13 rfl) rfl rfl (mroom rfl rfl) (D at_156) (by decide) (by decide) fun T203 h203 vm203 v203 X203 C203 z203 q203 => ?_
    obtain ⟨L203, rfl, K203, g203_0, g203_1, g203_2, g203_3, g203_4⟩ := q203
    have l204 := ltA g203_0.lt
    have l205 := ltA g203_2.lt
    show Gets p e below _ (T203.setTop (mkF m 159 #[vI p0, .val (.long p1), .second, .val (.long p2), .second, .val (.long p3), .second, .val (.long p4), .second, .val (.long p5), .second, vI ((p0 &&& (2147483647 : Int32)) % (6 : Int32)), vR a2, vR a33, .unset, .unset, .unset] [(.ref a162)]))
    have A206 := X203.at
    refine Gets.via (fun _ k => (XS.astore A206 hx rfl (D at_159) rfl rfl (l' := #[vI p0, .val (.long p1), .second, .val (.long p2), .second, .val (.long p3), .second, .val (.long p4), .second, .val (.long p5), .second, vI ((p0 &&& (2147483647 : Int32)) % (6 : Int32)), vR a2, vR a33, vR a162, .unset, .unset]) rfl (XS.aload A206 hx rfl (D at_161) rfl rfl k))) ?_
    have l207 := neA (Exa.ne f202.1 f171 (by decide))
    have f208 : Str Z h203 a10 b10 kb10 (subS p2) := f202.keep K203 (ninS (neA (by omega)) nin0) (ninS (neA (by omega)) nin0)
    refine X203.callS (W := 0) (w132 hw) (w133 hw) (w134 hw) (w135 hw) (by decide) (X203.payM (sf := []) (rmRol2 hcx a162 L203 a4 a10 h203 X203.old g203_0 g203_1 g203_2 g203_3 g203_4 f208.1) sf0 (w135 hw) (w134 hw) (by decide) (by decide)) rfl (sz hml rfl) (argsL := [(.ref a162)]) (rest := []) (lenOf pd15 rfl) rfl rfl (mroom rfl rfl) (D at_163) (by decide) (by decide) fun T209 h209 vm209 v209 X209 C209 z209 q209 => ?_
    obtain ⟨rfl, K209⟩ := q209
    rw [K209] at X209 C209
    have A210 := X209.at
    refine Gets.via (fun _ k => (XS.astore A210 hx rfl (D at_166) rfl rfl (l' := #[vI p0, .val (.long p1), .second, .val (.long p2), .second, .val (.long p3), .second, .val (.long p4), .second, .val (.long p5), .second, vI ((p0 &&& (2147483647 : Int32)) % (6 : Int32)), vR a2, vR a33, vR a162, .val .null, .unset]) rfl (XS.iload A210 hx rfl (D at_168) rfl (XS.iconst A210 hx rfl (D at_170) (XS.icmpYes A210 hx rfl (pc0 := 171) (pc' := 193) rfl (D at_171) rfl (Jvm.Free.XT.ii_ne_t (by rw [hs]; decide)) (by decide) (by decide) k))))) ?_
    refine Gets.via (fun _ k => (XS.iconst A210 hx rfl (D at_193) (XS.istore A210 hx rfl (D at_194) rfl (l' := #[vI p0, .val (.long p1), .second, .val (.long p2), .second, .val (.long p3), .second, .val (.long p4), .second, .val (.long p5), .second, vI ((p0 &&& (2147483647 : Int32)) % (6 : Int32)), vR a2, vR a33, vR a162, .val .null, vI (0 : Int32)]) rfl (XS.iload A210 hx rfl (D at_196) rfl (XS.ifYes A210 hx rfl (pc0 := 198) (pc' := 224) rfl (D at_198) rfl (Jvm.Free.XT.i0_eq_t (by decide)) (by decide) (by decide) k))))) ?_
    show Gets p e below _ (T209.setTop (mkF m 224 #[vI p0, .val (.long p1), .second, .val (.long p2), .second, .val (.long p3), .second, .val (.long p4), .second, .val (.long p5), .second, vI ((p0 &&& (2147483647 : Int32)) % (6 : Int32)), vR a2, vR a33, vR a162, .val .null, vI (0 : Int32)] []))
    refine Gets.via (fun _ k => (XS.aload A210 hx rfl (D at_224) rfl rfl (XS.ifnonnullNo A210 hx rfl (D at_226) rfl k))) ?_
    refine Gets.via (fun _ k => (XS.iconst A210 hx rfl (D at_229) (XS.goto A210 hx rfl (pc0 := 230) (pc' := 234) rfl (D at_230) (by decide) (by decide) k))) ?_
    exact X209.retI hret (by decide) (by simp) (D at_234) (by decide) (by decide) (fun vmE CE => ⟨rfl, ((((((((((((((((((((Keep.refl h0 []).ext E2).trans K4 all0).trans K7 (allS (Or.inr (leA (by omega))) all0)).trans K10 all0).trans K13 (allS (Or.inr (leA (by omega))) all0)).trans K16 all0).trans K19 (allS (Or.inr (leA (by omega))) all0)).trans K22 all0).trans K25 (allS (Or.inr (leA (by omega))) all0)).trans K28 all0).trans K31 (allS (Or.inr (leA (by omega))) all0)).ext E33).trans K35 (allS (Or.inr (leA (by omega))) all0)).trans K138 (allS (Or.inr (leA (by omega))) all0)).trans K158 (allS (Or.inr (leA (by omega))) (allS (Or.inr (leA (by omega))) all0))).ext E162).ext E164).ext E166).trans K203 (allS (Or.inr (leA (by omega))) all0))⟩)
  · refine Gets.via (fun _ k => (XS.iload A37 hx rfl (D at_67) rfl (XS.ifNo A37 hx rfl (D at_69) rfl (Jvm.Free.XT.i0_le_f (by rw [hs]; decide)) k))) ?_
    refine Gets.via (fun _ k => (XS.aload A37 hx rfl (D at_72) rfl rfl (XS.aload A37 hx rfl (D at_74) rfl rfl (XS.iconst A37 hx rfl (D at_76) k)))) ?_
    have f211 := V31_.ext E33
    have f212 := f211.keep K35 (ninS (neA (by omega)) nin0)
    refine X35.ldR f212 rfl (i := 0) (by decide) (by decide) (by decide) rfl rfl rfl (D at_77) ?_
    show Gets p e below _ (T35.setTop (mkF m 78 #[vI p0, .val (.long p1), .second, .val (.long p2), .second, .val (.long p3), .second, .val (.long p4), .second, .val (.long p5), .second, vI ((p0 &&& (2147483647 : Int32)) % (6 : Int32)), vR a2, vR a33, .unset, .unset, .unset] [(.ref a4), (.ref a33)]))
    have f213 := Z2.keep K4
    have l214 := neA (Exa.ne g4_0.1 f213 (by decide))
    have l215 := neA (Arv.nty g4_0.2.2.2.1 f8 (by decide))
    have f216 : Str Z h7 a4 b4 kb4 (subS p1) := g4_0.keep K7 (ninS (neA (by omega)) nin0) (ninS (neA (by omega)) nin0)
    have f217 : Str Z h10 a4 b4 kb4 (subS p1) := f216.keep K10 nin0 nin0
    have f218 : Str Z h13 a4 b4 kb4 (subS p1) := f217.keep K13 (ninS (neA (by omega)) nin0) (ninS (neA (by omega)) nin0)
    have f219 : Str Z h16 a4 b4 kb4 (subS p1) := f218.keep K16 nin0 nin0
    have f220 : Str Z h19 a4 b4 kb4 (subS p1) := f219.keep K19 (ninS (neA (by omega)) nin0) (ninS (neA (by omega)) nin0)
    have f221 : Str Z h22 a4 b4 kb4 (subS p1) := f220.keep K22 nin0 nin0
    have f222 : Str Z h25 a4 b4 kb4 (subS p1) := f221.keep K25 (ninS (neA (by omega)) nin0) (ninS (neA (by omega)) nin0)
    have f223 : Str Z h28 a4 b4 kb4 (subS p1) := f222.keep K28 nin0 nin0
    have f224 : Str Z h31 a4 b4 kb4 (subS p1) := f223.keep K31 (ninS (neA (by omega)) nin0) (ninS (neA (by omega)) nin0)
    have f225 : Str Z h33 a4 b4 kb4 (subS p1) := f224.ext E33
    have l226 := neA (Exa.ne f225.1 Z33 (by decide))
    have f227 : Str Z h35 a4 b4 kb4 (subS p1) := f225.keep K35 (ninS (neA (by omega)) nin0) (ninS (neA (by omega)) nin0)
    refine X35.callV (W := 0) (w154 hw) (w155 hw) (w157 hw) (w156 hw) (nfs rfl (w157 hw)) (by decide) (X35.payM (sf := []) (rmAdd0 hcx a33 a4 (0 : Int32) h35 X35.old g35_0 g35_1 g35_2 g35_3 (leA (by omega)) f227.1) sf0 (w158 hw) (w60 hw) (by decide) (by decide)) g35_0 rfl (sz hml rfl) (argsL := [(.ref a4)]) (rest := []) (lenOf pd20 rfl) rfl rfl (mroom rfl rfl) (D at_78) (by decide) (by decide) fun T228 h228 vm228 v228 X228 C228 z228 q228 => ?_
    obtain ⟨d228, kd228, rfl, K228, g228_0, g228_1, g228_2, g228_3, g228_4, g228_5, g228_6, g228_7, g228_8⟩ := q228
    have l229 := ltA g228_0.lt
    have l230 := ltA g228_4.lt
    have A231 := X228.at
    refine Gets.via (fun _ k => (XS.pop A231 hx rfl (D at_81) rfl rfl (XS.iload A231 hx rfl (D at_82) rfl (XS.iconst A231 hx rfl (D at_84) (XS.icmpNo A231 hx rfl (D at_85) rfl (Jvm.Free.XT.ii_le_f (by rw [hs]; decide)) k))))) ?_
    refine Gets.via (fun _ k => (XS.aload A231 hx rfl (D at_88) rfl rfl (XS.aload A231 hx rfl (D at_90) rfl rfl (XS.iconst A231 hx rfl (D at_92) k)))) ?_
    have f232 := f212.keep K228 (ninS (neA (by omega)) nin0)
    refine X228.ldR f232 rfl (i := 1) (by decide) (by decide) (by decide) rfl rfl rfl (D at_93) ?_
    show Gets p e below _ (T228.setTop (mkF m 94 #[vI p0, .val (.long p1), .second, .val (.long p2), .second, .val (.long p3), .second, .val (.long p4), .second, .val (.long p5), .second, vI ((p0 &&& (2147483647 : Int32)) % (6 : Int32)), vR a2, vR a33, .unset, .unset, .unset] [(.ref a10), (.ref a33)]))
    have f233 := f213.keep K7
    have f234 := f233.keep K10
    have l235 := neA (Exa.ne g10_0.1 f234 (by decide))
    have l236 := neA (Arv.nty g10_0.2.2.2.1 f14 (by decide))
    have f237 : Str Z h13 a10 b10 kb10 (subS p2) := g10_0.keep K13 (ninS (neA (by omega)) nin0) (ninS (neA (by omega)) nin0)
    have f238 : Str Z h16 a10 b10 kb10 (subS p2) := f237.keep K16 nin0 nin0
    have f239 : Str Z h19 a10 b10 kb10 (subS p2) := f238.keep K19 (ninS (neA (by omega)) nin0) (ninS (neA (by omega)) nin0)
    have f240 : Str Z h22 a10 b10 kb10 (subS p2) := f239.keep K22 nin0 nin0
    have f241 : Str Z h25 a10 b10 kb10 (subS p2) := f240.keep K25 (ninS (neA (by omega)) nin0) (ninS (neA (by omega)) nin0)
    have f242 : Str Z h28 a10 b10 kb10 (subS p2) := f241.keep K28 nin0 nin0
    have f243 : Str Z h31 a10 b10 kb10 (subS p2) := f242.keep K31 (ninS (neA (by omega)) nin0) (ninS (neA (by omega)) nin0)
    have f244 : Str Z h33 a10 b10 kb10 (subS p2) := f243.ext E33
    have l245 := neA (Exa.ne f244.1 Z33 (by decide))
    have f246 : Str Z h35 a10 b10 kb10 (subS p2) := f244.keep K35 (ninS (neA (by omega)) nin0) (ninS (neA (by omega)) nin0)
    have f247 : Str Z h228 a10 b10 kb10 (subS p2) := f246.keep K228 (ninS (neA (by omega)) nin0) (ninS (neA (by omega)) nin0)
    refine X228.callV (W := 0) (w154 hw) (w155 hw) (w157 hw) (w156 hw) (nfs rfl (w157 hw)) (by decide) (X228.payM (sf := []) (rmAdd1 hcx a33 a10 ((0 : Int32) + (1 : Int32)) d228 kd228 a4 h228 X228.old g228_0 g228_1 g228_2 g228_3 g228_4 g228_5 g228_6 g228_7 (neA (by omega)) (leA (by omega)) f247.1) sf0 (w158 hw) (w60 hw) (by decide) (by decide)) g228_0 rfl (sz hml rfl) (argsL := [(.ref a10)]) (rest := []) (lenOf pd20 rfl) rfl rfl (mroom rfl rfl) (D at_94) (by decide) (by decide) fun T248 h248 vm248 v248 X248 C248 z248 q248 => ?_
    obtain ⟨rfl, K248, g248_0, g248_1, g248_2, g248_3, g248_4, g248_5⟩ := q248
    have l249 := ltA g248_0.lt
    have l250 := ltA g248_4.lt
    have A251 := X248.at
    refine Gets.via (fun _ k => (XS.pop A251 hx rfl (D at_97) rfl rfl (XS.iload A251 hx rfl (D at_98) rfl (XS.iconst A251 hx rfl (D at_100) (XS.icmpNo A251 hx rfl (D at_101) rfl (Jvm.Free.XT.ii_le_f (by rw [hs]; decide)) k))))) ?_
    refine Gets.via (fun _ k => (XS.aload A251 hx rfl (D at_104) rfl rfl (XS.aload A251 hx rfl (D at_106) rfl rfl (XS.iconst A251 hx rfl (D at_108) k)))) ?_
    have f252 := f232.keep K248 (ninS (neA (by omega)) (ninS (neA (by omega)) nin0))
    refine X248.ldR f252 rfl (i := 2) (by decide) (by decide) (by decide) rfl rfl rfl (D at_109) ?_
    show Gets p e below _ (T248.setTop (mkF m 110 #[vI p0, .val (.long p1), .second, .val (.long p2), .second, .val (.long p3), .second, .val (.long p4), .second, .val (.long p5), .second, vI ((p0 &&& (2147483647 : Int32)) % (6 : Int32)), vR a2, vR a33, .unset, .unset, .unset] [(.ref a16), (.ref a33)]))
    have f253 := f234.keep K13
    have f254 := f253.keep K16
    have l255 := neA (Exa.ne g16_0.1 f254 (by decide))
    have l256 := neA (Arv.nty g16_0.2.2.2.1 f20 (by decide))
    have f257 : Str Z h19 a16 b16 kb16 (subS p3) := g16_0.keep K19 (ninS (neA (by omega)) nin0) (ninS (neA (by omega)) nin0)
    have f258 : Str Z h22 a16 b16 kb16 (subS p3) := f257.keep K22 nin0 nin0
    have f259 : Str Z h25 a16 b16 kb16 (subS p3) := f258.keep K25 (ninS (neA (by omega)) nin0) (ninS (neA (by omega)) nin0)
    have f260 : Str Z h28 a16 b16 kb16 (subS p3) := f259.keep K28 nin0 nin0
    have f261 : Str Z h31 a16 b16 kb16 (subS p3) := f260.keep K31 (ninS (neA (by omega)) nin0) (ninS (neA (by omega)) nin0)
    have f262 : Str Z h33 a16 b16 kb16 (subS p3) := f261.ext E33
    have l263 := neA (Exa.ne f262.1 Z33 (by decide))
    have f264 : Str Z h35 a16 b16 kb16 (subS p3) := f262.keep K35 (ninS (neA (by omega)) nin0) (ninS (neA (by omega)) nin0)
    have f265 : Str Z h228 a16 b16 kb16 (subS p3) := f264.keep K228 (ninS (neA (by omega)) nin0) (ninS (neA (by omega)) nin0)
    have l266 := neA (Exa.ne f265.1 g228_5 (by decide))
    have l267 := neA (Arv.nty f265.2.2.2.1 g228_4 (by decide))
    have f268 : Str Z h248 a16 b16 kb16 (subS p3) := f265.keep K248 (ninS (neA (by omega)) (ninS (neA (by omega)) nin0)) (ninS (neA (by omega)) (ninS (neA (by omega)) nin0))
    refine X248.callV (W := 0) (w154 hw) (w155 hw) (w157 hw) (w156 hw) (nfs rfl (w157 hw)) (by decide) (X248.payM (sf := []) (rmAdd2 hcx a33 a16 (((0 : Int32) + (1 : Int32)) + (1 : Int32)) d228 kd228 a4 a10 h248 X248.old g248_0 g248_1 g248_2 g248_3 g248_4 g248_5 g228_6 g228_7 (neA (by omega)) (leA (by omega)) f268.1) sf0 (w158 hw) (w60 hw) (by decide) (by decide)) g248_0 rfl (sz hml rfl) (argsL := [(.ref a16)]) (rest := []) (lenOf pd20 rfl) rfl rfl (mroom rfl rfl) (D at_110) (by decide) (by decide) fun T269 h269 vm269 v269 X269 C269 z269 q269 => ?_
    obtain ⟨rfl, K269, g269_0, g269_1, g269_2, g269_3, g269_4, g269_5⟩ := q269
    have l270 := ltA g269_0.lt
    have l271 := ltA g269_4.lt
    have A272 := X269.at
    refine Gets.via (fun _ k => (XS.pop A272 hx rfl (D at_113) rfl rfl (XS.iload A272 hx rfl (D at_114) rfl (XS.iconst A272 hx rfl (D at_116) (XS.icmpYes A272 hx rfl (pc0 := 117) (pc' := 130) rfl (D at_117) rfl (Jvm.Free.XT.ii_le_t (by rw [hs]; decide)) (by decide) (by decide) k))))) ?_
    refine Gets.via (fun _ k => (XS.iload A272 hx rfl (D at_130) rfl (XS.iconst A272 hx rfl (D at_132) (XS.icmpYes A272 hx rfl (pc0 := 133) (pc' := 146) rfl (D at_133) rfl (Jvm.Free.XT.ii_le_t (by rw [hs]; decide)) (by decide) (by decide) k)))) ?_
    refine X269.new (w82 hw) (w83 hw) (w84 hw) rfl (D at_146) (by decide) (by decide) fun T273 h273 a273 X273 C273 E273 g273 Z273 S273 D273 => ?_
    have z273 := E273.1
    have l273 := ltA Z273.lt
    show Gets p e below _ (T273.setTop (mkF m 149 #[vI p0, .val (.long p1), .second, .val (.long p2), .second, .val (.long p3), .second, .val (.long p4), .second, .val (.long p5), .second, vI ((p0 &&& (2147483647 : Int32)) % (6 : Int32)), vR a2, vR a33, .unset, .unset, .unset] [(.ref a273)]))
    have A274 := X273.at
    refine Gets.via (fun _ k => (XS.dup A274 hx rfl (D at_149) rfl rfl k)) ?_
    refine X273.ldcO (w85 hw) (wSt hw) rfl (D at_150) (n := 1) (by decide) (by decide) (by decide) (by decide) fun T275 h275 vm275 a275 X275 C275 E275 => ?_
    have z275 := E275.1
    have A276 := X275.at
    refine Gets.via (fun _ k => (XS.aload A276 hx rfl (D at_152) rfl rfl k)) ?_
    refine X275.ldcO (w85 hw) (wSt hw) rfl (D at_154) (n := 1) (by decide) (by decide) (by decide) (by decide) fun T277 h277 vm277 a277 X277 C277 E277 => ?_
    have z277 := E277.1
    have f278 := g269_2.ext E273
    have f279 := f278.ext E275
    have f280 := f279.ext E277
    have f281 := Z273.ext E275
    have f282 := f281.ext E277
    have f283 := (D273 (Or.inr (w127 hw)) (ty := (.object "java/lang/String")) (by decide) : Fld Z h273 a273 "com/example/packwright/packwright/model/Node" "subscriptLine" "Ljava/lang/String;" .null).ext E275
    have f284 := f283.ext E277
    have f285 := (D273 (Or.inr (w129 hw)) (ty := (.object "java/util/List")) (by decide) : Fld Z h273 a273 "com/example/packwright/packwright/model/Node" "subscripts" "Ljava/util/List;" .null).ext E275
    have f286 := f285.ext E277
    have f287 := (D273 (Or.inr (w131 hw)) (ty := (.object "java/lang/String")) (by decide) : Fld Z h273 a273 "com/example/packwright/packwright/model/Node" "value" "Ljava/lang/String;" .null).ext E275
    have f288 := f287.ext E277
    have f289 := g269_0.ext E273
    have f290 := f289.ext E275
    have f291 := f290.ext E277
    have f292 := g269_3.ext E273
    have f293 := f292.ext E275
    have f294 := f293.ext E277
    have f295 := g269_4.ext E273
    have f296 := f295.ext E275
    have f297 := f296.ext E277
    have f298 := g269_5.ext E273
    have f299 := f298.ext E275
    have f300 := f299.ext E277
    have f301 : Str Z h228 a4 b4 kb4 (subS p1) := f227.keep K228 (ninS (neA (by omega)) nin0) (ninS (neA (by omega)) nin0)
    have l302 := neA (Exa.ne f301.1 g228_5 (by decide))
    have l303 := neA (Arv.nty f301.2.2.2.1 g228_4 (by decide))
    have f304 : Str Z h248 a4 b4 kb4 (subS p1) := f301.keep K248 (ninS (neA (by omega)) (ninS (neA (by omega)) nin0)) (ninS (neA (by omega)) (ninS (neA (by omega)) nin0))
    have f305 : Str Z h269 a4 b4 kb4 (subS p1) := f304.keep K269 (ninS (neA (by omega)) (ninS (neA (by omega)) nin0)) (ninS (neA (by omega)) (ninS (neA (by omega)) nin0))
    have f306 : Str Z h273 a4 b4 kb4 (subS p1) := f305.ext E273
    have f307 : Str Z h275 a4 b4 kb4 (subS p1) := f306.ext E275
    have f308 : Str Z h277 a4 b4 kb4 (subS p1) := f307.ext E277
    have l309 := neA (Exa.ne f247.1 g228_5 (by decide))
    have l310 := neA (Arv.nty f247.2.2.2.1 g228_4 (by decide))
    have f311 : Str Z h248 a10 b10 kb10 (subS p2) := f247.keep K248 (ninS (neA (by omega)) (ninS (neA (by omega)) nin0)) (ninS (neA (by omega)) (ninS (neA (by omega)) nin0))
    have f312 : Str Z h269 a10 b10 kb10 (subS p2) := f311.keep K269 (ninS (neA (by omega)) (ninS (neA (by omega)) nin0)) (ninS (neA (by omega)) (ninS (neA (by omega)) nin0))
    have f313 : Str Z h273 a10 b10 kb10 (subS p2) := f312.ext E273
    have f314 : Str Z h275 a10 b10 kb10 (subS p2) := f313.ext E275
    have f315 : Str Z h277 a10 b10 kb10 (subS p2) := f314.ext E277
    have f316 : Str Z h269 a16 b16 kb16 (subS p3) := f268.keep K269 (ninS (neA (by omega)) (ninS (neA (by omega)) nin0)) (ninS (neA (by omega)) (ninS (neA (by omega)) nin0))
    have f317 : Str Z h273 a16 b16 kb16 (subS p3) := f316.ext E273
    have f318 : Str Z h275 a16 b16 kb16 (subS p3) := f317.ext E275
    have f319 : Str Z h277 a16 b16 kb16 (subS p3) := f318.ext E277
    refine X277.callI (y := (⟨"com/example/packwright/packwright/model/Node", "<init>", "(Ljava/lang/String;Ljava/util/List;Ljava/lang/String;)V"⟩ : MethodName)) (W := 1) rfl (w88 hw) (w89 hw) (w90 hw) (by decide) (X277.payM (sf := []) (rmNode3 hcx a273 a275 a33 a277 d228 kd228 a4 a10 a16 h277 X277.old f282 f284 f286 f288 (leA (by omega)) f291 f280 f294 f297 f300 f308.1 f315.1 f319.1) sf0 (w90 hw) (w84 hw) (by decide) (by decide)) rfl (sz hml rfl) (a := a273) (argsL := [(.ref a275), (.ref a33), (.ref a277)]) (rest := [(.ref a273)]) (lenOf pd13 rfl) rfl rfl (mroom rfl rfl) (D at_156) (by decide) (by decide) fun T320 h320 vm320 v320 X320 C320 z320 q320 => ?_
    obtain ⟨L320, t320, kn320, rfl, K320, g320_0, g320_1, g320_2, g320_3, g320_4⟩ := q320
    have l321 := ltA g320_0.lt
    have l322 := ltA g320_2.lt
    have l323 := ltA g320_4.lt
    have A324 := X320.at
    refine Gets.via (fun _ k => (XS.astore A324 hx rfl (D at_159) rfl rfl (l' := #[vI p0, .val (.long p1), .second, .val (.long p2), .second, .val (.long p3), .second, .val (.long p4), .second, .val (.long p5), .second, vI ((p0 &&& (2147483647 : Int32)) % (6 : Int32)), vR a2, vR a33, vR a273, .unset, .unset]) rfl (XS.aload A324 hx rfl (D at_161) rfl rfl k))) ?_
    show Gets p e below _ (T320.setTop (mkF m 163 #[vI p0, .val (.long p1), .second, .val (.long p2), .second, .val (.long p3), .second, .val (.long p4), .second, .val (.long p5), .second, vI ((p0 &&& (2147483647 : Int32)) % (6 : Int32)), vR a2, vR a33, vR a273, .unset, .unset] [(.ref a273)]))
    refine X320.callS (W := 0) (w132 hw) (w133 hw) (w134 hw) (w135 hw) (by decide) (X320.payM (sf := []) (rmRol3 hcx a273 L320 a4 a10 a16 t320 kn320 h320 X320.old g320_0 g320_1 g320_2 g320_3 g320_4) sf0 (w135 hw) (w134 hw) (by decide) (by decide)) rfl (sz hml rfl) (argsL := [(.ref a273)]) (rest := []) (lenOf pd15 rfl) rfl rfl (mroom rfl rfl) (D at_163) (by decide) (by decide) fun T325 h325 vm325 v325 X325 C325 z325 q325 => ?_
    obtain ⟨rfl, K325⟩ := q325
    rw [K325] at X325 C325
    have A326 := X325.at
    refine Gets.via (fun _ k => (XS.astore A326 hx rfl (D at_166) rfl rfl (l' := #[vI p0, .val (.long p1), .second, .val (.long p2), .second, .val (.long p3), .second, .val (.long p4), .second, .val (.long p5), .second, vI ((p0 &&& (2147483647 : Int32)) % (6 : Int32)), vR a2, vR a33, vR a273, .val .null, .unset]) rfl (XS.iload A326 hx rfl (D at_168) rfl (XS.iconst A326 hx rfl (D at_170) (XS.icmpYes A326 hx rfl (pc0 := 171) (pc' := 193) rfl (D at_171) rfl (Jvm.Free.XT.ii_ne_t (by rw [hs]; decide)) (by decide) (by decide) k))))) ?_
    refine Gets.via (fun _ k => (XS.iconst A326 hx rfl (D at_193) (XS.istore A326 hx rfl (D at_194) rfl (l' := #[vI p0, .val (.long p1), .second, .val (.long p2), .second, .val (.long p3), .second, .val (.long p4), .second, .val (.long p5), .second, vI ((p0 &&& (2147483647 : Int32)) % (6 : Int32)), vR a2, vR a33, vR a273, .val .null, vI (0 : Int32)]) rfl (XS.iload A326 hx rfl (D at_196) rfl (XS.ifYes A326 hx rfl (pc0 := 198) (pc' := 224) rfl (D at_198) rfl (Jvm.Free.XT.i0_eq_t (by decide)) (by decide) (by decide) k))))) ?_
    refine Gets.via (fun _ k => (XS.aload A326 hx rfl (D at_224) rfl rfl (XS.ifnonnullNo A326 hx rfl (D at_226) rfl k))) ?_
    show Gets p e below _ (T325.setTop (mkF m 229 #[vI p0, .val (.long p1), .second, .val (.long p2), .second, .val (.long p3), .second, .val (.long p4), .second, .val (.long p5), .second, vI ((p0 &&& (2147483647 : Int32)) % (6 : Int32)), vR a2, vR a33, vR a273, .val .null, vI (0 : Int32)] []))
    refine Gets.via (fun _ k => (XS.iconst A326 hx rfl (D at_229) (XS.goto A326 hx rfl (pc0 := 230) (pc' := 234) rfl (D at_230) (by decide) (by decide) k))) ?_
    exact X325.retI hret (by decide) (by simp) (D at_234) (by decide) (by decide) (fun vmE CE => ⟨rfl, (((((((((((((((((((((Keep.refl h0 []).ext E2).trans K4 all0).trans K7 (allS (Or.inr (leA (by omega))) all0)).trans K10 all0).trans K13 (allS (Or.inr (leA (by omega))) all0)).trans K16 all0).trans K19 (allS (Or.inr (leA (by omega))) all0)).trans K22 all0).trans K25 (allS (Or.inr (leA (by omega))) all0)).trans K28 all0).trans K31 (allS (Or.inr (leA (by omega))) all0)).ext E33).trans K35 (allS (Or.inr (leA (by omega))) all0)).trans K228 (allS (Or.inr (leA (by omega))) all0)).trans K248 (allS (Or.inr (leA (by omega))) (allS (Or.inr (leA (by omega))) all0))).trans K269 (allS (Or.inr (leA (by omega))) (allS (Or.inr (leA (by omega))) all0))).ext E273).ext E275).ext E277).trans K320 (allS (Or.inr (leA (by omega))) all0))⟩)
  · refine Gets.via (fun _ k => (XS.iload A37 hx rfl (D at_67) rfl (XS.ifNo A37 hx rfl (D at_69) rfl (Jvm.Free.XT.i0_le_f (by rw [hs]; decide)) k))) ?_
    refine Gets.via (fun _ k => (XS.aload A37 hx rfl (D at_72) rfl rfl (XS.aload A37 hx rfl (D at_74) rfl rfl (XS.iconst A37 hx rfl (D at_76) k)))) ?_
    have f327 := V31_.ext E33
    have f328 := f327.keep K35 (ninS (neA (by omega)) nin0)
    refine X35.ldR f328 rfl (i := 0) (by decide) (by decide) (by decide) rfl rfl rfl (D at_77) ?_
    have f329 := Z2.keep K4
    have l330 := neA (Exa.ne g4_0.1 f329 (by decide))
    have l331 := neA (Arv.nty g4_0.2.2.2.1 f8 (by decide))
    have f332 : Str Z h7 a4 b4 kb4 (subS p1) := g4_0.keep K7 (ninS (neA (by omega)) nin0) (ninS (neA (by omega)) nin0)
    have f333 : Str Z h10 a4 b4 kb4 (subS p1) := f332.keep K10 nin0 nin0
    have f334 : Str Z h13 a4 b4 kb4 (subS p1) := f333.keep K13 (ninS (neA (by omega)) nin0) (ninS (neA (by omega)) nin0)
    have f335 : Str Z h16 a4 b4 kb4 (subS p1) := f334.keep K16 nin0 nin0
    have f336 : Str Z h19 a4 b4 kb4 (subS p1) := f335.keep K19 (ninS (neA (by omega)) nin0) (ninS (neA (by omega)) nin0)
    have f337 : Str Z h22 a4 b4 kb4 (subS p1) := f336.keep K22 nin0 nin0
    have f338 : Str Z h25 a4 b4 kb4 (subS p1) := f337.keep K25 (ninS (neA (by omega)) nin0) (ninS (neA (by omega)) nin0)
    have f339 : Str Z h28 a4 b4 kb4 (subS p1) := f338.keep K28 nin0 nin0
    have f340 : Str Z h31 a4 b4 kb4 (subS p1) := f339.keep K31 (ninS (neA (by omega)) nin0) (ninS (neA (by omega)) nin0)
    have f341 : Str Z h33 a4 b4 kb4 (subS p1) := f340.ext E33
    have l342 := neA (Exa.ne f341.1 Z33 (by decide))
    have f343 : Str Z h35 a4 b4 kb4 (subS p1) := f341.keep K35 (ninS (neA (by omega)) nin0) (ninS (neA (by omega)) nin0)
    refine X35.callV (W := 0) (w154 hw) (w155 hw) (w157 hw) (w156 hw) (nfs rfl (w157 hw)) (by decide) (X35.payM (sf := []) (rmAdd0 hcx a33 a4 (0 : Int32) h35 X35.old g35_0 g35_1 g35_2 g35_3 (leA (by omega)) f343.1) sf0 (w158 hw) (w60 hw) (by decide) (by decide)) g35_0 rfl (sz hml rfl) (argsL := [(.ref a4)]) (rest := []) (lenOf pd20 rfl) rfl rfl (mroom rfl rfl) (D at_78) (by decide) (by decide) fun T344 h344 vm344 v344 X344 C344 z344 q344 => ?_
    obtain ⟨d344, kd344, rfl, K344, g344_0, g344_1, g344_2, g344_3, g344_4, g344_5, g344_6, g344_7, g344_8⟩ := q344
    have l345 := ltA g344_0.lt
    have l346 := ltA g344_4.lt
    show Gets p e below _ (T344.setTop (mkF m 81 #[vI p0, .val (.long p1), .second, .val (.long p2), .second, .val (.long p3), .second, .val (.long p4), .second, .val (.long p5), .second, vI ((p0 &&& (2147483647 : Int32)) % (6 : Int32)), vR a2, vR a33, .unset, .unset, .unset] [(.int (1 : Int32))]))
    have A347 := X344.at
    refine Gets.via (fun _ k => (XS.pop A347 hx rfl (D at_81) rfl rfl (XS.iload A347 hx rfl (D at_82) rfl (XS.iconst A347 hx rfl (D at_84) (XS.icmpNo A347 hx rfl (D at_85) rfl (Jvm.Free.XT.ii_le_f (by rw [hs]; decide)) k))))) ?_
    refine Gets.via (fun _ k => (XS.aload A347 hx rfl (D at_88) rfl rfl (XS.aload A347 hx rfl (D at_90) rfl rfl (XS.iconst A347 hx rfl (D at_92) k)))) ?_
    have f348 := f328.keep K344 (ninS (neA (by omega)) nin0)
    refine X344.ldR f348 rfl (i := 1) (by decide) (by decide) (by decide) rfl rfl rfl (D at_93) ?_
    have f349 := f329.keep K7
    have f350 := f349.keep K10
    have l351 := neA (Exa.ne g10_0.1 f350 (by decide))
    have l352 := neA (Arv.nty g10_0.2.2.2.1 f14 (by decide))
    have f353 : Str Z h13 a10 b10 kb10 (subS p2) := g10_0.keep K13 (ninS (neA (by omega)) nin0) (ninS (neA (by omega)) nin0)
    have f354 : Str Z h16 a10 b10 kb10 (subS p2) := f353.keep K16 nin0 nin0
    have f355 : Str Z h19 a10 b10 kb10 (subS p2) := f354.keep K19 (ninS (neA (by omega)) nin0) (ninS (neA (by omega)) nin0)
    have f356 : Str Z h22 a10 b10 kb10 (subS p2) := f355.keep K22 nin0 nin0
    have f357 : Str Z h25 a10 b10 kb10 (subS p2) := f356.keep K25 (ninS (neA (by omega)) nin0) (ninS (neA (by omega)) nin0)
    have f358 : Str Z h28 a10 b10 kb10 (subS p2) := f357.keep K28 nin0 nin0
    have f359 : Str Z h31 a10 b10 kb10 (subS p2) := f358.keep K31 (ninS (neA (by omega)) nin0) (ninS (neA (by omega)) nin0)
    have f360 : Str Z h33 a10 b10 kb10 (subS p2) := f359.ext E33
    have l361 := neA (Exa.ne f360.1 Z33 (by decide))
    have f362 : Str Z h35 a10 b10 kb10 (subS p2) := f360.keep K35 (ninS (neA (by omega)) nin0) (ninS (neA (by omega)) nin0)
    have f363 : Str Z h344 a10 b10 kb10 (subS p2) := f362.keep K344 (ninS (neA (by omega)) nin0) (ninS (neA (by omega)) nin0)
    refine X344.callV (W := 0) (w154 hw) (w155 hw) (w157 hw) (w156 hw) (nfs rfl (w157 hw)) (by decide) (X344.payM (sf := []) (rmAdd1 hcx a33 a10 ((0 : Int32) + (1 : Int32)) d344 kd344 a4 h344 X344.old g344_0 g344_1 g344_2 g344_3 g344_4 g344_5 g344_6 g344_7 (neA (by omega)) (leA (by omega)) f363.1) sf0 (w158 hw) (w60 hw) (by decide) (by decide)) g344_0 rfl (sz hml rfl) (argsL := [(.ref a10)]) (rest := []) (lenOf pd20 rfl) rfl rfl (mroom rfl rfl) (D at_94) (by decide) (by decide) fun T364 h364 vm364 v364 X364 C364 z364 q364 => ?_
    obtain ⟨rfl, K364, g364_0, g364_1, g364_2, g364_3, g364_4, g364_5⟩ := q364
    have l365 := ltA g364_0.lt
    have l366 := ltA g364_4.lt
    show Gets p e below _ (T364.setTop (mkF m 97 #[vI p0, .val (.long p1), .second, .val (.long p2), .second, .val (.long p3), .second, .val (.long p4), .second, .val (.long p5), .second, vI ((p0 &&& (2147483647 : Int32)) % (6 : Int32)), vR a2, vR a33, .unset, .unset, .unset] [(.int (1 : Int32))]))
    have A367 := X364.at
    refine Gets.via (fun _ k => (XS.pop A367 hx rfl (D at_97) rfl rfl (XS.iload A367 hx rfl (D at_98) rfl (XS.iconst A367 hx rfl (D at_100) (XS.icmpNo A367 hx rfl (D at_101) rfl (Jvm.Free.XT.ii_le_f (by rw [hs]; decide)) k))))) ?_
    refine Gets.via (fun _ k => (XS.aload A367 hx rfl (D at_104) rfl rfl (XS.aload A367 hx rfl (D at_106) rfl rfl (XS.iconst A367 hx rfl (D at_108) k)))) ?_
    have f368 := f348.keep K364 (ninS (neA (by omega)) (ninS (neA (by omega)) nin0))
    refine X364.ldR f368 rfl (i := 2) (by decide) (by decide) (by decide) rfl rfl rfl (D at_109) ?_
    have f369 := f350.keep K13
    have f370 := f369.keep K16
    have l371 := neA (Exa.ne g16_0.1 f370 (by decide))
    have l372 := neA (Arv.nty g16_0.2.2.2.1 f20 (by decide))
    have f373 : Str Z h19 a16 b16 kb16 (subS p3) := g16_0.keep K19 (ninS (neA (by omega)) nin0) (ninS (neA (by omega)) nin0)
    have f374 : Str Z h22 a16 b16 kb16 (subS p3) := f373.keep K22 nin0 nin0
    have f375 : Str Z h25 a16 b16 kb16 (subS p3) := f374.keep K25 (ninS (neA (by omega)) nin0) (ninS (neA (by omega)) nin0)
    have f376 : Str Z h28 a16 b16 kb16 (subS p3) := f375.keep K28 nin0 nin0
    have f377 : Str Z h31 a16 b16 kb16 (subS p3) := f376.keep K31 (ninS (neA (by omega)) nin0) (ninS (neA (by omega)) nin0)
    have f378 : Str Z h33 a16 b16 kb16 (subS p3) := f377.ext E33
    have l379 := neA (Exa.ne f378.1 Z33 (by decide))
    have f380 : Str Z h35 a16 b16 kb16 (subS p3) := f378.keep K35 (ninS (neA (by omega)) nin0) (ninS (neA (by omega)) nin0)
    have f381 : Str Z h344 a16 b16 kb16 (subS p3) := f380.keep K344 (ninS (neA (by omega)) nin0) (ninS (neA (by omega)) nin0)
    have l382 := neA (Exa.ne f381.1 g344_5 (by decide))
    have l383 := neA (Arv.nty f381.2.2.2.1 g344_4 (by decide))
    have f384 : Str Z h364 a16 b16 kb16 (subS p3) := f381.keep K364 (ninS (neA (by omega)) (ninS (neA (by omega)) nin0)) (ninS (neA (by omega)) (ninS (neA (by omega)) nin0))
    refine X364.callV (W := 0) (w154 hw) (w155 hw) (w157 hw) (w156 hw) (nfs rfl (w157 hw)) (by decide) (X364.payM (sf := []) (rmAdd2 hcx a33 a16 (((0 : Int32) + (1 : Int32)) + (1 : Int32)) d344 kd344 a4 a10 h364 X364.old g364_0 g364_1 g364_2 g364_3 g364_4 g364_5 g344_6 g344_7 (neA (by omega)) (leA (by omega)) f384.1) sf0 (w158 hw) (w60 hw) (by decide) (by decide)) g364_0 rfl (sz hml rfl) (argsL := [(.ref a16)]) (rest := []) (lenOf pd20 rfl) rfl rfl (mroom rfl rfl) (D at_110) (by decide) (by decide) fun T385 h385 vm385 v385 X385 C385 z385 q385 => ?_
    obtain ⟨rfl, K385, g385_0, g385_1, g385_2, g385_3, g385_4, g385_5⟩ := q385
    have l386 := ltA g385_0.lt
    have l387 := ltA g385_4.lt
    show Gets p e below _ (T385.setTop (mkF m 113 #[vI p0, .val (.long p1), .second, .val (.long p2), .second, .val (.long p3), .second, .val (.long p4), .second, .val (.long p5), .second, vI ((p0 &&& (2147483647 : Int32)) % (6 : Int32)), vR a2, vR a33, .unset, .unset, .unset] [(.int (1 : Int32))]))
    have A388 := X385.at
    refine Gets.via (fun _ k => (XS.pop A388 hx rfl (D at_113) rfl rfl (XS.iload A388 hx rfl (D at_114) rfl (XS.iconst A388 hx rfl (D at_116) (XS.icmpNo A388 hx rfl (D at_117) rfl (Jvm.Free.XT.ii_le_f (by rw [hs]; decide)) k))))) ?_
    refine Gets.via (fun _ k => (XS.aload A388 hx rfl (D at_120) rfl rfl (XS.aload A388 hx rfl (D at_122) rfl rfl (XS.iconst A388 hx rfl (D at_124) k)))) ?_
    have f389 := f368.keep K385 (ninS (neA (by omega)) (ninS (neA (by omega)) nin0))
    refine X385.ldR f389 rfl (i := 3) (by decide) (by decide) (by decide) rfl rfl rfl (D at_125) ?_
    have f390 := f370.keep K19
    have f391 := f390.keep K22
    have l392 := neA (Exa.ne g22_0.1 f391 (by decide))
    have l393 := neA (Arv.nty g22_0.2.2.2.1 f26 (by decide))
    have f394 : Str Z h25 a22 b22 kb22 (subS p4) := g22_0.keep K25 (ninS (neA (by omega)) nin0) (ninS (neA (by omega)) nin0)
    have f395 : Str Z h28 a22 b22 kb22 (subS p4) := f394.keep K28 nin0 nin0
    have f396 : Str Z h31 a22 b22 kb22 (subS p4) := f395.keep K31 (ninS (neA (by omega)) nin0) (ninS (neA (by omega)) nin0)
    have f397 : Str Z h33 a22 b22 kb22 (subS p4) := f396.ext E33
    have l398 := neA (Exa.ne f397.1 Z33 (by decide))
    have f399 : Str Z h35 a22 b22 kb22 (subS p4) := f397.keep K35 (ninS (neA (by omega)) nin0) (ninS (neA (by omega)) nin0)
    have f400 : Str Z h344 a22 b22 kb22 (subS p4) := f399.keep K344 (ninS (neA (by omega)) nin0) (ninS (neA (by omega)) nin0)
    have l401 := neA (Exa.ne f400.1 g344_5 (by decide))
    have l402 := neA (Arv.nty f400.2.2.2.1 g344_4 (by decide))
    have f403 : Str Z h364 a22 b22 kb22 (subS p4) := f400.keep K364 (ninS (neA (by omega)) (ninS (neA (by omega)) nin0)) (ninS (neA (by omega)) (ninS (neA (by omega)) nin0))
    have f404 : Str Z h385 a22 b22 kb22 (subS p4) := f403.keep K385 (ninS (neA (by omega)) (ninS (neA (by omega)) nin0)) (ninS (neA (by omega)) (ninS (neA (by omega)) nin0))
    refine X385.callV (W := 0) (w154 hw) (w155 hw) (w157 hw) (w156 hw) (nfs rfl (w157 hw)) (by decide) (X385.payM (sf := []) (rmAdd3 hcx a33 a22 ((((0 : Int32) + (1 : Int32)) + (1 : Int32)) + (1 : Int32)) d344 kd344 a4 a10 a16 h385 X385.old g385_0 g385_1 g385_2 g385_3 g385_4 g385_5 g344_6 g344_7 (neA (by omega)) (leA (by omega)) f404.1) sf0 (w158 hw) (w60 hw) (by decide) (by decide)) g385_0 rfl (sz hml rfl) (argsL := [(.ref a22)]) (rest := []) (lenOf pd20 rfl) rfl rfl (mroom rfl rfl) (D at_126) (by decide) (by decide) fun T405 h405 vm405 v405 X405 C405 z405 q405 => ?_
    obtain ⟨rfl, K405, g405_0, g405_1, g405_2, g405_3, g405_4, g405_5⟩ := q405
    have l406 := ltA g405_0.lt
    have l407 := ltA g405_4.lt
    show Gets p e below _ (T405.setTop (mkF m 129 #[vI p0, .val (.long p1), .second, .val (.long p2), .second, .val (.long p3), .second, .val (.long p4), .second, .val (.long p5), .second, vI ((p0 &&& (2147483647 : Int32)) % (6 : Int32)), vR a2, vR a33, .unset, .unset, .unset] [(.int (1 : Int32))]))
    have A408 := X405.at
    refine Gets.via (fun _ k => (XS.pop A408 hx rfl (D at_129) rfl rfl (XS.iload A408 hx rfl (D at_130) rfl (XS.iconst A408 hx rfl (D at_132) (XS.icmpYes A408 hx rfl (pc0 := 133) (pc' := 146) rfl (D at_133) rfl (Jvm.Free.XT.ii_le_t (by rw [hs]; decide)) (by decide) (by decide) k))))) ?_
    refine X405.new (w82 hw) (w83 hw) (w84 hw) rfl (D at_146) (by decide) (by decide) fun T409 h409 a409 X409 C409 E409 g409 Z409 S409 D409 => ?_
    have z409 := E409.1
    have l409 := ltA Z409.lt
    have A410 := X409.at
    refine Gets.via (fun _ k => (XS.dup A410 hx rfl (D at_149) rfl rfl k)) ?_
    refine X409.ldcO (w85 hw) (wSt hw) rfl (D at_150) (n := 1) (by decide) (by decide) (by decide) (by decide) fun T411 h411 vm411 a411 X411 C411 E411 => ?_
    have z411 := E411.1
    have A412 := X411.at
    refine Gets.via (fun _ k => (XS.aload A412 hx rfl (D at_152) rfl rfl k)) ?_
    show Gets p e below _ (T411.setTop (mkF m 154 #[vI p0, .val (.long p1), .second, .val (.long p2), .second, .val (.long p3), .second, .val (.long p4), .second, .val (.long p5), .second, vI ((p0 &&& (2147483647 : Int32)) % (6 : Int32)), vR a2, vR a33, .unset, .unset, .unset] [(.ref a33), (.ref a411), (.ref a409), (.ref a409)]))
    refine X411.ldcO (w85 hw) (wSt hw) rfl (D at_154) (n := 1) (by decide) (by decide) (by decide) (by decide) fun T413 h413 vm413 a413 X413 C413 E413 => ?_
    have z413 := E413.1
    have f414 := g405_2.ext E409
    have f415 := f414.ext E411
    have f416 := f415.ext E413
    have f417 := Z409.ext E411
    have f418 := f417.ext E413
    have f419 := (D409 (Or.inr (w127 hw)) (ty := (.object "java/lang/String")) (by decide) : Fld Z h409 a409 "com/example/packwright/packwright/model/Node" "subscriptLine" "Ljava/lang/String;" .null).ext E411
    have f420 := f419.ext E413
    have f421 := (D409 (Or.inr (w129 hw)) (ty := (.object "java/util/List")) (by decide) : Fld Z h409 a409 "com/example/packwright/packwright/model/Node" "subscripts" "Ljava/util/List;" .null).ext E411
    have f422 := f421.ext E413
    have f423 := (D409 (Or.inr (w131 hw)) (ty := (.object "java/lang/String")) (by decide) : Fld Z h409 a409 "com/example/packwright/packwright/model/Node" "value" "Ljava/lang/String;" .null).ext E411
    have f424 := f423.ext E413
    have f425 := g405_0.ext E409
    have f426 := f425.ext E411
    have f427 := f426.ext E413
    have f428 := g405_3.ext E409
    have f429 := f428.ext E411
    have f430 := f429.ext E413
    have f431 := g405_4.ext E409
    have f432 := f431.ext E411
    have f433 := f432.ext E413
    have f434 := g405_5.ext E409
    have f435 := f434.ext E411
    have f436 := f435.ext E413
    have f437 : Str Z h344 a4 b4 kb4 (subS p1) := f343.keep K344 (ninS (neA (by omega)) nin0) (ninS (neA (by omega)) nin0)
    have l438 := neA (Exa.ne f437.1 g344_5 (by decide))
    have l439 := neA (Arv.nty f437.2.2.2.1 g344_4 (by decide))
    have f440 : Str Z h364 a4 b4 kb4 (subS p1) := f437.keep K364 (ninS (neA (by omega)) (ninS (neA (by omega)) nin0)) (ninS (neA (by omega)) (ninS (neA (by omega)) nin0))
    have f441 : Str Z h385 a4 b4 kb4 (subS p1) := f440.keep K385 (ninS (neA (by omega)) (ninS (neA (by omega)) nin0)) (ninS (neA (by omega)) (ninS (neA (by omega)) nin0))
    have f442 : Str Z h405 a4 b4 kb4 (subS p1) := f441.keep K405 (ninS (neA (by omega)) (ninS (neA (by omega)) nin0)) (ninS (neA (by omega)) (ninS (neA (by omega)) nin0))
    have f443 : Str Z h409 a4 b4 kb4 (subS p1) := f442.ext E409
    have f444 : Str Z h411 a4 b4 kb4 (subS p1) := f443.ext E411
    have f445 : Str Z h413 a4 b4 kb4 (subS p1) := f444.ext E413
    have l446 := neA (Exa.ne f363.1 g344_5 (by decide))
    have l447 := neA (Arv.nty f363.2.2.2.1 g344_4 (by decide))
    have f448 : Str Z h364 a10 b10 kb10 (subS p2) := f363.keep K364 (ninS (neA (by omega)) (ninS (neA (by omega)) nin0)) (ninS (neA (by omega)) (ninS (neA (by omega)) nin0))
    have f449 : Str Z h385 a10 b10 kb10 (subS p2) := f448.keep K385 (ninS (neA (by omega)) (ninS (neA (by omega)) nin0)) (ninS (neA (by omega)) (ninS (neA (by omega)) nin0))
    have f450 : Str Z h405 a10 b10 kb10 (subS p2) := f449.keep K405 (ninS (neA (by omega)) (ninS (neA (by omega)) nin0)) (ninS (neA (by omega)) (ninS (neA (by omega)) nin0))
    have f451 : Str Z h409 a10 b10 kb10 (subS p2) := f450.ext E409
    have f452 : Str Z h411 a10 b10 kb10 (subS p2) := f451.ext E411
    have f453 : Str Z h413 a10 b10 kb10 (subS p2) := f452.ext E413
    have f454 : Str Z h385 a16 b16 kb16 (subS p3) := f384.keep K385 (ninS (neA (by omega)) (ninS (neA (by omega)) nin0)) (ninS (neA (by omega)) (ninS (neA (by omega)) nin0))
    have f455 : Str Z h405 a16 b16 kb16 (subS p3) := f454.keep K405 (ninS (neA (by omega)) (ninS (neA (by omega)) nin0)) (ninS (neA (by omega)) (ninS (neA (by omega)) nin0))
    have f456 : Str Z h409 a16 b16 kb16 (subS p3) := f455.ext E409
    have f457 : Str Z h411 a16 b16 kb16 (subS p3) := f456.ext E411
    have f458 : Str Z h413 a16 b16 kb16 (subS p3) := f457.ext E413
    have f459 : Str Z h405 a22 b22 kb22 (subS p4) := f404.keep K405 (ninS (neA (by omega)) (ninS (neA (by omega)) nin0)) (ninS (neA (by omega)) (ninS (neA (by omega)) nin0))
    have f460 : Str Z h409 a22 b22 kb22 (subS p4) := f459.ext E409
    have f461 : Str Z h411 a22 b22 kb22 (subS p4) := f460.ext E411
    have f462 : Str Z h413 a22 b22 kb22 (subS p4) := f461.ext E413
    refine X413.callI (y := (⟨"com/example/packwright/packwright/model/Node", "<init>", "(Ljava/lang/String;Ljava/util/List;Ljava/lang/String;)V"⟩ : MethodName)) (W := 1) rfl (w88 hw) (w89 hw) (w90 hw) (by decide) (X413.payM (sf := []) (rmNode4 hcx a409 a411 a33 a413 d344 kd344 a4 a10 a16 a22 h413 X413.old f418 f420 f422 f424 (leA (by omega)) f427 f416 f430 f433 f436 f445.1 f453.1 f458.1 f462.1) sf0 (w90 hw) (w84 hw) (by decide) (by decide)) rfl (sz hml rfl) (a := a409) (argsL := [(.ref a411), (.ref a33), (.ref a413)]) (rest := [(.ref a409)]) (lenOf pd13 rfl) rfl rfl (mroom rfl rfl) (D at_156) (by decide) (by decide) fun T463 h463 vm463 v463 X463 C463 z463 q463 => ?_
    obtain ⟨L463, t463, kn463, rfl, K463, g463_0, g463_1, g463_2, g463_3, g463_4⟩ := q463
    have l464 := ltA g463_0.lt
    have l465 := ltA g463_2.lt
    have l466 := ltA g463_4.lt
    have A467 := X463.at
    refine Gets.via (fun _ k => (XS.astore A467 hx rfl (D at_159) rfl rfl (l' := #[vI p0, .val (.long p1), .second, .val (.long p2), .second, .val (.long p3), .second, .val (.long p4), .second, .val (.long p5), .second, vI ((p0 &&& (2147483647 : Int32)) % (6 : Int32)), vR a2, vR a33, vR a409, .unset, .unset]) rfl (XS.aload A467 hx rfl (D at_161) rfl rfl k))) ?_
    rcases cas3 ((subS p1) = [(82 : Int32), (84 : Int32), (78 : Int32)]) ((subS p4) = [(48 : Int32)]) with ⟨hc, hd⟩ | ⟨hc, hd⟩ | hc
    · skip
      have l468 := neA (Exa.ne f445.1 f418 (by decide))
      have f469 : Str Z h463 a4 b4 kb4 (subS p1) := f445.keep K463 (ninS (neA (by omega)) nin0) (ninS (neA (by omega)) nin0)
      have l470 := neA (Exa.ne f462.1 f418 (by decide))
      have f471 : Str Z h463 a22 b22 kb22 (subS p4) := f462.keep K463 (ninS (neA (by omega)) nin0) (ninS (neA (by omega)) nin0)
      have l472 := neA (Exa.ne f453.1 f418 (by decide))
      have f473 : Str Z h463 a10 b10 kb10 (subS p2) := f453.keep K463 (ninS (neA (by omega)) nin0) (ninS (neA (by omega)) nin0)
      refine X463.callS (W := 0) (w132 hw) (w133 hw) (w134 hw) (w135 hw) (by decide) (X463.payM (sf := []) (rmRol4tt hcx a409 L463 a4 a10 a16 a22 t463 kn463 b4 kb4 (subS p1) b22 kb22 (subS p4) h463 X463.old g463_0 g463_1 g463_2 g463_3 g463_4 f469 f471 f473.1 hc hd) sf0 (w135 hw) (w134 hw) (by decide) (by decide)) rfl (sz hml rfl) (argsL := [(.ref a409)]) (rest := []) (lenOf pd15 rfl) rfl rfl (mroom rfl rfl) (D at_163) (by decide) (by decide) fun T474 h474 vm474 v474 X474 C474 z474 q474 => ?_
      obtain ⟨rfl, K474⟩ := q474
      have A475 := X474.at
      refine Gets.via (fun _ k => (XS.astore A475 hx rfl (D at_166) rfl rfl (l' := #[vI p0, .val (.long p1), .second, .val (.long p2), .second, .val (.long p3), .second, .val (.long p4), .second, .val (.long p5), .second, vI ((p0 &&& (2147483647 : Int32)) % (6 : Int32)), vR a2, vR a33, vR a409, vR a10, .unset]) rfl (XS.iload A475 hx rfl (D at_168) rfl (XS.iconst A475 hx rfl (D at_170) (XS.icmpNo A475 hx rfl (D at_171) rfl (Jvm.Free.XT.ii_ne_f (by rw [hs]; decide)) k))))) ?_
      show Gets p e below _ (T474.setTop (mkF m 174 #[vI p0, .val (.long p1), .second, .val (.long p2), .second, .val (.long p3), .second, .val (.long p4), .second, .val (.long p5), .second, vI ((p0 &&& (2147483647 : Int32)) % (6 : Int32)), vR a2, vR a33, vR a409, vR a10, .unset] []))
      refine Gets.via (fun _ k => (XS.lloadN A475 hx rfl (D at_174) rfl k)) ?_
      refine X474.callS (W := 0) (w290 hw) (w291 hw) (w5 hw) (w292 hw) (by decide) (X474.payM (sf := []) (rmIsRtn hcx p1 h474 X474.old ) sf0 (w292 hw) (w5 hw) (by decide) (by decide)) rfl (sz hml rfl) (argsL := [(.long p1)]) (rest := []) (lenOf pd28 rfl) rfl rfl (mroom rfl rfl) (D at_175) (by decide) (by decide) fun T476 h476 vm476 v476 X476 C476 z476 q476 => ?_
      obtain ⟨r476, rfl, K476, g476_0⟩ := q476
      rw [K476] at X476 C476
      have A477 := X476.at
      refine Gets.via (fun _ k => (XS.ifNo A477 hx rfl (D at_178) rfl (Jvm.Free.XT.i0_eq_f (by rw [g476_0, if_pos hc]; decide)) k)) ?_
      refine Gets.via (fun _ k => (XS.lload A477 hx rfl (D at_181) rfl k)) ?_
      refine X476.callS (W := 0) (w294 hw) (w295 hw) (w5 hw) (w296 hw) (by decide) (X476.payM (sf := []) (rmIsZero hcx p4 h474 X476.old ) sf0 (w296 hw) (w5 hw) (by decide) (by decide)) rfl (sz hml rfl) (argsL := [(.long p4)]) (rest := []) (lenOf pd28 rfl) rfl rfl (mroom rfl rfl) (D at_183) (by decide) (by decide) fun T478 h478 vm478 v478 X478 C478 z478 q478 => ?_
      obtain ⟨r478, rfl, K478, g478_0⟩ := q478
      rw [K478] at X478 C478
      have A479 := X478.at
      refine Gets.via (fun _ k => (XS.ifNo A479 hx rfl (D at_186) rfl (Jvm.Free.XT.i0_eq_f (by rw [g478_0, if_pos hd]; decide)) k)) ?_
      refine Gets.via (fun _ k => (XS.iconst A479 hx rfl (D at_189) (XS.goto A479 hx rfl (pc0 := 190) (pc' := 194) rfl (D at_190) (by decide) (by decide) k))) ?_
      show Gets p e below _ (T478.setTop (mkF m 194 #[vI p0, .val (.long p1), .second, .val (.long p2), .second, .val (.long p3), .second, .val (.long p4), .second, .val (.long p5), .second, vI ((p0 &&& (2147483647 : Int32)) % (6 : Int32)), vR a2, vR a33, vR a409, vR a10, .unset] [(.int (1 : Int32))]))
      refine Gets.via (fun _ k => (XS.istore A479 hx rfl (D at_194) rfl (l' := #[vI p0, .val (.long p1), .second, .val (.long p2), .second, .val (.long p3), .second, .val (.long p4), .second, .val (.long p5), .second, vI ((p0 &&& (2147483647 : Int32)) % (6 : Int32)), vR a2, vR a33, vR a409, vR a10, vI (1 : Int32)]) rfl (XS.iload A479 hx rfl (D at_196) rfl (XS.ifNo A479 hx rfl (D at_198) rfl (Jvm.Free.XT.i0_eq_f (by decide)) k)))) ?_
      refine Gets.via (fun _ k => (XS.aload A479 hx rfl (D at_201) rfl rfl (XS.ifnullNo A479 hx rfl (D at_203) rfl k))) ?_
      refine Gets.via (fun _ k => (XS.aload A479 hx rfl (D at_206) rfl rfl (XS.aload A479 hx rfl (D at_208) rfl rfl (XS.iconst A479 hx rfl (D at_210) k)))) ?_
      have f480 := f389.keep K405 (ninS (neA (by omega)) (ninS (neA (by omega)) nin0))
      have f481 := f480.ext E409
      have f482 := f481.ext E411
      have f483 := f482.ext E413
      have f484 := f483.keep K463 (ninS (neA (by omega)) nin0)
      have f485 := f484.keep K474 nin0
      refine X478.ldR f485 rfl (i := 1) (by decide) (by decide) (by decide) rfl rfl rfl (D at_211) ?_
      have f486 : Str Z h474 a10 b10 kb10 (subS p2) := f473.keep K474 nin0 nin0
      refine X478.callV (W := 0) (w297 hw) (w283 hw) (w285 hw) (w284 hw) (nfs rfl (w285 hw)) (by decide) (payEq X478 hw (w16 hw) f486 f486 O2 P5 (by decide) (by decide)) f486.1 rfl (sz hml rfl) (argsL := [(.ref a10)]) (rest := []) (lenOf pd20 rfl) rfl rfl (mroom rfl rfl) (D at_212) (by decide) (by decide) fun T487 h487 vm487 v487 X487 C487 z487 q487 => ?_
      obtain ⟨rfl, K487⟩ := q487
      rw [K487] at X487 C487
      show Gets p e below _ (T487.setTop (mkF m 215 #[vI p0, .val (.long p1), .second, .val (.long p2), .second, .val (.long p3), .second, .val (.long p4), .second, .val (.long p5), .second, vI ((p0 &&& (2147483647 : Int32)) % (6 : Int32)), vR a2, vR a33, vR a409, vR a10, vI (1 : Int32)] [(.int (if (subS p2) = (subS p2) then 1 else 0))]))
      have A488 := X487.at
      refine Gets.via (fun _ k => (XS.ifNo A488 hx rfl (D at_215) rfl (Jvm.Free.XT.i0_eq_f (by rw [if_pos rfl]; decide)) k)) ?_
      refine Gets.via (fun _ k => (XS.iconst A488 hx rfl (D at_218) (XS.goto A488 hx rfl (pc0 := 219) (pc' := 223) rfl (D at_219) (by decide) (by decide) k))) ?_
      exact X487.retI hret (by decide) (by simp) (D at_223) (by decide) (by decide) (fun vmE CE => ⟨rfl, (((((((((((((((((((((((Keep.refl h0 []).ext E2).trans K4 all0).trans K7 (allS (Or.inr (leA (by omega))) all0)).trans K10 all0).trans K13 (allS (Or.inr (leA (by omega))) all0)).trans K16 all0).trans K19 (allS (Or.inr (leA (by omega))) all0)).trans K22 all0).trans K25 (allS (Or.inr (leA (by omega))) all0)).trans K28 all0).trans K31 (allS (Or.inr (leA (by omega))) all0)).ext E33).trans K35 (allS (Or.inr (leA (by omega))) all0)).trans K344 (allS (Or.inr (leA (by omega))) all0)).trans K364 (allS (Or.inr (leA (by omega))) (allS (Or.inr (leA (by omega))) all0))).trans K385 (allS (Or.inr (leA (by omega))) (allS (Or.inr (leA (by omega))) all0))).trans K405 (allS (Or.inr (leA (by omega))) (allS (Or.inr (leA (by omega))) all0))).ext E409).ext E411).ext E413).trans K463 (allS (Or.inr (leA (by omega))) all0)).trans K474 all0)⟩)
    · skip
      have l489 := neA (Exa.ne f445.1 f418 (by decide))
      have f490 : Str Z h463 a4 b4 kb4 (subS p1) := f445.keep K463 (ninS (neA (by omega)) nin0) (ninS (neA (by omega)) nin0)
      have l491 := neA (Exa.ne f462.1 f418 (by decide))
      have f492 : Str Z h463 a22 b22 kb22 (subS p4) := f462.keep K463 (ninS (neA (by omega)) nin0) (ninS (neA (by omega)) nin0)
      have l493 := neA (Exa.ne f453.1 f418 (by decide))
      have f494 : Str Z h463 a10 b10 kb10 (subS p2) := f453.keep K463 (ninS (neA (by omega)) nin0) (ninS (neA (by omega)) nin0)
      refine X463.callS (W := 0) (w132 hw) (w133 hw) (w134 hw) (w135 hw) (by decide) (X463.payM (sf := []) (rmRol4tf hcx a409 L463 a4 a10 a16 a22 t463 kn463 b4 kb4 (subS p1) b22 kb22 (subS p4) h463 X463.old g463_0 g463_1 g463_2 g463_3 g463_4 f490 f492 f494.1 hc hd) sf0 (w135 hw) (w134 hw) (by decide) (by decide)) rfl (sz hml rfl) (argsL := [(.ref a409)]) (rest := []) (lenOf pd15 rfl) rfl rfl (mroom rfl rfl) (D at_163) (by decide) (by decide) fun T495 h495 vm495 v495 X495 C495 z495 q495 => ?_
      obtain ⟨rfl, K495⟩ := q495
      have A496 := X495.at
      refine Gets.via (fun _ k => (XS.astore A496 hx rfl (D at_166) rfl rfl (l' := #[vI p0, .val (.long p1), .second, .val (.long p2), .second, .val (.long p3), .second, .val (.long p4), .second, .val (.long p5), .second, vI ((p0 &&& (2147483647 : Int32)) % (6 : Int32)), vR a2, vR a33, vR a409, .val .null, .unset]) rfl (XS.iload A496 hx rfl (D at_168) rfl (XS.iconst A496 hx rfl (D at_170) (XS.icmpNo A496 hx rfl (D at_171) rfl (Jvm.Free.XT.ii_ne_f (by rw [hs]; decide)) k))))) ?_
      refine Gets.via (fun _ k => (XS.lloadN A496 hx rfl (D at_174) rfl k)) ?_
      refine X495.callS (W := 0) (w290 hw) (w291 hw) (w5 hw) (w292 hw) (by decide) (X495.payM (sf := []) (rmIsRtn hcx p1 h495 X495.old ) sf0 (w292 hw) (w5 hw) (by decide) (by decide)) rfl (sz hml rfl) (argsL := [(.long p1)]) (rest := []) (lenOf pd28 rfl) rfl rfl (mroom rfl rfl) (D at_175) (by decide) (by decide) fun T497 h497 vm497 v497 X497 C497 z497 q497 => ?_
      obtain ⟨r497, rfl, K497, g497_0⟩ := q497
      rw [K497] at X497 C497
      show Gets p e below _ (T497.setTop (mkF m 178 #[vI p0, .val (.long p1), .second, .val (.long p2), .second, .val (.long p3), .second, .val (.long p4), .second, .val (.long p5), .second, vI ((p0 &&& (2147483647 : Int32)) % (6 : Int32)), vR a2, vR a33, vR a409, .val .null, .unset] [(.int r497)]))
      have A498 := X497.at
      refine Gets.via (fun _ k => (XS.ifNo A498 hx rfl (D at_178) rfl (Jvm.Free.XT.i0_eq_f (by rw [g497_0, if_pos hc]; decide)) k)) ?_
      refine Gets.via (fun _ k => (XS.lload A498 hx rfl (D at_181) rfl k)) ?_
      refine X497.callS (W := 0) (w294 hw) (w295 hw) (w5 hw) (w296 hw) (by decide) (X497.payM (sf := []) (rmIsZero hcx p4 h495 X497.old ) sf0 (w296 hw) (w5 hw) (by decide) (by decide)) rfl (sz hml rfl) (argsL := [(.long p4)]) (rest := []) (lenOf pd28 rfl) rfl rfl (mroom rfl rfl) (D at_183) (by decide) (by decide) fun T499 h499 vm499 v499 X499 C499 z499 q499 => ?_
      obtain ⟨r499, rfl, K499, g499_0⟩ := q499
      rw [K499] at X499 C499
      have A500 := X499.at
      refine Gets.via (fun _ k => (XS.ifYes A500 hx rfl (pc0 := 186) (pc' := 193) rfl (D at_186) rfl (Jvm.Free.XT.i0_eq_t (by rw [g499_0, if_neg hd])) (by decide) (by decide) k)) ?_
      refine Gets.via (fun _ k => (XS.iconst A500 hx rfl (D at_193) (XS.istore A500 hx rfl (D at_194) rfl (l' := #[vI p0, .val (.long p1), .second, .val (.long p2), .second, .val (.long p3), .second, .val (.long p4), .second, .val (.long p5), .second, vI ((p0 &&& (2147483647 : Int32)) % (6 : Int32)), vR a2, vR a33, vR a409, .val .null, vI (0 : Int32)]) rfl (XS.iload A500 hx rfl (D at_196) rfl (XS.ifYes A500 hx rfl (pc0 := 198) (pc' := 224) rfl (D at_198) rfl (Jvm.Free.XT.i0_eq_t (by decide)) (by decide) (by decide) k))))) ?_
      refine Gets.via (fun _ k => (XS.aload A500 hx rfl (D at_224) rfl rfl (XS.ifnonnullNo A500 hx rfl (D at_226) rfl k))) ?_
      show Gets p e below _ (T499.setTop (mkF m 229 #[vI p0, .val (.long p1), .second, .val (.long p2), .second, .val (.long p3), .second, .val (.long p4), .second, .val (.long p5), .second, vI ((p0 &&& (2147483647 : Int32)) % (6 : Int32)), vR a2, vR a33, vR a409, .val .null, vI (0 : Int32)] []))
      refine Gets.via (fun _ k => (XS.iconst A500 hx rfl (D at_229) (XS.goto A500 hx rfl (pc0 := 230) (pc' := 234) rfl (D at_230) (by decide) (by decide) k))) ?_
      exact X499.retI hret (by decide) (by simp) (D at_234) (by decide) (by decide) (fun vmE CE => ⟨rfl, (((((((((((((((((((((((Keep.refl h0 []).ext E2).trans K4 all0).trans K7 (allS (Or.inr (leA (by omega))) all0)).trans K10 all0).trans K13 (allS (Or.inr (leA (by omega))) all0)).trans K16 all0).trans K19 (allS (Or.inr (leA (by omega))) all0)).trans K22 all0).trans K25 (allS (Or.inr (leA (by omega))) all0)).trans K28 all0).trans K31 (allS (Or.inr (leA (by omega))) all0)).ext E33).trans K35 (allS (Or.inr (leA (by omega))) all0)).trans K344 (allS (Or.inr (leA (by omega))) all0)).trans K364 (allS (Or.inr (leA (by omega))) (allS (Or.inr (leA (by omega))) all0))).trans K385 (allS (Or.inr (leA (by omega))) (allS (Or.inr (leA (by omega))) all0))).trans K405 (allS (Or.inr (leA (by omega))) (allS (Or.inr (leA (by omega))) all0))).ext E409).ext E411).ext E413).trans K463 (allS (Or.inr (leA (by omega))) all0)).trans K495 all0)⟩)
    · skip
      have l501 := neA (Exa.ne f445.1 f418 (by decide))
      have f502 : Str Z h463 a4 b4 kb4 (subS p1) := f445.keep K463 (ninS (neA (by omega)) nin0) (ninS (neA (by omega)) nin0)
      have l503 := neA (Exa.ne f462.1 f418 (by decide))
      have f504 : Str Z h463 a22 b22 kb22 (subS p4) := f462.keep K463 (ninS (neA (by omega)) nin0) (ninS (neA (by omega)) nin0)
      have l505 := neA (Exa.ne f453.1 f418 (by decide))
      have f506 : Str Z h463 a10 b10 kb10 (subS p2) := f453.keep K463 (ninS (neA (by omega)) nin0) (ninS (neA (by omega)) nin0)
      refine X463.callS (W := 0) (w132 hw) (w133 hw) (w134 hw) (w135 hw) (by decide) (X463.payM (sf := []) (rmRol4f hcx a409 L463 a4 a10 a16 a22 t463 kn463 b4 kb4 (subS p1) b22 kb22 (subS p4) h463 X463.old g463_0 g463_1 g463_2 g463_3 g463_4 f502 f504 f506.1 hc) sf0 (w135 hw) (w134 hw) (by decide) (by decide)) rfl (sz hml rfl) (argsL := [(.ref a409)]) (rest := []) (lenOf pd15 rfl) rfl rfl (mroom rfl rfl) (D at_163) (by decide) (by decide) fun T507 h507 vm507 v507 X507 C507 z507 q507 => ?_
      obtain ⟨rfl, K507⟩ := q507
      have A508 := X507.at
      refine Gets.via (fun _ k => (XS.astore A508 hx rfl (D at_166) rfl rfl (l' := #[vI p0, .val (.long p1), .second, .val (.long p2), .second, .val (.long p3), .second, .val (.long p4), .second, .val (.long p5), .second, vI ((p0 &&& (2147483647 : Int32)) % (6 : Int32)), vR a2, vR a33, vR a409, .val .null, .unset]) rfl (XS.iload A508 hx rfl (D at_168) rfl (XS.iconst A508 hx rfl (D at_170) (XS.icmpNo A508 hx rfl (D at_171) rfl (Jvm.Free.XT.ii_ne_f (by rw [hs]; decide)) k))))) ?_
      refine Gets.via (fun _ k => (XS.lloadN A508 hx rfl (D at_174) rfl k)) ?_
      refine X507.callS (W := 0) (w290 hw) (w291 hw) (w5 hw) (w292 hw) (by decide) (X507.payM (sf := []) (rmIsRtn hcx p1 h507 X507.old ) sf0 (w292 hw) (w5 hw) (by decide) (by decide)) rfl (sz hml rfl) (argsL := [(.long p1)]) (rest := []) (lenOf pd28 rfl) rfl rfl (mroom rfl rfl) (D at_175) (by decide) (by decide) fun T509 h509 vm509 v509 X509 C509 z509 q509 => ?_
      obtain ⟨r509, rfl, K509, g509_0⟩ := q509
      rw [K509] at X509 C509
      show Gets p e below _ (T509.setTop (mkF m 178 #[vI p0, .val (.long p1), .second, .val (.long p2), .second, .val (.long p3), .second, .val (.long p4), .second, .val (.long p5), .second, vI ((p0 &&& (2147483647 : Int32)) % (6 : Int32)), vR a2, vR a33, vR a409, .val .null, .unset] [(.int r509)]))
      have A510 := X509.at
      refine Gets.via (fun _ k => (XS.ifYes A510 hx rfl (pc0 := 178) (pc' := 193) rfl (D at_178) rfl (Jvm.Free.XT.i0_eq_t (by rw [g509_0, if_neg hc])) (by decide) (by decide) k)) ?_
      refine Gets.via (fun _ k => (XS.iconst A510 hx rfl (D at_193) (XS.istore A510 hx rfl (D at_194) rfl (l' := #[vI p0, .val (.long p1), .second, .val (.long p2), .second, .val (.long p3), .second, .val (.long p4), .second, .val (.long p5), .second, vI ((p0 &&& (2147483647 : Int32)) % (6 : Int32)), vR a2, vR a33, vR a409, .val .null, vI (0 : Int32)]) rfl (XS.iload A510 hx rfl (D at_196) rfl (XS.ifYes A510 hx rfl (pc0 := 198) (pc' := 224) rfl (D at_198) rfl (Jvm.Free.XT.i0_eq_t (by decide)) (by decide) (by decide) k))))) ?_
      refine Gets.via (fun _ k => (XS.aload A510 hx rfl (D at_224) rfl rfl (XS.ifnonnullNo A510 hx rfl (D at_226) rfl k))) ?_
      refine Gets.via (fun _ k => (XS.iconst A510 hx rfl (D at_229) (XS.goto A510 hx rfl (pc0 := 230) (pc' := 234) rfl (D at_230) (by decide) (by decide) k))) ?_
      exact X509.retI hret (by decide) (by simp) (D at_234) (by decide) (by decide) (fun vmE CE => ⟨rfl, (((((((((((((((((((((((Keep.refl h0 []).ext E2).trans K4 all0).trans K7 (allS (Or.inr (leA (by omega))) all0)).trans K10 all0).trans K13 (allS (Or.inr (leA (by omega))) all0)).trans K16 all0).trans K19 (allS (Or.inr (leA (by omega))) all0)).trans K22 all0).trans K25 (allS (Or.inr (leA (by omega))) all0)).trans K28 all0).trans K31 (allS (Or.inr (leA (by omega))) all0)).ext E33).trans K35 (allS (Or.inr (leA (by omega))) all0)).trans K344 (allS (Or.inr (leA (by omega))) all0)).trans K364 (allS (Or.inr (leA (by omega))) (allS (Or.inr (leA (by omega))) all0))).trans K385 (allS (Or.inr (leA (by omega))) (allS (Or.inr (leA (by omega))) all0))).trans K405 (allS (Or.inr (leA (by omega))) (allS (Or.inr (leA (by omega))) all0))).ext E409).ext E411).ext E413).trans K463 (allS (Or.inr (leA (by omega))) all0)).trans K507 all0)⟩)
  · refine Gets.via (fun _ k => (XS.iload A37 hx rfl (D at_67) rfl (XS.ifNo A37 hx rfl (D at_69) rfl (Jvm.Free.XT.i0_le_f (by rw [hs]; decide)) k))) ?_
    refine Gets.via (fun _ k => (XS.aload A37 hx rfl (D at_72) rfl rfl (XS.aload A37 hx rfl (D at_74) rfl rfl (XS.iconst A37 hx rfl (D at_76) k)))) ?_
    show Gets p e below _ (T35.setTop (mkF m 77 #[vI p0, .val (.long p1), .second, .val (.long p2), .second, .val (.long p3), .second, .val (.long p4), .second, .val (.long p5), .second, vI ((p0 &&& (2147483647 : Int32)) % (6 : Int32)), vR a2, vR a33, .unset, .unset, .unset] [(.int (0 : Int32)), (.ref a2), (.ref a33)]))
    have f511 := V31_.ext E33
    have f512 := f511.keep K35 (ninS (neA (by omega)) nin0)
    refine X35.ldR f512 rfl (i := 0) (by decide) (by decide) (by decide) rfl rfl rfl (D at_77) ?_
    have f513 := Z2.keep K4
    have l514 := neA (Exa.ne g4_0.1 f513 (by decide))
    have l515 := neA (Arv.nty g4_0.2.2.2.1 f8 (by decide))
    have f516 : Str Z h7 a4 b4 kb4 (subS p1) := g4_0.keep K7 (ninS (neA (by omega)) nin0) (ninS (neA (by omega)) nin0)
    have f517 : Str Z h10 a4 b4 kb4 (subS p1) := f516.keep K10 nin0 nin0
    have f518 : Str Z h13 a4 b4 kb4 (subS p1) := f517.keep K13 (ninS (neA (by omega)) nin0) (ninS (neA (by omega)) nin0)
    have f519 : Str Z h16 a4 b4 kb4 (subS p1) := f518.keep K16 nin0 nin0
    have f520 : Str Z h19 a4 b4 kb4 (subS p1) := f519.keep K19 (ninS (neA (by omega)) nin0) (ninS (neA (by omega)) nin0)
    have f521 : Str Z h22 a4 b4 kb4 (subS p1) := f520.keep K22 nin0 nin0
    have f522 : Str Z h25 a4 b4 kb4 (subS p1) := f521.keep K25 (ninS (neA (by omega)) nin0) (ninS (neA (by omega)) nin0)
    have f523 : Str Z h28 a4 b4 kb4 (subS p1) := f522.keep K28 nin0 nin0
    have f524 : Str Z h31 a4 b4 kb4 (subS p1) := f523.keep K31 (ninS (neA (by omega)) nin0) (ninS (neA (by omega)) nin0)
    have f525 : Str Z h33 a4 b4 kb4 (subS p1) := f524.ext E33
    have l526 := neA (Exa.ne f525.1 Z33 (by decide))
    have f527 : Str Z h35 a4 b4 kb4 (subS p1) := f525.keep K35 (ninS (neA (by omega)) nin0) (ninS (neA (by omega)) nin0)
    refine X35.callV (W := 0) (w154 hw) (w155 hw) (w157 hw) (w156 hw) (nfs rfl (w157 hw)) (by decide) (X35.payM (sf := []) (rmAdd0 hcx a33 a4 (0 : Int32) h35 X35.old g35_0 g35_1 g35_2 g35_3 (leA (by omega)) f527.1) sf0 (w158 hw) (w60 hw) (by decide) (by decide)) g35_0 rfl (sz hml rfl) (argsL := [(.ref a4)]) (rest := []) (lenOf pd20 rfl) rfl rfl (mroom rfl rfl) (D at_78) (by decide) (by decide) fun T528 h528 vm528 v528 X528 C528 z528 q528 => ?_
    obtain ⟨d528, kd528, rfl, K528, g528_0, g528_1, g528_2, g528_3, g528_4, g528_5, g528_6, g528_7, g528_8⟩ := q528
    have l529 := ltA g528_0.lt
    have l530 := ltA g528_4.lt
    have A531 := X528.at
    refine Gets.via (fun _ k => (XS.pop A531 hx rfl (D at_81) rfl rfl (XS.iload A531 hx rfl (D at_82) rfl (XS.iconst A531 hx rfl (D at_84) (XS.icmpNo A531 hx rfl (D at_85) rfl (Jvm.Free.XT.ii_le_f (by rw [hs]; decide)) k))))) ?_
    refine Gets.via (fun _ k => (XS.aload A531 hx rfl (D at_88) rfl rfl (XS.aload A531 hx rfl (D at_90) rfl rfl (XS.iconst A531 hx rfl (D at_92) k)))) ?_
    show Gets p e below _ (T528.setTop (mkF m 93 #[vI p0, .val (.long p1), .second, .val (.long p2), .second, .val (.long p3), .second, .val (.long p4), .second, .val (.long p5), .second, vI ((p0 &&& (2147483647 : Int32)) % (6 : Int32)), vR a2, vR a33, .unset, .unset, .unset] [(.int (1 : Int32)), (.ref a2), (.ref a33)]))
    have f532 := f512.keep K528 (ninS (neA (by omega)) nin0)
    refine X528.ldR f532 rfl (i := 1) (by decide) (by decide) (by decide) rfl rfl rfl (D at_93) ?_
    have f533 := f513.keep K7
    have f534 := f533.keep K10
    have l535 := neA (Exa.ne g10_0.1 f534 (by decide))
    have l536 := neA (Arv.nty g10_0.2.2.2.1 f14 (by decide))
    have f537 : Str Z h13 a10 b10 kb10 (subS p2) := g10_0.keep K13 (ninS (neA (by omega)) nin0) (ninS (neA (by omega)) nin0)
    have f538 : Str Z h16 a10 b10 kb10 (subS p2) := f537.keep K16 nin0 nin0
    have f539 : Str Z h19 a10 b10 kb10 (subS p2) := f538.keep K19 (ninS (neA (by omega)) nin0) (ninS (neA (by omega)) nin0)
    have f540 : Str Z h22 a10 b10 kb10 (subS p2) := f539.keep K22 nin0 nin0
    have f541 : Str Z h25 a10 b10 kb10 (subS p2) := f540.keep K25 (ninS (neA (by omega)) nin0) (ninS (neA (by omega)) nin0)
    have f542 : Str Z h28 a10 b10 kb10 (subS p2) := f541.keep K28 nin0 nin0
    have f543 : Str Z h31 a10 b10 kb10 (subS p2) := f542.keep K31 (ninS (neA (by omega)) nin0) (ninS (neA (by omega)) nin0)
    have f544 : Str Z h33 a10 b10 kb10 (subS p2) := f543.ext E33
    have l545 := neA (Exa.ne f544.1 Z33 (by decide))
    have f546 : Str Z h35 a10 b10 kb10 (subS p2) := f544.keep K35 (ninS (neA (by omega)) nin0) (ninS (neA (by omega)) nin0)
    have f547 : Str Z h528 a10 b10 kb10 (subS p2) := f546.keep K528 (ninS (neA (by omega)) nin0) (ninS (neA (by omega)) nin0)
    refine X528.callV (W := 0) (w154 hw) (w155 hw) (w157 hw) (w156 hw) (nfs rfl (w157 hw)) (by decide) (X528.payM (sf := []) (rmAdd1 hcx a33 a10 ((0 : Int32) + (1 : Int32)) d528 kd528 a4 h528 X528.old g528_0 g528_1 g528_2 g528_3 g528_4 g528_5 g528_6 g528_7 (neA (by omega)) (leA (by omega)) f547.1) sf0 (w158 hw) (w60 hw) (by decide) (by decide)) g528_0 rfl (sz hml rfl) (argsL := [(.ref a10)]) (rest := []) (lenOf pd20 rfl) rfl rfl (mroom rfl rfl) (D at_94) (by decide) (by decide) fun T548 h548 vm548 v548 X548 C548 z548 q548 => ?_
    obtain ⟨rfl, K548, g548_0, g548_1, g548_2, g548_3, g548_4, g548_5⟩ := q548
    have l549 := ltA g548_0.lt
    have l550 := ltA g548_4.lt
    have A551 := X548.at
    refine Gets.via (fun _ k => (XS.pop A551 hx rfl (D at_97) rfl rfl (XS.iload A551 hx rfl (D at_98) rfl (XS.iconst A551 hx rfl (D at_100) (XS.icmpNo A551 hx rfl (D at_101) rfl (Jvm.Free.XT.ii_le_f (by rw [hs]; decide)) k))))) ?_
    refine Gets.via (fun _ k => (XS.aload A551 hx rfl (D at_104) rfl rfl (XS.aload A551 hx rfl (D at_106) rfl rfl (XS.iconst A551 hx rfl (D at_108) k)))) ?_
    show Gets p e below _ (T548.setTop (mkF m 109 #[vI p0, .val (.long p1), .second, .val (.long p2), .second, .val (.long p3), .second, .val (.long p4), .second, .val (.long p5), .second, vI ((p0 &&& (2147483647 : Int32)) % (6 : Int32)), vR a2, vR a33, .unset, .unset, .unset] [(.int (2 : Int32)), (.ref a2), (.ref a33)]))
    have f552 := f532.keep K548 (ninS (neA (by omega)) (ninS (neA (by omega)) nin0))
    refine X548.ldR f552 rfl (i := 2) (by decide) (by decide) (by decide) rfl rfl rfl (D at_109) ?_
    have f553 := f534.keep K13
    have f554 := f553.keep K16
    have l555 := neA (Exa.ne g16_0.1 f554 (by decide))
    have l556 := neA (Arv.nty g16_0.2.2.2.1 f20 (by decide))
    have f557 : Str Z h19 a16 b16 kb16 (subS p3) := g16_0.keep K19 (ninS (neA (by omega)) nin0) (ninS (neA (by omega)) nin0)
    have f558 : Str Z h22 a16 b16 kb16 (subS p3) := f557.keep K22 nin0 nin0
    have f559 : Str Z h25 a16 b16 kb16 (subS p3) := f558.keep K25 (ninS (neA (by omega)) nin0) (ninS (neA (by omega)) nin0)
    have f560 : Str Z h28 a16 b16 kb16 (subS p3) := f559.keep K28 nin0 nin0
    have f561 : Str Z h31 a16 b16 kb16 (subS p3) := f560.keep K31 (ninS (neA (by omega)) nin0) (ninS (neA (by omega)) nin0)
    have f562 : Str Z h33 a16 b16 kb16 (subS p3) := f561.ext E33
    have l563 := neA (Exa.ne f562.1 Z33 (by decide))
    have f564 : Str Z h35 a16 b16 kb16 (subS p3) := f562.keep K35 (ninS (neA (by omega)) nin0) (ninS (neA (by omega)) nin0)
    have f565 : Str Z h528 a16 b16 kb16 (subS p3) := f564.keep K528 (ninS (neA (by omega)) nin0) (ninS (neA (by omega)) nin0)
    have l566 := neA (Exa.ne f565.1 g528_5 (by decide))
    have l567 := neA (Arv.nty f565.2.2.2.1 g528_4 (by decide))
    have f568 : Str Z h548 a16 b16 kb16 (subS p3) := f565.keep K548 (ninS (neA (by omega)) (ninS (neA (by omega)) nin0)) (ninS (neA (by omega)) (ninS (neA (by omega)) nin0))
    refine X548.callV (W := 0) (w154 hw) (w155 hw) (w157 hw) (w156 hw) (nfs rfl (w157 hw)) (by decide) (X548.payM (sf := []) (rmAdd2 hcx a33 a16 (((0 : Int32) + (1 : Int32)) + (1 : Int32)) d528 kd528 a4 a10 h548 X548.old g548_0 g548_1 g548_2 g548_3 g548_4 g548_5 g528_6 g528_7 (neA (by omega)) (leA (by omega)) f568.1) sf0 (w158 hw) (w60 hw) (by decide) (by decide)) g548_0 rfl (sz hml rfl) (argsL := [(.ref a16)]) (rest := []) (lenOf pd20 rfl) rfl rfl (mroom rfl rfl) (D at_110) (by decide) (by decide) fun T569 h569 vm569 v569 X569 C569 z569 q569 => ?_
    obtain ⟨rfl, K569, g569_0, g569_1, g569_2, g569_3, g569_4, g569_5⟩ := q569
    have l570 := ltA g569_0.lt
    have l571 := ltA g569_4.lt
    have A572 := X569.at
    refine Gets.via (fun _ k => (XS.pop A572 hx rfl (D at_113) rfl rfl (XS.iload A572 hx rfl (D at_114) rfl (XS.iconst A572 hx rfl (D at_116) (XS.icmpNo A572 hx rfl (D at_117) rfl (Jvm.Free.XT.ii_le_f (by rw [hs]; decide)) k))))) ?_
    refine Gets.via (fun _ k => (XS.aload A572 hx rfl (D at_120) rfl rfl (XS.aload A572 hx rfl (D at_122) rfl rfl (XS.iconst A572 hx rfl (D at_124) k)))) ?_
    show Gets p e below _ (T569.setTop (mkF m 125 #[vI p0, .val (.long p1), .second, .val (.long p2), .second, .val (.long p3), .second, .val (.long p4), .second, .val (.long p5), .second, vI ((p0 &&& (2147483647 : Int32)) % (6 : Int32)), vR a2, vR a33, .unset, .unset, .unset] [(.int (3 : Int32)), (.ref a2), (.ref a33)]))
    have f573 := f552.keep K569 (ninS (neA (by omega)) (ninS (neA (by omega)) nin0))
    refine X569.ldR f573 rfl (i := 3) (by decide) (by decide) (by decide) rfl rfl rfl (D at_125) ?_
    have f574 := f554.keep K19
    have f575 := f574.keep K22
    have l576 := neA (Exa.ne g22_0.1 f575 (by decide))
    have l577 := neA (Arv.nty g22_0.2.2.2.1 f26 (by decide))
    have f578 : Str Z h25 a22 b22 kb22 (subS p4) := g22_0.keep K25 (ninS (neA (by omega)) nin0) (ninS (neA (by omega)) nin0)
    have f579 : Str Z h28 a22 b22 kb22 (subS p4) := f578.keep K28 nin0 nin0
    have f580 : Str Z h31 a22 b22 kb22 (subS p4) := f579.keep K31 (ninS (neA (by omega)) nin0) (ninS (neA (by omega)) nin0)
    have f581 : Str Z h33 a22 b22 kb22 (subS p4) := f580.ext E33
    have l582 := neA (Exa.ne f581.1 Z33 (by decide))
    have f583 : Str Z h35 a22 b22 kb22 (subS p4) := f581.keep K35 (ninS (neA (by omega)) nin0) (ninS (neA (by omega)) nin0)
    have f584 : Str Z h528 a22 b22 kb22 (subS p4) := f583.keep K528 (ninS (neA (by omega)) nin0) (ninS (neA (by omega)) nin0)
    have l585 := neA (Exa.ne f584.1 g528_5 (by decide))
    have l586 := neA (Arv.nty f584.2.2.2.1 g528_4 (by decide))
    have f587 : Str Z h548 a22 b22 kb22 (subS p4) := f584.keep K548 (ninS (neA (by omega)) (ninS (neA (by omega)) nin0)) (ninS (neA (by omega)) (ninS (neA (by omega)) nin0))
    have f588 : Str Z h569 a22 b22 kb22 (subS p4) := f587.keep K569 (ninS (neA (by omega)) (ninS (neA (by omega)) nin0)) (ninS (neA (by omega)) (ninS (neA (by omega)) nin0))
    refine X569.callV (W := 0) (w154 hw) (w155 hw) (w157 hw) (w156 hw) (nfs rfl (w157 hw)) (by decide) (X569.payM (sf := []) (rmAdd3 hcx a33 a22 ((((0 : Int32) + (1 : Int32)) + (1 : Int32)) + (1 : Int32)) d528 kd528 a4 a10 a16 h569 X569.old g569_0 g569_1 g569_2 g569_3 g569_4 g569_5 g528_6 g528_7 (neA (by omega)) (leA (by omega)) f588.1) sf0 (w158 hw) (w60 hw) (by decide) (by decide)) g569_0 rfl (sz hml rfl) (argsL := [(.ref a22)]) (rest := []) (lenOf pd20 rfl) rfl rfl (mroom rfl rfl) (D at_126) (by decide) (by decide) fun T589 h589 vm589 v589 X589 C589 z589 q589 => ?_
    obtain ⟨rfl, K589, g589_0, g589_1, g589_2, g589_3, g589_4, g589_5⟩ := q589
    have l590 := ltA g589_0.lt
    have l591 := ltA g589_4.lt
    have A592 := X589.at
    refine Gets.via (fun _ k => (XS.pop A592 hx rfl (D at_129) rfl rfl (XS.iload A592 hx rfl (D at_130) rfl (XS.iconst A592 hx rfl (D at_132) (XS.icmpNo A592 hx rfl (D at_133) rfl (Jvm.Free.XT.ii_le_f (by rw [hs]; decide)) k))))) ?_
    refine Gets.via (fun _ k => (XS.aload A592 hx rfl (D at_136) rfl rfl (XS.aload A592 hx rfl (D at_138) rfl rfl (XS.iconst A592 hx rfl (D at_140) k)))) ?_
    show Gets p e below _ (T589.setTop (mkF m 141 #[vI p0, .val (.long p1), .second, .val (.long p2), .second, .val (.long p3), .second, .val (.long p4), .second, .val (.long p5), .second, vI ((p0 &&& (2147483647 : Int32)) % (6 : Int32)), vR a2, vR a33, .unset, .unset, .unset] [(.int (4 : Int32)), (.ref a2), (.ref a33)]))
    have f593 := f573.keep K589 (ninS (neA (by omega)) (ninS (neA (by omega)) nin0))
    refine X589.ldR f593 rfl (i := 4) (by decide) (by decide) (by decide) rfl rfl rfl (D at_141) ?_
    have f594 := f575.keep K25
    have f595 := f594.keep K28
    have l596 := neA (Exa.ne g28_0.1 f595 (by decide))
    have l597 := neA (Arv.nty g28_0.2.2.2.1 f32 (by decide))
    have f598 : Str Z h31 a28 b28 kb28 (subS p5) := g28_0.keep K31 (ninS (neA (by omega)) nin0) (ninS (neA (by omega)) nin0)
    have f599 : Str Z h33 a28 b28 kb28 (subS p5) := f598.ext E33
    have l600 := neA (Exa.ne f599.1 Z33 (by decide))
    have f601 : Str Z h35 a28 b28 kb28 (subS p5) := f599.keep K35 (ninS (neA (by omega)) nin0) (ninS (neA (by omega)) nin0)
    have f602 : Str Z h528 a28 b28 kb28 (subS p5) := f601.keep K528 (ninS (neA (by omega)) nin0) (ninS (neA (by omega)) nin0)
    have l603 := neA (Exa.ne f602.1 g528_5 (by decide))
    have l604 := neA (Arv.nty f602.2.2.2.1 g528_4 (by decide))
    have f605 : Str Z h548 a28 b28 kb28 (subS p5) := f602.keep K548 (ninS (neA (by omega)) (ninS (neA (by omega)) nin0)) (ninS (neA (by omega)) (ninS (neA (by omega)) nin0))
    have f606 : Str Z h569 a28 b28 kb28 (subS p5) := f605.keep K569 (ninS (neA (by omega)) (ninS (neA (by omega)) nin0)) (ninS (neA (by omega)) (ninS (neA (by omega)) nin0))
    have f607 : Str Z h589 a28 b28 kb28 (subS p5) := f606.keep K589 (ninS (neA (by omega)) (ninS (neA (by omega)) nin0)) (ninS (neA (by omega)) (ninS (neA (by omega)) nin0))
    refine X589.callV (W := 0) (w154 hw) (w155 hw) (w157 hw) (w156 hw) (nfs rfl (w157 hw)) (by decide) (X589.payM (sf := []) (rmAdd4 hcx a33 a28 (((((0 : Int32) + (1 : Int32)) + (1 : Int32)) + (1 : Int32)) + (1 : Int32)) d528 kd528 a4 a10 a16 a22 h589 X589.old g589_0 g589_1 g589_2 g589_3 g589_4 g589_5 g528_6 g528_7 (neA (by omega)) (leA (by omega)) f607.1) sf0 (w158 hw) (w60 hw) (by decide) (by decide)) g589_0 rfl (sz hml rfl) (argsL := [(.ref a28)]) (rest := []) (lenOf pd20 rfl) rfl rfl (mroom rfl rfl) (D at_142) (by decide) (by decide) fun T608 h608 vm608 v608 X608 C608 z608 q608 => ?_
    obtain ⟨rfl, K608, g608_0, g608_1, g608_2, g608_3, g608_4, g608_5⟩ := q608
    have l609 := ltA g608_0.lt
    have l610 := ltA g608_4.lt
    have A611 := X608.at
    refine Gets.via (fun _ k => (XS.pop A611 hx rfl (D at_145) rfl rfl k)) ?_
    refine X608.new (w82 hw) (w83 hw) (w84 hw) rfl (D at_146) (by decide) (by decide) fun T612 h612 a612 X612 C612 E612 g612 Z612 S612 D612 => ?_
    have z612 := E612.1
    have l612 := ltA Z612.lt
    have A613 := X612.at
    refine Gets.via (fun _ k => (XS.dup A613 hx rfl (D at_149) rfl rfl k)) ?_
    refine X612.ldcO (w85 hw) (wSt hw) rfl (D at_150) (n := 1) (by decide) (by decide) (by decide) (by decide) fun T614 h614 vm614 a614 X614 C614 E614 => ?_
    have z614 := E614.1
    show Gets p e below _ (T614.setTop (mkF m 152 #[vI p0, .val (.long p1), .second, .val (.long p2), .second, .val (.long p3), .second, .val (.long p4), .second, .val (.long p5), .second, vI ((p0 &&& (2147483647 : Int32)) % (6 : Int32)), vR a2, vR a33, .unset, .unset, .unset] [(.ref a614), (.ref a612), (.ref a612)]))
    have A615 := X614.at
    refine Gets.via (fun _ k => (XS.aload A615 hx rfl (D at_152) rfl rfl k)) ?_
    refine X614.ldcO (w85 hw) (wSt hw) rfl (D at_154) (n := 1) (by decide) (by decide) (by decide) (by decide) fun T616 h616 vm616 a616 X616 C616 E616 => ?_
    have z616 := E616.1
    have f617 := g608_2.ext E612
    have f618 := f617.ext E614
    have f619 := f618.ext E616
    have f620 := Z612.ext E614
    have f621 := f620.ext E616
    have f622 := (D612 (Or.inr (w127 hw)) (ty := (.object "java/lang/String")) (by decide) : Fld Z h612 a612 "com/example/packwright/packwright/model/Node" "subscriptLine" "Ljava/lang/String;" .null).ext E614
    have f623 := f622.ext E616
    have f624 := (D612 (Or.inr (w129 hw)) (ty := (.object "java/util/List")) (by decide) : Fld Z h612 a612 "com/example/packwright/packwright/model/Node" "subscripts" "Ljava/util/List;" .null).ext E614
    have f625 := f624.ext E616
    have f626 := (D612 (Or.inr (w131 hw)) (ty := (.object "java/lang/String")) (by decide) : Fld Z h612 a612 "com/example/packwright/packwright/model/Node" "value" "Ljava/lang/String;" .null).ext E614
    have f627 := f626.ext E616
    have f628 := g608_0.ext E612
    have f629 := f628.ext E614
    have f630 := f629.ext E616
    have f631 := g608_3.ext E612
    have f632 := f631.ext E614
    have f633 := f632.ext E616
    have f634 := g608_4.ext E612
    have f635 := f634.ext E614
    have f636 := f635.ext E616
    have f637 := g608_5.ext E612
    have f638 := f637.ext E614
    have f639 := f638.ext E616
    have f640 : Str Z h528 a4 b4 kb4 (subS p1) := f527.keep K528 (ninS (neA (by omega)) nin0) (ninS (neA (by omega)) nin0)
    have l641 := neA (Exa.ne f640.1 g528_5 (by decide))
    have l642 := neA (Arv.nty f640.2.2.2.1 g528_4 (by decide))
    have f643 : Str Z h548 a4 b4 kb4 (subS p1) := f640.keep K548 (ninS (neA (by omega)) (ninS (neA (by omega)) nin0)) (ninS (neA (by omega)) (ninS (neA (by omega)) nin0))
    have f644 : Str Z h569 a4 b4 kb4 (subS p1) := f643.keep K569 (ninS (neA (by omega)) (ninS (neA (by omega)) nin0)) (ninS (neA (by omega)) (ninS (neA (by omega)) nin0))
    have f645 : Str Z h589 a4 b4 kb4 (subS p1) := f644.keep K589 (ninS (neA (by omega)) (ninS (neA (by omega)) nin0)) (ninS (neA (by omega)) (ninS (neA (by omega)) nin0))
    have f646 : Str Z h608 a4 b4 kb4 (subS p1) := f645.keep K608 (ninS (neA (by omega)) (ninS (neA (by omega)) nin0)) (ninS (neA (by omega)) (ninS (neA (by omega)) nin0))
    have f647 : Str Z h612 a4 b4 kb4 (subS p1) := f646.ext E612
    have f648 : Str Z h614 a4 b4 kb4 (subS p1) := f647.ext E614
    have f649 : Str Z h616 a4 b4 kb4 (subS p1) := f648.ext E616
    have l650 := neA (Exa.ne f547.1 g528_5 (by decide))
    have l651 := neA (Arv.nty f547.2.2.2.1 g528_4 (by decide))
    have f652 : Str Z h548 a10 b10 kb10 (subS p2) := f547.keep K548 (ninS (neA (by omega)) (ninS (neA (by omega)) nin0)) (ninS (neA (by omega)) (ninS (neA (by omega)) nin0))
    have f653 : Str Z h569 a10 b10 kb10 (subS p2) := f652.keep K569 (ninS (neA (by omega)) (ninS (neA (by omega)) nin0)) (ninS (neA (by omega)) (ninS (neA (by omega)) nin0))
    have f654 : Str Z h589 a10 b10 kb10 (subS p2) := f653.keep K589 (ninS (neA (by omega)) (ninS (neA (by omega)) nin0)) (ninS (neA (by omega)) (ninS (neA (by omega)) nin0))
    have f655 : Str Z h608 a10 b10 kb10 (subS p2) := f654.keep K608 (ninS (neA (by omega)) (ninS (neA (by omega)) nin0)) (ninS (neA (by omega)) (ninS (neA (by omega)) nin0))
    have f656 : Str Z h612 a10 b10 kb10 (subS p2) := f655.ext E612
    have f657 : Str Z h614 a10 b10 kb10 (subS p2) := f656.ext E614
    have f658 : Str Z h616 a10 b10 kb10 (subS p2) := f657.ext E616
    have f659 : Str Z h569 a16 b16 kb16 (subS p3) := f568.keep K569 (ninS (neA (by omega)) (ninS (neA (by omega)) nin0)) (ninS (neA (by omega)) (ninS (neA (by omega)) nin0))
    have f660 : Str Z h589 a16 b16 kb16 (subS p3) := f659.keep K589 (ninS (neA (by omega)) (ninS (neA (by omega)) nin0)) (ninS (neA (by omega)) (ninS (neA (by omega)) nin0))
    have f661 : Str Z h608 a16 b16 kb16 (subS p3) := f660.keep K608 (ninS (neA (by omega)) (ninS (neA (by omega)) nin0)) (ninS (neA (by omega)) (ninS (neA (by omega)) nin0))
    have f662 : Str Z h612 a16 b16 kb16 (subS p3) := f661.ext E612
    have f663 : Str Z h614 a16 b16 kb16 (subS p3) := f662.ext E614
    have f664 : Str Z h616 a16 b16 kb16 (subS p3) := f663.ext E616
    have f665 : Str Z h589 a22 b22 kb22 (subS p4) := f588.keep K589 (ninS (neA (by omega)) (ninS (neA (by omega)) nin0)) (ninS (neA (by omega)) (ninS (neA (by omega)) nin0))
    have f666 : Str Z h608 a22 b22 kb22 (subS p4) := f665.keep K608 (ninS (neA (by omega)) (ninS (neA (by omega)) nin0)) (ninS (neA (by omega)) (ninS (neA (by omega)) nin0))
    have f667 : Str Z h612 a22 b22 kb22 (subS p4) := f666.ext E612
    have f668 : Str Z h614 a22 b22 kb22 (subS p4) := f667.ext E614
    have f669 : Str Z h616 a22 b22 kb22 (subS p4) := f668.ext E616
    have f670 : Str Z h608 a28 b28 kb28 (subS p5) := f607.keep K608 (ninS (neA (by omega)) (ninS (neA (by omega)) nin0)) (ninS (neA (by omega)) (ninS (neA (by omega)) nin0))
    have f671 : Str Z h612 a28 b28 kb28 (subS p5) := f670.ext E612
    have f672 : Str Z h614 a28 b28 kb28 (subS p5) := f671.ext E614
    have f673 : Str Z h616 a28 b28 kb28 (subS p5) := f672.ext E616
    refine X616.callI (y := (⟨"com/example/packwright/packwright/model/Node", "<init>", "(Ljava/lang/String;Ljava/util/List;Ljava/lang/String;)V"⟩ : MethodName)) (W := 1) rfl (w88 hw) (w89 hw) (w90 hw) (by decide) (X616.payM (sf := []) (rmNode5 hcx a612 a614 a33 a616 d528 kd528 a4 a10 a16 a22 a28 h616 X616.old f621 f623 f625 f627 (leA (by omega)) f630 f619 f633 f636 f639 f649.1 f658.1 f664.1 f669.1 f673.1) sf0 (w90 hw) (w84 hw) (by decide) (by decide)) rfl (sz hml rfl) (a := a612) (argsL := [(.ref a614), (.ref a33), (.ref a616)]) (rest := [(.ref a612)]) (lenOf pd13 rfl) rfl rfl (mroom rfl rfl) (D at_156) (by decide) (by decide) fun T674 h674 vm674 v674 X674 C674 z674 q674 => ?_
    obtain ⟨L674, t674, kn674, rfl, K674, g674_0, g674_1, g674_2, g674_3, g674_4⟩ := q674
    have l675 := ltA g674_0.lt
    have l676 := ltA g674_2.lt
    have l677 := ltA g674_4.lt
    have A678 := X674.at
    refine Gets.via (fun _ k => (XS.astore A678 hx rfl (D at_159) rfl rfl (l' := #[vI p0, .val (.long p1), .second, .val (.long p2), .second, .val (.long p3), .second, .val (.long p4), .second, .val (.long p5), .second, vI ((p0 &&& (2147483647 : Int32)) % (6 : Int32)), vR a2, vR a33, vR a612, .unset, .unset]) rfl (XS.aload A678 hx rfl (D at_161) rfl rfl k))) ?_
    refine X674.callS (W := 0) (w132 hw) (w133 hw) (w134 hw) (w135 hw) (by decide) (X674.payM (sf := []) (rmRol5 hcx a612 L674 a4 a10 a16 a22 a28 t674 kn674 h674 X674.old g674_0 g674_1 g674_2 g674_3 g674_4) sf0 (w135 hw) (w134 hw) (by decide) (by decide)) rfl (sz hml rfl) (argsL := [(.ref a612)]) (rest := []) (lenOf pd15 rfl) rfl rfl (mroom rfl rfl) (D at_163) (by decide) (by decide) fun T679 h679 vm679 v679 X679 C679 z679 q679 => ?_
    obtain ⟨rfl, K679⟩ := q679
    rw [K679] at X679 C679
    show Gets p e below _ (T679.setTop (mkF m 166 #[vI p0, .val (.long p1), .second, .val (.long p2), .second, .val (.long p3), .second, .val (.long p4), .second, .val (.long p5), .second, vI ((p0 &&& (2147483647 : Int32)) % (6 : Int32)), vR a2, vR a33, vR a612, .unset, .unset] [.null]))
    have A680 := X679.at
    refine Gets.via (fun _ k => (XS.astore A680 hx rfl (D at_166) rfl rfl (l' := #[vI p0, .val (.long p1), .second, .val (.long p2), .second, .val (.long p3), .second, .val (.long p4), .second, .val (.long p5), .second, vI ((p0 &&& (2147483647 : Int32)) % (6 : Int32)), vR a2, vR a33, vR a612, .val .null, .unset]) rfl (XS.iload A680 hx rfl (D at_168) rfl (XS.iconst A680 hx rfl (D at_170) (XS.icmpYes A680 hx rfl (pc0 := 171) (pc' := 193) rfl (D at_171) rfl (Jvm.Free.XT.ii_ne_t (by rw [hs]; decide)) (by decide) (by decide) k))))) ?_
    refine Gets.via (fun _ k => (XS.iconst A680 hx rfl (D at_193) (XS.istore A680 hx rfl (D at_194) rfl (l' := #[vI p0, .val (.long p1), .second, .val (.long p2), .second, .val (.long p3), .second, .val (.long p4), .second, .val (.long p5), .second, vI ((p0 &&& (2147483647 : Int32)) % (6 : Int32)), vR a2, vR a33, vR a612, .val .null, vI (0 : Int32)]) rfl (XS.iload A680 hx rfl (D at_196) rfl (XS.ifYes A680 hx rfl (pc0 := 198) (pc' := 224) rfl (D at_198) rfl (Jvm.Free.XT.i0_eq_t (by decide)) (by decide) (by decide) k))))) ?_
    refine Gets.via (fun _ k => (XS.aload A680 hx rfl (D at_224) rfl rfl (XS.ifnonnullNo A680 hx rfl (D at_226) rfl k))) ?_
    refine Gets.via (fun _ k => (XS.iconst A680 hx rfl (D at_229) (XS.goto A680 hx rfl (pc0 := 230) (pc' := 234) rfl (D at_230) (by decide) (by decide) k))) ?_
    show Gets p e below _ (T679.setTop (mkF m 234 #[vI p0, .val (.long p1), .second, .val (.long p2), .second, .val (.long p3), .second, .val (.long p4), .second, .val (.long p5), .second, vI ((p0 &&& (2147483647 : Int32)) % (6 : Int32)), vR a2, vR a33, vR a612, .val .null, vI (0 : Int32)] [(.int (1 : Int32))]))
    exact X679.retI hret (by decide) (by simp) (D at_234) (by decide) (by decide) (fun vmE CE => ⟨rfl, (((((((((((((((((((((((Keep.refl h0 []).ext E2).trans K4 all0).trans K7 (allS (Or.inr (leA (by omega))) all0)).trans K10 all0).trans K13 (allS (Or.inr (leA (by omega))) all0)).trans K16 all0).trans K19 (allS (Or.inr (leA (by omega))) all0)).trans K22 all0).trans K25 (allS (Or.inr (leA (by omega))) all0)).trans K28 all0).trans K31 (allS (Or.inr (leA (by omega))) all0)).ext E33).trans K35 (allS (Or.inr (leA (by omega))) all0)).trans K528 (allS (Or.inr (leA (by omega))) all0)).trans K548 (allS (Or.inr (leA (by omega))) (allS (Or.inr (leA (by omega))) all0))).trans K569 (allS (Or.inr (leA (by omega))) (allS (Or.inr (leA (by omega))) all0))).trans K589 (allS (Or.inr (leA (by omega))) (allS (Or.inr (leA (by omega))) all0))).trans K608 (allS (Or.inr (leA (by omega))) (allS (Or.inr (leA (by omega))) all0))).ext E612).ext E614).ext E616).trans K674 (allS (Or.inr (leA (by omega))) all0))⟩)
set_option maxRecDepth 65536 in
set_option maxHeartbeats 40000000 in
theorem comes_1 {Post : Tables → Env → Array Value → State → Outcome → State → Prop} (hpost : ∀ tb e args s v u, (limb_1_1.after args s (.returned v) u = true ∧ limb_1_2.after args s (.returned v) u = true ∧ True) → FramedW s (.returned v) u (Jvm.fieldLocs frame_1_writes args s ++ Jvm.arrayLocs frame_1_arrays args s ++ Jvm.staticLocs frame_1_statics s) 64 5376 → Post tb e args s (.returned v) u) :
    ArmFor flags0 classFile x code maxLocals ret World_1 tables_1 room_1 Calls_1 rest_1 Pre_1 Post := by
  intro l hfl _ _ p e ha hc hk s m args below hf hA hF happ hP
  obtain ⟨hcalls, hrest, hpre⟩ := hP
  obtain ⟨-, -, -, hnamed, -, -, -, hat⟩ := (Spec.applies_iff hf).mp happ
  obtain ⟨hg, hn⟩ := and_e (Cond.before_iff.mp (show (Jvm.Cond.and given_1 narrow_1).before args s = true from hpre))
  obtain ⟨h1, h2⟩ := and_e hg
  obtain ⟨w0, w1, w2, w3, w4, w5, rfl⟩ : ∃ w0 w1 w2 w3 w4 w5 : Value, args = #[w0, w1, w2, w3, w4, w5] := by
    have hs : args.size = 6 := by simpa [Cond.value, given_1] using h1
    obtain ⟨L⟩ := args
    match L, hs with
    | [w0, w1, w2, w3, w4, w5], _ => exact ⟨w0, w1, w2, w3, w4, w5, rfl⟩
  have hw := fun d (hd : d ∈ tables_1) => atoms_spec (ws := Jvm.Cond.code x code maxLocals ret :: tables_1) hat d (List.mem_cons_of_mem _ hd)
  obtain ⟨u0, r0⟩ := and_e h2
  obtain ⟨i0, e0⟩ := is_v u0
  obtain rfl : w0 = (.int i0) := Option.some.inj e0
  obtain ⟨u1, r1⟩ := and_e r0
  obtain ⟨i1, e1⟩ := isL_v u1
  obtain rfl : w1 = (.long i1) := Option.some.inj e1
  obtain ⟨u2, r2⟩ := and_e r1
  obtain ⟨i2, e2⟩ := isL_v u2
  obtain rfl : w2 = (.long i2) := Option.some.inj e2
  obtain ⟨u3, r3⟩ := and_e r2
  obtain ⟨i3, e3⟩ := isL_v u3
  obtain rfl : w3 = (.long i3) := Option.some.inj e3
  obtain ⟨u4, r4⟩ := and_e r3
  obtain ⟨i4, e4⟩ := isL_v u4
  obtain rfl : w4 = (.long i4) := Option.some.inj e4
  obtain ⟨i5, e5⟩ := isL_v r4
  obtain rfl : w5 = (.long i5) := Option.some.inj e5
  obtain ⟨hst, hown0⟩ := atoms_of _ (rest_1_c_eq ▸ (show rest_1_c.before _ s = true from hrest))
  obtain ⟨zc, ez⟩ := is_v (Cond.before_iff.mp (hst _ (List.mem_of_getElem? (i := 1) rfl)))
  have O2 : Sta s s.heap "java/lang/String" "COMPACT_STRINGS" "Z" (.int zc) := Sta.start ez (Or.inl (hst _ (List.mem_of_getElem? (i := 0) rfl)))
  have P5 : ¬ zc = 0 := gotF (Cond.eq_ints ez (Term.int_eval (0))) (not_v (Cond.before_iff.mp (hst _ (List.mem_of_getElem? (i := 2) rfl))))
  have hEL : EW s _ consts_1 := (EW.cons (w293 hw) (by decide) (EW.cons (w281 hw) (by decide) (EW.cons (w245 hw) (by decide) (EW.cons (w153 hw) (by decide) (EW.cons (w85 hw) (by decide) EW.nil)))))
  have hCH : CHv s consts_1 s.vm s.heap := CHv.start hEL hcalls.2.1 (hst _ (List.mem_of_getElem? (i := 2) rfl)) (w33 hw) (w16 hw)
  have hfit : Fit s := fun {y c} hc i hi => by
    obtain ⟨ha, rfl⟩ := Array.getElem?_eq_some_iff.mp hc
    have q := List.all_eq_true.mp ((Array.all_eq_true_iff_forall_mem.mp hF) _ (Array.getElem_mem ha)) i (List.mem_range.mpr hi)
    simpa [Array.getElem?_eq_getElem hi] using q
  have xD := Cond.before_iff.mp (hst _ (List.mem_of_getElem? (i := 15) rfl))
  obtain ⟨de, vD⟩ := arr_v xD
  have OD : Sta s s.heap "java/util/ArrayList" "DEFAULTCAPACITY_EMPTY_ELEMENTDATA" "[Ljava/lang/Object;" (.ref de) := Sta.start vD (Or.inr ⟨(w60 hw), hst _ (List.mem_of_getElem? (i := 11) rfl)⟩)
  obtain ⟨kde, AD⟩ := arv0 hfit vD xD (Cond.before_iff.mp (hst _ (List.mem_of_getElem? (i := 17) rfl)))
  have xM := Cond.before_iff.mp (hst _ (List.mem_of_getElem? (i := 27) rfl))
  obtain ⟨em, vM⟩ := exa_v xM
  have XM : Exa s s.heap em "java/lang/Object" := Exa.start vM xM
  have OM : Sta s s.heap "java/util/ImmutableCollections" "EMPTY" "Ljava/lang/Object;" (.ref em) := Sta.start vM (Or.inl (hst _ (List.mem_of_getElem? (i := 26) rfl)))
  have xL := Cond.before_iff.mp (hst _ (List.mem_of_getElem? (i := 20) rfl))
  obtain ⟨el, vL⟩ := exa_v xL
  have OL : Sta s s.heap "java/util/ImmutableCollections" "EMPTY_LIST" "Ljava/util/ImmutableCollections$ListN;" (.ref el) := Sta.start vL (Or.inl (hst _ (List.mem_of_getElem? (i := 19) rfl)))
  have XL : Exa s s.heap el "java/util/ImmutableCollections$ListN" := Exa.start vL xL
  have xE := Cond.before_iff.mp (hst _ (List.mem_of_getElem? (i := 21) rfl))
  obtain ⟨ee, vE⟩ := arr_v xE
  have FL : Fld s s.heap el "java/util/ImmutableCollections$ListN" "elements" "[Ljava/lang/Object;" (.ref ee) := Fld.start ((fld_at vL).symm.trans vE)
  obtain ⟨kee, AE⟩ := arv0 hfit vE xE (Cond.before_iff.mp (hst _ (List.mem_of_getElem? (i := 23) rfl)))
  obtain ⟨mr, MR⟩ : ∃ mr, Mir s "[Ljava/lang/Object;" mr := by obtain ⟨cc, kk, mm, q1, q2, q3, q4⟩ := hcalls.1; exact ⟨mm, cc, kk, q1, q2, q3, q4⟩
  obtain ⟨n, o, h1, h2, h3, v, L, rfl, ⟨⟨rfl, -⟩, N, -⟩, -, hq⟩ := rmLaw ⟨hw, hEL, O2, P5, OD, AD, XM, OM, OL, XL, FL, AE, MR⟩ i0 i1 i2 i3 i4 i5 s.heap (Old.start s) p e ha hc hk s m _ below hf ((Spec.applies_iff_loose hf).mp happ).1 ⟨rfl, State.Warmed39.refl s, rfl, hCH, fun _ q => nomatch q⟩ trivial
  refine ⟨n, _, h1, h2, h3, hpost _ _ _ _ _ _ ⟨Cond.after_iff.mpr rfl, Cond.after_iff.mpr (eq_i res_at (Term.int_eval (1)) rfl), trivial⟩ ⟨hq.1, hq.2.1, hq.2.2.1, (hq.2.2.2.sift fun y hy => Or.inr (N y hy)).mono (by decide) (by decide)⟩⟩
theorem main_1_1 : Claimed_1_1 := comes_1 fun _ _ _ _ _ _ h hF => ⟨h.1, hF⟩
theorem main_1_2 : Claimed_1_2 := comes_1 fun _ _ _ _ _ _ h hF => ⟨h.2.1, hF⟩
end Jvm.Pilot.@@N@@
namespace Jvm.Pilot.@@N@@
open Jvm Jvm.ClassFile Sem Op Lib Jvm.Free Jvm.Stand Jvm.Pilot.@@N@@.Jvm.D
/-! MADE BY PROGRAM (witnessworld.py) out of the Statement's table words and the real class files: 42 classes; the members and pool entries that the words name. The judged class is class 1, her method 6. -/
namespace start1
open Jvm.ClassFile
def u (s : String) : CpInfo := .utf8 (stringToUtf16 s)
/-- a pool by its gaps: so many unusable entries, then the entry; so many at the end -/
def gap : Nat → List CpInfo → List CpInfo
  | 0, r => r
  | n + 1, r => .unusable :: gap n r
def poolList (es : List (Nat × CpInfo)) (last : Nat) : List CpInfo := es.foldr (fun e r => gap e.1 (e.2 :: r)) (gap last [])
def pool (es : List (Nat × CpInfo)) (last : Nat) : Array CpInfo := ⟨poolList es last⟩
def fileOf (pool : Array CpInfo) (this : Nat) (attrs : Array Attribute := #[]) (ms : Array MethodInfo := #[]) (fl : Nat := 33) (sup : Nat := 0) (ifs : Array Nat := #[]) (fds : Array FieldInfo := #[]) : ClassFile where
  minorVersion := 0
  majorVersion := 65
  constantPool := pool
  accessFlags := fl
  thisClass := this
  superClass := sup
  interfaces := ifs
  fields := fds
  methods := ms
  attributes := attrs
def plain (name : String) (sup : Option ClassId) : Class where
  name := name
  kind := .ordinary
  loader := none
  accessFlags := 33
  super := sup
  interfaces := #[]
  cf := none
  fields := #[]
  methods := #[]
  instanceTypes := #[]
  staticTypes := #[]
  resolved := #[]
  callSites := []
  init := .initialized
  statics := none
  mirror := none

def pool0 : Array CpInfo := pool [(5, u "<init>"), (0, u "()V"), (1, .class_ 10), (1, u "java/lang/Object"), (0, u "getClass"), (0, u "()Ljava/lang/Class;")] 111

def k0c0 : Code := { maxStack := 0, maxLocals := 1, code := object_method_1_code, exceptionTable := #[], attributes := #[] }
def k0m0 : Method := { name := "<init>", desc := "()V", sig := { parameters := [], returnType := none }, accessFlags := 1, code := some k0c0 }
def k0m1 : Method := { name := "getClass", desc := "()Ljava/lang/Class;", sig := { parameters := [], returnType := some (.object "java/lang/Class") }, accessFlags := 273, code := none }
/-- java/lang/Object -/
def k0 : Class := { plain "java/lang/Object" none with
  accessFlags := 33
  interfaces := #[]
  cf := some (fileOf pool0 8 #[] #[{ accessFlags := 1, nameIndex := 5, descriptorIndex := 6, attributes := #[] }, { accessFlags := 273, nameIndex := 11, descriptorIndex := 12, attributes := #[] }] 33 0 #[] #[])
  fields := #[]
  methods := #[k0m0, k0m1]
  instanceTypes := #[]
  staticTypes := #[]
  resolved := Array.replicate 124 none
  statics := none }

def pool1 : Array CpInfo := pool [(2, .class_ 4), (0, .nameAndType 5 6), (0, u "java/lang/Object"), (0, u "<init>"), (0, u "()V"), (0, .long 255), (1, .long 3), (1, .methodref 12 13), (0, .class_ 14), (0, .nameAndType 15 16), (0, u "com/example/packwright/packwright/io/BuildAssemblerRoutineOfLinePinLaw"), (0, u "mode"), (0, u "(J)I"), (0, .string 18), (0, u "RTN"), (0, .string 20), (0, u "0"), (0, .methodref 12 22), (0, .nameAndType 23 24), (0, u "ch"), (0, u "(JI)C"), (0, .class_ 26), (0, u "java/lang/String"), (0, .methodref 25 28), (0, .nameAndType 5 29), (0, u "([C)V"), (0, .methodref 25 31), (0, .nameAndType 32 33), (0, u "valueOf"), (0, u "(C)Ljava/lang/String;"), (0, .integer 2147483647), (0, .methodref 12 36), (0, .nameAndType 37 38), (0, u "sub"), (0, u "(J)Ljava/lang/String;"), (0, .class_ 40), (0, u "java/util/ArrayList"), (0, .methodref 39 3), (0, .methodref 39 43), (0, .nameAndType 44 45), (0, u "add"), (0, u "(Ljava/lang/Object;)Z"), (0, .class_ 47), (0, u "com/example/packwright/packwright/model/Node"), (0, .string 49), (0, u ""), (0, .methodref 46 51), (0, .nameAndType 5 52), (0, u "(Ljava/lang/String;Ljava/util/List;Ljava/lang/String;)V"), (0, .methodref 54 55), (0, .class_ 56), (0, .nameAndType 57 58), (0, u "com/example/packwright/packwright/io/BuildAssembler"), (0, u "routineOfLine"), (0, u "(Lcom/example/packwright/packwright/model/Node;)Ljava/lang/String;"), (0, .methodref 12 60), (0, .nameAndType 61 62), (0, u "isRtn"), (0, u "(J)Z"), (0, .methodref 12 64), (0, .nameAndType 65 62), (0, u "isZero"), (0, .methodref 25 67), (0, .nameAndType 68 45), (0, u "equals"), (3, u "law"), (0, u "(IJJJJJ)Z")] 4

def k1m0 : Method := { name := "<init>", desc := "()V", sig := { parameters := [], returnType := none }, accessFlags := 1, code := none }
def k1c1 : Code := { maxStack := 4, maxLocals := 3, code := method_2_code, exceptionTable := #[], attributes := #[] }
def k1m1 : Method := { name := "ch", desc := "(JI)C", sig := { parameters := [.long, .int], returnType := some .char }, accessFlags := 10, code := some k1c1 }
def k1c2 : Code := { maxStack := 4, maxLocals := 2, code := method_3_code, exceptionTable := #[], attributes := #[] }
def k1m2 : Method := { name := "mode", desc := "(J)I", sig := { parameters := [.long], returnType := some .int }, accessFlags := 10, code := some k1c2 }
def k1c3 : Code := { maxStack := 5, maxLocals := 4, code := method_4_code, exceptionTable := #[], attributes := #[] }
def k1m3 : Method := { name := "sub", desc := "(J)Ljava/lang/String;", sig := { parameters := [.long], returnType := some (.object "java/lang/String") }, accessFlags := 10, code := some k1c3 }
def k1c4 : Code := { maxStack := 3, maxLocals := 3, code := method_5_code, exceptionTable := #[], attributes := #[] }
def k1m4 : Method := { name := "isRtn", desc := "(J)Z", sig := { parameters := [.long], returnType := some .boolean }, accessFlags := 10, code := some k1c4 }
def k1c5 : Code := { maxStack := 3, maxLocals := 3, code := method_6_code, exceptionTable := #[], attributes := #[] }
def k1m5 : Method := { name := "isZero", desc := "(J)Z", sig := { parameters := [.long], returnType := some .boolean }, accessFlags := 10, code := some k1c5 }
def k1c6 : Code := { maxStack := 5, maxLocals := 17, code := code, exceptionTable := #[], attributes := #[] }
def k1m6 : Method := { name := "law", desc := "(IJJJJJ)Z", sig := { parameters := [.int, .long, .long, .long, .long, .long], returnType := some .boolean }, accessFlags := 9, code := some k1c6 }
/-- com/example/packwright/packwright/io/BuildAssemblerRoutineOfLinePinLaw -/
def k1 : Class := { plain "com/example/packwright/packwright/io/BuildAssemblerRoutineOfLinePinLaw" (some 0) with
  accessFlags := 49
  interfaces := #[]
  cf := some (fileOf pool1 12 #[] #[{ accessFlags := 1, nameIndex := 5, descriptorIndex := 6, attributes := #[] }, { accessFlags := 10, nameIndex := 23, descriptorIndex := 24, attributes := #[] }, { accessFlags := 10, nameIndex := 15, descriptorIndex := 16, attributes := #[] }, { accessFlags := 10, nameIndex := 37, descriptorIndex := 38, attributes := #[] }, { accessFlags := 10, nameIndex := 61, descriptorIndex := 62, attributes := #[] }, { accessFlags := 10, nameIndex := 65, descriptorIndex := 62, attributes := #[] }, { accessFlags := 9, nameIndex := 72, descriptorIndex := 73, attributes := #[] }] 49 2 #[] #[])
  fields := #[]
  methods := #[k1m0, k1m1, k1m2, k1m3, k1m4, k1m5, k1m6]
  instanceTypes := #[]
  staticTypes := #[]
  resolved := Array.replicate 78 none
  statics := none }

def pool2 : Array CpInfo := pool [(1, .class_ 2), (0, u "java/io/Serializable"), (0, .class_ 4), (0, u "java/lang/Object")] 2

/-- java/io/Serializable -/
def k2 : Class := { plain "java/io/Serializable" (some 0) with
  accessFlags := 1537
  interfaces := #[]
  cf := some (fileOf pool2 1 #[] #[] 1537 3 #[] #[])
  fields := #[]
  methods := #[]
  instanceTypes := #[]
  staticTypes := #[]
  resolved := Array.replicate 7 none
  statics := none }

def pool3 : Array CpInfo := pool [(1, .class_ 2), (0, u "java/lang/Comparable"), (0, .class_ 4), (0, u "java/lang/Object")] 7

/-- java/lang/Comparable -/
def k3 : Class := { plain "java/lang/Comparable" (some 0) with
  accessFlags := 1537
  interfaces := #[]
  cf := some (fileOf pool3 1 #[] #[] 1537 3 #[] #[])
  fields := #[]
  methods := #[]
  instanceTypes := #[]
  staticTypes := #[]
  resolved := Array.replicate 12 none
  statics := none }

def pool4 : Array CpInfo := pool [(2, .class_ 4), (1, u "java/lang/CharSequence"), (42, .class_ 48), (0, u "java/lang/CharSequence$1CodePointIterator"), (10, .class_ 60), (0, u "java/lang/CharSequence$1CharIterator"), (5, .class_ 67), (0, u "java/lang/Object")] 63

/-- java/lang/CharSequence -/
def k4 : Class := { plain "java/lang/CharSequence" (some 0) with
  accessFlags := 1537
  interfaces := #[]
  cf := some (fileOf pool4 2 #[.nestMembers #[47, 59]] #[] 1537 66 #[] #[])
  fields := #[]
  methods := #[]
  instanceTypes := #[]
  staticTypes := #[]
  resolved := Array.replicate 131 none
  statics := none }

def pool5 : Array CpInfo := pool [(1, .class_ 2), (0, u "java/lang/constant/Constable"), (0, .class_ 4), (0, u "java/lang/Object")] 6

/-- java/lang/constant/Constable -/
def k5 : Class := { plain "java/lang/constant/Constable" (some 0) with
  accessFlags := 1537
  interfaces := #[]
  cf := some (fileOf pool5 1 #[] #[] 1537 3 #[] #[])
  fields := #[]
  methods := #[]
  instanceTypes := #[]
  staticTypes := #[]
  resolved := Array.replicate 11 none
  statics := none }

def pool6 : Array CpInfo := pool [(1, .class_ 2), (0, u "java/lang/constant/ConstantDesc"), (0, .class_ 4), (0, u "java/lang/Object")] 32

/-- java/lang/constant/ConstantDesc -/
def k6 : Class := { plain "java/lang/constant/ConstantDesc" (some 0) with
  accessFlags := 1537
  interfaces := #[]
  cf := some (fileOf pool6 1 #[] #[] 1537 3 #[] #[])
  fields := #[]
  methods := #[]
  instanceTypes := #[]
  staticTypes := #[]
  resolved := Array.replicate 37 none
  statics := none }

def pool7 : Array CpInfo := pool [(1, .methodref 2 3), (0, .class_ 4), (0, .nameAndType 5 6), (0, u "java/lang/Object"), (0, u "<init>"), (0, u "()V"), (2, .fieldref 10 11), (0, .class_ 12), (0, .nameAndType 13 14), (0, u "java/lang/String"), (0, u "value"), (0, u "[B"), (0, .fieldref 10 16), (0, .nameAndType 17 18), (0, u "coder"), (0, u "B"), (2, u "hash"), (0, u "I"), (2, u "hashIsZero"), (0, u "Z"), (0, .methodref 10 28), (0, .nameAndType 5 29), (0, u "([CIILjava/lang/Void;)V"), (8, .fieldref 10 39), (0, .nameAndType 40 26), (0, u "COMPACT_STRINGS"), (1, .class_ 44), (1, u "java/lang/StringUTF16"), (0, u "compress"), (1, .methodref 42 48), (0, .nameAndType 49 50), (0, u "coderFromArrayLen"), (0, u "([BI)B"), (2, u "toBytes"), (53, .class_ 109), (1, u "java/lang/StringLatin1"), (67, .methodref 42 178), (0, .nameAndType 45 179), (0, u "([CII)[B"), (29, .methodref 10 210), (0, .nameAndType 5 211), (0, u "([BB)V"), (157, u "(C)Z"), (171, .methodref 107 542), (0, .nameAndType 543 544), (0, u "equals"), (0, u "([B[B)Z"), (28, u "(Ljava/lang/Object;)Z"), (1, .class_ 576), (0, u "java/lang/CharSequence"), (22, u "CASE_INSENSITIVE_ORDER"), (0, u "Ljava/util/Comparator;"), (181, u "valueOf"), (0, u "(C)Ljava/lang/String;"), (226, u "([C)V"), (4, .methodref 107 1016), (0, .nameAndType 1017 369), (0, u "canEncode"), (0, .methodref 107 1019), (0, .nameAndType 53 1020), (0, u "(C)[B"), (80, u "serialPersistentFields"), (0, u "[Ljava/io/ObjectStreamField;"), (0, .class_ 1104), (0, u "java/lang/String$CaseInsensitiveComparator"), (1, .class_ 1107), (0, u "java/io/Serializable"), (0, .class_ 1109), (0, u "java/lang/Comparable"), (0, .class_ 1111), (0, u "java/lang/constant/Constable"), (0, .class_ 1113), (0, u "java/lang/constant/ConstantDesc"), (2, u "serialVersionUID"), (0, u "J"), (3, u "REPL"), (0, u "C"), (2, u "LATIN1"), (1, u "UTF16")] 323

def k7m0 : Method := { name := "<init>", desc := "()V", sig := { parameters := [], returnType := none }, accessFlags := 1, code := none }
def k7c1 : Code := { maxStack := 5, maxLocals := 2, code := jdk_42_method_3_code, exceptionTable := #[], attributes := #[] }
def k7m1 : Method := { name := "<init>", desc := "([C)V", sig := { parameters := [(.array .char)], returnType := none }, accessFlags := 1, code := some k7c1 }
def k7c2 : Code := { maxStack := 2, maxLocals := 3, code := jdk_42_method_66_code, exceptionTable := #[], attributes := #[] }
def k7m2 : Method := { name := "equals", desc := "(Ljava/lang/Object;)Z", sig := { parameters := [(.object "java/lang/Object")], returnType := some .boolean }, accessFlags := 1, code := some k7c2 }
def k7c3 : Code := { maxStack := 4, maxLocals := 1, code := jdk_42_method_139_code, exceptionTable := #[], attributes := #[] }
def k7m3 : Method := { name := "valueOf", desc := "(C)Ljava/lang/String;", sig := { parameters := [.char], returnType := some (.object "java/lang/String") }, accessFlags := 9, code := some k7c3 }
def k7c4 : Code := { maxStack := 4, maxLocals := 6, code := jdk_42_method_149_code, exceptionTable := #[], attributes := #[] }
def k7m4 : Method := { name := "<init>", desc := "([CIILjava/lang/Void;)V", sig := { parameters := [(.array .char), .int, .int, (.object "java/lang/Void")], returnType := none }, accessFlags := 2, code := some k7c4 }
def k7c5 : Code := { maxStack := 2, maxLocals := 3, code := jdk_42_method_151_code, exceptionTable := #[], attributes := #[] }
def k7m5 : Method := { name := "<init>", desc := "([BB)V", sig := { parameters := [(.array .byte), .byte], returnType := none }, accessFlags := 0, code := some k7c5 }
/-- java/lang/String -/
def k7 : Class := { plain "java/lang/String" (some 0) with
  accessFlags := 49
  interfaces := #[2, 3, 4, 5, 6]
  cf := some (fileOf pool7 10 #[.nestMembers #[1103]] #[{ accessFlags := 1, nameIndex := 5, descriptorIndex := 6, attributes := #[] }, { accessFlags := 1, nameIndex := 5, descriptorIndex := 1010, attributes := #[] }, { accessFlags := 1, nameIndex := 543, descriptorIndex := 573, attributes := #[] }, { accessFlags := 9, nameIndex := 782, descriptorIndex := 783, attributes := #[] }, { accessFlags := 2, nameIndex := 5, descriptorIndex := 29, attributes := #[] }, { accessFlags := 0, nameIndex := 5, descriptorIndex := 211, attributes := #[] }] 49 2 #[1106, 1108, 575, 1110, 1112] #[{ accessFlags := 18, nameIndex := 13, descriptorIndex := 14, attributes := #[] }, { accessFlags := 18, nameIndex := 17, descriptorIndex := 18, attributes := #[] }, { accessFlags := 2, nameIndex := 21, descriptorIndex := 22, attributes := #[] }, { accessFlags := 2, nameIndex := 25, descriptorIndex := 26, attributes := #[] }, { accessFlags := 26, nameIndex := 1116, descriptorIndex := 1117, attributes := #[] }, { accessFlags := 24, nameIndex := 40, descriptorIndex := 26, attributes := #[] }, { accessFlags := 26, nameIndex := 1101, descriptorIndex := 1102, attributes := #[] }, { accessFlags := 26, nameIndex := 1121, descriptorIndex := 1122, attributes := #[] }, { accessFlags := 25, nameIndex := 599, descriptorIndex := 600, attributes := #[] }, { accessFlags := 24, nameIndex := 1125, descriptorIndex := 18, attributes := #[] }, { accessFlags := 24, nameIndex := 1127, descriptorIndex := 18, attributes := #[] }])
  fields := #[{ name := "value", type := (.array .byte), accessFlags := 18, slot := 0, constantValue := 0 }, { name := "coder", type := .byte, accessFlags := 18, slot := 1, constantValue := 0 }, { name := "hash", type := .int, accessFlags := 2, slot := 2, constantValue := 0 }, { name := "hashIsZero", type := .boolean, accessFlags := 2, slot := 3, constantValue := 0 }, { name := "serialVersionUID", type := .long, accessFlags := 26, slot := 0, constantValue := 0 }, { name := "COMPACT_STRINGS", type := .boolean, accessFlags := 24, slot := 1, constantValue := 0 }, { name := "serialPersistentFields", type := (.array (.object "java/io/ObjectStreamField")), accessFlags := 26, slot := 2, constantValue := 0 }, { name := "REPL", type := .char, accessFlags := 26, slot := 3, constantValue := 0 }, { name := "CASE_INSENSITIVE_ORDER", type := (.object "java/util/Comparator"), accessFlags := 25, slot := 4, constantValue := 0 }, { name := "LATIN1", type := .byte, accessFlags := 24, slot := 5, constantValue := 0 }, { name := "UTF16", type := .byte, accessFlags := 24, slot := 6, constantValue := 0 }]
  methods := #[k7m0, k7m1, k7m2, k7m3, k7m4, k7m5]
  instanceTypes := #[(.array .byte), .byte, .int, .boolean]
  staticTypes := #[.long, .boolean, (.array (.object "java/io/ObjectStreamField")), .char, (.object "java/util/Comparator"), .byte, .byte]
  resolved := Array.replicate 1451 none
  statics := some 0 }

def pool8 : Array CpInfo := pool [(6, .class_ 8), (1, u "java/lang/Object"), (0, u "<init>"), (0, u "()V"), (1, .class_ 14), (1, u "java/lang/StringUTF16"), (31, u "$assertionsDisabled"), (0, u "Z"), (13, u "HI_BYTE_SHIFT"), (0, u "I"), (2, u "LO_BYTE_SHIFT"), (49, .methodref 12 116), (0, .nameAndType 117 118), (0, u "compress"), (0, u "([CI[BII)I"), (3, u "([CII)[B"), (138, u "coderFromArrayLen"), (0, u "([BI)B"), (106, .class_ 371), (1, u "java/lang/StringUTF16$LinesSpliterator"), (58, u "MAX_LENGTH"), (196, .class_ 628), (0, u "java/lang/StringUTF16$CodePointsSpliterator"), (0, .class_ 630), (0, u "java/lang/StringUTF16$CharsSpliterator")] 4

def k8m0 : Method := { name := "<init>", desc := "()V", sig := { parameters := [], returnType := none }, accessFlags := 0, code := none }
def k8c1 : Code := { maxStack := 2, maxLocals := 2, code := jdk_52_method_15_code, exceptionTable := #[], attributes := #[] }
def k8m1 : Method := { name := "coderFromArrayLen", desc := "([BI)B", sig := { parameters := [(.array .byte), .int], returnType := some .byte }, accessFlags := 8, code := some k8c1 }
def k8c2 : Code := { maxStack := 5, maxLocals := 6, code := jdk_52_method_16_code, exceptionTable := #[], attributes := #[] }
def k8m2 : Method := { name := "compress", desc := "([CII)[B", sig := { parameters := [(.array .char), .int, .int], returnType := some (.array .byte) }, accessFlags := 9, code := some k8c2 }
def k8c3 : Code := { maxStack := 3, maxLocals := 7, code := jdk_52_method_21_code, exceptionTable := #[], attributes := #[] }
def k8m3 : Method := { name := "compress", desc := "([CI[BII)I", sig := { parameters := [(.array .char), .int, (.array .byte), .int, .int], returnType := some .int }, accessFlags := 9, code := some k8c3 }
/-- java/lang/StringUTF16 -/
def k8 : Class := { plain "java/lang/StringUTF16" (some 0) with
  accessFlags := 48
  interfaces := #[]
  cf := some (fileOf pool8 12 #[.nestMembers #[627, 629, 369]] #[{ accessFlags := 0, nameIndex := 9, descriptorIndex := 10, attributes := #[] }, { accessFlags := 8, nameIndex := 261, descriptorIndex := 262, attributes := #[] }, { accessFlags := 9, nameIndex := 117, descriptorIndex := 122, attributes := #[] }, { accessFlags := 9, nameIndex := 117, descriptorIndex := 118, attributes := #[] }] 48 6 #[] #[{ accessFlags := 26, nameIndex := 61, descriptorIndex := 62, attributes := #[] }, { accessFlags := 26, nameIndex := 65, descriptorIndex := 62, attributes := #[] }, { accessFlags := 24, nameIndex := 430, descriptorIndex := 62, attributes := #[] }, { accessFlags := 4120, nameIndex := 46, descriptorIndex := 47, attributes := #[] }])
  fields := #[{ name := "HI_BYTE_SHIFT", type := .int, accessFlags := 26, slot := 0, constantValue := 0 }, { name := "LO_BYTE_SHIFT", type := .int, accessFlags := 26, slot := 1, constantValue := 0 }, { name := "MAX_LENGTH", type := .int, accessFlags := 24, slot := 2, constantValue := 0 }, { name := "$assertionsDisabled", type := .boolean, accessFlags := 4120, slot := 3, constantValue := 0 }]
  methods := #[k8m0, k8m1, k8m2, k8m3]
  instanceTypes := #[]
  staticTypes := #[.int, .int, .int, .boolean]
  resolved := Array.replicate 635 none
  statics := none }

def pool9 : Array CpInfo := pool [(4, .class_ 6), (1, u "java/lang/Object"), (0, u "<init>"), (0, u "()V"), (5, .class_ 16), (1, u "java/lang/StringLatin1"), (73, u "canEncode"), (14, u "(C)Z"), (15, u "$assertionsDisabled"), (0, u "Z"), (98, .class_ 223), (1, u "java/lang/StringLatin1$LinesSpliterator"), (57, u "equals"), (0, u "([B[B)Z"), (97, u "toBytes"), (1, u "(C)[B"), (7, .class_ 391), (0, u "java/lang/StringLatin1$CharsSpliterator")] 3

def k9m0 : Method := { name := "<init>", desc := "()V", sig := { parameters := [], returnType := none }, accessFlags := 0, code := none }
def k9c1 : Code := { maxStack := 2, maxLocals := 1, code := jdk_43_method_3_code, exceptionTable := #[], attributes := #[] }
def k9m1 : Method := { name := "canEncode", desc := "(C)Z", sig := { parameters := [.char], returnType := some .boolean }, accessFlags := 9, code := some k9c1 }
def k9c2 : Code := { maxStack := 3, maxLocals := 3, code := jdk_43_method_13_code, exceptionTable := #[], attributes := #[] }
def k9m2 : Method := { name := "equals", desc := "([B[B)Z", sig := { parameters := [(.array .byte), (.array .byte)], returnType := some .boolean }, accessFlags := 9, code := some k9c2 }
def k9c3 : Code := { maxStack := 4, maxLocals := 1, code := jdk_43_method_46_code, exceptionTable := #[], attributes := #[] }
def k9m3 : Method := { name := "toBytes", desc := "(C)[B", sig := { parameters := [.char], returnType := some (.array .byte) }, accessFlags := 9, code := some k9c3 }
/-- java/lang/StringLatin1 -/
def k9 : Class := { plain "java/lang/StringLatin1" (some 0) with
  accessFlags := 48
  interfaces := #[]
  cf := some (fileOf pool9 14 #[.nestMembers #[390, 221]] #[{ accessFlags := 0, nameIndex := 7, descriptorIndex := 8, attributes := #[] }, { accessFlags := 9, nameIndex := 90, descriptorIndex := 105, attributes := #[] }, { accessFlags := 9, nameIndex := 281, descriptorIndex := 282, attributes := #[] }, { accessFlags := 9, nameIndex := 380, descriptorIndex := 382, attributes := #[] }] 48 4 #[] #[{ accessFlags := 4120, nameIndex := 121, descriptorIndex := 122, attributes := #[] }])
  fields := #[{ name := "$assertionsDisabled", type := .boolean, accessFlags := 4120, slot := 0, constantValue := 0 }]
  methods := #[k9m0, k9m1, k9m2, k9m3]
  instanceTypes := #[]
  staticTypes := #[.boolean]
  resolved := Array.replicate 395 none
  statics := none }

def pool10 : Array CpInfo := pool [(8, .class_ 10), (1, u "java/lang/Iterable"), (24, .class_ 36), (0, u "java/lang/Object")] 25

/-- java/lang/Iterable -/
def k10 : Class := { plain "java/lang/Iterable" (some 0) with
  accessFlags := 1537
  interfaces := #[]
  cf := some (fileOf pool10 8 #[] #[] 1537 35 #[] #[])
  fields := #[]
  methods := #[]
  instanceTypes := #[]
  staticTypes := #[]
  resolved := Array.replicate 62 none
  statics := none }

def pool11 : Array CpInfo := pool [(10, .class_ 12), (1, u "java/util/Collection"), (0, u "toArray"), (16, u "()Z"), (29, .class_ 61), (0, u "java/lang/Object"), (0, .class_ 63), (0, u "java/lang/Iterable"), (2, u "isEmpty"), (3, u "()[Ljava/lang/Object;")] 44

def k11m0 : Method := { name := "isEmpty", desc := "()Z", sig := { parameters := [], returnType := some .boolean }, accessFlags := 1025, code := none }
def k11m1 : Method := { name := "toArray", desc := "()[Ljava/lang/Object;", sig := { parameters := [], returnType := some (.array (.object "java/lang/Object")) }, accessFlags := 1025, code := none }
/-- java/util/Collection -/
def k11 : Class := { plain "java/util/Collection" (some 0) with
  accessFlags := 1537
  interfaces := #[10]
  cf := some (fileOf pool11 10 #[] #[{ accessFlags := 1025, nameIndex := 66, descriptorIndex := 30, attributes := #[] }, { accessFlags := 1025, nameIndex := 13, descriptorIndex := 70, attributes := #[] }] 1537 60 #[62] #[])
  fields := #[]
  methods := #[k11m0, k11m1]
  instanceTypes := #[]
  staticTypes := #[]
  resolved := Array.replicate 115 none
  statics := none }

def pool12 : Array CpInfo := pool [(1, .methodref 2 3), (0, .class_ 4), (0, .nameAndType 5 6), (0, u "java/lang/Object"), (0, u "<init>"), (0, u "()V"), (1, .class_ 10), (1, u "java/util/AbstractCollection"), (66, .class_ 78), (0, u "java/util/Collection")] 81

def k12c0 : Code := { maxStack := 1, maxLocals := 1, code := jdk_22_method_1_code, exceptionTable := #[], attributes := #[] }
def k12m0 : Method := { name := "<init>", desc := "()V", sig := { parameters := [], returnType := none }, accessFlags := 4, code := some k12c0 }
/-- java/util/AbstractCollection -/
def k12 : Class := { plain "java/util/AbstractCollection" (some 0) with
  accessFlags := 1057
  interfaces := #[11]
  cf := some (fileOf pool12 8 #[] #[{ accessFlags := 4, nameIndex := 5, descriptorIndex := 6, attributes := #[] }] 1057 2 #[77] #[])
  fields := #[]
  methods := #[k12m0]
  instanceTypes := #[]
  staticTypes := #[]
  resolved := Array.replicate 160 none
  statics := none }

def pool13 : Array CpInfo := pool [(8, .class_ 10), (1, u "java/util/SequencedCollection"), (15, .class_ 27), (0, u "java/lang/Object"), (0, .class_ 29), (0, u "java/util/Collection")] 27

/-- java/util/SequencedCollection -/
def k13 : Class := { plain "java/util/SequencedCollection" (some 0) with
  accessFlags := 1537
  interfaces := #[11]
  cf := some (fileOf pool13 8 #[] #[] 1537 26 #[28] #[])
  fields := #[]
  methods := #[]
  instanceTypes := #[]
  staticTypes := #[]
  resolved := Array.replicate 57 none
  statics := none }

def pool14 : Array CpInfo := pool [(8, .class_ 10), (1, u "java/util/List"), (20, u "(Ljava/lang/Object;)V"), (16, u "<init>"), (26, u "get"), (0, u "(I)Ljava/lang/Object;"), (2, u "size"), (0, u "()I"), (7, u "of"), (1, .fieldref 91 92), (0, .class_ 93), (0, .nameAndType 94 95), (0, u "java/util/ImmutableCollections"), (0, u "EMPTY_LIST"), (0, u "Ljava/util/ImmutableCollections$ListN;"), (0, .class_ 97), (0, u "java/util/ImmutableCollections$List12"), (0, .methodref 96 99), (0, .nameAndType 48 31), (0, .methodref 96 101), (0, .nameAndType 48 102), (0, u "(Ljava/lang/Object;Ljava/lang/Object;)V"), (0, .class_ 104), (0, u "java/lang/Object"), (3, u "([Ljava/lang/Object;)Ljava/util/List;"), (0, .methodref 91 110), (0, .nameAndType 111 108), (0, u "listFromArray"), (0, .methodref 91 113), (0, .nameAndType 114 115), (0, u "listCopy"), (0, u "(Ljava/util/Collection;)Ljava/util/List;"), (3, u "()Ljava/util/List;"), (0, .class_ 121), (0, u "java/util/SequencedCollection"), (112, u "copyOf")] 16

def k14m0 : Method := { name := "size", desc := "()I", sig := { parameters := [], returnType := some .int }, accessFlags := 1025, code := none }
def k14m1 : Method := { name := "get", desc := "(I)Ljava/lang/Object;", sig := { parameters := [.int], returnType := some (.object "java/lang/Object") }, accessFlags := 1025, code := none }
def k14c2 : Code := { maxStack := 1, maxLocals := 0, code := jdk_40_method_36_code, exceptionTable := #[], attributes := #[] }
def k14m2 : Method := { name := "of", desc := "()Ljava/util/List;", sig := { parameters := [], returnType := some (.object "java/util/List") }, accessFlags := 9, code := some k14c2 }
def k14c3 : Code := { maxStack := 5, maxLocals := 2, code := jdk_40_method_47_code, exceptionTable := #[], attributes := #[] }
def k14m3 : Method := { name := "of", desc := "([Ljava/lang/Object;)Ljava/util/List;", sig := { parameters := [(.array (.object "java/lang/Object"))], returnType := some (.object "java/util/List") }, accessFlags := 137, code := some k14c3 }
def k14c4 : Code := { maxStack := 1, maxLocals := 1, code := jdk_40_method_48_code, exceptionTable := #[], attributes := #[] }
def k14m4 : Method := { name := "copyOf", desc := "(Ljava/util/Collection;)Ljava/util/List;", sig := { parameters := [(.object "java/util/Collection")], returnType := some (.object "java/util/List") }, accessFlags := 9, code := some k14c4 }
/-- java/util/List -/
def k14 : Class := { plain "java/util/List" (some 0) with
  accessFlags := 1537
  interfaces := #[13]
  cf := some (fileOf pool14 8 #[] #[{ accessFlags := 1025, nameIndex := 79, descriptorIndex := 80, attributes := #[] }, { accessFlags := 1025, nameIndex := 75, descriptorIndex := 76, attributes := #[] }, { accessFlags := 9, nameIndex := 88, descriptorIndex := 119, attributes := #[] }, { accessFlags := 137, nameIndex := 88, descriptorIndex := 108, attributes := #[] }, { accessFlags := 9, nameIndex := 234, descriptorIndex := 115, attributes := #[] }] 1537 103 #[120] #[])
  fields := #[]
  methods := #[k14m0, k14m1, k14m2, k14m3, k14m4]
  instanceTypes := #[]
  staticTypes := #[]
  resolved := Array.replicate 251 none
  statics := none }

def pool15 : Array CpInfo := pool [(1, .methodref 2 3), (0, .class_ 4), (0, .nameAndType 5 6), (0, u "java/util/AbstractCollection"), (0, u "<init>"), (0, u "()V"), (0, .fieldref 8 9), (0, .class_ 10), (0, .nameAndType 11 12), (0, u "java/util/AbstractList"), (0, u "modCount"), (0, u "I"), (64, .class_ 78), (0, u "java/util/AbstractList$Itr"), (3, .class_ 83), (0, u "java/util/AbstractList$ListItr"), (9, .class_ 94), (0, u "java/util/AbstractList$RandomAccessSubList"), (3, .class_ 99), (0, u "java/util/AbstractList$SubList"), (33, .class_ 134), (0, u "java/util/List"), (73, .class_ 209), (0, u "java/util/AbstractList$SubList$1"), (0, .class_ 211), (0, u "java/util/AbstractList$RandomAccessSpliterator")] 6

def k15c0 : Code := { maxStack := 2, maxLocals := 1, code := jdk_39_method_1_code, exceptionTable := #[], attributes := #[] }
def k15m0 : Method := { name := "<init>", desc := "()V", sig := { parameters := [], returnType := none }, accessFlags := 4, code := some k15c0 }
/-- java/util/AbstractList -/
def k15 : Class := { plain "java/util/AbstractList" (some 12) with
  accessFlags := 1057
  interfaces := #[14]
  cf := some (fileOf pool15 8 #[.nestMembers #[93, 98, 208, 210, 82, 77]] #[{ accessFlags := 4, nameIndex := 5, descriptorIndex := 6, attributes := #[] }] 1057 2 #[133] #[{ accessFlags := 132, nameIndex := 11, descriptorIndex := 12, attributes := #[] }])
  fields := #[{ name := "modCount", type := .int, accessFlags := 132, slot := 0, constantValue := 0 }]
  methods := #[k15m0]
  instanceTypes := #[.int]
  staticTypes := #[]
  resolved := Array.replicate 218 none
  statics := none }

def pool16 : Array CpInfo := pool [(1, .class_ 2), (0, u "java/util/RandomAccess"), (0, .class_ 4), (0, u "java/lang/Object")] 2

/-- java/util/RandomAccess -/
def k16 : Class := { plain "java/util/RandomAccess" (some 0) with
  accessFlags := 1537
  interfaces := #[]
  cf := some (fileOf pool16 1 #[] #[] 1537 3 #[] #[])
  fields := #[]
  methods := #[]
  instanceTypes := #[]
  staticTypes := #[]
  resolved := Array.replicate 7 none
  statics := none }

def pool17 : Array CpInfo := pool [(1, .class_ 2), (0, u "java/lang/Cloneable"), (0, .class_ 4), (0, u "java/lang/Object")] 2

/-- java/lang/Cloneable -/
def k17 : Class := { plain "java/lang/Cloneable" (some 0) with
  accessFlags := 1537
  interfaces := #[]
  cf := some (fileOf pool17 1 #[] #[] 1537 3 #[] #[])
  fields := #[]
  methods := #[]
  instanceTypes := #[]
  staticTypes := #[]
  resolved := Array.replicate 7 none
  statics := none }

def pool18 : Array CpInfo := pool [(1, .methodref 2 3), (0, .class_ 4), (0, .nameAndType 5 6), (0, u "java/util/AbstractList"), (0, u "<init>"), (0, u "()V"), (0, .class_ 8), (0, u "java/lang/Object"), (0, .fieldref 10 11), (0, .class_ 12), (0, .nameAndType 13 14), (0, u "java/util/ArrayList"), (0, u "elementData"), (0, u "[Ljava/lang/Object;"), (2, u "EMPTY_ELEMENTDATA"), (21, .fieldref 10 40), (0, .nameAndType 41 14), (0, u "DEFAULTCAPACITY_EMPTY_ELEMENTDATA"), (4, u "toArray"), (0, u "()[Ljava/lang/Object;"), (0, .fieldref 10 49), (0, .nameAndType 50 51), (0, u "size"), (0, u "I"), (6, .class_ 60), (1, u "java/util/Arrays"), (0, u "copyOf"), (1, .fieldref 10 64), (0, .nameAndType 65 51), (0, u "modCount"), (0, .methodref 58 67), (0, .nameAndType 61 68), (0, u "([Ljava/lang/Object;I)[Ljava/lang/Object;"), (0, .methodref 10 70), (0, .nameAndType 71 72), (0, u "grow"), (0, u "(I)[Ljava/lang/Object;"), (6, .methodref 80 81), (0, .class_ 82), (0, .nameAndType 83 84), (0, u "java/lang/Math"), (0, u "max"), (0, u "(II)I"), (11, u "(Ljava/lang/Object;)Z"), (32, .methodref 10 130), (0, .nameAndType 71 47), (0, .methodref 10 132), (0, .nameAndType 133 134), (0, u "add"), (0, u "(Ljava/lang/Object;[Ljava/lang/Object;I)V"), (13, .class_ 149), (0, u "java/util/List"), (23, u "()Z"), (88, .class_ 263), (0, u "java/util/ArrayList$ListItr"), (3, .class_ 268), (0, u "java/util/ArrayList$Itr"), (7, .class_ 277), (0, u "java/util/ArrayList$SubList"), (12, .class_ 291), (0, u "java/util/ArrayList$ArrayListSpliterator"), (37, .class_ 330), (0, u "java/util/RandomAccess"), (0, .class_ 332), (0, u "java/lang/Cloneable"), (0, .class_ 334), (0, u "java/io/Serializable"), (0, u "serialVersionUID"), (0, u "J"), (3, u "DEFAULT_CAPACITY"), (22, u "isEmpty"), (136, .class_ 501), (0, u "java/util/ArrayList$SubList$2"), (0, .class_ 503), (0, u "java/util/ArrayList$SubList$1")] 5

def k18c0 : Code := { maxStack := 2, maxLocals := 1, code := jdk_38_method_2_code, exceptionTable := #[], attributes := #[] }
def k18m0 : Method := { name := "<init>", desc := "()V", sig := { parameters := [], returnType := none }, accessFlags := 1, code := some k18c0 }
def k18c1 : Code := { maxStack := 4, maxLocals := 4, code := jdk_38_method_6_code, exceptionTable := #[], attributes := #[] }
def k18m1 : Method := { name := "grow", desc := "(I)[Ljava/lang/Object;", sig := { parameters := [.int], returnType := some (.array (.object "java/lang/Object")) }, accessFlags := 2, code := some k18c1 }
def k18c2 : Code := { maxStack := 3, maxLocals := 1, code := jdk_38_method_7_code, exceptionTable := #[], attributes := #[] }
def k18m2 : Method := { name := "grow", desc := "()[Ljava/lang/Object;", sig := { parameters := [], returnType := some (.array (.object "java/lang/Object")) }, accessFlags := 2, code := some k18c2 }
def k18c3 : Code := { maxStack := 1, maxLocals := 1, code := jdk_38_method_9_code, exceptionTable := #[], attributes := #[] }
def k18m3 : Method := { name := "isEmpty", desc := "()Z", sig := { parameters := [], returnType := some .boolean }, accessFlags := 1, code := some k18c3 }
def k18c4 : Code := { maxStack := 2, maxLocals := 1, code := jdk_38_method_16_code, exceptionTable := #[], attributes := #[] }
def k18m4 : Method := { name := "toArray", desc := "()[Ljava/lang/Object;", sig := { parameters := [], returnType := some (.array (.object "java/lang/Object")) }, accessFlags := 1, code := some k18c4 }
def k18c5 : Code := { maxStack := 3, maxLocals := 4, code := jdk_38_method_24_code, exceptionTable := #[], attributes := #[] }
def k18m5 : Method := { name := "add", desc := "(Ljava/lang/Object;[Ljava/lang/Object;I)V", sig := { parameters := [(.object "java/lang/Object"), (.array (.object "java/lang/Object")), .int], returnType := none }, accessFlags := 2, code := some k18c5 }
def k18c6 : Code := { maxStack := 4, maxLocals := 2, code := jdk_38_method_25_code, exceptionTable := #[], attributes := #[] }
def k18m6 : Method := { name := "add", desc := "(Ljava/lang/Object;)Z", sig := { parameters := [(.object "java/lang/Object")], returnType := some .boolean }, accessFlags := 1, code := some k18c6 }
/-- java/util/ArrayList -/
def k18 : Class := { plain "java/util/ArrayList" (some 15) with
  accessFlags := 33
  interfaces := #[14, 16, 17, 2]
  cf := some (fileOf pool18 10 #[.nestMembers #[290, 276, 500, 502, 262, 267]] #[{ accessFlags := 1, nameIndex := 5, descriptorIndex := 6, attributes := #[] }, { accessFlags := 2, nameIndex := 71, descriptorIndex := 72, attributes := #[] }, { accessFlags := 2, nameIndex := 71, descriptorIndex := 47, attributes := #[] }, { accessFlags := 1, nameIndex := 363, descriptorIndex := 173, attributes := #[] }, { accessFlags := 1, nameIndex := 46, descriptorIndex := 47, attributes := #[] }, { accessFlags := 2, nameIndex := 133, descriptorIndex := 134, attributes := #[] }, { accessFlags := 1, nameIndex := 133, descriptorIndex := 96, attributes := #[] }] 33 2 #[148, 329, 331, 333] #[{ accessFlags := 26, nameIndex := 335, descriptorIndex := 336, attributes := #[] }, { accessFlags := 26, nameIndex := 340, descriptorIndex := 51, attributes := #[] }, { accessFlags := 26, nameIndex := 17, descriptorIndex := 14, attributes := #[] }, { accessFlags := 26, nameIndex := 41, descriptorIndex := 14, attributes := #[] }, { accessFlags := 128, nameIndex := 13, descriptorIndex := 14, attributes := #[] }, { accessFlags := 2, nameIndex := 50, descriptorIndex := 51, attributes := #[] }])
  fields := #[{ name := "serialVersionUID", type := .long, accessFlags := 26, slot := 0, constantValue := 0 }, { name := "DEFAULT_CAPACITY", type := .int, accessFlags := 26, slot := 1, constantValue := 0 }, { name := "EMPTY_ELEMENTDATA", type := (.array (.object "java/lang/Object")), accessFlags := 26, slot := 2, constantValue := 0 }, { name := "DEFAULTCAPACITY_EMPTY_ELEMENTDATA", type := (.array (.object "java/lang/Object")), accessFlags := 26, slot := 3, constantValue := 0 }, { name := "elementData", type := (.array (.object "java/lang/Object")), accessFlags := 128, slot := 1, constantValue := 0 }, { name := "size", type := .int, accessFlags := 2, slot := 2, constantValue := 0 }]
  methods := #[k18m0, k18m1, k18m2, k18m3, k18m4, k18m5, k18m6]
  instanceTypes := #[.int, (.array (.object "java/lang/Object")), .int]
  staticTypes := #[.long, .int, (.array (.object "java/lang/Object")), (.array (.object "java/lang/Object"))]
  resolved := Array.replicate 509 none
  statics := some 1 }

def pool19 : Array CpInfo := pool [(1, .methodref 2 3), (0, .class_ 4), (0, .nameAndType 5 6), (0, u "java/lang/Object"), (0, u "<init>"), (0, u "()V"), (0, .class_ 8), (0, u "java/lang/Record")] 13

def k19c0 : Code := { maxStack := 1, maxLocals := 1, code := jdk_30_method_1_code, exceptionTable := #[], attributes := #[] }
def k19m0 : Method := { name := "<init>", desc := "()V", sig := { parameters := [], returnType := none }, accessFlags := 4, code := some k19c0 }
/-- java/lang/Record -/
def k19 : Class := { plain "java/lang/Record" (some 0) with
  accessFlags := 1057
  interfaces := #[]
  cf := some (fileOf pool19 7 #[] #[{ accessFlags := 4, nameIndex := 5, descriptorIndex := 6, attributes := #[] }] 1057 2 #[] #[])
  fields := #[]
  methods := #[k19m0]
  instanceTypes := #[]
  staticTypes := #[]
  resolved := Array.replicate 22 none
  statics := none }

def pool20 : Array CpInfo := pool [(1, .methodref 2 3), (0, .class_ 4), (0, .nameAndType 5 6), (0, u "java/lang/Record"), (0, u "<init>"), (0, u "()V"), (0, .interfaceMethodref 8 9), (0, .class_ 10), (0, .nameAndType 11 12), (0, u "java/util/List"), (0, u "copyOf"), (0, u "(Ljava/util/Collection;)Ljava/util/List;"), (0, .fieldref 14 15), (0, .class_ 16), (0, .nameAndType 17 18), (0, u "com/example/packwright/packwright/model/Node"), (0, u "subscriptLine"), (0, u "Ljava/lang/String;"), (0, .fieldref 14 20), (0, .nameAndType 21 22), (0, u "subscripts"), (0, u "Ljava/util/List;"), (0, .fieldref 14 24), (0, .nameAndType 25 18), (0, u "value"), (2, u "(Ljava/lang/String;Ljava/util/List;Ljava/lang/String;)V"), (23, u "()Ljava/util/List;")] 23

def k20c0 : Code := { maxStack := 2, maxLocals := 4, code := prog_37_method_1_code, exceptionTable := #[], attributes := #[] }
def k20m0 : Method := { name := "<init>", desc := "(Ljava/lang/String;Ljava/util/List;Ljava/lang/String;)V", sig := { parameters := [(.object "java/lang/String"), (.object "java/util/List"), (.object "java/lang/String")], returnType := none }, accessFlags := 1, code := some k20c0 }
def k20c1 : Code := { maxStack := 1, maxLocals := 1, code := prog_37_method_7_code, exceptionTable := #[], attributes := #[] }
def k20m1 : Method := { name := "subscripts", desc := "()Ljava/util/List;", sig := { parameters := [], returnType := some (.object "java/util/List") }, accessFlags := 1, code := some k20c1 }
/-- com/example/packwright/packwright/model/Node -/
def k20 : Class := { plain "com/example/packwright/packwright/model/Node" (some 19) with
  accessFlags := 49
  interfaces := #[]
  cf := some (fileOf pool20 14 #[] #[{ accessFlags := 1, nameIndex := 5, descriptorIndex := 28, attributes := #[] }, { accessFlags := 1, nameIndex := 21, descriptorIndex := 52, attributes := #[] }] 49 2 #[] #[{ accessFlags := 18, nameIndex := 17, descriptorIndex := 18, attributes := #[] }, { accessFlags := 18, nameIndex := 21, descriptorIndex := 22, attributes := #[] }, { accessFlags := 18, nameIndex := 25, descriptorIndex := 18, attributes := #[] }])
  fields := #[{ name := "subscriptLine", type := (.object "java/lang/String"), accessFlags := 18, slot := 0, constantValue := 0 }, { name := "subscripts", type := (.object "java/util/List"), accessFlags := 18, slot := 1, constantValue := 0 }, { name := "value", type := (.object "java/lang/String"), accessFlags := 18, slot := 2, constantValue := 0 }]
  methods := #[k20m0, k20m1]
  instanceTypes := #[(.object "java/lang/String"), (.object "java/util/List"), (.object "java/lang/String")]
  staticTypes := #[]
  resolved := Array.replicate 76 none
  statics := none }

def pool21 : Array CpInfo := pool [(2, .class_ 4), (1, u "java/lang/Object"), (0, u "<init>"), (0, u "()V"), (3, .class_ 11), (0, u "java/util/ImmutableCollections$List12"), (0, .class_ 13), (0, u "java/util/ImmutableCollections$ListN"), (3, u "Z"), (0, .class_ 19), (0, u "java/util/List"), (0, .interfaceMethodref 21 22), (0, .class_ 23), (0, .nameAndType 24 25), (0, u "java/util/Collection"), (0, u "isEmpty"), (0, u "()Z"), (0, .interfaceMethodref 18 27), (0, .nameAndType 28 29), (0, u "of"), (0, u "()Ljava/util/List;"), (0, .interfaceMethodref 21 31), (0, .nameAndType 32 33), (0, u "toArray"), (0, u "()[Ljava/lang/Object;"), (0, .interfaceMethodref 18 35), (0, .nameAndType 28 36), (0, u "([Ljava/lang/Object;)Ljava/util/List;"), (0, .methodref 38 39), (0, .class_ 40), (0, .nameAndType 41 42), (0, u "java/util/Objects"), (0, u "requireNonNull"), (0, u "(Ljava/lang/Object;)Ljava/lang/Object;"), (0, .methodref 12 44), (0, .nameAndType 5 45), (0, u "([Ljava/lang/Object;Z)V"), (1, .class_ 49), (1, u "java/util/ImmutableCollections"), (0, u "$assertionsDisabled"), (5, u "[Ljava/lang/Object;"), (5, u "EMPTY_LIST"), (0, u "Ljava/util/ImmutableCollections$ListN;"), (8, u "EMPTY_LIST_NULLS"), (22, u "SALT32L"), (0, u "J"), (2, u "REVERSE"), (6, u "archivedObjects"), (2, u "EMPTY"), (0, u "Ljava/lang/Object;"), (0, .class_ 112), (0, u "java/util/ImmutableCollections$SetN"), (5, u "EMPTY_SET"), (0, u "Ljava/util/ImmutableCollections$SetN;"), (0, .class_ 121), (0, u "java/util/ImmutableCollections$MapN"), (3, u "EMPTY_MAP"), (0, u "Ljava/util/ImmutableCollections$MapN;"), (4, u "EXPAND_FACTOR"), (0, u "I"), (9, u "listCopy"), (0, u "(Ljava/util/Collection;)Ljava/util/List;"), (7, u "listFromArray"), (17, .class_ 170), (0, u "java/util/ImmutableCollections$MapN$MapNIterator"), (0, .class_ 172), (0, u "java/util/ImmutableCollections$MapN$1"), (0, .class_ 174), (0, u "java/util/ImmutableCollections$Map1"), (0, .class_ 176), (0, u "java/util/ImmutableCollections$AbstractImmutableMap"), (0, .class_ 178), (0, u "java/util/ImmutableCollections$SetN$SetNIterator"), (0, .class_ 180), (0, u "java/util/ImmutableCollections$Set12"), (0, .class_ 182), (0, u "java/util/ImmutableCollections$Set12$1"), (0, .class_ 184), (0, u "java/util/ImmutableCollections$AbstractImmutableSet"), (0, .class_ 186), (0, u "java/util/ImmutableCollections$SubList"), (0, .class_ 188), (0, u "java/util/ImmutableCollections$ListItr"), (0, .class_ 190), (0, u "java/util/ImmutableCollections$AbstractImmutableList"), (0, .class_ 192), (0, u "java/util/ImmutableCollections$AbstractImmutableCollection"), (0, .class_ 194), (0, u "java/util/ImmutableCollections$Access"), (0, .class_ 196), (0, u "java/util/ImmutableCollections$Access$1")] 16

def k21m0 : Method := { name := "<init>", desc := "()V", sig := { parameters := [], returnType := none }, accessFlags := 2, code := none }
def k21c1 : Code := { maxStack := 1, maxLocals := 2, code := jdk_56_method_3_code, exceptionTable := #[], attributes := #[] }
def k21m1 : Method := { name := "listCopy", desc := "(Ljava/util/Collection;)Ljava/util/List;", sig := { parameters := [(.object "java/util/Collection")], returnType := some (.object "java/util/List") }, accessFlags := 8, code := some k21c1 }
def k21c2 : Code := { maxStack := 4, maxLocals := 3, code := jdk_56_method_4_code, exceptionTable := #[], attributes := #[] }
def k21m2 : Method := { name := "listFromArray", desc := "([Ljava/lang/Object;)Ljava/util/List;", sig := { parameters := [(.array (.object "java/lang/Object"))], returnType := some (.object "java/util/List") }, accessFlags := 136, code := some k21c2 }
/-- java/util/ImmutableCollections -/
def k21 : Class := { plain "java/util/ImmutableCollections" (some 0) with
  accessFlags := 32
  interfaces := #[]
  cf := some (fileOf pool21 47 #[.nestMembers #[120, 169, 171, 173, 175, 111, 177, 179, 181, 183, 12, 10, 185, 187, 189, 191, 193, 195]] #[{ accessFlags := 2, nameIndex := 5, descriptorIndex := 6, attributes := #[] }, { accessFlags := 8, nameIndex := 142, descriptorIndex := 143, attributes := #[] }, { accessFlags := 136, nameIndex := 151, descriptorIndex := 36, attributes := #[] }] 32 2 #[] #[{ accessFlags := 26, nameIndex := 95, descriptorIndex := 96, attributes := #[] }, { accessFlags := 26, nameIndex := 99, descriptorIndex := 17, attributes := #[] }, { accessFlags := 10, nameIndex := 106, descriptorIndex := 56, attributes := #[] }, { accessFlags := 26, nameIndex := 109, descriptorIndex := 110, attributes := #[] }, { accessFlags := 24, nameIndex := 62, descriptorIndex := 63, attributes := #[] }, { accessFlags := 24, nameIndex := 72, descriptorIndex := 63, attributes := #[] }, { accessFlags := 24, nameIndex := 118, descriptorIndex := 119, attributes := #[] }, { accessFlags := 24, nameIndex := 125, descriptorIndex := 126, attributes := #[] }, { accessFlags := 24, nameIndex := 131, descriptorIndex := 132, attributes := #[] }, { accessFlags := 4120, nameIndex := 50, descriptorIndex := 17, attributes := #[] }])
  fields := #[{ name := "SALT32L", type := .long, accessFlags := 26, slot := 0, constantValue := 0 }, { name := "REVERSE", type := .boolean, accessFlags := 26, slot := 1, constantValue := 0 }, { name := "archivedObjects", type := (.array (.object "java/lang/Object")), accessFlags := 10, slot := 2, constantValue := 0 }, { name := "EMPTY", type := (.object "java/lang/Object"), accessFlags := 26, slot := 3, constantValue := 0 }, { name := "EMPTY_LIST", type := (.object "java/util/ImmutableCollections$ListN"), accessFlags := 24, slot := 4, constantValue := 0 }, { name := "EMPTY_LIST_NULLS", type := (.object "java/util/ImmutableCollections$ListN"), accessFlags := 24, slot := 5, constantValue := 0 }, { name := "EMPTY_SET", type := (.object "java/util/ImmutableCollections$SetN"), accessFlags := 24, slot := 6, constantValue := 0 }, { name := "EMPTY_MAP", type := (.object "java/util/ImmutableCollections$MapN"), accessFlags := 24, slot := 7, constantValue := 0 }, { name := "EXPAND_FACTOR", type := .int, accessFlags := 24, slot := 8, constantValue := 0 }, { name := "$assertionsDisabled", type := .boolean, accessFlags := 4120, slot := 9, constantValue := 0 }]
  methods := #[k21m0, k21m1, k21m2]
  instanceTypes := #[]
  staticTypes := #[.long, .boolean, (.array (.object "java/lang/Object")), (.object "java/lang/Object"), (.object "java/util/ImmutableCollections$ListN"), (.object "java/util/ImmutableCollections$ListN"), (.object "java/util/ImmutableCollections$SetN"), (.object "java/util/ImmutableCollections$MapN"), .int, .boolean]
  resolved := Array.replicate 213 none
  statics := some 2 }

def pool22 : Array CpInfo := pool [(1, .methodref 2 3), (0, .class_ 4), (0, .nameAndType 5 6), (0, u "java/util/AbstractCollection"), (0, u "<init>"), (0, u "()V"), (1, .class_ 10), (1, u "java/util/ImmutableCollections"), (2, .class_ 14), (0, u "java/util/ImmutableCollections$AbstractImmutableCollection")] 41

def k22c0 : Code := { maxStack := 1, maxLocals := 1, code := jdk_47_method_1_code, exceptionTable := #[], attributes := #[] }
def k22m0 : Method := { name := "<init>", desc := "()V", sig := { parameters := [], returnType := none }, accessFlags := 0, code := some k22c0 }
/-- java/util/ImmutableCollections$AbstractImmutableCollection -/
def k22 : Class := { plain "java/util/ImmutableCollections$AbstractImmutableCollection" (some 12) with
  accessFlags := 1056
  interfaces := #[]
  cf := some (fileOf pool22 13 #[.nestHost 8] #[{ accessFlags := 0, nameIndex := 5, descriptorIndex := 6, attributes := #[] }] 1056 2 #[] #[])
  fields := #[]
  methods := #[k22m0]
  instanceTypes := #[]
  staticTypes := #[]
  resolved := Array.replicate 56 none
  statics := none }

def pool23 : Array CpInfo := pool [(1, .methodref 2 3), (0, .class_ 4), (0, .nameAndType 5 6), (0, u "java/util/ImmutableCollections$AbstractImmutableCollection"), (0, u "<init>"), (0, u "()V"), (1, .class_ 10), (1, u "java/util/ImmutableCollections"), (3, .class_ 16), (1, u "java/util/ImmutableCollections$AbstractImmutableList"), (60, .class_ 78), (0, u "java/util/List"), (45, .class_ 125), (0, u "java/util/RandomAccess")] 70

def k23c0 : Code := { maxStack := 1, maxLocals := 1, code := jdk_46_method_1_code, exceptionTable := #[], attributes := #[] }
def k23m0 : Method := { name := "<init>", desc := "()V", sig := { parameters := [], returnType := none }, accessFlags := 0, code := some k23c0 }
/-- java/util/ImmutableCollections$AbstractImmutableList -/
def k23 : Class := { plain "java/util/ImmutableCollections$AbstractImmutableList" (some 22) with
  accessFlags := 1056
  interfaces := #[14, 16]
  cf := some (fileOf pool23 14 #[.nestHost 8] #[{ accessFlags := 0, nameIndex := 5, descriptorIndex := 6, attributes := #[] }] 1056 2 #[77, 124] #[])
  fields := #[]
  methods := #[k23m0]
  instanceTypes := #[]
  staticTypes := #[]
  resolved := Array.replicate 196 none
  statics := none }

def pool24 : Array CpInfo := pool [(1, .methodref 2 3), (0, .class_ 4), (0, .nameAndType 5 6), (0, u "java/util/ImmutableCollections$AbstractImmutableList"), (0, u "<init>"), (0, u "()V"), (0, .methodref 8 9), (0, .class_ 10), (0, .nameAndType 11 12), (0, u "java/util/Objects"), (0, u "requireNonNull"), (0, u "(Ljava/lang/Object;)Ljava/lang/Object;"), (0, .fieldref 14 15), (0, .class_ 16), (0, .nameAndType 17 18), (0, u "java/util/ImmutableCollections$List12"), (0, u "e0"), (0, u "Ljava/lang/Object;"), (0, .fieldref 20 21), (0, .class_ 22), (0, .nameAndType 23 18), (0, u "java/util/ImmutableCollections"), (0, u "EMPTY"), (0, .fieldref 14 25), (0, .nameAndType 26 18), (0, u "e1"), (24, u "size"), (0, u "()I"), (17, .class_ 71), (0, u "java/io/Serializable"), (4, u "(Ljava/lang/Object;)V"), (8, u "(Ljava/lang/Object;Ljava/lang/Object;)V")] 39

def k24c0 : Code := { maxStack := 2, maxLocals := 2, code := jdk_44_method_1_code, exceptionTable := #[], attributes := #[] }
def k24m0 : Method := { name := "<init>", desc := "(Ljava/lang/Object;)V", sig := { parameters := [(.object "java/lang/Object")], returnType := none }, accessFlags := 0, code := some k24c0 }
def k24c1 : Code := { maxStack := 2, maxLocals := 3, code := jdk_44_method_2_code, exceptionTable := #[], attributes := #[] }
def k24m1 : Method := { name := "<init>", desc := "(Ljava/lang/Object;Ljava/lang/Object;)V", sig := { parameters := [(.object "java/lang/Object"), (.object "java/lang/Object")], returnType := none }, accessFlags := 0, code := some k24c1 }
def k24c2 : Code := { maxStack := 2, maxLocals := 1, code := jdk_44_method_3_code, exceptionTable := #[], attributes := #[] }
def k24m2 : Method := { name := "size", desc := "()I", sig := { parameters := [], returnType := some .int }, accessFlags := 1, code := some k24c2 }
/-- java/util/ImmutableCollections$List12 -/
def k24 : Class := { plain "java/util/ImmutableCollections$List12" (some 23) with
  accessFlags := 48
  interfaces := #[2]
  cf := some (fileOf pool24 14 #[.nestHost 20] #[{ accessFlags := 0, nameIndex := 5, descriptorIndex := 76, attributes := #[] }, { accessFlags := 0, nameIndex := 5, descriptorIndex := 85, attributes := #[] }, { accessFlags := 1, nameIndex := 51, descriptorIndex := 52, attributes := #[] }] 48 2 #[70] #[{ accessFlags := 18, nameIndex := 17, descriptorIndex := 18, attributes := #[] }, { accessFlags := 18, nameIndex := 26, descriptorIndex := 18, attributes := #[] }])
  fields := #[{ name := "e0", type := (.object "java/lang/Object"), accessFlags := 18, slot := 0, constantValue := 0 }, { name := "e1", type := (.object "java/lang/Object"), accessFlags := 18, slot := 1, constantValue := 0 }]
  methods := #[k24m0, k24m1, k24m2]
  instanceTypes := #[(.object "java/lang/Object"), (.object "java/lang/Object")]
  staticTypes := #[]
  resolved := Array.replicate 125 none
  statics := none }

def pool25 : Array CpInfo := pool [(1, .methodref 2 3), (0, .class_ 4), (0, .nameAndType 5 6), (0, u "java/util/ImmutableCollections$AbstractImmutableList"), (0, u "<init>"), (0, u "()V"), (0, .fieldref 8 9), (0, .class_ 10), (0, .nameAndType 11 12), (0, u "java/util/ImmutableCollections$ListN"), (0, u "elements"), (0, u "[Ljava/lang/Object;"), (0, .fieldref 8 14), (0, .nameAndType 15 16), (0, u "allowNulls"), (0, u "Z"), (42, .class_ 60), (0, u "java/io/Serializable"), (4, u "([Ljava/lang/Object;Z)V"), (11, u "size"), (0, u "()I"), (0, u "get"), (0, u "(I)Ljava/lang/Object;"), (33, .class_ 115), (0, u "java/util/ImmutableCollections")] 3

def k25c0 : Code := { maxStack := 2, maxLocals := 3, code := jdk_45_method_1_code, exceptionTable := #[], attributes := #[] }
def k25m0 : Method := { name := "<init>", desc := "([Ljava/lang/Object;Z)V", sig := { parameters := [(.array (.object "java/lang/Object")), .boolean], returnType := none }, accessFlags := 2, code := some k25c0 }
def k25c1 : Code := { maxStack := 1, maxLocals := 1, code := jdk_45_method_3_code, exceptionTable := #[], attributes := #[] }
def k25m1 : Method := { name := "size", desc := "()I", sig := { parameters := [], returnType := some .int }, accessFlags := 1, code := some k25c1 }
def k25c2 : Code := { maxStack := 2, maxLocals := 2, code := jdk_45_method_4_code, exceptionTable := #[], attributes := #[] }
def k25m2 : Method := { name := "get", desc := "(I)Ljava/lang/Object;", sig := { parameters := [.int], returnType := some (.object "java/lang/Object") }, accessFlags := 1, code := some k25c2 }
/-- java/util/ImmutableCollections$ListN -/
def k25 : Class := { plain "java/util/ImmutableCollections$ListN" (some 23) with
  accessFlags := 48
  interfaces := #[2]
  cf := some (fileOf pool25 8 #[.nestHost 114] #[{ accessFlags := 2, nameIndex := 5, descriptorIndex := 65, attributes := #[] }, { accessFlags := 1, nameIndex := 77, descriptorIndex := 78, attributes := #[] }, { accessFlags := 1, nameIndex := 79, descriptorIndex := 80, attributes := #[] }] 48 2 #[59] #[{ accessFlags := 18, nameIndex := 11, descriptorIndex := 12, attributes := #[] }, { accessFlags := 18, nameIndex := 15, descriptorIndex := 16, attributes := #[] }])
  fields := #[{ name := "elements", type := (.array (.object "java/lang/Object")), accessFlags := 18, slot := 0, constantValue := 0 }, { name := "allowNulls", type := .boolean, accessFlags := 18, slot := 1, constantValue := 0 }]
  methods := #[k25m0, k25m1, k25m2]
  instanceTypes := #[(.array (.object "java/lang/Object")), .boolean]
  staticTypes := #[]
  resolved := Array.replicate 119 none
  statics := none }

def pool26 : Array CpInfo := pool [(2, .class_ 4), (1, u "java/lang/Object"), (6, .class_ 13), (1, u "com/example/packwright/packwright/io/BuildAssembler"), (0, u "requiredBuilds"), (0, u "Ljava/util/List;"), (5, u "installRoutines"), (0, u "Ljava/util/Map;"), (5, u "routines"), (2, u "files"), (5, u "filesWithData"), (0, u "Ljava/util/Set;"), (2, u "components"), (2, u "buildNodes"), (2, u "routineListEntries"), (2, u "newAfterChecksums"), (2, u "file"), (0, u "Ljava/nio/file/Path;"), (2, u "installName"), (0, u "Ljava/lang/String;"), (2, u "installNameLine"), (0, u "I"), (1, .class_ 66), (1, u "java/util/List"), (1, u "(Ljava/lang/Object;)Z"), (0, .methodref 70 71), (0, .class_ 72), (0, .nameAndType 73 74), (0, u "com/example/packwright/packwright/model/Node"), (0, u "subscripts"), (0, u "()Ljava/util/List;"), (4, .interfaceMethodref 64 80), (0, .nameAndType 81 82), (0, u "get"), (0, u "(I)Ljava/lang/Object;"), (0, .class_ 84), (0, u "java/lang/String"), (0, .interfaceMethodref 64 86), (0, .nameAndType 87 88), (0, u "size"), (0, u "()I"), (2, .methodref 83 92), (0, .nameAndType 93 68), (0, u "equals"), (0, .string 95), (0, u "0"), (2, u "zeroNode"), (11, u "zeroNodeLine"), (48, .string 160), (0, u "RTN"), (17, .class_ 179), (0, u "com/example/packwright/packwright/io/BuildAssembler$RoutineNodes"), (32, .class_ 213), (0, u "com/example/packwright/packwright/io/BuildAssembler$FileNodes"), (105, u "ROUTINE_NAME"), (0, u "Ljava/util/regex/Pattern;"), (93, u "FILEMAN_DATE"), (42, u "ROUTINE_TYPE"), (24, u "routineOfLine"), (0, u "(Lcom/example/packwright/packwright/model/Node;)Ljava/lang/String;")] 72

def k26c0 : Code := { maxStack := 2, maxLocals := 3, code := prog_4_method_10_code, exceptionTable := #[], attributes := #[] }
def k26m0 : Method := { name := "routineOfLine", desc := "(Lcom/example/packwright/packwright/model/Node;)Ljava/lang/String;", sig := { parameters := [(.object "com/example/packwright/packwright/model/Node")], returnType := some (.object "java/lang/String") }, accessFlags := 8, code := some k26c0 }
/-- com/example/packwright/packwright/io/BuildAssembler -/
def k26 : Class := { plain "com/example/packwright/packwright/io/BuildAssembler" (some 0) with
  accessFlags := 48
  interfaces := #[]
  cf := some (fileOf pool26 11 #[.nestMembers #[212, 178]] #[{ accessFlags := 8, nameIndex := 482, descriptorIndex := 483, attributes := #[] }] 48 2 #[] #[{ accessFlags := 26, nameIndex := 414, descriptorIndex := 320, attributes := #[] }, { accessFlags := 26, nameIndex := 457, descriptorIndex := 58, attributes := #[] }, { accessFlags := 26, nameIndex := 319, descriptorIndex := 320, attributes := #[] }, { accessFlags := 18, nameIndex := 53, descriptorIndex := 54, attributes := #[] }, { accessFlags := 18, nameIndex := 57, descriptorIndex := 58, attributes := #[] }, { accessFlags := 18, nameIndex := 61, descriptorIndex := 62, attributes := #[] }, { accessFlags := 2, nameIndex := 98, descriptorIndex := 58, attributes := #[] }, { accessFlags := 2, nameIndex := 110, descriptorIndex := 62, attributes := #[] }, { accessFlags := 18, nameIndex := 14, descriptorIndex := 15, attributes := #[] }, { accessFlags := 18, nameIndex := 21, descriptorIndex := 22, attributes := #[] }, { accessFlags := 18, nameIndex := 28, descriptorIndex := 22, attributes := #[] }, { accessFlags := 18, nameIndex := 31, descriptorIndex := 22, attributes := #[] }, { accessFlags := 18, nameIndex := 37, descriptorIndex := 38, attributes := #[] }, { accessFlags := 18, nameIndex := 41, descriptorIndex := 15, attributes := #[] }, { accessFlags := 18, nameIndex := 44, descriptorIndex := 15, attributes := #[] }, { accessFlags := 18, nameIndex := 47, descriptorIndex := 22, attributes := #[] }, { accessFlags := 18, nameIndex := 50, descriptorIndex := 22, attributes := #[] }])
  fields := #[{ name := "FILEMAN_DATE", type := (.object "java/util/regex/Pattern"), accessFlags := 26, slot := 0, constantValue := 0 }, { name := "ROUTINE_TYPE", type := (.object "java/lang/String"), accessFlags := 26, slot := 1, constantValue := 0 }, { name := "ROUTINE_NAME", type := (.object "java/util/regex/Pattern"), accessFlags := 26, slot := 2, constantValue := 0 }, { name := "file", type := (.object "java/nio/file/Path"), accessFlags := 18, slot := 0, constantValue := 0 }, { name := "installName", type := (.object "java/lang/String"), accessFlags := 18, slot := 1, constantValue := 0 }, { name := "installNameLine", type := .int, accessFlags := 18, slot := 2, constantValue := 0 }, { name := "zeroNode", type := (.object "java/lang/String"), accessFlags := 2, slot := 3, constantValue := 0 }, { name := "zeroNodeLine", type := .int, accessFlags := 2, slot := 4, constantValue := 0 }, { name := "requiredBuilds", type := (.object "java/util/List"), accessFlags := 18, slot := 5, constantValue := 0 }, { name := "installRoutines", type := (.object "java/util/Map"), accessFlags := 18, slot := 6, constantValue := 0 }, { name := "routines", type := (.object "java/util/Map"), accessFlags := 18, slot := 7, constantValue := 0 }, { name := "files", type := (.object "java/util/Map"), accessFlags := 18, slot := 8, constantValue := 0 }, { name := "filesWithData", type := (.object "java/util/Set"), accessFlags := 18, slot := 9, constantValue := 0 }, { name := "components", type := (.object "java/util/List"), accessFlags := 18, slot := 10, constantValue := 0 }, { name := "buildNodes", type := (.object "java/util/List"), accessFlags := 18, slot := 11, constantValue := 0 }, { name := "routineListEntries", type := (.object "java/util/Map"), accessFlags := 18, slot := 12, constantValue := 0 }, { name := "newAfterChecksums", type := (.object "java/util/Map"), accessFlags := 18, slot := 13, constantValue := 0 }]
  methods := #[k26m0]
  instanceTypes := #[(.object "java/nio/file/Path"), (.object "java/lang/String"), .int, (.object "java/lang/String"), .int, (.object "java/util/List"), (.object "java/util/Map"), (.object "java/util/Map"), (.object "java/util/Map"), (.object "java/util/Set"), (.object "java/util/List"), (.object "java/util/List"), (.object "java/util/Map"), (.object "java/util/Map")]
  staticTypes := #[(.object "java/util/regex/Pattern"), (.object "java/lang/String"), (.object "java/util/regex/Pattern")]
  resolved := Array.replicate 556 none
  statics := none }

def pool27 : Array CpInfo := pool [(1, .class_ 2), (0, u "java/lang/Math"), (1, .class_ 6), (1, u "java/lang/Object"), (0, u "<init>"), (0, u "()V"), (89, .class_ 100), (1, u "java/lang/Math$RandomNumberGeneratorHolder"), (71, u "negativeZeroFloatBits"), (0, u "J"), (2, u "negativeZeroDoubleBits"), (21, u "max"), (2, u "min"), (43, u "$assertionsDisabled"), (0, u "Z"), (88, u "(II)I"), (2, u "twoToTheDoubleScaleDown"), (0, u "D"), (4, u "twoToTheDoubleScaleUp"), (9, u "E"), (3, u "PI"), (2, u "TAU"), (2, u "DEGREES_TO_RADIANS"), (0, u "RADIANS_TO_DEGREES")] 94

def k27m0 : Method := { name := "<init>", desc := "()V", sig := { parameters := [], returnType := none }, accessFlags := 2, code := none }
def k27c1 : Code := { maxStack := 2, maxLocals := 2, code := jdk_29_method_65_code, exceptionTable := #[], attributes := #[] }
def k27m1 : Method := { name := "max", desc := "(II)I", sig := { parameters := [.int, .int], returnType := some .int }, accessFlags := 9, code := some k27c1 }
def k27c2 : Code := { maxStack := 2, maxLocals := 2, code := jdk_29_method_69_code, exceptionTable := #[], attributes := #[] }
def k27m2 : Method := { name := "min", desc := "(II)I", sig := { parameters := [.int, .int], returnType := some .int }, accessFlags := 9, code := some k27c2 }
/-- java/lang/Math -/
def k27 : Class := { plain "java/lang/Math" (some 0) with
  accessFlags := 49
  interfaces := #[]
  cf := some (fileOf pool27 1 #[.nestMembers #[98]] #[{ accessFlags := 2, nameIndex := 7, descriptorIndex := 8, attributes := #[] }, { accessFlags := 9, nameIndex := 198, descriptorIndex := 335, attributes := #[] }, { accessFlags := 9, nameIndex := 201, descriptorIndex := 335, attributes := #[] }] 49 4 #[] #[{ accessFlags := 25, nameIndex := 354, descriptorIndex := 339, attributes := #[] }, { accessFlags := 25, nameIndex := 358, descriptorIndex := 339, attributes := #[] }, { accessFlags := 25, nameIndex := 361, descriptorIndex := 339, attributes := #[] }, { accessFlags := 26, nameIndex := 364, descriptorIndex := 339, attributes := #[] }, { accessFlags := 26, nameIndex := 365, descriptorIndex := 339, attributes := #[] }, { accessFlags := 26, nameIndex := 172, descriptorIndex := 173, attributes := #[] }, { accessFlags := 26, nameIndex := 176, descriptorIndex := 173, attributes := #[] }, { accessFlags := 8, nameIndex := 344, descriptorIndex := 339, attributes := #[] }, { accessFlags := 8, nameIndex := 338, descriptorIndex := 339, attributes := #[] }, { accessFlags := 4120, nameIndex := 245, descriptorIndex := 246, attributes := #[] }])
  fields := #[{ name := "E", type := .double, accessFlags := 25, slot := 0, constantValue := 0 }, { name := "PI", type := .double, accessFlags := 25, slot := 1, constantValue := 0 }, { name := "TAU", type := .double, accessFlags := 25, slot := 2, constantValue := 0 }, { name := "DEGREES_TO_RADIANS", type := .double, accessFlags := 26, slot := 3, constantValue := 0 }, { name := "RADIANS_TO_DEGREES", type := .double, accessFlags := 26, slot := 4, constantValue := 0 }, { name := "negativeZeroFloatBits", type := .long, accessFlags := 26, slot := 5, constantValue := 0 }, { name := "negativeZeroDoubleBits", type := .long, accessFlags := 26, slot := 6, constantValue := 0 }, { name := "twoToTheDoubleScaleUp", type := .double, accessFlags := 8, slot := 7, constantValue := 0 }, { name := "twoToTheDoubleScaleDown", type := .double, accessFlags := 8, slot := 8, constantValue := 0 }, { name := "$assertionsDisabled", type := .boolean, accessFlags := 4120, slot := 9, constantValue := 0 }]
  methods := #[k27m0, k27m1, k27m2]
  instanceTypes := #[]
  staticTypes := #[.double, .double, .double, .double, .double, .long, .long, .double, .double, .boolean]
  resolved := Array.replicate 460 none
  statics := none }

def pool28 : Array CpInfo := pool [(2, .class_ 4), (1, u "java/lang/Object"), (0, u "<init>"), (0, u "()V"), (7, .class_ 16), (1, u "java/util/Arrays"), (57, .class_ 76), (1, u "java/util/Arrays$NaturalOrder"), (9, .methodref 2 87), (0, .nameAndType 88 89), (0, u "getClass"), (0, u "()Ljava/lang/Class;"), (20, .class_ 111), (0, u "[Ljava/lang/Object;"), (1, .class_ 115), (1, u "java/util/Arrays$LegacyMergeSort"), (1, u "Z"), (32, .methodref 151 152), (0, .class_ 153), (0, .nameAndType 154 155), (0, u "java/lang/System"), (0, u "arraycopy"), (0, u "(Ljava/lang/Object;ILjava/lang/Object;II)V"), (144, .methodref 14 301), (0, .nameAndType 302 303), (0, u "copyOf"), (0, u "([Ljava/lang/Object;ILjava/lang/Class;)[Ljava/lang/Object;"), (0, .methodref 305 306), (0, .class_ 307), (0, .nameAndType 308 309), (0, u "java/lang/Math"), (0, u "min"), (0, u "(II)I"), (65, .class_ 376), (0, u "java/util/Arrays$ArrayList"), (68, u "$assertionsDisabled"), (269, u "MIN_ARRAY_SORT_GRAN"), (0, u "I"), (2, u "INSERTIONSORT_THRESHOLD"), (140, u "([Ljava/lang/Object;I)[Ljava/lang/Object;"), (114, .class_ 976), (0, u "java/util/Arrays$ArrayItr")] 52

def k28m0 : Method := { name := "<init>", desc := "()V", sig := { parameters := [], returnType := none }, accessFlags := 2, code := none }
def k28c1 : Code := { maxStack := 3, maxLocals := 2, code := jdk_65_method_119_code, exceptionTable := #[], attributes := #[] }
def k28m1 : Method := { name := "copyOf", desc := "([Ljava/lang/Object;I)[Ljava/lang/Object;", sig := { parameters := [(.array (.object "java/lang/Object")), .int], returnType := some (.array (.object "java/lang/Object")) }, accessFlags := 9, code := some k28c1 }
def k28c2 : Code := { maxStack := 6, maxLocals := 4, code := jdk_65_method_120_code, exceptionTable := #[], attributes := #[] }
def k28m2 : Method := { name := "copyOf", desc := "([Ljava/lang/Object;ILjava/lang/Class;)[Ljava/lang/Object;", sig := { parameters := [(.array (.object "java/lang/Object")), .int, (.object "java/lang/Class")], returnType := some (.array (.object "java/lang/Object")) }, accessFlags := 9, code := some k28c2 }
/-- java/util/Arrays -/
def k28 : Class := { plain "java/util/Arrays" (some 0) with
  accessFlags := 49
  interfaces := #[]
  cf := some (fileOf pool28 14 #[.nestMembers #[975, 375, 113, 74]] #[{ accessFlags := 2, nameIndex := 5, descriptorIndex := 6, attributes := #[] }, { accessFlags := 9, nameIndex := 302, descriptorIndex := 860, attributes := #[] }, { accessFlags := 9, nameIndex := 302, descriptorIndex := 303, attributes := #[] }] 49 2 #[] #[{ accessFlags := 26, nameIndex := 715, descriptorIndex := 716, attributes := #[] }, { accessFlags := 26, nameIndex := 719, descriptorIndex := 716, attributes := #[] }, { accessFlags := 4120, nameIndex := 445, descriptorIndex := 117, attributes := #[] }])
  fields := #[{ name := "MIN_ARRAY_SORT_GRAN", type := .int, accessFlags := 26, slot := 0, constantValue := 0 }, { name := "INSERTIONSORT_THRESHOLD", type := .int, accessFlags := 26, slot := 1, constantValue := 0 }, { name := "$assertionsDisabled", type := .boolean, accessFlags := 4120, slot := 2, constantValue := 0 }]
  methods := #[k28m0, k28m1, k28m2]
  instanceTypes := #[]
  staticTypes := #[.int, .int, .boolean]
  resolved := Array.replicate 1029 none
  statics := none }

def pool29 : Array CpInfo := pool [(2, .class_ 4), (1, u "java/lang/Object"), (0, u "<init>"), (0, u "()V"), (1, .class_ 10), (1, u "java/lang/System"), (0, u "allowSecurityManager"), (0, u "I"), (16, u "cons"), (0, u "Ljava/io/Console;"), (77, .class_ 110), (1, u "java/lang/System$CallersHolder"), (43, u "initialErrStream"), (0, u "Ljava/io/PrintStream;"), (19, u "security"), (0, u "Ljava/lang/SecurityManager;"), (31, .class_ 209), (0, u "java/lang/System$1"), (7, u "props"), (0, u "Ljava/util/Properties;"), (2, u "lineSeparator"), (0, u "Ljava/lang/String;"), (96, .class_ 321), (1, u "java/lang/System$LoggerFinder"), (5, .class_ 328), (0, u "java/lang/System$Logger"), (67, u "err"), (2, u "out"), (91, u "notSupportedJnuEncoding"), (15, u "in"), (17, u "initialIn"), (0, u "Ljava/io/InputStream;"), (35, u "bootLayer"), (0, u "Ljava/lang/ModuleLayer;"), (99, .class_ 664), (0, u "java/lang/System$2"), (9, u "NEVER"), (2, u "MAYBE"), (49, u "arraycopy"), (0, u "(Ljava/lang/Object;ILjava/lang/Object;II)V"), (72, .class_ 802), (0, u "java/lang/System$Logger$Level")] 31

def k29m0 : Method := { name := "<init>", desc := "()V", sig := { parameters := [], returnType := none }, accessFlags := 2, code := none }
def k29m1 : Method := { name := "arraycopy", desc := "(Ljava/lang/Object;ILjava/lang/Object;II)V", sig := { parameters := [(.object "java/lang/Object"), .int, (.object "java/lang/Object"), .int, .int], returnType := none }, accessFlags := 265, code := none }
/-- java/lang/System -/
def k29 : Class := { plain "java/lang/System" (some 0) with
  accessFlags := 49
  interfaces := #[]
  cf := some (fileOf pool29 8 #[.nestMembers #[319, 327, 801, 108, 663, 208]] #[{ accessFlags := 2, nameIndex := 5, descriptorIndex := 6, attributes := #[] }, { accessFlags := 265, nameIndex := 727, descriptorIndex := 728, attributes := #[] }] 49 2 #[] #[{ accessFlags := 25, nameIndex := 507, descriptorIndex := 526, attributes := #[] }, { accessFlags := 25, nameIndex := 399, descriptorIndex := 155, attributes := #[] }, { accessFlags := 25, nameIndex := 396, descriptorIndex := 155, attributes := #[] }, { accessFlags := 10, nameIndex := 525, descriptorIndex := 526, attributes := #[] }, { accessFlags := 26, nameIndex := 674, descriptorIndex := 12, attributes := #[] }, { accessFlags := 26, nameIndex := 677, descriptorIndex := 12, attributes := #[] }, { accessFlags := 10, nameIndex := 11, descriptorIndex := 12, attributes := #[] }, { accessFlags := 74, nameIndex := 175, descriptorIndex := 176, attributes := #[] }, { accessFlags := 10, nameIndex := 491, descriptorIndex := 222, attributes := #[] }, { accessFlags := 74, nameIndex := 29, descriptorIndex := 30, attributes := #[] }, { accessFlags := 74, nameIndex := 154, descriptorIndex := 155, attributes := #[] }, { accessFlags := 10, nameIndex := 217, descriptorIndex := 218, attributes := #[] }, { accessFlags := 10, nameIndex := 221, descriptorIndex := 222, attributes := #[] }, { accessFlags := 8, nameIndex := 562, descriptorIndex := 563, attributes := #[] }])
  fields := #[{ name := "in", type := (.object "java/io/InputStream"), accessFlags := 25, slot := 0, constantValue := 0 }, { name := "out", type := (.object "java/io/PrintStream"), accessFlags := 25, slot := 1, constantValue := 0 }, { name := "err", type := (.object "java/io/PrintStream"), accessFlags := 25, slot := 2, constantValue := 0 }, { name := "initialIn", type := (.object "java/io/InputStream"), accessFlags := 10, slot := 3, constantValue := 0 }, { name := "NEVER", type := .int, accessFlags := 26, slot := 4, constantValue := 0 }, { name := "MAYBE", type := .int, accessFlags := 26, slot := 5, constantValue := 0 }, { name := "allowSecurityManager", type := .int, accessFlags := 10, slot := 6, constantValue := 0 }, { name := "security", type := (.object "java/lang/SecurityManager"), accessFlags := 74, slot := 7, constantValue := 0 }, { name := "notSupportedJnuEncoding", type := (.object "java/lang/String"), accessFlags := 10, slot := 8, constantValue := 0 }, { name := "cons", type := (.object "java/io/Console"), accessFlags := 74, slot := 9, constantValue := 0 }, { name := "initialErrStream", type := (.object "java/io/PrintStream"), accessFlags := 74, slot := 10, constantValue := 0 }, { name := "props", type := (.object "java/util/Properties"), accessFlags := 10, slot := 11, constantValue := 0 }, { name := "lineSeparator", type := (.object "java/lang/String"), accessFlags := 10, slot := 12, constantValue := 0 }, { name := "bootLayer", type := (.object "java/lang/ModuleLayer"), accessFlags := 8, slot := 13, constantValue := 0 }]
  methods := #[k29m0, k29m1]
  instanceTypes := #[]
  staticTypes := #[(.object "java/io/InputStream"), (.object "java/io/PrintStream"), (.object "java/io/PrintStream"), (.object "java/io/InputStream"), .int, .int, .int, (.object "java/lang/SecurityManager"), (.object "java/lang/String"), (.object "java/io/Console"), (.object "java/io/PrintStream"), (.object "java/util/Properties"), (.object "java/lang/String"), (.object "java/lang/ModuleLayer")]
  resolved := Array.replicate 834 none
  statics := none }

def pool30 : Array CpInfo := pool [(2, .class_ 4), (1, u "java/lang/Object"), (0, u "<init>"), (0, u "()V"), (35, .class_ 44), (1, u "java/util/Objects"), (0, u "requireNonNull"), (0, u "(Ljava/lang/Object;)Ljava/lang/Object;")] 137

def k30m0 : Method := { name := "<init>", desc := "()V", sig := { parameters := [], returnType := none }, accessFlags := 2, code := none }
def k30c1 : Code := { maxStack := 2, maxLocals := 1, code := jdk_31_method_10_code, exceptionTable := #[], attributes := #[] }
def k30m1 : Method := { name := "requireNonNull", desc := "(Ljava/lang/Object;)Ljava/lang/Object;", sig := { parameters := [(.object "java/lang/Object")], returnType := some (.object "java/lang/Object") }, accessFlags := 9, code := some k30c1 }
/-- java/util/Objects -/
def k30 : Class := { plain "java/util/Objects" (some 0) with
  accessFlags := 49
  interfaces := #[]
  cf := some (fileOf pool30 42 #[] #[{ accessFlags := 2, nameIndex := 5, descriptorIndex := 6, attributes := #[] }, { accessFlags := 9, nameIndex := 45, descriptorIndex := 46, attributes := #[] }] 49 2 #[] #[])
  fields := #[]
  methods := #[k30m0, k30m1]
  instanceTypes := #[]
  staticTypes := #[]
  resolved := Array.replicate 184 none
  statics := none }

def pool31 : Array CpInfo := pool [(2, .class_ 4), (1, u "java/lang/Object"), (0, u "<init>"), (0, u "()V"), (17, .class_ 26), (1, u "jdk/internal/util/Preconditions"), (28, .class_ 56), (0, u "jdk/internal/util/Preconditions$4"), (57, .class_ 115), (0, u "jdk/internal/util/Preconditions$1"), (7, u "SIOOBE_FORMATTER"), (0, u "Ljava/util/function/BiFunction;"), (0, .class_ 126), (0, u "jdk/internal/util/Preconditions$2"), (3, u "AIOOBE_FORMATTER"), (0, .class_ 132), (0, u "jdk/internal/util/Preconditions$3"), (3, u "IOOBE_FORMATTER")] 57

def k31m0 : Method := { name := "<init>", desc := "()V", sig := { parameters := [], returnType := none }, accessFlags := 1, code := none }
/-- jdk/internal/util/Preconditions -/
def k31 : Class := { plain "jdk/internal/util/Preconditions" (some 0) with
  accessFlags := 33
  interfaces := #[]
  cf := some (fileOf pool31 24 #[.nestMembers #[55, 131, 125, 114]] #[{ accessFlags := 1, nameIndex := 5, descriptorIndex := 6, attributes := #[] }] 33 2 #[] #[{ accessFlags := 25, nameIndex := 123, descriptorIndex := 124, attributes := #[] }, { accessFlags := 25, nameIndex := 130, descriptorIndex := 124, attributes := #[] }, { accessFlags := 25, nameIndex := 136, descriptorIndex := 124, attributes := #[] }])
  fields := #[{ name := "SIOOBE_FORMATTER", type := (.object "java/util/function/BiFunction"), accessFlags := 25, slot := 0, constantValue := 0 }, { name := "AIOOBE_FORMATTER", type := (.object "java/util/function/BiFunction"), accessFlags := 25, slot := 1, constantValue := 0 }, { name := "IOOBE_FORMATTER", type := (.object "java/util/function/BiFunction"), accessFlags := 25, slot := 2, constantValue := 0 }]
  methods := #[k31m0]
  instanceTypes := #[]
  staticTypes := #[(.object "java/util/function/BiFunction"), (.object "java/util/function/BiFunction"), (.object "java/util/function/BiFunction")]
  resolved := Array.replicate 194 none
  statics := some 3 }

def pool32 : Array CpInfo := pool [(9, u "<init>"), (6, .class_ 18), (1, u "java/lang/Object"), (0, u "()V"), (1, .class_ 23), (1, u "jdk/internal/util/ArraysSupport"), (0, u "LOG2_ARRAY_LONG_INDEX_SCALE"), (0, u "I"), (2, u "U"), (0, u "Ljdk/internal/misc/Unsafe;"), (8, u "BIG_ENDIAN"), (0, u "Z"), (8, u "LOG2_BYTE_BIT_SIZE"), (4, u "LOG2_ARRAY_INT_INDEX_SCALE"), (54, u "JLA"), (0, u "Ljdk/internal/access/JavaLangAccess;"), (11, u "LOG2_ARRAY_BOOLEAN_INDEX_SCALE"), (9, u "LOG2_ARRAY_BYTE_INDEX_SCALE"), (5, u "LOG2_ARRAY_CHAR_INDEX_SCALE"), (5, u "LOG2_ARRAY_SHORT_INDEX_SCALE"), (18, u "LOG2_ARRAY_FLOAT_INDEX_SCALE"), (24, u "LOG2_ARRAY_DOUBLE_INDEX_SCALE"), (89, u "T_BOOLEAN"), (2, u "T_CHAR"), (1, u "T_FLOAT"), (1, u "T_DOUBLE"), (1, u "T_BYTE"), (1, u "T_SHORT"), (1, u "T_INT"), (1, u "T_LONG"), (1, u "SOFT_MAX_ARRAY_LENGTH")] 83

def k32m0 : Method := { name := "<init>", desc := "()V", sig := { parameters := [], returnType := none }, accessFlags := 2, code := none }
/-- jdk/internal/util/ArraysSupport -/
def k32 : Class := { plain "jdk/internal/util/ArraysSupport" (some 0) with
  accessFlags := 33
  interfaces := #[]
  cf := some (fileOf pool32 21 #[] #[{ accessFlags := 2, nameIndex := 9, descriptorIndex := 19, attributes := #[] }] 33 16 #[] #[{ accessFlags := 24, nameIndex := 28, descriptorIndex := 29, attributes := #[] }, { accessFlags := 26, nameIndex := 38, descriptorIndex := 39, attributes := #[] }, { accessFlags := 25, nameIndex := 121, descriptorIndex := 25, attributes := #[] }, { accessFlags := 25, nameIndex := 131, descriptorIndex := 25, attributes := #[] }, { accessFlags := 25, nameIndex := 137, descriptorIndex := 25, attributes := #[] }, { accessFlags := 25, nameIndex := 143, descriptorIndex := 25, attributes := #[] }, { accessFlags := 25, nameIndex := 53, descriptorIndex := 25, attributes := #[] }, { accessFlags := 25, nameIndex := 24, descriptorIndex := 25, attributes := #[] }, { accessFlags := 25, nameIndex := 162, descriptorIndex := 25, attributes := #[] }, { accessFlags := 25, nameIndex := 187, descriptorIndex := 25, attributes := #[] }, { accessFlags := 26, nameIndex := 48, descriptorIndex := 25, attributes := #[] }, { accessFlags := 25, nameIndex := 277, descriptorIndex := 25, attributes := #[] }, { accessFlags := 25, nameIndex := 280, descriptorIndex := 25, attributes := #[] }, { accessFlags := 25, nameIndex := 282, descriptorIndex := 25, attributes := #[] }, { accessFlags := 25, nameIndex := 284, descriptorIndex := 25, attributes := #[] }, { accessFlags := 25, nameIndex := 286, descriptorIndex := 25, attributes := #[] }, { accessFlags := 25, nameIndex := 288, descriptorIndex := 25, attributes := #[] }, { accessFlags := 25, nameIndex := 290, descriptorIndex := 25, attributes := #[] }, { accessFlags := 25, nameIndex := 292, descriptorIndex := 25, attributes := #[] }, { accessFlags := 26, nameIndex := 108, descriptorIndex := 109, attributes := #[] }, { accessFlags := 25, nameIndex := 294, descriptorIndex := 25, attributes := #[] }])
  fields := #[{ name := "U", type := (.object "jdk/internal/misc/Unsafe"), accessFlags := 24, slot := 0, constantValue := 0 }, { name := "BIG_ENDIAN", type := .boolean, accessFlags := 26, slot := 1, constantValue := 0 }, { name := "LOG2_ARRAY_BOOLEAN_INDEX_SCALE", type := .int, accessFlags := 25, slot := 2, constantValue := 0 }, { name := "LOG2_ARRAY_BYTE_INDEX_SCALE", type := .int, accessFlags := 25, slot := 3, constantValue := 0 }, { name := "LOG2_ARRAY_CHAR_INDEX_SCALE", type := .int, accessFlags := 25, slot := 4, constantValue := 0 }, { name := "LOG2_ARRAY_SHORT_INDEX_SCALE", type := .int, accessFlags := 25, slot := 5, constantValue := 0 }, { name := "LOG2_ARRAY_INT_INDEX_SCALE", type := .int, accessFlags := 25, slot := 6, constantValue := 0 }, { name := "LOG2_ARRAY_LONG_INDEX_SCALE", type := .int, accessFlags := 25, slot := 7, constantValue := 0 }, { name := "LOG2_ARRAY_FLOAT_INDEX_SCALE", type := .int, accessFlags := 25, slot := 8, constantValue := 0 }, { name := "LOG2_ARRAY_DOUBLE_INDEX_SCALE", type := .int, accessFlags := 25, slot := 9, constantValue := 0 }, { name := "LOG2_BYTE_BIT_SIZE", type := .int, accessFlags := 26, slot := 10, constantValue := 0 }, { name := "T_BOOLEAN", type := .int, accessFlags := 25, slot := 11, constantValue := 0 }, { name := "T_CHAR", type := .int, accessFlags := 25, slot := 12, constantValue := 0 }, { name := "T_FLOAT", type := .int, accessFlags := 25, slot := 13, constantValue := 0 }, { name := "T_DOUBLE", type := .int, accessFlags := 25, slot := 14, constantValue := 0 }, { name := "T_BYTE", type := .int, accessFlags := 25, slot := 15, constantValue := 0 }, { name := "T_SHORT", type := .int, accessFlags := 25, slot := 16, constantValue := 0 }, { name := "T_INT", type := .int, accessFlags := 25, slot := 17, constantValue := 0 }, { name := "T_LONG", type := .int, accessFlags := 25, slot := 18, constantValue := 0 }, { name := "JLA", type := (.object "jdk/internal/access/JavaLangAccess"), accessFlags := 26, slot := 19, constantValue := 0 }, { name := "SOFT_MAX_ARRAY_LENGTH", type := .int, accessFlags := 25, slot := 20, constantValue := 0 }]
  methods := #[k32m0]
  instanceTypes := #[]
  staticTypes := #[(.object "jdk/internal/misc/Unsafe"), .boolean, .int, .int, .int, .int, .int, .int, .int, .int, .int, .int, .int, .int, .int, .int, .int, .int, .int, (.object "jdk/internal/access/JavaLangAccess"), .int]
  resolved := Array.replicate 378 none
  statics := none }

def pool33 : Array CpInfo := pool [(1, u "java/lang/Class"), (0, .class_ 1), (0, u "java/lang/Object"), (0, .class_ 3)] 0

/-- java/lang/Class -/
def k33 : Class := { plain "java/lang/Class" (some 0) with
  accessFlags := 49
  interfaces := #[]
  cf := some (fileOf pool33 2 #[] #[] 49 4 #[] #[])
  fields := #[]
  methods := #[]
  instanceTypes := #[]
  staticTypes := #[]
  resolved := Array.replicate 5 none
  statics := none }

/-- the primitive byte -/
def k34 : Class := { plain "byte" none with kind := .primitive 'B', accessFlags := 0x411 }
/-- [B -/
def k35 : Class := { plain "[B" (some 0) with kind := .array 34 .byte, interfaces := #[17, 2], accessFlags := 1041 }

/-- the primitive char -/
def k36 : Class := { plain "char" none with kind := .primitive 'C', accessFlags := 0x411 }
/-- [C -/
def k37 : Class := { plain "[C" (some 0) with kind := .array 36 .char, interfaces := #[17, 2], accessFlags := 1041 }

/-- the primitive int -/
def k38 : Class := { plain "int" none with kind := .primitive 'I', accessFlags := 0x411 }
/-- [I -/
def k39 : Class := { plain "[I" (some 0) with kind := .array 38 .int, interfaces := #[17, 2], accessFlags := 1041 }

/-- [Ljava/lang/Object; -/
def k40 : Class := { plain "[Ljava/lang/Object;" (some 0) with mirror := some 4, kind := .array 0 (.object "java/lang/Object"), interfaces := #[17, 2], accessFlags := 1041 }

/-- [Ljava/lang/String; -/
def k41 : Class := { plain "[Ljava/lang/String;" (some 0) with kind := .array 7 (.object "java/lang/String"), interfaces := #[17, 2], accessFlags := 1041 }

def heap : Heap := #[{ cls := 7, slots := #[.long 0, .int 1, .null, .int 0, .null, .int 0, .int 0], vm := .statics 7 },
  { cls := 18, slots := #[.long 0, .int 0, .ref 7, .ref 8], vm := .statics 18 },
  { cls := 21, slots := #[.long 0, .int 0, .null, .ref 9, .ref 6, .null, .null, .null, .int 0, .int 1], vm := .statics 21 },
  { cls := 31, slots := #[.null, .null, .null], vm := .statics 31 },
  { cls := 33, slots := #[], vm := .mirror 40 },
  { cls := 40, slots := #[], vm := .none },
  { cls := 25, slots := #[.ref 5, .int 0], vm := .none },
  { cls := 40, slots := #[], vm := .none },
  { cls := 40, slots := #[], vm := .none },
  { cls := 0, slots := #[], vm := .none }]
def classes : Array Class := #[k0, k1, k2, k3, k4, k5, k6, k7, k8, k9, k10, k11, k12, k13, k14, k15, k16, k17, k18, k19, k20, k21, k22, k23, k24, k25, k26, k27, k28, k29, k30, k31, k32, k33, k34, k35, k36, k37, k38, k39, k40, k41]
def interned : List (Array UInt16 × Addr) := []
def slotsUsed : Nat := 26
def theMethod : MethodId := ⟨1, 6⟩
def args0 : Array Value := #[.int 5, .long 5, .long 5, .long 5, .long 5, .long 5]
def aboutOver (below : List Frame) : State where
  vm := { classes := classes, interned := interned.toArray }
  heap := heap
  slotsUsed := slotsUsed
  threads := #[{ frames := .invoking theMethod args0 :: below }]
def below0 : List Frame := [.native { method := ⟨0, 0⟩, args := #[] }]
def about1 : State := aboutOver below0
def p0 : Program := .bare "" "" ""
def e0 : Env := launch0.env 0 0 0
theorem w_frames : about1.frames = Frame.invoking theMethod args0 :: below0 := rfl
set_option maxRecDepth 65536 in
theorem w_args : argsFit about1.vm theMethod args0 = true := by decide +kernel
set_option maxRecDepth 65536 in
theorem w_heap : heapFits about1 = true := by decide +kernel
set_option maxRecDepth 65536 in
theorem w_runnable : about1.curStatus? = some .runnable := by decide +kernel
set_option maxRecDepth 65536 in
theorem w_alone : about1.alone = true := by decide +kernel
set_option maxRecDepth 65536 in
theorem w_named : about1.methodNamed? x = some theMethod := by decide +kernel
set_option maxRecDepth 65536 in
theorem w_hears : about1.hears theMethod below0 = true := by decide +kernel
set_option maxRecDepth 65536 in
theorem w_ripe : about1.ripe theMethod args0 below0 = true := by decide +kernel
theorem w_running : about1.status = .running := rfl
set_option maxRecDepth 65536 in
theorem w_room : about1.hasRoom e0.platform room_1 = true :=
  launch0.hasRoom_least _ room_1 (by decide +kernel) (by decide +kernel) (by decide +kernel) (by decide +kernel) (by decide +kernel) (by decide +kernel)
theorem allAtoms_all (ts : List Jvm.Cond) (a : Array Jvm.Value) (st : Jvm.State) : (allAtoms ts).before a st = ts.all (fun c => c.before a st) := by
  induction ts with
  | nil => rfl
  | cons c t ih =>
    show (Jvm.Cond.and c (allAtoms t)).before a st = _
    rw [Jvm.Cond.before_and, ih, List.all_cons]
def words1 : List Jvm.Cond := Jvm.Cond.code x code maxLocals ret :: tables_1
/-- a 'code' word, met by the world's own term for the bytes: nothing is compared byte by byte -/
theorem code_word {y : MethodName} {bytes : ByteArray} {mx : Nat} {rt : Option FieldType} {a : Array Value} {s : State} {m : MethodId} {meth : Method} {c : Code} (h1 : s.methodNamed? y = some m) (h2 : s.vm.method? m = some meth) (h3 : meth.code = some c) (h4 : c.code = bytes)
    (h5 : (c.maxLocals == mx && c.exceptionTable.isEmpty && decide (c.maxStack ≤ mostOperands) && decide (meth.sig.returnType = rt) && !meth.locks && decide (parseMethodDescriptor y.desc = some meth.sig)) = true) : (Jvm.Cond.code y bytes mx rt).before a s = true := by
  simp only [Bool.and_eq_true, beq_iff_eq, Bool.not_eq_true', decide_eq_true_eq] at h5
  obtain ⟨⟨⟨⟨⟨g1, g2⟩, g3⟩, g4⟩, g5⟩, g6⟩ := h5
  simp [Cond.before, Cond.holds, Cond.value, h1, h2, h3, h4, g1, g2, g3, g4, g5, g6]
def isCode : Jvm.Cond → Bool
  | .code _ _ _ _ => true
  | _ => false
theorem all_split {L : List Jvm.Cond} {P : Jvm.Cond → Bool} (h1 : L.all (fun c => isCode c || P c) = true) (h2 : ∀ c ∈ L.filter isCode, P c = true) : L.all P = true := by
  refine List.all_eq_true.mpr fun c hc => ?_
  have h := List.all_eq_true.mp h1 c hc
  rcases Bool.eq_false_or_eq_true (isCode c) with hi | hi
  · exact h2 c (List.mem_filter.mpr ⟨hc, hi⟩)
  · simpa [hi] using h
set_option maxRecDepth 65536 in
theorem w_c0 : (Jvm.Cond.code x code maxLocals ret).before args0 about1 = true := code_word (m := ⟨1, 6⟩) (meth := k1m6) (c := k1c6) (by decide +kernel) rfl rfl rfl (by decide +kernel)
set_option maxRecDepth 65536 in
theorem w_c1 : (Jvm.Cond.code ({ cls := "com/example/packwright/packwright/io/BuildAssemblerRoutineOfLinePinLaw", name := "sub", desc := "(J)Ljava/lang/String;" } : Jvm.MethodName) method_4_code (4 : Nat) (Option.some (Jvm.ClassFile.FieldType.object "java/lang/String"))).before args0 about1 = true := code_word (m := ⟨1, 3⟩) (meth := k1m3) (c := k1c3) (by decide +kernel) rfl rfl rfl (by decide +kernel)
set_option maxRecDepth 65536 in
theorem w_c2 : (Jvm.Cond.code ({ cls := "com/example/packwright/packwright/io/BuildAssemblerRoutineOfLinePinLaw", name := "mode", desc := "(J)I" } : Jvm.MethodName) method_3_code (2 : Nat) (Option.some Jvm.ClassFile.FieldType.int)).before args0 about1 = true := code_word (m := ⟨1, 2⟩) (meth := k1m2) (c := k1c2) (by decide +kernel) rfl rfl rfl (by decide +kernel)
set_option maxRecDepth 65536 in
theorem w_c3 : (Jvm.Cond.code ({ cls := "com/example/packwright/packwright/io/BuildAssemblerRoutineOfLinePinLaw", name := "ch", desc := "(JI)C" } : Jvm.MethodName) method_2_code (3 : Nat) (Option.some Jvm.ClassFile.FieldType.char)).before args0 about1 = true := code_word (m := ⟨1, 1⟩) (meth := k1m1) (c := k1c1) (by decide +kernel) rfl rfl rfl (by decide +kernel)
set_option maxRecDepth 65536 in
theorem w_c4 : (Jvm.Cond.code ({ cls := "java/lang/String", name := "<init>", desc := "([C)V" } : Jvm.MethodName) jdk_42_method_3_code (2 : Nat) (Option.none : Option Jvm.ClassFile.FieldType)).before args0 about1 = true := code_word (m := ⟨7, 1⟩) (meth := k7m1) (c := k7c1) (by decide +kernel) rfl rfl rfl (by decide +kernel)
set_option maxRecDepth 65536 in
theorem w_c5 : (Jvm.Cond.code ({ cls := "java/lang/String", name := "<init>", desc := "([CIILjava/lang/Void;)V" } : Jvm.MethodName) jdk_42_method_149_code (6 : Nat) (Option.none : Option Jvm.ClassFile.FieldType)).before args0 about1 = true := code_word (m := ⟨7, 4⟩) (meth := k7m4) (c := k7c4) (by decide +kernel) rfl rfl rfl (by decide +kernel)
set_option maxRecDepth 65536 in
theorem w_c6 : (Jvm.Cond.code ({ cls := "java/lang/Object", name := "<init>", desc := "()V" } : Jvm.MethodName) object_method_1_code (1 : Nat) (Option.none : Option Jvm.ClassFile.FieldType)).before args0 about1 = true := code_word (m := ⟨0, 0⟩) (meth := k0m0) (c := k0c0) (by decide +kernel) rfl rfl rfl (by decide +kernel)
set_option maxRecDepth 65536 in
theorem w_c7 : (Jvm.Cond.code ({ cls := "java/lang/StringUTF16", name := "compress", desc := "([CII)[B" } : Jvm.MethodName) jdk_52_method_16_code (6 : Nat) (Option.some (Jvm.ClassFile.FieldType.array Jvm.ClassFile.FieldType.byte))).before args0 about1 = true := code_word (m := ⟨8, 2⟩) (meth := k8m2) (c := k8c2) (by decide +kernel) rfl rfl rfl (by decide +kernel)
set_option maxRecDepth 65536 in
theorem w_c8 : (Jvm.Cond.code ({ cls := "java/lang/StringUTF16", name := "compress", desc := "([CI[BII)I" } : Jvm.MethodName) jdk_52_method_21_code (7 : Nat) (Option.some Jvm.ClassFile.FieldType.int)).before args0 about1 = true := code_word (m := ⟨8, 3⟩) (meth := k8m3) (c := k8c3) (by decide +kernel) rfl rfl rfl (by decide +kernel)
set_option maxRecDepth 65536 in
theorem w_c9 : (Jvm.Cond.code ({ cls := "java/lang/StringUTF16", name := "coderFromArrayLen", desc := "([BI)B" } : Jvm.MethodName) jdk_52_method_15_code (2 : Nat) (Option.some Jvm.ClassFile.FieldType.byte)).before args0 about1 = true := code_word (m := ⟨8, 1⟩) (meth := k8m1) (c := k8c1) (by decide +kernel) rfl rfl rfl (by decide +kernel)
set_option maxRecDepth 65536 in
theorem w_c10 : (Jvm.Cond.code ({ cls := "java/lang/String", name := "valueOf", desc := "(C)Ljava/lang/String;" } : Jvm.MethodName) jdk_42_method_139_code (1 : Nat) (Option.some (Jvm.ClassFile.FieldType.object "java/lang/String"))).before args0 about1 = true := code_word (m := ⟨7, 3⟩) (meth := k7m3) (c := k7c3) (by decide +kernel) rfl rfl rfl (by decide +kernel)
set_option maxRecDepth 65536 in
theorem w_c11 : (Jvm.Cond.code ({ cls := "java/lang/StringLatin1", name := "canEncode", desc := "(C)Z" } : Jvm.MethodName) jdk_43_method_3_code (1 : Nat) (Option.some Jvm.ClassFile.FieldType.boolean)).before args0 about1 = true := code_word (m := ⟨9, 1⟩) (meth := k9m1) (c := k9c1) (by decide +kernel) rfl rfl rfl (by decide +kernel)
set_option maxRecDepth 65536 in
theorem w_c12 : (Jvm.Cond.code ({ cls := "java/lang/StringLatin1", name := "toBytes", desc := "(C)[B" } : Jvm.MethodName) jdk_43_method_46_code (1 : Nat) (Option.some (Jvm.ClassFile.FieldType.array Jvm.ClassFile.FieldType.byte))).before args0 about1 = true := code_word (m := ⟨9, 3⟩) (meth := k9m3) (c := k9c3) (by decide +kernel) rfl rfl rfl (by decide +kernel)
set_option maxRecDepth 65536 in
theorem w_c13 : (Jvm.Cond.code ({ cls := "java/lang/String", name := "<init>", desc := "([BB)V" } : Jvm.MethodName) jdk_42_method_151_code (3 : Nat) (Option.none : Option Jvm.ClassFile.FieldType)).before args0 about1 = true := code_word (m := ⟨7, 5⟩) (meth := k7m5) (c := k7c5) (by decide +kernel) rfl rfl rfl (by decide +kernel)
set_option maxRecDepth 65536 in
theorem w_c14 : (Jvm.Cond.code ({ cls := "java/util/ArrayList", name := "<init>", desc := "()V" } : Jvm.MethodName) jdk_38_method_2_code (1 : Nat) (Option.none : Option Jvm.ClassFile.FieldType)).before args0 about1 = true := code_word (m := ⟨18, 0⟩) (meth := k18m0) (c := k18c0) (by decide +kernel) rfl rfl rfl (by decide +kernel)
set_option maxRecDepth 65536 in
theorem w_c15 : (Jvm.Cond.code ({ cls := "java/util/AbstractList", name := "<init>", desc := "()V" } : Jvm.MethodName) jdk_39_method_1_code (1 : Nat) (Option.none : Option Jvm.ClassFile.FieldType)).before args0 about1 = true := code_word (m := ⟨15, 0⟩) (meth := k15m0) (c := k15c0) (by decide +kernel) rfl rfl rfl (by decide +kernel)
set_option maxRecDepth 65536 in
theorem w_c16 : (Jvm.Cond.code ({ cls := "java/util/AbstractCollection", name := "<init>", desc := "()V" } : Jvm.MethodName) jdk_22_method_1_code (1 : Nat) (Option.none : Option Jvm.ClassFile.FieldType)).before args0 about1 = true := code_word (m := ⟨12, 0⟩) (meth := k12m0) (c := k12c0) (by decide +kernel) rfl rfl rfl (by decide +kernel)
set_option maxRecDepth 65536 in
theorem w_c17 : (Jvm.Cond.code ({ cls := "com/example/packwright/packwright/model/Node", name := "<init>", desc := "(Ljava/lang/String;Ljava/util/List;Ljava/lang/String;)V" } : Jvm.MethodName) prog_37_method_1_code (4 : Nat) (Option.none : Option Jvm.ClassFile.FieldType)).before args0 about1 = true := code_word (m := ⟨20, 0⟩) (meth := k20m0) (c := k20c0) (by decide +kernel) rfl rfl rfl (by decide +kernel)
set_option maxRecDepth 65536 in
theorem w_c18 : (Jvm.Cond.code ({ cls := "java/lang/Record", name := "<init>", desc := "()V" } : Jvm.MethodName) jdk_30_method_1_code (1 : Nat) (Option.none : Option Jvm.ClassFile.FieldType)).before args0 about1 = true := code_word (m := ⟨19, 0⟩) (meth := k19m0) (c := k19c0) (by decide +kernel) rfl rfl rfl (by decide +kernel)
set_option maxRecDepth 65536 in
theorem w_c19 : (Jvm.Cond.code ({ cls := "java/util/List", name := "copyOf", desc := "(Ljava/util/Collection;)Ljava/util/List;" } : Jvm.MethodName) jdk_40_method_48_code (1 : Nat) (Option.some (Jvm.ClassFile.FieldType.object "java/util/List"))).before args0 about1 = true := code_word (m := ⟨14, 4⟩) (meth := k14m4) (c := k14c4) (by decide +kernel) rfl rfl rfl (by decide +kernel)
set_option maxRecDepth 65536 in
theorem w_c20 : (Jvm.Cond.code ({ cls := "java/util/ImmutableCollections", name := "listCopy", desc := "(Ljava/util/Collection;)Ljava/util/List;" } : Jvm.MethodName) jdk_56_method_3_code (2 : Nat) (Option.some (Jvm.ClassFile.FieldType.object "java/util/List"))).before args0 about1 = true := code_word (m := ⟨21, 1⟩) (meth := k21m1) (c := k21c1) (by decide +kernel) rfl rfl rfl (by decide +kernel)
set_option maxRecDepth 65536 in
theorem w_c21 : (Jvm.Cond.code ({ cls := "java/util/ArrayList", name := "isEmpty", desc := "()Z" } : Jvm.MethodName) jdk_38_method_9_code (1 : Nat) (Option.some Jvm.ClassFile.FieldType.boolean)).before args0 about1 = true := code_word (m := ⟨18, 3⟩) (meth := k18m3) (c := k18c3) (by decide +kernel) rfl rfl rfl (by decide +kernel)
set_option maxRecDepth 65536 in
theorem w_c22 : (Jvm.Cond.code ({ cls := "java/util/List", name := "of", desc := "()Ljava/util/List;" } : Jvm.MethodName) jdk_40_method_36_code (0 : Nat) (Option.some (Jvm.ClassFile.FieldType.object "java/util/List"))).before args0 about1 = true := code_word (m := ⟨14, 2⟩) (meth := k14m2) (c := k14c2) (by decide +kernel) rfl rfl rfl (by decide +kernel)
set_option maxRecDepth 65536 in
theorem w_c23 : (Jvm.Cond.code ({ cls := "com/example/packwright/packwright/io/BuildAssembler", name := "routineOfLine", desc := "(Lcom/example/packwright/packwright/model/Node;)Ljava/lang/String;" } : Jvm.MethodName) prog_4_method_10_code (3 : Nat) (Option.some (Jvm.ClassFile.FieldType.object "java/lang/String"))).before args0 about1 = true := code_word (m := ⟨26, 0⟩) (meth := k26m0) (c := k26c0) (by decide +kernel) rfl rfl rfl (by decide +kernel)
set_option maxRecDepth 65536 in
theorem w_c24 : (Jvm.Cond.code ({ cls := "com/example/packwright/packwright/model/Node", name := "subscripts", desc := "()Ljava/util/List;" } : Jvm.MethodName) prog_37_method_7_code (1 : Nat) (Option.some (Jvm.ClassFile.FieldType.object "java/util/List"))).before args0 about1 = true := code_word (m := ⟨20, 1⟩) (meth := k20m1) (c := k20c1) (by decide +kernel) rfl rfl rfl (by decide +kernel)
set_option maxRecDepth 65536 in
theorem w_c25 : (Jvm.Cond.code ({ cls := "java/util/ImmutableCollections$ListN", name := "size", desc := "()I" } : Jvm.MethodName) jdk_45_method_3_code (1 : Nat) (Option.some Jvm.ClassFile.FieldType.int)).before args0 about1 = true := code_word (m := ⟨25, 1⟩) (meth := k25m1) (c := k25c1) (by decide +kernel) rfl rfl rfl (by decide +kernel)
set_option maxRecDepth 65536 in
theorem w_c26 : (Jvm.Cond.code ({ cls := "java/util/ArrayList", name := "add", desc := "(Ljava/lang/Object;)Z" } : Jvm.MethodName) jdk_38_method_25_code (2 : Nat) (Option.some Jvm.ClassFile.FieldType.boolean)).before args0 about1 = true := code_word (m := ⟨18, 6⟩) (meth := k18m6) (c := k18c6) (by decide +kernel) rfl rfl rfl (by decide +kernel)
set_option maxRecDepth 65536 in
theorem w_c27 : (Jvm.Cond.code ({ cls := "java/util/ArrayList", name := "add", desc := "(Ljava/lang/Object;[Ljava/lang/Object;I)V" } : Jvm.MethodName) jdk_38_method_24_code (4 : Nat) (Option.none : Option Jvm.ClassFile.FieldType)).before args0 about1 = true := code_word (m := ⟨18, 5⟩) (meth := k18m5) (c := k18c5) (by decide +kernel) rfl rfl rfl (by decide +kernel)
set_option maxRecDepth 65536 in
theorem w_c28 : (Jvm.Cond.code ({ cls := "java/util/ArrayList", name := "grow", desc := "()[Ljava/lang/Object;" } : Jvm.MethodName) jdk_38_method_7_code (1 : Nat) (Option.some (Jvm.ClassFile.FieldType.array (Jvm.ClassFile.FieldType.object "java/lang/Object")))).before args0 about1 = true := code_word (m := ⟨18, 2⟩) (meth := k18m2) (c := k18c2) (by decide +kernel) rfl rfl rfl (by decide +kernel)
set_option maxRecDepth 65536 in
theorem w_c29 : (Jvm.Cond.code ({ cls := "java/util/ArrayList", name := "grow", desc := "(I)[Ljava/lang/Object;" } : Jvm.MethodName) jdk_38_method_6_code (4 : Nat) (Option.some (Jvm.ClassFile.FieldType.array (Jvm.ClassFile.FieldType.object "java/lang/Object")))).before args0 about1 = true := code_word (m := ⟨18, 1⟩) (meth := k18m1) (c := k18c1) (by decide +kernel) rfl rfl rfl (by decide +kernel)
set_option maxRecDepth 65536 in
theorem w_c30 : (Jvm.Cond.code ({ cls := "java/lang/Math", name := "max", desc := "(II)I" } : Jvm.MethodName) jdk_29_method_65_code (2 : Nat) (Option.some Jvm.ClassFile.FieldType.int)).before args0 about1 = true := code_word (m := ⟨27, 1⟩) (meth := k27m1) (c := k27c1) (by decide +kernel) rfl rfl rfl (by decide +kernel)
set_option maxRecDepth 65536 in
theorem w_c31 : (Jvm.Cond.code ({ cls := "java/util/ArrayList", name := "toArray", desc := "()[Ljava/lang/Object;" } : Jvm.MethodName) jdk_38_method_16_code (1 : Nat) (Option.some (Jvm.ClassFile.FieldType.array (Jvm.ClassFile.FieldType.object "java/lang/Object")))).before args0 about1 = true := code_word (m := ⟨18, 4⟩) (meth := k18m4) (c := k18c4) (by decide +kernel) rfl rfl rfl (by decide +kernel)
set_option maxRecDepth 65536 in
theorem w_c32 : (Jvm.Cond.code ({ cls := "java/util/Arrays", name := "copyOf", desc := "([Ljava/lang/Object;I)[Ljava/lang/Object;" } : Jvm.MethodName) jdk_65_method_119_code (2 : Nat) (Option.some (Jvm.ClassFile.FieldType.array (Jvm.ClassFile.FieldType.object "java/lang/Object")))).before args0 about1 = true := code_word (m := ⟨28, 1⟩) (meth := k28m1) (c := k28c1) (by decide +kernel) rfl rfl rfl (by decide +kernel)
set_option maxRecDepth 65536 in
theorem w_c33 : (Jvm.Cond.code ({ cls := "java/util/Arrays", name := "copyOf", desc := "([Ljava/lang/Object;ILjava/lang/Class;)[Ljava/lang/Object;" } : Jvm.MethodName) jdk_65_method_120_code (4 : Nat) (Option.some (Jvm.ClassFile.FieldType.array (Jvm.ClassFile.FieldType.object "java/lang/Object")))).before args0 about1 = true := code_word (m := ⟨28, 2⟩) (meth := k28m2) (c := k28c2) (by decide +kernel) rfl rfl rfl (by decide +kernel)
set_option maxRecDepth 65536 in
theorem w_c34 : (Jvm.Cond.code ({ cls := "java/lang/Math", name := "min", desc := "(II)I" } : Jvm.MethodName) jdk_29_method_69_code (2 : Nat) (Option.some Jvm.ClassFile.FieldType.int)).before args0 about1 = true := code_word (m := ⟨27, 2⟩) (meth := k27m2) (c := k27c2) (by decide +kernel) rfl rfl rfl (by decide +kernel)
set_option maxRecDepth 65536 in
theorem w_c35 : (Jvm.Cond.code ({ cls := "java/util/List", name := "of", desc := "([Ljava/lang/Object;)Ljava/util/List;" } : Jvm.MethodName) jdk_40_method_47_code (2 : Nat) (Option.some (Jvm.ClassFile.FieldType.object "java/util/List"))).before args0 about1 = true := code_word (m := ⟨14, 3⟩) (meth := k14m3) (c := k14c3) (by decide +kernel) rfl rfl rfl (by decide +kernel)
set_option maxRecDepth 65536 in
theorem w_c36 : (Jvm.Cond.code ({ cls := "java/util/ImmutableCollections", name := "listFromArray", desc := "([Ljava/lang/Object;)Ljava/util/List;" } : Jvm.MethodName) jdk_56_method_4_code (3 : Nat) (Option.some (Jvm.ClassFile.FieldType.object "java/util/List"))).before args0 about1 = true := code_word (m := ⟨21, 2⟩) (meth := k21m2) (c := k21c2) (by decide +kernel) rfl rfl rfl (by decide +kernel)
set_option maxRecDepth 65536 in
theorem w_c37 : (Jvm.Cond.code ({ cls := "java/util/Objects", name := "requireNonNull", desc := "(Ljava/lang/Object;)Ljava/lang/Object;" } : Jvm.MethodName) jdk_31_method_10_code (1 : Nat) (Option.some (Jvm.ClassFile.FieldType.object "java/lang/Object"))).before args0 about1 = true := code_word (m := ⟨30, 1⟩) (meth := k30m1) (c := k30c1) (by decide +kernel) rfl rfl rfl (by decide +kernel)
set_option maxRecDepth 65536 in
theorem w_c38 : (Jvm.Cond.code ({ cls := "java/util/ImmutableCollections$ListN", name := "<init>", desc := "([Ljava/lang/Object;Z)V" } : Jvm.MethodName) jdk_45_method_1_code (3 : Nat) (Option.none : Option Jvm.ClassFile.FieldType)).before args0 about1 = true := code_word (m := ⟨25, 0⟩) (meth := k25m0) (c := k25c0) (by decide +kernel) rfl rfl rfl (by decide +kernel)
set_option maxRecDepth 65536 in
theorem w_c39 : (Jvm.Cond.code ({ cls := "java/util/ImmutableCollections$AbstractImmutableList", name := "<init>", desc := "()V" } : Jvm.MethodName) jdk_46_method_1_code (1 : Nat) (Option.none : Option Jvm.ClassFile.FieldType)).before args0 about1 = true := code_word (m := ⟨23, 0⟩) (meth := k23m0) (c := k23c0) (by decide +kernel) rfl rfl rfl (by decide +kernel)
set_option maxRecDepth 65536 in
theorem w_c40 : (Jvm.Cond.code ({ cls := "java/util/ImmutableCollections$AbstractImmutableCollection", name := "<init>", desc := "()V" } : Jvm.MethodName) jdk_47_method_1_code (1 : Nat) (Option.none : Option Jvm.ClassFile.FieldType)).before args0 about1 = true := code_word (m := ⟨22, 0⟩) (meth := k22m0) (c := k22c0) (by decide +kernel) rfl rfl rfl (by decide +kernel)
set_option maxRecDepth 65536 in
theorem w_c41 : (Jvm.Cond.code ({ cls := "java/util/ImmutableCollections$List12", name := "<init>", desc := "(Ljava/lang/Object;Ljava/lang/Object;)V" } : Jvm.MethodName) jdk_44_method_2_code (3 : Nat) (Option.none : Option Jvm.ClassFile.FieldType)).before args0 about1 = true := code_word (m := ⟨24, 1⟩) (meth := k24m1) (c := k24c1) (by decide +kernel) rfl rfl rfl (by decide +kernel)
set_option maxRecDepth 65536 in
theorem w_c42 : (Jvm.Cond.code ({ cls := "java/util/ImmutableCollections$List12", name := "size", desc := "()I" } : Jvm.MethodName) jdk_44_method_3_code (1 : Nat) (Option.some Jvm.ClassFile.FieldType.int)).before args0 about1 = true := code_word (m := ⟨24, 2⟩) (meth := k24m2) (c := k24c2) (by decide +kernel) rfl rfl rfl (by decide +kernel)
set_option maxRecDepth 65536 in
theorem w_c43 : (Jvm.Cond.code ({ cls := "java/util/ImmutableCollections$List12", name := "<init>", desc := "(Ljava/lang/Object;)V" } : Jvm.MethodName) jdk_44_method_1_code (2 : Nat) (Option.none : Option Jvm.ClassFile.FieldType)).before args0 about1 = true := code_word (m := ⟨24, 0⟩) (meth := k24m0) (c := k24c0) (by decide +kernel) rfl rfl rfl (by decide +kernel)
set_option maxRecDepth 65536 in
theorem w_c44 : (Jvm.Cond.code ({ cls := "java/util/ImmutableCollections$ListN", name := "get", desc := "(I)Ljava/lang/Object;" } : Jvm.MethodName) jdk_45_method_4_code (2 : Nat) (Option.some (Jvm.ClassFile.FieldType.object "java/lang/Object"))).before args0 about1 = true := code_word (m := ⟨25, 2⟩) (meth := k25m2) (c := k25c2) (by decide +kernel) rfl rfl rfl (by decide +kernel)
set_option maxRecDepth 65536 in
theorem w_c45 : (Jvm.Cond.code ({ cls := "java/lang/String", name := "equals", desc := "(Ljava/lang/Object;)Z" } : Jvm.MethodName) jdk_42_method_66_code (3 : Nat) (Option.some Jvm.ClassFile.FieldType.boolean)).before args0 about1 = true := code_word (m := ⟨7, 2⟩) (meth := k7m2) (c := k7c2) (by decide +kernel) rfl rfl rfl (by decide +kernel)
set_option maxRecDepth 65536 in
theorem w_c46 : (Jvm.Cond.code ({ cls := "java/lang/StringLatin1", name := "equals", desc := "([B[B)Z" } : Jvm.MethodName) jdk_43_method_13_code (3 : Nat) (Option.some Jvm.ClassFile.FieldType.boolean)).before args0 about1 = true := code_word (m := ⟨9, 2⟩) (meth := k9m2) (c := k9c2) (by decide +kernel) rfl rfl rfl (by decide +kernel)
set_option maxRecDepth 65536 in
theorem w_c47 : (Jvm.Cond.code ({ cls := "com/example/packwright/packwright/io/BuildAssemblerRoutineOfLinePinLaw", name := "isRtn", desc := "(J)Z" } : Jvm.MethodName) method_5_code (3 : Nat) (Option.some Jvm.ClassFile.FieldType.boolean)).before args0 about1 = true := code_word (m := ⟨1, 4⟩) (meth := k1m4) (c := k1c4) (by decide +kernel) rfl rfl rfl (by decide +kernel)
set_option maxRecDepth 65536 in
theorem w_c48 : (Jvm.Cond.code ({ cls := "com/example/packwright/packwright/io/BuildAssemblerRoutineOfLinePinLaw", name := "isZero", desc := "(J)Z" } : Jvm.MethodName) method_6_code (3 : Nat) (Option.some Jvm.ClassFile.FieldType.boolean)).before args0 about1 = true := code_word (m := ⟨1, 5⟩) (meth := k1m5) (c := k1c5) (by decide +kernel) rfl rfl rfl (by decide +kernel)
def codes1 : List Jvm.Cond := [Jvm.Cond.code x code maxLocals ret, Jvm.Cond.code ({ cls := "com/example/packwright/packwright/io/BuildAssemblerRoutineOfLinePinLaw", name := "sub", desc := "(J)Ljava/lang/String;" } : Jvm.MethodName) method_4_code (4 : Nat) (Option.some (Jvm.ClassFile.FieldType.object "java/lang/String")), Jvm.Cond.code ({ cls := "com/example/packwright/packwright/io/BuildAssemblerRoutineOfLinePinLaw", name := "mode", desc := "(J)I" } : Jvm.MethodName) method_3_code (2 : Nat) (Option.some Jvm.ClassFile.FieldType.int), Jvm.Cond.code ({ cls := "com/example/packwright/packwright/io/BuildAssemblerRoutineOfLinePinLaw", name := "ch", desc := "(JI)C" } : Jvm.MethodName) method_2_code (3 : Nat) (Option.some Jvm.ClassFile.FieldType.char), Jvm.Cond.code ({ cls := "java/lang/String", name := "<init>", desc := "([C)V" } : Jvm.MethodName) jdk_42_method_3_code (2 : Nat) (Option.none : Option Jvm.ClassFile.FieldType), Jvm.Cond.code ({ cls := "java/lang/String", name := "<init>", desc := "([CIILjava/lang/Void;)V" } : Jvm.MethodName) jdk_42_method_149_code (6 : Nat) (Option.none : Option Jvm.ClassFile.FieldType), Jvm.Cond.code ({ cls := "java/lang/Object", name := "<init>", desc := "()V" } : Jvm.MethodName) object_method_1_code (1 : Nat) (Option.none : Option Jvm.ClassFile.FieldType), Jvm.Cond.code ({ cls := "java/lang/StringUTF16", name := "compress", desc := "([CII)[B" } : Jvm.MethodName) jdk_52_method_16_code (6 : Nat) (Option.some (Jvm.ClassFile.FieldType.array Jvm.ClassFile.FieldType.byte)), Jvm.Cond.code ({ cls := "java/lang/StringUTF16", name := "compress", desc := "([CI[BII)I" } : Jvm.MethodName) jdk_52_method_21_code (7 : Nat) (Option.some Jvm.ClassFile.FieldType.int), Jvm.Cond.code ({ cls := "java/lang/StringUTF16", name := "coderFromArrayLen", desc := "([BI)B" } : Jvm.MethodName) jdk_52_method_15_code (2 : Nat) (Option.some Jvm.ClassFile.FieldType.byte), Jvm.Cond.code ({ cls := "java/lang/String", name := "valueOf", desc := "(C)Ljava/lang/String;" } : Jvm.MethodName) jdk_42_method_139_code (1 : Nat) (Option.some (Jvm.ClassFile.FieldType.object "java/lang/String")), Jvm.Cond.code ({ cls := "java/lang/StringLatin1", name := "canEncode", desc := "(C)Z" } : Jvm.MethodName) jdk_43_method_3_code (1 : Nat) (Option.some Jvm.ClassFile.FieldType.boolean), Jvm.Cond.code ({ cls := "java/lang/StringLatin1", name := "toBytes", desc := "(C)[B" } : Jvm.MethodName) jdk_43_method_46_code (1 : Nat) (Option.some (Jvm.ClassFile.FieldType.array Jvm.ClassFile.FieldType.byte)), Jvm.Cond.code ({ cls := "java/lang/String", name := "<init>", desc := "([BB)V" } : Jvm.MethodName) jdk_42_method_151_code (3 : Nat) (Option.none : Option Jvm.ClassFile.FieldType), Jvm.Cond.code ({ cls := "java/util/ArrayList", name := "<init>", desc := "()V" } : Jvm.MethodName) jdk_38_method_2_code (1 : Nat) (Option.none : Option Jvm.ClassFile.FieldType), Jvm.Cond.code ({ cls := "java/util/AbstractList", name := "<init>", desc := "()V" } : Jvm.MethodName) jdk_39_method_1_code (1 : Nat) (Option.none : Option Jvm.ClassFile.FieldType), Jvm.Cond.code ({ cls := "java/util/AbstractCollection", name := "<init>", desc := "()V" } : Jvm.MethodName) jdk_22_method_1_code (1 : Nat) (Option.none : Option Jvm.ClassFile.FieldType), Jvm.Cond.code ({ cls := "com/example/packwright/packwright/model/Node", name := "<init>", desc := "(Ljava/lang/String;Ljava/util/List;Ljava/lang/String;)V" } : Jvm.MethodName) prog_37_method_1_code (4 : Nat) (Option.none : Option Jvm.ClassFile.FieldType), Jvm.Cond.code ({ cls := "java/lang/Record", name := "<init>", desc := "()V" } : Jvm.MethodName) jdk_30_method_1_code (1 : Nat) (Option.none : Option Jvm.ClassFile.FieldType), Jvm.Cond.code ({ cls := "java/util/List", name := "copyOf", desc := "(Ljava/util/Collection;)Ljava/util/List;" } : Jvm.MethodName) jdk_40_method_48_code (1 : Nat) (Option.some (Jvm.ClassFile.FieldType.object "java/util/List")), Jvm.Cond.code ({ cls := "java/util/ImmutableCollections", name := "listCopy", desc := "(Ljava/util/Collection;)Ljava/util/List;" } : Jvm.MethodName) jdk_56_method_3_code (2 : Nat) (Option.some (Jvm.ClassFile.FieldType.object "java/util/List")), Jvm.Cond.code ({ cls := "java/util/ArrayList", name := "isEmpty", desc := "()Z" } : Jvm.MethodName) jdk_38_method_9_code (1 : Nat) (Option.some Jvm.ClassFile.FieldType.boolean), Jvm.Cond.code ({ cls := "java/util/List", name := "of", desc := "()Ljava/util/List;" } : Jvm.MethodName) jdk_40_method_36_code (0 : Nat) (Option.some (Jvm.ClassFile.FieldType.object "java/util/List")), Jvm.Cond.code ({ cls := "com/example/packwright/packwright/io/BuildAssembler", name := "routineOfLine", desc := "(Lcom/example/packwright/packwright/model/Node;)Ljava/lang/String;" } : Jvm.MethodName) prog_4_method_10_code (3 : Nat) (Option.some (Jvm.ClassFile.FieldType.object "java/lang/String")), Jvm.Cond.code ({ cls := "com/example/packwright/packwright/model/Node", name := "subscripts", desc := "()Ljava/util/List;" } : Jvm.MethodName) prog_37_method_7_code (1 : Nat) (Option.some (Jvm.ClassFile.FieldType.object "java/util/List")), Jvm.Cond.code ({ cls := "java/util/ImmutableCollections$ListN", name := "size", desc := "()I" } : Jvm.MethodName) jdk_45_method_3_code (1 : Nat) (Option.some Jvm.ClassFile.FieldType.int), Jvm.Cond.code ({ cls := "java/util/ArrayList", name := "add", desc := "(Ljava/lang/Object;)Z" } : Jvm.MethodName) jdk_38_method_25_code (2 : Nat) (Option.some Jvm.ClassFile.FieldType.boolean), Jvm.Cond.code ({ cls := "java/util/ArrayList", name := "add", desc := "(Ljava/lang/Object;[Ljava/lang/Object;I)V" } : Jvm.MethodName) jdk_38_method_24_code (4 : Nat) (Option.none : Option Jvm.ClassFile.FieldType), Jvm.Cond.code ({ cls := "java/util/ArrayList", name := "grow", desc := "()[Ljava/lang/Object;" } : Jvm.MethodName) jdk_38_method_7_code (1 : Nat) (Option.some (Jvm.ClassFile.FieldType.array (Jvm.ClassFile.FieldType.object "java/lang/Object"))), Jvm.Cond.code ({ cls := "java/util/ArrayList", name := "grow", desc := "(I)[Ljava/lang/Object;" } : Jvm.MethodName) jdk_38_method_6_code (4 : Nat) (Option.some (Jvm.ClassFile.FieldType.array (Jvm.ClassFile.FieldType.object "java/lang/Object"))), Jvm.Cond.code ({ cls := "java/lang/Math", name := "max", desc := "(II)I" } : Jvm.MethodName) jdk_29_method_65_code (2 : Nat) (Option.some Jvm.ClassFile.FieldType.int), Jvm.Cond.code ({ cls := "java/util/ArrayList", name := "toArray", desc := "()[Ljava/lang/Object;" } : Jvm.MethodName) jdk_38_method_16_code (1 : Nat) (Option.some (Jvm.ClassFile.FieldType.array (Jvm.ClassFile.FieldType.object "java/lang/Object"))), Jvm.Cond.code ({ cls := "java/util/Arrays", name := "copyOf", desc := "([Ljava/lang/Object;I)[Ljava/lang/Object;" } : Jvm.MethodName) jdk_65_method_119_code (2 : Nat) (Option.some (Jvm.ClassFile.FieldType.array (Jvm.ClassFile.FieldType.object "java/lang/Object"))), Jvm.Cond.code ({ cls := "java/util/Arrays", name := "copyOf", desc := "([Ljava/lang/Object;ILjava/lang/Class;)[Ljava/lang/Object;" } : Jvm.MethodName) jdk_65_method_120_code (4 : Nat) (Option.some (Jvm.ClassFile.FieldType.array (Jvm.ClassFile.FieldType.object "java/lang/Object"))), Jvm.Cond.code ({ cls := "java/lang/Math", name := "min", desc := "(II)I" } : Jvm.MethodName) jdk_29_method_69_code (2 : Nat) (Option.some Jvm.ClassFile.FieldType.int), Jvm.Cond.code ({ cls := "java/util/List", name := "of", desc := "([Ljava/lang/Object;)Ljava/util/List;" } : Jvm.MethodName) jdk_40_method_47_code (2 : Nat) (Option.some (Jvm.ClassFile.FieldType.object "java/util/List")), Jvm.Cond.code ({ cls := "java/util/ImmutableCollections", name := "listFromArray", desc := "([Ljava/lang/Object;)Ljava/util/List;" } : Jvm.MethodName) jdk_56_method_4_code (3 : Nat) (Option.some (Jvm.ClassFile.FieldType.object "java/util/List")), Jvm.Cond.code ({ cls := "java/util/Objects", name := "requireNonNull", desc := "(Ljava/lang/Object;)Ljava/lang/Object;" } : Jvm.MethodName) jdk_31_method_10_code (1 : Nat) (Option.some (Jvm.ClassFile.FieldType.object "java/lang/Object")), Jvm.Cond.code ({ cls := "java/util/ImmutableCollections$ListN", name := "<init>", desc := "([Ljava/lang/Object;Z)V" } : Jvm.MethodName) jdk_45_method_1_code (3 : Nat) (Option.none : Option Jvm.ClassFile.FieldType), Jvm.Cond.code ({ cls := "java/util/ImmutableCollections$AbstractImmutableList", name := "<init>", desc := "()V" } : Jvm.MethodName) jdk_46_method_1_code (1 : Nat) (Option.none : Option Jvm.ClassFile.FieldType), Jvm.Cond.code ({ cls := "java/util/ImmutableCollections$AbstractImmutableCollection", name := "<init>", desc := "()V" } : Jvm.MethodName) jdk_47_method_1_code (1 : Nat) (Option.none : Option Jvm.ClassFile.FieldType), Jvm.Cond.code ({ cls := "java/util/ImmutableCollections$List12", name := "<init>", desc := "(Ljava/lang/Object;Ljava/lang/Object;)V" } : Jvm.MethodName) jdk_44_method_2_code (3 : Nat) (Option.none : Option Jvm.ClassFile.FieldType), Jvm.Cond.code ({ cls := "java/util/ImmutableCollections$List12", name := "size", desc := "()I" } : Jvm.MethodName) jdk_44_method_3_code (1 : Nat) (Option.some Jvm.ClassFile.FieldType.int), Jvm.Cond.code ({ cls := "java/util/ImmutableCollections$List12", name := "<init>", desc := "(Ljava/lang/Object;)V" } : Jvm.MethodName) jdk_44_method_1_code (2 : Nat) (Option.none : Option Jvm.ClassFile.FieldType), Jvm.Cond.code ({ cls := "java/util/ImmutableCollections$ListN", name := "get", desc := "(I)Ljava/lang/Object;" } : Jvm.MethodName) jdk_45_method_4_code (2 : Nat) (Option.some (Jvm.ClassFile.FieldType.object "java/lang/Object")), Jvm.Cond.code ({ cls := "java/lang/String", name := "equals", desc := "(Ljava/lang/Object;)Z" } : Jvm.MethodName) jdk_42_method_66_code (3 : Nat) (Option.some Jvm.ClassFile.FieldType.boolean), Jvm.Cond.code ({ cls := "java/lang/StringLatin1", name := "equals", desc := "([B[B)Z" } : Jvm.MethodName) jdk_43_method_13_code (3 : Nat) (Option.some Jvm.ClassFile.FieldType.boolean), Jvm.Cond.code ({ cls := "com/example/packwright/packwright/io/BuildAssemblerRoutineOfLinePinLaw", name := "isRtn", desc := "(J)Z" } : Jvm.MethodName) method_5_code (3 : Nat) (Option.some Jvm.ClassFile.FieldType.boolean), Jvm.Cond.code ({ cls := "com/example/packwright/packwright/io/BuildAssemblerRoutineOfLinePinLaw", name := "isZero", desc := "(J)Z" } : Jvm.MethodName) method_6_code (3 : Nat) (Option.some Jvm.ClassFile.FieldType.boolean)]
set_option maxRecDepth 65536 in
theorem codes_eq : words1.filter isCode = codes1 := rfl
theorem w_codes : ∀ c ∈ words1.filter isCode, c.before args0 about1 = true := by
  rw [codes_eq]
  intro c hc
  simp only [codes1, List.mem_cons, List.not_mem_nil, or_false] at hc
  rcases hc with rfl | rfl | rfl | rfl | rfl | rfl | rfl | rfl | rfl | rfl | rfl | rfl | rfl | rfl | rfl | rfl | rfl | rfl | rfl | rfl | rfl | rfl | rfl | rfl | rfl | rfl | rfl | rfl | rfl | rfl | rfl | rfl | rfl | rfl | rfl | rfl | rfl | rfl | rfl | rfl | rfl | rfl | rfl | rfl | rfl | rfl | rfl | rfl | rfl
  · exact w_c0
  · exact w_c1
  · exact w_c2
  · exact w_c3
  · exact w_c4
  · exact w_c5
  · exact w_c6
  · exact w_c7
  · exact w_c8
  · exact w_c9
  · exact w_c10
  · exact w_c11
  · exact w_c12
  · exact w_c13
  · exact w_c14
  · exact w_c15
  · exact w_c16
  · exact w_c17
  · exact w_c18
  · exact w_c19
  · exact w_c20
  · exact w_c21
  · exact w_c22
  · exact w_c23
  · exact w_c24
  · exact w_c25
  · exact w_c26
  · exact w_c27
  · exact w_c28
  · exact w_c29
  · exact w_c30
  · exact w_c31
  · exact w_c32
  · exact w_c33
  · exact w_c34
  · exact w_c35
  · exact w_c36
  · exact w_c37
  · exact w_c38
  · exact w_c39
  · exact w_c40
  · exact w_c41
  · exact w_c42
  · exact w_c43
  · exact w_c44
  · exact w_c45
  · exact w_c46
  · exact w_c47
  · exact w_c48
set_option maxRecDepth 65536 in
theorem w_t1 : (words1.take 24).all (fun c => isCode c || c.before args0 about1) = true := by decide +kernel
set_option maxRecDepth 65536 in
theorem w_t2 : ((words1.drop 24).take 24).all (fun c => isCode c || c.before args0 about1) = true := by decide +kernel
set_option maxRecDepth 65536 in
theorem w_t3 : (((words1.drop 24).drop 24).take 24).all (fun c => isCode c || c.before args0 about1) = true := by decide +kernel
set_option maxRecDepth 65536 in
theorem w_t4 : ((((words1.drop 24).drop 24).drop 24).take 24).all (fun c => isCode c || c.before args0 about1) = true := by decide +kernel
set_option maxRecDepth 65536 in
theorem w_t5 : (((((words1.drop 24).drop 24).drop 24).drop 24).take 24).all (fun c => isCode c || c.before args0 about1) = true := by decide +kernel
set_option maxRecDepth 65536 in
theorem w_t6 : ((((((words1.drop 24).drop 24).drop 24).drop 24).drop 24).take 24).all (fun c => isCode c || c.before args0 about1) = true := by decide +kernel
set_option maxRecDepth 65536 in
theorem w_t7 : (((((((words1.drop 24).drop 24).drop 24).drop 24).drop 24).drop 24).take 24).all (fun c => isCode c || c.before args0 about1) = true := by decide +kernel
set_option maxRecDepth 65536 in
theorem w_t8 : ((((((((words1.drop 24).drop 24).drop 24).drop 24).drop 24).drop 24).drop 24).take 24).all (fun c => isCode c || c.before args0 about1) = true := by decide +kernel
set_option maxRecDepth 65536 in
theorem w_t9 : (((((((((words1.drop 24).drop 24).drop 24).drop 24).drop 24).drop 24).drop 24).drop 24).take 24).all (fun c => isCode c || c.before args0 about1) = true := by decide +kernel
set_option maxRecDepth 65536 in
theorem w_t10 : ((((((((((words1.drop 24).drop 24).drop 24).drop 24).drop 24).drop 24).drop 24).drop 24).drop 24).take 24).all (fun c => isCode c || c.before args0 about1) = true := by decide +kernel
set_option maxRecDepth 65536 in
theorem w_t11 : (((((((((((words1.drop 24).drop 24).drop 24).drop 24).drop 24).drop 24).drop 24).drop 24).drop 24).drop 24).take 24).all (fun c => isCode c || c.before args0 about1) = true := by decide +kernel
set_option maxRecDepth 65536 in
theorem w_t12 : ((((((((((((words1.drop 24).drop 24).drop 24).drop 24).drop 24).drop 24).drop 24).drop 24).drop 24).drop 24).drop 24).take 24).all (fun c => isCode c || c.before args0 about1) = true := by decide +kernel
set_option maxRecDepth 65536 in
theorem w_t13 : ((((((((((((words1.drop 24).drop 24).drop 24).drop 24).drop 24).drop 24).drop 24).drop 24).drop 24).drop 24).drop 24).drop 24).all (fun c => isCode c || c.before args0 about1) = true := by decide +kernel
theorem w_tables : (allAtoms (Jvm.Cond.code x code maxLocals ret :: tables_1)).before args0 about1 = true := by
  rw [allAtoms_all]
  show words1.all (fun c => c.before args0 about1) = true
  refine all_split ?_ w_codes
  rw [← List.take_append_drop 24 words1, List.all_append, w_t1, ← List.take_append_drop 24 (words1.drop 24), List.all_append, w_t2, ← List.take_append_drop 24 ((words1.drop 24).drop 24), List.all_append, w_t3, ← List.take_append_drop 24 (((words1.drop 24).drop 24).drop 24), List.all_append, w_t4, ← List.take_append_drop 24 ((((words1.drop 24).drop 24).drop 24).drop 24), List.all_append, w_t5, ← List.take_append_drop 24 (((((words1.drop 24).drop 24).drop 24).drop 24).drop 24), List.all_append, w_t6, ← List.take_append_drop 24 ((((((words1.drop 24).drop 24).drop 24).drop 24).drop 24).drop 24), List.all_append, w_t7, ← List.take_append_drop 24 (((((((words1.drop 24).drop 24).drop 24).drop 24).drop 24).drop 24).drop 24), List.all_append, w_t8, ← List.take_append_drop 24 ((((((((words1.drop 24).drop 24).drop 24).drop 24).drop 24).drop 24).drop 24).drop 24), List.all_append, w_t9, ← List.take_append_drop 24 (((((((((words1.drop 24).drop 24).drop 24).drop 24).drop 24).drop 24).drop 24).drop 24).drop 24), List.all_append, w_t10, ← List.take_append_drop 24 ((((((((((words1.drop 24).drop 24).drop 24).drop 24).drop 24).drop 24).drop 24).drop 24).drop 24).drop 24), List.all_append, w_t11, ← List.take_append_drop 24 (((((((((((words1.drop 24).drop 24).drop 24).drop 24).drop 24).drop 24).drop 24).drop 24).drop 24).drop 24).drop 24), List.all_append, w_t12, w_t13]
  rfl
set_option maxRecDepth 65536 in
theorem w_rest : rest_1_c.before args0 about1 = true := by decide +kernel
set_option maxRecDepth 65536 in
theorem w_case : (Jvm.Cond.and given_1 narrow_1).before args0 about1 = true := by decide +kernel
set_option maxRecDepth 65536 in
theorem w_consts : constsHeld consts_1 about1 := Jvm.Lit.constsHeldB_iff.mp (by decide +kernel)
theorem w_applies : (headSpec (Jvm.Cond.code x code maxLocals ret :: tables_1) room_1).applies x e0.platform about1 = true :=
  (Spec.applies_iff w_frames).mpr ⟨w_running, w_runnable, w_alone, w_named, w_hears, w_ripe, w_room, w_tables⟩
theorem atStart : AtStart classFile x code maxLocals ret World_1 tables_1 room_1 Calls_1 rest_1 Pre_1 launch0 p0 e0 about1 theMethod args0 below0 :=
  ⟨lists_1, trivial, launch0.admits_env _ _ _, launch0.least_env, fairChoices_fair.cas, fairChoices_fair.clock, w_frames, w_args, w_heap, w_applies, ⟨⟨40, k40, 4, by decide +kernel, rfl, rfl, _, rfl, rfl⟩, ⟨w_consts, trivial⟩⟩, w_rest, w_case⟩
end start1
theorem witness_1 : WitnessClaimed_1 := ⟨start1.p0, start1.e0, start1.about1, start1.theMethod, start1.args0, start1.below0, start1.atStart⟩
end Jvm.Pilot.@@N@@
