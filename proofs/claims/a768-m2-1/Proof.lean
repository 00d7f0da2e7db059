import JvmDerived
import JvmDerived.Pilot.@@N@@Statement
import JvmDerived.Pilot.@@N@@Code
set_option linter.unusedVariables false
set_option linter.unusedSimpArgs false
set_option maxRecDepth 65536
set_option maxHeartbeats 40000000
namespace Jvm.Ow
open Jvm Jvm.ClassFile Sem Op Lib Jvm.Free Jvm.Stand Jvm.LawKit Jvm.RoadKit Bundle
theorem ltA {a b : Nat} (h : a < b) : a < b := h
theorem leA {a b : Nat} (h : a ≤ b) : a ≤ b := h
theorem neA {a b : Nat} (h : a ≠ b) : a ≠ b := h
abbrev vI (x : Int32) : Slot := .val (.int x)
abbrev vR (a : Addr) : Slot := .val (.ref a)
theorem mroom {x W : Nat} {rest : List Value} (hx : x = 0) (h : (rest.map fun v => v.category).sum = W) : 2 * x + (rest.map fun v => v.category).sum ≤ W := by subst hx; omega
theorem sz {n k x : Nat} (h : x = k) (q : n = k) : n = x := q.trans h.symm
section Base
variable {p : Program} {l : Launch} {e : Env} {R : Room} {s : State} {m : MethodId} {args : Array Value} {below : List Frame} {meth : Method} {c : Code} {own : String} {Z : State} {a0 : Array Value} {EL : List (String × Nat)} {h0 : Heap} {T : State} {h h' : Heap} {vm vm' : Vm} {cells slots : Nat} {P : Outcome → State → Prop} {g : JFrame}
/-- from t the invocation comes to an end at which P holds -/
def Gets (p : Program) (e : Env) (below : List Frame) (P : Outcome → State → Prop) (t : State) : Prop := ∃ u o, Steps p.tables e below t u ∧ u.status = .running ∧ Ended u below o ∧ P o u
theorem Gets.via {t t' : State} (h : ∀ u, Steps p.tables e below t' u → Steps p.tables e below t u) (k : Gets p e below P t') : Gets p e below P t := by
  obtain ⟨u, o, h1, h2⟩ := k
  exact ⟨u, o, h _ h1, h2⟩
theorem Gets.steps {t t' : State} (h : Steps p.tables e below t t') (k : Gets p e below P t') : Gets p e below P t := k.via fun _ q => h.trans q
/-- where a walk stands: over the start with the tables at hand; what it may have interned; what the literals hold; nothing of the law's start written -/
def Wk (p : Program) (l : Launch) (e : Env) (R : Room) (s : State) (m : MethodId) (args : Array Value) (below : List Frame) (meth : Method) (c : Code) (own : String) (Z : State) (a0 : Array Value) (EL : List (String × Nat)) (h0 : Heap) (T : State) (h : Heap) (vm : Vm) (cells slots : Nat) : Prop :=
  ∃ (locs : List Loc) (k : Nat), Stand p l e R (s.setVm vm) m args below meth c T locs cells slots ∧ T.heap = h ∧ s.Since vm k ∧ k ≤ h.size ∧ Z.Warmed39 vm ∧ vm.findClass own = some m.cls ∧ CHr Z EL s.vm h0 vm h ∧ Fr Z.heap.size locs ∧ Old Z Z.heap.size h ∧ p.tables.exec = Jvm.exec ∧ EW Z a0 EL ∧ s.heap = h0 ∧ meth.locks = false
/-- what an invocation leaves -/
def Out (s : State) (Z : State) (EL : List (String × Nat)) (rm : Room) (Q : Option Value → Vm → Heap → Prop) (o : Outcome) (u : State) : Prop :=
  ∃ (v : Option Value) (L : List Loc), o = .returned v ∧ (Q v u.vm u.heap ∧ Fr Z.heap.size L ∧ Old Z Z.heap.size u.heap) ∧ CHr Z EL s.vm s.heap u.vm u.heap ∧ ReturnedEndW s o u L rm.cells rm.slots
/-- a contract -/
def Met (l : Launch) (Z : State) (EL : List (String × Nat)) (y : MethodName) (bytes : ByteArray) (maxL : Nat) (ret : Option FieldType) (ws : List Jvm.Cond) (rm : Room) (sf : List Addr) (as : Array Value) (h : Heap) (Q : Option Value → Vm → Heap → Prop) : Prop :=
  MetFree l y (head1 (Jvm.Cond.code y bytes maxL ret :: ws) rm) (fun a U => a = as ∧ Z.Warmed39 U.vm ∧ U.heap = h ∧ CHv Z EL U.vm h ∧ ∀ x ∈ sf, Safe Z EL U.vm h x) (fun _ _ _ _ _ => True) (fun _ U o U' => Out U Z EL rm Q o U')
theorem Met.start {y : MethodName} {bytes : ByteArray} {maxL : Nat} {ret : Option FieldType} {ws : List Jvm.Cond} {rm : Room} {sf : List Addr} {as : Array Value} {Q : Option Value → Vm → Heap → Prop} (hp : plainFor y = true) (hEL : EW Z a0 EL) (hO : Old Z Z.heap.size h) {Ls : Array Slot} (hent : ∀ m, entryFrame m as maxL = mkF m 0 Ls [])
    (body : ∀ p e s m below meth c T vm, Wk p l e rm s m as below meth c y.cls Z a0 EL h T h vm 0 0 → (∀ x ∈ sf, Safe Z EL vm h x) → c.code = bytes → c.maxLocals = maxL → meth.sig.returnType = ret → meth.name = y.name → Gets p e below (Out s Z EL rm Q) (T.setTop (mkF m 0 Ls []))) :
    Met l Z EL y bytes maxL ret ws rm sf as h Q := by
  refine MetFree.of_bodySF hp hisR ?_
  intro p e s m args below meth c s₁ Bd hml0 hP hK
  obtain ⟨rfl, hZ, hh, hC, hsf⟩ := hP
  have e0 : s₁.heap = h := by rw [← hh, Bd.state]; rfl
  have X0 : Stand p l e rm s m args below meth c s₁ [] 0 0 := Stand.of_body Bd
  have hown : s.vm.findClass y.cls = some m.cls := findClass_of_methodNamed Bd.named
  have W0 : Wk p l e rm s m args below meth c y.cls Z a0 EL h s₁ h s.vm 0 0 :=
    ⟨[], 0, X0, e0, ⟨State.Warmed39.refl s, fun j q hj hq => absurd (Array.getElem?_eq_some_iff.mp hq).1 (Nat.not_lt.mpr hj)⟩, Nat.zero_le _, hZ, hown, CHr.refl hC, Fr.nil _, hO, Bd.exec, hEL, hh, Bd.notSynchronized⟩
  have k := body p e s m below meth c s₁ s.vm W0 hsf Bd.bytes hml0 Bd.returns (name_of_methodNamed Bd.named Bd.method).1
  obtain ⟨u, o, h1, h2, h3, h4⟩ := k
  exact ⟨u, o, castTop (hent m) h1, h2, h3, h4⟩
theorem Wk.at (X : Wk p l e R s m args below meth c own Z a0 EL h0 T h vm cells slots) : At T m c below := by obtain ⟨_, _, X, -⟩ := X; exact X.here
theorem Wk.hx (X : Wk p l e R s m args below meth c own Z a0 EL h0 T h vm cells slots) : p.tables.exec = Jvm.exec := by obtain ⟨_, _, -, -, -, -, -, -, -, -, -, q, -⟩ := X; exact q
theorem Wk.hZ (X : Wk p l e R s m args below meth c own Z a0 EL h0 T h vm cells slots) : Z.Warmed39 vm := by obtain ⟨_, _, -, -, -, -, q, -⟩ := X; exact q
theorem Wk.eT (X : Wk p l e R s m args below meth c own Z a0 EL h0 T h vm cells slots) : T.heap = h := by obtain ⟨_, _, -, q, -⟩ := X; exact q
theorem Wk.old (X : Wk p l e R s m args below meth c own Z a0 EL h0 T h vm cells slots) : Old Z Z.heap.size h := by obtain ⟨_, _, -, -, -, -, -, -, -, -, q, -⟩ := X; exact q
theorem Wk.chv (X : Wk p l e R s m args below meth c own Z a0 EL h0 T h vm cells slots) : CHv Z EL vm h := by obtain ⟨_, _, -, -, -, -, -, -, q, -⟩ := X; exact q.1
theorem Wk.ew (X : Wk p l e R s m args below meth c own Z a0 EL h0 T h vm cells slots) : EW Z a0 EL := by obtain ⟨_, _, -, -, -, -, -, -, -, -, -, -, q, -⟩ := X; exact q
theorem Wk.ge (X : Wk p l e R s m args below meth c own Z a0 EL h0 T h vm cells slots) : Z.heap.size ≤ h.size := X.old.2.1
theorem Wk.sta (X : Wk p l e R s m args below meth c own Z a0 EL h0 T h vm cells slots) {C n d : String} {v : Value} (F : Sta Z Z.heap C n d v) : Sta Z h C n d v := F.ext X.old.2
theorem Wk.more (X : Wk p l e R s m args below meth c own Z a0 EL h0 T h vm cells slots) {cells' slots' : Nat} (q1 : cells ≤ cells') (q2 : slots ≤ slots') : Wk p l e R s m args below meth c own Z a0 EL h0 T h vm cells' slots' := by
  obtain ⟨locs, k, Y, r⟩ := X; exact ⟨locs, k, Y.mono q1 q2, r⟩
/-- a step that leaves heap and base -/
theorem Wk.still (X : Wk p l e R s m args below meth c own Z a0 EL h0 T h vm cells slots) {T' : State} (hY : ∀ locs, Stand p l e R (s.setVm vm) m args below meth c T locs cells slots → Stand p l e R (s.setVm vm) m args below meth c T' locs cells slots) (hT : T'.heap = h) : Wk p l e R s m args below meth c own Z a0 EL h0 T' h vm cells slots := by
  obtain ⟨locs, k, Y, -, r⟩ := X; exact ⟨locs, k, hY _ Y, hT, r⟩
theorem Wk.getF (X : Wk p l e R s m args below meth c own Z a0 EL h0 T h vm cells slots) {R0 O n d host : String} {index : Nat} (w : (Jvm.Cond.fieldLink own index R0 n d).before a0 Z = true ∨ (Jvm.Cond.fieldLinkNest own index R0 n d host).before a0 Z = true) (via : Via Z R0 O n d) {a : Addr} {v : Value} (F : Fld Z h a O n d v)
    (hg : g.method = m) {rest : List Value} (hs : g.stack = .ref a :: rest) (hd : decode c.code g.pc = .ok (.getfield index, 3))
    (k : ∀ T', Wk p l e R s m args below meth c own Z a0 EL h0 T' h vm cells slots → Gets p e below P (T'.setTop { g with pc := g.pc + 3, stack := v :: rest })) : Gets p e below P (T.setTop g) := by
  obtain ⟨locs, j, Y, eT, hS, hk, hZ, hown, hC, N, hO, hx, r⟩ := X
  obtain ⟨T', Y', e', st⟩ := RoadKit.getF Y hx hZ hown w via eT F hg hs hd
  exact (k T' ⟨locs, j, Y', e', hS, hk, hZ, hown, hC, N, hO, hx, r⟩).via st
theorem Wk.getS (X : Wk p l e R s m args below meth c own Z a0 EL h0 T h vm cells slots) {R0 O n d host : String} {index : Nat} (w : (Jvm.Cond.fieldLink own index R0 n d).before a0 Z = true ∨ (Jvm.Cond.fieldLinkNest own index R0 n d host).before a0 Z = true) (via : Via Z R0 O n d) {v : Value} (F : Sta Z h O n d v)
    (hg : g.method = m) (hd : decode c.code g.pc = .ok (.getstatic index, 3))
    (k : ∀ T', Wk p l e R s m args below meth c own Z a0 EL h0 T' h vm cells slots → Gets p e below P (T'.setTop { g with pc := g.pc + 3, stack := v :: g.stack })) : Gets p e below P (T.setTop g) := by
  obtain ⟨locs, j, Y, eT, hS, hk, hZ, hown, hC, N, hO, hx, r⟩ := X
  obtain ⟨T', Y', e', st⟩ := RoadKit.getS2 Y hx hZ hown w via eT F hg hd
  exact (k T' ⟨locs, j, Y', e', hS, hk, hZ, hown, hC, N, hO, hx, r⟩).via st
theorem Wk.cast (X : Wk p l e R s m args below meth c own Z a0 EL h0 T h vm cells slots) {K : String} {index : Nat} (w : (Jvm.Cond.classLink own index K).before a0 Z = true) {a : Addr} (F : Ins Z h a K true)
    (hg : g.method = m) {rest : List Value} (hs : g.stack = .ref a :: rest) (hd : decode c.code g.pc = .ok (.checkcast index, 3))
    (k : ∀ T', Wk p l e R s m args below meth c own Z a0 EL h0 T' h vm cells slots → Gets p e below P (T'.setTop { g with pc := g.pc + 3 })) : Gets p e below P (T.setTop g) := by
  obtain ⟨locs, j, Y, eT, hS, hk, hZ, hown, hC, N, hO, hx, r⟩ := X
  obtain ⟨T', Y', e', st⟩ := RoadKit.castY Y hx hZ hown w eT F hg hs hd
  exact (k T' ⟨locs, j, Y', e', hS, hk, hZ, hown, hC, N, hO, hx, r⟩).via st
theorem Wk.inst (X : Wk p l e R s m args below meth c own Z a0 EL h0 T h vm cells slots) {K : String} {index : Nat} (w : (Jvm.Cond.classLink own index K).before a0 Z = true) {a : Addr} (F : Ins Z h a K true)
    (hg : g.method = m) {rest : List Value} (hs : g.stack = .ref a :: rest) (hd : decode c.code g.pc = .ok (.instanceof index, 3))
    (k : ∀ T', Wk p l e R s m args below meth c own Z a0 EL h0 T' h vm cells slots → Gets p e below P (T'.setTop { g with pc := g.pc + 3, stack := .int 1 :: rest })) : Gets p e below P (T.setTop g) := by
  obtain ⟨locs, j, Y, eT, hS, hk, hZ, hown, hC, N, hO, hx, r⟩ := X
  obtain ⟨T', Y', e', st⟩ := RoadKit.instY Y hx hZ hown w eT F hg hs hd
  exact (k T' ⟨locs, j, Y', e', hS, hk, hZ, hown, hC, N, hO, hx, r⟩).via st
theorem Wk.objInit (X : Wk p l e R s m args below meth c own Z a0 EL h0 T h vm cells slots) {idx : Nat} (w1 : (Jvm.Cond.methodLink own idx Lib.objectInit).before a0 Z = true) (w2 : (Jvm.Cond.instanceMethod Lib.objectInit).before a0 Z = true) (w3 : (Jvm.Cond.code Lib.objectInit ⟨#[0xb1]⟩ 1 none).before a0 Z = true)
    (hg : g.method = m) (hsize : g.locals.size = c.maxLocals) {a : Addr} {rest : List Value} (hs : g.stack = .ref a :: rest) (hd : decode c.code g.pc = .ok (.invokespecial idx, 3)) (hf : 1 ≤ R.frames) {W : Nat} (hW : 2 * g.monitorRoom + (rest.map fun v => v.category).sum ≤ W) (hl : W + 12 ≤ R.locals)
    (k : ∀ T', Wk p l e R s m args below meth c own Z a0 EL h0 T' h vm cells slots → Gets p e below P (T'.setTop { g with pc := g.pc + 3, stack := rest })) : Gets p e below P (T.setTop g) := by
  obtain ⟨locs, j, Y, eT, hS, hk, hZ, hown, hC, N, hO, hx, r⟩ := X
  obtain ⟨T', Y', e', st⟩ := RoadKit.initO Y hx hZ hown w1 w2 w3 eT hg hsize hs hd hf hW hl
  exact (k T' ⟨locs, j, Y', e', hS, hk, hZ, hown, hC, N, hO, hx, r⟩).via st
theorem Wk.new (X : Wk p l e R s m args below meth c own Z a0 EL h0 T h vm cells slots) {C : String} {index n : Nat} (w : (Jvm.Cond.classLink own index C).before a0 Z = true) (wi : (Jvm.Cond.instantiable C n).before a0 Z = true) (wz : (Jvm.Cond.initialized C).before a0 Z = true)
    (hg : g.method = m) (hd : decode c.code g.pc = .ok (.new index, 3)) (hc : cells + 1 ≤ R.cells) (hl : slots + n ≤ R.slots)
    (k : ∀ T' h' a, Wk p l e R s m args below meth c own Z a0 EL h0 T' h' vm (cells + 1) (slots + n) → CHr Z EL vm h vm h' → Ext h h' → a = h.size → Exa Z h' a C → Safe Z EL vm h' a → (∀ {O nm d : String} {ty : FieldType}, Laid Z a0 C O nm d → parseFieldDescriptor d = some ty → Fld Z h' a O nm d (defaultValue ty)) → Gets p e below P (T'.setTop { g with pc := g.pc + 3, stack := .ref a :: g.stack })) : Gets p e below P (T.setTop g) := by
  obtain ⟨locs, j, Y, eT, hS, hk, hZ, hown, hC, N, hO, hx, r⟩ := X
  obtain ⟨T', h', Y', e', E, A, D, -, st⟩ := RoadKit.newO Y hx hZ hown w wi wz eT hg hd hc hl
  have C1 : CHr Z EL vm h vm h' := CHr.ext E hC.1
  exact (k T' h' h.size ⟨locs, j, Y', e', hS, Nat.le_trans hk E.1, hZ, hown, hC.trans C1, N, hO.ext E, hx, r⟩ C1 E rfl A (Safe.ext E hC.1 (Safe.new (Nat.le_refl _))) D).via st
theorem Wk.newA (X : Wk p l e R s m args below meth c own Z a0 EL h0 T h vm cells slots) {aty : ArrayType} (w : (Jvm.Cond.arrayClass (newarray.typeOf aty)).before a0 Z = true) (hg : g.method = m) (hd : decode c.code g.pc = .ok (.newarray aty, 2)) {n : Int32} {rest : List Value} (hs : g.stack = .int n :: rest)
    (hn : ¬ n < 0) {cap : Nat} (hcap : n.toNatClampNeg ≤ cap) (hb : cap * 8 ≤ 536870912) (hc : cells + 1 ≤ R.cells) (hl : slots + cap ≤ R.slots)
    (k : ∀ T' h' a kc, Wk p l e R s m args below meth c own Z a0 EL h0 T' h' vm (cells + 1) (slots + cap) → CHr Z EL vm h vm h' → Ext h h' → a = h.size → Safe Z EL vm h' a → Arv Z h' a kc (newarray.typeOf aty) n [] (defaultValue (newarray.typeOf aty)) → Gets p e below P (T'.setTop { g with pc := g.pc + 2, stack := .ref a :: rest })) : Gets p e below P (T.setTop g) := by
  obtain ⟨locs, j, Y, eT, hS, hk, hZ, hown, hC, N, hO, hx, r⟩ := X
  obtain ⟨T', h', kc, Y', e', E, A, st⟩ := RoadKit.newP Y hx hZ w eT hg hd hs hn hcap hb hc hl
  have C1 : CHr Z EL vm h vm h' := CHr.ext E hC.1
  exact (k T' h' h.size kc ⟨locs, j, Y', e', hS, Nat.le_trans hk E.1, hZ, hown, hC.trans C1, N, hO.ext E, hx, r⟩ C1 E rfl (Safe.ext E hC.1 (Safe.new (Nat.le_refl _))) (Arv.new A hn)).via st
theorem Wk.putF (X : Wk p l e R s m args below meth c own Z a0 EL h0 T h vm cells slots) {R0 O n d host C : String} {index kk : Nat} {ty : FieldType} (w : (Jvm.Cond.fieldLink own index R0 n d).before a0 Z = true ∨ (Jvm.Cond.fieldLinkNest own index R0 n d host).before a0 Z = true) (via : Via Z R0 O n d)
    {a : Addr} {v old : Value} (F : Fld Z h a O n d old) (E : Exa Z h a C) (L : (Jvm.Cond.lays C O n d).before a0 Z = true ∨ ((Jvm.Cond.laysFinal C O n d).before a0 Z = true ∧ own = O ∧ meth.name = "<init>")) (wi : (Jvm.Cond.instantiable C kk).before a0 Z = true)
    (hty : parseFieldDescriptor d = some ty) (hn : narrow ty v = v) (hf : fits ty v = true) (hge : Z.heap.size ≤ a) (S : Safe Z EL vm h a) (hg : g.method = m) {rest : List Value} (hs : g.stack = v :: .ref a :: rest) (hd : decode c.code g.pc = .ok (.putfield index, 3))
    (k : ∀ T' h', Wk p l e R s m args below meth c own Z a0 EL h0 T' h' vm cells slots → CHr Z EL vm h vm h' → Wr h h' a (RoadKit.slotOf Z O n d) v → Fld Z h' a O n d v → Exa Z h' a C → Gets p e below P (T'.setTop { g with pc := g.pc + 3, stack := rest })) : Gets p e below P (T.setTop g) := by
  obtain ⟨locs, j, Y, eT, hS, hk, hZ, hown, hC, N, hO, hx, r⟩ := X
  obtain ⟨T', h', Y', e', W, st⟩ := RoadKit.putF Y hx hZ hown w via eT F E L wi hty hn hf hg hs hd
  have C1 : CHr Z EL vm h vm h' := CHr.wr W S hC.1
  exact (k T' h' ⟨_, j, Y', e', hS, Nat.le_trans hk (Nat.le_of_eq W.size.symm), hZ, hown, hC.trans C1, Fr.snoc Y' N hge, hO.wr W hge, hx, r⟩ C1 W (F.same W) (E.wr W)).via st
theorem padN {k : ClassId} {ty : FieldType} {z : Int32} {d : Value} {a : Addr} (F : Arv Z h a k ty z [] d) (n : Nat) : Arv Z h a k ty z (List.replicate n d) d := F.pad fun i => by
  rw [List.getD_eq_getElem?_getD, List.getElem?_replicate]; split <;> simp
theorem Wk.stC (X : Wk p l e R s m args below meth c own Z a0 EL h0 T h vm cells slots) {a : Addr} {kc : ClassId} {n : Int32} {vs : List Value} {dv : Value} (A : Arv Z h a kc .char n vs dv) {j x : Int32} {i : Nat} (hj0 : ¬ j < 0) (hj : j.toNatClampNeg = i) (hi : i < vs.length) (hin : i < n.toNatClampNeg) {v : Int32} (hv : nar .char x = v)
    (hge : Z.heap.size ≤ a) (hg : g.method = m) {rest : List Value} (hs : g.stack = .int x :: .int j :: .ref a :: rest) (hd : decode c.code g.pc = .ok (.castore, 1))
    (k : ∀ T' h', Wk p l e R s m args below meth c own Z a0 EL h0 T' h' vm cells slots → CHr Z EL vm h vm h' → Keep h h' [a] → Arv Z h' a kc .char n (vs.set i (.int v)) dv → Gets p e below P (T'.setTop { g with pc := g.pc + 1, stack := rest })) : Gets p e below P (T.setTop g) := by
  obtain ⟨locs, j', Y, eT, hS, hk, hZ, hown, hC, N, hO, hx, r⟩ := X
  obtain ⟨cl, A1, A2, A3, A4, A5, A6⟩ := A
  obtain ⟨T', h', Y', e', W, st⟩ := RoadKit.stC Y hx hZ eT A1 (j := j) (x := x) (fun q => q.elim hj0 (fun q => by rw [A3, hj] at q; omega)) hg hs hd
  have C1 : CHr Z EL vm h vm h' := CHr.wr W (Safe.arr hZ.alike A1 (by decide)) hC.1
  subst hv
  exact (k T' h' ⟨_, j', Y', e', hS, Nat.le_trans hk (Nat.le_of_eq W.size.symm), hZ, hown, hC.trans C1, Fr.snoc Y' N hge, hO.wr W hge, hx, r⟩ C1 (Keep.of_wr W) (Arv.set A1 A2 A3 A4 A5 A6 (fits_nar_char x) W i hj hi)).via st
theorem Wk.stB (X : Wk p l e R s m args below meth c own Z a0 EL h0 T h vm cells slots) {a : Addr} {kc : ClassId} {n : Int32} {vs : List Value} {dv : Value} (A : Arv Z h a kc .byte n vs dv) {j x : Int32} {i : Nat} (hj0 : ¬ j < 0) (hj : j.toNatClampNeg = i) (hi : i < vs.length) (hin : i < n.toNatClampNeg) {v : Int32} (hv : nar .byte x = v) (S : Safe Z EL vm h a)
    (hge : Z.heap.size ≤ a) (hg : g.method = m) {rest : List Value} (hs : g.stack = .int x :: .int j :: .ref a :: rest) (hd : decode c.code g.pc = .ok (.bastore, 1))
    (k : ∀ T' h', Wk p l e R s m args below meth c own Z a0 EL h0 T' h' vm cells slots → CHr Z EL vm h vm h' → Keep h h' [a] → Arv Z h' a kc .byte n (vs.set i (.int v)) dv → Gets p e below P (T'.setTop { g with pc := g.pc + 1, stack := rest })) : Gets p e below P (T.setTop g) := by
  obtain ⟨locs, j', Y, eT, hS, hk, hZ, hown, hC, N, hO, hx, r⟩ := X
  obtain ⟨cl, A1, A2, A3, A4, A5, A6⟩ := A
  obtain ⟨T', h', Y', e', W, st⟩ := RoadKit.stB Y hx hZ eT A1 (j := j) (x := x) (fun q => q.elim hj0 (fun q => by rw [A3, hj] at q; omega)) hg hs hd
  have C1 : CHr Z EL vm h vm h' := CHr.wr W S hC.1
  subst hv
  exact (k T' h' ⟨_, j', Y', e', hS, Nat.le_trans hk (Nat.le_of_eq W.size.symm), hZ, hown, hC.trans C1, Fr.snoc Y' N hge, hO.wr W hge, hx, r⟩ C1 (Keep.of_wr W) (Arv.set A1 A2 A3 A4 A5 A6 (fits_nar_byte x) W i hj hi)).via st
theorem Wk.alen (X : Wk p l e R s m args below meth c own Z a0 EL h0 T h vm cells slots) {a : Addr} {kc : ClassId} {ty : FieldType} {n : Int32} {vs : List Value} {dv : Value} (A : Arv Z h a kc ty n vs dv)
    (hg : g.method = m) {rest : List Value} (hs : g.stack = .ref a :: rest) (hd : decode c.code g.pc = .ok (.arraylength, 1))
    (k : Gets p e below P (T.setTop { g with pc := g.pc + 1, stack := .int n :: rest })) : Gets p e below P (T.setTop g) := by
  obtain ⟨locs, j', Y, eT, hS, hk, hZ, hown, hC, N, hO, hx, r⟩ := X
  obtain ⟨cl, A1, A2, A3, A4, A5, A6⟩ := A
  refine k.via fun u q => ?_
  refine Y.arraylength hx (by rw [eT]; exact A1.1) (State.isArrayOf_alike hZ.alike A1.2.1) hg hs hd _ ?_
  rw [A3, (back32 A4).1]; exact q
theorem Wk.ldC (X : Wk p l e R s m args below meth c own Z a0 EL h0 T h vm cells slots) {a : Addr} {kc : ClassId} {n : Int32} {vs : List Value} {dv v : Value} (A : Arv Z h a kc .char n vs dv) {j : Int32} {i : Nat} (hj0 : ¬ j < 0) (hj : j.toNatClampNeg = i) (hin : i < n.toNatClampNeg) (hv : vs.getD i dv = v)
    (hg : g.method = m) {rest : List Value} (hs : g.stack = .int j :: .ref a :: rest) (hd : decode c.code g.pc = .ok (.caload, 1))
    (k : Gets p e below P (T.setTop { g with pc := g.pc + 1, stack := v :: rest })) : Gets p e below P (T.setTop g) := by
  obtain ⟨locs, j', Y, eT, hS, hk, hZ, hown, hC, N, hO, hx, r⟩ := X
  obtain ⟨cl, A1, A2, A3, A4, A5, A6⟩ := A
  refine k.via fun u q => ?_
  exact Y.caload hx (j := j) (v := v) (by rw [eT]; exact A1.1) (State.isArrayOf_alike hZ.alike A1.2.1) A1.2.2 (fun q => q.elim hj0 (fun q => by rw [A3, hj] at q; omega)) (by rw [hj, A5 i (by rw [A3]; exact hin), hv]) hg hs hd _ q
theorem Wk.ldB (X : Wk p l e R s m args below meth c own Z a0 EL h0 T h vm cells slots) {a : Addr} {kc : ClassId} {n : Int32} {vs : List Value} {dv v : Value} (A : Arv Z h a kc .byte n vs dv) {j : Int32} {i : Nat} (hj0 : ¬ j < 0) (hj : j.toNatClampNeg = i) (hin : i < n.toNatClampNeg) (hv : vs.getD i dv = v)
    (hg : g.method = m) {rest : List Value} (hs : g.stack = .int j :: .ref a :: rest) (hd : decode c.code g.pc = .ok (.baload, 1))
    (k : Gets p e below P (T.setTop { g with pc := g.pc + 1, stack := v :: rest })) : Gets p e below P (T.setTop g) := by
  obtain ⟨locs, j', Y, eT, hS, hk, hZ, hown, hC, N, hO, hx, r⟩ := X
  obtain ⟨cl, A1, A2, A3, A4, A5, A6⟩ := A
  refine k.via fun u q => ?_
  exact Y.baloadBytes hx (j := j) (v := v) (by rw [eT]; exact A1.1) (State.isArrayOf_alike hZ.alike A1.2.1) A1.2.2 (fun q => q.elim hj0 (fun q => by rw [A3, hj] at q; omega)) (by rw [hj, A5 i (by rw [A3]; exact hin), hv]) hg hs hd _ q
theorem Wk.ldR (X : Wk p l e R s m args below meth c own Z a0 EL h0 T h vm cells slots) {a : Addr} {kc : ClassId} {ty : FieldType} {n : Int32} {vs : List Value} {dv v : Value} (A : Arv Z h a kc ty n vs dv) (hty : ty.isReference = true) {j : Int32} {i : Nat} (hj0 : ¬ j < 0) (hj : j.toNatClampNeg = i) (hin : i < n.toNatClampNeg) (hv : vs.getD i dv = v)
    (hg : g.method = m) {rest : List Value} (hs : g.stack = .int j :: .ref a :: rest) (hd : decode c.code g.pc = .ok (.aaload, 1))
    (k : Gets p e below P (T.setTop { g with pc := g.pc + 1, stack := v :: rest })) : Gets p e below P (T.setTop g) := by
  obtain ⟨locs, j', Y, eT, hS, hk, hZ, hown, hC, N, hO, hx, r⟩ := X
  obtain ⟨cl, A1, A2, A3, A4, A5, A6⟩ := A
  refine k.via fun u q => ?_
  exact Y.aaload hx (j := j) (v := v) (by rw [eT]; exact A1.1) (State.isArrayOf_alike hZ.alike A1.2.1) hty A1.2.2 (fun q => q.elim hj0 (fun q => by rw [A3, hj] at q; omega)) (by rw [hj, A5 i (by rw [A3]; exact hin), hv]) hg hs hd _ q
theorem Wk.ldcI (X : Wk p l e R s m args below meth c own Z a0 EL h0 T h vm cells slots) {index : Nat} {v : Int32} (w : (Jvm.Cond.constant own index v).before a0 Z = true) (hg : g.method = m) (hd : decode c.code g.pc = .ok (.ldc index, 2))
    (k : Gets p e below P (T.setTop { g with pc := g.pc + 2, stack := .int v :: g.stack })) : Gets p e below P (T.setTop g) := by
  obtain ⟨locs, j', Y, eT, hS, hk, hZ, hown, hC, N, hO, hx, r⟩ := X
  exact k.via fun u q => Y.ldcI hx hown (mv (s := s.setVm vm) hZ w) hg hd q
theorem Wk.ldcJ (X : Wk p l e R s m args below meth c own Z a0 EL h0 T h vm cells slots) {index : Nat} {v : Int64} (w : (Jvm.Cond.constantLong own index v).before a0 Z = true) (hg : g.method = m) (hd : decode c.code g.pc = .ok (.ldc2_w index, 3))
    (k : Gets p e below P (T.setTop { g with pc := g.pc + 3, stack := .long v :: g.stack })) : Gets p e below P (T.setTop g) := by
  obtain ⟨locs, j', Y, eT, hS, hk, hZ, hown, hC, N, hO, hx, r⟩ := X
  exact k.via fun u q => Y.ldc2J hx hown (mv (s := s.setVm vm) hZ w) hg hd q
theorem Wk.acmpW (X : Wk p l e R s m args below meth c own Z a0 EL h0 T h vm cells slots) (hx : p.tables.exec = Jvm.exec) (hg : g.method = m) {cd : ACond} {x y : Value} (h1 : x.isRef = true) (h2 : y.isRef = true) {rest : List Value} {o : Int} {pc0 pc' : Nat} {same : Bool} (hpc : g.pc = pc0)
    (hd : decode c.code g.pc = .ok (.if_acmp cd o, 3)) (hs : g.stack = y :: x :: rest) (hq : decide (x = y) = same) (ho : 0 ≤ (pc0 : Int) + o) (hp : pc' = if acV cd same = true then ((pc0 : Int) + o).toNat else pc0 + 3)
    (k : Gets p e below P (T.setTop { g with pc := pc', stack := rest })) : Gets p e below P (T.setTop g) := by
  obtain ⟨locs, j', Y, -⟩ := X
  exact k.via fun u q => RoadKit.acmp Y hx hg h1 h2 hpc hd hs hq ho hp q
theorem plainS {K : String} {x y : MethodName} (w : (Jvm.Cond.selects K x y).before a0 Z = true) (hy : y.cls = K) : ∃ t kt, Z.vm.findClass K = some t ∧ Z.vm.classes[t]? = some kt ∧ kt.isInterface = false := by
  obtain ⟨c2, r2, m2, q1, q2, q3, q4, kP, hkP, hkPi⟩ := Cond.selects_spec w
  exact ⟨m2.cls, kP, hy ▸ findClass_of_methodNamed q3, hkP, hkPi⟩
theorem plainI {K : String} {n : Nat} (w : (Jvm.Cond.instantiable K n).before a0 Z = true) : ∃ t kt, Z.vm.findClass K = some t ∧ Z.vm.classes[t]? = some kt ∧ kt.isInterface = false := by
  obtain ⟨c, k, h1, h2, -, h3, -⟩ := Cond.instantiable_spec w
  exact ⟨c, k, h1, h2, by simp at h3; exact h3.1⟩
theorem ns_root {O K : String} (w : (Jvm.Cond.noSuperclass O).before a0 Z = true) (hk : ∃ t kt, Z.vm.findClass K = some t ∧ Z.vm.classes[t]? = some kt ∧ kt.isInterface = false) (hn : O ≠ K) : NS Z O K := by
  obtain ⟨c, k, h1, h2, h3, -, -⟩ := Cond.noSuperclass_spec w
  obtain ⟨t, kt, g1, -⟩ := hk
  have ne := ids_ne h1 g1 hn
  refine ⟨c, t, h1, g1, fun fuel => ?_⟩
  cases fuel with
  | zero => rfl
  | succ f => simp [Vm.isSubclassAux, ne, h2, h3]
theorem ns_no {C S K : String} (w : (Jvm.Cond.superclass C S).before a0 Z = true) (hk : ∃ t kt, Z.vm.findClass K = some t ∧ Z.vm.classes[t]? = some kt ∧ kt.isInterface = false) (n : NS Z C K) (hn : C ≠ K) : ∃ c t, Z.vm.findClass C = some c ∧ Z.vm.findClass K = some t ∧ Z.vm.assignable c t = false := by
  obtain ⟨c, t, h0, g0, n3⟩ := n
  obtain ⟨p, k, kp, h1, h2, h3, h4, h5, -, h7⟩ := Cond.superclass_spec h0 w
  obtain ⟨t', kt, g1, g2, g3⟩ := hk
  cases g0.symm.trans g1
  have ne := ids_ne h0 g0 hn
  refine ⟨c, t, h0, g0, ?_⟩
  show Z.vm.assignableAux (255 + 1) c t = false
  cases hk : kt.kind <;> simp [Vm.assignableAux, ne, h2, g2, h5, hk, g3, Vm.isSubclass, n3]
theorem Wk.instNo (X : Wk p l e R s m args below meth c own Z a0 EL h0 T h vm cells slots) {K C : String} {index : Nat} (w : (Jvm.Cond.classLink own index K).before a0 Z = true) {a : Addr} (E : Exa Z h a C) (F : ∃ c t, Z.vm.findClass C = some c ∧ Z.vm.findClass K = some t ∧ Z.vm.assignable c t = false)
    (hg : g.method = m) {rest : List Value} (hs : g.stack = .ref a :: rest) (hd : decode c.code g.pc = .ok (.instanceof index, 3))
    (k : ∀ T', Wk p l e R s m args below meth c own Z a0 EL h0 T' h vm cells slots → Gets p e below P (T'.setTop { g with pc := g.pc + 3, stack := .int 0 :: rest })) : Gets p e below P (T.setTop g) := by
  obtain ⟨locs, j, Y, eT, hS, hk, hZ, hown, hC, N, hO, hx, r⟩ := X
  obtain ⟨T', Y', e', st⟩ := RoadKit.instNo Y hx hZ hown w eT E F hg hs hd
  exact (k T' ⟨locs, j, Y', e', hS, hk, hZ, hown, hC, N, hO, hx, r⟩).via st
theorem Wk.getC (X : Wk p l e R s m args below meth c own Z a0 EL h0 T h vm cells slots) {C : String} {index : Nat}
    (w1 : (Jvm.Cond.methodLink own index ⟨"java/lang/Object", "getClass", "()Ljava/lang/Class;"⟩).before a0 Z = true) (w2 : (Jvm.Cond.declares ⟨"java/lang/Object", "getClass", "()Ljava/lang/Class;"⟩).before a0 Z = true) (w3 : (Jvm.Cond.noSuperclass "java/lang/Object").before a0 Z = true) (w4 : (Jvm.Cond.selects C ⟨"java/lang/Object", "getClass", "()Ljava/lang/Class;"⟩ ⟨"java/lang/Object", "getClass", "()Ljava/lang/Class;"⟩).before a0 Z = true)
    (w5 : (Jvm.Cond.instanceMethod ⟨"java/lang/Object", "getClass", "()Ljava/lang/Class;"⟩).before a0 Z = true) (w6 : (Jvm.Cond.native ⟨"java/lang/Object", "getClass", "()Ljava/lang/Class;"⟩).before a0 Z = true) {a : Addr} (E : Exa Z h a C) {mr : Addr} (M : Mir Z C mr)
    (hg : g.method = m) (hsize : g.locals.size = c.maxLocals) {rest : List Value} (hs : g.stack = .ref a :: rest) (hd : decode c.code g.pc = .ok (.invokevirtual index, 3)) (hf : 1 ≤ R.frames) {W : Nat} (hW : 2 * g.monitorRoom + (rest.map fun v => v.category).sum ≤ W) (hl : W + (nativeFrameWords "java/lang/Object" "getClass" 1 + 11) ≤ R.locals)
    (k : ∀ T', Wk p l e R s m args below meth c own Z a0 EL h0 T' h vm cells slots → Gets p e below P (T'.setTop { g with pc := g.pc + 3, stack := .ref mr :: rest })) : Gets p e below P (T.setTop g) := by
  obtain ⟨locs, j, Y, eT, hS, hk, hZ, hown, hC, N, hO, hx, r⟩ := X
  obtain ⟨T', Y', e', st⟩ := RoadKit.gcls Y hx hZ hown w1 w2 w3 w4 w5 w6 eT E M hg hsize hs hd hf hW hl
  exact (k T' ⟨locs, j, Y', e', hS, hk, hZ, hown, hC, N, hO, hx, r⟩).via st
theorem mir_eval {C : String} {mr : Addr} (hal : Z.vm.Alike s.vm) (M : Mir Z C mr) : (Term.mirror C).eval args s none [] s = some (.ref mr) := by
  obtain ⟨cc, kc, m1, m2, m3, -⟩ := M
  obtain ⟨k', q1, q2⟩ := hal.2.2 _ _ m2
  have q3 : s.vm.findClass C = some cc := by rw [hal.findClass]; exact m1
  have q4 : k'.mirror = some mr := by rw [q2]; exact m3
  simp [Term.eval, q3, q1, q4]
theorem Wk.ldcM (X : Wk p l e R s m args below meth c own Z a0 EL h0 T h vm cells slots) {C : String} {index : Nat} (w : (Jvm.Cond.classLink own index C).before a0 Z = true) {mr : Addr} (M : Mir Z C mr) (hg : g.method = m) (hd : decode c.code g.pc = .ok (.ldc index, 2))
    (k : ∀ T', Wk p l e R s m args below meth c own Z a0 EL h0 T' h vm cells slots → Gets p e below P (T'.setTop { g with pc := g.pc + 2, stack := .ref mr :: g.stack })) : Gets p e below P (T.setTop g) := by
  obtain ⟨locs, j, Y, eT, hS, hk, hZ, hown, hC, N, hO, hx, r⟩ := X
  obtain ⟨vm', Y', st⟩ := Y.ldcMirror hx hown (mv (s := s.setVm vm) hZ w) (mir_eval (s := s.setVm vm) hZ.alike M) hg hd
  exact (k _ ⟨locs, j, Y', eT, hS, hk, hZ, hown, hC, N, hO, hx, r⟩).via st
theorem Wk.newR (X : Wk p l e R s m args below meth c own Z a0 EL h0 T h vm cells slots) {C : String} {index : Nat} (w1 : (Jvm.Cond.classLink own index C).before a0 Z = true) (w2 : (Jvm.Cond.arrayOver (.object C)).before a0 Z = true) (hg : g.method = m) (hd : decode c.code g.pc = .ok (.anewarray index, 3)) {n : Int32} {rest : List Value} (hs : g.stack = .int n :: rest)
    (hn : ¬ n < 0) {cap : Nat} (hcap : n.toNatClampNeg ≤ cap) (hb : cap * 8 ≤ 536870912) (hc : cells + 1 ≤ R.cells) (hl : slots + cap ≤ R.slots) {ad : String} (had : "[" ++ (FieldType.object C).toString = ad)
    (k : ∀ T' h' a kc, Wk p l e R s m args below meth c own Z a0 EL h0 T' h' vm (cells + 1) (slots + cap) → CHr Z EL vm h vm h' → Ext h h' → a = h.size → Exa Z h' a ad → Ovr Z kc C → Arv Z h' a kc (.object C) n [] .null → Gets p e below P (T'.setTop { g with pc := g.pc + 3, stack := .ref a :: rest })) : Gets p e below P (T.setTop g) := by
  obtain ⟨locs, j, Y, eT, hS, hk, hZ, hown, hC, N, hO, hx, r⟩ := X
  obtain ⟨T', h', kc, Y', e', E, A, Ea, Ov, st⟩ := RoadKit.newRE Y hx hZ hown w1 w2 eT hg hd hs hn hcap hb hc hl had
  have C1 : CHr Z EL vm h vm h' := CHr.ext E hC.1
  exact (k T' h' h.size kc ⟨locs, j, Y', e', hS, Nat.le_trans hk E.1, hZ, hown, hC.trans C1, N, hO.ext E, hx, r⟩ C1 E rfl Ea Ov (Arv.new A hn)).via st
theorem stoV {a y : Addr} {kc : ClassId} {ty : FieldType} {n : Int32} {vs : List Value} {dv : Value} {C : String} (A : Arv Z h a kc ty n vs dv) (O : Ovr Z kc C) (I : Ins Z h y C true) : Sto Z h a (.ref y) := by
  obtain ⟨cl, A1, A2, -⟩ := A; exact Sto.ofV A1 A2 O I
theorem Wk.stR (X : Wk p l e R s m args below meth c own Z a0 EL h0 T h vm cells slots) {a : Addr} {kc : ClassId} {C : String} {n : Int32} {vs : List Value} {dv : Value} (A : Arv Z h a kc (.object C) n vs dv) {v : Value} (F : Sto Z h a v) (hvr : fits (.object C) v = true) {j : Int32} {i : Nat} (hj0 : ¬ j < 0) (hj : j.toNatClampNeg = i) (hi : i < vs.length) (hin : i < n.toNatClampNeg)
    (hge : Z.heap.size ≤ a) (hg : g.method = m) {rest : List Value} (hs : g.stack = v :: .int j :: .ref a :: rest) (hd : decode c.code g.pc = .ok (.aastore, 1))
    (k : ∀ T' h', Wk p l e R s m args below meth c own Z a0 EL h0 T' h' vm cells slots → CHr Z EL vm h vm h' → Keep h h' [a] → Arv Z h' a kc (.object C) n (vs.set i v) dv → Gets p e below P (T'.setTop { g with pc := g.pc + 1, stack := rest })) : Gets p e below P (T.setTop g) := by
  obtain ⟨locs, j', Y, eT, hS, hk, hZ, hown, hC, N, hO, hx, r⟩ := X
  obtain ⟨cl, A1, A2, A3, A4, A5, A6⟩ := A
  obtain ⟨T', h', Y', e', W, st⟩ := RoadKit.stR Y hx hZ eT A1 (j := j) (fun q => q.elim hj0 (fun q => by rw [A3, hj] at q; omega)) rfl F hg hs hd
  have C1 : CHr Z EL vm h vm h' := CHr.wr W (Safe.arr hZ.alike A1 (by simp)) hC.1
  exact (k T' h' ⟨_, j', Y', e', hS, Nat.le_trans hk (Nat.le_of_eq W.size.symm), hZ, hown, hC.trans C1, Fr.snoc Y' N hge, hO.wr W hge, hx, r⟩ C1 (Keep.of_wr W) (Arv.set A1 A2 A3 A4 A5 A6 hvr W i hj hi)).via st
theorem Wk.copy (X : Wk p l e R s m args below meth c own Z a0 EL h0 T h vm cells slots) {index : Nat}
    (w1 : (Jvm.Cond.methodLink own index Jvm.Stand.acN).before a0 Z = true) (w2 : (Jvm.Cond.native Jvm.Stand.acN).before a0 Z = true) (w3 : (Jvm.Cond.static Jvm.Stand.acN).before a0 Z = true) (w4 : (Jvm.Cond.initialized "java/lang/System").before a0 Z = true)
    {a b : Addr} {k k' : ClassId} {ty ty' : FieldType} {z z' sp dp nn : Int32} {vs vd us : List Value} {dv dd : Value} (A : Arv Z h a k ty z vs dv) (B : Arv Z h b k' ty' z' vd dd) (hty : (ty = ty' ∧ refKind ty = false) ∨ (refKind ty = true ∧ refKind ty' = true ∧ StoL Z h b us))
    (h1 : ¬ sp < 0) (h2 : ¬ dp < 0) (h3 : ¬ nn < 0) (h4 : sp.toNatClampNeg + nn.toNatClampNeg ≤ z.toNatClampNeg) (h5 : dp.toNatClampNeg + nn.toNatClampNeg ≤ z'.toNatClampNeg)
    (hus : us = (List.range nn.toNatClampNeg).map fun i => vs.getD (sp.toNatClampNeg + i) dv) (hl : dp.toNatClampNeg + nn.toNatClampNeg ≤ vd.length) (ge : Z.heap.size ≤ b) (S : Safe Z EL vm h b)
    (hg : g.method = m) (hsize : g.locals.size = c.maxLocals) {rest : List Value} (hs : g.stack = .int nn :: .int dp :: .ref b :: .int sp :: .ref a :: rest) (hd : decode c.code g.pc = .ok (.invokestatic index, 3))
    (hf : 1 ≤ R.frames) {W : Nat} (hW : 2 * g.monitorRoom + (rest.map fun v => v.category).sum ≤ W) (hlo : W + (nativeFrameWords "java/lang/System" "arraycopy" 5 + 11) ≤ R.locals)
    (kk : ∀ T' h', Wk p l e R s m args below meth c own Z a0 EL h0 T' h' vm cells slots → CHr Z EL vm h vm h' → Keep h h' [b] → Arv Z h' b k' ty' z' (vd.take dp.toNatClampNeg ++ us ++ vd.drop (dp.toNatClampNeg + nn.toNatClampNeg)) dd → Gets p e below P (T'.setTop { g with pc := g.pc + 3, stack := rest })) : Gets p e below P (T.setTop g) := by
  obtain ⟨locs, j, Y, eT, hS, hk, hZ, hown, hC, N, hO, hx, r⟩ := X
  obtain ⟨T', h', L, Y', e', N', K, B', st⟩ := RoadKit.cpA Y hx hZ hown w1 w2 w3 w4 eT A B hty h1 h2 h3 h4 h5 hus hl N ge hg hsize hs hd hf hW hlo
  have C1 : CHr Z EL vm h vm h' := CHr.keep K (sfS S sf0) hC.1
  exact (kk T' h' ⟨L, j, Y', e', hS, Nat.le_trans hk K.1, hZ, hown, hC.trans C1, N', hO.keep K (allS ge all0), hx, r⟩ C1 K B').via st
/-- ldc of a String constant, what it holds not asked -/
theorem Wk.ldcO (X : Wk p l e R s m args below meth c own Z a0 EL h0 T h vm cells slots) {text : String} {index : Nat} (w : (Jvm.Cond.stringLink own index text).before a0 Z = true) (wS : ∀ a ∈ Bundle.stringAtoms, a.before a0 Z = true)
    (hg : g.method = m) (hd : decode c.code g.pc = .ok (.ldc index, 2)) {n : Nat} (hn : 4 * text.toList.length ≤ n) (hbig : n ≤ 536870912) (hc : cells + 2 ≤ R.cells) (hl : slots + (n + 4) ≤ R.slots)
    (k : ∀ T' h' vm' a, Wk p l e R s m args below meth c own Z a0 EL h0 T' h' vm' (cells + 2) (slots + (n + 4)) → CHr Z EL vm h vm' h' → Ext h h' → Gets p e below P (T'.setTop { g with pc := g.pc + 2, stack := .ref a :: g.stack })) : Gets p e below P (T.setTop g) := by
  obtain ⟨locs, j, Y, eT, hS, hk, hZ, hown, hC, N, hO, hx, hEL, r⟩ := X
  obtain ⟨a, T', h', k1, Y', e', E, hS', hk', hZ', hown', C1, -, st⟩ := RoadKit.ldcOH Y hx hZ hown w wS eT hS hk hEL hC.1 hg hd hn hbig hc hl
  exact (k T' h' T'.vm a ⟨locs, k1, Y', e', hS', hk', hZ', hown', hC.trans C1, N, hO.ext E, hx, hEL, r⟩ C1 E).via st
/-- ldc of a String constant that is read -/
theorem Wk.ldcC (X : Wk p l e R s m args below meth c own Z a0 EL h0 T h vm cells slots) {text : String} {index : Nat} (w : (Jvm.Cond.stringLink own index text).before a0 Z = true) (wS : ∀ a ∈ Bundle.stringAtoms, a.before a0 Z = true) (hmem : (own, index) ∈ EL)
    {vs : List Value} {z : Int32} (ht : (∀ c ∈ text.toList, c.toNat < 256) ∧ text.toList.map (fun c => Value.int (Jvm.Lit.byteI c.toNat.toUInt16)) = vs) (hz : ¬ z < 0) (hvl : z.toNatClampNeg = vs.length)
    (hg : g.method = m) (hd : decode c.code g.pc = .ok (.ldc index, 2)) {n : Nat} (hn : 4 * text.toList.length ≤ n) (hbig : n ≤ 536870912) (hc : cells + 2 ≤ R.cells) (hl : slots + (n + 4) ≤ R.slots)
    (k : ∀ T' h' vm' a b kb, Wk p l e R s m args below meth c own Z a0 EL h0 T' h' vm' (cells + 2) (slots + (n + 4)) → CHr Z EL vm h vm' h' → Ext h h' → Exa Z h' a "java/lang/String" → Fld Z h' a "java/lang/String" "coder" "B" (.int 0) → Fld Z h' a "java/lang/String" "value" "[B" (.ref b) → Arv Z h' b kb .byte z vs (.int 0) → (∀ x, Safe Z EL vm' h' x → x ≠ a ∧ x ≠ b) → Gets p e below P (T'.setTop { g with pc := g.pc + 2, stack := .ref a :: g.stack })) : Gets p e below P (T.setTop g) := by
  obtain ⟨locs, j, Y, eT, hS, hk, hZ, hown, hC, N, hO, hx, hEL, r⟩ := X
  obtain ⟨a, T', h', k1, b, kb, Y', e', E, hS', hk', hZ', hown', q1, q2, q3, q4, -, -, C1, -, q5, st⟩ := RoadKit.ldcCH Y hx hZ hown w wS eT hS hk hEL hmem hC.1 ht hz hvl hg hd hn hbig hc hl
  exact (k T' h' T'.vm a b kb ⟨locs, k1, Y', e', hS', hk', hZ', hown', hC.trans C1, N, hO.ext E, hx, hEL, r⟩ C1 E q1 q2 q3 q4 q5).via st
/-- who pays a call, in one shape -/
def Pay (l : Launch) (R : Room) (p : Program) (e : Env) (below : List Frame) (s : State) (args : Array Value) (y : MethodName) (len W : Nat) (Z : State) (EL : List (String × Nat)) (vm : Vm) (h : Heap) (as : Array Value) (rc rs : Nat) (Q : Option Value → Vm → Heap → Prop) : Prop :=
  BackS l R p e below (s.setVm vm) args y len W (fun A a => a = as ∧ A.U.heap = h ∧ A.cells + rc ≤ R.cells ∧ A.slots + rs ≤ R.slots)
    (fun A _ v B => ∃ L, (Q v B.U.vm B.U.heap ∧ Fr Z.heap.size L ∧ Old Z Z.heap.size B.U.heap) ∧ B.locs = A.locs ++ L ∧ B.cells = A.cells + rc ∧ B.slots = A.slots + rs ∧ CHr Z EL vm h B.U.vm B.U.heap)
theorem safe_later {x : Addr} (C : CHr Z EL vm h vm' h) (S : Safe Z EL vm h x) : Safe Z EL vm' h x := by
  by_cases q : x < h.size
  · exact C.safe q S
  · exact Safe.new (Nat.not_lt.mp q)
theorem Wk.payM (X : Wk p l e R s m args below meth c own Z a0 EL h0 T h vm cells slots) {y : MethodName} {bytes : ByteArray} {maxL : Nat} {ret : Option FieldType} {rm : Room} {sf : List Addr} {as : Array Value} {Q : Option Value → Vm → Heap → Prop} {len W : Nat} (M : Met l Z EL y bytes maxL ret [] rm sf as h Q) (hsf : ∀ x ∈ sf, Safe Z EL vm h x)
    (wc : (Jvm.Cond.code y bytes maxL ret).before a0 Z = true) (wz : (Jvm.Cond.initialized y.cls).before a0 Z = true) (hf : rm.frames + 1 ≤ R.frames) (hl : W + (maxL + 11) + rm.locals ≤ R.locals) : Pay l R p e below s args y len W Z EL vm h as rm.cells rm.slots Q := by
  have hZ := X.hZ
  have hEL := X.ew
  have H := X.chv
  exact BackS.of_freeW (bytes := bytes) (maxL := maxL) (ret := ret) (E := fun _ first o t L k n => k = rm.cells ∧ n = rm.slots ∧ (∃ v, o = .returned v ∧ (Q v t.vm t.heap ∧ Fr Z.heap.size L ∧ Old Z Z.heap.size t.heap)) ∧ CHr Z EL first.vm first.heap t.vm t.heap) M hf hl
    (fun m meth c A a Y hp => have hU : Z.Warmed39 A.U.vm := wtrans (s := s.setVm vm) hZ Y.warmed
      ⟨by show (Jvm.Cond.and _ .tt).before a A.U = true; rw [Cond.before_and, mv hU wc]; rfl, mv hU wc, mv hU wz, hp.2.2.1, hp.2.2.2⟩)
    (fun m meth c A a g mk Y hp => ⟨hp.1, wtrans (s := s.setVm vm) hZ Y.warmed, hp.2.1, (CHv.at Y hZ hEL H).1, fun x hx => safe_later (vm' := A.U.vm) (CHv.at Y hZ hEL H) (hsf x hx)⟩) (fun _ _ _ _ _ _ _ _ _ => trivial)
    (fun _ _ _ _ ⟨v, L, h1, h2, h3, h4⟩ => ⟨L, _, _, h4, rfl, rfl, ⟨v, h1, h2⟩, h3⟩)
    (fun m meth c A a g mk v t L k n Y hp _ _ ⟨e1, e2, ⟨v', e3, e4⟩, e5⟩ => by
      cases e3; subst e1 e2
      refine ⟨L, e4, rfl, rfl, rfl, (CHv.at Y hZ hEL H).trans ?_⟩
      rw [← hp.2.1]; exact e5)
/-- a narrow payer of the library's -/
theorem Wk.payN (X : Wk p l e R s m args below meth c own Z a0 EL h0 T h vm cells slots) {y : MethodName} {as : Array Value} {rc rs : Nat} {Qn : Option Value → Heap → List Loc → Prop} {Q : Option Value → Heap → Prop} {len W : Nat} {ws : List Addr}
    (hK : Back l R p e below (s.setVm vm) args y len W (fun A a => a = as ∧ A.U.heap = h ∧ A.cells + rc ≤ R.cells ∧ A.slots + rs ≤ R.slots) (fun A _ v B => ∃ L, Qn v B.U.heap L ∧ B.locs = A.locs ++ L ∧ B.cells = A.cells + rc ∧ B.slots = A.slots + rs))
    (hq : ∀ v u L, Qn v u L → Fr Z.heap.size L ∧ Keep h u ws ∧ Q v u) (hws : ∀ x ∈ ws, Z.heap.size ≤ x) (hsafe : ∀ x ∈ ws, Safe Z EL vm h x) : Pay l R p e below s args y len W Z EL vm h as rc rs (fun v _ u => Q v u) := by
  intro m' meth' c' A g' ig mk a Y hg hsize hd hW hn hpre
  obtain ⟨v, B, Y', ⟨L, q1, q2, q3, q4⟩, hsteps⟩ := hK m' meth' c' A g' ig mk a Y hg hsize hd hW hn hpre
  obtain ⟨N, K, q5⟩ := hq _ _ _ q1
  have C1 : CHr Z EL vm h vm B.U.heap := CHr.keep K hsafe X.chv
  have C2 := CHv.at Y' X.hZ X.ew C1.1
  exact ⟨v, B, Y'.retabled Y'.warmed.wide, Y'.warmed.since _, by rw [hpre.2.1]; exact K.1, ⟨L, ⟨q5, N, X.old.keep K hws⟩, q2, q3, q4, C1.trans C2⟩, hsteps⟩
theorem Wk.after (X : Wk p l e R s m args below meth c own Z a0 EL h0 T h vm cells slots) {locs : List Loc} {j : Nat} (hS : s.Since vm j) (hk : j ≤ h.size) (hC : CHr Z EL s.vm h0 vm h) (N : Fr Z.heap.size locs) (hO : Old Z Z.heap.size h) (hown : vm.findClass own = some m.cls)
    {B : Pt} {L : List Loc} {rc rs : Nat} (Y : Stand p l e R ((s.setVm vm).setVm B.U.vm) m args below meth c B.U B.locs B.cells B.slots) (S : (s.setVm vm).Since B.U.vm B.U.heap.size) (hgr : h.size ≤ B.U.heap.size) (q2 : B.locs = locs ++ L) (q3 : B.cells = cells + rc) (q4 : B.slots = slots + rs) (NL : Fr Z.heap.size L) (OL : Old Z Z.heap.size B.U.heap) (C1 : CHr Z EL vm h B.U.vm B.U.heap) :
    Wk p l e R s m args below meth c own Z a0 EL h0 B.U B.U.heap B.U.vm (cells + rc) (slots + rs) := by
  refine ⟨locs ++ L, B.U.heap.size, ?_, rfl, hS.trans S (Nat.le_trans hk hgr), Nat.le_refl _, State.Warmed39.trans (t := s.setVm vm) X.hZ S.1, ?_, hC.trans C1, N.app NL, OL, X.hx, X.ew, ?_⟩
  · rw [← q2, ← q3, ← q4]; exact Y
  · rw [S.1.alike.findClass]; exact hown
  · obtain ⟨_, _, -, -, -, -, -, -, -, -, -, -, -, r⟩ := X; exact r
theorem Wk.callS (X : Wk p l e R s m args below meth c own Z a0 EL h0 T h vm cells slots) {index : Nat} {y : MethodName} {bytes : ByteArray} {maxL : Nat} {ret : Option FieldType} (w1 : (Jvm.Cond.methodLink own index y).before a0 Z = true) (w2 : (Jvm.Cond.static y).before a0 Z = true) (w3 : (Jvm.Cond.initialized y.cls).before a0 Z = true) (w4 : (Jvm.Cond.code y bytes maxL ret).before a0 Z = true)
    (hy : y.cls ≠ "java/lang/invoke/MethodHandle" ∧ y.cls ≠ "java/lang/invoke/VarHandle") {W rc rs : Nat} {as : Array Value} {Q : Option Value → Vm → Heap → Prop} (hK : Pay l R p e below s args y 3 W Z EL vm h as rc rs Q)
    (hg : g.method = m) (hsize : g.locals.size = c.maxLocals) {argsL rest : List Value} (hlen : ∀ sig, parseMethodDescriptor y.desc = some sig → argsL.length = sig.parameters.length) (hstack : g.stack = argsL.reverse ++ rest) (has : argsL.toArray = as) (hW : 2 * g.monitorRoom + (rest.map fun v => v.category).sum ≤ W)
    (hdg : decode c.code g.pc = .ok (.invokestatic index, 3)) (hc : cells + rc ≤ R.cells) (hs : slots + rs ≤ R.slots)
    (k : ∀ T' h' vm' v, Wk p l e R s m args below meth c own Z a0 EL h0 T' h' vm' (cells + rc) (slots + rs) → CHr Z EL vm h vm' h' → h.size ≤ h'.size → Q v vm' h' → Gets p e below P (T'.setTop { g with pc := g.pc + 3, stack := v.toList ++ rest })) : Gets p e below P (T.setTop g) := by
  have X' := X
  obtain ⟨locs, j, Y, eT, hS, hk, hZ, hown, hC, N, hO, hx, r⟩ := X
  obtain ⟨v, vm₁, B, hW1, Y', S, hgr, ⟨L, ⟨q1, NL, OL⟩, q2, q3, q4, C1⟩, st⟩ := RoadKit.callSS Y hx hown (mv (s := s.setVm vm) hZ w1) (mv (s := s.setVm vm) hZ w2) (mv (s := s.setVm vm) hZ w3) (mv (s := s.setVm vm) hZ w4) hy hK hg hsize hlen hstack hW hdg (fun vm₁ _ => ⟨has, eT, hc, hs⟩)
  exact (k B.U B.U.heap B.U.vm v (X'.after hS hk hC N hO hown Y' S (eT ▸ hgr) q2 q3 q4 NL OL C1) C1 (eT ▸ hgr) q1).steps st
theorem Wk.callI (X : Wk p l e R s m args below meth c own Z a0 EL h0 T h vm cells slots) {index : Nat} {y : MethodName} {bytes : ByteArray} {maxL : Nat} (hy1 : y.name = "<init>") (w1 : (Jvm.Cond.methodLink own index y).before a0 Z = true) (w2 : (Jvm.Cond.instanceMethod y).before a0 Z = true) (w4 : (Jvm.Cond.code y bytes maxL none).before a0 Z = true)
    (hy : y.cls ≠ "java/lang/invoke/MethodHandle" ∧ y.cls ≠ "java/lang/invoke/VarHandle") {W rc rs : Nat} {as : Array Value} {Q : Option Value → Vm → Heap → Prop} (hK : Pay l R p e below s args y 3 W Z EL vm h as rc rs Q)
    (hg : g.method = m) (hsize : g.locals.size = c.maxLocals) {a : Addr} {argsL rest : List Value} (hlen : ∀ sig, parseMethodDescriptor y.desc = some sig → argsL.length = sig.parameters.length) (hstack : g.stack = argsL.reverse ++ .ref a :: rest) (has : (Value.ref a :: argsL).toArray = as) (hW : 2 * g.monitorRoom + (rest.map fun v => v.category).sum ≤ W)
    (hdg : decode c.code g.pc = .ok (.invokespecial index, 3)) (hc : cells + rc ≤ R.cells) (hs : slots + rs ≤ R.slots)
    (k : ∀ T' h' vm' v, Wk p l e R s m args below meth c own Z a0 EL h0 T' h' vm' (cells + rc) (slots + rs) → CHr Z EL vm h vm' h' → h.size ≤ h'.size → Q v vm' h' → Gets p e below P (T'.setTop { g with pc := g.pc + 3, stack := v.toList ++ rest })) : Gets p e below P (T.setTop g) := by
  have X' := X
  obtain ⟨locs, j, Y, eT, hS, hk, hZ, hown, hC, N, hO, hx, r⟩ := X
  obtain ⟨v, vm₁, B, hW1, Y', S, hgr, ⟨L, ⟨q1, NL, OL⟩, q2, q3, q4, C1⟩, st⟩ := Y.specialBackS hx hy1 hown (mv (s := s.setVm vm) hZ w1) (mv (s := s.setVm vm) hZ w2) (mv (s := s.setVm vm) hZ w4) hy hK hg hsize (Steps.refl _) hlen hstack hW hdg (fun vm₁ _ => ⟨has, eT, hc, hs⟩)
  exact (k B.U B.U.heap B.U.vm v (X'.after hS hk hC N hO hown Y' S (eT ▸ hgr) q2 q3 q4 NL OL C1) C1 (eT ▸ hgr) q1).steps st
theorem Wk.callIN (X : Wk p l e R s m args below meth c own Z a0 EL h0 T h vm cells slots) {index : Nat} {host : String} {y : MethodName} {bytes : ByteArray} {maxL : Nat} (hy1 : y.name = "<init>") (w1 : (Jvm.Cond.methodLinkNest own index y host).before a0 Z = true) (w2 : (Jvm.Cond.instanceMethod y).before a0 Z = true) (w4 : (Jvm.Cond.code y bytes maxL none).before a0 Z = true)
    (hy : y.cls ≠ "java/lang/invoke/MethodHandle" ∧ y.cls ≠ "java/lang/invoke/VarHandle") {W rc rs : Nat} {as : Array Value} {Q : Option Value → Vm → Heap → Prop} (hK : Pay l R p e below s args y 3 W Z EL vm h as rc rs Q)
    (hg : g.method = m) (hsize : g.locals.size = c.maxLocals) {a : Addr} {argsL rest : List Value} (hlen : ∀ sig, parseMethodDescriptor y.desc = some sig → argsL.length = sig.parameters.length) (hstack : g.stack = argsL.reverse ++ .ref a :: rest) (has : (Value.ref a :: argsL).toArray = as) (hW : 2 * g.monitorRoom + (rest.map fun v => v.category).sum ≤ W)
    (hdg : decode c.code g.pc = .ok (.invokespecial index, 3)) (hc : cells + rc ≤ R.cells) (hs : slots + rs ≤ R.slots)
    (k : ∀ T' h' vm' v, Wk p l e R s m args below meth c own Z a0 EL h0 T' h' vm' (cells + rc) (slots + rs) → CHr Z EL vm h vm' h' → h.size ≤ h'.size → Q v vm' h' → Gets p e below P (T'.setTop { g with pc := g.pc + 3, stack := v.toList ++ rest })) : Gets p e below P (T.setTop g) := by
  have X' := X
  obtain ⟨locs, j, Y, eT, hS, hk, hZ, hown, hC, N, hO, hx, r⟩ := X
  obtain ⟨v, vm₁, B, hW1, Y', S, hgr, ⟨L, ⟨q1, NL, OL⟩, q2, q3, q4, C1⟩, st⟩ := Y.specialBackNestS hx hy1 hown (Cond.methodLinkNest_wide (s := Z) hZ w1 :) (mv (s := s.setVm vm) hZ w2) (mv (s := s.setVm vm) hZ w4) hy hK hg hsize (Steps.refl _) hlen hstack hW hdg (fun vm₁ _ => ⟨has, eT, hc, hs⟩)
  exact (k B.U B.U.heap B.U.vm v (X'.after hS hk hC N hO hown Y' S (eT ▸ hgr) q2 q3 q4 NL OL C1) C1 (eT ▸ hgr) q1).steps st
theorem Wk.callV (X : Wk p l e R s m args below meth c own Z a0 EL h0 T h vm cells slots) {C : String} {index : Nat} {y z : MethodName} (w1 : (Jvm.Cond.methodLink own index y).before a0 Z = true) (w2 : (Jvm.Cond.declares y).before a0 Z = true) (w3 : (Jvm.Cond.selects C y z).before a0 Z = true) (w4 : (Jvm.Cond.instanceMethod z).before a0 Z = true)
    (hnf : ∀ s' : State, Z.Warmed39 s'.vm → NotFace s' y)
    (hy : y.cls ≠ "java/lang/invoke/MethodHandle" ∧ y.cls ≠ "java/lang/invoke/VarHandle") {W rc rs : Nat} {as : Array Value} {Q : Option Value → Vm → Heap → Prop} (hK : Pay l R p e below s args z 3 W Z EL vm h as rc rs Q) {b : Addr} (E : Exa Z h b C)
    (hg : g.method = m) (hsize : g.locals.size = c.maxLocals) {argsL rest : List Value} (hlen : ∀ sig, parseMethodDescriptor y.desc = some sig → argsL.length = sig.parameters.length) (hstack : g.stack = argsL.reverse ++ .ref b :: rest) (has : (Value.ref b :: argsL).toArray = as) (hW : 2 * g.monitorRoom + (rest.map fun v => v.category).sum ≤ W)
    (hdg : decode c.code g.pc = .ok (.invokevirtual index, 3)) (hc : cells + rc ≤ R.cells) (hs : slots + rs ≤ R.slots)
    (k : ∀ T' h' vm' v, Wk p l e R s m args below meth c own Z a0 EL h0 T' h' vm' (cells + rc) (slots + rs) → CHr Z EL vm h vm' h' → h.size ≤ h'.size → Q v vm' h' → Gets p e below P (T'.setTop { g with pc := g.pc + 3, stack := v.toList ++ rest })) : Gets p e below P (T.setTop g) := by
  have X' := X
  obtain ⟨locs, j, Y, eT, hS, hk, hZ, hown, hC, N, hO, hx, r⟩ := X
  obtain ⟨cq, kq, qa, qb, qc⟩ := RoadKit.isOf (s := s.setVm vm) hZ eT E
  obtain ⟨v, vm₁, B, hW1, Y', S, hgr, ⟨L, ⟨q1, NL, OL⟩, q2, q3, q4, C1⟩, st⟩ := Y.virtualBackS hx hown (mv (s := s.setVm vm) hZ w1) (mv (s := s.setVm vm) hZ w2) (hnf (s.setVm vm) hZ) (mv (s := s.setVm vm) hZ w3) (mv (s := s.setVm vm) hZ w4) hy hK qa qc hg hsize (Steps.refl _) hlen hstack hW hdg (fun vm₁ _ => ⟨has, eT, hc, hs⟩)
  exact (k B.U B.U.heap B.U.vm v (X'.after hS hk hC N hO hown Y' S (eT ▸ hgr) q2 q3 q4 NL OL C1) C1 (eT ▸ hgr) q1).steps st
theorem Wk.callP (X : Wk p l e R s m args below meth c own Z a0 EL h0 T h vm cells slots) {C C2 : String} {index : Nat} {y : MethodName} {bytes : ByteArray} {maxL : Nat} {ret : Option FieldType} (w1 : (Jvm.Cond.methodLink own index y).before a0 Z = true) (w2 : (Jvm.Cond.instanceMethod y).before a0 Z = true) (w3 : (Jvm.Cond.selects C2 y y).before a0 Z = true) (w4 : (Jvm.Cond.privateMethod y).before a0 Z = true) (w5 : (Jvm.Cond.code y bytes maxL ret).before a0 Z = true)
    (hy : y.cls ≠ "java/lang/invoke/MethodHandle" ∧ y.cls ≠ "java/lang/invoke/VarHandle") {W rc rs : Nat} {as : Array Value} {Q : Option Value → Vm → Heap → Prop} (hK : Pay l R p e below s args y 3 W Z EL vm h as rc rs Q) {b : Addr} (E : Exa Z h b C)
    (hg : g.method = m) (hsize : g.locals.size = c.maxLocals) {argsL rest : List Value} (hlen : ∀ sig, parseMethodDescriptor y.desc = some sig → argsL.length = sig.parameters.length) (hstack : g.stack = argsL.reverse ++ .ref b :: rest) (has : (Value.ref b :: argsL).toArray = as) (hW : 2 * g.monitorRoom + (rest.map fun v => v.category).sum ≤ W)
    (hdg : decode c.code g.pc = .ok (.invokevirtual index, 3)) (hc : cells + rc ≤ R.cells) (hs : slots + rs ≤ R.slots)
    (k : ∀ T' h' vm' v, Wk p l e R s m args below meth c own Z a0 EL h0 T' h' vm' (cells + rc) (slots + rs) → CHr Z EL vm h vm' h' → h.size ≤ h'.size → Q v vm' h' → Gets p e below P (T'.setTop { g with pc := g.pc + 3, stack := v.toList ++ rest })) : Gets p e below P (T.setTop g) := by
  have X' := X
  obtain ⟨locs, j, Y, eT, hS, hk, hZ, hown, hC, N, hO, hx, r⟩ := X
  obtain ⟨cell, hcell, hobj⟩ := Exa.cell E
  obtain ⟨c2, r2, m2, u1, u2, u3, u4, kP, hkP, hkPi⟩ := Cond.selects_spec (mv (s := s.setVm vm) (args := args) hZ w3)
  have hsel := Jvm.Stand.selects_self_of_private (findClass_of_methodNamed u3) hkP hkPi (Cond.privateMethod_at (mvP (s := s.setVm vm) hZ w4 (args := #[]))) (mv (s := s.setVm vm) (args := args) hZ w2) hy
  obtain ⟨v, vm₁, B, hW1, Y', S, hgr, ⟨L, ⟨q1, NL, OL⟩, q2, q3, q4, C1⟩, st⟩ := Y.privateBackS hx hown (mv (s := s.setVm vm) hZ w1) (mv (s := s.setVm vm) hZ w2) hsel (Cond.privateMethod_at (mvP (s := s.setVm vm) hZ w4 (args := #[]))) (mv (s := s.setVm vm) hZ w5) hy hK hg hsize (Steps.refl _) (a := b) (by rw [eT]; exact hcell) hobj hlen hstack hW hdg (fun vm₁ _ => ⟨has, eT, hc, hs⟩)
  exact (k B.U B.U.heap B.U.vm v (X'.after hS hk hC N hO hown Y' S (eT ▸ hgr) q2 q3 q4 NL OL C1) C1 (eT ▸ hgr) q1).steps st
theorem nfs {y z : MethodName} {C : String} (hc : y = z) (w : (Jvm.Cond.selects C y z).before a0 Z = true) : ∀ s' : State, Z.Warmed39 s'.vm → NotFace s' y := fun s' hZ => by
  subst hc; exact notFace_of_selects (args := #[]) (mv (s := s') hZ w)
theorem nfs2 {y y' : MethodName} {C : String} (hc : y.cls = y'.cls) (w : (Jvm.Cond.selects C y' y').before a0 Z = true) : ∀ s' : State, Z.Warmed39 s'.vm → NotFace s' y := fun s' hZ r0 h0 => by
  obtain ⟨c2, r2, m2, q1, q2, q3, q4, kP, hkP, hkPi⟩ := Cond.selects_spec (mv (s := s') (args := #[]) hZ w)
  have e1 := findClass_of_methodNamed h0
  have e2 := findClass_of_methodNamed q3
  rw [hc, e2] at e1
  exact ⟨kP, by rw [← Option.some.inj e1]; exact hkP, hkPi⟩
theorem Wk.callF (X : Wk p l e R s m args below meth c own Z a0 EL h0 T h vm cells slots) {C : String} {index count : Nat} {xi y : MethodName} (w1 : (Jvm.Cond.methodLink own index xi).before a0 Z = true) (w2 : (Jvm.Cond.declares xi).before a0 Z = true) (w3 : (Jvm.Cond.interfaceMethod xi.cls xi.cls xi.name xi.desc).before a0 Z = true) (e3 : ((Jvm.Cond.interfaceMethod xi.cls xi.cls xi.name xi.desc).onTables && (Jvm.Cond.interfaceMethod xi.cls xi.cls xi.name xi.desc).keepsFace) = true) (w4 : (Jvm.Cond.selects C xi y).before a0 Z = true) (w5 : (Jvm.Cond.instanceMethod y).before a0 Z = true)
    (w6 : (Jvm.Cond.publicMethod y).before a0 Z = true) (w7 : (Jvm.Cond.unhidden C xi.name xi.desc).before a0 Z = true) (w8 : (Jvm.Cond.castable C xi.cls).before a0 Z = true)
    (hy : xi.cls ≠ "java/lang/invoke/MethodHandle" ∧ xi.cls ≠ "java/lang/invoke/VarHandle") {W rc rs : Nat} {as : Array Value} {Q : Option Value → Vm → Heap → Prop} (hK : Pay l R p e below s args y 5 W Z EL vm h as rc rs Q) {b : Addr} (E : Exa Z h b C)
    (hg : g.method = m) (hsize : g.locals.size = c.maxLocals) {argsL rest : List Value} (hlen : ∀ sig, parseMethodDescriptor xi.desc = some sig → argsL.length = sig.parameters.length) (hstack : g.stack = argsL.reverse ++ .ref b :: rest) (has : (Value.ref b :: argsL).toArray = as) (hW : 2 * g.monitorRoom + (rest.map fun v => v.category).sum ≤ W)
    (hdg : decode c.code g.pc = .ok (.invokeinterface index count, 5)) (hc : cells + rc ≤ R.cells) (hs : slots + rs ≤ R.slots)
    (k : ∀ T' h' vm' v, Wk p l e R s m args below meth c own Z a0 EL h0 T' h' vm' (cells + rc) (slots + rs) → CHr Z EL vm h vm' h' → h.size ≤ h'.size → Q v vm' h' → Gets p e below P (T'.setTop { g with pc := g.pc + 5, stack := v.toList ++ rest })) : Gets p e below P (T.setTop g) := by
  have X' := X
  obtain ⟨locs, j, Y, eT, hS, hk, hZ, hown, hC, N, hO, hx, r⟩ := X
  obtain ⟨cq, kq, qa, qb, qc⟩ := RoadKit.isOf (s := s.setVm vm) hZ eT E
  obtain ⟨v, vm₁, B, hW1, Y', S, hgr, ⟨L, ⟨q1, NL, OL⟩, q2, q3, q4, C1⟩, st⟩ := Y.interfaceBackS hx hown (mv (s := s.setVm vm) hZ w1) (mv (s := s.setVm vm) hZ w2) (mv (s := s.setVm vm) hZ w3 e3) (mv (s := s.setVm vm) hZ w4) (mv (s := s.setVm vm) hZ w5) (mv (s := s.setVm vm) hZ w6) (mv (s := s.setVm vm) hZ w7) (mv (s := s.setVm vm) hZ w8) hy hK qa qb qc hg hsize (Steps.refl _) hlen hstack hW hdg (fun vm₁ _ => ⟨has, eT, hc, hs⟩)
  exact (k B.U B.U.heap B.U.vm v (X'.after hS hk hC N hO hown Y' S (eT ▸ hgr) q2 q3 q4 NL OL C1) C1 (eT ▸ hgr) q1).steps st
theorem Wk.done (X : Wk p l e R s m args below meth c own Z a0 EL h0 T h vm cells slots) {Q : Option Value → Vm → Heap → Prop} {rm : Room} {v : Option Value} (hv : meth.sig.returnType = none → v = none) (hc : cells ≤ rm.cells) (hs : slots ≤ rm.slots) (q : ∀ vm', CHr Z EL vm h vm' h → Q v vm' h)
    (st : ∀ fs, Stand p l e R (s.setVm vm) m args below meth c T [] cells slots ∨ True → (∀ (f : JFrame) (acts : List Action), f.method = m → f.locked = none → f.entered = [] → (doReturn e (T.setTop f) acts v).1 = T.setFrames fs) → Steps p.tables e below (T.setTop g) (T.setFrames fs)) : Gets p e below (Out s Z EL rm Q) (T.setTop g) := by
  obtain ⟨locs, j, Y, eT, hS, hk, hZ, hown, hC, N, hO, hx, hEL, hh, hlk⟩ := X
  obtain ⟨fs, hr, hrun, hended, hq⟩ := Y.leaveW hS (by rw [eT]; exact hk) (v := v) hv
  refine ⟨_, _, st fs (Or.inr trivial) hr, hrun, hended, v, locs, rfl, ⟨?_, N, ?_⟩, ?_, ?_⟩
  · show Q v T.vm T.heap; rw [eT]; exact q _ (CHv.at Y hZ hEL hC.1)
  · show Old Z Z.heap.size T.heap; rw [eT]; exact hO
  · show CHr Z EL s.vm s.heap T.vm T.heap
    rw [hh, eT]
    exact hC.trans (CHv.at Y hZ hEL hC.1)
  · obtain ⟨r1, r2, r3, r4⟩ := hq
    exact ⟨r1, r2, r3, r4.mono hc hs⟩
theorem Wk.retV (X : Wk p l e R s m args below meth c own Z a0 EL h0 T h vm cells slots) {Q : Option Value → Vm → Heap → Prop} {rm : Room} (hret : meth.sig.returnType = none) {pc : Nat} {Ls : Array Slot} (hd : decode c.code pc = .ok (.return_, 1)) (hc : cells ≤ rm.cells) (hs : slots ≤ rm.slots) (q : ∀ vm', CHr Z EL vm h vm' h → Q none vm' h) : Gets p e below (Out s Z EL rm Q) (T.setTop (mkF m pc Ls [])) := by
  have X' := X
  obtain ⟨locs, j, Y, -⟩ := X'
  exact X.done (fun _ => rfl) hc hs q fun fs _ hr => Y.returnOut X.hx hret hd hr
theorem Wk.ret (X : Wk p l e R s m args below meth c own Z a0 EL h0 T h vm cells slots) {Q : Option Value → Vm → Heap → Prop} {rm : Room} {t : FieldType} {w : Value} {i : Instr} (hret : meth.sig.returnType = some t) {pc : Nat} {Ls : Array Slot} {rest : List Value} (hn : narrow t w = w)
    (hi : (i = .ireturn ∧ (t = .int ∨ t = .boolean ∨ t = .byte ∨ t = .char ∨ t = .short) ∧ ∃ z, w = .int z) ∨ (i = .lreturn ∧ t = .long ∧ ∃ z, w = .long z) ∨ (i = .dreturn ∧ t = .double ∧ ∃ z, w = .double z) ∨ (i = .freturn ∧ t = .float ∧ ∃ z, w = .float z) ∨ (i = .areturn ∧ t.isReference = true ∧ w.isRef = true))
    (hd : decode c.code pc = .ok (i, 1)) (hc : cells ≤ rm.cells) (hs : slots ≤ rm.slots) (q : ∀ vm', CHr Z EL vm h vm' h → Q (some w) vm' h) : Gets p e below (Out s Z EL rm Q) (T.setTop (mkF m pc Ls (w :: rest))) := by
  have X' := X
  obtain ⟨locs, j, Y, -⟩ := X'
  exact X.done (fun z => by rw [hret] at z; cases z) hc hs q fun fs _ hr => RoadKit.retOut Y X.hx hret hn hi hd hr
theorem Wk.retA (X : Wk p l e R s m args below meth c own Z a0 EL h0 T h vm cells slots) {Q : Option Value → Vm → Heap → Prop} {rm : Room} {t : FieldType} {w : Value} (hret : meth.sig.returnType = some t) {pc : Nat} {Ls : Array Slot} {rest : List Value} (hn : narrow t w = w) (ht : t.isReference = true) (hw : w.isRef = true)
    (hd : decode c.code pc = .ok (.areturn, 1)) (hc : cells ≤ rm.cells) (hs : slots ≤ rm.slots) (q : ∀ vm', CHr Z EL vm h vm' h → Q (some w) vm' h) : Gets p e below (Out s Z EL rm Q) (T.setTop (mkF m pc Ls (w :: rest))) :=
  X.ret hret hn (Or.inr (Or.inr (Or.inr (Or.inr ⟨rfl, ht, hw⟩)))) hd hc hs q
theorem Wk.retI (X : Wk p l e R s m args below meth c own Z a0 EL h0 T h vm cells slots) {Q : Option Value → Vm → Heap → Prop} {rm : Room} {t : FieldType} {x : Int32} (hret : meth.sig.returnType = some t) {pc : Nat} {Ls : Array Slot} {rest : List Value} (hn : narrow t (.int x) = .int x) (ht : t = .int ∨ t = .boolean ∨ t = .byte ∨ t = .char ∨ t = .short)
    (hd : decode c.code pc = .ok (.ireturn, 1)) (hc : cells ≤ rm.cells) (hs : slots ≤ rm.slots) (q : ∀ vm', CHr Z EL vm h vm' h → Q (some (.int x)) vm' h) : Gets p e below (Out s Z EL rm Q) (T.setTop (mkF m pc Ls (.int x :: rest))) :=
  X.ret hret hn (Or.inl ⟨rfl, ht, x, rfl⟩) hd hc hs q
variable {a b : Addr} {k : ClassId} {cs : List Int32} {ws : List Addr}
/-- a Latin-1 String at a, its bytes at b, spelling cs -/
def Str (Z : State) (h : Heap) (a b : Addr) (k : ClassId) (cs : List Int32) : Prop := Exa Z h a "java/lang/String" ∧ Fld Z h a "java/lang/String" "coder" "B" (.int (0 : Int32)) ∧ Fld Z h a "java/lang/String" "value" "[B" (.ref b) ∧ Arv Z h b k .byte (Int32.ofNat cs.length) ((cs.map fun c => c.toInt8.toInt32).map Value.int) (.int (0 : Int32)) ∧ (∀ c ∈ cs, ¬ c < 0 ∧ ¬ (255 : Int32) < c) ∧ cs.length ≤ 4000
theorem Str.ext (F : Str Z h a b k cs) (E : Ext h h') : Str Z h' a b k cs := ⟨F.1.ext E, F.2.1.ext E, F.2.2.1.ext E, F.2.2.2.1.ext E, F.2.2.2.2⟩
theorem Str.keep (F : Str Z h a b k cs) (K : Keep h h' ws) (q : a ∉ ws) (r : b ∉ ws) : Str Z h' a b k cs := ⟨F.1.keep K, F.2.1.keep K q, F.2.2.1.keep K q, F.2.2.2.1.keep K r, F.2.2.2.2⟩
theorem Str.lt (F : Str Z h a b k cs) : a < h.size := F.1.lt
theorem Str.lb (F : Str Z h a b k cs) : b < h.size := F.2.2.2.1.lt
theorem Arv.nty {a b : Addr} {k k' : ClassId} {ty ty' : FieldType} {n n' : Int32} {vs vs' : List Value} {d d' : Value} (A : Arv Z h a k ty n vs d) (B : Arv Z h b k' ty' n' vs' d') (q : ty ≠ ty') : a ≠ b := fun z => by
  subst z
  obtain ⟨c, ⟨A1, ⟨-, kk, A2, cm, A3⟩, -⟩, -⟩ := A
  obtain ⟨c', ⟨B1, ⟨-, kk', B2, cm', B3⟩, -⟩, -⟩ := B
  rw [A1] at B1; cases B1
  rw [A2] at B2; cases B2
  rw [A3] at B3; cases B3
  exact q rfl
end Base
section Vals
variable {tb : Tables} [Ours tb] {e : Env} {below : List Frame} {T target : State} {m : MethodId} {c : Code} {g : JFrame}
theorem i2cV (h : At T m c below) (hx : tb.exec = Jvm.exec) (hg : g.method = m) {x v : Int32} {rest : List Value} (hd : decode c.code g.pc = .ok (.i2c, 1)) (hs : g.stack = .int x :: rest) (hv : x.toUInt32.toUInt16.toUInt32.toInt32 = v)
    (hr : Steps tb e below (T.setTop { g with pc := g.pc + 1, stack := .int v :: rest }) target) : Steps tb e below (T.setTop g) target := by subst hv; exact XS.i2c h hx hg hd hs hr
theorem iincV (h : At T m c below) (hx : tb.exec = Jvm.exec) (hg : g.method = m) {k : Nat} {cst : Int} {x v : Int32} {l' : Array Slot} (hd : decode c.code g.pc = .ok (.iinc k cst, 3)) (hl : g.locals[k]? = some (.val (.int x))) (hv : x + Int32.ofInt cst = v) (hl' : storeLocals g.locals k (.int v) = some l')
    (hr : Steps tb e below (T.setTop { g with pc := g.pc + 3, locals := l' }) target) : Steps tb e below (T.setTop g) target := by subst hv; exact XS.iinc h hx hg hd hl hl' hr
theorem iaddV (h : At T m c below) (hx : tb.exec = Jvm.exec) (hg : g.method = m) {x y v : Int32} {rest : List Value} (hd : decode c.code g.pc = .ok (.iadd, 1)) (hs : g.stack = .int y :: .int x :: rest) (hv : x + y = v)
    (hr : Steps tb e below (T.setTop { g with pc := g.pc + 1, stack := .int v :: rest }) target) : Steps tb e below (T.setTop g) target := by subst hv; exact XS.iadd h hx hg hd hs hr
theorem isubV (h : At T m c below) (hx : tb.exec = Jvm.exec) (hg : g.method = m) {x y v : Int32} {rest : List Value} (hd : decode c.code g.pc = .ok (.isub, 1)) (hs : g.stack = .int y :: .int x :: rest) (hv : x - y = v)
    (hr : Steps tb e below (T.setTop { g with pc := g.pc + 1, stack := .int v :: rest }) target) : Steps tb e below (T.setTop g) target := by subst hv; exact XS.isub h hx hg hd hs hr
theorem iushrV (h : At T m c below) (hx : tb.exec = Jvm.exec) (hg : g.method = m) {x y v : Int32} {rest : List Value} (hd : decode c.code g.pc = .ok (.iushr, 1)) (hs : g.stack = .int y :: .int x :: rest) (hv : Jvm.Free.XT.ushr x y = v)
    (hr : Steps tb e below (T.setTop { g with pc := g.pc + 1, stack := .int v :: rest }) target) : Steps tb e below (T.setTop g) target := by subst hv; exact Jvm.Free.XT.iushr h hx hg hd hs hr
theorem ishlV (h : At T m c below) (hx : tb.exec = Jvm.exec) (hg : g.method = m) {x y v : Int32} {rest : List Value} (hd : decode c.code g.pc = .ok (.ishl, 1)) (hs : g.stack = .int y :: .int x :: rest) (hv : x <<< (y &&& (31 : Int32)) = v)
    (hr : Steps tb e below (T.setTop { g with pc := g.pc + 1, stack := .int v :: rest }) target) : Steps tb e below (T.setTop g) target := by subst hv; exact Jvm.Free.XT.ishl h hx hg hd hs hr
theorem ishrV (h : At T m c below) (hx : tb.exec = Jvm.exec) (hg : g.method = m) {x y v : Int32} {rest : List Value} (hd : decode c.code g.pc = .ok (.ishr, 1)) (hs : g.stack = .int y :: .int x :: rest) (hv : x >>> (y &&& (31 : Int32)) = v)
    (hr : Steps tb e below (T.setTop { g with pc := g.pc + 1, stack := .int v :: rest }) target) : Steps tb e below (T.setTop g) target := by subst hv; exact Jvm.Free.XT.ishr h hx hg hd hs hr
theorem i2bV (h : At T m c below) (hx : tb.exec = Jvm.exec) (hg : g.method = m) {x v : Int32} {rest : List Value} (hd : decode c.code g.pc = .ok (.i2b, 1)) (hs : g.stack = .int x :: rest) (hv : x.toInt8.toInt32 = v)
    (hr : Steps tb e below (T.setTop { g with pc := g.pc + 1, stack := .int v :: rest }) target) : Steps tb e below (T.setTop g) target := by subst hv; exact XS.i2b h hx hg hd hs hr
theorem iremV (h : At T m c below) (hx : tb.exec = Jvm.exec) (hg : g.method = m) {x y : Int32} {rest : List Value} (hd : decode c.code g.pc = .ok (.irem, 1)) (hs : g.stack = .int y :: .int x :: rest) (hy : y ≠ 0)
    (hr : Steps tb e below (T.setTop { g with pc := g.pc + 1, stack := .int (x % y) :: rest }) target) : Steps tb e below (T.setTop g) target := by
  have q : x - x / y * y = x % y := irem_eq_mod x y
  exact XS.irem h hx hg hd hs hy (by rw [q]; exact hr)
/-- (char) of an int -/
def i2c (x : Int32) : Int32 := x.toUInt32.toUInt16.toUInt32.toInt32
theorem i2c_in {x : Int32} (h0 : ¬ x < 0) (h1 : ¬ (65535 : Int32) < x) : x.toUInt32.toUInt16.toUInt32.toInt32 = x := by
  have q := c_i2c x
  apply Int32.toInt_inj.mp
  have e0 : (0 : Int32).toInt = 0 := by decide
  have e1 : (65535 : Int32).toInt = 65535 := by decide
  rw [Int32.lt_iff_toInt_lt, e0] at h0
  rw [Int32.lt_iff_toInt_lt, e1] at h1
  omega
theorem m255 (x : Int32) : ¬ (x &&& (255 : Int32)) < 0 ∧ ¬ (255 : Int32) < (x &&& (255 : Int32)) := by
  have q := c_and x (255 : Int32) (by decide)
  have e0 : (0 : Int32).toInt = 0 := by decide
  have e1 : (255 : Int32).toInt = 255 := by decide
  constructor
  · rw [Int32.lt_iff_toInt_lt, e0]; omega
  · rw [Int32.lt_iff_toInt_lt, e1]; rw [e1] at q; omega
theorem lt_of {a b c : Int32} (h : ¬ a < b) (hb : b.toInt ≤ c.toInt) : True := trivial
theorem i2c_m255 (x : Int32) : (x &&& (255 : Int32)).toUInt32.toUInt16.toUInt32.toInt32 = x &&& (255 : Int32) := i2c_in (m255 x).1 fun q => (m255 x).2 (by
  have e1 : (255 : Int32).toInt = 255 := by decide
  have e2 : (65535 : Int32).toInt = 65535 := by decide
  rw [Int32.lt_iff_toInt_lt] at q ⊢; omega)
theorem i2c_i2c (x : Int32) : (i2c x).toUInt32.toUInt16.toUInt32.toInt32 = i2c x := by
  have q := c_i2c x
  have e0 : (0 : Int32).toInt = 0 := by decide
  have e1 : (65535 : Int32).toInt = 65535 := by decide
  refine i2c_in ?_ ?_
  · rw [Int32.lt_iff_toInt_lt, e0]; unfold i2c; omega
  · rw [Int32.lt_iff_toInt_lt, e1]; unfold i2c; omega
theorem m255L (x : Int64) : ¬ (x &&& (255 : Int64)).toInt32 < 0 ∧ ¬ (255 : Int32) < (x &&& (255 : Int64)).toInt32 := by
  have q := c_maskL x (255 : Int64) 8 (by decide) (by decide)
  have r := Jvm.Free.XT.narrowInt (x := x &&& (255 : Int64)) ⟨by omega, by omega⟩
  have e0 : (0 : Int32).toInt = 0 := by decide
  have e1 : (255 : Int32).toInt = 255 := by decide
  constructor
  · rw [Int32.lt_iff_toInt_lt, e0]; omega
  · rw [Int32.lt_iff_toInt_lt, e1]; omega
theorem i2c_small {x : Int32} (h : ¬ x < 0 ∧ ¬ (255 : Int32) < x) : x.toUInt32.toUInt16.toUInt32.toInt32 = x := i2c_in h.1 fun q => h.2 (by
  have e1 : (255 : Int32).toInt = 255 := by decide
  have e2 : (65535 : Int32).toInt = 65535 := by decide
  rw [Int32.lt_iff_toInt_lt] at q ⊢; omega)
theorem nar_small {x : Int32} (h : ¬ x < 0 ∧ ¬ (255 : Int32) < x) : narrow .char (.int x) = .int x := by
  show Value.int _ = _
  rw [i2c_small h]
theorem nar_b (x : Int32) : nar .byte x.toInt8.toInt32 = x.toInt8.toInt32 := by simp [nar]
theorem allI {P : Int32 → Prop} {y : Int32} {L : List Int32} (q : P y) (r : ∀ x ∈ L, P x) : ∀ x ∈ y :: L, P x := fun x z => (List.mem_cons.mp z).elim (fun u => u ▸ q) (r x)
theorem allN {P : Int32 → Prop} : ∀ x ∈ ([] : List Int32), P x := fun _ q => nomatch q
end Vals
end Jvm.Ow

/- laws to paste: Road.backV, Road.lenW, Road.chN, Road.eqW, Road.codOf (cut by pick.py; bodies as the Statement names them) -/
namespace Jvm.Pilot.@@N@@
namespace StrChars
open Jvm Sem ClassFile Op Lib Jvm.Stand Jvm.Free.XT Jvm.Free.ALB Jvm.Free.JM Jvm.Free
open Jvm.Lib.Cold (StaticIs)
/-- a char array whose places are chars -/
def Ch (a : Addr) (A : Cell) (U : State) : Prop := Arr .char a A U ∧ Typed .char A
theorem Ch.mv {a : Addr} {A : Cell} {U U' : State} (h : Ch a A U) (hal : U.vm.Alike U'.vm) (hh : U'.heap = U.heap) : Ch a A U' := ⟨h.1.mv hal hh, h.2⟩
theorem Ch.keep {a : Addr} {A : Cell} {U U' : State} (h : Ch a A U) (hal : U.vm.Alike U'.vm) (hk : U'.heap[a]? = some A) : Ch a A U' := ⟨h.1.keep hal hk, h.2⟩
/-- what place i of a char[]'s cell holds -/
def cv (A : Cell) (i : Nat) : Int32 := match A.slots[i]? with | some (.int x) => x | _ => 0
theorem Ch.get {a : Addr} {A : Cell} {U : State} (h : Ch a A U) {i : Nat} (hi : i < A.slots.size) : A.slots[i]? = some (.int (cv A i)) := by
  have e := Array.getElem?_eq_getElem hi
  have f := h.2 i _ e
  unfold cv; rw [e]
  generalize A.slots[i] = v at f
  cases v <;> simp [fits] at f ⊢
/-- the byte that i2b leaves of a char -/
def lo8 (x : Int32) : Int32 := x.toInt8.toInt32
theorem fits_lo8 (y : Int32) : fits .byte (.int (lo8 y)) = true := by
  have h1 := y.toInt8.le_toInt
  have h2 := y.toInt8.toInt_lt
  simp only [lo8, fits, Bool.and_eq_true, decide_eq_true_eq, Int32.le_iff_toInt_le, Int8.toInt_toInt32, show (-128 : Int32).toInt = -128 from by decide, show (127 : Int32).toInt = 127 from by decide]
  omega
/-- A' is A but that each place j of lo .. hi - 1 holds f j -/
def Laid (A A' : Cell) (lo hi : Nat) (f : Nat → Value) : Prop := A'.cls = A.cls ∧ A'.vm = A.vm ∧ A'.slots.size = A.slots.size ∧ ∀ i, A'.slots[i]? = if lo ≤ i ∧ i < hi then some (f i) else A.slots[i]?
theorem Laid.zero (A : Cell) (lo : Nat) (f : Nat → Value) : Laid A A lo (lo + 0) f := ⟨rfl, rfl, rfl, fun i => by rw [if_neg (by omega)]⟩
theorem Laid.step {A Ak : Cell} {lo k : Nat} {f : Nat → Value} {v : Value} (h : Laid A Ak lo k f) (hlo : lo ≤ k) (hk : k < Ak.slots.size) (hv : v = f k) : Laid A (Ak.setSlot k v) lo (k + 1) f := by
  refine ⟨h.1, h.2.1, by simpa [Cell.setSlot] using h.2.2.1, fun i => ?_⟩
  by_cases e : k = i
  · subst e; rw [Cell.slots_setSlot_self v hk, if_pos (by omega), hv]
  · rw [Cell.slots_setSlot_ne v e, h.2.2.2 i]
    by_cases q : lo ≤ i ∧ i < k
    · rw [if_pos q, if_pos (by omega)]
    · rw [if_neg q, if_neg (by omega)]
def U16 : String := "java/lang/StringUTF16"
namespace Cmp5
def yN : MethodName := ⟨"java/lang/StringUTF16", "compress", "([CI[BII)I"⟩
abbrev yB : ByteArray := jdk_52_method_21_code
theorem d0 : decode yB 0 = .ok (.iconst 0, 1) := by decide +kernel
theorem d1 : decode yB 1 = .ok (.istore 5, 2) := by decide +kernel
theorem d3 : decode yB 3 = .ok (.iload 5, 2) := by decide +kernel
theorem d5 : decode yB 5 = .ok (.iload 4, 2) := by decide +kernel
theorem d7 : decode yB 7 = .ok (.if_icmp (.ge) 37, 3) := by decide +kernel
theorem d10 : decode yB 10 = .ok (.aload_n 0, 1) := by decide +kernel
theorem d11 : decode yB 11 = .ok (.iload_n 1, 1) := by decide +kernel
theorem d12 : decode yB 12 = .ok (.caload, 1) := by decide +kernel
theorem d13 : decode yB 13 = .ok (.istore 6, 2) := by decide +kernel
theorem d15 : decode yB 15 = .ok (.iload 6, 2) := by decide +kernel
theorem d17 : decode yB 17 = .ok (.sipush 255, 3) := by decide +kernel
theorem d20 : decode yB 20 = .ok (.if_icmp (.le) 6, 3) := by decide +kernel
theorem d26 : decode yB 26 = .ok (.aload_n 2, 1) := by decide +kernel
theorem d27 : decode yB 27 = .ok (.iload_n 3, 1) := by decide +kernel
theorem d28 : decode yB 28 = .ok (.iload 6, 2) := by decide +kernel
theorem d30 : decode yB 30 = .ok (.i2b, 1) := by decide +kernel
theorem d31 : decode yB 31 = .ok (.bastore, 1) := by decide +kernel
theorem d32 : decode yB 32 = .ok (.iinc 1 1, 3) := by decide +kernel
theorem d35 : decode yB 35 = .ok (.iinc 3 1, 3) := by decide +kernel
theorem d38 : decode yB 38 = .ok (.iinc 5 1, 3) := by decide +kernel
theorem d41 : decode yB 41 = .ok (.goto (-38), 3) := by decide +kernel
theorem d44 : decode yB 44 = .ok (.iload 4, 2) := by decide +kernel
theorem d46 : decode yB 46 = .ok (.ireturn, 1) := by decide +kernel
def site : List Cond := []
def tab : Cond := tabOf yN yB 7 (some .int) site
def P (b : Addr) (A : Cell) (d : Addr) (B : Cell) (o q len : Nat) (args : Array Value) (s : State) : Prop := args = #[.ref b, .int (Int32.ofNat o), .ref d, .int (Int32.ofNat q), .int (Int32.ofNat len)] ∧ Ch b A s ∧ Arr .byte d B s ∧ b ≠ d ∧ o + len ≤ A.slots.size ∧ q + len ≤ B.slots.size ∧ ∀ i, i < len → ¬ 255 < cv A (o + i)
def E (b : Addr) (A : Cell) (d : Addr) (B : Cell) (o q len : Nat) (r : Option Value) (s u : State) : Prop := r = some (.int (Int32.ofNat len)) ∧ ∃ B', Put d B' s u ∧ Laid B B' q (q + len) (fun j => Value.int (lo8 (cv A (o + (j - q)))))
/-- no char of the range above 255: len; the places written hold each char's low byte -/
theorem law (l : Launch) (b : Addr) (A : Cell) (d : Addr) (B : Cell) (o q len : Nat) : Law l yN 5 5 0 0 yB 7 (some .int) site (P b A d B o q len) (E b A d B o q len) (copyLocs d q len) 0 0 := by
  refine Law.of_walk (plainFor_of_name (by decide +kernel)) (by decide +kernel) (by decide +kernel) (by decide) (fun _ _ h => by rw [h.1]; rfl) (fun _ U U' hal hh h => ⟨h.1, h.2.1.mv hal hh, h.2.2.1.mv hal hh, h.2.2.2⟩) (fun r U U' V V' h1 hal h2 h => ⟨h.1, h.2.elim fun B' q => ⟨B', q.1.mv h1 h2, q.2⟩⟩) ?_
  intro p e s m args below meth c s₁ X0 hexec hbytes hml hret hlk hnm hown hh0 W hP
  obtain ⟨rfl, hA, hB, hne, l1, l2, hp⟩ := hP
  have c1 : Steps p.tables e below (s₁.setTop (entryFrame m #[.ref b, .int (Int32.ofNat o), .ref d, .int (Int32.ofNat q), .int (Int32.ofNat len)] 7)) (s₁.setTop (mkF m 0 #[.val (.ref b), .val (.int (Int32.ofNat o)), .val (.ref d), .val (.int (Int32.ofNat q)), .val (.int (Int32.ofNat len)), .unset, .unset] [])) := entry rfl
  have hA0 := hA.1.mv X0.warmed.alike hh0
  have hB0 := hB.mv X0.warmed.alike hh0
  have a31 := hA.1.2.2.2
  have c2 : Steps p.tables e below (s₁.setTop (entryFrame m #[.ref b, .int (Int32.ofNat o), .ref d, .int (Int32.ofNat q), .int (Int32.ofNat len)] 7)) (s₁.setTop (mkF m 3 #[.val (.ref b), .val (.int (Int32.ofNat o)), .val (.ref d), .val (.int (Int32.ofNat q)), .val (.int (Int32.ofNat len)), .val (.int 0), .unset] [])) := c1.trans (by
    refine iconstV X0.here hexec rfl 0 (hb hbytes d0) (by decide) ?_
    refine XS.istore X0.here hexec rfl (hb hbytes d1) rfl rfl ?_
    exact Steps.refl _)
  have loop : ∀ (r i : Nat), i + r = len → ∀ (z : Slot), (z = .unset ∨ ∃ w, z = .val w ∧ w.category = 1) → ∀ (Tl : State) (Bk : Cell), Stand p l e { frames := 0, locals := 0, cells := 0, slots := 0 } s m #[.ref b, .int (Int32.ofNat o), .ref d, .int (Int32.ofNat q), .int (Int32.ofNat len)] below meth c Tl ([] ++ copyLocs d q i) 0 0 → Put d Bk s₁ Tl → Laid B Bk q (q + i) (fun j => Value.int (lo8 (cv A (o + (j - q))))) →
      Steps p.tables e below (s₁.setTop (entryFrame m #[.ref b, .int (Int32.ofNat o), .ref d, .int (Int32.ofNat q), .int (Int32.ofNat len)] 7)) (Tl.setTop (mkF m 3 #[.val (.ref b), .val (.int (Int32.ofNat (o + i))), .val (.ref d), .val (.int (Int32.ofNat (q + i))), .val (.int (Int32.ofNat len)), .val (.int (Int32.ofNat i)), z] [])) → ∃ (T' : State) (B' : Cell) (z' : Slot), Stand p l e { frames := 0, locals := 0, cells := 0, slots := 0 } s m #[.ref b, .int (Int32.ofNat o), .ref d, .int (Int32.ofNat q), .int (Int32.ofNat len)] below meth c T' ([] ++ copyLocs d q len) 0 0 ∧ Put d B' s₁ T' ∧ Laid B B' q (q + len) (fun j => Value.int (lo8 (cv A (o + (j - q))))) ∧
      Steps p.tables e below (s₁.setTop (entryFrame m #[.ref b, .int (Int32.ofNat o), .ref d, .int (Int32.ofNat q), .int (Int32.ofNat len)] 7)) (T'.setTop (mkF m 3 #[.val (.ref b), .val (.int (Int32.ofNat (o + len))), .val (.ref d), .val (.int (Int32.ofNat (q + len))), .val (.int (Int32.ofNat len)), .val (.int (Int32.ofNat len)), z'] [])) := by
    intro r
    induction r with
    | zero =>
      intro i hi z hz Tl Bk Xl pl fl cl
      have hil : i = len := by omega
      rw [hil] at Xl fl cl
      exact ⟨Tl, Bk, z, Xl, pl, fl, cl⟩
    | succ r ih =>
      intro i hi z hz Tl Bk Xl pl fl cl
      have all := X0.warmed.alike.symm.trans Xl.warmed.alike
      have hAl := hA0.keep all (pl.other hne hA0.1)
      have hBk := hB0.like all pl.1 fl.1 fl.2.1 fl.2.2.1
      have hlt : q + i < Bk.slots.size := by rw [fl.2.2.1]; omega
      have c3 : Steps p.tables e below (s₁.setTop (entryFrame m #[.ref b, .int (Int32.ofNat o), .ref d, .int (Int32.ofNat q), .int (Int32.ofNat len)] 7)) (Tl.setTop (mkF m 12 #[.val (.ref b), .val (.int (Int32.ofNat (o + i))), .val (.ref d), .val (.int (Int32.ofNat (q + i))), .val (.int (Int32.ofNat len)), .val (.int (Int32.ofNat i)), z] [.int (Int32.ofNat (o + i)), .ref b])) := cl.trans (by
        refine XS.iload Xl.here hexec rfl (hb hbytes d3) rfl ?_
        refine XS.iload Xl.here hexec rfl (hb hbytes d5) rfl ?_
        refine XS.icmpNo Xl.here hexec rfl (hb hbytes d7) rfl (ii_ge_f (lt32 (by omega) (by omega))) ?_
        refine XS.aloadN Xl.here hexec rfl (hb hbytes d10) rfl rfl ?_
        refine XS.iloadN Xl.here hexec rfl (hb hbytes d11) rfl ?_
        exact Steps.refl _)
      have c4 : Steps p.tables e below (s₁.setTop (entryFrame m #[.ref b, .int (Int32.ofNat o), .ref d, .int (Int32.ofNat q), .int (Int32.ofNat len)] 7)) (Tl.setTop (mkF m 13 #[.val (.ref b), .val (.int (Int32.ofNat (o + i))), .val (.ref d), .val (.int (Int32.ofNat (q + i))), .val (.int (Int32.ofNat len)), .val (.int (Int32.ofNat i)), z] [.int (cv A (o + i))])) := c3.trans (by
        refine Xl.aget hexec hAl rfl (hA.get (i := o + i) (by omega)) rfl rfl (hb hbytes d12) ?_
        exact Steps.refl _)
      have c5 : Steps p.tables e below (s₁.setTop (entryFrame m #[.ref b, .int (Int32.ofNat o), .ref d, .int (Int32.ofNat q), .int (Int32.ofNat len)] 7)) (Tl.setTop (mkF m 15 #[.val (.ref b), .val (.int (Int32.ofNat (o + i))), .val (.ref d), .val (.int (Int32.ofNat (q + i))), .val (.int (Int32.ofNat len)), .val (.int (Int32.ofNat i)), .val (.int (cv A (o + i)))] [])) := c4.trans (by
        refine XS.istoreS Xl.here hexec rfl (hb hbytes d13) rfl rfl hz ?_
        exact Steps.refl _)
      have c6 : Steps p.tables e below (s₁.setTop (entryFrame m #[.ref b, .int (Int32.ofNat o), .ref d, .int (Int32.ofNat q), .int (Int32.ofNat len)] 7)) (Tl.setTop (mkF m 31 #[.val (.ref b), .val (.int (Int32.ofNat (o + i))), .val (.ref d), .val (.int (Int32.ofNat (q + i))), .val (.int (Int32.ofNat len)), .val (.int (Int32.ofNat i)), .val (.int (cv A (o + i)))] [.int (lo8 (cv A (o + i))), .int (Int32.ofNat (q + i)), .ref d])) := c5.trans (by
        refine XS.iload Xl.here hexec rfl (hb hbytes d15) rfl ?_
        refine sipushV Xl.here hexec rfl 255 (hb hbytes d17) (by decide) ?_
        refine XS.icmpYes Xl.here hexec rfl (pc0 := 20) rfl (hb hbytes d20) rfl (ii_le_t (hp i (by omega))) (by decide) rfl ?_
        refine XS.aloadN Xl.here hexec rfl (hb hbytes d26) rfl rfl ?_
        refine XS.iloadN Xl.here hexec rfl (hb hbytes d27) rfl ?_
        refine XS.iload Xl.here hexec rfl (hb hbytes d28) rfl ?_
        refine i2b Xl.here hexec rfl (hb hbytes d30) rfl ?_
        exact Steps.refl _)
      obtain ⟨T7, X7, p7, st7⟩ := Xl.aput hexec hBk rfl hlt rfl (fits_lo8 (cv A (o + i))) (g := (mkF m 31 #[.val (.ref b), .val (.int (Int32.ofNat (o + i))), .val (.ref d), .val (.int (Int32.ofNat (q + i))), .val (.int (Int32.ofNat len)), .val (.int (Int32.ofNat i)), .val (.int (cv A (o + i)))] [.int (lo8 (cv A (o + i))), .int (Int32.ofNat (q + i)), .ref d])) rfl (rest := []) rfl (hb hbytes d31)
      have c8 : Steps p.tables e below (s₁.setTop (entryFrame m #[.ref b, .int (Int32.ofNat o), .ref d, .int (Int32.ofNat q), .int (Int32.ofNat len)] 7)) (T7.setTop (mkF m 32 #[.val (.ref b), .val (.int (Int32.ofNat (o + i))), .val (.ref d), .val (.int (Int32.ofNat (q + i))), .val (.int (Int32.ofNat len)), .val (.int (Int32.ofNat i)), .val (.int (cv A (o + i)))] [])) := c6.trans (st7 _ (Steps.refl _))
      have c9 : Steps p.tables e below (s₁.setTop (entryFrame m #[.ref b, .int (Int32.ofNat o), .ref d, .int (Int32.ofNat q), .int (Int32.ofNat len)] 7)) (T7.setTop (mkF m 3 #[.val (.ref b), .val (.int (Int32.ofNat (o + i) + 1)), .val (.ref d), .val (.int (Int32.ofNat (q + i) + 1)), .val (.int (Int32.ofNat len)), .val (.int (Int32.ofNat i + 1)), .val (.int (cv A (o + i)))] [])) := c8.trans (by
        refine iincV X7.here hexec rfl 1 (hb hbytes d32) (by decide) rfl rfl ?_
        refine iincV X7.here hexec rfl 1 (hb hbytes d35) (by decide) rfl rfl ?_
        refine iincV X7.here hexec rfl 1 (hb hbytes d38) (by decide) rfl rfl ?_
        refine XS.goto X7.here hexec rfl (pc0 := 41) rfl (hb hbytes d41) (by decide) rfl ?_
        exact Steps.refl _)
      have c10 : Steps p.tables e below (s₁.setTop (entryFrame m #[.ref b, .int (Int32.ofNat o), .ref d, .int (Int32.ofNat q), .int (Int32.ofNat len)] 7)) (T7.setTop (mkF m 3 #[.val (.ref b), .val (.int (Int32.ofNat (o + (i + 1)))), .val (.ref d), .val (.int (Int32.ofNat (q + (i + 1)))), .val (.int (Int32.ofNat len)), .val (.int (Int32.ofNat (i + 1))), .val (.int (cv A (o + i)))] [])) := by
        have := c9
        rw [succ32, succ32, succ32] at this
        exact this
      exact ih (i + 1) (by omega) _ (Or.inr ⟨_, rfl, rfl⟩) T7 _ (by rw [copyLocs_step, ← List.append_assoc]; exact X7) (pl.trans p7) (fl.step (by omega) hlt (by simp)) c10
  obtain ⟨T9, B9, z9, X9, p9, f9, g9⟩ := loop len 0 (by omega) .unset (Or.inl rfl) s₁ B (by simpa [copyLocs] using X0) ⟨hB0.1, fun _ _ => rfl, rfl⟩ (Laid.zero _ _ _) c2
  have c11 : Steps p.tables e below (s₁.setTop (entryFrame m #[.ref b, .int (Int32.ofNat o), .ref d, .int (Int32.ofNat q), .int (Int32.ofNat len)] 7)) (T9.setTop (mkF m 46 #[.val (.ref b), .val (.int (Int32.ofNat (o + len))), .val (.ref d), .val (.int (Int32.ofNat (q + len))), .val (.int (Int32.ofNat len)), .val (.int (Int32.ofNat len)), z9] [.int (Int32.ofNat len)])) := g9.trans (by
    refine XS.iload X9.here hexec rfl (hb hbytes d3) rfl ?_
    refine XS.iload X9.here hexec rfl (hb hbytes d5) rfl ?_
    refine XS.icmpYes X9.here hexec rfl (pc0 := 7) rfl (hb hbytes d7) rfl (ii_ge_t (nlt32 (by omega) (Nat.le_refl _))) (by decide) rfl ?_
    refine XS.iload X9.here hexec rfl (hb hbytes d44) rfl ?_
    exact Steps.refl _)
  exact ⟨T9, some (.int (Int32.ofNat len)), _, _, _, X9, by simp, rfl, rfl, (fun h => by cases h), ⟨rfl, B9, p9.from hh0, f9⟩, fun fs hl => c11.trans (X9.ireturnOut hexec hret rfl (Or.inl rfl) (hb hbytes d46) hl)⟩
end Cmp5
namespace Cmp3
def yN : MethodName := ⟨"java/lang/StringUTF16", "compress", "([CII)[B"⟩
abbrev yB : ByteArray := jdk_52_method_16_code
theorem d0 : decode yB 0 = .ok (.iload_n 2, 1) := by decide +kernel
theorem d1 : decode yB 1 = .ok (.newarray .byte, 2) := by decide +kernel
theorem d3 : decode yB 3 = .ok (.astore_n 3, 1) := by decide +kernel
theorem d4 : decode yB 4 = .ok (.aload_n 0, 1) := by decide +kernel
theorem d5 : decode yB 5 = .ok (.iload_n 1, 1) := by decide +kernel
theorem d6 : decode yB 6 = .ok (.aload_n 3, 1) := by decide +kernel
theorem d7 : decode yB 7 = .ok (.iconst 0, 1) := by decide +kernel
theorem d8 : decode yB 8 = .ok (.iload_n 2, 1) := by decide +kernel
theorem d9 : decode yB 9 = .ok (.invokestatic 115, 3) := by decide +kernel
theorem d12 : decode yB 12 = .ok (.istore 4, 2) := by decide +kernel
theorem d14 : decode yB 14 = .ok (.iload 4, 2) := by decide +kernel
theorem d16 : decode yB 16 = .ok (.iload_n 2, 1) := by decide +kernel
theorem d17 : decode yB 17 = .ok (.if_icmp (.eq) 40, 3) := by decide +kernel
theorem d57 : decode yB 57 = .ok (.aload_n 3, 1) := by decide +kernel
theorem d58 : decode yB 58 = .ok (.areturn, 1) := by decide +kernel
def site : List Cond := [.arrayClass .byte, Cmp5.tab] ++ staticW U16 115 Cmp5.yN
def tab : Cond := tabOf yN yB 6 (some (.array .byte)) site
def P (b : Addr) (A : Cell) (o len : Nat) (args : Array Value) (s : State) : Prop := args = #[.ref b, .int (Int32.ofNat o), .int (Int32.ofNat len)] ∧ Ch b A s ∧ o + len ≤ A.slots.size ∧ len ≤ 536870912 ∧ ∀ i, i < len → ¬ 255 < cv A (o + i)
def E (b : Addr) (A : Cell) (o len : Nat) (r : Option Value) (s u : State) : Prop := NewArr .byte "[B" len (fun j => .int (lo8 (cv A (o + j)))) r s u ∧ u.heap.size = s.heap.size + 1
/-- no char of the range above 255: a new byte[] of their low bytes -/
theorem law (l : Launch) (b : Addr) (A : Cell) (o len : Nat) : Law l yN 3 3 1 18 yB 6 (some (.array .byte)) site (P b A o len) (E b A o len) [] 1 len := by
  refine Law.of_walk (plainFor_of_name (by decide +kernel)) (by decide +kernel) (by decide +kernel) (by decide) (fun _ _ h => by rw [h.1]; rfl) (fun _ U U' hal hh h => ⟨h.1, h.2.1.mv hal hh, h.2.2⟩) (fun r U U' V V' h1 hal h2 h => ⟨NewArr.mv r U U' V V' h1 hal h2 h.1, by rw [h1, h2]; exact h.2⟩) ?_
  intro p e s m args below meth c s₁ X0 hexec hbytes hml hret hlk hnm hown hh0 W hP
  obtain ⟨rfl, hA, l1, l2, hp⟩ := hP
  have a31 := hA.1.2.2.2
  have c1 : Steps p.tables e below (s₁.setTop (entryFrame m #[.ref b, .int (Int32.ofNat o), .int (Int32.ofNat len)] 6)) (s₁.setTop (mkF m 0 #[.val (.ref b), .val (.int (Int32.ofNat o)), .val (.int (Int32.ofNat len)), .unset, .unset, .unset] [])) := entry rfl
  have c2 : Steps p.tables e below (s₁.setTop (entryFrame m #[.ref b, .int (Int32.ofNat o), .int (Int32.ofNat len)] 6)) (s₁.setTop (mkF m 1 #[.val (.ref b), .val (.int (Int32.ofNat o)), .val (.int (Int32.ofNat len)), .unset, .unset, .unset] [.int (Int32.ofNat len)])) := c1.trans (by
    refine XS.iloadN X0.here hexec rfl (hb hbytes d0) rfl ?_
    exact Steps.refl _)
  obtain ⟨T3, B3, X3, ba3, bs3, bv3, bh3, bf3, st3⟩ := X0.anew hexec (atype := .byte) (wk W (.arrayClass .byte)) rfl (by show len * 1 ≤ _; omega) (by omega) (g := (mkF m 1 #[.val (.ref b), .val (.int (Int32.ofNat o)), .val (.int (Int32.ofNat len)), .unset, .unset, .unset] [.int (Int32.ofNat len)])) rfl (hb hbytes d1) (rest := []) rfl (Nat.le_refl _) (by show 0 + len ≤ len; omega)
  rw [hh0] at ba3 st3
  have kp3 : XT.Kept s T3 := (XT.Kept.of_eq hh0).push bh3
  have hA3 := hA.keep X3.warmed.alike (kp3 _ _ hA.1.1)
  have hne : b ≠ s.heap.size := hA.1.ne
  have c4 : Steps p.tables e below (s₁.setTop (entryFrame m #[.ref b, .int (Int32.ofNat o), .int (Int32.ofNat len)] 6)) (T3.setTop (mkF m 3 #[.val (.ref b), .val (.int (Int32.ofNat o)), .val (.int (Int32.ofNat len)), .unset, .unset, .unset] [.ref s.heap.size])) := c2.trans (st3 _ (Steps.refl _))
  have c5 : Steps p.tables e below (s₁.setTop (entryFrame m #[.ref b, .int (Int32.ofNat o), .int (Int32.ofNat len)] 6)) (T3.setTop (mkF m 9 #[.val (.ref b), .val (.int (Int32.ofNat o)), .val (.int (Int32.ofNat len)), .val (.ref s.heap.size), .unset, .unset] [.int (Int32.ofNat len), .int 0, .ref s.heap.size, .int (Int32.ofNat o), .ref b])) := c4.trans (by
    refine XS.astoreN X3.here hexec rfl (hb hbytes d3) rfl rfl rfl ?_
    refine XS.aloadN X3.here hexec rfl (hb hbytes d4) rfl rfl ?_
    refine XS.iloadN X3.here hexec rfl (hb hbytes d5) rfl ?_
    refine XS.aloadN X3.here hexec rfl (hb hbytes d6) rfl rfl ?_
    refine iconstV X3.here hexec rfl 0 (hb hbytes d7) (by decide) ?_
    refine XS.iloadN X3.here hexec rfl (hb hbytes d8) rfl ?_
    exact Steps.refl _)
  obtain ⟨v6, T6, X6, E6, g6⟩ := X3.callS hexec (Cmp5.law l b A s.heap.size B3 o 0 len) hown (wks W (staticW U16 115 Cmp5.yN)) (wk W Cmp5.tab) (W := 0) (Nat.le_of_ble_eq_true rfl) (Nat.le_of_ble_eq_true rfl) (Nat.le_refl _) (by show 0 + len + 0 ≤ len; omega) (g := (mkF m 9 #[.val (.ref b), .val (.int (Int32.ofNat o)), .val (.int (Int32.ofNat len)), .val (.ref s.heap.size), .unset, .unset] [.int (Int32.ofNat len), .int (Int32.ofNat 0), .ref s.heap.size, .int (Int32.ofNat o), .ref b])) rfl (by rw [hml]; rfl) c5 (argsL := [.ref b, .int (Int32.ofNat o), .ref s.heap.size, .int (Int32.ofNat 0), .int (Int32.ofNat len)]) (rest := []) rfl rfl (by show 2 * 0 + 0 ≤ _; decide) (hb hbytes d9) (⟨rfl, hA3, ba3, hne, l1, by rw [bs3]; simp, hp⟩)
  obtain ⟨rfl, B6, p6, f6⟩ := E6
  have c7 : Steps p.tables e below (s₁.setTop (entryFrame m #[.ref b, .int (Int32.ofNat o), .int (Int32.ofNat len)] 6)) (T6.setTop (mkF m 12 #[.val (.ref b), .val (.int (Int32.ofNat o)), .val (.int (Int32.ofNat len)), .val (.ref s.heap.size), .unset, .unset] [.int (Int32.ofNat len)])) := g6
  have c8 : Steps p.tables e below (s₁.setTop (entryFrame m #[.ref b, .int (Int32.ofNat o), .int (Int32.ofNat len)] 6)) (T6.setTop (mkF m 58 #[.val (.ref b), .val (.int (Int32.ofNat o)), .val (.int (Int32.ofNat len)), .val (.ref s.heap.size), .val (.int (Int32.ofNat len)), .unset] [.ref s.heap.size])) := c7.trans (by
    refine XS.istore X6.here hexec rfl (hb hbytes d12) rfl rfl ?_
    refine XS.iload X6.here hexec rfl (hb hbytes d14) rfl ?_
    refine XS.iloadN X6.here hexec rfl (hb hbytes d16) rfl ?_
    refine XS.icmpYes X6.here hexec rfl (pc0 := 17) rfl (hb hbytes d17) rfl (ii_eq_t rfl) (by decide) rfl ?_
    refine XS.aloadN X6.here hexec rfl (hb hbytes d57) rfl rfl ?_
    exact Steps.refl _)
  have X8 := X6.wide (L' := []) (cells' := 1) (slots' := len) (fun x hx hlt => by
    simp only [List.nil_append, copyLocs, List.mem_map, List.mem_range] at hx
    obtain ⟨i, -, rfl⟩ := hx
    exact absurd hlt (Nat.lt_irrefl _)) (Nat.le_refl _) (by omega)
  exact ⟨T6, some (.ref s.heap.size), _, _, _, X8, rfl, rfl, rfl, (fun h => by cases h), ⟨⟨rfl, B6, ba3.like (X3.warmed.alike.symm.trans X6.warmed.alike) p6.1 f6.1 f6.2.1 f6.2.2.1, f6.2.1.trans bv3, by rw [X6.warmed.alike.findClass, f6.1]; exact bf3, by rw [f6.2.2.1, bs3]; simp, fun j hj => by rw [f6.2.2.2 j, if_pos (by omega)]; rfl, kp3.put p6 (Nat.le_refl _)⟩, by rw [p6.2.2, bh3, hh0]; simp⟩, fun fs hl => c8.trans (X8.areturnOut hexec rfl hret rfl (hb hbytes d58) hl)⟩
end Cmp3
namespace CodL
def yN : MethodName := ⟨"java/lang/StringUTF16", "coderFromArrayLen", "([BI)B"⟩
abbrev yB : ByteArray := jdk_52_method_15_code
theorem d0 : decode yB 0 = .ok (.iload_n 1, 1) := by decide +kernel
theorem d1 : decode yB 1 = .ok (.aload_n 0, 1) := by decide +kernel
theorem d2 : decode yB 2 = .ok (.arraylength, 1) := by decide +kernel
theorem d3 : decode yB 3 = .ok (.isub, 1) := by decide +kernel
theorem d4 : decode yB 4 = .ok (.bipush 31, 2) := by decide +kernel
theorem d6 : decode yB 6 = .ok (.iushr, 1) := by decide +kernel
theorem d7 : decode yB 7 = .ok (.i2b, 1) := by decide +kernel
theorem d8 : decode yB 8 = .ok (.ireturn, 1) := by decide +kernel
def site : List Cond := []
def tab : Cond := tabOf yN yB 2 (some .byte) site
def P (d : Addr) (B : Cell) (args : Array Value) (s : State) : Prop := args = #[.ref d, .int (Int32.ofNat B.slots.size)] ∧ Arr .byte d B s
def E (r : Option Value) (s u : State) : Prop := XT.PureE (some (.int 0)) r s u
/-- an array as long as the number of chars: LATIN1 -/
theorem law (l : Launch) (d : Addr) (B : Cell) : Law l yN 2 2 0 0 yB 2 (some .byte) site (P d B) E [] 0 0 := by
  refine Law.of_walk (plainFor_of_name (by decide +kernel)) (by decide +kernel) (by decide +kernel) (by decide) (fun _ _ h => by rw [h.1]; rfl) (fun _ U U' hal hh h => ⟨h.1, h.2.mv hal hh⟩) (fun r U U' V V' h1 hal h2 h => XT.PureE.mv r U U' V V' h1 hal h2 h) ?_
  intro p e s m args below meth c s₁ X0 hexec hbytes hml hret hlk hnm hown hh0 W hP
  obtain ⟨rfl, hB⟩ := hP
  have hB0 := hB.mv X0.warmed.alike hh0
  have c1 : Steps p.tables e below (s₁.setTop (entryFrame m #[.ref d, .int (Int32.ofNat B.slots.size)] 2)) (s₁.setTop (mkF m 0 #[.val (.ref d), .val (.int (Int32.ofNat B.slots.size))] [])) := entry rfl
  have c2 : Steps p.tables e below (s₁.setTop (entryFrame m #[.ref d, .int (Int32.ofNat B.slots.size)] 2)) (s₁.setTop (mkF m 2 #[.val (.ref d), .val (.int (Int32.ofNat B.slots.size))] [.ref d, .int (Int32.ofNat B.slots.size)])) := c1.trans (by
    refine XS.iloadN X0.here hexec rfl (hb hbytes d0) rfl ?_
    refine XS.aloadN X0.here hexec rfl (hb hbytes d1) rfl rfl ?_
    exact Steps.refl _)
  have c3 : Steps p.tables e below (s₁.setTop (entryFrame m #[.ref d, .int (Int32.ofNat B.slots.size)] 2)) (s₁.setTop (mkF m 8 #[.val (.ref d), .val (.int (Int32.ofNat B.slots.size))] [.int (lo8 (ushr (Int32.ofNat B.slots.size - Int32.ofNat B.slots.size) 31))])) := c2.trans (by
    refine X0.alen hexec hB0 rfl rfl (hb hbytes d2) ?_
    refine XS.isub X0.here hexec rfl (hb hbytes d3) rfl ?_
    refine bipushV X0.here hexec rfl 31 (hb hbytes d4) (by decide) ?_
    refine iushr X0.here hexec rfl (hb hbytes d6) rfl ?_
    refine i2b X0.here hexec rfl (hb hbytes d7) rfl ?_
    exact Steps.refl _)
  have e0 : lo8 (ushr (Int32.ofNat B.slots.size - Int32.ofNat B.slots.size) 31) = 0 := by rw [Int32.sub_self]; decide
  rw [e0] at c3
  exact ⟨s₁, some (.int 0), _, _, _, X0, rfl, rfl, rfl, (fun h => by cases h), ⟨rfl, hh0⟩, fun fs hl => c3.trans (X0.ireturnOut hexec hret rfl (Or.inr (Or.inr (Or.inl rfl))) (hb hbytes d8) hl)⟩
end CodL
/-- the String at a is Latin-1 over a new byte[] (the heap's one new cell): the low bytes of the len chars of A from o on; every cell but a is kept -/
def Got (a : Addr) (D : Cell) (fV fC : Field) (A : Cell) (o len : Nat) (r : Option Value) (s u : State) : Prop := r = none ∧ ∃ D' V : Cell, Blank "java/lang/String" a D' u ∧ Same D D' [fV.slot, fC.slot] ∧ D'.slots[fV.slot]? = some (.ref s.heap.size) ∧ D'.slots[fC.slot]? = some (.int 0) ∧ Arr .byte s.heap.size V u ∧ V.vm = .none ∧ u.vm.findClass "[B" = some V.cls ∧ V.slots.size = len ∧ (∀ j, j < len → V.slots[j]? = some (.int (lo8 (cv A (o + j))))) ∧ (∀ (y : Addr) (c : Cell), y ≠ a → s.heap[y]? = some c → u.heap[y]? = some c) ∧ u.heap.size = s.heap.size + 1
theorem Got.mv {a : Addr} {D A : Cell} {fV fC : Field} {o len : Nat} : ∀ r (U U' V V' : State), U'.heap = U.heap → V.vm.Alike V'.vm → V'.heap = V.heap → Got a D fV fC A o len r U V → Got a D fV fC A o len r U' V' :=
  fun r U U' V V' h1 hal h2 ⟨e0, D', X, a1, a2, a3, a4, a5, a6, a7, a8, a9, a10, a11⟩ => ⟨e0, D', X, a1.mv hal h2, a2, by rw [h1]; exact a3, a4, by rw [h1]; exact a5.mv hal h2, a6, by rw [hal.findClass]; exact a7, a8, a9, by rw [h1, h2]; exact a10, by rw [h1, h2]; exact a11⟩
namespace New4
def yN : MethodName := ⟨"java/lang/String", "<init>", "([CIILjava/lang/Void;)V"⟩
abbrev yB : ByteArray := jdk_42_method_149_code
theorem d0 : decode yB 0 = .ok (.aload_n 0, 1) := by decide +kernel
theorem d1 : decode yB 1 = .ok (.invokespecial 1, 3) := by decide +kernel
theorem d4 : decode yB 4 = .ok (.iload_n 3, 1) := by decide +kernel
theorem d5 : decode yB 5 = .ok (.ifCond (.ne) 22, 3) := by decide +kernel
theorem d27 : decode yB 27 = .ok (.getstatic 38, 3) := by decide +kernel
theorem d30 : decode yB 30 = .ok (.ifCond (.eq) 28, 3) := by decide +kernel
theorem d33 : decode yB 33 = .ok (.aload_n 1, 1) := by decide +kernel
theorem d34 : decode yB 34 = .ok (.iload_n 2, 1) := by decide +kernel
theorem d35 : decode yB 35 = .ok (.iload_n 3, 1) := by decide +kernel
theorem d36 : decode yB 36 = .ok (.invokestatic 177, 3) := by decide +kernel
theorem d39 : decode yB 39 = .ok (.astore 5, 2) := by decide +kernel
theorem d41 : decode yB 41 = .ok (.aload_n 0, 1) := by decide +kernel
theorem d42 : decode yB 42 = .ok (.aload 5, 2) := by decide +kernel
theorem d44 : decode yB 44 = .ok (.iload_n 3, 1) := by decide +kernel
theorem d45 : decode yB 45 = .ok (.invokestatic 47, 3) := by decide +kernel
theorem d48 : decode yB 48 = .ok (.putfield 15, 3) := by decide +kernel
theorem d51 : decode yB 51 = .ok (.aload_n 0, 1) := by decide +kernel
theorem d52 : decode yB 52 = .ok (.aload 5, 2) := by decide +kernel
theorem d54 : decode yB 54 = .ok (.putfield 9, 3) := by decide +kernel
theorem d57 : decode yB 57 = .ok (.return_, 1) := by decide +kernel
def site : List Cond := [.fieldLink "java/lang/String" 38 "java/lang/String" "COMPACT_STRINGS" "Z", Cmp3.tab, CodL.tab, .laysFinal "java/lang/String" "java/lang/String" "value" "[B", .fieldLink "java/lang/String" 9 "java/lang/String" "value" "[B", .laysFinal "java/lang/String" "java/lang/String" "coder" "B", .fieldLink "java/lang/String" 15 "java/lang/String" "coder" "B"] ++ objW "java/lang/String" 1 ++ staticW "java/lang/String" 177 Cmp3.yN ++ staticW "java/lang/String" 47 CodL.yN
def tab : Cond := tabOf yN yB 6 none site
def P (a : Addr) (D : Cell) (fV fC : Field) (b : Addr) (A : Cell) (z : Int32) (o len : Nat) (args : Array Value) (s : State) : Prop := args = #[.ref a, .ref b, .int (Int32.ofNat o), .int (Int32.ofNat len), .null] ∧ Blank "java/lang/String" a D s ∧ Found "java/lang/String" "value" "[B" fV s ∧ Found "java/lang/String" "coder" "B" fC s ∧ Ch b A s ∧ StaticIs s "java/lang/String" "COMPACT_STRINGS" "Z" (.int z) ∧ ¬ z = 0 ∧ 0 < len ∧ o + len ≤ A.slots.size ∧ len ≤ 536870912 ∧ ∀ i, i < len → ¬ 255 < cv A (o + i)
def E (a : Addr) (D : Cell) (fV fC : Field) (A : Cell) (o len : Nat) (r : Option Value) (s u : State) : Prop := Got a D fV fC A o len r s u
/-- len > 0, no char of the range above 255: a Latin-1 String of their low bytes -/
theorem law (l : Launch) (a : Addr) (D : Cell) (fV fC : Field) (b : Addr) (A : Cell) (z : Int32) (o len : Nat) : Law l yN 5 4 2 35 yB 6 none site (P a D fV fC b A z o len) (E a D fV fC A o len) [⟨a, fC.slot⟩, ⟨a, fV.slot⟩] 1 len := by
  refine Law.of_walk (plainFor_of_name (by decide +kernel)) (by decide +kernel) (by decide +kernel) (by decide) (fun _ _ h => by rw [h.1]; rfl) (fun _ U U' hal hh h => ⟨h.1, h.2.1.mv hal hh, h.2.2.1.al hal, h.2.2.2.1.al hal, h.2.2.2.2.1.mv hal hh, h.2.2.2.2.2.1.there hal hh, h.2.2.2.2.2.2⟩) (fun r U U' V V' h1 hal h2 h => Got.mv r U U' V V' h1 hal h2 h) ?_
  intro p e s m args below meth c s₁ X0 hexec hbytes hml hret hlk hnm hown hh0 W hP
  obtain ⟨rfl, hB, f1, f2, hA, s1, hz, l0, l1, l2, hp⟩ := hP
  have a31 := hA.1.2.2.2
  have c1 : Steps p.tables e below (s₁.setTop (entryFrame m #[.ref a, .ref b, .int (Int32.ofNat o), .int (Int32.ofNat len), .null] 6)) (s₁.setTop (mkF m 0 #[.val (.ref a), .val (.ref b), .val (.int (Int32.ofNat o)), .val (.int (Int32.ofNat len)), .val .null, .unset] [])) := entry rfl
  have c2 : Steps p.tables e below (s₁.setTop (entryFrame m #[.ref a, .ref b, .int (Int32.ofNat o), .int (Int32.ofNat len), .null] 6)) (s₁.setTop (mkF m 1 #[.val (.ref a), .val (.ref b), .val (.int (Int32.ofNat o)), .val (.int (Int32.ofNat len)), .val .null, .unset] [.ref a])) := c1.trans (by
    refine XS.aloadN X0.here hexec rfl (hb hbytes d0) rfl rfl ?_
    exact Steps.refl _)
  obtain ⟨T3, X3, q3, st3⟩ := X0.oinit hexec hown (wks W (objW "java/lang/String" 1)) (g := (mkF m 1 #[.val (.ref a), .val (.ref b), .val (.int (Int32.ofNat o)), .val (.int (Int32.ofNat len)), .val .null, .unset] [.ref a])) rfl (by rw [hml]; rfl) (rest := []) rfl (hb hbytes d1) (W := 0) (by show 2 * 0 + 0 ≤ _; decide) (Nat.le_of_ble_eq_true rfl) (Nat.le_of_ble_eq_true rfl)
  have hh3 := q3.trans hh0
  have c4 : Steps p.tables e below (s₁.setTop (entryFrame m #[.ref a, .ref b, .int (Int32.ofNat o), .int (Int32.ofNat len), .null] 6)) (T3.setTop (mkF m 27 #[.val (.ref a), .val (.ref b), .val (.int (Int32.ofNat o)), .val (.int (Int32.ofNat len)), .val .null, .unset] [])) := (c2.trans (st3 _ (Steps.refl _))).trans (by
    refine XS.iloadN X3.here hexec rfl (hb hbytes d4) rfl ?_
    refine XS.ifYes X3.here hexec rfl (pc0 := 5) rfl (hb hbytes d5) rfl (i0_ne_t (nz32 (by omega) l0)) (by decide) rfl ?_
    exact Steps.refl _)
  obtain ⟨T5, X5, q5, st5⟩ := X3.sget hexec hown (wk W (.fieldLink "java/lang/String" 38 "java/lang/String" "COMPACT_STRINGS" "Z")) s1 (fun _ _ h => by rw [hh3]; exact h) (g := (mkF m 27 #[.val (.ref a), .val (.ref b), .val (.int (Int32.ofNat o)), .val (.int (Int32.ofNat len)), .val .null, .unset] [])) rfl (hb hbytes d27)
  have hh5 := q5.trans hh3
  have c6 : Steps p.tables e below (s₁.setTop (entryFrame m #[.ref a, .ref b, .int (Int32.ofNat o), .int (Int32.ofNat len), .null] 6)) (T5.setTop (mkF m 30 #[.val (.ref a), .val (.ref b), .val (.int (Int32.ofNat o)), .val (.int (Int32.ofNat len)), .val .null, .unset] [.int z])) := c4.trans (st5 _ (Steps.refl _))
  have c7 : Steps p.tables e below (s₁.setTop (entryFrame m #[.ref a, .ref b, .int (Int32.ofNat o), .int (Int32.ofNat len), .null] 6)) (T5.setTop (mkF m 36 #[.val (.ref a), .val (.ref b), .val (.int (Int32.ofNat o)), .val (.int (Int32.ofNat len)), .val .null, .unset] [.int (Int32.ofNat len), .int (Int32.ofNat o), .ref b])) := c6.trans (by
    refine XS.ifNo X5.here hexec rfl (hb hbytes d30) rfl (i0_eq_f hz) ?_
    refine XS.aloadN X5.here hexec rfl (hb hbytes d33) rfl rfl ?_
    refine XS.iloadN X5.here hexec rfl (hb hbytes d34) rfl ?_
    refine XS.iloadN X5.here hexec rfl (hb hbytes d35) rfl ?_
    exact Steps.refl _)
  obtain ⟨v8, T8, X8, E8, g8⟩ := X5.callS hexec (Cmp3.law l b A o len) hown (wks W (staticW "java/lang/String" 177 Cmp3.yN)) (wk W Cmp3.tab) (W := 0) (Nat.le_of_ble_eq_true rfl) (Nat.le_of_ble_eq_true rfl) (Nat.le_refl _) (by show 0 + len ≤ len; omega) (g := (mkF m 36 #[.val (.ref a), .val (.ref b), .val (.int (Int32.ofNat o)), .val (.int (Int32.ofNat len)), .val .null, .unset] [.int (Int32.ofNat len), .int (Int32.ofNat o), .ref b])) rfl (by rw [hml]; rfl) c7 (argsL := [.ref b, .int (Int32.ofNat o), .int (Int32.ofNat len)]) (rest := []) rfl rfl (by show 2 * 0 + 0 ≤ _; decide) (hb hbytes d36) (⟨rfl, hA.mv X5.warmed.alike hh5, l1, l2, hp⟩)
  obtain ⟨e8, z8⟩ := E8
  obtain ⟨rfl, N, n1, n2, n3, n4, n5, n6⟩ := NewArr.mv _ T5 s _ _ hh5.symm (Vm.Alike.refl _) rfl e8
  rw [hh5] at z8
  have hB1 := hB.keep X8.warmed.alike (n6 _ _ hB.1)
  have hne : s.heap.size ≠ a := (Nat.ne_of_lt (Array.getElem?_eq_some_iff.mp hB.1).1).symm
  have c9 : Steps p.tables e below (s₁.setTop (entryFrame m #[.ref a, .ref b, .int (Int32.ofNat o), .int (Int32.ofNat len), .null] 6)) (T8.setTop (mkF m 39 #[.val (.ref a), .val (.ref b), .val (.int (Int32.ofNat o)), .val (.int (Int32.ofNat len)), .val .null, .unset] [.ref s.heap.size])) := g8
  have c10 : Steps p.tables e below (s₁.setTop (entryFrame m #[.ref a, .ref b, .int (Int32.ofNat o), .int (Int32.ofNat len), .null] 6)) (T8.setTop (mkF m 45 #[.val (.ref a), .val (.ref b), .val (.int (Int32.ofNat o)), .val (.int (Int32.ofNat len)), .val .null, .val (.ref s.heap.size)] [.int (Int32.ofNat N.slots.size), .ref s.heap.size, .ref a])) := by
    have hc : Steps p.tables e below (s₁.setTop (entryFrame m #[.ref a, .ref b, .int (Int32.ofNat o), .int (Int32.ofNat len), .null] 6)) (T8.setTop (mkF m 45 #[.val (.ref a), .val (.ref b), .val (.int (Int32.ofNat o)), .val (.int (Int32.ofNat len)), .val .null, .val (.ref s.heap.size)] [.int (Int32.ofNat len), .ref s.heap.size, .ref a])) := c9.trans (by
      refine XS.astore X8.here hexec rfl (hb hbytes d39) rfl rfl rfl ?_
      refine XS.aloadN X8.here hexec rfl (hb hbytes d41) rfl rfl ?_
      refine XS.aload X8.here hexec rfl (hb hbytes d42) rfl rfl ?_
      refine XS.iloadN X8.here hexec rfl (hb hbytes d44) rfl ?_
      exact Steps.refl _)
    rw [n4]; exact hc
  obtain ⟨v11, T11, X11, E11, g11⟩ := X8.callS hexec (CodL.law l s.heap.size N) hown (wks W (staticW "java/lang/String" 47 CodL.yN)) (wk W CodL.tab) (W := 1) (Nat.le_of_ble_eq_true rfl) (Nat.le_of_ble_eq_true rfl) (Nat.le_refl _) (by show 0 + len + 0 ≤ len; omega) (g := (mkF m 45 #[.val (.ref a), .val (.ref b), .val (.int (Int32.ofNat o)), .val (.int (Int32.ofNat len)), .val .null, .val (.ref s.heap.size)] [.int (Int32.ofNat N.slots.size), .ref s.heap.size, .ref a])) rfl (by rw [hml]; rfl) c10 (argsL := [.ref s.heap.size, .int (Int32.ofNat N.slots.size)]) (rest := [.ref a]) rfl rfl (by show 2 * 0 + (1 + 0) ≤ _; decide) (hb hbytes d45) (⟨rfl, n1⟩)
  obtain ⟨rfl, q11⟩ := E11
  have hB11 := hB1.mv (X8.warmed.alike.symm.trans X11.warmed.alike) q11
  have c12 : Steps p.tables e below (s₁.setTop (entryFrame m #[.ref a, .ref b, .int (Int32.ofNat o), .int (Int32.ofNat len), .null] 6)) (T11.setTop (mkF m 48 #[.val (.ref a), .val (.ref b), .val (.int (Int32.ofNat o)), .val (.int (Int32.ofNat len)), .val .null, .val (.ref s.heap.size)] [.int 0, .ref a])) := g11
  obtain ⟨T13, X13, p13, bl13, sl13, st13⟩ := X11.finit hexec hown (wk W (.fieldLink "java/lang/String" 15 "java/lang/String" "coder" "B")) (Or.inr ⟨_, (wk W (.laysFinal "java/lang/String" "java/lang/String" "coder" "B"))⟩) (Or.inl ⟨rfl, hnm⟩) f2 (Or.inl rfl) hB11 (t := .byte) (by decide +kernel) rfl (g := (mkF m 48 #[.val (.ref a), .val (.ref b), .val (.int (Int32.ofNat o)), .val (.int (Int32.ofNat len)), .val .null, .val (.ref s.heap.size)] [.int 0, .ref a])) rfl (rest := []) rfl (hb hbytes d48)
  have c14 : Steps p.tables e below (s₁.setTop (entryFrame m #[.ref a, .ref b, .int (Int32.ofNat o), .int (Int32.ofNat len), .null] 6)) (T13.setTop (mkF m 54 #[.val (.ref a), .val (.ref b), .val (.int (Int32.ofNat o)), .val (.int (Int32.ofNat len)), .val .null, .val (.ref s.heap.size)] [.ref s.heap.size, .ref a])) := (c12.trans (st13 _ (Steps.refl _))).trans (by
    refine XS.aloadN X13.here hexec rfl (hb hbytes d51) rfl rfl ?_
    refine XS.aload X13.here hexec rfl (hb hbytes d52) rfl rfl ?_
    exact Steps.refl _)
  obtain ⟨T15, X15, p15, bl15, sl15, st15⟩ := X13.finit hexec hown (wk W (.fieldLink "java/lang/String" 9 "java/lang/String" "value" "[B")) (Or.inr ⟨_, (wk W (.laysFinal "java/lang/String" "java/lang/String" "value" "[B"))⟩) (Or.inl ⟨rfl, hnm⟩) f1 (Or.inl rfl) bl13 (t := (.array .byte)) (by decide +kernel) rfl (g := (mkF m 54 #[.val (.ref a), .val (.ref b), .val (.int (Int32.ofNat o)), .val (.int (Int32.ofNat len)), .val .null, .val (.ref s.heap.size)] [.ref s.heap.size, .ref a])) rfl (rest := []) rfl (hb hbytes d54)
  have c16 : Steps p.tables e below (s₁.setTop (entryFrame m #[.ref a, .ref b, .int (Int32.ofNat o), .int (Int32.ofNat len), .null] 6)) (T15.setTop (mkF m 57 #[.val (.ref a), .val (.ref b), .val (.int (Int32.ofNat o)), .val (.int (Int32.ofNat len)), .val .null, .val (.ref s.heap.size)] [])) := c14.trans (st15 _ (Steps.refl _))
  have ap := apart (Or.inr ⟨_, (wk W (.laysFinal "java/lang/String" "java/lang/String" "value" "[B"))⟩) (Or.inr ⟨_, (wk W (.laysFinal "java/lang/String" "java/lang/String" "coder" "B"))⟩) f1 f2 (t₁ := .array .byte) (t₂ := .byte) (by decide +kernel) (by decide +kernel) (by decide)
  have al := X8.warmed.alike.symm.trans X15.warmed.alike
  have n7 : T11.heap[s.heap.size]? = some N := by rw [q11]; exact n1.1
  exact ⟨T15, none, _, _, _, X15, by simp, rfl, by omega, (fun _ => rfl), ⟨rfl, _, N, bl15, ((Same.refl D _).set _ (by simp)).set _ (by simp), sl15, (Cell.slots_setSlot_ne _ ap).trans sl13, n1.keep al (p15.other hne (p13.other hne n7)), n2, by rw [al.findClass]; exact n3, n4, n5, fun y c h1 h2 => p15.other h1 (p13.other h1 (by rw [q11]; exact n6 y c h2)), by rw [p15.2.2, p13.2.2, q11]; exact z8⟩, fun fs hl => c16.trans (X15.returnOut hexec hret (hb hbytes d57) hl)⟩
end New4
namespace New1
def yN : MethodName := ⟨"java/lang/String", "<init>", "([C)V"⟩
abbrev yB : ByteArray := jdk_42_method_3_code
theorem d0 : decode yB 0 = .ok (.aload_n 0, 1) := by decide +kernel
theorem d1 : decode yB 1 = .ok (.aload_n 1, 1) := by decide +kernel
theorem d2 : decode yB 2 = .ok (.iconst 0, 1) := by decide +kernel
theorem d3 : decode yB 3 = .ok (.aload_n 1, 1) := by decide +kernel
theorem d4 : decode yB 4 = .ok (.arraylength, 1) := by decide +kernel
theorem d5 : decode yB 5 = .ok (.aconst_null, 1) := by decide +kernel
theorem d6 : decode yB 6 = .ok (.invokespecial 27, 3) := by decide +kernel
theorem d9 : decode yB 9 = .ok (.return_, 1) := by decide +kernel
def site : List Cond := [New4.tab] ++ initW "java/lang/String" 27 New4.yN
def tab : Cond := tabOf yN yB 2 none site
def P (a : Addr) (D : Cell) (fV fC : Field) (b : Addr) (A : Cell) (z : Int32) (args : Array Value) (s : State) : Prop := args = #[.ref a, .ref b] ∧ Blank "java/lang/String" a D s ∧ Found "java/lang/String" "value" "[B" fV s ∧ Found "java/lang/String" "coder" "B" fC s ∧ Ch b A s ∧ StaticIs s "java/lang/String" "COMPACT_STRINGS" "Z" (.int z) ∧ ¬ z = 0 ∧ 0 < A.slots.size ∧ A.slots.size ≤ 536870912 ∧ ∀ i, i < A.slots.size → ¬ 255 < cv A i
def E (a : Addr) (D : Cell) (fV fC : Field) (A : Cell) (r : Option Value) (s u : State) : Prop := Got a D fV fC A 0 A.slots.size r s u
/-- new String(chars), not empty, no char above 255: a Latin-1 String of their low bytes -/
theorem law (l : Launch) (a : Addr) (D : Cell) (fV fC : Field) (b : Addr) (A : Cell) (z : Int32) : Law l yN 2 1 3 52 yB 2 none site (P a D fV fC b A z) (E a D fV fC A) [⟨a, fC.slot⟩, ⟨a, fV.slot⟩] 1 A.slots.size := by
  refine Law.of_walk (plainFor_of_name (by decide +kernel)) (by decide +kernel) (by decide +kernel) (by decide) (fun _ _ h => by rw [h.1]; rfl) (fun _ U U' hal hh h => ⟨h.1, h.2.1.mv hal hh, h.2.2.1.al hal, h.2.2.2.1.al hal, h.2.2.2.2.1.mv hal hh, h.2.2.2.2.2.1.there hal hh, h.2.2.2.2.2.2⟩) (fun r U U' V V' h1 hal h2 h => Got.mv r U U' V V' h1 hal h2 h) ?_
  intro p e s m args below meth c s₁ X0 hexec hbytes hml hret hlk hnm hown hh0 W hP
  obtain ⟨rfl, hB, f1, f2, hA, s1, hz, l0, l2, hp⟩ := hP
  have c1 : Steps p.tables e below (s₁.setTop (entryFrame m #[.ref a, .ref b] 2)) (s₁.setTop (mkF m 0 #[.val (.ref a), .val (.ref b)] [])) := entry rfl
  have c2 : Steps p.tables e below (s₁.setTop (entryFrame m #[.ref a, .ref b] 2)) (s₁.setTop (mkF m 6 #[.val (.ref a), .val (.ref b)] [.null, .int (Int32.ofNat A.slots.size), .int 0, .ref b, .ref a])) := c1.trans (by
    refine XS.aloadN X0.here hexec rfl (hb hbytes d0) rfl rfl ?_
    refine XS.aloadN X0.here hexec rfl (hb hbytes d1) rfl rfl ?_
    refine iconstV X0.here hexec rfl 0 (hb hbytes d2) (by decide) ?_
    refine XS.aloadN X0.here hexec rfl (hb hbytes d3) rfl rfl ?_
    refine X0.alen hexec (hA.1.mv X0.warmed.alike hh0) rfl rfl (hb hbytes d4) ?_
    refine XS.aconstNull X0.here hexec rfl (hb hbytes d5) ?_
    exact Steps.refl _)
  obtain ⟨v3, T3, X3, E3, g3⟩ := X0.callN hexec (New4.law l a D fV fC b A z 0 A.slots.size) rfl hown (wks W (initW "java/lang/String" 27 New4.yN)) (W New4.tab (by simp only [site, List.mem_cons, List.mem_append, true_or, or_true])) (W := 0) (Nat.le_of_ble_eq_true rfl) (Nat.le_of_ble_eq_true rfl) (Nat.le_refl _) (by show 0 + A.slots.size ≤ A.slots.size; omega) (g := (mkF m 6 #[.val (.ref a), .val (.ref b)] [.null, .int (Int32.ofNat A.slots.size), .int (Int32.ofNat 0), .ref b, .ref a])) rfl (by rw [hml]; rfl) c2 (argsL := [.ref b, .int (Int32.ofNat 0), .int (Int32.ofNat A.slots.size), .null]) (rest := []) rfl rfl (by show 2 * 0 + 0 ≤ _; decide) (hb hbytes d6) (⟨rfl, hB.mv X0.warmed.alike hh0, f1.al X0.warmed.alike, f2.al X0.warmed.alike, hA.mv X0.warmed.alike hh0, s1.there X0.warmed.alike hh0, hz, l0, by omega, l2, fun i hi => by rw [Nat.zero_add]; exact hp i hi⟩)
  have e0 := Got.mv _ s₁ s _ _ hh0.symm (Vm.Alike.refl _) rfl E3
  obtain rfl := e0.1
  have c4 : Steps p.tables e below (s₁.setTop (entryFrame m #[.ref a, .ref b] 2)) (T3.setTop (mkF m 9 #[.val (.ref a), .val (.ref b)] [])) := g3
  exact ⟨T3, none, _, _, _, X3, by simp, rfl, by omega, (fun _ => rfl), e0, fun fs hl => c4.trans (X3.returnOut hexec hret (hb hbytes d9) hl)⟩
theorem pays {l : Launch} {R : Room} {p : Program} {e : Env} {below : List Frame} {s : State} {sargs : Array Value} {len W : Nat} (a : Addr) (D : Cell) (fV fC : Field) (b : Addr) (A : Cell) (z : Int32) (htab : tab.before sargs s = true) (hfr : 4 ≤ R.frames) (hlo : W + 65 ≤ R.locals) :
    Back l R p e below s sargs yN len W (fun A₁ a₁ => A₁.cells + 1 ≤ R.cells ∧ A₁.slots + A.slots.size ≤ R.slots ∧ P a D fV fC b A z a₁ A₁.U) (fun A₁ _ v₁ B₁ => E a D fV fC A v₁ A₁.U B₁.U ∧ B₁.locs = A₁.locs ++ [⟨a, fC.slot⟩, ⟨a, fV.slot⟩] ∧ B₁.cells = A₁.cells + 1 ∧ B₁.slots = A₁.slots + A.slots.size) :=
  (law l a D fV fC b A z).pays htab hfr (by omega)
end New1
/-- the byte, read back as charAt reads it, is the char -/
theorem lo8_mask {x : Int32} (h0 : ¬ x < 0) (h1 : ¬ 255 < x) : lo8 x &&& 255 = x := by
  have t : ∀ k : Fin 256, lo8 (Int32.ofNat k.val) &&& 255 = Int32.ofNat k.val := by decide +kernel
  rw [Int32.lt_iff_toInt_lt] at h0 h1
  have e0 : (0 : Int32).toInt = 0 := rfl
  have e1 : (255 : Int32).toInt = 255 := rfl
  obtain ⟨k, hk⟩ : ∃ k : Nat, x.toInt = k := ⟨x.toInt.toNat, by omega⟩
  have hx : x = Int32.ofNat k := Int32.toInt_inj.mp (by rw [hk, Int32.toInt_ofNat_small (by omega)])
  rw [hx]
  exact t ⟨k, by omega⟩
end StrChars
namespace StrChars.Road
open Jvm Sem ClassFile Op Lib Jvm.Stand Jvm.Free Jvm.Free.XT
open Jvm.Lib.Cold (StaticIs)
abbrev ST : String := "java/lang/String"
/-- every table word that New1's law asks, flat -/
abbrev words : List Jvm.Cond := [.code New1.yN New1.yB 2 none, .initialized ST, .methodLink ST 27 New4.yN, .instanceMethod New4.yN,
  .code New4.yN New4.yB 6 none, .fieldLink ST 38 ST "COMPACT_STRINGS" "Z", .laysFinal ST ST "value" "[B", .fieldLink ST 9 ST "value" "[B", .laysFinal ST ST "coder" "B", .fieldLink ST 15 ST "coder" "B",
  .methodLink ST 1 Lib.objectInit, .instanceMethod Lib.objectInit, .code Lib.objectInit ⟨#[0xb1]⟩ 1 none, .methodLink ST 177 Cmp3.yN, .static Cmp3.yN, .methodLink ST 47 CodL.yN, .static CodL.yN,
  .code Cmp3.yN Cmp3.yB 6 (some (.array .byte)), .initialized U16, .arrayClass .byte, .methodLink U16 115 Cmp5.yN, .static Cmp5.yN, .code Cmp5.yN Cmp5.yB 7 (some .int), .code CodL.yN CodL.yB 2 (some .byte)]
theorem tab_of {a : Array Value} {s : State} (h : ∀ w ∈ words, w.before a s = true) : New1.tab.before a s = true := by
  have h5 : Cmp5.tab.before a s = true := unparts (wk h (.code Cmp5.yN Cmp5.yB 7 (some .int))) (wks h (.initialized Cmp5.yN.cls :: Cmp5.site))
  have hc : CodL.tab.before a s = true := unparts (wk h (.code CodL.yN CodL.yB 2 (some .byte))) (wks h (.initialized CodL.yN.cls :: CodL.site))
  have q5 : ∀ w ∈ Cmp5.tab :: words, w.before a s = true := fun w hw => (List.mem_cons.mp hw).elim (fun e => e ▸ h5) (h w)
  have h3 : Cmp3.tab.before a s = true := unparts (wk q5 (.code Cmp3.yN Cmp3.yB 6 (some (.array .byte)))) (wks q5 (.initialized Cmp3.yN.cls :: Cmp3.site))
  have q3 : ∀ w ∈ Cmp3.tab :: CodL.tab :: words, w.before a s = true := fun w hw => (List.mem_cons.mp hw).elim (fun e => e ▸ h3) fun hw => (List.mem_cons.mp hw).elim (fun e => e ▸ hc) (h w)
  have h4 : New4.tab.before a s = true := unparts (wk q3 (.code New4.yN New4.yB 6 none)) (wks q3 (.initialized New4.yN.cls :: New4.site))
  have q4 : ∀ w ∈ New4.tab :: words, w.before a s = true := fun w hw => (List.mem_cons.mp hw).elim (fun e => e ▸ h4) (h w)
  exact unparts (wk q4 (.code New1.yN New1.yB 2 none)) (wks q4 (.initialized New1.yN.cls :: New1.site))
/-- the words ride from the start Z to the walk's own state -/
theorem moved {Z s : State} {a0 args : Array Value} (hZ : Z.Warmed39 s.vm) (hw : ∀ d ∈ words, d.before a0 Z = true) : ∀ d ∈ words, d.before args s = true := fun d hd => by
  have q := hw d hd
  have t : ∀ d ∈ words, d = .arrayClass .byte ∨ (d.onTables && d.keepsFace) = true := by decide +kernel
  rcases t d hd with rfl | t
  · exact RoadKit.mvA hZ q
  · exact RoadKit.mv hZ q t
/-- WHAT COMES BACK, over the tables of the start Z: h the heap at the call, h' behind it -/
def Q (Z : State) (x : Addr) (A : Cell) (h : Heap) (v : Option Value) (h' : Heap) (L : List Loc) : Prop := v = none ∧ (∀ y ∈ L, y.base = x) ∧ RoadKit.Keep h h' [x] ∧ h'.size = h.size + 1 ∧ RoadKit.Exa Z h' x ST ∧ RoadKit.Fld Z h' x ST "value" "[B" (.ref h.size) ∧ RoadKit.Fld Z h' x ST "coder" "B" (.int 0) ∧
  (∃ V : Cell, RoadKit.Arr Z h' h.size V .byte ∧ V.vm = .none ∧ Z.vm.findClass "[B" = some V.cls ∧ V.slots.size = A.slots.size ∧ ∀ j, j < A.slots.size → V.slots[j]? = some (.int (lo8 (cv A j)))) ∧
  ∀ (O n d : String) (w : Value), RoadKit.Fld Z h x O n d w → RoadKit.slotOf Z O n d ≠ RoadKit.slotOf Z ST "value" "[B" → RoadKit.slotOf Z O n d ≠ RoadKit.slotOf Z ST "coder" "B" → RoadKit.Fld Z h' x O n d w
/-- **new String(chars) AT A CALL, IN THE ROAD'S FORM**: for specialBack behind newO: x the fresh String, b the char[] with the cell A -/
theorem back {p : Program} {l : Launch} {e : Env} {R : Room} {s : State} {args : Array Value} {below : List Frame} {len W : Nat} {Z : State} {a0 : Array Value} {h : Heap} (hZ : Z.Warmed39 s.vm) (hw : ∀ d ∈ words, d.before a0 Z = true) {kI : Nat} (wi : (Jvm.Cond.instantiable ST kI).before a0 Z = true)
    {x b : Addr} {A : Cell} {z : Int32} {v0 c0 : Value} (E : RoadKit.Exa Z h x ST) (V : RoadKit.Fld Z h x ST "value" "[B" v0) (C : RoadKit.Fld Z h x ST "coder" "B" c0) (K : RoadKit.Arr Z h b A .char) (hty : Typed .char A) (S : RoadKit.Sta Z h ST "COMPACT_STRINGS" "Z" (.int z)) (hz : ¬ z = 0)
    (l0 : 0 < A.slots.size) (l2 : A.slots.size ≤ 536870912) (hp : ∀ i, i < A.slots.size → ¬ 255 < cv A i) (hfr : 4 ≤ R.frames) (hlo : W + 65 ≤ R.locals) :
    Back l R p e below s args New1.yN len W (fun P a => a = #[.ref x, .ref b] ∧ P.U.heap = h ∧ P.cells + 1 ≤ R.cells ∧ P.slots + A.slots.size ≤ R.slots)
      (fun P _ v B => ∃ L, Q Z x A h v B.U.heap L ∧ B.locs = P.locs ++ L ∧ B.cells = P.cells + 1 ∧ B.slots = P.slots + A.slots.size) := by
  intro m meth c P g ig mk a X hg hsize hdg hW hn hp'
  obtain ⟨rfl, rfl, r1, r2⟩ := hp'
  have al : Z.vm.Alike P.U.vm := hZ.alike.trans X.warmed.alike
  obtain ⟨D, cfV, kV, iV, fV, hD, gV, stV, knV, obV, asV, slV⟩ := id V
  obtain ⟨D', cfC, kC, iC, fC, hD', gC, stC, -, -, asC, slC⟩ := id C
  cases hD.symm.trans hD'
  obtain ⟨D2, kD, e1, e2, e3, e4, e5⟩ := id E
  cases hD.symm.trans e1
  obtain ⟨c2, k2, i1, i2, i3, -⟩ := Cond.instantiable_spec wi
  cases e2.symm.trans i1
  cases e3.symm.trans i2
  obtain ⟨kU, u1, u2⟩ := al.2.2 _ _ e3
  have hB : Blank ST x D P.U := ⟨hD, ⟨knV, fun q hq => by rw [hq] at obV; cases obV⟩, by rw [al.findClass]; exact e2, kU, u1, by rw [u2]; exact i3, by rw [u2]; exact e5 i3⟩
  have F1 : Found ST "value" "[B" fV P.U := ⟨SBG.found_only al ⟨cfV, kV, iV, gV⟩, stV⟩
  have F2 : Found ST "coder" "B" fC P.U := ⟨SBG.found_only al ⟨cfC, kC, iC, gC⟩, stC⟩
  have hA : Ch b A P.U := ⟨⟨K.1, State.isArrayOf_alike al K.2.1, K.2.2, by omega⟩, hty⟩
  have hS : StaticIs P.U ST "COMPACT_STRINGS" "Z" (.int z) := by
    obtain ⟨cfS, iS, kS, fS, st, cS, t1, t2, t3, t4, t5, t6, t7⟩ := S
    exact StaticIs.there (s := { Z with heap := P.U.heap }) ⟨cfS, iS, kS, fS, st, cS, t1, t2, t3, t4, t5, (fun q => by rw [q] at t6; cases t6), t7⟩ al rfl
  obtain ⟨v, B, X', ⟨⟨hv, E', V', q1, q2, q3, q4, q5, q6, q7, q8, q9, q10, q11⟩, hl, hc, hs⟩, st⟩ := New1.pays x D fV fC b A z (tab_of (moved hZ hw)) hfr hlo m meth c P g ig mk _ X hg hsize hdg hW hn ⟨r1, r2, rfl, hB, F1, F2, hA, hS, hz, l0, l2, hp⟩
  have al' : Z.vm.Alike B.U.vm := hZ.alike.trans X'.warmed.alike
  have hsz : E'.slots.size = D.slots.size := by
    obtain ⟨-, -, -, kB, w1, w2, w3⟩ := q1
    obtain ⟨kB', y1, y2⟩ := al'.2.2 _ _ e3
    rw [q2.2.1] at w1
    cases w1.symm.trans y1
    rw [w3, e5 i3, y2]
  refine ⟨v, B, X', ⟨_, ⟨hv, ?_, ⟨by omega, fun y cy hy hn' => q10 y cy (by simpa using hn') hy, fun y cy hy => ?_⟩, q11, ⟨E', _, q1.1, by rw [q2.2.1]; exact e2, by rw [q2.2.1]; exact e3, by rw [q2.1]; exact obV, fun _ => by rw [hsz]; exact e5 i3⟩,
    ⟨E', cfV, kV, iV, fV, q1.1, gV, stV, by rw [q2.1]; exact knV, by rw [q2.1]; exact obV, by rw [q2.2.1]; exact asV, q3⟩, ⟨E', cfC, kC, iC, fC, q1.1, gC, stC, by rw [q2.1]; exact knV, by rw [q2.1]; exact obV, by rw [q2.2.1]; exact asC, q4⟩,
    ⟨V', ⟨q5.1, State.isArrayOf_alike al'.symm q5.2.1, q5.2.2.1⟩, q6, by rw [← al'.findClass]; exact q7, q8, fun j hj => by have := q9 j hj; rwa [Nat.zero_add] at this⟩, fun O n d w F n1 n2 => ?_⟩, hl, hc, hs⟩, st⟩
  · intro y hy
    simp only [List.mem_cons, List.not_mem_nil, or_false] at hy
    rcases hy with rfl | rfl <;> rfl
  · by_cases q : y = x
    · subst q
      cases hD.symm.trans hy
      exact ⟨E', q1.1, q2.2.1, q2.1, hsz⟩
    · exact ⟨cy, q10 y cy q hy, rfl, rfl, rfl⟩
  · obtain ⟨D3, cf, k, i, f, g1, g2, g3, g4, g5, g6, g7⟩ := F
    cases hD.symm.trans g1
    simp only [RoadKit.slotOf, g2, gV, gC, Option.map_some, Option.getD_some] at n1 n2
    exact ⟨E', cf, k, i, f, q1.1, g2, g3, by rw [q2.1]; exact g4, by rw [q2.1]; exact g5, by rw [q2.2.1]; exact g6, by rw [q2.2.2 f.slot (by simp [n1, n2])]; exact g7⟩
end StrChars.Road
namespace StrChars.Road
open Jvm Sem ClassFile Op Lib Jvm.Stand Jvm.Free Jvm.Free.XT
/-- WHAT COMES BACK, the byte[] as a list of values -/
def QA (Z : State) (x : Addr) (zn : Int32) (cs : List Int32) (h : Heap) (v : Option Value) (h' : Heap) (L : List Loc) : Prop := v = none ∧ (∀ y ∈ L, y.base = x) ∧ RoadKit.Keep h h' [x] ∧ h'.size = h.size + 1 ∧ RoadKit.Exa Z h' x ST ∧ RoadKit.Fld Z h' x ST "value" "[B" (.ref h.size) ∧ RoadKit.Fld Z h' x ST "coder" "B" (.int 0) ∧
  (∃ kb, Z.vm.findClass "[B" = some kb ∧ RoadKit.Arv Z h' h.size kb .byte zn (cs.map fun c => .int (lo8 c)) (.int 0)) ∧
  ∀ (O n d : String) (w : Value), RoadKit.Fld Z h x O n d w → RoadKit.slotOf Z O n d ≠ RoadKit.slotOf Z ST "value" "[B" → RoadKit.slotOf Z O n d ≠ RoadKit.slotOf Z ST "coder" "B" → RoadKit.Fld Z h' x O n d w
/-- **new String(chars) AT A CALL, THE ARRAYS AS LISTS**: the char[] at b holds cs, not empty, no char above 255 -/
theorem backArv {p : Program} {l : Launch} {e : Env} {R : Room} {s : State} {args : Array Value} {below : List Frame} {len W : Nat} {Z : State} {a0 : Array Value} {h : Heap} (hZ : Z.Warmed39 s.vm) (hw : ∀ d ∈ words, d.before a0 Z = true) {kI : Nat} (wi : (Jvm.Cond.instantiable ST kI).before a0 Z = true)
    {x b : Addr} {k : ClassId} {zn z : Int32} {cs : List Int32} {dv v0 c0 : Value} (E : RoadKit.Exa Z h x ST) (V : RoadKit.Fld Z h x ST "value" "[B" v0) (C : RoadKit.Fld Z h x ST "coder" "B" c0) (K : RoadKit.Arv Z h b k .char zn (cs.map Value.int) dv) (S : RoadKit.Sta Z h ST "COMPACT_STRINGS" "Z" (.int z)) (hz : ¬ z = 0)
    (hlen : zn.toNatClampNeg = cs.length) (h0 : 0 < cs.length) (hbig : cs.length ≤ 536870912) (hall : ∀ c ∈ cs, ¬ 255 < c) (hfr : 4 ≤ R.frames) (hlo : W + 65 ≤ R.locals) :
    Back l R p e below s args New1.yN len W (fun P a => a = #[.ref x, .ref b] ∧ P.U.heap = h ∧ P.cells + 1 ≤ R.cells ∧ P.slots + cs.length ≤ R.slots)
      (fun P _ v B => ∃ L, QA Z x zn cs h v B.U.heap L ∧ B.locs = P.locs ++ L ∧ B.cells = P.cells + 1 ∧ B.slots = P.slots + cs.length) := by
  obtain ⟨A, K1, K2, K3, K4, K5, K6⟩ := K
  have e : A.slots.size = cs.length := K3.trans hlen
  have hat : ∀ (i : Nat) (hi : i < cs.length), A.slots[i]? = some (.int cs[i]) := fun i hi => by rw [K5 i (by omega)]; simp [List.getD_eq_getElem?_getD, hi]
  have hcv : ∀ (i : Nat) (hi : i < cs.length), cv A i = cs[i] := fun i hi => by unfold cv; rw [hat i hi]
  have hty : Typed .char A := fun i v hv => by
    have hi : i < A.slots.size := (Array.getElem?_eq_some_iff.mp hv).1
    have q := K5 i hi
    rw [hv] at q
    rw [Option.some.inj q]
    exact K6 i hi
  refine Back.mono (back hZ hw wi E V C K1 hty S hz (by omega) (by omega) (fun i hi => by rw [hcv i (by omega)]; exact hall _ (List.getElem_mem _)) hfr hlo) (fun P a hp => ⟨hp.1, hp.2.1, hp.2.2.1, by rw [e]; exact hp.2.2.2⟩) (fun P a v B hp hq => ?_)
  obtain ⟨L, ⟨q1, q2, q3, q4, q5, q6, q7, ⟨V', v1, v2, v3, v4, v5⟩, q9⟩, hl, hc, hs⟩ := hq
  refine ⟨L, ⟨q1, q2, q3, q4, q5, q6, q7, ⟨V'.cls, v3, V', v1, rfl, by rw [v4, e, hlen], K4, fun i hi => ?_, fun i hi => ?_⟩, q9⟩, hl, hc, by rw [hs, e]⟩
  · have hi' : i < cs.length := by omega
    rw [v5 i (by omega), hcv i hi']; simp [List.getD_eq_getElem?_getD, hi']
  · have hi' : i < cs.length := by omega
    simp only [List.getD_eq_getElem?_getD, List.getElem?_map, List.getElem?_eq_getElem hi', Option.map_some, Option.getD_some]
    exact fits_lo8 _
end StrChars.Road
namespace StrChars.Road
open Jvm Sem ClassFile Op Lib Jvm.Stand Jvm.Free Jvm.Free.XT
/-- WHAT COMES BACK, in the writer's own shape -/
def QV (Z : State) (x : Addr) (N : Int32) (bs : List Int32) (h : Heap) (n0 : Nat) (v : Option Value) (h' : Heap) (L : List Loc) : Prop := v = none ∧ RoadKit.Fr n0 L ∧ RoadKit.Keep h h' [x] ∧ RoadKit.Exa Z h' x ST ∧ RoadKit.Fld Z h' x ST "coder" "B" (.int 0) ∧
  ∃ (t : Addr) (kb : ClassId), n0 ≤ t ∧ h.size ≤ t ∧ ¬ t = x ∧ RoadKit.Fld Z h' x ST "value" "[B" (.ref t) ∧ RoadKit.Arv Z h' t kb .byte N (bs.map Value.int) (.int 0)
/-- **new String(chars) AT A CALL, FOR THE WRITER**: a char[] of n known ints, each 0 to 255 -/
theorem backV {p : Program} {l : Launch} {e : Env} {R : Room} {s : State} {args : Array Value} {below : List Frame} {len W : Nat} {Z : State} {a0 : Array Value} {h : Heap} (hZ : Z.Warmed39 s.vm) (hw : ∀ d ∈ words, d.before a0 Z = true) {kI : Nat} (wi : (Jvm.Cond.instantiable ST kI).before a0 Z = true)
    {x b : Addr} {kC : ClassId} {cs bs : List Int32} {d v0 c0 : Value} {z N : Int32} {n n0 : Nat} (hx0 : n0 ≤ x) (hh0 : n0 ≤ h.size) (E : RoadKit.Exa Z h x ST) (V : RoadKit.Fld Z h x ST "value" "[B" v0) (C : RoadKit.Fld Z h x ST "coder" "B" c0) (K : RoadKit.Arv Z h b kC .char N (cs.map Value.int) d) (S : RoadKit.Sta Z h ST "COMPACT_STRINGS" "Z" (.int z)) (hz : ¬ z = 0)
    (hn : cs.length = n) (hN : N = Int32.ofNat n) (l0 : 0 < n) (l2 : n ≤ 4000) (hp : ∀ c ∈ cs, ¬ c < 0 ∧ ¬ (255 : Int32) < c) (hb : bs = cs.map (fun c => c.toInt8.toInt32)) (hfr : 4 ≤ R.frames) (hlo : W + 65 ≤ R.locals) :
    Back l R p e below s args (⟨"java/lang/String", "<init>", "([C)V"⟩ : MethodName) len W (fun P a => a = #[.ref x, .ref b] ∧ P.U.heap = h ∧ P.cells + 1 ≤ R.cells ∧ P.slots + n ≤ R.slots)
      (fun P _ v B => ∃ L, QV Z x N bs h n0 v B.U.heap L ∧ B.locs = P.locs ++ L ∧ B.cells = P.cells + 1 ∧ B.slots = P.slots + n) := by
  subst hn hN hb
  refine Back.mono (backArv hZ hw wi E V C K S hz (n32 (by omega)) l0 (by omega) (fun c hc => (hp c hc).2) hfr hlo) (fun P a hp => hp) (fun P a v B hp hq => ?_)
  obtain ⟨L, ⟨q1, q2, q3, q4, q5, q6, q7, ⟨kb, v1, v2⟩, q9⟩, hl, hc, hs⟩ := hq
  exact ⟨L, ⟨q1, fun y hy => by rw [q2 y hy]; exact hx0, q3, q5, q7, h.size, kb, hh0, Nat.le_refl _, Nat.ne_of_gt E.lt, q6, by rw [List.map_map]; exact v2⟩, hl, hc, hs⟩
end StrChars.Road
namespace StrChars
open Jvm Sem ClassFile Op Lib Jvm.Stand Jvm.Free.XT Jvm.Free.ALB Jvm.Free.JM Jvm.Free
open Jvm.Lib.Cold (StaticIs)
def hi8 (x : Int32) : Int32 := lo8 (x >>> ((8 : Int32) &&& 31))
/-- what StringUTF16.getChar makes of two bytes -/
def pairCh (u v : Int32) : Int32 := (((u &&& 255) <<< ((0 : Int32) &&& 31)) ||| ((v &&& 255) <<< ((8 : Int32) &&& 31))).toUInt32.toUInt16.toUInt32.toInt32
theorem shr0 (c : Int32) : c >>> ((0 : Int32) &&& 31) = c := by
  have e : ((0 : Int32) &&& 31) = 0 := by decide
  rw [e]
  apply Int32.toBitVec_inj.mp
  rw [Int32.toBitVec_shiftRight]
  have e1 : ((0 : Int32).toBitVec.smod 32) = 0#32 := by decide
  rw [e1, BitVec.sshiftRight_eq']
  exact BitVec.sshiftRight_zero
theorem lo8_and (x : Int32) : (lo8 x &&& 255).toBitVec.toNat = x.toBitVec.toNat % 256 := by
  have h : (lo8 x).toBitVec = (x.toBitVec.signExtend 8).signExtend 32 := by rw [lo8, Int8.toBitVec_toInt32, Int32.toBitVec_toInt8]
  rw [Int32.toBitVec_and, BitVec.toNat_and, h]
  have e : ((x.toBitVec.signExtend 8).signExtend 32).toNat % 256 = x.toBitVec.toNat % 256 := by
    rw [BitVec.toNat_signExtend]
    have hlt := x.toBitVec.isLt
    simp only [BitVec.toNat_setWidth, BitVec.toNat_signExtend]
    split <;> split <;> omega
  rw [← e]
  exact Nat.and_two_pow_sub_one_eq_mod _ 8
theorem pair_says {c : Int32} (h0 : ¬ c < 0) (h1 : ¬ 65535 < c) : pairCh (lo8 c) (hi8 c) = c := by
  rw [Int32.lt_iff_toInt_lt] at h0 h1
  have e0 : (0 : Int32).toInt = 0 := rfl
  have e1 : (65535 : Int32).toInt = 65535 := rfl
  have hc : c.toInt = c.toBitVec.toNat := by
    have := c.toBitVec.isLt
    have e : c.toInt = c.toBitVec.toInt := rfl
    rw [e] at h0 h1
    rw [e]
    rw [BitVec.toInt_eq_toNat_cond] at h0 h1 ⊢
    split at h0 <;> split <;> omega
  have hn : c.toBitVec.toNat < 65536 := by omega
  have a1 := lo8_and c
  have a2 : (hi8 c &&& 255).toBitVec.toNat = c.toBitVec.toNat / 256 := by
    rw [hi8, lo8_and]
    have e : ((8 : Int32) &&& 31) = 8 := by decide
    rw [e, Int32.toBitVec_shiftRight]
    have e2 : ((8 : Int32).toBitVec.smod 32) = 8#32 := by decide
    rw [e2, BitVec.sshiftRight_eq', BitVec.toNat_sshiftRight_of_msb_false (by rw [BitVec.msb_eq_false_iff_two_mul_lt]; omega)]
    show c.toBitVec.toNat >>> 8 % 256 = _
    rw [Nat.shiftRight_eq_div_pow]
    omega
  unfold pairCh
  apply Int32.toBitVec_inj.mp
  apply BitVec.eq_of_toNat_eq
  have f0 : ((0 : Int32) &&& 31) = 0 := by decide
  have f8 : ((8 : Int32) &&& 31) = 8 := by decide
  rw [f0, f8]
  have g : (((lo8 c &&& 255) <<< (0 : Int32)) ||| ((hi8 c &&& 255) <<< (8 : Int32))).toBitVec.toNat = c.toBitVec.toNat := by
    rw [Int32.toBitVec_or, Int32.toBitVec_shiftLeft, Int32.toBitVec_shiftLeft]
    have s0 : ((0 : Int32).toBitVec.smod 32) = 0#32 := by decide
    have s8 : ((8 : Int32).toBitVec.smod 32) = 8#32 := by decide
    rw [s0, s8, BitVec.toNat_or]
    simp only [BitVec.shiftLeft_eq', BitVec.toNat_shiftLeft, a1, a2]
    show (c.toBitVec.toNat % 256) <<< 0 % 2 ^ 32 ||| (c.toBitVec.toNat / 256) <<< 8 % 2 ^ 32 = _
    rw [Nat.shiftLeft_zero, Nat.mod_eq_of_lt (show c.toBitVec.toNat % 256 < 2 ^ 32 by omega), Nat.mod_eq_of_lt (show (c.toBitVec.toNat / 256) <<< 8 < 2 ^ 32 by rw [Nat.shiftLeft_eq]; omega), Nat.or_comm, ← Nat.shiftLeft_add_eq_or_of_lt (by omega), Nat.shiftLeft_eq]
    omega
  show BitVec.toNat (((((lo8 c &&& 255) <<< (0 : Int32)) ||| ((hi8 c &&& 255) <<< (8 : Int32))).toBitVec.setWidth 16).setWidth 32) = _
  rw [BitVec.toNat_setWidth, BitVec.toNat_setWidth, g]
  omega
end StrChars
namespace StrChars
open Jvm Sem ClassFile Op Lib Jvm.Stand Jvm.Free.XT Jvm.Free.ALB Jvm.Free.JM Jvm.Free
open Jvm.Lib.Cold (StaticIs)
theorem shr1 {n : Nat} (h : 2 * n < 2 ^ 31) : Int32.ofNat (2 * n) >>> ((1 : Int32) &&& 31) = Int32.ofNat n := by
  have e : ((1 : Int32) &&& 31) = 1 := by decide
  rw [e]
  apply Int32.toBitVec_inj.mp
  rw [Int32.toBitVec_shiftRight]
  have e1 : ((1 : Int32).toBitVec.smod 32) = 1#32 := by decide
  have hm : (BitVec.ofNat 32 (2 * n)).toNat = 2 * n := by rw [BitVec.toNat_ofNat, Nat.mod_eq_of_lt (by omega)]
  rw [e1, BitVec.sshiftRight_eq']
  apply BitVec.eq_of_toNat_eq
  show ((BitVec.ofNat 32 (2 * n)).sshiftRight 1).toNat = (BitVec.ofNat 32 n).toNat
  rw [BitVec.toNat_sshiftRight_of_msb_false (by rw [BitVec.msb_eq_false_iff_two_mul_lt, hm]; omega), hm, BitVec.toNat_ofNat, Nat.shiftRight_eq_div_pow]
  omega
/-- charAt's cast of a byte read back -/
def chr8 (u : Int32) : Int32 := (u &&& 255).toUInt32.toUInt16.toUInt32.toInt32
theorem chr8_lo8 {c : Int32} (h0 : ¬ c < 0) (h1 : ¬ 255 < c) : chr8 (lo8 c) = c := by
  have t : ∀ k : Fin 256, (Int32.ofNat k.val).toUInt32.toUInt16.toUInt32.toInt32 = Int32.ofNat k.val := by decide +kernel
  unfold chr8
  rw [lo8_mask h0 h1]
  rw [Int32.lt_iff_toInt_lt] at h0 h1
  have e0 : (0 : Int32).toInt = 0 := rfl
  have e1 : (255 : Int32).toInt = 255 := rfl
  obtain ⟨k, hk⟩ : ∃ k : Nat, c.toInt = k := ⟨c.toInt.toNat, by omega⟩
  have hx : c = Int32.ofNat k := Int32.toInt_inj.mp (by rw [hk, Int32.toInt_ofNat_small (by omega)])
  rw [hx]
  exact t ⟨k, by omega⟩
theorem narrow_ch {c : Int32} (h0 : ¬ c < 0) (h1 : ¬ 65535 < c) : narrow .char (.int c) = .int c := by
  have q : narrow .char (.int (pairCh (lo8 c) (hi8 c))) = .int (pairCh (lo8 c) (hi8 c)) := narrow_c _
  rwa [pair_says h0 h1] at q
/-- the array's cell V codes the n chars f 0 .. f (n - 1) by the coder cd, as the JDK does: coder 1 just where some char is above 255 -/
def Cod (cd : Int32) (n : Nat) (f : Nat → Int32) (V : Cell) : Prop := (cd = 0 ∧ V.slots.size = n ∧ ∀ j, j < n → V.slots[j]? = some (.int (lo8 (f j))) ∧ ¬ 255 < f j) ∨ (cd = 1 ∧ V.slots.size = 2 * n ∧ (∀ j, j < n → V.slots[2 * j]? = some (.int (lo8 (f j))) ∧ V.slots[2 * j + 1]? = some (.int (hi8 (f j)))) ∧ ∃ j, j < n ∧ 255 < f j)
theorem Cod.cd {cd : Int32} {n : Nat} {f : Nat → Int32} {V : Cell} (h : Cod cd n f V) : cd = 0 ∨ cd = 1 := h.imp (fun q => q.1) fun q => q.1
theorem Cod.len {cd : Int32} {n : Nat} {f : Nat → Int32} {V : Cell} (h : Cod cd n f V) (hs : V.slots.size < 2 ^ 31) : Int32.ofNat V.slots.size >>> (cd &&& 31) = Int32.ofNat n := by
  rcases h with ⟨rfl, h, -⟩ | ⟨rfl, h, -⟩
  · rw [shr0, h]
  · rw [h, shr1 (by omega)]
/-- **x is a String of the n chars f 0 .. f (n - 1)**, Latin-1 or UTF-16; its array at t has the cell V -/
def Txt (x t : Addr) (V : Cell) (cd : Int32) (n : Nat) (f : Nat → Int32) (U : State) : Prop := Exact "java/lang/String" x U ∧ Has x "java/lang/String" "value" "[B" (.ref t) U ∧ Has x "java/lang/String" "coder" "B" (.int cd) U ∧ XT.Arr .byte t V U ∧ Cod cd n f V ∧ ∀ j, j < n → ¬ f j < 0 ∧ ¬ 65535 < f j
theorem Txt.mv {x t : Addr} {V : Cell} {cd : Int32} {n : Nat} {f : Nat → Int32} {U U' : State} (h : Txt x t V cd n f U) (hal : U.vm.Alike U'.vm) (hh : U'.heap = U.heap) : Txt x t V cd n f U' := ⟨h.1.mv hal hh, h.2.1.mv hal hh, h.2.2.1.mv hal hh, h.2.2.2.1.mv hal hh, h.2.2.2.2⟩
namespace Cdr
def yN : MethodName := ⟨"java/lang/String", "coder", "()B"⟩
abbrev yB : ByteArray := jdk_42_method_152_code
theorem d0 : decode yB 0 = .ok (.getstatic 38, 3) := by decide +kernel
theorem d3 : decode yB 3 = .ok (.ifCond (.eq) 10, 3) := by decide +kernel
theorem d6 : decode yB 6 = .ok (.aload_n 0, 1) := by decide +kernel
theorem d7 : decode yB 7 = .ok (.getfield 15, 3) := by decide +kernel
theorem d10 : decode yB 10 = .ok (.goto 4, 3) := by decide +kernel
theorem d14 : decode yB 14 = .ok (.ireturn, 1) := by decide +kernel
def site : List Cond := [.fieldLink "java/lang/String" 38 "java/lang/String" "COMPACT_STRINGS" "Z", .fieldLink "java/lang/String" 15 "java/lang/String" "coder" "B"]
def tab : Cond := tabOf yN yB 1 (some .byte) site
def P (x : Addr) (cd z : Int32) (args : Array Value) (s : State) : Prop := args = #[.ref x] ∧ Has x "java/lang/String" "coder" "B" (.int cd) s ∧ (cd = 0 ∨ cd = 1) ∧ StaticIs s "java/lang/String" "COMPACT_STRINGS" "Z" (.int z) ∧ ¬ z = 0
def E (cd : Int32) (r : Option Value) (s u : State) : Prop := XT.PureE (some (.int cd)) r s u
theorem law (l : Launch) (x : Addr) (cd z : Int32) : Law l yN 1 0 0 0 yB 1 (some .byte) site (P x cd z) (E cd) [] 0 0 := by
  refine Law.of_walk (plainFor_of_name (by decide +kernel)) (by decide +kernel) (by decide +kernel) (by decide) (fun _ _ h => by rw [h.1]; rfl) (fun _ U U' hal hh h => ⟨h.1, h.2.1.mv hal hh, h.2.2.1, h.2.2.2.1.there hal hh, h.2.2.2.2⟩) (fun r U U' V V' h1 hal h2 h => XT.PureE.mv r U U' V V' h1 hal h2 h) ?_
  intro p e s m args below meth c s₁ X0 hexec hbytes hml hret hlk hnm hown hh0 W hP
  obtain ⟨rfl, hx, hc, s1, hz⟩ := hP
  have c1 : Steps p.tables e below (s₁.setTop (entryFrame m #[.ref x] 1)) (s₁.setTop (mkF m 0 #[.val (.ref x)] [])) := entry rfl
  obtain ⟨T2, X2, q2, st2⟩ := X0.sget hexec hown (wk W (.fieldLink "java/lang/String" 38 "java/lang/String" "COMPACT_STRINGS" "Z")) s1 (fun _ _ h => by rw [hh0]; exact h) (g := (mkF m 0 #[.val (.ref x)] [])) rfl (hb hbytes d0)
  have hh2 := q2.trans hh0
  have c3 : Steps p.tables e below (s₁.setTop (entryFrame m #[.ref x] 1)) (T2.setTop (mkF m 7 #[.val (.ref x)] [.ref x])) := (c1.trans (st2 _ (Steps.refl _))).trans (by
    refine XS.ifNo X2.here hexec rfl (hb hbytes d3) rfl (i0_eq_f hz) ?_
    refine XS.aloadN X2.here hexec rfl (hb hbytes d6) rfl rfl ?_
    exact Steps.refl _)
  obtain ⟨T4, X4, q4, st4⟩ := X2.hget hexec hown (wk W (.fieldLink "java/lang/String" 15 "java/lang/String" "coder" "B")) (hx.mv X2.warmed.alike hh2) (g := (mkF m 7 #[.val (.ref x)] [.ref x])) rfl (rest := []) rfl (hb hbytes d7)
  have c5 : Steps p.tables e below (s₁.setTop (entryFrame m #[.ref x] 1)) (T4.setTop (mkF m 14 #[.val (.ref x)] [.int cd])) := (c3.trans (st4 _ (Steps.refl _))).trans (by
    refine XS.goto X4.here hexec rfl (pc0 := 10) rfl (hb hbytes d10) (by decide) rfl ?_
    exact Steps.refl _)
  exact ⟨T4, some (.int cd), _, _, _, X4, rfl, rfl, rfl, (fun h => by cases h), ⟨rfl, q4.trans hh2⟩, fun fs hl => c5.trans (X4.ireturnOut hexec hret (by rcases hc with rfl | rfl <;> rfl) (Or.inr (Or.inr (Or.inl rfl))) (hb hbytes d14) hl)⟩
end Cdr
namespace Len
def yN : MethodName := ⟨"java/lang/String", "length", "()I"⟩
abbrev yB : ByteArray := jdk_42_method_54_code
theorem d0 : decode yB 0 = .ok (.aload_n 0, 1) := by decide +kernel
theorem d1 : decode yB 1 = .ok (.getfield 9, 3) := by decide +kernel
theorem d4 : decode yB 4 = .ok (.arraylength, 1) := by decide +kernel
theorem d5 : decode yB 5 = .ok (.aload_n 0, 1) := by decide +kernel
theorem d6 : decode yB 6 = .ok (.invokevirtual 335, 3) := by decide +kernel
theorem d9 : decode yB 9 = .ok (.ishr, 1) := by decide +kernel
theorem d10 : decode yB 10 = .ok (.ireturn, 1) := by decide +kernel
def site : List Cond := [.fieldLink "java/lang/String" 9 "java/lang/String" "value" "[B", Cdr.tab] ++ virtW "java/lang/String" 335 "java/lang/String" Cdr.yN Cdr.yN
def tab : Cond := tabOf yN yB 1 (some .int) site
def P (x t : Addr) (V : Cell) (cd : Int32) (n : Nat) (f : Nat → Int32) (z : Int32) (args : Array Value) (s : State) : Prop := args = #[.ref x] ∧ Txt x t V cd n f s ∧ StaticIs s "java/lang/String" "COMPACT_STRINGS" "Z" (.int z) ∧ ¬ z = 0
def E (n : Nat) (r : Option Value) (s u : State) : Prop := XT.PureE (some (.int (Int32.ofNat n))) r s u
/-- length() of a String of n chars, in either coding -/
theorem law (l : Launch) (x t : Addr) (V : Cell) (cd : Int32) (n : Nat) (f : Nat → Int32) (z : Int32) : Law l yN 1 0 1 13 yB 1 (some .int) site (P x t V cd n f z) (E n) [] 0 0 := by
  refine Law.of_walk (plainFor_of_name (by decide +kernel)) (by decide +kernel) (by decide +kernel) (by decide) (fun _ _ h => by rw [h.1]; rfl) (fun _ U U' hal hh h => ⟨h.1, h.2.1.mv hal hh, h.2.2.1.there hal hh, h.2.2.2⟩) (fun r U U' V V' h1 hal h2 h => XT.PureE.mv r U U' V V' h1 hal h2 h) ?_
  intro p e s m args below meth c s₁ X0 hexec hbytes hml hret hlk hnm hown hh0 W hP
  obtain ⟨rfl, hx, s1, hz⟩ := hP
  have v31 := hx.2.2.2.1.2.2.2
  have c1 : Steps p.tables e below (s₁.setTop (entryFrame m #[.ref x] 1)) (s₁.setTop (mkF m 1 #[.val (.ref x)] [.ref x])) := Steps.trans (entry rfl) (by
    show Steps p.tables e below (s₁.setTop (mkF m 0 #[.val (.ref x)] [])) _
    refine XS.aloadN X0.here hexec rfl (hb hbytes d0) rfl rfl ?_
    exact Steps.refl _)
  obtain ⟨T2, X2, q2, st2⟩ := X0.hget hexec hown (wk W (.fieldLink "java/lang/String" 9 "java/lang/String" "value" "[B")) (hx.mv X0.warmed.alike hh0).2.1 (g := (mkF m 1 #[.val (.ref x)] [.ref x])) rfl (rest := []) rfl (hb hbytes d1)
  have hh2 := q2.trans hh0
  have hx2 := hx.mv X2.warmed.alike hh2
  have c3 : Steps p.tables e below (s₁.setTop (entryFrame m #[.ref x] 1)) (T2.setTop (mkF m 6 #[.val (.ref x)] [.ref x, .int (Int32.ofNat V.slots.size)])) := (c1.trans (st2 _ (Steps.refl _))).trans (by
    refine X2.alen hexec hx2.2.2.2.1 rfl rfl (hb hbytes d4) ?_
    refine XS.aloadN X2.here hexec rfl (hb hbytes d5) rfl rfl ?_
    exact Steps.refl _)
  obtain ⟨v4, T4, X4, E4, g4⟩ := X2.callV hexec (Cdr.law l x cd z) hown (wks W (virtW "java/lang/String" 335 "java/lang/String" Cdr.yN Cdr.yN)) rfl (by decide) (wk W Cdr.tab) (W := 1) (Nat.le_of_ble_eq_true rfl) (Nat.le_of_ble_eq_true rfl) (Nat.le_refl _) (Nat.le_refl _) (hx2.1.fc X2.warmed.alike) hx2.1.is (g := (mkF m 6 #[.val (.ref x)] [.ref x, .int (Int32.ofNat V.slots.size)])) rfl (by rw [hml]; rfl) c3 (argsL := []) (rest := [.int (Int32.ofNat V.slots.size)]) rfl rfl (by show 2 * 0 + (1 + 0) ≤ _; decide) (hb hbytes d6) (⟨rfl, hx2.2.2.1, hx.2.2.2.2.1.cd, s1.there X2.warmed.alike hh2, hz⟩)
  obtain ⟨rfl, q4⟩ := E4
  have c5 : Steps p.tables e below (s₁.setTop (entryFrame m #[.ref x] 1)) (T4.setTop (mkF m 10 #[.val (.ref x)] [.int (Int32.ofNat V.slots.size >>> (cd &&& 31))])) := Steps.trans g4 (by
    refine ishr X4.here hexec rfl (hb hbytes d9) rfl ?_
    exact Steps.refl _)
  rw [hx.2.2.2.2.1.len v31] at c5
  exact ⟨T4, some (.int (Int32.ofNat n)), _, _, _, X4, rfl, rfl, rfl, (fun h => by cases h), ⟨rfl, q4.trans hh2⟩, fun fs hl => c5.trans (X4.ireturnOut hexec hret rfl (Or.inl rfl) (hb hbytes d10) hl)⟩
theorem pays {l : Launch} {R : Room} {p : Program} {e : Env} {below : List Frame} {s : State} {sargs : Array Value} {len W : Nat} (x t : Addr) (V : Cell) (cd : Int32) (n : Nat) (f : Nat → Int32) (z : Int32) (htab : tab.before sargs s = true) (hfr : 2 ≤ R.frames) (hlo : W + 25 ≤ R.locals) :
    Back l R p e below s sargs yN len W (fun A₁ a₁ => A₁.cells + 0 ≤ R.cells ∧ A₁.slots + 0 ≤ R.slots ∧ P x t V cd n f z a₁ A₁.U) (fun A₁ _ v₁ B₁ => E n v₁ A₁.U B₁.U ∧ B₁.locs = A₁.locs ++ [] ∧ B₁.cells = A₁.cells + 0 ∧ B₁.slots = A₁.slots + 0) :=
  (law l x t V cd n f z).pays htab hfr (by omega)
end Len
namespace IsL
def yN : MethodName := ⟨"java/lang/String", "isLatin1", "()Z"⟩
abbrev yB : ByteArray := jdk_42_method_154_code
theorem d0 : decode yB 0 = .ok (.getstatic 38, 3) := by decide +kernel
theorem d3 : decode yB 3 = .ok (.ifCond (.eq) 14, 3) := by decide +kernel
theorem d6 : decode yB 6 = .ok (.aload_n 0, 1) := by decide +kernel
theorem d7 : decode yB 7 = .ok (.getfield 15, 3) := by decide +kernel
theorem d10 : decode yB 10 = .ok (.ifCond (.ne) 7, 3) := by decide +kernel
theorem d13 : decode yB 13 = .ok (.iconst 1, 1) := by decide +kernel
theorem d14 : decode yB 14 = .ok (.goto 4, 3) := by decide +kernel
theorem d17 : decode yB 17 = .ok (.iconst 0, 1) := by decide +kernel
theorem d18 : decode yB 18 = .ok (.ireturn, 1) := by decide +kernel
def site : List Cond := [.fieldLink "java/lang/String" 38 "java/lang/String" "COMPACT_STRINGS" "Z", .fieldLink "java/lang/String" 15 "java/lang/String" "coder" "B"]
def tab : Cond := tabOf yN yB 1 (some .boolean) site
def P (x : Addr) (cd z : Int32) (args : Array Value) (s : State) : Prop := args = #[.ref x] ∧ Has x "java/lang/String" "coder" "B" (.int cd) s ∧ (cd = 0 ∨ cd = 1) ∧ StaticIs s "java/lang/String" "COMPACT_STRINGS" "Z" (.int z) ∧ ¬ z = 0
def E (cd : Int32) (r : Option Value) (s u : State) : Prop := XT.PureE (some (.int (1 - cd))) r s u
theorem law (l : Launch) (x : Addr) (cd z : Int32) : Law l yN 1 0 0 0 yB 1 (some .boolean) site (P x cd z) (E cd) [] 0 0 := by
  refine Law.of_walk (plainFor_of_name (by decide +kernel)) (by decide +kernel) (by decide +kernel) (by decide) (fun _ _ h => by rw [h.1]; rfl) (fun _ U U' hal hh h => ⟨h.1, h.2.1.mv hal hh, h.2.2.1, h.2.2.2.1.there hal hh, h.2.2.2.2⟩) (fun r U U' V V' h1 hal h2 h => XT.PureE.mv r U U' V V' h1 hal h2 h) ?_
  intro p e s m args below meth c s₁ X0 hexec hbytes hml hret hlk hnm hown hh0 W hP
  obtain ⟨rfl, hx, hc, s1, hz⟩ := hP
  have c1 : Steps p.tables e below (s₁.setTop (entryFrame m #[.ref x] 1)) (s₁.setTop (mkF m 0 #[.val (.ref x)] [])) := entry rfl
  obtain ⟨T2, X2, q2, st2⟩ := X0.sget hexec hown (wk W (.fieldLink "java/lang/String" 38 "java/lang/String" "COMPACT_STRINGS" "Z")) s1 (fun _ _ h => by rw [hh0]; exact h) (g := (mkF m 0 #[.val (.ref x)] [])) rfl (hb hbytes d0)
  have hh2 := q2.trans hh0
  have c3 : Steps p.tables e below (s₁.setTop (entryFrame m #[.ref x] 1)) (T2.setTop (mkF m 7 #[.val (.ref x)] [.ref x])) := (c1.trans (st2 _ (Steps.refl _))).trans (by
    refine XS.ifNo X2.here hexec rfl (hb hbytes d3) rfl (i0_eq_f hz) ?_
    refine XS.aloadN X2.here hexec rfl (hb hbytes d6) rfl rfl ?_
    exact Steps.refl _)
  obtain ⟨T4, X4, q4, st4⟩ := X2.hget hexec hown (wk W (.fieldLink "java/lang/String" 15 "java/lang/String" "coder" "B")) (hx.mv X2.warmed.alike hh2) (g := (mkF m 7 #[.val (.ref x)] [.ref x])) rfl (rest := []) rfl (hb hbytes d7)
  have c5 : Steps p.tables e below (s₁.setTop (entryFrame m #[.ref x] 1)) (T4.setTop (mkF m 10 #[.val (.ref x)] [.int cd])) := c3.trans (st4 _ (Steps.refl _))
  have c6 : Steps p.tables e below (s₁.setTop (entryFrame m #[.ref x] 1)) (T4.setTop (mkF m 18 #[.val (.ref x)] [.int (1 - cd)])) := by
    rcases hc with rfl | rfl
    · exact c5.trans (by
        refine XS.ifNo X4.here hexec rfl (hb hbytes d10) rfl (i0_ne_f rfl) ?_
        refine iconstV X4.here hexec rfl 1 (hb hbytes d13) (by decide) ?_
        refine XS.goto X4.here hexec rfl (pc0 := 14) rfl (hb hbytes d14) (by decide) rfl ?_
        exact Steps.refl _)
    · exact c5.trans (by
        refine XS.ifYes X4.here hexec rfl (pc0 := 10) rfl (hb hbytes d10) rfl (i0_ne_t (by decide)) (by decide) rfl ?_
        refine iconstV X4.here hexec rfl 0 (hb hbytes d17) (by decide) ?_
        exact Steps.refl _)
  exact ⟨T4, some (.int (1 - cd)), _, _, _, X4, rfl, rfl, rfl, (fun h => by cases h), ⟨rfl, q4.trans hh2⟩, fun fs hl => c6.trans (X4.ireturnOut hexec hret (by rcases hc with rfl | rfl <;> rfl) (Or.inr (Or.inl rfl)) (hb hbytes d18) hl)⟩
end IsL
namespace LChA
def yN : MethodName := ⟨"java/lang/StringLatin1", "charAt", "([BI)C"⟩
abbrev yB : ByteArray := jdk_43_method_2_code
theorem d0 : decode yB 0 = .ok (.iload_n 1, 1) := by decide +kernel
theorem d1 : decode yB 1 = .ok (.aload_n 0, 1) := by decide +kernel
theorem d2 : decode yB 2 = .ok (.arraylength, 1) := by decide +kernel
theorem d3 : decode yB 3 = .ok (.invokestatic 9, 3) := by decide +kernel
theorem d6 : decode yB 6 = .ok (.aload_n 0, 1) := by decide +kernel
theorem d7 : decode yB 7 = .ok (.iload_n 1, 1) := by decide +kernel
theorem d8 : decode yB 8 = .ok (.baload, 1) := by decide +kernel
theorem d9 : decode yB 9 = .ok (.sipush 255, 3) := by decide +kernel
theorem d12 : decode yB 12 = .ok (.iand, 1) := by decide +kernel
theorem d13 : decode yB 13 = .ok (.i2c, 1) := by decide +kernel
theorem d14 : decode yB 14 = .ok (.ireturn, 1) := by decide +kernel
def site : List Cond := [JO.Str_checkIndex.tab] ++ staticW "java/lang/StringLatin1" 9 JO.Str_checkIndex.yN
def tab : Cond := tabOf yN yB 2 (some .char) site
def P (t : Addr) (V : Cell) (i : Nat) (u : Int32) (fm : Value) (args : Array Value) (s : State) : Prop := args = #[.ref t, .int (Int32.ofNat i)] ∧ XT.Arr .byte t V s ∧ V.slots[i]? = some (.int u) ∧ (StaticIs s "jdk/internal/util/Preconditions" "SIOOBE_FORMATTER" "Ljava/util/function/BiFunction;" fm ∧ fm.isRef = true)
def E (u : Int32) (r : Option Value) (s w : State) : Prop := XT.PureE (some (.int (chr8 u))) r s w
theorem law (l : Launch) (t : Addr) (V : Cell) (i : Nat) (u : Int32) (fm : Value) : Law l yN 2 2 2 27 yB 2 (some .char) site (P t V i u fm) (E u) [] 0 0 := by
  refine Law.of_walk (plainFor_of_name (by decide +kernel)) (by decide +kernel) (by decide +kernel) (by decide) (fun _ _ h => by rw [h.1]; rfl) (fun _ U U' hal hh h => ⟨h.1, h.2.1.mv hal hh, h.2.2.1, h.2.2.2.1.there hal hh, h.2.2.2.2⟩) (fun r U U' V V' h1 hal h2 h => XT.PureE.mv r U U' V V' h1 hal h2 h) ?_
  intro p e s m args below meth c s₁ X0 hexec hbytes hml hret hlk hnm hown hh0 W hP
  obtain ⟨rfl, hV, hu, s1, rf⟩ := hP
  have v31 := hV.2.2.2
  have hi : i < V.slots.size := (Array.getElem?_eq_some_iff.mp hu).1
  have c1 : Steps p.tables e below (s₁.setTop (entryFrame m #[.ref t, .int (Int32.ofNat i)] 2)) (s₁.setTop (mkF m 0 #[.val (.ref t), .val (.int (Int32.ofNat i))] [])) := entry rfl
  have c2 : Steps p.tables e below (s₁.setTop (entryFrame m #[.ref t, .int (Int32.ofNat i)] 2)) (s₁.setTop (mkF m 3 #[.val (.ref t), .val (.int (Int32.ofNat i))] [.int (Int32.ofNat V.slots.size), .int (Int32.ofNat i)])) := c1.trans (by
    refine XS.iloadN X0.here hexec rfl (hb hbytes d0) rfl ?_
    refine XS.aloadN X0.here hexec rfl (hb hbytes d1) rfl rfl ?_
    refine X0.alen hexec (hV.mv X0.warmed.alike hh0) rfl rfl (hb hbytes d2) ?_
    exact Steps.refl _)
  obtain ⟨v3, T3, X3, E3, g3⟩ := X0.callS hexec (JO.Str_checkIndex.law l (Int32.ofNat i) (Int32.ofNat V.slots.size) fm) hown (wks W (staticW "java/lang/StringLatin1" 9 JO.Str_checkIndex.yN)) (wk W JO.Str_checkIndex.tab) (W := 0) (Nat.le_of_ble_eq_true rfl) (Nat.le_of_ble_eq_true rfl) (Nat.le_refl _) (Nat.le_refl _) (g := (mkF m 3 #[.val (.ref t), .val (.int (Int32.ofNat i))] [.int (Int32.ofNat V.slots.size), .int (Int32.ofNat i)])) rfl (by rw [hml]; rfl) c2 (argsL := [.int (Int32.ofNat i), .int (Int32.ofNat V.slots.size)]) (rest := []) rfl rfl (by show 2 * 0 + 0 ≤ _; decide) (hb hbytes d3) (⟨rfl, rf, s1.there X0.warmed.alike hh0, Int32.ofNat_not_neg (by omega), lt32 v31 hi⟩)
  obtain ⟨rfl, q3⟩ := E3
  have hh3 := q3.trans hh0
  have c4 : Steps p.tables e below (s₁.setTop (entryFrame m #[.ref t, .int (Int32.ofNat i)] 2)) (T3.setTop (mkF m 14 #[.val (.ref t), .val (.int (Int32.ofNat i))] [.int (chr8 u)])) := Steps.trans g3 (by
    refine XS.aloadN X3.here hexec rfl (hb hbytes d6) rfl rfl ?_
    refine XS.iloadN X3.here hexec rfl (hb hbytes d7) rfl ?_
    refine X3.aget hexec (hV.mv X3.warmed.alike hh3) rfl hu rfl rfl (hb hbytes d8) ?_
    refine sipushV X3.here hexec rfl 255 (hb hbytes d9) (by decide) ?_
    refine XS.iand X3.here hexec rfl (hb hbytes d12) rfl ?_
    refine i2c X3.here hexec rfl (hb hbytes d13) rfl ?_
    exact Steps.refl _)
  exact ⟨T3, some (.int (chr8 u)), _, _, _, X3, rfl, rfl, rfl, (fun h => by cases h), ⟨rfl, hh3⟩, fun fs hl => c4.trans (X3.ireturnOut hexec hret (narrow_c _) (Or.inr (Or.inr (Or.inr (Or.inl rfl)))) (hb hbytes d14) hl)⟩
end LChA
end StrChars
namespace StrChars.Road
open Jvm Sem ClassFile Op Lib Jvm.Stand Jvm.Free Jvm.Free.XT
open Jvm.Lib.Cold (StaticIs)
theorem consq {a : Array Value} {s : State} {c : Jvm.Cond} {L : List Jvm.Cond} (h0 : c.before a s = true) (h : ∀ w ∈ L, w.before a s = true) : ∀ w ∈ c :: L, w.before a s = true := fun w hw => (List.mem_cons.mp hw).elim (fun e => e ▸ h0) (h w)
/-- the words of String.length(), either coding -/
abbrev wordsLen : List Jvm.Cond := [.code Len.yN Len.yB 1 (some .int), .initialized ST, .fieldLink ST 9 ST "value" "[B", .fieldLink ST 38 ST "COMPACT_STRINGS" "Z", .fieldLink ST 15 ST "coder" "B", .code Cdr.yN Cdr.yB 1 (some .byte), .methodLink ST 335 Cdr.yN, .declares Cdr.yN, .selects ST Cdr.yN Cdr.yN, .instanceMethod Cdr.yN]
theorem tabLen_of {a : Array Value} {s : State} (h : ∀ w ∈ wordsLen, w.before a s = true) : Len.tab.before a s = true := by
  have hc : Cdr.tab.before a s = true := unparts (wk h (.code Cdr.yN Cdr.yB 1 (some .byte))) (wks h (.initialized Cdr.yN.cls :: Cdr.site))
  have q := consq hc h
  exact unparts (wk q (.code Len.yN Len.yB 1 (some .int))) (wks q (.initialized Len.yN.cls :: Len.site))
theorem movedLen {Z s : State} {a0 args : Array Value} (hZ : Z.Warmed39 s.vm) (hw : ∀ d ∈ wordsLen, d.before a0 Z = true) : ∀ d ∈ wordsLen, d.before args s = true := fun d hd => by
  have q := hw d hd
  have t : ∀ d ∈ wordsLen, d = .arrayClass .byte ∨ (d.onTables && d.keepsFace) = true := by decide +kernel
  rcases t d hd with rfl | t
  · exact RoadKit.mvA hZ q
  · exact RoadKit.mv hZ q t
/-- the bytes of the chars cs, low before high -/
def wideBytes : List Int32 → List Value
  | [] => []
  | c :: cs => .int (lo8 c) :: .int (hi8 c) :: wideBytes cs
theorem wide_lo (d : Value) : ∀ (cs : List Int32) (j : Nat), j < cs.length → (wideBytes cs).getD (2 * j) d = .int (lo8 (cs.getD j 0))
  | [], j, h => absurd h (Nat.not_lt_zero j)
  | c :: cs, 0, _ => rfl
  | c :: cs, j + 1, h => by
    have q := wide_lo d cs j (by simpa using h)
    rw [show 2 * (j + 1) = 2 * j + 1 + 1 from by omega]
    simpa [wideBytes] using q
theorem wide_hi (d : Value) : ∀ (cs : List Int32) (j : Nat), j < cs.length → (wideBytes cs).getD (2 * j + 1) d = .int (hi8 (cs.getD j 0))
  | [], j, h => absurd h (Nat.not_lt_zero j)
  | c :: cs, 0, _ => rfl
  | c :: cs, j + 1, h => by
    have q := wide_hi d cs j (by simpa using h)
    rw [show 2 * (j + 1) + 1 = 2 * j + 1 + 1 + 1 from by omega]
    simpa [wideBytes] using q
theorem low_at (d : Value) (cs : List Int32) (j : Nat) (h : j < cs.length) : (cs.map fun c => Value.int (lo8 c)).getD j d = .int (lo8 (cs.getD j 0)) := by
  simp [List.getD_eq_getElem?_getD, h]
/-- an array of N2 bytes vs codes the chars cs by the coder cd -/
def CodA (cs : List Int32) (cd N2 : Int32) (vs : List Value) : Prop := (cd = 0 ∧ N2 = Int32.ofNat cs.length ∧ vs = (cs.map fun c => Value.int (lo8 c)) ∧ ∀ c ∈ cs, ¬ 255 < c) ∨ (cd = 1 ∧ N2 = Int32.ofNat (2 * cs.length) ∧ vs = wideBytes cs ∧ ∃ c ∈ cs, 255 < c)
theorem CodA.cod {cs : List Int32} {cd N2 : Int32} {vs : List Value} {V : Cell} (h : CodA cs cd N2 vs) (hn : 2 * cs.length < 2 ^ 31) (hs : V.slots.size = N2.toNatClampNeg) (hv : RoadKit.Has V vs (.int 0)) : Cod cd cs.length (fun j => cs.getD j 0) V := by
  rcases h with ⟨rfl, rfl, rfl, h⟩ | ⟨rfl, rfl, rfl, c, hc, hw⟩
  · rw [n32 (by omega)] at hs
    exact Or.inl ⟨rfl, hs, fun j hj => ⟨by rw [hv j (by omega), low_at _ _ _ hj], by
      have e : cs.getD j 0 = cs[j] := by simp [List.getD_eq_getElem?_getD, hj]
      show ¬ 255 < cs.getD j 0
      rw [e]; exact h _ (List.getElem_mem _)⟩⟩
  · rw [n32 (by omega)] at hs
    obtain ⟨j, hj, rfl⟩ := List.getElem_of_mem hc
    exact Or.inr ⟨rfl, hs, fun j hj => ⟨by rw [hv _ (by omega), wide_lo _ _ _ hj], by rw [hv _ (by omega), wide_hi _ _ _ hj]⟩, j, hj, by
      have e : cs.getD j 0 = cs[j] := by simp [List.getD_eq_getElem?_getD, hj]
      show 255 < cs.getD j 0
      rw [e]; exact hw⟩
/-- an object of exactly java/lang/String, its two fields found: as the laws ask it -/
theorem strObj {Z U : State} {a0 : Array Value} {kI : Nat} (wi : (Jvm.Cond.instantiable ST kI).before a0 Z = true) (al : Z.vm.Alike U.vm) {x : Addr} {v0 c0 : Value} (E : RoadKit.Exa Z U.heap x ST) (V : RoadKit.Fld Z U.heap x ST "value" "[B" v0) (C : RoadKit.Fld Z U.heap x ST "coder" "B" c0) :
    ∃ (D : Cell) (fV fC : Field), Blank ST x D U ∧ Found ST "value" "[B" fV U ∧ Found ST "coder" "B" fC U ∧ D.slots[fV.slot]? = some v0 ∧ D.slots[fC.slot]? = some c0 ∧ RoadKit.slotOf Z ST "value" "[B" = fV.slot ∧ RoadKit.slotOf Z ST "coder" "B" = fC.slot := by
  obtain ⟨D, cfV, kV, iV, fV, hD, gV, stV, knV, obV, asV, slV⟩ := V
  obtain ⟨D', cfC, kC, iC, fC, hD', gC, stC, -, -, asC, slC⟩ := C
  cases hD.symm.trans hD'
  obtain ⟨D2, kD, e1, e2, e3, e4, e5⟩ := E
  cases hD.symm.trans e1
  obtain ⟨c2, k2, i1, i2, i3, -⟩ := Cond.instantiable_spec wi
  cases e2.symm.trans i1
  cases e3.symm.trans i2
  obtain ⟨kU, u1, u2⟩ := al.2.2 _ _ e3
  exact ⟨D, fV, fC, ⟨hD, ⟨knV, fun q hq => by rw [hq] at obV; cases obV⟩, by rw [al.findClass]; exact e2, kU, u1, by rw [u2]; exact i3, by rw [u2]; exact e5 i3⟩, ⟨SBG.found_only al ⟨cfV, kV, iV, gV⟩, stV⟩, ⟨SBG.found_only al ⟨cfC, kC, iC, gC⟩, stC⟩, slV, slC, by simp [RoadKit.slotOf, gV], by simp [RoadKit.slotOf, gC]⟩
theorem sta_is {Z U : State} (al : Z.vm.Alike U.vm) {C n d : String} {v : Value} (S : RoadKit.Sta Z U.heap C n d v) : StaticIs U C n d v := by
  obtain ⟨cfS, iS, kS, fS, st, cS, t1, t2, t3, t4, t5, t6, t7⟩ := S
  exact StaticIs.there (s := { Z with heap := U.heap }) ⟨cfS, iS, kS, fS, st, cS, t1, t2, t3, t4, t5, (fun q => by rw [q] at t6; cases t6), t7⟩ al rfl
/-- **length() OF SUCH A STRING** -/
theorem lenW {p : Program} {l : Launch} {e : Env} {R : Room} {s : State} {args : Array Value} {below : List Frame} {len W : Nat} {Z : State} {a0 : Array Value} {h : Heap} (hZ : Z.Warmed39 s.vm) (hw : ∀ d ∈ wordsLen, d.before a0 Z = true) {kI : Nat} (wi : (Jvm.Cond.instantiable ST kI).before a0 Z = true)
    {x t : Addr} {kb : ClassId} {cs : List Int32} {cd N2 z : Int32} {vs : List Value} (E : RoadKit.Exa Z h x ST) (V : RoadKit.Fld Z h x ST "value" "[B" (.ref t)) (C : RoadKit.Fld Z h x ST "coder" "B" (.int cd)) (K : RoadKit.Arv Z h t kb .byte N2 vs (.int 0)) (hc : CodA cs cd N2 vs) (hb : ∀ c ∈ cs, ¬ c < 0 ∧ ¬ (65535 : Int32) < c)
    (S : RoadKit.Sta Z h ST "COMPACT_STRINGS" "Z" (.int z)) (hz : ¬ z = 0) (l2 : cs.length ≤ 4000) (hfr : 2 ≤ R.frames) (hlo : W + 25 ≤ R.locals) :
    Back l R p e below s args (⟨"java/lang/String", "length", "()I"⟩ : MethodName) len W (fun P a => a = #[.ref x] ∧ P.U.heap = h ∧ P.cells + 0 ≤ R.cells ∧ P.slots + 0 ≤ R.slots)
      (fun P _ v B => ∃ L, (v = some (.int (Int32.ofNat cs.length)) ∧ L = [] ∧ B.U.heap = h) ∧ B.locs = P.locs ++ L ∧ B.cells = P.cells + 0 ∧ B.slots = P.slots + 0) := by
  obtain ⟨A, K1, K2, K3, K4, K5, K6⟩ := K
  have hcod := hc.cod (by omega) K3 K5
  intro m meth c P g ig mk a X hg hsize hdg hW hn hp'
  obtain ⟨rfl, rfl, r1, r2⟩ := hp'
  have al : Z.vm.Alike P.U.vm := hZ.alike.trans X.warmed.alike
  obtain ⟨D, fV, fC, hB, F1, F2, g1, g2, -, -⟩ := strObj wi al E V C
  have hx : Txt x t A cd cs.length (fun j => cs.getD j 0) P.U := ⟨⟨_, hB.2.2.1, D, hB.1, rfl, by cases q : D.vm <;> first | rfl | exact absurd q (hB.2.1.2 _)⟩, Has.of hB F1 g1, Has.of hB F2 g2, ⟨K1.1, State.isArrayOf_alike al K1.2.1, K1.2.2, by rcases hcod with ⟨-, q, -⟩ | ⟨-, q, -⟩ <;> omega⟩, hcod, fun j hj => by
    have e : cs.getD j 0 = cs[j] := by simp [List.getD_eq_getElem?_getD, hj]
    show ¬ cs.getD j 0 < 0 ∧ ¬ 65535 < cs.getD j 0
    rw [e]; exact hb _ (List.getElem_mem _)⟩
  obtain ⟨v, B, X', ⟨⟨hv, hh⟩, hl, hk, hs⟩, st⟩ := Len.pays x t A cd cs.length (fun j => cs.getD j 0) z (tabLen_of (movedLen hZ hw)) hfr hlo m meth c P g ig mk _ X hg hsize hdg hW hn ⟨r1, r2, rfl, hx, sta_is al S, hz⟩
  exact ⟨v, B, X', ⟨[], ⟨hv, rfl, hh⟩, hl, hk, hs⟩, st⟩
end StrChars.Road
namespace StrChars
open Jvm Sem ClassFile Op Lib Jvm.Stand Jvm.Free.XT Jvm.Free.ALB Jvm.Free.JM Jvm.Free
open Jvm.Lib.Cold (StaticIs)
/-- what place i of a byte[]'s cell holds -/
def yv (A : Cell) (i : Nat) : Int32 := match A.slots[i]? with | some (.int x) => x | _ => 0
theorem yv_get {a : Addr} {A : Cell} {U : State} (h : XT.Arr .byte a A U) (ht : Typed .byte A) {i : Nat} (hi : i < A.slots.size) : A.slots[i]? = some (.int (yv A i)) := by
  have e := Array.getElem?_eq_getElem hi
  have f := ht i _ e
  unfold yv; rw [e]
  generalize A.slots[i] = v at f
  cases v <;> simp [fits] at f ⊢
/-- the two arrays are equal, place for place -/
def EqC (A B : Cell) : Prop := A.slots.size = B.slots.size ∧ ∀ i, i < A.slots.size → yv A i = yv B i
/-- a boolean that says whether p -/
def Says01 (q : Prop) (r : Option Value) (s u : State) : Prop := ∃ v : Int32, r = some (.int v) ∧ u.heap = s.heap ∧ ((v = 1 ∧ q) ∨ (v = 0 ∧ ¬ q))
theorem Says01.mv {q : Prop} : ∀ r (U U' V V' : State), U'.heap = U.heap → V.vm.Alike V'.vm → V'.heap = V.heap → Says01 q r U V → Says01 q r U' V' :=
  fun r U U' V V' h1 _ h2 ⟨v, a, b, c⟩ => ⟨v, a, by rw [h1, h2]; exact b, c⟩
namespace LEq
def yN : MethodName := ⟨"java/lang/StringLatin1", "equals", "([B[B)Z"⟩
abbrev yB : ByteArray := jdk_43_method_13_code
theorem d0 : decode yB 0 = .ok (.aload_n 0, 1) := by decide +kernel
theorem d1 : decode yB 1 = .ok (.arraylength, 1) := by decide +kernel
theorem d2 : decode yB 2 = .ok (.aload_n 1, 1) := by decide +kernel
theorem d3 : decode yB 3 = .ok (.arraylength, 1) := by decide +kernel
theorem d4 : decode yB 4 = .ok (.if_icmp (.ne) 30, 3) := by decide +kernel
theorem d7 : decode yB 7 = .ok (.iconst 0, 1) := by decide +kernel
theorem d8 : decode yB 8 = .ok (.istore_n 2, 1) := by decide +kernel
theorem d9 : decode yB 9 = .ok (.iload_n 2, 1) := by decide +kernel
theorem d10 : decode yB 10 = .ok (.aload_n 0, 1) := by decide +kernel
theorem d11 : decode yB 11 = .ok (.arraylength, 1) := by decide +kernel
theorem d12 : decode yB 12 = .ok (.if_icmp (.ge) 20, 3) := by decide +kernel
theorem d15 : decode yB 15 = .ok (.aload_n 0, 1) := by decide +kernel
theorem d16 : decode yB 16 = .ok (.iload_n 2, 1) := by decide +kernel
theorem d17 : decode yB 17 = .ok (.baload, 1) := by decide +kernel
theorem d18 : decode yB 18 = .ok (.aload_n 1, 1) := by decide +kernel
theorem d19 : decode yB 19 = .ok (.iload_n 2, 1) := by decide +kernel
theorem d20 : decode yB 20 = .ok (.baload, 1) := by decide +kernel
theorem d21 : decode yB 21 = .ok (.if_icmp (.eq) 5, 3) := by decide +kernel
theorem d24 : decode yB 24 = .ok (.iconst 0, 1) := by decide +kernel
theorem d25 : decode yB 25 = .ok (.ireturn, 1) := by decide +kernel
theorem d26 : decode yB 26 = .ok (.iinc 2 1, 3) := by decide +kernel
theorem d29 : decode yB 29 = .ok (.goto (-20), 3) := by decide +kernel
theorem d32 : decode yB 32 = .ok (.iconst 1, 1) := by decide +kernel
theorem d33 : decode yB 33 = .ok (.ireturn, 1) := by decide +kernel
theorem d34 : decode yB 34 = .ok (.iconst 0, 1) := by decide +kernel
theorem d35 : decode yB 35 = .ok (.ireturn, 1) := by decide +kernel
def site : List Cond := []
def tab : Cond := tabOf yN yB 3 (some .boolean) site
def P (a : Addr) (A : Cell) (b : Addr) (B : Cell) (args : Array Value) (s : State) : Prop := args = #[.ref a, .ref b] ∧ XT.Arr .byte a A s ∧ Typed .byte A ∧ XT.Arr .byte b B s ∧ Typed .byte B
/-- whether two byte[] are equal, place for place -/
theorem law (l : Launch) (a : Addr) (A : Cell) (b : Addr) (B : Cell) : Law l yN 2 2 0 0 yB 3 (some .boolean) site (P a A b B) (Says01 (EqC A B)) [] 0 0 := by
  refine Law.of_walk (plainFor_of_name (by decide +kernel)) (by decide +kernel) (by decide +kernel) (by decide) (fun _ _ h => by rw [h.1]; rfl) (fun _ U U' hal hh h => ⟨h.1, h.2.1.mv hal hh, h.2.2.1, h.2.2.2.1.mv hal hh, h.2.2.2.2⟩) (fun r U U' V V' h1 hal h2 h => Says01.mv r U U' V V' h1 hal h2 h) ?_
  intro p e s m args below meth c s₁ X0 hexec hbytes hml hret hlk hnm hown hh0 W hP
  obtain ⟨rfl, hA, tA, hB, tB⟩ := hP
  have a31 := hA.2.2.2
  have b31 := hB.2.2.2
  have hA0 := hA.mv X0.warmed.alike hh0
  have hB0 := hB.mv X0.warmed.alike hh0
  have c1 : Steps p.tables e below (s₁.setTop (entryFrame m #[.ref a, .ref b] 3)) (s₁.setTop (mkF m 0 #[.val (.ref a), .val (.ref b), .unset] [])) := entry rfl
  have c2 : Steps p.tables e below (s₁.setTop (entryFrame m #[.ref a, .ref b] 3)) (s₁.setTop (mkF m 4 #[.val (.ref a), .val (.ref b), .unset] [.int (Int32.ofNat B.slots.size), .int (Int32.ofNat A.slots.size)])) := c1.trans (by
    refine XS.aloadN X0.here hexec rfl (hb hbytes d0) rfl rfl ?_
    refine X0.alen hexec hA0 rfl rfl (hb hbytes d1) ?_
    refine XS.aloadN X0.here hexec rfl (hb hbytes d2) rfl rfl ?_
    refine X0.alen hexec hB0 rfl rfl (hb hbytes d3) ?_
    exact Steps.refl _)
  by_cases hs : A.slots.size = B.slots.size
  · have c3 : Steps p.tables e below (s₁.setTop (entryFrame m #[.ref a, .ref b] 3)) (s₁.setTop (mkF m 9 #[.val (.ref a), .val (.ref b), .val (.int 0)] [])) := c2.trans (by
      refine XS.icmpNo X0.here hexec rfl (hb hbytes d4) rfl (ii_ne_f (by rw [hs])) ?_
      refine iconstV X0.here hexec rfl 0 (hb hbytes d7) (by decide) ?_
      refine XS.istoreN X0.here hexec rfl (hb hbytes d8) rfl rfl ?_
      exact Steps.refl _)
    have loop : ∀ (r i : Nat), i + r = A.slots.size → (∀ j, j < i → yv A j = yv B j) → Steps p.tables e below (s₁.setTop (entryFrame m #[.ref a, .ref b] 3)) (s₁.setTop (mkF m 9 #[.val (.ref a), .val (.ref b), .val (.int (Int32.ofNat i))] [])) → ∃ (pc : Nat) (Ls : Array Slot) (v : Int32), (pc = 25 ∨ pc = 33) ∧ ((v = 1 ∧ EqC A B) ∨ (v = 0 ∧ ¬ EqC A B)) ∧ Steps p.tables e below (s₁.setTop (entryFrame m #[.ref a, .ref b] 3)) (s₁.setTop (mkF m pc Ls [.int v])) := by
      intro r
      induction r with
      | zero =>
        intro i hi he cl
        exact ⟨33, _, 1, Or.inr rfl, Or.inl ⟨rfl, hs, fun j hj => he j (by omega)⟩, cl.trans (by
          refine XS.iloadN X0.here hexec rfl (hb hbytes d9) rfl ?_
          refine XS.aloadN X0.here hexec rfl (hb hbytes d10) rfl rfl ?_
          refine X0.alen hexec hA0 rfl rfl (hb hbytes d11) ?_
          refine XS.icmpYes X0.here hexec rfl (pc0 := 12) rfl (hb hbytes d12) rfl (ii_ge_t (nlt32 (by omega) (by omega))) (by decide) rfl ?_
          refine iconstV X0.here hexec rfl 1 (hb hbytes d32) (by decide) ?_
          exact Steps.refl _)⟩
      | succ r ih =>
        intro i hi he cl
        have c4 : Steps p.tables e below (s₁.setTop (entryFrame m #[.ref a, .ref b] 3)) (s₁.setTop (mkF m 21 #[.val (.ref a), .val (.ref b), .val (.int (Int32.ofNat i))] [.int (yv B i), .int (yv A i)])) := cl.trans (by
          refine XS.iloadN X0.here hexec rfl (hb hbytes d9) rfl ?_
          refine XS.aloadN X0.here hexec rfl (hb hbytes d10) rfl rfl ?_
          refine X0.alen hexec hA0 rfl rfl (hb hbytes d11) ?_
          refine XS.icmpNo X0.here hexec rfl (hb hbytes d12) rfl (ii_ge_f (lt32 (by omega) (by omega))) ?_
          refine XS.aloadN X0.here hexec rfl (hb hbytes d15) rfl rfl ?_
          refine XS.iloadN X0.here hexec rfl (hb hbytes d16) rfl ?_
          refine X0.aget hexec hA0 rfl (yv_get hA tA (i := i) (by omega)) rfl rfl (hb hbytes d17) ?_
          refine XS.aloadN X0.here hexec rfl (hb hbytes d18) rfl rfl ?_
          refine XS.iloadN X0.here hexec rfl (hb hbytes d19) rfl ?_
          refine X0.aget hexec hB0 rfl (yv_get hB tB (i := i) (by omega)) rfl rfl (hb hbytes d20) ?_
          exact Steps.refl _)
        by_cases hv : yv A i = yv B i
        · have c5 : Steps p.tables e below (s₁.setTop (entryFrame m #[.ref a, .ref b] 3)) (s₁.setTop (mkF m 9 #[.val (.ref a), .val (.ref b), .val (.int (Int32.ofNat i + 1))] [])) := c4.trans (by
            refine XS.icmpYes X0.here hexec rfl (pc0 := 21) rfl (hb hbytes d21) rfl (ii_eq_t hv) (by decide) rfl ?_
            refine iincV X0.here hexec rfl 1 (hb hbytes d26) (by decide) rfl rfl ?_
            refine XS.goto X0.here hexec rfl (pc0 := 29) rfl (hb hbytes d29) (by decide) rfl ?_
            exact Steps.refl _)
          rw [succ32] at c5
          exact ih (i + 1) (by omega) (fun j hj => by
            by_cases e : j = i
            · rw [e]; exact hv
            · exact he j (by omega)) c5
        · exact ⟨25, _, 0, Or.inl rfl, Or.inr ⟨rfl, fun q => hv (q.2 i (by omega))⟩, c4.trans (by
            refine XS.icmpNo X0.here hexec rfl (hb hbytes d21) rfl (ii_eq_f hv) ?_
            refine iconstV X0.here hexec rfl 0 (hb hbytes d24) (by decide) ?_
            exact Steps.refl _)⟩
    obtain ⟨pc, Ls, v, hpc, hv, cz⟩ := loop A.slots.size 0 (by omega) (fun j hj => absurd hj (Nat.not_lt_zero j)) c3
    have nv : narrow .boolean (.int v) = .int v := by rcases hv with ⟨rfl, -⟩ | ⟨rfl, -⟩ <;> rfl
    rcases hpc with rfl | rfl
    · exact ⟨s₁, some (.int v), _, _, _, X0, rfl, rfl, rfl, (fun h => by cases h), ⟨v, rfl, hh0, hv⟩, fun fs hl => cz.trans (X0.ireturnOut hexec hret nv (Or.inr (Or.inl rfl)) (hb hbytes d25) hl)⟩
    · exact ⟨s₁, some (.int v), _, _, _, X0, rfl, rfl, rfl, (fun h => by cases h), ⟨v, rfl, hh0, hv⟩, fun fs hl => cz.trans (X0.ireturnOut hexec hret nv (Or.inr (Or.inl rfl)) (hb hbytes d33) hl)⟩
  · have c3 : Steps p.tables e below (s₁.setTop (entryFrame m #[.ref a, .ref b] 3)) (s₁.setTop (mkF m 35 #[.val (.ref a), .val (.ref b), .unset] [.int 0])) := c2.trans (by
      refine XS.icmpYes X0.here hexec rfl (pc0 := 4) rfl (hb hbytes d4) rfl (ii_ne_t (ne32 a31 b31 hs)) (by decide) rfl ?_
      refine iconstV X0.here hexec rfl 0 (hb hbytes d34) (by decide) ?_
      exact Steps.refl _)
    exact ⟨s₁, some (.int 0), _, _, _, X0, rfl, rfl, rfl, (fun h => by cases h), ⟨0, rfl, hh0, Or.inr ⟨rfl, fun q => hs q.1⟩⟩, fun fs hl => c3.trans (X0.ireturnOut hexec hret rfl (Or.inr (Or.inl rfl)) (hb hbytes d35) hl)⟩
end LEq
theorem Cod.ty {cd : Int32} {n : Nat} {f : Nat → Int32} {V : Cell} (h : Cod cd n f V) : Typed .byte V := fun i v hv => by
  have hi : i < V.slots.size := (Array.getElem?_eq_some_iff.mp hv).1
  rcases h with ⟨-, k1, k2⟩ | ⟨-, k1, k2, -⟩
  · rw [(k2 i (by omega)).1] at hv; cases hv; exact fits_lo8 _
  · rcases Nat.mod_two_eq_zero_or_one i with e | e
    · obtain ⟨j, rfl⟩ : ∃ j, i = 2 * j := ⟨i / 2, by omega⟩
      rw [(k2 j (by omega)).1] at hv; cases hv; exact fits_lo8 _
    · obtain ⟨j, rfl⟩ : ∃ j, i = 2 * j + 1 := ⟨i / 2, by omega⟩
      rw [(k2 j (by omega)).2] at hv; cases hv; exact fits_lo8 _
/-- the same text -/
def SameT (n : Nat) (f : Nat → Int32) (k : Nat) (g : Nat → Int32) : Prop := n = k ∧ ∀ j, j < n → f j = g j
theorem lo8_inj {x y : Int32} (h0 : ¬ x < 0) (h1 : ¬ 255 < x) (k0 : ¬ y < 0) (k1 : ¬ 255 < y) (h : lo8 x = lo8 y) : x = y := by
  rw [← lo8_mask h0 h1, ← lo8_mask k0 k1, h]
/-- arrays coded by one coder are equal just where the texts are -/
theorem Cod.eqv {cd : Int32} {n k : Nat} {f g : Nat → Int32} {V V' : Cell} (h : Cod cd n f V) (h' : Cod cd k g V') (hf : ∀ j, j < n → ¬ f j < 0 ∧ ¬ 65535 < f j) (hg : ∀ j, j < k → ¬ g j < 0 ∧ ¬ 65535 < g j) : EqC V V' ↔ SameT n f k g := by
  have yvv : ∀ {W : Cell} {i : Nat} {x : Int32}, W.slots[i]? = some (.int x) → yv W i = x := fun q => by unfold yv; rw [q]
  rcases h with ⟨rfl, k1, k2⟩ | ⟨rfl, k1, k2, -⟩
  · rcases h' with ⟨-, m1, m2⟩ | ⟨e, -⟩
    · constructor
      · rintro ⟨e1, e2⟩
        refine ⟨by omega, fun j hj => ?_⟩
        have q := e2 j (by omega)
        rw [yvv (k2 j hj).1, yvv (m2 j (by omega)).1] at q
        exact lo8_inj (hf j hj).1 (k2 j hj).2 (hg j (by omega)).1 (m2 j (by omega)).2 q
      · rintro ⟨rfl, e2⟩
        refine ⟨by omega, fun j hj => ?_⟩
        rw [yvv (k2 j (by omega)).1, yvv (m2 j (by omega)).1, e2 j (by omega)]
    · exact absurd e (by decide)
  · rcases h' with ⟨e, -⟩ | ⟨-, m1, m2, -⟩
    · exact absurd e (by decide)
    · constructor
      · rintro ⟨e1, e2⟩
        refine ⟨by omega, fun j hj => ?_⟩
        have q1 := e2 (2 * j) (by omega)
        have q2 := e2 (2 * j + 1) (by omega)
        rw [yvv (k2 j hj).1, yvv (m2 j (by omega)).1] at q1
        rw [yvv (k2 j hj).2, yvv (m2 j (by omega)).2] at q2
        rw [← pair_says (hf j hj).1 (hf j hj).2, ← pair_says (hg j (by omega)).1 (hg j (by omega)).2, q1, q2]
      · rintro ⟨rfl, e2⟩
        refine ⟨by omega, fun i hi => ?_⟩
        rcases Nat.mod_two_eq_zero_or_one i with e | e
        · obtain ⟨j, rfl⟩ : ∃ j, i = 2 * j := ⟨i / 2, by omega⟩
          rw [yvv (k2 j (by omega)).1, yvv (m2 j (by omega)).1, e2 j (by omega)]
        · obtain ⟨j, rfl⟩ : ∃ j, i = 2 * j + 1 := ⟨i / 2, by omega⟩
          rw [yvv (k2 j (by omega)).2, yvv (m2 j (by omega)).2, e2 j (by omega)]
/-- two codings differ: so do the texts -/
theorem Cod.dif {cd cd' : Int32} {n k : Nat} {f g : Nat → Int32} {V V' : Cell} (h : Cod cd n f V) (h' : Cod cd' k g V') (hne : ¬ cd = cd') : ¬ SameT n f k g := by
  rintro ⟨rfl, e⟩
  rcases h with ⟨rfl, -, k2⟩ | ⟨rfl, -, -, j, hj, hw⟩
  · rcases h' with ⟨rfl, -⟩ | ⟨-, -, -, j, hj, hw⟩
    · exact hne rfl
    · exact (k2 j hj).2 (by rw [e j hj]; exact hw)
  · rcases h' with ⟨-, -, m2⟩ | ⟨rfl, -⟩
    · exact (m2 j hj).2 (by rw [← e j hj]; exact hw)
    · exact hne rfl
/-- an object of exactly C is an instance of C -/
theorem cinst {p : Program} {l : Launch} {e : Env} {R : Room} {s : State} {m : MethodId} {args : Array Value} {below : List Frame} {meth : Method} {c : Code} {T : State} {locs : List Loc} {cells slots : Nat} (X : Stand p l e R s m args below meth c T locs cells slots) (hexec : p.tables.exec = Jvm.exec) {own C : String} {index : Nat} (hown : s.vm.findClass own = some m.cls) (hlink : (Cond.classLink own index C).before args s = true) {a : Addr} (hE : Exact C a T)
    {g : JFrame} (hg : g.method = m) {rest : List Value} (hstack : g.stack = .ref a :: rest) (hdg : decode c.code g.pc = .ok (.instanceof index, 3)) :
    ∃ T', Stand p l e R s m args below meth c T' locs cells slots ∧ T'.heap = T.heap ∧ ∀ target, Steps p.tables e below (T'.setTop { g with pc := g.pc + 3, stack := .int 1 :: rest }) target → Steps p.tables e below (T.setTop g) target := by
  obtain ⟨cB, h1, D, h2, h3, h4⟩ := hE
  have h1' : s.vm.findClass C = some cB := by rw [← X.warmed.alike.findClass]; exact h1
  obtain ⟨vm', X', st⟩ := X.instanceofYes hexec hown hlink h2 h4 h1' (by rw [h3]; exact Jvm.Free.SB.assignable_self _ _) hg hstack hdg
  exact ⟨_, X', rfl, st⟩
theorem cself {p : Program} {l : Launch} {e : Env} {R : Room} {s : State} {m : MethodId} {args : Array Value} {below : List Frame} {meth : Method} {c : Code} {T : State} {locs : List Loc} {cells slots : Nat} (X : Stand p l e R s m args below meth c T locs cells slots) (hexec : p.tables.exec = Jvm.exec) {own C : String} {index : Nat} (hown : s.vm.findClass own = some m.cls) (hlink : (Cond.classLink own index C).before args s = true) {a : Addr} (hE : Exact C a T)
    {g : JFrame} (hg : g.method = m) {rest : List Value} (hstack : g.stack = .ref a :: rest) (hdg : decode c.code g.pc = .ok (.checkcast index, 3)) :
    ∃ T', Stand p l e R s m args below meth c T' locs cells slots ∧ T'.heap = T.heap ∧ ∀ target, Steps p.tables e below (T'.setTop { g with pc := g.pc + 3, stack := .ref a :: rest }) target → Steps p.tables e below (T.setTop g) target := by
  obtain ⟨cB, h1, D, h2, h3, h4⟩ := hE
  have h1' : s.vm.findClass C = some cB := by rw [← X.warmed.alike.findClass]; exact h1
  obtain ⟨vm', X', st⟩ := X.checkcastYes hexec hown hlink h2 h4 h1' (by rw [h3]; exact Jvm.Free.SB.assignable_self _ _) hg hstack hdg
  exact ⟨_, X', rfl, fun t h => st t (by rw [← hstack] at h; exact h)⟩
namespace SEq
def yN : MethodName := ⟨"java/lang/String", "equals", "(Ljava/lang/Object;)Z"⟩
abbrev yB : ByteArray := jdk_42_method_66_code
theorem d0 : decode yB 0 = .ok (.aload_n 0, 1) := by decide +kernel
theorem d1 : decode yB 1 = .ok (.aload_n 1, 1) := by decide +kernel
theorem d2 : decode yB 2 = .ok (.if_acmp (.ne) 5, 3) := by decide +kernel
theorem d5 : decode yB 5 = .ok (.iconst 1, 1) := by decide +kernel
theorem d6 : decode yB 6 = .ok (.ireturn, 1) := by decide +kernel
theorem d7 : decode yB 7 = .ok (.aload_n 1, 1) := by decide +kernel
theorem d8 : decode yB 8 = .ok (.instanceof 10, 3) := by decide +kernel
theorem d11 : decode yB 11 = .ok (.ifCond (.eq) 43, 3) := by decide +kernel
theorem d14 : decode yB 14 = .ok (.aload_n 1, 1) := by decide +kernel
theorem d15 : decode yB 15 = .ok (.checkcast 10, 3) := by decide +kernel
theorem d18 : decode yB 18 = .ok (.astore_n 2, 1) := by decide +kernel
theorem d19 : decode yB 19 = .ok (.getstatic 38, 3) := by decide +kernel
theorem d22 : decode yB 22 = .ok (.ifCond (.eq) 14, 3) := by decide +kernel
theorem d25 : decode yB 25 = .ok (.aload_n 0, 1) := by decide +kernel
theorem d26 : decode yB 26 = .ok (.getfield 15, 3) := by decide +kernel
theorem d29 : decode yB 29 = .ok (.aload_n 2, 1) := by decide +kernel
theorem d30 : decode yB 30 = .ok (.getfield 15, 3) := by decide +kernel
theorem d33 : decode yB 33 = .ok (.if_icmp (.ne) 21, 3) := by decide +kernel
theorem d36 : decode yB 36 = .ok (.aload_n 0, 1) := by decide +kernel
theorem d37 : decode yB 37 = .ok (.getfield 9, 3) := by decide +kernel
theorem d40 : decode yB 40 = .ok (.aload_n 2, 1) := by decide +kernel
theorem d41 : decode yB 41 = .ok (.getfield 9, 3) := by decide +kernel
theorem d44 : decode yB 44 = .ok (.invokestatic 541, 3) := by decide +kernel
theorem d47 : decode yB 47 = .ok (.ifCond (.eq) 7, 3) := by decide +kernel
theorem d50 : decode yB 50 = .ok (.iconst 1, 1) := by decide +kernel
theorem d51 : decode yB 51 = .ok (.goto 4, 3) := by decide +kernel
theorem d54 : decode yB 54 = .ok (.iconst 0, 1) := by decide +kernel
theorem d55 : decode yB 55 = .ok (.ireturn, 1) := by decide +kernel
def site : List Cond := [.classLink "java/lang/String" 10 "java/lang/String", .fieldLink "java/lang/String" 38 "java/lang/String" "COMPACT_STRINGS" "Z", .fieldLink "java/lang/String" 15 "java/lang/String" "coder" "B", .fieldLink "java/lang/String" 9 "java/lang/String" "value" "[B", LEq.tab] ++ staticW "java/lang/String" 541 LEq.yN
def tab : Cond := tabOf yN yB 3 (some .boolean) site
def P (x t : Addr) (V : Cell) (cd : Int32) (n : Nat) (f : Nat → Int32) (y t' : Addr) (V' : Cell) (cd' : Int32) (k : Nat) (g : Nat → Int32) (z : Int32) (args : Array Value) (s : State) : Prop := args = #[.ref x, .ref y] ∧ Txt x t V cd n f s ∧ Txt y t' V' cd' k g s ∧ StaticIs s "java/lang/String" "COMPACT_STRINGS" "Z" (.int z) ∧ ¬ z = 0
/-- equals(Object) of two Strings: whether the texts are the same -/
theorem law (l : Launch) (x t : Addr) (V : Cell) (cd : Int32) (n : Nat) (f : Nat → Int32) (y t' : Addr) (V' : Cell) (cd' : Int32) (k : Nat) (g : Nat → Int32) (z : Int32) : Law l yN 2 1 1 14 yB 3 (some .boolean) site (P x t V cd n f y t' V' cd' k g z) (Says01 (SameT n f k g)) [] 0 0 := by
  refine Law.of_walk (plainFor_of_name (by decide +kernel)) (by decide +kernel) (by decide +kernel) (by decide) (fun _ _ h => by rw [h.1]; rfl) (fun _ U U' hal hh h => ⟨h.1, h.2.1.mv hal hh, h.2.2.1.mv hal hh, h.2.2.2.1.there hal hh, h.2.2.2.2⟩) (fun r U U' V V' h1 hal h2 h => Says01.mv r U U' V V' h1 hal h2 h) ?_
  intro p e s m args below meth c s₁ X0 hexec hbytes hml hret hlk hnm hown hh0 W hP
  obtain ⟨rfl, hx, hy, s1, hz⟩ := hP
  have c1 : Steps p.tables e below (s₁.setTop (entryFrame m #[.ref x, .ref y] 3)) (s₁.setTop (mkF m 2 #[.val (.ref x), .val (.ref y), .unset] [.ref y, .ref x])) := Steps.trans (entry rfl) (by
    show Steps p.tables e below (s₁.setTop (mkF m 0 #[.val (.ref x), .val (.ref y), .unset] [])) _
    refine XS.aloadN X0.here hexec rfl (hb hbytes d0) rfl rfl ?_
    refine XS.aloadN X0.here hexec rfl (hb hbytes d1) rfl rfl ?_
    exact Steps.refl _)
  by_cases hxy : x = y
  · have c2 : Steps p.tables e below (s₁.setTop (entryFrame m #[.ref x, .ref y] 3)) (s₁.setTop (mkF m 6 #[.val (.ref x), .val (.ref y), .unset] [.int 1])) := c1.trans (by
      refine acmpNo X0.here hexec rfl (hb hbytes d2) rfl rfl rfl (by simp [acmp, hxy]) ?_
      refine iconstV X0.here hexec rfl 1 (hb hbytes d5) (by decide) ?_
      exact Steps.refl _)
    subst hxy
    have ec : cd = cd' := by
      obtain ⟨D, fd, a1, a2, a3⟩ := hx.2.2.1
      obtain ⟨D', fd', b1, b2, b3⟩ := hy.2.2.1
      cases a1.symm.trans b1
      obtain ⟨q1, q2, q3, q4⟩ := a2.1
      obtain ⟨r1, r2, r3, r4⟩ := b2.1
      cases q4.symm.trans r4
      cases a3.symm.trans b3; rfl
    have et : t = t' := by
      obtain ⟨D, fd, a1, a2, a3⟩ := hx.2.1
      obtain ⟨D', fd', b1, b2, b3⟩ := hy.2.1
      cases a1.symm.trans b1
      obtain ⟨q1, q2, q3, q4⟩ := a2.1
      obtain ⟨r1, r2, r3, r4⟩ := b2.1
      cases q4.symm.trans r4
      cases a3.symm.trans b3; rfl
    subst ec et
    have ev : V = V' := by cases hx.2.2.2.1.1.symm.trans hy.2.2.2.1.1; rfl
    subst ev
    have hs : SameT n f k g := (Cod.eqv hx.2.2.2.2.1 hy.2.2.2.2.1 hx.2.2.2.2.2 hy.2.2.2.2.2).mp ⟨rfl, fun _ _ => rfl⟩
    exact ⟨s₁, some (.int 1), _, _, _, X0, rfl, rfl, rfl, (fun h => by cases h), ⟨1, rfl, hh0, Or.inl ⟨rfl, hs⟩⟩, fun fs hl => c2.trans (X0.ireturnOut hexec hret rfl (Or.inr (Or.inl rfl)) (hb hbytes d6) hl)⟩
  · have c2 : Steps p.tables e below (s₁.setTop (entryFrame m #[.ref x, .ref y] 3)) (s₁.setTop (mkF m 8 #[.val (.ref x), .val (.ref y), .unset] [.ref y])) := c1.trans (by
      refine acmpYes X0.here hexec rfl (pc0 := 2) rfl (hb hbytes d2) rfl rfl rfl (by simp [acmp, hxy]) (by decide) rfl ?_
      refine XS.aloadN X0.here hexec rfl (hb hbytes d7) rfl rfl ?_
      exact Steps.refl _)
    obtain ⟨T3, X3, q3, st3⟩ := cinst X0 hexec hown (wk W (.classLink "java/lang/String" 10 "java/lang/String")) (hy.mv X0.warmed.alike hh0).1 (g := (mkF m 8 #[.val (.ref x), .val (.ref y), .unset] [.ref y])) rfl (rest := []) rfl (hb hbytes d8)
    have hh3 := q3.trans hh0
    have c4 : Steps p.tables e below (s₁.setTop (entryFrame m #[.ref x, .ref y] 3)) (T3.setTop (mkF m 15 #[.val (.ref x), .val (.ref y), .unset] [.ref y])) := (c2.trans (st3 _ (Steps.refl _))).trans (by
      refine XS.ifNo X3.here hexec rfl (hb hbytes d11) rfl (i0_eq_f (by decide)) ?_
      refine XS.aloadN X3.here hexec rfl (hb hbytes d14) rfl rfl ?_
      exact Steps.refl _)
    obtain ⟨T5, X5, q5, st5⟩ := cself X3 hexec hown (wk W (.classLink "java/lang/String" 10 "java/lang/String")) (hy.mv X3.warmed.alike hh3).1 (g := (mkF m 15 #[.val (.ref x), .val (.ref y), .unset] [.ref y])) rfl (rest := []) rfl (hb hbytes d15)
    have hh5 := q5.trans hh3
    have c6 : Steps p.tables e below (s₁.setTop (entryFrame m #[.ref x, .ref y] 3)) (T5.setTop (mkF m 19 #[.val (.ref x), .val (.ref y), .val (.ref y)] [])) := (c4.trans (st5 _ (Steps.refl _))).trans (by
      refine XS.astoreN X5.here hexec rfl (hb hbytes d18) rfl rfl rfl ?_
      exact Steps.refl _)
    obtain ⟨T7, X7, q7, st7⟩ := X5.sget hexec hown (wk W (.fieldLink "java/lang/String" 38 "java/lang/String" "COMPACT_STRINGS" "Z")) s1 (fun _ _ h => by rw [hh5]; exact h) (g := (mkF m 19 #[.val (.ref x), .val (.ref y), .val (.ref y)] [])) rfl (hb hbytes d19)
    have hh7 := q7.trans hh5
    have c8 : Steps p.tables e below (s₁.setTop (entryFrame m #[.ref x, .ref y] 3)) (T7.setTop (mkF m 26 #[.val (.ref x), .val (.ref y), .val (.ref y)] [.ref x])) := (c6.trans (st7 _ (Steps.refl _))).trans (by
      refine XS.ifNo X7.here hexec rfl (hb hbytes d22) rfl (i0_eq_f hz) ?_
      refine XS.aloadN X7.here hexec rfl (hb hbytes d25) rfl rfl ?_
      exact Steps.refl _)
    obtain ⟨T9, X9, q9, st9⟩ := X7.hget hexec hown (wk W (.fieldLink "java/lang/String" 15 "java/lang/String" "coder" "B")) (hx.mv X7.warmed.alike hh7).2.2.1 (g := (mkF m 26 #[.val (.ref x), .val (.ref y), .val (.ref y)] [.ref x])) rfl (rest := []) rfl (hb hbytes d26)
    have hh9 := q9.trans hh7
    have c10 : Steps p.tables e below (s₁.setTop (entryFrame m #[.ref x, .ref y] 3)) (T9.setTop (mkF m 30 #[.val (.ref x), .val (.ref y), .val (.ref y)] [.ref y, .int cd])) := (c8.trans (st9 _ (Steps.refl _))).trans (by
      refine XS.aloadN X9.here hexec rfl (hb hbytes d29) rfl rfl ?_
      exact Steps.refl _)
    obtain ⟨T11, X11, q11, st11⟩ := X9.hget hexec hown (wk W (.fieldLink "java/lang/String" 15 "java/lang/String" "coder" "B")) (hy.mv X9.warmed.alike hh9).2.2.1 (g := (mkF m 30 #[.val (.ref x), .val (.ref y), .val (.ref y)] [.ref y, .int cd])) rfl (rest := [.int cd]) rfl (hb hbytes d30)
    have hh11 := q11.trans hh9
    have c12 : Steps p.tables e below (s₁.setTop (entryFrame m #[.ref x, .ref y] 3)) (T11.setTop (mkF m 33 #[.val (.ref x), .val (.ref y), .val (.ref y)] [.int cd', .int cd])) := c10.trans (st11 _ (Steps.refl _))
    by_cases hcd : cd = cd'
    · subst hcd
      have c13 : Steps p.tables e below (s₁.setTop (entryFrame m #[.ref x, .ref y] 3)) (T11.setTop (mkF m 37 #[.val (.ref x), .val (.ref y), .val (.ref y)] [.ref x])) := c12.trans (by
        refine XS.icmpNo X11.here hexec rfl (hb hbytes d33) rfl (ii_ne_f rfl) ?_
        refine XS.aloadN X11.here hexec rfl (hb hbytes d36) rfl rfl ?_
        exact Steps.refl _)
      obtain ⟨T14, X14, q14, st14⟩ := X11.hget hexec hown (wk W (.fieldLink "java/lang/String" 9 "java/lang/String" "value" "[B")) (hx.mv X11.warmed.alike hh11).2.1 (g := (mkF m 37 #[.val (.ref x), .val (.ref y), .val (.ref y)] [.ref x])) rfl (rest := []) rfl (hb hbytes d37)
      have hh14 := q14.trans hh11
      have c15 : Steps p.tables e below (s₁.setTop (entryFrame m #[.ref x, .ref y] 3)) (T14.setTop (mkF m 41 #[.val (.ref x), .val (.ref y), .val (.ref y)] [.ref y, .ref t])) := (c13.trans (st14 _ (Steps.refl _))).trans (by
        refine XS.aloadN X14.here hexec rfl (hb hbytes d40) rfl rfl ?_
        exact Steps.refl _)
      obtain ⟨T16, X16, q16, st16⟩ := X14.hget hexec hown (wk W (.fieldLink "java/lang/String" 9 "java/lang/String" "value" "[B")) (hy.mv X14.warmed.alike hh14).2.1 (g := (mkF m 41 #[.val (.ref x), .val (.ref y), .val (.ref y)] [.ref y, .ref t])) rfl (rest := [.ref t]) rfl (hb hbytes d41)
      have hh16 := q16.trans hh14
      have c17 : Steps p.tables e below (s₁.setTop (entryFrame m #[.ref x, .ref y] 3)) (T16.setTop (mkF m 44 #[.val (.ref x), .val (.ref y), .val (.ref y)] [.ref t', .ref t])) := c15.trans (st16 _ (Steps.refl _))
      obtain ⟨v18, T18, X18, E18, g18⟩ := X16.callS hexec (LEq.law l t V t' V') hown (wks W (staticW "java/lang/String" 541 LEq.yN)) (wk W LEq.tab) (W := 0) (Nat.le_of_ble_eq_true rfl) (Nat.le_of_ble_eq_true rfl) (Nat.le_refl _) (Nat.le_refl _) (g := (mkF m 44 #[.val (.ref x), .val (.ref y), .val (.ref y)] [.ref t', .ref t])) rfl (by rw [hml]; rfl) c17 (argsL := [.ref t, .ref t']) (rest := []) rfl rfl (by show 2 * 0 + 0 ≤ _; decide) (hb hbytes d44) (⟨rfl, hx.2.2.2.1.mv X16.warmed.alike hh16, hx.2.2.2.2.1.ty, hy.2.2.2.1.mv X16.warmed.alike hh16, hy.2.2.2.2.1.ty⟩)
      obtain ⟨v, rfl, q18, hv⟩ := E18
      have iff := Cod.eqv hx.2.2.2.2.1 hy.2.2.2.2.1 hx.2.2.2.2.2 hy.2.2.2.2.2
      rcases hv with ⟨rfl, he⟩ | ⟨rfl, he⟩
      · have c19 : Steps p.tables e below (s₁.setTop (entryFrame m #[.ref x, .ref y] 3)) (T18.setTop (mkF m 55 #[.val (.ref x), .val (.ref y), .val (.ref y)] [.int 1])) := Steps.trans g18 (by
          refine XS.ifNo X18.here hexec rfl (hb hbytes d47) rfl (i0_eq_f (by decide)) ?_
          refine iconstV X18.here hexec rfl 1 (hb hbytes d50) (by decide) ?_
          refine XS.goto X18.here hexec rfl (pc0 := 51) rfl (hb hbytes d51) (by decide) rfl ?_
          exact Steps.refl _)
        exact ⟨T18, some (.int 1), _, _, _, X18, rfl, rfl, rfl, (fun h => by cases h), ⟨1, rfl, q18.trans hh16, Or.inl ⟨rfl, iff.mp he⟩⟩, fun fs hl => c19.trans (X18.ireturnOut hexec hret rfl (Or.inr (Or.inl rfl)) (hb hbytes d55) hl)⟩
      · have c19 : Steps p.tables e below (s₁.setTop (entryFrame m #[.ref x, .ref y] 3)) (T18.setTop (mkF m 55 #[.val (.ref x), .val (.ref y), .val (.ref y)] [.int 0])) := Steps.trans g18 (by
          refine XS.ifYes X18.here hexec rfl (pc0 := 47) rfl (hb hbytes d47) rfl (i0_eq_t rfl) (by decide) rfl ?_
          refine iconstV X18.here hexec rfl 0 (hb hbytes d54) (by decide) ?_
          exact Steps.refl _)
        exact ⟨T18, some (.int 0), _, _, _, X18, rfl, rfl, rfl, (fun h => by cases h), ⟨0, rfl, q18.trans hh16, Or.inr ⟨rfl, fun q => he (iff.mpr q)⟩⟩, fun fs hl => c19.trans (X18.ireturnOut hexec hret rfl (Or.inr (Or.inl rfl)) (hb hbytes d55) hl)⟩
    · have c13 : Steps p.tables e below (s₁.setTop (entryFrame m #[.ref x, .ref y] 3)) (T11.setTop (mkF m 55 #[.val (.ref x), .val (.ref y), .val (.ref y)] [.int 0])) := c12.trans (by
        refine XS.icmpYes X11.here hexec rfl (pc0 := 33) rfl (hb hbytes d33) rfl (ii_ne_t hcd) (by decide) rfl ?_
        refine iconstV X11.here hexec rfl 0 (hb hbytes d54) (by decide) ?_
        exact Steps.refl _)
      exact ⟨T11, some (.int 0), _, _, _, X11, rfl, rfl, rfl, (fun h => by cases h), ⟨0, rfl, hh11, Or.inr ⟨rfl, Cod.dif hx.2.2.2.2.1 hy.2.2.2.2.1 hcd⟩⟩, fun fs hl => c13.trans (X11.ireturnOut hexec hret rfl (Or.inr (Or.inl rfl)) (hb hbytes d55) hl)⟩
theorem pays {l : Launch} {R : Room} {p : Program} {e : Env} {below : List Frame} {s : State} {sargs : Array Value} {len W : Nat} (x t : Addr) (V : Cell) (cd : Int32) (n : Nat) (f : Nat → Int32) (y t' : Addr) (V' : Cell) (cd' : Int32) (k : Nat) (g : Nat → Int32) (z : Int32) (htab : tab.before sargs s = true) (hfr : 2 ≤ R.frames) (hlo : W + 28 ≤ R.locals) :
    Back l R p e below s sargs yN len W (fun A₁ a₁ => A₁.cells + 0 ≤ R.cells ∧ A₁.slots + 0 ≤ R.slots ∧ P x t V cd n f y t' V' cd' k g z a₁ A₁.U) (fun A₁ _ v₁ B₁ => Says01 (SameT n f k g) v₁ A₁.U B₁.U ∧ B₁.locs = A₁.locs ++ [] ∧ B₁.cells = A₁.cells + 0 ∧ B₁.slots = A₁.slots + 0) :=
  (law l x t V cd n f y t' V' cd' k g z).pays htab hfr (by omega)
end SEq
end StrChars
namespace StrChars.Road
open Jvm Sem ClassFile Op Lib Jvm.Stand Jvm.Free Jvm.Free.XT
open Jvm.Lib.Cold (StaticIs)
/-- the words of String.equals(Object) -/
abbrev wordsEq : List Jvm.Cond := [.code SEq.yN SEq.yB 3 (some .boolean), .initialized ST, .classLink ST 10 ST, .fieldLink ST 38 ST "COMPACT_STRINGS" "Z", .fieldLink ST 15 ST "coder" "B", .fieldLink ST 9 ST "value" "[B", .methodLink ST 541 LEq.yN, .static LEq.yN, .code LEq.yN LEq.yB 3 (some .boolean), .initialized "java/lang/StringLatin1"]
theorem tabEq_of {a : Array Value} {s : State} (h : ∀ w ∈ wordsEq, w.before a s = true) : SEq.tab.before a s = true := by
  have hl : LEq.tab.before a s = true := unparts (wk h (.code LEq.yN LEq.yB 3 (some .boolean))) (wks h (.initialized LEq.yN.cls :: LEq.site))
  have q := consq hl h
  exact unparts (wk q (.code SEq.yN SEq.yB 3 (some .boolean))) (wks q (.initialized SEq.yN.cls :: SEq.site))
theorem movedEq {Z s : State} {a0 args : Array Value} (hZ : Z.Warmed39 s.vm) (hw : ∀ d ∈ wordsEq, d.before a0 Z = true) : ∀ d ∈ wordsEq, d.before args s = true := fun d hd => by
  have t : ∀ d ∈ wordsEq, (d.onTables && d.keepsFace) = true := by decide +kernel
  exact RoadKit.mv hZ (hw d hd) (t d hd)
/-- the road's facts of a String, as the laws ask it -/
theorem txt_of {Z U : State} {a0 : Array Value} {kI : Nat} (wi : (Jvm.Cond.instantiable ST kI).before a0 Z = true) (al : Z.vm.Alike U.vm) {x t : Addr} {kb : ClassId} {cs : List Int32} {cd N2 : Int32} {vs : List Value} (E : RoadKit.Exa Z U.heap x ST) (V : RoadKit.Fld Z U.heap x ST "value" "[B" (.ref t)) (C : RoadKit.Fld Z U.heap x ST "coder" "B" (.int cd)) (K : RoadKit.Arv Z U.heap t kb .byte N2 vs (.int 0)) (hc : CodA cs cd N2 vs) (hb : ∀ c ∈ cs, ¬ c < 0 ∧ ¬ (65535 : Int32) < c) (l2 : cs.length ≤ 4000) :
    ∃ A, Txt x t A cd cs.length (fun j => cs.getD j 0) U := by
  obtain ⟨A, K1, K2, K3, K4, K5, K6⟩ := K
  have hcod := hc.cod (by omega) K3 K5
  obtain ⟨D, fV, fC, hB, F1, F2, g1, g2, -, -⟩ := strObj wi al E V C
  exact ⟨A, ⟨_, hB.2.2.1, D, hB.1, rfl, by cases q : D.vm <;> first | rfl | exact absurd q (hB.2.1.2 _)⟩, Has.of hB F1 g1, Has.of hB F2 g2, ⟨K1.1, State.isArrayOf_alike al K1.2.1, K1.2.2, by rcases hcod with ⟨-, q, -⟩ | ⟨-, q, -⟩ <;> omega⟩, hcod, fun j hj => by
    have e : cs.getD j 0 = cs[j] := by simp [List.getD_eq_getElem?_getD, hj]
    show ¬ cs.getD j 0 < 0 ∧ ¬ 65535 < cs.getD j 0
    rw [e]; exact hb _ (List.getElem_mem _)⟩
theorem same_list (cs ds : List Int32) : SameT cs.length (fun j => cs.getD j 0) ds.length (fun j => ds.getD j 0) ↔ cs = ds := by
  constructor
  · rintro ⟨e, q⟩
    refine List.ext_getElem e fun j h1 h2 => ?_
    have := q j h1
    simpa [List.getD_eq_getElem?_getD, h1, h2] using this
  · rintro rfl
    exact ⟨rfl, fun _ _ => rfl⟩
/-- **equals(Object) OF TWO SUCH STRINGS**: 1 just where the chars are the same -/
theorem eqW {p : Program} {l : Launch} {e : Env} {R : Room} {s : State} {args : Array Value} {below : List Frame} {len W : Nat} {Z : State} {a0 : Array Value} {h : Heap} (hZ : Z.Warmed39 s.vm) (hw : ∀ d ∈ wordsEq, d.before a0 Z = true) {kI : Nat} (wi : (Jvm.Cond.instantiable ST kI).before a0 Z = true)
    {x t : Addr} {kb : ClassId} {cs : List Int32} {cd N2 : Int32} {vs : List Value} (E : RoadKit.Exa Z h x ST) (V : RoadKit.Fld Z h x ST "value" "[B" (.ref t)) (C : RoadKit.Fld Z h x ST "coder" "B" (.int cd)) (K : RoadKit.Arv Z h t kb .byte N2 vs (.int 0)) (hc : CodA cs cd N2 vs) (hb : ∀ c ∈ cs, ¬ c < 0 ∧ ¬ (65535 : Int32) < c) (l2 : cs.length ≤ 4000)
    {y t' : Addr} {kb' : ClassId} {ds : List Int32} {cd' N2' : Int32} {vs' : List Value} (E' : RoadKit.Exa Z h y ST) (V' : RoadKit.Fld Z h y ST "value" "[B" (.ref t')) (C' : RoadKit.Fld Z h y ST "coder" "B" (.int cd')) (K' : RoadKit.Arv Z h t' kb' .byte N2' vs' (.int 0)) (hc' : CodA ds cd' N2' vs') (hb' : ∀ c ∈ ds, ¬ c < 0 ∧ ¬ (65535 : Int32) < c) (l2' : ds.length ≤ 4000)
    {z : Int32} (S : RoadKit.Sta Z h ST "COMPACT_STRINGS" "Z" (.int z)) (hz : ¬ z = 0) (hfr : 2 ≤ R.frames) (hlo : W + 28 ≤ R.locals) :
    Back l R p e below s args (⟨"java/lang/String", "equals", "(Ljava/lang/Object;)Z"⟩ : MethodName) len W (fun P a => a = #[.ref x, .ref y] ∧ P.U.heap = h ∧ P.cells + 0 ≤ R.cells ∧ P.slots + 0 ≤ R.slots)
      (fun P _ v B => ∃ L, (((v = some (.int 1) ∧ cs = ds) ∨ (v = some (.int 0) ∧ ¬ cs = ds)) ∧ L = [] ∧ B.U.heap = h) ∧ B.locs = P.locs ++ L ∧ B.cells = P.cells + 0 ∧ B.slots = P.slots + 0) := by
  intro m meth c P g ig mk a X hg hsize hdg hW hn hp'
  obtain ⟨rfl, rfl, r1, r2⟩ := hp'
  have al : Z.vm.Alike P.U.vm := hZ.alike.trans X.warmed.alike
  obtain ⟨A, hx⟩ := txt_of wi al E V C K hc hb l2
  obtain ⟨A', hy⟩ := txt_of wi al E' V' C' K' hc' hb' l2'
  obtain ⟨v, B, X', ⟨⟨w, hv, hh, hq⟩, hl, hk, hs⟩, st⟩ := SEq.pays x t A cd cs.length (fun j => cs.getD j 0) y t' A' cd' ds.length (fun j => ds.getD j 0) z (tabEq_of (movedEq hZ hw)) hfr hlo m meth c P g ig mk _ X hg hsize hdg hW hn ⟨r1, r2, rfl, hx, hy, sta_is al S, hz⟩
  refine ⟨v, B, X', ⟨[], ⟨?_, rfl, hh⟩, hl, hk, hs⟩, st⟩
  rcases hq with ⟨rfl, q⟩ | ⟨rfl, q⟩
  · exact Or.inl ⟨hv, (same_list cs ds).mp q⟩
  · exact Or.inr ⟨hv, fun e => q ((same_list cs ds).mpr e)⟩
end StrChars.Road
namespace StrChars
open Jvm Sem ClassFile Op Lib Jvm.Stand Jvm.Free.XT Jvm.Free.ALB Jvm.Free.JM Jvm.Free
open Jvm.Lib.Cold (StaticIs)
namespace ChN
def yN : MethodName := ⟨"java/lang/String", "charAt", "(I)C"⟩
abbrev yB : ByteArray := jdk_42_method_56_code
theorem d0 : decode yB 0 = .ok (.aload_n 0, 1) := by decide +kernel
theorem d1 : decode yB 1 = .ok (.invokevirtual 492, 3) := by decide +kernel
theorem d4 : decode yB 4 = .ok (.ifCond (.eq) 12, 3) := by decide +kernel
theorem d7 : decode yB 7 = .ok (.aload_n 0, 1) := by decide +kernel
theorem d8 : decode yB 8 = .ok (.getfield 9, 3) := by decide +kernel
theorem d11 : decode yB 11 = .ok (.iload_n 1, 1) := by decide +kernel
theorem d12 : decode yB 12 = .ok (.invokestatic 495, 3) := by decide +kernel
theorem d15 : decode yB 15 = .ok (.ireturn, 1) := by decide +kernel
def site : List Cond := [.fieldLink "java/lang/String" 9 "java/lang/String" "value" "[B", IsL.tab, LChA.tab] ++ virtW "java/lang/String" 492 "java/lang/String" IsL.yN IsL.yN ++ staticW "java/lang/String" 495 LChA.yN
def tab : Cond := tabOf yN yB 2 (some .char) site
def P (x t : Addr) (V : Cell) (n : Nat) (f : Nat → Int32) (z : Int32) (fm : Value) (i : Nat) (args : Array Value) (s : State) : Prop := args = #[.ref x, .int (Int32.ofNat i)] ∧ Txt x t V 0 n f s ∧ i < n ∧ StaticIs s "java/lang/String" "COMPACT_STRINGS" "Z" (.int z) ∧ ¬ z = 0 ∧ StaticIs s "jdk/internal/util/Preconditions" "SIOOBE_FORMATTER" "Ljava/util/function/BiFunction;" fm ∧ fm.isRef = true
def E (f : Nat → Int32) (i : Nat) (r : Option Value) (s u : State) : Prop := XT.PureE (some (.int (f i))) r s u
/-- charAt(i) of a Latin-1 String of n chars, i < n: f i -/
theorem law (l : Launch) (x t : Addr) (V : Cell) (n : Nat) (f : Nat → Int32) (z : Int32) (fm : Value) (i : Nat) : Law l yN 2 1 3 40 yB 2 (some .char) site (P x t V n f z fm i) (E f i) [] 0 0 := by
  refine Law.of_walk (plainFor_of_name (by decide +kernel)) (by decide +kernel) (by decide +kernel) (by decide) (fun _ _ h => by rw [h.1]; rfl) (fun _ U U' hal hh h => ⟨h.1, h.2.1.mv hal hh, h.2.2.1, h.2.2.2.1.there hal hh, h.2.2.2.2.1, h.2.2.2.2.2.1.there hal hh, h.2.2.2.2.2.2⟩) (fun r U U' V V' h1 hal h2 h => XT.PureE.mv r U U' V V' h1 hal h2 h) ?_
  intro p e s m args below meth c s₁ X0 hexec hbytes hml hret hlk hnm hown hh0 W hP
  obtain ⟨rfl, hx, hi, s1, hz, s3, rf⟩ := hP
  have v31 := hx.2.2.2.1.2.2.2
  have hr := hx.2.2.2.2.2 i hi
  have hx0 := hx.mv X0.warmed.alike hh0
  have c1 : Steps p.tables e below (s₁.setTop (entryFrame m #[.ref x, .int (Int32.ofNat i)] 2)) (s₁.setTop (mkF m 1 #[.val (.ref x), .val (.int (Int32.ofNat i))] [.ref x])) := Steps.trans (entry rfl) (by
    show Steps p.tables e below (s₁.setTop (mkF m 0 #[.val (.ref x), .val (.int (Int32.ofNat i))] [])) _
    refine XS.aloadN X0.here hexec rfl (hb hbytes d0) rfl rfl ?_
    exact Steps.refl _)
  obtain ⟨v2, T2, X2, E2, g2⟩ := X0.callV hexec (IsL.law l x 0 z) hown (wks W (virtW "java/lang/String" 492 "java/lang/String" IsL.yN IsL.yN)) rfl (by decide) (wk W IsL.tab) (W := 0) (Nat.le_of_ble_eq_true rfl) (Nat.le_of_ble_eq_true rfl) (Nat.le_refl _) (Nat.le_refl _) (hx0.1.fc X0.warmed.alike) hx0.1.is (g := (mkF m 1 #[.val (.ref x), .val (.int (Int32.ofNat i))] [.ref x])) rfl (by rw [hml]; rfl) c1 (argsL := []) (rest := []) rfl rfl (by show 2 * 0 + 0 ≤ _; decide) (hb hbytes d1) (⟨rfl, hx0.2.2.1, hx.2.2.2.2.1.cd, s1.there X0.warmed.alike hh0, hz⟩)
  obtain ⟨rfl, q2⟩ := E2
  have hh2 := q2.trans hh0
  have hx2 := hx.mv X2.warmed.alike hh2
  obtain ⟨-, k1, k2⟩ | ⟨k0, -⟩ := hx.2.2.2.2.1
  · have c3 : Steps p.tables e below (s₁.setTop (entryFrame m #[.ref x, .int (Int32.ofNat i)] 2)) (T2.setTop (mkF m 8 #[.val (.ref x), .val (.int (Int32.ofNat i))] [.ref x])) := Steps.trans g2 (by
      refine XS.ifNo X2.here hexec rfl (hb hbytes d4) rfl (i0_eq_f (by decide)) ?_
      refine XS.aloadN X2.here hexec rfl (hb hbytes d7) rfl rfl ?_
      exact Steps.refl _)
    obtain ⟨T4, X4, q4, st4⟩ := X2.hget hexec hown (wk W (.fieldLink "java/lang/String" 9 "java/lang/String" "value" "[B")) hx2.2.1 (g := (mkF m 8 #[.val (.ref x), .val (.int (Int32.ofNat i))] [.ref x])) rfl (rest := []) rfl (hb hbytes d8)
    have hh4 := q4.trans hh2
    have c5 : Steps p.tables e below (s₁.setTop (entryFrame m #[.ref x, .int (Int32.ofNat i)] 2)) (T4.setTop (mkF m 12 #[.val (.ref x), .val (.int (Int32.ofNat i))] [.int (Int32.ofNat i), .ref t])) := (c3.trans (st4 _ (Steps.refl _))).trans (by
      refine XS.iloadN X4.here hexec rfl (hb hbytes d11) rfl ?_
      exact Steps.refl _)
    obtain ⟨v6, T6, X6, E6, g6⟩ := X4.callS hexec (LChA.law l t V i (lo8 (f i)) fm) hown (wks W (staticW "java/lang/String" 495 LChA.yN)) (wk W LChA.tab) (W := 0) (Nat.le_of_ble_eq_true rfl) (Nat.le_of_ble_eq_true rfl) (Nat.le_refl _) (Nat.le_refl _) (g := (mkF m 12 #[.val (.ref x), .val (.int (Int32.ofNat i))] [.int (Int32.ofNat i), .ref t])) rfl (by rw [hml]; rfl) c5 (argsL := [.ref t, .int (Int32.ofNat i)]) (rest := []) rfl rfl (by show 2 * 0 + 0 ≤ _; decide) (hb hbytes d12) (⟨rfl, hx.2.2.2.1.mv X4.warmed.alike hh4, (k2 i hi).1, s3.there X4.warmed.alike hh4, rf⟩)
    obtain ⟨rfl, q6⟩ := E6
    rw [chr8_lo8 hr.1 (k2 i hi).2] at g6
    exact ⟨T6, some (.int (f i)), _, _, _, X6, rfl, rfl, rfl, (fun h => by cases h), ⟨rfl, q6.trans hh4⟩, fun fs hl => Steps.trans g6 (X6.ireturnOut hexec hret (narrow_ch hr.1 hr.2) (Or.inr (Or.inr (Or.inr (Or.inl rfl)))) (hb hbytes d15) hl)⟩
  · exact absurd k0 (by decide)
theorem pays {l : Launch} {R : Room} {p : Program} {e : Env} {below : List Frame} {s : State} {sargs : Array Value} {len W : Nat} (x t : Addr) (V : Cell) (n : Nat) (f : Nat → Int32) (z : Int32) (fm : Value) (i : Nat) (htab : tab.before sargs s = true) (hfr : 4 ≤ R.frames) (hlo : W + 53 ≤ R.locals) :
    Back l R p e below s sargs yN len W (fun A₁ a₁ => A₁.cells + 0 ≤ R.cells ∧ A₁.slots + 0 ≤ R.slots ∧ P x t V n f z fm i a₁ A₁.U) (fun A₁ _ v₁ B₁ => E f i v₁ A₁.U B₁.U ∧ B₁.locs = A₁.locs ++ [] ∧ B₁.cells = A₁.cells + 0 ∧ B₁.slots = A₁.slots + 0) :=
  (law l x t V n f z fm i).pays htab hfr (by omega)
end ChN
end StrChars
namespace StrChars.Road
open Jvm Sem ClassFile Op Lib Jvm.Stand Jvm.Free Jvm.Free.XT
open Jvm.Lib.Cold (StaticIs)
/-- the words of String.charAt(int), the Latin-1 road alone -/
abbrev wordsChN : List Jvm.Cond := [.code ChN.yN ChN.yB 2 (some .char), .initialized ST, .fieldLink ST 9 ST "value" "[B", .fieldLink ST 38 ST "COMPACT_STRINGS" "Z", .fieldLink ST 15 ST "coder" "B", .code IsL.yN IsL.yB 1 (some .boolean), .methodLink ST 492 IsL.yN, .declares IsL.yN, .selects ST IsL.yN IsL.yN, .instanceMethod IsL.yN,
  .methodLink ST 495 LChA.yN, .static LChA.yN, .code LChA.yN LChA.yB 2 (some .char), .initialized "java/lang/StringLatin1", .methodLink "java/lang/StringLatin1" 9 JO.Str_checkIndex.yN, .static JO.Str_checkIndex.yN, .code JO.Str_checkIndex.yN JO.Str_checkIndex.yB 2 none,
  .fieldLink ST 1053 "jdk/internal/util/Preconditions" "SIOOBE_FORMATTER" "Ljava/util/function/BiFunction;", .methodLink ST 1059 JC.PreCheck.yN, .static JC.PreCheck.yN, .code JC.PreCheck.yN JC.PreCheck.yB 3 (some .int), .initialized "jdk/internal/util/Preconditions"]
theorem tabChN_of {a : Array Value} {s : State} (h : ∀ w ∈ wordsChN, w.before a s = true) : ChN.tab.before a s = true := by
  have hp : JC.PreCheck.tab.before a s = true := unparts (wk h (.code JC.PreCheck.yN JC.PreCheck.yB 3 (some .int))) (wks h (.initialized JC.PreCheck.yN.cls :: JC.PreCheck.site))
  have qk := consq hp h
  have hk : JO.Str_checkIndex.tab.before a s = true := unparts (wk qk (.code JO.Str_checkIndex.yN JO.Str_checkIndex.yB 2 none)) (wks qk (.initialized JO.Str_checkIndex.yN.cls :: JO.Str_checkIndex.site))
  have ql := consq hk h
  have hl : LChA.tab.before a s = true := unparts (wk ql (.code LChA.yN LChA.yB 2 (some .char))) (wks ql (.initialized LChA.yN.cls :: LChA.site))
  have hi : IsL.tab.before a s = true := unparts (wk h (.code IsL.yN IsL.yB 1 (some .boolean))) (wks h (.initialized IsL.yN.cls :: IsL.site))
  have q := consq hi (consq hl h)
  exact unparts (wk q (.code ChN.yN ChN.yB 2 (some .char))) (wks q (.initialized ChN.yN.cls :: ChN.site))
theorem movedChN {Z s : State} {a0 args : Array Value} (hZ : Z.Warmed39 s.vm) (hw : ∀ d ∈ wordsChN, d.before a0 Z = true) : ∀ d ∈ wordsChN, d.before args s = true := fun d hd => by
  have t : ∀ d ∈ wordsChN, (d.onTables && d.keepsFace) = true := by decide +kernel
  exact RoadKit.mv hZ (hw d hd) (t d hd)
/-- **charAt(i) OF A LATIN-1 STRING**, i < n: the char -/
theorem chN {p : Program} {l : Launch} {e : Env} {R : Room} {s : State} {args : Array Value} {below : List Frame} {len W : Nat} {Z : State} {a0 : Array Value} {h : Heap} (hZ : Z.Warmed39 s.vm) (hw : ∀ d ∈ wordsChN, d.before a0 Z = true) {kI : Nat} (wi : (Jvm.Cond.instantiable ST kI).before a0 Z = true)
    {x t : Addr} {kb : ClassId} {cs : List Int32} {N2 z : Int32} {vs : List Value} {fm : Value} {i : Nat} {j : Int32} (E : RoadKit.Exa Z h x ST) (V : RoadKit.Fld Z h x ST "value" "[B" (.ref t)) (C : RoadKit.Fld Z h x ST "coder" "B" (.int 0)) (K : RoadKit.Arv Z h t kb .byte N2 vs (.int 0)) (hc : CodA cs 0 N2 vs) (hb : ∀ c ∈ cs, ¬ c < 0 ∧ ¬ (65535 : Int32) < c)
    (S : RoadKit.Sta Z h ST "COMPACT_STRINGS" "Z" (.int z)) (hz : ¬ z = 0) (F : RoadKit.Sta Z h "jdk/internal/util/Preconditions" "SIOOBE_FORMATTER" "Ljava/util/function/BiFunction;" fm) (rf : fm.isRef = true) (l2 : cs.length ≤ 4000) (hi : i < cs.length) (hj : j = Int32.ofNat i) (hfr : 4 ≤ R.frames) (hlo : W + 53 ≤ R.locals) :
    Back l R p e below s args (⟨"java/lang/String", "charAt", "(I)C"⟩ : MethodName) len W (fun P a => a = #[.ref x, .int j] ∧ P.U.heap = h ∧ P.cells + 0 ≤ R.cells ∧ P.slots + 0 ≤ R.slots)
      (fun P _ v B => ∃ L, (v = some (.int (cs.getD i 0)) ∧ L = [] ∧ B.U.heap = h) ∧ B.locs = P.locs ++ L ∧ B.cells = P.cells + 0 ∧ B.slots = P.slots + 0) := by
  subst hj
  intro m meth c P g ig mk a X hg hsize hdg hW hn hp'
  obtain ⟨rfl, rfl, r1, r2⟩ := hp'
  have al : Z.vm.Alike P.U.vm := hZ.alike.trans X.warmed.alike
  obtain ⟨A, hx⟩ := txt_of wi al E V C K hc hb l2
  obtain ⟨v, B, X', ⟨⟨hv, hh⟩, hl, hk, hs⟩, st⟩ := ChN.pays x t A cs.length (fun j => cs.getD j 0) z fm i (tabChN_of (movedChN hZ hw)) hfr hlo m meth c P g ig mk _ X hg hsize hdg hW hn ⟨r1, r2, rfl, hx, hi, sta_is al S, hz, sta_is al F, rf⟩
  exact ⟨v, B, X', ⟨[], ⟨hv, rfl, hh⟩, hl, hk, hs⟩, st⟩
/-- what backV says of its String, as the contracts of this text ask it: cs's low bytes, coder 0 -/
theorem codOf {cs : List Int32} {n : Nat} (hn : cs.length = n) (hb : ∀ c ∈ cs, ¬ 255 < c) : CodA cs 0 (Int32.ofNat n) ((cs.map lo8).map Value.int) := Or.inl ⟨rfl, by rw [hn], by simp [List.map_map, Function.comp_def], hb⟩
end StrChars.Road
end Jvm.Pilot.@@N@@

namespace Jvm.Pilot.@@N@@
open Jvm Jvm.ClassFile Sem Op Lib Jvm.Free Jvm.Stand Jvm.LawKit Jvm.RoadKit Bundle Jvm.Ow Jvm.Pilot.@@N@@.Jvm.D
theorem wSt {a0 : Array Value} {Z : State} (hw : ∀ d ∈ tables_1, d.before a0 Z = true) : ∀ d ∈ Bundle.stringAtoms, d.before a0 Z = true := fun d hd => hw d ((by decide +kernel : ∀ d ∈ Bundle.stringAtoms, d ∈ tables_1) d hd)
theorem nref {t : FieldType} {w : Value} (h : w.isRef = true) : narrow t w = w := by cases w <;> first | (cases t <;> rfl) | cases h
theorem fref {C : String} {w : Value} (h : w.isRef = true) : fits (.object C) w = true := by cases w <;> first | rfl | cases h

theorem wCh {a0 : Array Value} {Z : State} (hw : ∀ d ∈ tables_1, d.before a0 Z = true) : ∀ d ∈ StrChars.Road.words, d.before a0 Z = true := fun d hd => hw d ((by decide +kernel : ∀ d ∈ StrChars.Road.words, d ∈ tables_1) d hd)
/-- what new String(chars) leaves -/
def QStr (Z : State) (x : Addr) (N : Int32) (cs : List Int32) (h : Heap) (v : Option Value) (u : Heap) : Prop := ∃ (t : Addr) (kb : ClassId), v = none ∧ Keep h u [x] ∧ Exa Z u x "java/lang/String" ∧ Fld Z u x "java/lang/String" "coder" "B" (.int (0 : Int32)) ∧ Fld Z u x "java/lang/String" "value" "[B" (.ref t) ∧ Arv Z u t kb .byte N ((cs.map fun c => c.toInt8.toInt32).map Value.int) (.int (0 : Int32)) ∧ h.size ≤ t
theorem payStr {p : Program} {l : Launch} {e : Env} {R : Room} {s : State} {m : MethodId} {args : Array Value} {below : List Frame} {meth : Method} {c : Code} {own : String} {Z : State} {a0 : Array Value} {EL : List (String × Nat)} {h0 : Heap} {T : State} {h : Heap} {vm : Vm} {cells slots : Nat} (X : Wk p l e R s m args below meth c own Z a0 EL h0 T h vm cells slots) {len W : Nat} (hw : ∀ d ∈ tables_1, d.before a0 Z = true) (wi : (Jvm.Cond.instantiable "java/lang/String" 4).before a0 Z = true)
    {x b : Addr} {kC : ClassId} (cs : List Int32) {d v0 c0 : Value} {z N : Int32} (n : Nat) (hx0 : Z.heap.size ≤ x) (E : Exa Z h x "java/lang/String") (V : Fld Z h x "java/lang/String" "value" "[B" v0) (C : Fld Z h x "java/lang/String" "coder" "B" c0) (K : Arv Z h b kC .char N (cs.map Value.int) d) (S : Sta Z Z.heap "java/lang/String" "COMPACT_STRINGS" "Z" (.int z)) (hz : ¬ z = 0)
    (hn : cs.length = n) (hN : N = Int32.ofNat n) (l0 : 0 < n) (l2 : n ≤ 4000) (hp : ∀ c ∈ cs, ¬ c < 0 ∧ ¬ (255 : Int32) < c) (hfr : 4 ≤ R.frames) (hlo : W + 65 ≤ R.locals) (sf : Safe Z EL vm h x) :
    Pay l R p e below s args (⟨"java/lang/String", "<init>", "([C)V"⟩ : MethodName) len W Z EL vm h #[.ref x, .ref b] 1 n (fun v _ u => QStr Z x N cs h v u) :=
  X.payN (ws := [x]) (StrChars.Road.backV (s := s.setVm vm) (n0 := Z.heap.size) X.hZ (wCh hw) wi hx0 X.ge E V C K (X.sta S) hz hn hN l0 l2 hp rfl hfr hlo)
    (fun v u L q => by obtain ⟨q1, q2, q3, q4, q5, t, kb, q6, q7, q8, q9, q10⟩ := q; exact ⟨q2, q3, t, kb, q1, q3, q4, q5, q9, q10, q7⟩) (allS hx0 all0) (sfS sf sf0)

theorem wide_of {cs : List Int32} (H : ∀ c ∈ cs, ¬ c < 0 ∧ ¬ (255 : Int32) < c) : ∀ c ∈ cs, ¬ c < 0 ∧ ¬ (65535 : Int32) < c := fun c hc => ⟨(H c hc).1, fun q => (H c hc).2 (by
  have e1 : (255 : Int32).toInt = 255 := by decide
  have e2 : (65535 : Int32).toInt = 65535 := by decide
  rw [Int32.lt_iff_toInt_lt] at q ⊢; omega)⟩
theorem cod_of {Z : State} {h : Heap} {a b : Addr} {k : ClassId} {cs : List Int32} (F : Str Z h a b k cs) : StrChars.Road.CodA cs 0 (Int32.ofNat cs.length) ((cs.map fun c => c.toInt8.toInt32).map Value.int) := StrChars.Road.codOf rfl fun c hc => (F.2.2.2.2.1 c hc).2

theorem wEq {a0 : Array Value} {Z : State} (hw : ∀ d ∈ tables_1, d.before a0 Z = true) : ∀ d ∈ StrChars.Road.wordsEq, d.before a0 Z = true := fun d hd => hw d ((by decide +kernel : ∀ d ∈ StrChars.Road.wordsEq, d ∈ tables_1) d hd)
theorem payEq {p : Program} {l : Launch} {e : Env} {R : Room} {s : State} {m : MethodId} {args : Array Value} {below : List Frame} {meth : Method} {c : Code} {own : String} {Z : State} {a0 : Array Value} {EL : List (String × Nat)} {h0 : Heap} {T : State} {h : Heap} {vm : Vm} {cells slots : Nat} (X : Wk p l e R s m args below meth c own Z a0 EL h0 T h vm cells slots) {len W : Nat} (hw : ∀ d ∈ tables_1, d.before a0 Z = true) (wi : (Jvm.Cond.instantiable "java/lang/String" 4).before a0 Z = true) {x t : Addr} {kb : ClassId} {cs : List Int32} (S1 : Str Z h x t kb cs) {y t' : Addr} {kb' : ClassId} {ds : List Int32} (S2 : Str Z h y t' kb' ds) {z : Int32} (S : Sta Z Z.heap "java/lang/String" "COMPACT_STRINGS" "Z" (.int z)) (hz : ¬ z = 0) (hfr : 2 ≤ R.frames) (hlo : W + 28 ≤ R.locals) :
    Pay l R p e below s args (⟨"java/lang/String", "equals", "(Ljava/lang/Object;)Z"⟩ : MethodName) len W Z EL vm h #[.ref x, .ref y] 0 0 (fun v _ u => v = some (.int (if cs = ds then 1 else 0)) ∧ u = h) :=
  X.payN (ws := []) (Qn := fun v u L => ((v = some (.int 1) ∧ cs = ds) ∨ (v = some (.int 0) ∧ ¬ cs = ds)) ∧ L = [] ∧ u = h) (StrChars.Road.eqW (s := s.setVm vm) X.hZ (wEq hw) wi S1.1 S1.2.2.1 S1.2.1 S1.2.2.2.1 (cod_of S1) (wide_of S1.2.2.2.2.1) S1.2.2.2.2.2 S2.1 S2.2.2.1 S2.2.1 S2.2.2.2.1 (cod_of S2) (wide_of S2.2.2.2.2.1) S2.2.2.2.2.2 (X.sta S) hz hfr hlo)
    (fun v u L q => by
      obtain ⟨q1, rfl, rfl⟩ := q
      refine ⟨Fr.nil _, Keep.refl _ _, ?_, rfl⟩
      rcases q1 with ⟨rfl, q⟩ | ⟨rfl, q⟩
      · rw [if_pos q]
      · rw [if_neg q]) all0 sf0

theorem wLen {a0 : Array Value} {Z : State} (hw : ∀ d ∈ tables_1, d.before a0 Z = true) : ∀ d ∈ StrChars.Road.wordsLen, d.before a0 Z = true := fun d hd => hw d ((by decide +kernel : ∀ d ∈ StrChars.Road.wordsLen, d ∈ tables_1) d hd)
theorem payLen {p : Program} {l : Launch} {e : Env} {R : Room} {s : State} {m : MethodId} {args : Array Value} {below : List Frame} {meth : Method} {c : Code} {own : String} {Z : State} {a0 : Array Value} {EL : List (String × Nat)} {h0 : Heap} {T : State} {h : Heap} {vm : Vm} {cells slots : Nat} (X : Wk p l e R s m args below meth c own Z a0 EL h0 T h vm cells slots) {len W : Nat} (hw : ∀ d ∈ tables_1, d.before a0 Z = true) (wi : (Jvm.Cond.instantiable "java/lang/String" 4).before a0 Z = true) {x t : Addr} {kb : ClassId} {cs : List Int32} (S1 : Str Z h x t kb cs) {z : Int32} (S : Sta Z Z.heap "java/lang/String" "COMPACT_STRINGS" "Z" (.int z)) (hz : ¬ z = 0) (hfr : 2 ≤ R.frames) (hlo : W + 25 ≤ R.locals) :
    Pay l R p e below s args (⟨"java/lang/String", "length", "()I"⟩ : MethodName) len W Z EL vm h #[.ref x] 0 0 (fun v _ u => v = some (.int (Int32.ofNat cs.length)) ∧ u = h) :=
  X.payN (ws := []) (Qn := fun v u L => v = some (.int (Int32.ofNat cs.length)) ∧ L = [] ∧ u = h) (StrChars.Road.lenW (s := s.setVm vm) X.hZ (wLen hw) wi S1.1 S1.2.2.1 S1.2.1 S1.2.2.2.1 (cod_of S1) (wide_of S1.2.2.2.2.1) (X.sta S) hz S1.2.2.2.2.2 hfr hlo)
    (fun v u L q => by obtain ⟨rfl, rfl, rfl⟩ := q; exact ⟨Fr.nil _, Keep.refl _ _, rfl, rfl⟩) all0 sf0

theorem wCN {a0 : Array Value} {Z : State} (hw : ∀ d ∈ tables_1, d.before a0 Z = true) : ∀ d ∈ StrChars.Road.wordsChN, d.before a0 Z = true := fun d hd => hw d ((by decide +kernel : ∀ d ∈ StrChars.Road.wordsChN, d ∈ tables_1) d hd)
theorem payCh {p : Program} {l : Launch} {e : Env} {R : Room} {s : State} {m : MethodId} {args : Array Value} {below : List Frame} {meth : Method} {c : Code} {own : String} {Z : State} {a0 : Array Value} {EL : List (String × Nat)} {h0 : Heap} {T : State} {h : Heap} {vm : Vm} {cells slots : Nat} (X : Wk p l e R s m args below meth c own Z a0 EL h0 T h vm cells slots) {len W : Nat} (hw : ∀ d ∈ tables_1, d.before a0 Z = true) (wi : (Jvm.Cond.instantiable "java/lang/String" 4).before a0 Z = true) {x t : Addr} {kb : ClassId} {cs : List Int32} (S1 : Str Z h x t kb cs) {z : Int32} (S : Sta Z Z.heap "java/lang/String" "COMPACT_STRINGS" "Z" (.int z)) (hz : ¬ z = 0) {fm : Value} (F : Sta Z Z.heap "jdk/internal/util/Preconditions" "SIOOBE_FORMATTER" "Ljava/util/function/BiFunction;" fm) (rf : fm.isRef = true) (i : Nat) {j : Int32} (hi : i < cs.length) (hj : j = Int32.ofNat i) (hfr : 4 ≤ R.frames) (hlo : W + 53 ≤ R.locals) :
    Pay l R p e below s args (⟨"java/lang/String", "charAt", "(I)C"⟩ : MethodName) len W Z EL vm h #[.ref x, .int j] 0 0 (fun v _ u => v = some (.int (cs.getD i 0)) ∧ u = h) :=
  X.payN (ws := []) (Qn := fun v u L => v = some (.int (cs.getD i 0)) ∧ L = [] ∧ u = h) (StrChars.Road.chN (s := s.setVm vm) X.hZ (wCN hw) wi S1.1 S1.2.2.1 S1.2.1 S1.2.2.2.1 (cod_of S1) (wide_of S1.2.2.2.2.1) (X.sta S) hz (X.sta F) rf S1.2.2.2.2.2 hi hj hfr hlo)
    (fun v u L q => by obtain ⟨rfl, rfl, rfl⟩ := q; exact ⟨Fr.nil _, Keep.refl _ _, rfl, rfl⟩) all0 sf0

theorem arv0 {s : State} {args : Array Value} {t : Term} {a : Addr} {ty : FieldType} (hf : Fit s) (ev : t.eval args s none [] s = some (.ref a)) (hx : (Jvm.Cond.arrayOf t ty).value args s none s [] = some true) (hl : (Jvm.Cond.eq (.length t) (.int (0 : Int32))).value args s none s [] = some true) : ∃ k, Arv s s.heap a k ty (0 : Int32) [] .null := by
  obtain ⟨cl, A⟩ := Arr.start ev hx
  have q : (Term.length t).eval args s none [] s = some (.int (0 : Int32)) := Cond.eq_int (Cond.before_iff.mpr hl) rfl
  have ha : s.arrayAt? a = some cl := A.fin (Vm.Alike.refl _)
  have q2 : cl.slots.size < 2 ^ 31 ∧ cl.slots.size.toInt32 = (0 : Int32) := by simpa [Term.eval, ev, ha] using q
  exact ⟨cl.cls, Arv.start hf A q2.1 q2.2 (by decide) rfl trivial⟩

theorem ofNat_eq {n k : Nat} (hn : n ≤ 4000) (h : Int32.ofNat n = Int32.ofNat k) (hk : k ≤ 4000 := by decide) : n = k := by
  have e1 := Int32.toInt_ofNat_small (n := n) (by omega)
  have e2 := Int32.toInt_ofNat_small (n := k) (by omega)
  have := congrArg Int32.toInt h
  change n.toInt32.toInt = k.toInt32.toInt at this
  rw [e1, e2] at this; omega
theorem rtn_of {cs : List Int32} (h : cs.length = 3) (h0 : cs.getD 0 0 = (82 : Int32)) (h1 : cs.getD 1 0 = (84 : Int32)) (h2 : cs.getD 2 0 = (78 : Int32)) : cs = [(82 : Int32), (84 : Int32), (78 : Int32)] := by
  match cs, h with
  | [x, y, z], _ => simp at h0 h1 h2; rw [h0, h1, h2]
theorem sz5 (x : Int32) : ((x &&& (7 : Int32)) % (5 : Int32)) = 0 ∨ ((x &&& (7 : Int32)) % (5 : Int32)) = 1 ∨ ((x &&& (7 : Int32)) % (5 : Int32)) = 2 ∨ ((x &&& (7 : Int32)) % (5 : Int32)) = 3 ∨ ((x &&& (7 : Int32)) % (5 : Int32)) = 4 := by
  have q := c_and x (7 : Int32) (by decide)
  have r := (c_irem (x &&& (7 : Int32)) (5 : Int32) 5 (by decide)).1 q.1
  have e0 : (0 : Int32).toInt = 0 := by decide
  have e1 : (1 : Int32).toInt = 1 := by decide
  have e2 : (2 : Int32).toInt = 2 := by decide
  have e3 : (3 : Int32).toInt = 3 := by decide
  have e4 : (4 : Int32).toInt = 4 := by decide
  simp only [← Int32.toInt_inj, e0, e1, e2, e3, e4]; omega

abbrev HW (a0 : Array Value) (Z : State) : Prop := ∀ d ∈ tables_1, d.before a0 Z = true
theorem hw_at {a0 : Array Value} {Z : State} (hw : HW a0 Z) (i : Nat) {d : Jvm.Cond} (h : tables_1[i]? = some d) : d.before a0 Z = true := hw _ (List.mem_of_getElem? h)
abbrev Cx (Z : State) (a0 : Array Value) (zc : Int32) (de : Addr) (kde : ClassId) (em : Addr) (el ee : Addr) (kee : ClassId) (mr : Addr) (fm : Value) : Prop := HW a0 Z ∧ (EW Z a0 consts_1) ∧ (Sta Z Z.heap "java/lang/String" "COMPACT_STRINGS" "Z" (.int zc)) ∧ (¬ zc = 0) ∧ (Sta Z Z.heap "java/util/ArrayList" "DEFAULTCAPACITY_EMPTY_ELEMENTDATA" "[Ljava/lang/Object;" (.ref de)) ∧ (Arv Z Z.heap de kde (.object "java/lang/Object") (0 : Int32) [] .null) ∧ (Exa Z Z.heap em "java/lang/Object") ∧ (Sta Z Z.heap "java/util/ImmutableCollections" "EMPTY" "Ljava/lang/Object;" (.ref em)) ∧ (Sta Z Z.heap "java/util/ImmutableCollections" "EMPTY_LIST" "Ljava/util/ImmutableCollections$ListN;" (.ref el)) ∧ (Exa Z Z.heap el "java/util/ImmutableCollections$ListN") ∧ (Fld Z Z.heap el "java/util/ImmutableCollections$ListN" "elements" "[Ljava/lang/Object;" (.ref ee)) ∧ (Arv Z Z.heap ee kee (.object "java/lang/Object") (0 : Int32) [] .null) ∧ (Mir Z "[Ljava/lang/Object;" mr) ∧ (Sta Z Z.heap "jdk/internal/util/Preconditions" "SIOOBE_FORMATTER" "Ljava/util/function/BiFunction;" fm) ∧ (fm.isRef = true)
variable {l : Launch} {Z : State} {a0 : Array Value} {zc : Int32} {de : Addr} {kde : ClassId} {em : Addr} {el ee : Addr} {kee : ClassId} {mr : Addr} {fm : Value}
theorem w0 (hw : HW a0 Z) : (Jvm.Cond.methodLink "com/example/packwright/packwright/io/BuildAssemblerRoutineOfHeaderPinLaw" (14 : Nat) ({ cls := "com/example/packwright/packwright/io/BuildAssemblerRoutineOfHeaderPinLaw", name := "draw", desc := "(II)Ljava/lang/String;" } : Jvm.MethodName)).before a0 Z = true := hw_at hw 0 rfl
theorem w1 (hw : HW a0 Z) : (Jvm.Cond.static ({ cls := "com/example/packwright/packwright/io/BuildAssemblerRoutineOfHeaderPinLaw", name := "draw", desc := "(II)Ljava/lang/String;" } : Jvm.MethodName)).before a0 Z = true := hw_at hw 1 rfl
theorem w2 (hw : HW a0 Z) : (Jvm.Cond.initialized "com/example/packwright/packwright/io/BuildAssemblerRoutineOfHeaderPinLaw").before a0 Z = true := hw_at hw 2 rfl
theorem w3 (hw : HW a0 Z) : (Jvm.Cond.code ({ cls := "com/example/packwright/packwright/io/BuildAssemblerRoutineOfHeaderPinLaw", name := "draw", desc := "(II)Ljava/lang/String;" } : Jvm.MethodName) method_2_code (6 : Nat) (Option.some (Jvm.ClassFile.FieldType.object "java/lang/String"))).before a0 Z = true := hw_at hw 3 rfl
theorem w4 (hw : HW a0 Z) : (Jvm.Cond.classLink "com/example/packwright/packwright/io/BuildAssemblerRoutineOfHeaderPinLaw" (7 : Nat) "java/lang/String").before a0 Z = true := hw_at hw 4 rfl
theorem w5 (hw : HW a0 Z) : (Jvm.Cond.instantiable "java/lang/String" (4 : Nat)).before a0 Z = true := hw_at hw 5 rfl
theorem w6 (hw : HW a0 Z) : (Jvm.Cond.initialized "java/lang/String").before a0 Z = true := hw_at hw 6 rfl
theorem w7 (hw : HW a0 Z) : (Jvm.Cond.arrayClass Jvm.ClassFile.FieldType.char).before a0 Z = true := hw_at hw 7 rfl
theorem w8 (hw : HW a0 Z) : (Jvm.Cond.methodLink "com/example/packwright/packwright/io/BuildAssemblerRoutineOfHeaderPinLaw" (9 : Nat) ({ cls := "java/lang/String", name := "<init>", desc := "([C)V" } : Jvm.MethodName)).before a0 Z = true := hw_at hw 8 rfl
theorem w9 (hw : HW a0 Z) : (Jvm.Cond.instanceMethod ({ cls := "java/lang/String", name := "<init>", desc := "([C)V" } : Jvm.MethodName)).before a0 Z = true := hw_at hw 9 rfl
theorem w10 (hw : HW a0 Z) : (Jvm.Cond.code ({ cls := "java/lang/String", name := "<init>", desc := "([C)V" } : Jvm.MethodName) jdk_42_method_3_code (2 : Nat) (Option.none : Option Jvm.ClassFile.FieldType)).before a0 Z = true := hw_at hw 10 rfl
theorem w11 (hw : HW a0 Z) : (Jvm.Cond.methodLink "java/lang/String" (27 : Nat) ({ cls := "java/lang/String", name := "<init>", desc := "([CIILjava/lang/Void;)V" } : Jvm.MethodName)).before a0 Z = true := hw_at hw 11 rfl
theorem w12 (hw : HW a0 Z) : (Jvm.Cond.instanceMethod ({ cls := "java/lang/String", name := "<init>", desc := "([CIILjava/lang/Void;)V" } : Jvm.MethodName)).before a0 Z = true := hw_at hw 12 rfl
theorem w14 (hw : HW a0 Z) : (Jvm.Cond.code ({ cls := "java/lang/String", name := "<init>", desc := "([CIILjava/lang/Void;)V" } : Jvm.MethodName) jdk_42_method_149_code (6 : Nat) (Option.none : Option Jvm.ClassFile.FieldType)).before a0 Z = true := hw_at hw 14 rfl
theorem w15 (hw : HW a0 Z) : (Jvm.Cond.methodLink "java/lang/String" (1 : Nat) ({ cls := "java/lang/Object", name := "<init>", desc := "()V" } : Jvm.MethodName)).before a0 Z = true := hw_at hw 15 rfl
theorem w16 (hw : HW a0 Z) : (Jvm.Cond.instanceMethod ({ cls := "java/lang/Object", name := "<init>", desc := "()V" } : Jvm.MethodName)).before a0 Z = true := hw_at hw 16 rfl
theorem w17 (hw : HW a0 Z) : (Jvm.Cond.code ({ cls := "java/lang/Object", name := "<init>", desc := "()V" } : Jvm.MethodName) object_method_1_code (1 : Nat) (Option.none : Option Jvm.ClassFile.FieldType)).before a0 Z = true := hw_at hw 17 rfl
theorem w18 (hw : HW a0 Z) : (Jvm.Cond.stringLink "java/lang/String" (7 : Nat) "").before a0 Z = true := hw_at hw 18 rfl
theorem w19 (hw : HW a0 Z) : (Jvm.Cond.arrayClass Jvm.ClassFile.FieldType.byte).before a0 Z = true := hw_at hw 19 rfl
theorem w20 (hw : HW a0 Z) : (Jvm.Cond.laysFinal "java/lang/String" "java/lang/String" "value" "[B").before a0 Z = true := hw_at hw 20 rfl
theorem w21 (hw : HW a0 Z) : (Jvm.Cond.laysFinal "java/lang/String" "java/lang/String" "coder" "B").before a0 Z = true := hw_at hw 21 rfl
theorem w24 (hw : HW a0 Z) : (Jvm.Cond.fieldLink "java/lang/String" (9 : Nat) "java/lang/String" "value" "[B").before a0 Z = true := hw_at hw 24 rfl
theorem w25 (hw : HW a0 Z) : (Jvm.Cond.fieldLink "java/lang/String" (15 : Nat) "java/lang/String" "coder" "B").before a0 Z = true := hw_at hw 25 rfl
theorem w37 (hw : HW a0 Z) : (Jvm.Cond.classLink "com/example/packwright/packwright/io/BuildAssemblerRoutineOfHeaderPinLaw" (20 : Nat) "java/util/ArrayList").before a0 Z = true := hw_at hw 37 rfl
theorem w38 (hw : HW a0 Z) : (Jvm.Cond.instantiable "java/util/ArrayList" (3 : Nat)).before a0 Z = true := hw_at hw 38 rfl
theorem w39 (hw : HW a0 Z) : (Jvm.Cond.initialized "java/util/ArrayList").before a0 Z = true := hw_at hw 39 rfl
theorem w40 (hw : HW a0 Z) : (Jvm.Cond.methodLink "com/example/packwright/packwright/io/BuildAssemblerRoutineOfHeaderPinLaw" (22 : Nat) ({ cls := "java/util/ArrayList", name := "<init>", desc := "()V" } : Jvm.MethodName)).before a0 Z = true := hw_at hw 40 rfl
theorem w41 (hw : HW a0 Z) : (Jvm.Cond.instanceMethod ({ cls := "java/util/ArrayList", name := "<init>", desc := "()V" } : Jvm.MethodName)).before a0 Z = true := hw_at hw 41 rfl
theorem w42 (hw : HW a0 Z) : (Jvm.Cond.code ({ cls := "java/util/ArrayList", name := "<init>", desc := "()V" } : Jvm.MethodName) jdk_38_method_2_code (1 : Nat) (Option.none : Option Jvm.ClassFile.FieldType)).before a0 Z = true := hw_at hw 42 rfl
theorem w43 (hw : HW a0 Z) : (Jvm.Cond.methodLink "java/util/ArrayList" (1 : Nat) ({ cls := "java/util/AbstractList", name := "<init>", desc := "()V" } : Jvm.MethodName)).before a0 Z = true := hw_at hw 43 rfl
theorem w44 (hw : HW a0 Z) : (Jvm.Cond.instanceMethod ({ cls := "java/util/AbstractList", name := "<init>", desc := "()V" } : Jvm.MethodName)).before a0 Z = true := hw_at hw 44 rfl
theorem w47 (hw : HW a0 Z) : (Jvm.Cond.initialized "java/util/AbstractList").before a0 Z = true := hw_at hw 47 rfl
theorem w48 (hw : HW a0 Z) : (Jvm.Cond.code ({ cls := "java/util/AbstractList", name := "<init>", desc := "()V" } : Jvm.MethodName) jdk_39_method_1_code (1 : Nat) (Option.none : Option Jvm.ClassFile.FieldType)).before a0 Z = true := hw_at hw 48 rfl
theorem w49 (hw : HW a0 Z) : (Jvm.Cond.methodLink "java/util/AbstractList" (1 : Nat) ({ cls := "java/util/AbstractCollection", name := "<init>", desc := "()V" } : Jvm.MethodName)).before a0 Z = true := hw_at hw 49 rfl
theorem w50 (hw : HW a0 Z) : (Jvm.Cond.instanceMethod ({ cls := "java/util/AbstractCollection", name := "<init>", desc := "()V" } : Jvm.MethodName)).before a0 Z = true := hw_at hw 50 rfl
theorem w53 (hw : HW a0 Z) : (Jvm.Cond.initialized "java/util/AbstractCollection").before a0 Z = true := hw_at hw 53 rfl
theorem w54 (hw : HW a0 Z) : (Jvm.Cond.code ({ cls := "java/util/AbstractCollection", name := "<init>", desc := "()V" } : Jvm.MethodName) jdk_22_method_1_code (1 : Nat) (Option.none : Option Jvm.ClassFile.FieldType)).before a0 Z = true := hw_at hw 54 rfl
theorem w55 (hw : HW a0 Z) : (Jvm.Cond.methodLink "java/util/AbstractCollection" (1 : Nat) ({ cls := "java/lang/Object", name := "<init>", desc := "()V" } : Jvm.MethodName)).before a0 Z = true := hw_at hw 55 rfl
theorem w56 (hw : HW a0 Z) : (Jvm.Cond.fieldLink "java/util/AbstractList" (7 : Nat) "java/util/AbstractList" "modCount" "I").before a0 Z = true := hw_at hw 56 rfl
theorem w57 (hw : HW a0 Z) : (Jvm.Cond.lays "java/util/ArrayList" "java/util/AbstractList" "modCount" "I").before a0 Z = true := hw_at hw 57 rfl
theorem w58 (hw : HW a0 Z) : (Jvm.Cond.fieldLink "java/util/ArrayList" (39 : Nat) "java/util/ArrayList" "DEFAULTCAPACITY_EMPTY_ELEMENTDATA" "[Ljava/lang/Object;").before a0 Z = true := hw_at hw 58 rfl
theorem w59 (hw : HW a0 Z) : (Jvm.Cond.fieldLink "java/util/ArrayList" (9 : Nat) "java/util/ArrayList" "elementData" "[Ljava/lang/Object;").before a0 Z = true := hw_at hw 59 rfl
theorem w60 (hw : HW a0 Z) : (Jvm.Cond.lays "java/util/ArrayList" "java/util/ArrayList" "elementData" "[Ljava/lang/Object;").before a0 Z = true := hw_at hw 60 rfl
theorem w61 (hw : HW a0 Z) : (Jvm.Cond.classLink "com/example/packwright/packwright/io/BuildAssemblerRoutineOfHeaderPinLaw" (27 : Nat) "com/example/packwright/packwright/model/Node").before a0 Z = true := hw_at hw 61 rfl
theorem w62 (hw : HW a0 Z) : (Jvm.Cond.instantiable "com/example/packwright/packwright/model/Node" (3 : Nat)).before a0 Z = true := hw_at hw 62 rfl
theorem w63 (hw : HW a0 Z) : (Jvm.Cond.initialized "com/example/packwright/packwright/model/Node").before a0 Z = true := hw_at hw 63 rfl
theorem w64 (hw : HW a0 Z) : (Jvm.Cond.stringLink "com/example/packwright/packwright/io/BuildAssemblerRoutineOfHeaderPinLaw" (29 : Nat) "x").before a0 Z = true := hw_at hw 64 rfl
theorem w65 (hw : HW a0 Z) : (Jvm.Cond.stringLink "com/example/packwright/packwright/io/BuildAssemblerRoutineOfHeaderPinLaw" (31 : Nat) "v").before a0 Z = true := hw_at hw 65 rfl
theorem w66 (hw : HW a0 Z) : (Jvm.Cond.methodLink "com/example/packwright/packwright/io/BuildAssemblerRoutineOfHeaderPinLaw" (33 : Nat) ({ cls := "com/example/packwright/packwright/model/Node", name := "<init>", desc := "(Ljava/lang/String;Ljava/util/List;Ljava/lang/String;)V" } : Jvm.MethodName)).before a0 Z = true := hw_at hw 66 rfl
theorem w67 (hw : HW a0 Z) : (Jvm.Cond.instanceMethod ({ cls := "com/example/packwright/packwright/model/Node", name := "<init>", desc := "(Ljava/lang/String;Ljava/util/List;Ljava/lang/String;)V" } : Jvm.MethodName)).before a0 Z = true := hw_at hw 67 rfl
theorem w68 (hw : HW a0 Z) : (Jvm.Cond.code ({ cls := "com/example/packwright/packwright/model/Node", name := "<init>", desc := "(Ljava/lang/String;Ljava/util/List;Ljava/lang/String;)V" } : Jvm.MethodName) prog_37_method_1_code (4 : Nat) (Option.none : Option Jvm.ClassFile.FieldType)).before a0 Z = true := hw_at hw 68 rfl
theorem w69 (hw : HW a0 Z) : (Jvm.Cond.methodLink "com/example/packwright/packwright/model/Node" (1 : Nat) ({ cls := "java/lang/Record", name := "<init>", desc := "()V" } : Jvm.MethodName)).before a0 Z = true := hw_at hw 69 rfl
theorem w70 (hw : HW a0 Z) : (Jvm.Cond.instanceMethod ({ cls := "java/lang/Record", name := "<init>", desc := "()V" } : Jvm.MethodName)).before a0 Z = true := hw_at hw 70 rfl
theorem w72 (hw : HW a0 Z) : (Jvm.Cond.initialized "java/lang/Record").before a0 Z = true := hw_at hw 72 rfl
theorem w73 (hw : HW a0 Z) : (Jvm.Cond.code ({ cls := "java/lang/Record", name := "<init>", desc := "()V" } : Jvm.MethodName) jdk_30_method_1_code (1 : Nat) (Option.none : Option Jvm.ClassFile.FieldType)).before a0 Z = true := hw_at hw 73 rfl
theorem w74 (hw : HW a0 Z) : (Jvm.Cond.methodLink "java/lang/Record" (1 : Nat) ({ cls := "java/lang/Object", name := "<init>", desc := "()V" } : Jvm.MethodName)).before a0 Z = true := hw_at hw 74 rfl
theorem w75 (hw : HW a0 Z) : (Jvm.Cond.methodLink "com/example/packwright/packwright/model/Node" (7 : Nat) ({ cls := "java/util/List", name := "copyOf", desc := "(Ljava/util/Collection;)Ljava/util/List;" } : Jvm.MethodName)).before a0 Z = true := hw_at hw 75 rfl
theorem w76 (hw : HW a0 Z) : (Jvm.Cond.static ({ cls := "java/util/List", name := "copyOf", desc := "(Ljava/util/Collection;)Ljava/util/List;" } : Jvm.MethodName)).before a0 Z = true := hw_at hw 76 rfl
theorem w77 (hw : HW a0 Z) : (Jvm.Cond.initialized "java/util/List").before a0 Z = true := hw_at hw 77 rfl
theorem w78 (hw : HW a0 Z) : (Jvm.Cond.code ({ cls := "java/util/List", name := "copyOf", desc := "(Ljava/util/Collection;)Ljava/util/List;" } : Jvm.MethodName) jdk_40_method_48_code (1 : Nat) (Option.some (Jvm.ClassFile.FieldType.object "java/util/List"))).before a0 Z = true := hw_at hw 78 rfl
theorem w79 (hw : HW a0 Z) : (Jvm.Cond.methodLink "java/util/List" (112 : Nat) ({ cls := "java/util/ImmutableCollections", name := "listCopy", desc := "(Ljava/util/Collection;)Ljava/util/List;" } : Jvm.MethodName)).before a0 Z = true := hw_at hw 79 rfl
theorem w80 (hw : HW a0 Z) : (Jvm.Cond.static ({ cls := "java/util/ImmutableCollections", name := "listCopy", desc := "(Ljava/util/Collection;)Ljava/util/List;" } : Jvm.MethodName)).before a0 Z = true := hw_at hw 80 rfl
theorem w81 (hw : HW a0 Z) : (Jvm.Cond.initialized "java/util/ImmutableCollections").before a0 Z = true := hw_at hw 81 rfl
theorem w82 (hw : HW a0 Z) : (Jvm.Cond.code ({ cls := "java/util/ImmutableCollections", name := "listCopy", desc := "(Ljava/util/Collection;)Ljava/util/List;" } : Jvm.MethodName) jdk_56_method_3_code (2 : Nat) (Option.some (Jvm.ClassFile.FieldType.object "java/util/List"))).before a0 Z = true := hw_at hw 82 rfl
theorem w83 (hw : HW a0 Z) : (Jvm.Cond.classLink "java/util/ImmutableCollections" (10 : Nat) "java/util/ImmutableCollections$List12").before a0 Z = true := hw_at hw 83 rfl
theorem w84 (hw : HW a0 Z) : (Jvm.Cond.superclass "java/util/ArrayList" "java/util/AbstractList").before a0 Z = true := hw_at hw 84 rfl
theorem w85 (hw : HW a0 Z) : (Jvm.Cond.superclass "java/util/AbstractList" "java/util/AbstractCollection").before a0 Z = true := hw_at hw 85 rfl
theorem w86 (hw : HW a0 Z) : (Jvm.Cond.superclass "java/util/AbstractCollection" "java/lang/Object").before a0 Z = true := hw_at hw 86 rfl
theorem w87 (hw : HW a0 Z) : (Jvm.Cond.noSuperclass "java/lang/Object").before a0 Z = true := hw_at hw 87 rfl
theorem w88 (hw : HW a0 Z) : (Jvm.Cond.classLink "java/util/ImmutableCollections" (12 : Nat) "java/util/ImmutableCollections$ListN").before a0 Z = true := hw_at hw 88 rfl
theorem w89 (hw : HW a0 Z) : (Jvm.Cond.methodLink "java/util/ImmutableCollections" (20 : Nat) ({ cls := "java/util/Collection", name := "isEmpty", desc := "()Z" } : Jvm.MethodName)).before a0 Z = true := hw_at hw 89 rfl
theorem w90 (hw : HW a0 Z) : (Jvm.Cond.declares ({ cls := "java/util/Collection", name := "isEmpty", desc := "()Z" } : Jvm.MethodName)).before a0 Z = true := hw_at hw 90 rfl
theorem w91 (hw : HW a0 Z) : (Jvm.Cond.interfaceMethod "java/util/Collection" "java/util/Collection" "isEmpty" "()Z").before a0 Z = true := hw_at hw 91 rfl
theorem w92 (hw : HW a0 Z) : (Jvm.Cond.selects "java/util/ArrayList" ({ cls := "java/util/Collection", name := "isEmpty", desc := "()Z" } : Jvm.MethodName) ({ cls := "java/util/ArrayList", name := "isEmpty", desc := "()Z" } : Jvm.MethodName)).before a0 Z = true := hw_at hw 92 rfl
theorem w93 (hw : HW a0 Z) : (Jvm.Cond.instanceMethod ({ cls := "java/util/ArrayList", name := "isEmpty", desc := "()Z" } : Jvm.MethodName)).before a0 Z = true := hw_at hw 93 rfl
theorem w94 (hw : HW a0 Z) : (Jvm.Cond.publicMethod ({ cls := "java/util/ArrayList", name := "isEmpty", desc := "()Z" } : Jvm.MethodName)).before a0 Z = true := hw_at hw 94 rfl
theorem w95 (hw : HW a0 Z) : (Jvm.Cond.unhidden "java/util/ArrayList" "isEmpty" "()Z").before a0 Z = true := hw_at hw 95 rfl
theorem w96 (hw : HW a0 Z) : (Jvm.Cond.castable "java/util/ArrayList" "java/util/Collection").before a0 Z = true := hw_at hw 96 rfl
theorem w97 (hw : HW a0 Z) : (Jvm.Cond.code ({ cls := "java/util/ArrayList", name := "isEmpty", desc := "()Z" } : Jvm.MethodName) jdk_38_method_9_code (1 : Nat) (Option.some Jvm.ClassFile.FieldType.boolean)).before a0 Z = true := hw_at hw 97 rfl
theorem w98 (hw : HW a0 Z) : (Jvm.Cond.fieldLink "java/util/ArrayList" (48 : Nat) "java/util/ArrayList" "size" "I").before a0 Z = true := hw_at hw 98 rfl
theorem w99 (hw : HW a0 Z) : (Jvm.Cond.lays "java/util/ArrayList" "java/util/ArrayList" "size" "I").before a0 Z = true := hw_at hw 99 rfl
theorem w100 (hw : HW a0 Z) : (Jvm.Cond.methodLink "java/util/ImmutableCollections" (26 : Nat) ({ cls := "java/util/List", name := "of", desc := "()Ljava/util/List;" } : Jvm.MethodName)).before a0 Z = true := hw_at hw 100 rfl
theorem w101 (hw : HW a0 Z) : (Jvm.Cond.static ({ cls := "java/util/List", name := "of", desc := "()Ljava/util/List;" } : Jvm.MethodName)).before a0 Z = true := hw_at hw 101 rfl
theorem w102 (hw : HW a0 Z) : (Jvm.Cond.code ({ cls := "java/util/List", name := "of", desc := "()Ljava/util/List;" } : Jvm.MethodName) jdk_40_method_36_code (0 : Nat) (Option.some (Jvm.ClassFile.FieldType.object "java/util/List"))).before a0 Z = true := hw_at hw 102 rfl
theorem w103 (hw : HW a0 Z) : (Jvm.Cond.fieldLink "java/util/List" (90 : Nat) "java/util/ImmutableCollections" "EMPTY_LIST" "Ljava/util/ImmutableCollections$ListN;").before a0 Z = true := hw_at hw 103 rfl
theorem w104 (hw : HW a0 Z) : (Jvm.Cond.fieldLink "com/example/packwright/packwright/model/Node" (13 : Nat) "com/example/packwright/packwright/model/Node" "subscriptLine" "Ljava/lang/String;").before a0 Z = true := hw_at hw 104 rfl
theorem w105 (hw : HW a0 Z) : (Jvm.Cond.laysFinal "com/example/packwright/packwright/model/Node" "com/example/packwright/packwright/model/Node" "subscriptLine" "Ljava/lang/String;").before a0 Z = true := hw_at hw 105 rfl
theorem w106 (hw : HW a0 Z) : (Jvm.Cond.fieldLink "com/example/packwright/packwright/model/Node" (19 : Nat) "com/example/packwright/packwright/model/Node" "subscripts" "Ljava/util/List;").before a0 Z = true := hw_at hw 106 rfl
theorem w107 (hw : HW a0 Z) : (Jvm.Cond.laysFinal "com/example/packwright/packwright/model/Node" "com/example/packwright/packwright/model/Node" "subscripts" "Ljava/util/List;").before a0 Z = true := hw_at hw 107 rfl
theorem w108 (hw : HW a0 Z) : (Jvm.Cond.fieldLink "com/example/packwright/packwright/model/Node" (23 : Nat) "com/example/packwright/packwright/model/Node" "value" "Ljava/lang/String;").before a0 Z = true := hw_at hw 108 rfl
theorem w109 (hw : HW a0 Z) : (Jvm.Cond.laysFinal "com/example/packwright/packwright/model/Node" "com/example/packwright/packwright/model/Node" "value" "Ljava/lang/String;").before a0 Z = true := hw_at hw 109 rfl
theorem w110 (hw : HW a0 Z) : (Jvm.Cond.methodLink "com/example/packwright/packwright/io/BuildAssemblerRoutineOfHeaderPinLaw" (36 : Nat) ({ cls := "com/example/packwright/packwright/io/BuildAssembler", name := "routineOfHeader", desc := "(Lcom/example/packwright/packwright/model/Node;)Ljava/lang/String;" } : Jvm.MethodName)).before a0 Z = true := hw_at hw 110 rfl
theorem w111 (hw : HW a0 Z) : (Jvm.Cond.static ({ cls := "com/example/packwright/packwright/io/BuildAssembler", name := "routineOfHeader", desc := "(Lcom/example/packwright/packwright/model/Node;)Ljava/lang/String;" } : Jvm.MethodName)).before a0 Z = true := hw_at hw 111 rfl
theorem w112 (hw : HW a0 Z) : (Jvm.Cond.initialized "com/example/packwright/packwright/io/BuildAssembler").before a0 Z = true := hw_at hw 112 rfl
theorem w113 (hw : HW a0 Z) : (Jvm.Cond.code ({ cls := "com/example/packwright/packwright/io/BuildAssembler", name := "routineOfHeader", desc := "(Lcom/example/packwright/packwright/model/Node;)Ljava/lang/String;" } : Jvm.MethodName) prog_4_method_11_code (2 : Nat) (Option.some (Jvm.ClassFile.FieldType.object "java/lang/String"))).before a0 Z = true := hw_at hw 113 rfl
theorem w114 (hw : HW a0 Z) : (Jvm.Cond.methodLink "com/example/packwright/packwright/io/BuildAssembler" (69 : Nat) ({ cls := "com/example/packwright/packwright/model/Node", name := "subscripts", desc := "()Ljava/util/List;" } : Jvm.MethodName)).before a0 Z = true := hw_at hw 114 rfl
theorem w115 (hw : HW a0 Z) : (Jvm.Cond.declares ({ cls := "com/example/packwright/packwright/model/Node", name := "subscripts", desc := "()Ljava/util/List;" } : Jvm.MethodName)).before a0 Z = true := hw_at hw 115 rfl
theorem w116 (hw : HW a0 Z) : (Jvm.Cond.instanceMethod ({ cls := "com/example/packwright/packwright/model/Node", name := "subscripts", desc := "()Ljava/util/List;" } : Jvm.MethodName)).before a0 Z = true := hw_at hw 116 rfl
theorem w117 (hw : HW a0 Z) : (Jvm.Cond.selects "com/example/packwright/packwright/model/Node" ({ cls := "com/example/packwright/packwright/model/Node", name := "subscripts", desc := "()Ljava/util/List;" } : Jvm.MethodName) ({ cls := "com/example/packwright/packwright/model/Node", name := "subscripts", desc := "()Ljava/util/List;" } : Jvm.MethodName)).before a0 Z = true := hw_at hw 117 rfl
theorem w118 (hw : HW a0 Z) : (Jvm.Cond.code ({ cls := "com/example/packwright/packwright/model/Node", name := "subscripts", desc := "()Ljava/util/List;" } : Jvm.MethodName) prog_37_method_7_code (1 : Nat) (Option.some (Jvm.ClassFile.FieldType.object "java/util/List"))).before a0 Z = true := hw_at hw 118 rfl
theorem w119 (hw : HW a0 Z) : (Jvm.Cond.methodLink "com/example/packwright/packwright/io/BuildAssembler" (85 : Nat) ({ cls := "java/util/List", name := "size", desc := "()I" } : Jvm.MethodName)).before a0 Z = true := hw_at hw 119 rfl
theorem w120 (hw : HW a0 Z) : (Jvm.Cond.declares ({ cls := "java/util/List", name := "size", desc := "()I" } : Jvm.MethodName)).before a0 Z = true := hw_at hw 120 rfl
theorem w121 (hw : HW a0 Z) : (Jvm.Cond.interfaceMethod "java/util/List" "java/util/List" "size" "()I").before a0 Z = true := hw_at hw 121 rfl
theorem w122 (hw : HW a0 Z) : (Jvm.Cond.selects "java/util/ImmutableCollections$ListN" ({ cls := "java/util/List", name := "size", desc := "()I" } : Jvm.MethodName) ({ cls := "java/util/ImmutableCollections$ListN", name := "size", desc := "()I" } : Jvm.MethodName)).before a0 Z = true := hw_at hw 122 rfl
theorem w123 (hw : HW a0 Z) : (Jvm.Cond.instanceMethod ({ cls := "java/util/ImmutableCollections$ListN", name := "size", desc := "()I" } : Jvm.MethodName)).before a0 Z = true := hw_at hw 123 rfl
theorem w124 (hw : HW a0 Z) : (Jvm.Cond.publicMethod ({ cls := "java/util/ImmutableCollections$ListN", name := "size", desc := "()I" } : Jvm.MethodName)).before a0 Z = true := hw_at hw 124 rfl
theorem w125 (hw : HW a0 Z) : (Jvm.Cond.unhidden "java/util/ImmutableCollections$ListN" "size" "()I").before a0 Z = true := hw_at hw 125 rfl
theorem w126 (hw : HW a0 Z) : (Jvm.Cond.castable "java/util/ImmutableCollections$ListN" "java/util/List").before a0 Z = true := hw_at hw 126 rfl
theorem w127 (hw : HW a0 Z) : (Jvm.Cond.initialized "java/util/ImmutableCollections$ListN").before a0 Z = true := hw_at hw 127 rfl
theorem w128 (hw : HW a0 Z) : (Jvm.Cond.code ({ cls := "java/util/ImmutableCollections$ListN", name := "size", desc := "()I" } : Jvm.MethodName) jdk_45_method_3_code (1 : Nat) (Option.some Jvm.ClassFile.FieldType.int)).before a0 Z = true := hw_at hw 128 rfl
theorem w129 (hw : HW a0 Z) : (Jvm.Cond.fieldLink "java/util/ImmutableCollections$ListN" (7 : Nat) "java/util/ImmutableCollections$ListN" "elements" "[Ljava/lang/Object;").before a0 Z = true := hw_at hw 129 rfl
theorem w130 (hw : HW a0 Z) : (Jvm.Cond.laysFinal "java/util/ImmutableCollections$ListN" "java/util/ImmutableCollections$ListN" "elements" "[Ljava/lang/Object;").before a0 Z = true := hw_at hw 130 rfl
theorem w131 (hw : HW a0 Z) : (Jvm.Cond.methodLink "com/example/packwright/packwright/io/BuildAssemblerRoutineOfHeaderPinLaw" (42 : Nat) ({ cls := "java/lang/String", name := "length", desc := "()I" } : Jvm.MethodName)).before a0 Z = true := hw_at hw 131 rfl
theorem w132 (hw : HW a0 Z) : (Jvm.Cond.declares ({ cls := "java/lang/String", name := "length", desc := "()I" } : Jvm.MethodName)).before a0 Z = true := hw_at hw 132 rfl
theorem w133 (hw : HW a0 Z) : (Jvm.Cond.instanceMethod ({ cls := "java/lang/String", name := "length", desc := "()I" } : Jvm.MethodName)).before a0 Z = true := hw_at hw 133 rfl
theorem w134 (hw : HW a0 Z) : (Jvm.Cond.selects "java/lang/String" ({ cls := "java/lang/String", name := "length", desc := "()I" } : Jvm.MethodName) ({ cls := "java/lang/String", name := "length", desc := "()I" } : Jvm.MethodName)).before a0 Z = true := hw_at hw 134 rfl
theorem w141 (hw : HW a0 Z) : (Jvm.Cond.methodLink "com/example/packwright/packwright/io/BuildAssemblerRoutineOfHeaderPinLaw" (23 : Nat) ({ cls := "java/util/ArrayList", name := "add", desc := "(Ljava/lang/Object;)Z" } : Jvm.MethodName)).before a0 Z = true := hw_at hw 141 rfl
theorem w142 (hw : HW a0 Z) : (Jvm.Cond.declares ({ cls := "java/util/ArrayList", name := "add", desc := "(Ljava/lang/Object;)Z" } : Jvm.MethodName)).before a0 Z = true := hw_at hw 142 rfl
theorem w143 (hw : HW a0 Z) : (Jvm.Cond.instanceMethod ({ cls := "java/util/ArrayList", name := "add", desc := "(Ljava/lang/Object;)Z" } : Jvm.MethodName)).before a0 Z = true := hw_at hw 143 rfl
theorem w144 (hw : HW a0 Z) : (Jvm.Cond.selects "java/util/ArrayList" ({ cls := "java/util/ArrayList", name := "add", desc := "(Ljava/lang/Object;)Z" } : Jvm.MethodName) ({ cls := "java/util/ArrayList", name := "add", desc := "(Ljava/lang/Object;)Z" } : Jvm.MethodName)).before a0 Z = true := hw_at hw 144 rfl
theorem w145 (hw : HW a0 Z) : (Jvm.Cond.code ({ cls := "java/util/ArrayList", name := "add", desc := "(Ljava/lang/Object;)Z" } : Jvm.MethodName) jdk_38_method_25_code (2 : Nat) (Option.some Jvm.ClassFile.FieldType.boolean)).before a0 Z = true := hw_at hw 145 rfl
theorem w146 (hw : HW a0 Z) : (Jvm.Cond.fieldLink "java/util/ArrayList" (63 : Nat) "java/util/ArrayList" "modCount" "I").before a0 Z = true := hw_at hw 146 rfl
theorem w147 (hw : HW a0 Z) : (Jvm.Cond.sameField "java/util/ArrayList" "java/util/AbstractList" "modCount" "I").before a0 Z = true := hw_at hw 147 rfl
theorem w148 (hw : HW a0 Z) : (Jvm.Cond.methodLink "java/util/ArrayList" (131 : Nat) ({ cls := "java/util/ArrayList", name := "add", desc := "(Ljava/lang/Object;[Ljava/lang/Object;I)V" } : Jvm.MethodName)).before a0 Z = true := hw_at hw 148 rfl
theorem w149 (hw : HW a0 Z) : (Jvm.Cond.instanceMethod ({ cls := "java/util/ArrayList", name := "add", desc := "(Ljava/lang/Object;[Ljava/lang/Object;I)V" } : Jvm.MethodName)).before a0 Z = true := hw_at hw 149 rfl
theorem w150 (hw : HW a0 Z) : (Jvm.Cond.privateMethod ({ cls := "java/util/ArrayList", name := "add", desc := "(Ljava/lang/Object;[Ljava/lang/Object;I)V" } : Jvm.MethodName)).before a0 Z = true := hw_at hw 150 rfl
theorem w151 (hw : HW a0 Z) : (Jvm.Cond.selects "java/util/ArrayList" ({ cls := "java/util/ArrayList", name := "add", desc := "(Ljava/lang/Object;[Ljava/lang/Object;I)V" } : Jvm.MethodName) ({ cls := "java/util/ArrayList", name := "add", desc := "(Ljava/lang/Object;[Ljava/lang/Object;I)V" } : Jvm.MethodName)).before a0 Z = true := hw_at hw 151 rfl
theorem w152 (hw : HW a0 Z) : (Jvm.Cond.code ({ cls := "java/util/ArrayList", name := "add", desc := "(Ljava/lang/Object;[Ljava/lang/Object;I)V" } : Jvm.MethodName) jdk_38_method_24_code (4 : Nat) (Option.none : Option Jvm.ClassFile.FieldType)).before a0 Z = true := hw_at hw 152 rfl
theorem w153 (hw : HW a0 Z) : (Jvm.Cond.methodLink "java/util/ArrayList" (129 : Nat) ({ cls := "java/util/ArrayList", name := "grow", desc := "()[Ljava/lang/Object;" } : Jvm.MethodName)).before a0 Z = true := hw_at hw 153 rfl
theorem w154 (hw : HW a0 Z) : (Jvm.Cond.instanceMethod ({ cls := "java/util/ArrayList", name := "grow", desc := "()[Ljava/lang/Object;" } : Jvm.MethodName)).before a0 Z = true := hw_at hw 154 rfl
theorem w155 (hw : HW a0 Z) : (Jvm.Cond.privateMethod ({ cls := "java/util/ArrayList", name := "grow", desc := "()[Ljava/lang/Object;" } : Jvm.MethodName)).before a0 Z = true := hw_at hw 155 rfl
theorem w156 (hw : HW a0 Z) : (Jvm.Cond.selects "java/util/ArrayList" ({ cls := "java/util/ArrayList", name := "grow", desc := "()[Ljava/lang/Object;" } : Jvm.MethodName) ({ cls := "java/util/ArrayList", name := "grow", desc := "()[Ljava/lang/Object;" } : Jvm.MethodName)).before a0 Z = true := hw_at hw 156 rfl
theorem w157 (hw : HW a0 Z) : (Jvm.Cond.code ({ cls := "java/util/ArrayList", name := "grow", desc := "()[Ljava/lang/Object;" } : Jvm.MethodName) jdk_38_method_7_code (1 : Nat) (Option.some (Jvm.ClassFile.FieldType.array (Jvm.ClassFile.FieldType.object "java/lang/Object")))).before a0 Z = true := hw_at hw 157 rfl
theorem w158 (hw : HW a0 Z) : (Jvm.Cond.methodLink "java/util/ArrayList" (69 : Nat) ({ cls := "java/util/ArrayList", name := "grow", desc := "(I)[Ljava/lang/Object;" } : Jvm.MethodName)).before a0 Z = true := hw_at hw 158 rfl
theorem w159 (hw : HW a0 Z) : (Jvm.Cond.instanceMethod ({ cls := "java/util/ArrayList", name := "grow", desc := "(I)[Ljava/lang/Object;" } : Jvm.MethodName)).before a0 Z = true := hw_at hw 159 rfl
theorem w160 (hw : HW a0 Z) : (Jvm.Cond.privateMethod ({ cls := "java/util/ArrayList", name := "grow", desc := "(I)[Ljava/lang/Object;" } : Jvm.MethodName)).before a0 Z = true := hw_at hw 160 rfl
theorem w161 (hw : HW a0 Z) : (Jvm.Cond.selects "java/util/ArrayList" ({ cls := "java/util/ArrayList", name := "grow", desc := "(I)[Ljava/lang/Object;" } : Jvm.MethodName) ({ cls := "java/util/ArrayList", name := "grow", desc := "(I)[Ljava/lang/Object;" } : Jvm.MethodName)).before a0 Z = true := hw_at hw 161 rfl
theorem w162 (hw : HW a0 Z) : (Jvm.Cond.code ({ cls := "java/util/ArrayList", name := "grow", desc := "(I)[Ljava/lang/Object;" } : Jvm.MethodName) jdk_38_method_6_code (4 : Nat) (Option.some (Jvm.ClassFile.FieldType.array (Jvm.ClassFile.FieldType.object "java/lang/Object")))).before a0 Z = true := hw_at hw 162 rfl
theorem w163 (hw : HW a0 Z) : (Jvm.Cond.methodLink "java/util/ArrayList" (79 : Nat) ({ cls := "java/lang/Math", name := "max", desc := "(II)I" } : Jvm.MethodName)).before a0 Z = true := hw_at hw 163 rfl
theorem w164 (hw : HW a0 Z) : (Jvm.Cond.static ({ cls := "java/lang/Math", name := "max", desc := "(II)I" } : Jvm.MethodName)).before a0 Z = true := hw_at hw 164 rfl
theorem w165 (hw : HW a0 Z) : (Jvm.Cond.initialized "java/lang/Math").before a0 Z = true := hw_at hw 165 rfl
theorem w166 (hw : HW a0 Z) : (Jvm.Cond.code ({ cls := "java/lang/Math", name := "max", desc := "(II)I" } : Jvm.MethodName) jdk_29_method_65_code (2 : Nat) (Option.some Jvm.ClassFile.FieldType.int)).before a0 Z = true := hw_at hw 166 rfl
theorem w167 (hw : HW a0 Z) : (Jvm.Cond.classLink "java/util/ArrayList" (7 : Nat) "java/lang/Object").before a0 Z = true := hw_at hw 167 rfl
theorem w168 (hw : HW a0 Z) : (Jvm.Cond.arrayOver (Jvm.ClassFile.FieldType.object "java/lang/Object")).before a0 Z = true := hw_at hw 168 rfl
theorem w169 (hw : HW a0 Z) : (Jvm.Cond.castable "java/lang/String" "java/lang/Object").before a0 Z = true := hw_at hw 169 rfl
theorem w170 (hw : HW a0 Z) : (Jvm.Cond.methodLink "java/util/ImmutableCollections" (30 : Nat) ({ cls := "java/util/Collection", name := "toArray", desc := "()[Ljava/lang/Object;" } : Jvm.MethodName)).before a0 Z = true := hw_at hw 170 rfl
theorem w171 (hw : HW a0 Z) : (Jvm.Cond.declares ({ cls := "java/util/Collection", name := "toArray", desc := "()[Ljava/lang/Object;" } : Jvm.MethodName)).before a0 Z = true := hw_at hw 171 rfl
theorem w172 (hw : HW a0 Z) : (Jvm.Cond.interfaceMethod "java/util/Collection" "java/util/Collection" "toArray" "()[Ljava/lang/Object;").before a0 Z = true := hw_at hw 172 rfl
theorem w173 (hw : HW a0 Z) : (Jvm.Cond.selects "java/util/ArrayList" ({ cls := "java/util/Collection", name := "toArray", desc := "()[Ljava/lang/Object;" } : Jvm.MethodName) ({ cls := "java/util/ArrayList", name := "toArray", desc := "()[Ljava/lang/Object;" } : Jvm.MethodName)).before a0 Z = true := hw_at hw 173 rfl
theorem w174 (hw : HW a0 Z) : (Jvm.Cond.instanceMethod ({ cls := "java/util/ArrayList", name := "toArray", desc := "()[Ljava/lang/Object;" } : Jvm.MethodName)).before a0 Z = true := hw_at hw 174 rfl
theorem w175 (hw : HW a0 Z) : (Jvm.Cond.publicMethod ({ cls := "java/util/ArrayList", name := "toArray", desc := "()[Ljava/lang/Object;" } : Jvm.MethodName)).before a0 Z = true := hw_at hw 175 rfl
theorem w176 (hw : HW a0 Z) : (Jvm.Cond.unhidden "java/util/ArrayList" "toArray" "()[Ljava/lang/Object;").before a0 Z = true := hw_at hw 176 rfl
theorem w177 (hw : HW a0 Z) : (Jvm.Cond.code ({ cls := "java/util/ArrayList", name := "toArray", desc := "()[Ljava/lang/Object;" } : Jvm.MethodName) jdk_38_method_16_code (1 : Nat) (Option.some (Jvm.ClassFile.FieldType.array (Jvm.ClassFile.FieldType.object "java/lang/Object")))).before a0 Z = true := hw_at hw 177 rfl
theorem w178 (hw : HW a0 Z) : (Jvm.Cond.methodLink "java/util/ArrayList" (66 : Nat) ({ cls := "java/util/Arrays", name := "copyOf", desc := "([Ljava/lang/Object;I)[Ljava/lang/Object;" } : Jvm.MethodName)).before a0 Z = true := hw_at hw 178 rfl
theorem w179 (hw : HW a0 Z) : (Jvm.Cond.static ({ cls := "java/util/Arrays", name := "copyOf", desc := "([Ljava/lang/Object;I)[Ljava/lang/Object;" } : Jvm.MethodName)).before a0 Z = true := hw_at hw 179 rfl
theorem w180 (hw : HW a0 Z) : (Jvm.Cond.initialized "java/util/Arrays").before a0 Z = true := hw_at hw 180 rfl
theorem w181 (hw : HW a0 Z) : (Jvm.Cond.code ({ cls := "java/util/Arrays", name := "copyOf", desc := "([Ljava/lang/Object;I)[Ljava/lang/Object;" } : Jvm.MethodName) jdk_65_method_119_code (2 : Nat) (Option.some (Jvm.ClassFile.FieldType.array (Jvm.ClassFile.FieldType.object "java/lang/Object")))).before a0 Z = true := hw_at hw 181 rfl
theorem w182 (hw : HW a0 Z) : (Jvm.Cond.methodLink "java/util/Arrays" (86 : Nat) ({ cls := "java/lang/Object", name := "getClass", desc := "()Ljava/lang/Class;" } : Jvm.MethodName)).before a0 Z = true := hw_at hw 182 rfl
theorem w183 (hw : HW a0 Z) : (Jvm.Cond.declares ({ cls := "java/lang/Object", name := "getClass", desc := "()Ljava/lang/Class;" } : Jvm.MethodName)).before a0 Z = true := hw_at hw 183 rfl
theorem w184 (hw : HW a0 Z) : (Jvm.Cond.instanceMethod ({ cls := "java/lang/Object", name := "getClass", desc := "()Ljava/lang/Class;" } : Jvm.MethodName)).before a0 Z = true := hw_at hw 184 rfl
theorem w185 (hw : HW a0 Z) : (Jvm.Cond.selects "[Ljava/lang/Object;" ({ cls := "java/lang/Object", name := "getClass", desc := "()Ljava/lang/Class;" } : Jvm.MethodName) ({ cls := "java/lang/Object", name := "getClass", desc := "()Ljava/lang/Class;" } : Jvm.MethodName)).before a0 Z = true := hw_at hw 185 rfl
theorem w186 (hw : HW a0 Z) : (Jvm.Cond.native ({ cls := "java/lang/Object", name := "getClass", desc := "()Ljava/lang/Class;" } : Jvm.MethodName)).before a0 Z = true := hw_at hw 186 rfl
theorem w188 (hw : HW a0 Z) : (Jvm.Cond.methodLink "java/util/Arrays" (300 : Nat) ({ cls := "java/util/Arrays", name := "copyOf", desc := "([Ljava/lang/Object;ILjava/lang/Class;)[Ljava/lang/Object;" } : Jvm.MethodName)).before a0 Z = true := hw_at hw 188 rfl
theorem w189 (hw : HW a0 Z) : (Jvm.Cond.static ({ cls := "java/util/Arrays", name := "copyOf", desc := "([Ljava/lang/Object;ILjava/lang/Class;)[Ljava/lang/Object;" } : Jvm.MethodName)).before a0 Z = true := hw_at hw 189 rfl
theorem w190 (hw : HW a0 Z) : (Jvm.Cond.code ({ cls := "java/util/Arrays", name := "copyOf", desc := "([Ljava/lang/Object;ILjava/lang/Class;)[Ljava/lang/Object;" } : Jvm.MethodName) jdk_65_method_120_code (4 : Nat) (Option.some (Jvm.ClassFile.FieldType.array (Jvm.ClassFile.FieldType.object "java/lang/Object")))).before a0 Z = true := hw_at hw 190 rfl
theorem w191 (hw : HW a0 Z) : (Jvm.Cond.classLink "java/util/Arrays" (110 : Nat) "[Ljava/lang/Object;").before a0 Z = true := hw_at hw 191 rfl
theorem w192 (hw : HW a0 Z) : (Jvm.Cond.classLink "java/util/Arrays" (2 : Nat) "java/lang/Object").before a0 Z = true := hw_at hw 192 rfl
theorem w193 (hw : HW a0 Z) : (Jvm.Cond.methodLink "java/util/Arrays" (304 : Nat) ({ cls := "java/lang/Math", name := "min", desc := "(II)I" } : Jvm.MethodName)).before a0 Z = true := hw_at hw 193 rfl
theorem w194 (hw : HW a0 Z) : (Jvm.Cond.static ({ cls := "java/lang/Math", name := "min", desc := "(II)I" } : Jvm.MethodName)).before a0 Z = true := hw_at hw 194 rfl
theorem w195 (hw : HW a0 Z) : (Jvm.Cond.code ({ cls := "java/lang/Math", name := "min", desc := "(II)I" } : Jvm.MethodName) jdk_29_method_69_code (2 : Nat) (Option.some Jvm.ClassFile.FieldType.int)).before a0 Z = true := hw_at hw 195 rfl
theorem w196 (hw : HW a0 Z) : (Jvm.Cond.methodLink "java/util/Arrays" (150 : Nat) ({ cls := "java/lang/System", name := "arraycopy", desc := "(Ljava/lang/Object;ILjava/lang/Object;II)V" } : Jvm.MethodName)).before a0 Z = true := hw_at hw 196 rfl
theorem w197 (hw : HW a0 Z) : (Jvm.Cond.static ({ cls := "java/lang/System", name := "arraycopy", desc := "(Ljava/lang/Object;ILjava/lang/Object;II)V" } : Jvm.MethodName)).before a0 Z = true := hw_at hw 197 rfl
theorem w198 (hw : HW a0 Z) : (Jvm.Cond.initialized "java/lang/System").before a0 Z = true := hw_at hw 198 rfl
theorem w199 (hw : HW a0 Z) : (Jvm.Cond.native ({ cls := "java/lang/System", name := "arraycopy", desc := "(Ljava/lang/Object;ILjava/lang/Object;II)V" } : Jvm.MethodName)).before a0 Z = true := hw_at hw 199 rfl
theorem w200 (hw : HW a0 Z) : (Jvm.Cond.methodLink "java/util/ImmutableCollections" (34 : Nat) ({ cls := "java/util/List", name := "of", desc := "([Ljava/lang/Object;)Ljava/util/List;" } : Jvm.MethodName)).before a0 Z = true := hw_at hw 200 rfl
theorem w201 (hw : HW a0 Z) : (Jvm.Cond.static ({ cls := "java/util/List", name := "of", desc := "([Ljava/lang/Object;)Ljava/util/List;" } : Jvm.MethodName)).before a0 Z = true := hw_at hw 201 rfl
theorem w202 (hw : HW a0 Z) : (Jvm.Cond.code ({ cls := "java/util/List", name := "of", desc := "([Ljava/lang/Object;)Ljava/util/List;" } : Jvm.MethodName) jdk_40_method_47_code (2 : Nat) (Option.some (Jvm.ClassFile.FieldType.object "java/util/List"))).before a0 Z = true := hw_at hw 202 rfl
theorem w203 (hw : HW a0 Z) : (Jvm.Cond.methodLink "java/util/List" (109 : Nat) ({ cls := "java/util/ImmutableCollections", name := "listFromArray", desc := "([Ljava/lang/Object;)Ljava/util/List;" } : Jvm.MethodName)).before a0 Z = true := hw_at hw 203 rfl
theorem w204 (hw : HW a0 Z) : (Jvm.Cond.static ({ cls := "java/util/ImmutableCollections", name := "listFromArray", desc := "([Ljava/lang/Object;)Ljava/util/List;" } : Jvm.MethodName)).before a0 Z = true := hw_at hw 204 rfl
theorem w205 (hw : HW a0 Z) : (Jvm.Cond.code ({ cls := "java/util/ImmutableCollections", name := "listFromArray", desc := "([Ljava/lang/Object;)Ljava/util/List;" } : Jvm.MethodName) jdk_56_method_4_code (3 : Nat) (Option.some (Jvm.ClassFile.FieldType.object "java/util/List"))).before a0 Z = true := hw_at hw 205 rfl
theorem w206 (hw : HW a0 Z) : (Jvm.Cond.classLink "java/util/ImmutableCollections" (2 : Nat) "java/lang/Object").before a0 Z = true := hw_at hw 206 rfl
theorem w207 (hw : HW a0 Z) : (Jvm.Cond.methodLink "java/util/ImmutableCollections" (37 : Nat) ({ cls := "java/util/Objects", name := "requireNonNull", desc := "(Ljava/lang/Object;)Ljava/lang/Object;" } : Jvm.MethodName)).before a0 Z = true := hw_at hw 207 rfl
theorem w208 (hw : HW a0 Z) : (Jvm.Cond.static ({ cls := "java/util/Objects", name := "requireNonNull", desc := "(Ljava/lang/Object;)Ljava/lang/Object;" } : Jvm.MethodName)).before a0 Z = true := hw_at hw 208 rfl
theorem w209 (hw : HW a0 Z) : (Jvm.Cond.initialized "java/util/Objects").before a0 Z = true := hw_at hw 209 rfl
theorem w210 (hw : HW a0 Z) : (Jvm.Cond.code ({ cls := "java/util/Objects", name := "requireNonNull", desc := "(Ljava/lang/Object;)Ljava/lang/Object;" } : Jvm.MethodName) jdk_31_method_10_code (1 : Nat) (Option.some (Jvm.ClassFile.FieldType.object "java/lang/Object"))).before a0 Z = true := hw_at hw 210 rfl
theorem w211 (hw : HW a0 Z) : (Jvm.Cond.instantiable "java/util/ImmutableCollections$ListN" (2 : Nat)).before a0 Z = true := hw_at hw 211 rfl
theorem w212 (hw : HW a0 Z) : (Jvm.Cond.methodLinkNest "java/util/ImmutableCollections" (43 : Nat) ({ cls := "java/util/ImmutableCollections$ListN", name := "<init>", desc := "([Ljava/lang/Object;Z)V" } : Jvm.MethodName) "java/util/ImmutableCollections").before a0 Z = true := hw_at hw 212 rfl
theorem w213 (hw : HW a0 Z) : (Jvm.Cond.instanceMethod ({ cls := "java/util/ImmutableCollections$ListN", name := "<init>", desc := "([Ljava/lang/Object;Z)V" } : Jvm.MethodName)).before a0 Z = true := hw_at hw 213 rfl
theorem w215 (hw : HW a0 Z) : (Jvm.Cond.code ({ cls := "java/util/ImmutableCollections$ListN", name := "<init>", desc := "([Ljava/lang/Object;Z)V" } : Jvm.MethodName) jdk_45_method_1_code (3 : Nat) (Option.none : Option Jvm.ClassFile.FieldType)).before a0 Z = true := hw_at hw 215 rfl
theorem w216 (hw : HW a0 Z) : (Jvm.Cond.methodLink "java/util/ImmutableCollections$ListN" (1 : Nat) ({ cls := "java/util/ImmutableCollections$AbstractImmutableList", name := "<init>", desc := "()V" } : Jvm.MethodName)).before a0 Z = true := hw_at hw 216 rfl
theorem w217 (hw : HW a0 Z) : (Jvm.Cond.instanceMethod ({ cls := "java/util/ImmutableCollections$AbstractImmutableList", name := "<init>", desc := "()V" } : Jvm.MethodName)).before a0 Z = true := hw_at hw 217 rfl
theorem w220 (hw : HW a0 Z) : (Jvm.Cond.initialized "java/util/ImmutableCollections$AbstractImmutableList").before a0 Z = true := hw_at hw 220 rfl
theorem w221 (hw : HW a0 Z) : (Jvm.Cond.code ({ cls := "java/util/ImmutableCollections$AbstractImmutableList", name := "<init>", desc := "()V" } : Jvm.MethodName) jdk_46_method_1_code (1 : Nat) (Option.none : Option Jvm.ClassFile.FieldType)).before a0 Z = true := hw_at hw 221 rfl
theorem w222 (hw : HW a0 Z) : (Jvm.Cond.methodLink "java/util/ImmutableCollections$AbstractImmutableList" (1 : Nat) ({ cls := "java/util/ImmutableCollections$AbstractImmutableCollection", name := "<init>", desc := "()V" } : Jvm.MethodName)).before a0 Z = true := hw_at hw 222 rfl
theorem w223 (hw : HW a0 Z) : (Jvm.Cond.instanceMethod ({ cls := "java/util/ImmutableCollections$AbstractImmutableCollection", name := "<init>", desc := "()V" } : Jvm.MethodName)).before a0 Z = true := hw_at hw 223 rfl
theorem w226 (hw : HW a0 Z) : (Jvm.Cond.initialized "java/util/ImmutableCollections$AbstractImmutableCollection").before a0 Z = true := hw_at hw 226 rfl
theorem w227 (hw : HW a0 Z) : (Jvm.Cond.code ({ cls := "java/util/ImmutableCollections$AbstractImmutableCollection", name := "<init>", desc := "()V" } : Jvm.MethodName) jdk_47_method_1_code (1 : Nat) (Option.none : Option Jvm.ClassFile.FieldType)).before a0 Z = true := hw_at hw 227 rfl
theorem w228 (hw : HW a0 Z) : (Jvm.Cond.methodLink "java/util/ImmutableCollections$AbstractImmutableCollection" (1 : Nat) ({ cls := "java/util/AbstractCollection", name := "<init>", desc := "()V" } : Jvm.MethodName)).before a0 Z = true := hw_at hw 228 rfl
theorem w230 (hw : HW a0 Z) : (Jvm.Cond.fieldLink "java/util/ImmutableCollections$ListN" (13 : Nat) "java/util/ImmutableCollections$ListN" "allowNulls" "Z").before a0 Z = true := hw_at hw 230 rfl
theorem w231 (hw : HW a0 Z) : (Jvm.Cond.laysFinal "java/util/ImmutableCollections$ListN" "java/util/ImmutableCollections$ListN" "allowNulls" "Z").before a0 Z = true := hw_at hw 231 rfl
theorem w232 (hw : HW a0 Z) : (Jvm.Cond.methodLink "com/example/packwright/packwright/io/BuildAssemblerRoutineOfHeaderPinLaw" (46 : Nat) ({ cls := "java/lang/String", name := "charAt", desc := "(I)C" } : Jvm.MethodName)).before a0 Z = true := hw_at hw 232 rfl
theorem w233 (hw : HW a0 Z) : (Jvm.Cond.declares ({ cls := "java/lang/String", name := "charAt", desc := "(I)C" } : Jvm.MethodName)).before a0 Z = true := hw_at hw 233 rfl
theorem w234 (hw : HW a0 Z) : (Jvm.Cond.instanceMethod ({ cls := "java/lang/String", name := "charAt", desc := "(I)C" } : Jvm.MethodName)).before a0 Z = true := hw_at hw 234 rfl
theorem w235 (hw : HW a0 Z) : (Jvm.Cond.selects "java/lang/String" ({ cls := "java/lang/String", name := "charAt", desc := "(I)C" } : Jvm.MethodName) ({ cls := "java/lang/String", name := "charAt", desc := "(I)C" } : Jvm.MethodName)).before a0 Z = true := hw_at hw 235 rfl
theorem w254 (hw : HW a0 Z) : (Jvm.Cond.classLink "java/util/List" (96 : Nat) "java/util/ImmutableCollections$List12").before a0 Z = true := hw_at hw 254 rfl
theorem w255 (hw : HW a0 Z) : (Jvm.Cond.instantiable "java/util/ImmutableCollections$List12" (2 : Nat)).before a0 Z = true := hw_at hw 255 rfl
theorem w256 (hw : HW a0 Z) : (Jvm.Cond.initialized "java/util/ImmutableCollections$List12").before a0 Z = true := hw_at hw 256 rfl
theorem w257 (hw : HW a0 Z) : (Jvm.Cond.methodLink "java/util/List" (100 : Nat) ({ cls := "java/util/ImmutableCollections$List12", name := "<init>", desc := "(Ljava/lang/Object;Ljava/lang/Object;)V" } : Jvm.MethodName)).before a0 Z = true := hw_at hw 257 rfl
theorem w258 (hw : HW a0 Z) : (Jvm.Cond.instanceMethod ({ cls := "java/util/ImmutableCollections$List12", name := "<init>", desc := "(Ljava/lang/Object;Ljava/lang/Object;)V" } : Jvm.MethodName)).before a0 Z = true := hw_at hw 258 rfl
theorem w260 (hw : HW a0 Z) : (Jvm.Cond.code ({ cls := "java/util/ImmutableCollections$List12", name := "<init>", desc := "(Ljava/lang/Object;Ljava/lang/Object;)V" } : Jvm.MethodName) jdk_44_method_2_code (3 : Nat) (Option.none : Option Jvm.ClassFile.FieldType)).before a0 Z = true := hw_at hw 260 rfl
theorem w261 (hw : HW a0 Z) : (Jvm.Cond.methodLink "java/util/ImmutableCollections$List12" (1 : Nat) ({ cls := "java/util/ImmutableCollections$AbstractImmutableList", name := "<init>", desc := "()V" } : Jvm.MethodName)).before a0 Z = true := hw_at hw 261 rfl
theorem w265 (hw : HW a0 Z) : (Jvm.Cond.methodLink "java/util/ImmutableCollections$List12" (7 : Nat) ({ cls := "java/util/Objects", name := "requireNonNull", desc := "(Ljava/lang/Object;)Ljava/lang/Object;" } : Jvm.MethodName)).before a0 Z = true := hw_at hw 265 rfl
theorem w266 (hw : HW a0 Z) : (Jvm.Cond.fieldLink "java/util/ImmutableCollections$List12" (13 : Nat) "java/util/ImmutableCollections$List12" "e0" "Ljava/lang/Object;").before a0 Z = true := hw_at hw 266 rfl
theorem w267 (hw : HW a0 Z) : (Jvm.Cond.laysFinal "java/util/ImmutableCollections$List12" "java/util/ImmutableCollections$List12" "e0" "Ljava/lang/Object;").before a0 Z = true := hw_at hw 267 rfl
theorem w268 (hw : HW a0 Z) : (Jvm.Cond.fieldLink "java/util/ImmutableCollections$List12" (24 : Nat) "java/util/ImmutableCollections$List12" "e1" "Ljava/lang/Object;").before a0 Z = true := hw_at hw 268 rfl
theorem w269 (hw : HW a0 Z) : (Jvm.Cond.laysFinal "java/util/ImmutableCollections$List12" "java/util/ImmutableCollections$List12" "e1" "Ljava/lang/Object;").before a0 Z = true := hw_at hw 269 rfl
theorem w270 (hw : HW a0 Z) : (Jvm.Cond.selects "java/util/ImmutableCollections$List12" ({ cls := "java/util/List", name := "size", desc := "()I" } : Jvm.MethodName) ({ cls := "java/util/ImmutableCollections$List12", name := "size", desc := "()I" } : Jvm.MethodName)).before a0 Z = true := hw_at hw 270 rfl
theorem w271 (hw : HW a0 Z) : (Jvm.Cond.instanceMethod ({ cls := "java/util/ImmutableCollections$List12", name := "size", desc := "()I" } : Jvm.MethodName)).before a0 Z = true := hw_at hw 271 rfl
theorem w272 (hw : HW a0 Z) : (Jvm.Cond.publicMethod ({ cls := "java/util/ImmutableCollections$List12", name := "size", desc := "()I" } : Jvm.MethodName)).before a0 Z = true := hw_at hw 272 rfl
theorem w273 (hw : HW a0 Z) : (Jvm.Cond.unhidden "java/util/ImmutableCollections$List12" "size" "()I").before a0 Z = true := hw_at hw 273 rfl
theorem w274 (hw : HW a0 Z) : (Jvm.Cond.castable "java/util/ImmutableCollections$List12" "java/util/List").before a0 Z = true := hw_at hw 274 rfl
theorem w275 (hw : HW a0 Z) : (Jvm.Cond.code ({ cls := "java/util/ImmutableCollections$List12", name := "size", desc := "()I" } : Jvm.MethodName) jdk_44_method_3_code (1 : Nat) (Option.some Jvm.ClassFile.FieldType.int)).before a0 Z = true := hw_at hw 275 rfl
theorem w276 (hw : HW a0 Z) : (Jvm.Cond.fieldLinkNest "java/util/ImmutableCollections$List12" (19 : Nat) "java/util/ImmutableCollections" "EMPTY" "Ljava/lang/Object;" "java/util/ImmutableCollections").before a0 Z = true := hw_at hw 276 rfl
theorem w277 (hw : HW a0 Z) : (Jvm.Cond.methodLink "com/example/packwright/packwright/io/BuildAssembler" (79 : Nat) ({ cls := "java/util/List", name := "get", desc := "(I)Ljava/lang/Object;" } : Jvm.MethodName)).before a0 Z = true := hw_at hw 277 rfl
theorem w278 (hw : HW a0 Z) : (Jvm.Cond.declares ({ cls := "java/util/List", name := "get", desc := "(I)Ljava/lang/Object;" } : Jvm.MethodName)).before a0 Z = true := hw_at hw 278 rfl
theorem w279 (hw : HW a0 Z) : (Jvm.Cond.interfaceMethod "java/util/List" "java/util/List" "get" "(I)Ljava/lang/Object;").before a0 Z = true := hw_at hw 279 rfl
theorem w280 (hw : HW a0 Z) : (Jvm.Cond.selects "java/util/ImmutableCollections$List12" ({ cls := "java/util/List", name := "get", desc := "(I)Ljava/lang/Object;" } : Jvm.MethodName) ({ cls := "java/util/ImmutableCollections$List12", name := "get", desc := "(I)Ljava/lang/Object;" } : Jvm.MethodName)).before a0 Z = true := hw_at hw 280 rfl
theorem w281 (hw : HW a0 Z) : (Jvm.Cond.instanceMethod ({ cls := "java/util/ImmutableCollections$List12", name := "get", desc := "(I)Ljava/lang/Object;" } : Jvm.MethodName)).before a0 Z = true := hw_at hw 281 rfl
theorem w282 (hw : HW a0 Z) : (Jvm.Cond.publicMethod ({ cls := "java/util/ImmutableCollections$List12", name := "get", desc := "(I)Ljava/lang/Object;" } : Jvm.MethodName)).before a0 Z = true := hw_at hw 282 rfl
theorem w283 (hw : HW a0 Z) : (Jvm.Cond.unhidden "java/util/ImmutableCollections$List12" "get" "(I)Ljava/lang/Object;").before a0 Z = true := hw_at hw 283 rfl
theorem w284 (hw : HW a0 Z) : (Jvm.Cond.code ({ cls := "java/util/ImmutableCollections$List12", name := "get", desc := "(I)Ljava/lang/Object;" } : Jvm.MethodName) jdk_44_method_5_code (2 : Nat) (Option.some (Jvm.ClassFile.FieldType.object "java/lang/Object"))).before a0 Z = true := hw_at hw 284 rfl
theorem w285 (hw : HW a0 Z) : (Jvm.Cond.classLink "com/example/packwright/packwright/io/BuildAssembler" (83 : Nat) "java/lang/String").before a0 Z = true := hw_at hw 285 rfl
theorem w286 (hw : HW a0 Z) : (Jvm.Cond.stringLink "com/example/packwright/packwright/io/BuildAssembler" (159 : Nat) "RTN").before a0 Z = true := hw_at hw 286 rfl
theorem w287 (hw : HW a0 Z) : (Jvm.Cond.methodLink "com/example/packwright/packwright/io/BuildAssembler" (91 : Nat) ({ cls := "java/lang/String", name := "equals", desc := "(Ljava/lang/Object;)Z" } : Jvm.MethodName)).before a0 Z = true := hw_at hw 287 rfl
theorem w288 (hw : HW a0 Z) : (Jvm.Cond.declares ({ cls := "java/lang/String", name := "equals", desc := "(Ljava/lang/Object;)Z" } : Jvm.MethodName)).before a0 Z = true := hw_at hw 288 rfl
theorem w289 (hw : HW a0 Z) : (Jvm.Cond.instanceMethod ({ cls := "java/lang/String", name := "equals", desc := "(Ljava/lang/Object;)Z" } : Jvm.MethodName)).before a0 Z = true := hw_at hw 289 rfl
theorem w290 (hw : HW a0 Z) : (Jvm.Cond.selects "java/lang/String" ({ cls := "java/lang/String", name := "equals", desc := "(Ljava/lang/Object;)Z" } : Jvm.MethodName) ({ cls := "java/lang/String", name := "equals", desc := "(Ljava/lang/Object;)Z" } : Jvm.MethodName)).before a0 Z = true := hw_at hw 290 rfl
theorem w296 (hw : HW a0 Z) : (Jvm.Cond.stringLink "com/example/packwright/packwright/io/BuildAssemblerRoutineOfHeaderPinLaw" (12 : Nat) "RTN").before a0 Z = true := hw_at hw 296 rfl
theorem w297 (hw : HW a0 Z) : (Jvm.Cond.methodLink "com/example/packwright/packwright/io/BuildAssemblerRoutineOfHeaderPinLaw" (50 : Nat) ({ cls := "java/lang/String", name := "equals", desc := "(Ljava/lang/Object;)Z" } : Jvm.MethodName)).before a0 Z = true := hw_at hw 297 rfl
theorem w298 (hw : HW a0 Z) : (Jvm.Cond.methodLink "java/util/List" (98 : Nat) ({ cls := "java/util/ImmutableCollections$List12", name := "<init>", desc := "(Ljava/lang/Object;)V" } : Jvm.MethodName)).before a0 Z = true := hw_at hw 298 rfl
theorem w299 (hw : HW a0 Z) : (Jvm.Cond.instanceMethod ({ cls := "java/util/ImmutableCollections$List12", name := "<init>", desc := "(Ljava/lang/Object;)V" } : Jvm.MethodName)).before a0 Z = true := hw_at hw 299 rfl
theorem w300 (hw : HW a0 Z) : (Jvm.Cond.code ({ cls := "java/util/ImmutableCollections$List12", name := "<init>", desc := "(Ljava/lang/Object;)V" } : Jvm.MethodName) jdk_44_method_1_code (2 : Nat) (Option.none : Option Jvm.ClassFile.FieldType)).before a0 Z = true := hw_at hw 300 rfl
abbrev B0 : ByteArray := method_2_code
abbrev B1 : ByteArray := jdk_42_method_3_code
abbrev B2 : ByteArray := jdk_42_method_149_code
abbrev B7 : ByteArray := jdk_38_method_2_code
abbrev B8 : ByteArray := jdk_39_method_1_code
abbrev B9 : ByteArray := jdk_22_method_1_code
abbrev B10 : ByteArray := prog_37_method_1_code
abbrev B11 : ByteArray := jdk_30_method_1_code
abbrev B12 : ByteArray := jdk_40_method_48_code
abbrev B13 : ByteArray := jdk_56_method_3_code
abbrev B14 : ByteArray := jdk_38_method_9_code
abbrev B15 : ByteArray := jdk_40_method_36_code
abbrev B16 : ByteArray := prog_4_method_11_code
abbrev B17 : ByteArray := prog_37_method_7_code
abbrev B18 : ByteArray := jdk_45_method_3_code
abbrev B21 : ByteArray := jdk_38_method_25_code
abbrev B22 : ByteArray := jdk_38_method_24_code
abbrev B23 : ByteArray := jdk_38_method_7_code
abbrev B24 : ByteArray := jdk_38_method_6_code
abbrev B25 : ByteArray := jdk_29_method_65_code
abbrev B26 : ByteArray := jdk_38_method_16_code
abbrev B27 : ByteArray := jdk_65_method_119_code
abbrev B28 : ByteArray := jdk_65_method_120_code
abbrev B29 : ByteArray := jdk_29_method_69_code
abbrev B30 : ByteArray := jdk_40_method_47_code
abbrev B31 : ByteArray := jdk_56_method_4_code
abbrev B32 : ByteArray := jdk_31_method_10_code
abbrev B33 : ByteArray := jdk_45_method_1_code
abbrev B34 : ByteArray := jdk_46_method_1_code
abbrev B35 : ByteArray := jdk_47_method_1_code
abbrev B41 : ByteArray := jdk_44_method_2_code
abbrev B42 : ByteArray := jdk_44_method_3_code
abbrev B43 : ByteArray := jdk_44_method_5_code
abbrev B46 : ByteArray := jdk_44_method_1_code
theorem d0_0 : decode B0 0 = .ok (.iload_n 1, 1) := by decide +kernel
theorem d0_1 : decode B0 1 = .ok (.sipush 255, 3) := by decide +kernel
theorem d0_4 : decode B0 4 = .ok (.iand, 1) := by decide +kernel
theorem d0_5 : decode B0 5 = .ok (.i2c, 1) := by decide +kernel
theorem d0_6 : decode B0 6 = .ok (.istore_n 2, 1) := by decide +kernel
theorem d0_7 : decode B0 7 = .ok (.iload_n 1, 1) := by decide +kernel
theorem d0_8 : decode B0 8 = .ok (.bipush 8, 2) := by decide +kernel
theorem d0_10 : decode B0 10 = .ok (.iushr, 1) := by decide +kernel
theorem d0_11 : decode B0 11 = .ok (.sipush 255, 3) := by decide +kernel
theorem d0_14 : decode B0 14 = .ok (.iand, 1) := by decide +kernel
theorem d0_15 : decode B0 15 = .ok (.i2c, 1) := by decide +kernel
theorem d0_16 : decode B0 16 = .ok (.istore_n 3, 1) := by decide +kernel
theorem d0_17 : decode B0 17 = .ok (.iload_n 1, 1) := by decide +kernel
theorem d0_18 : decode B0 18 = .ok (.bipush 16, 2) := by decide +kernel
theorem d0_20 : decode B0 20 = .ok (.iushr, 1) := by decide +kernel
theorem d0_21 : decode B0 21 = .ok (.sipush 255, 3) := by decide +kernel
theorem d0_24 : decode B0 24 = .ok (.iand, 1) := by decide +kernel
theorem d0_25 : decode B0 25 = .ok (.i2c, 1) := by decide +kernel
theorem d0_26 : decode B0 26 = .ok (.istore 4, 2) := by decide +kernel
theorem d0_28 : decode B0 28 = .ok (.iload_n 1, 1) := by decide +kernel
theorem d0_29 : decode B0 29 = .ok (.bipush 24, 2) := by decide +kernel
theorem d0_31 : decode B0 31 = .ok (.iushr, 1) := by decide +kernel
theorem d0_32 : decode B0 32 = .ok (.sipush 255, 3) := by decide +kernel
theorem d0_35 : decode B0 35 = .ok (.iand, 1) := by decide +kernel
theorem d0_36 : decode B0 36 = .ok (.i2c, 1) := by decide +kernel
theorem d0_37 : decode B0 37 = .ok (.istore 5, 2) := by decide +kernel
theorem d0_39 : decode B0 39 = .ok (.iload_n 0, 1) := by decide +kernel
theorem d0_40 : decode B0 40 = .ok (.ifCond .gt 14, 3) := by decide +kernel
theorem d0_43 : decode B0 43 = .ok (.new 7, 3) := by decide +kernel
theorem d0_46 : decode B0 46 = .ok (.dup, 1) := by decide +kernel
theorem d0_47 : decode B0 47 = .ok (.iconst 0, 1) := by decide +kernel
theorem d0_48 : decode B0 48 = .ok (.newarray .char, 2) := by decide +kernel
theorem d0_50 : decode B0 50 = .ok (.invokespecial 9, 3) := by decide +kernel
theorem d0_53 : decode B0 53 = .ok (.areturn, 1) := by decide +kernel
theorem d0_54 : decode B0 54 = .ok (.iload_n 0, 1) := by decide +kernel
theorem d0_55 : decode B0 55 = .ok (.iconst 1, 1) := by decide +kernel
theorem d0_56 : decode B0 56 = .ok (.if_icmp .ne 18, 3) := by decide +kernel
theorem d0_59 : decode B0 59 = .ok (.new 7, 3) := by decide +kernel
theorem d0_62 : decode B0 62 = .ok (.dup, 1) := by decide +kernel
theorem d0_63 : decode B0 63 = .ok (.iconst 1, 1) := by decide +kernel
theorem d0_64 : decode B0 64 = .ok (.newarray .char, 2) := by decide +kernel
theorem d0_66 : decode B0 66 = .ok (.dup, 1) := by decide +kernel
theorem d0_67 : decode B0 67 = .ok (.iconst 0, 1) := by decide +kernel
theorem d0_68 : decode B0 68 = .ok (.iload_n 2, 1) := by decide +kernel
theorem d0_69 : decode B0 69 = .ok (.castore, 1) := by decide +kernel
theorem d0_70 : decode B0 70 = .ok (.invokespecial 9, 3) := by decide +kernel
theorem d0_73 : decode B0 73 = .ok (.areturn, 1) := by decide +kernel
theorem d0_74 : decode B0 74 = .ok (.iload_n 0, 1) := by decide +kernel
theorem d0_75 : decode B0 75 = .ok (.iconst 2, 1) := by decide +kernel
theorem d0_76 : decode B0 76 = .ok (.if_icmp .ne 22, 3) := by decide +kernel
theorem d0_79 : decode B0 79 = .ok (.new 7, 3) := by decide +kernel
theorem d0_82 : decode B0 82 = .ok (.dup, 1) := by decide +kernel
theorem d0_83 : decode B0 83 = .ok (.iconst 2, 1) := by decide +kernel
theorem d0_84 : decode B0 84 = .ok (.newarray .char, 2) := by decide +kernel
theorem d0_86 : decode B0 86 = .ok (.dup, 1) := by decide +kernel
theorem d0_87 : decode B0 87 = .ok (.iconst 0, 1) := by decide +kernel
theorem d0_88 : decode B0 88 = .ok (.iload_n 2, 1) := by decide +kernel
theorem d0_89 : decode B0 89 = .ok (.castore, 1) := by decide +kernel
theorem d0_90 : decode B0 90 = .ok (.dup, 1) := by decide +kernel
theorem d0_91 : decode B0 91 = .ok (.iconst 1, 1) := by decide +kernel
theorem d0_92 : decode B0 92 = .ok (.iload_n 3, 1) := by decide +kernel
theorem d0_93 : decode B0 93 = .ok (.castore, 1) := by decide +kernel
theorem d0_94 : decode B0 94 = .ok (.invokespecial 9, 3) := by decide +kernel
theorem d0_97 : decode B0 97 = .ok (.areturn, 1) := by decide +kernel
theorem d0_98 : decode B0 98 = .ok (.iload_n 0, 1) := by decide +kernel
theorem d0_99 : decode B0 99 = .ok (.iconst 3, 1) := by decide +kernel
theorem d0_100 : decode B0 100 = .ok (.if_icmp .ne 27, 3) := by decide +kernel
theorem d0_103 : decode B0 103 = .ok (.new 7, 3) := by decide +kernel
theorem d0_106 : decode B0 106 = .ok (.dup, 1) := by decide +kernel
theorem d0_107 : decode B0 107 = .ok (.iconst 3, 1) := by decide +kernel
theorem d0_108 : decode B0 108 = .ok (.newarray .char, 2) := by decide +kernel
theorem d0_110 : decode B0 110 = .ok (.dup, 1) := by decide +kernel
theorem d0_111 : decode B0 111 = .ok (.iconst 0, 1) := by decide +kernel
theorem d0_112 : decode B0 112 = .ok (.iload_n 2, 1) := by decide +kernel
theorem d0_113 : decode B0 113 = .ok (.castore, 1) := by decide +kernel
theorem d0_114 : decode B0 114 = .ok (.dup, 1) := by decide +kernel
theorem d0_115 : decode B0 115 = .ok (.iconst 1, 1) := by decide +kernel
theorem d0_116 : decode B0 116 = .ok (.iload_n 3, 1) := by decide +kernel
theorem d0_117 : decode B0 117 = .ok (.castore, 1) := by decide +kernel
theorem d0_118 : decode B0 118 = .ok (.dup, 1) := by decide +kernel
theorem d0_119 : decode B0 119 = .ok (.iconst 2, 1) := by decide +kernel
theorem d0_120 : decode B0 120 = .ok (.iload 4, 2) := by decide +kernel
theorem d0_122 : decode B0 122 = .ok (.castore, 1) := by decide +kernel
theorem d0_123 : decode B0 123 = .ok (.invokespecial 9, 3) := by decide +kernel
theorem d0_126 : decode B0 126 = .ok (.areturn, 1) := by decide +kernel
theorem d0_127 : decode B0 127 = .ok (.new 7, 3) := by decide +kernel
theorem d0_130 : decode B0 130 = .ok (.dup, 1) := by decide +kernel
theorem d0_131 : decode B0 131 = .ok (.iconst 4, 1) := by decide +kernel
theorem d0_132 : decode B0 132 = .ok (.newarray .char, 2) := by decide +kernel
theorem d0_134 : decode B0 134 = .ok (.dup, 1) := by decide +kernel
theorem d0_135 : decode B0 135 = .ok (.iconst 0, 1) := by decide +kernel
theorem d0_136 : decode B0 136 = .ok (.iload_n 2, 1) := by decide +kernel
theorem d0_137 : decode B0 137 = .ok (.castore, 1) := by decide +kernel
theorem d0_138 : decode B0 138 = .ok (.dup, 1) := by decide +kernel
theorem d0_139 : decode B0 139 = .ok (.iconst 1, 1) := by decide +kernel
theorem d0_140 : decode B0 140 = .ok (.iload_n 3, 1) := by decide +kernel
theorem d0_141 : decode B0 141 = .ok (.castore, 1) := by decide +kernel
theorem d0_142 : decode B0 142 = .ok (.dup, 1) := by decide +kernel
theorem d0_143 : decode B0 143 = .ok (.iconst 2, 1) := by decide +kernel
theorem d0_144 : decode B0 144 = .ok (.iload 4, 2) := by decide +kernel
theorem d0_146 : decode B0 146 = .ok (.castore, 1) := by decide +kernel
theorem d0_147 : decode B0 147 = .ok (.dup, 1) := by decide +kernel
theorem d0_148 : decode B0 148 = .ok (.iconst 3, 1) := by decide +kernel
theorem d0_149 : decode B0 149 = .ok (.iload 5, 2) := by decide +kernel
theorem d0_151 : decode B0 151 = .ok (.castore, 1) := by decide +kernel
theorem d0_152 : decode B0 152 = .ok (.invokespecial 9, 3) := by decide +kernel
theorem d0_155 : decode B0 155 = .ok (.areturn, 1) := by decide +kernel
theorem d1_0 : decode B1 0 = .ok (.aload_n 0, 1) := by decide +kernel
theorem d1_1 : decode B1 1 = .ok (.aload_n 1, 1) := by decide +kernel
theorem d1_2 : decode B1 2 = .ok (.iconst 0, 1) := by decide +kernel
theorem d1_3 : decode B1 3 = .ok (.aload_n 1, 1) := by decide +kernel
theorem d1_4 : decode B1 4 = .ok (.arraylength, 1) := by decide +kernel
theorem d1_5 : decode B1 5 = .ok (.aconst_null, 1) := by decide +kernel
theorem d1_6 : decode B1 6 = .ok (.invokespecial 27, 3) := by decide +kernel
theorem d1_9 : decode B1 9 = .ok (.return_, 1) := by decide +kernel
theorem d2_0 : decode B2 0 = .ok (.aload_n 0, 1) := by decide +kernel
theorem d2_1 : decode B2 1 = .ok (.invokespecial 1, 3) := by decide +kernel
theorem d2_4 : decode B2 4 = .ok (.iload_n 3, 1) := by decide +kernel
theorem d2_5 : decode B2 5 = .ok (.ifCond .ne 22, 3) := by decide +kernel
theorem d2_8 : decode B2 8 = .ok (.aload_n 0, 1) := by decide +kernel
theorem d2_9 : decode B2 9 = .ok (.ldc 7, 2) := by decide +kernel
theorem d2_11 : decode B2 11 = .ok (.getfield 9, 3) := by decide +kernel
theorem d2_14 : decode B2 14 = .ok (.putfield 9, 3) := by decide +kernel
theorem d2_17 : decode B2 17 = .ok (.aload_n 0, 1) := by decide +kernel
theorem d2_18 : decode B2 18 = .ok (.ldc 7, 2) := by decide +kernel
theorem d2_20 : decode B2 20 = .ok (.getfield 15, 3) := by decide +kernel
theorem d2_23 : decode B2 23 = .ok (.putfield 15, 3) := by decide +kernel
theorem d2_26 : decode B2 26 = .ok (.return_, 1) := by decide +kernel
theorem d7_0 : decode B7 0 = .ok (.aload_n 0, 1) := by decide +kernel
theorem d7_1 : decode B7 1 = .ok (.invokespecial 1, 3) := by decide +kernel
theorem d7_4 : decode B7 4 = .ok (.aload_n 0, 1) := by decide +kernel
theorem d7_5 : decode B7 5 = .ok (.getstatic 39, 3) := by decide +kernel
theorem d7_8 : decode B7 8 = .ok (.putfield 9, 3) := by decide +kernel
theorem d7_11 : decode B7 11 = .ok (.return_, 1) := by decide +kernel
theorem d8_0 : decode B8 0 = .ok (.aload_n 0, 1) := by decide +kernel
theorem d8_1 : decode B8 1 = .ok (.invokespecial 1, 3) := by decide +kernel
theorem d8_4 : decode B8 4 = .ok (.aload_n 0, 1) := by decide +kernel
theorem d8_5 : decode B8 5 = .ok (.iconst 0, 1) := by decide +kernel
theorem d8_6 : decode B8 6 = .ok (.putfield 7, 3) := by decide +kernel
theorem d8_9 : decode B8 9 = .ok (.return_, 1) := by decide +kernel
theorem d9_0 : decode B9 0 = .ok (.aload_n 0, 1) := by decide +kernel
theorem d9_1 : decode B9 1 = .ok (.invokespecial 1, 3) := by decide +kernel
theorem d9_4 : decode B9 4 = .ok (.return_, 1) := by decide +kernel
theorem d10_0 : decode B10 0 = .ok (.aload_n 0, 1) := by decide +kernel
theorem d10_1 : decode B10 1 = .ok (.invokespecial 1, 3) := by decide +kernel
theorem d10_4 : decode B10 4 = .ok (.aload_n 2, 1) := by decide +kernel
theorem d10_5 : decode B10 5 = .ok (.invokestatic 7, 3) := by decide +kernel
theorem d10_8 : decode B10 8 = .ok (.astore_n 2, 1) := by decide +kernel
theorem d10_9 : decode B10 9 = .ok (.aload_n 0, 1) := by decide +kernel
theorem d10_10 : decode B10 10 = .ok (.aload_n 1, 1) := by decide +kernel
theorem d10_11 : decode B10 11 = .ok (.putfield 13, 3) := by decide +kernel
theorem d10_14 : decode B10 14 = .ok (.aload_n 0, 1) := by decide +kernel
theorem d10_15 : decode B10 15 = .ok (.aload_n 2, 1) := by decide +kernel
theorem d10_16 : decode B10 16 = .ok (.putfield 19, 3) := by decide +kernel
theorem d10_19 : decode B10 19 = .ok (.aload_n 0, 1) := by decide +kernel
theorem d10_20 : decode B10 20 = .ok (.aload_n 3, 1) := by decide +kernel
theorem d10_21 : decode B10 21 = .ok (.putfield 23, 3) := by decide +kernel
theorem d10_24 : decode B10 24 = .ok (.return_, 1) := by decide +kernel
theorem d11_0 : decode B11 0 = .ok (.aload_n 0, 1) := by decide +kernel
theorem d11_1 : decode B11 1 = .ok (.invokespecial 1, 3) := by decide +kernel
theorem d11_4 : decode B11 4 = .ok (.return_, 1) := by decide +kernel
theorem d12_0 : decode B12 0 = .ok (.aload_n 0, 1) := by decide +kernel
theorem d12_1 : decode B12 1 = .ok (.invokestatic 112, 3) := by decide +kernel
theorem d12_4 : decode B12 4 = .ok (.areturn, 1) := by decide +kernel
theorem d13_0 : decode B13 0 = .ok (.aload_n 0, 1) := by decide +kernel
theorem d13_1 : decode B13 1 = .ok (.instanceof 10, 3) := by decide +kernel
theorem d13_4 : decode B13 4 = .ok (.ifCond .ne 22, 3) := by decide +kernel
theorem d13_7 : decode B13 7 = .ok (.aload_n 0, 1) := by decide +kernel
theorem d13_8 : decode B13 8 = .ok (.instanceof 12, 3) := by decide +kernel
theorem d13_11 : decode B13 11 = .ok (.ifCond .eq 20, 3) := by decide +kernel
theorem d13_31 : decode B13 31 = .ok (.aload_n 0, 1) := by decide +kernel
theorem d13_32 : decode B13 32 = .ok (.invokeinterface 20 1, 5) := by decide +kernel
theorem d13_37 : decode B13 37 = .ok (.ifCond .eq 7, 3) := by decide +kernel
theorem d13_40 : decode B13 40 = .ok (.invokestatic 26, 3) := by decide +kernel
theorem d13_43 : decode B13 43 = .ok (.areturn, 1) := by decide +kernel
theorem d13_44 : decode B13 44 = .ok (.aload_n 0, 1) := by decide +kernel
theorem d13_45 : decode B13 45 = .ok (.invokeinterface 30 1, 5) := by decide +kernel
theorem d13_50 : decode B13 50 = .ok (.invokestatic 34, 3) := by decide +kernel
theorem d13_53 : decode B13 53 = .ok (.areturn, 1) := by decide +kernel
theorem d14_0 : decode B14 0 = .ok (.aload_n 0, 1) := by decide +kernel
theorem d14_1 : decode B14 1 = .ok (.getfield 48, 3) := by decide +kernel
theorem d14_4 : decode B14 4 = .ok (.ifCond .ne 7, 3) := by decide +kernel
theorem d14_7 : decode B14 7 = .ok (.iconst 1, 1) := by decide +kernel
theorem d14_8 : decode B14 8 = .ok (.goto 4, 3) := by decide +kernel
theorem d14_11 : decode B14 11 = .ok (.iconst 0, 1) := by decide +kernel
theorem d14_12 : decode B14 12 = .ok (.ireturn, 1) := by decide +kernel
theorem d15_0 : decode B15 0 = .ok (.getstatic 90, 3) := by decide +kernel
theorem d15_3 : decode B15 3 = .ok (.areturn, 1) := by decide +kernel
theorem d16_0 : decode B16 0 = .ok (.aload_n 0, 1) := by decide +kernel
theorem d16_1 : decode B16 1 = .ok (.invokevirtual 69, 3) := by decide +kernel
theorem d16_4 : decode B16 4 = .ok (.astore_n 1, 1) := by decide +kernel
theorem d16_5 : decode B16 5 = .ok (.aload_n 1, 1) := by decide +kernel
theorem d16_6 : decode B16 6 = .ok (.invokeinterface 85 1, 5) := by decide +kernel
theorem d16_11 : decode B16 11 = .ok (.iconst 2, 1) := by decide +kernel
theorem d16_12 : decode B16 12 = .ok (.if_icmp .ne 34, 3) := by decide +kernel
theorem d16_15 : decode B16 15 = .ok (.aload_n 1, 1) := by decide +kernel
theorem d16_16 : decode B16 16 = .ok (.iconst 0, 1) := by decide +kernel
theorem d16_17 : decode B16 17 = .ok (.invokeinterface 79 2, 5) := by decide +kernel
theorem d16_22 : decode B16 22 = .ok (.checkcast 83, 3) := by decide +kernel
theorem d16_25 : decode B16 25 = .ok (.ldc 159, 2) := by decide +kernel
theorem d16_27 : decode B16 27 = .ok (.invokevirtual 91, 3) := by decide +kernel
theorem d16_30 : decode B16 30 = .ok (.ifCond .eq 16, 3) := by decide +kernel
theorem d16_33 : decode B16 33 = .ok (.aload_n 1, 1) := by decide +kernel
theorem d16_34 : decode B16 34 = .ok (.iconst 1, 1) := by decide +kernel
theorem d16_35 : decode B16 35 = .ok (.invokeinterface 79 2, 5) := by decide +kernel
theorem d16_40 : decode B16 40 = .ok (.checkcast 83, 3) := by decide +kernel
theorem d16_43 : decode B16 43 = .ok (.goto 4, 3) := by decide +kernel
theorem d16_46 : decode B16 46 = .ok (.aconst_null, 1) := by decide +kernel
theorem d16_47 : decode B16 47 = .ok (.areturn, 1) := by decide +kernel
theorem d17_0 : decode B17 0 = .ok (.aload_n 0, 1) := by decide +kernel
theorem d17_1 : decode B17 1 = .ok (.getfield 19, 3) := by decide +kernel
theorem d17_4 : decode B17 4 = .ok (.areturn, 1) := by decide +kernel
theorem d18_0 : decode B18 0 = .ok (.aload_n 0, 1) := by decide +kernel
theorem d18_1 : decode B18 1 = .ok (.getfield 7, 3) := by decide +kernel
theorem d18_4 : decode B18 4 = .ok (.arraylength, 1) := by decide +kernel
theorem d18_5 : decode B18 5 = .ok (.ireturn, 1) := by decide +kernel
theorem d21_0 : decode B21 0 = .ok (.aload_n 0, 1) := by decide +kernel
theorem d21_1 : decode B21 1 = .ok (.dup, 1) := by decide +kernel
theorem d21_2 : decode B21 2 = .ok (.getfield 63, 3) := by decide +kernel
theorem d21_5 : decode B21 5 = .ok (.iconst 1, 1) := by decide +kernel
theorem d21_6 : decode B21 6 = .ok (.iadd, 1) := by decide +kernel
theorem d21_7 : decode B21 7 = .ok (.putfield 63, 3) := by decide +kernel
theorem d21_10 : decode B21 10 = .ok (.aload_n 0, 1) := by decide +kernel
theorem d21_11 : decode B21 11 = .ok (.aload_n 1, 1) := by decide +kernel
theorem d21_12 : decode B21 12 = .ok (.aload_n 0, 1) := by decide +kernel
theorem d21_13 : decode B21 13 = .ok (.getfield 9, 3) := by decide +kernel
theorem d21_16 : decode B21 16 = .ok (.aload_n 0, 1) := by decide +kernel
theorem d21_17 : decode B21 17 = .ok (.getfield 48, 3) := by decide +kernel
theorem d21_20 : decode B21 20 = .ok (.invokevirtual 131, 3) := by decide +kernel
theorem d21_23 : decode B21 23 = .ok (.iconst 1, 1) := by decide +kernel
theorem d21_24 : decode B21 24 = .ok (.ireturn, 1) := by decide +kernel
theorem d22_0 : decode B22 0 = .ok (.iload_n 3, 1) := by decide +kernel
theorem d22_1 : decode B22 1 = .ok (.aload_n 2, 1) := by decide +kernel
theorem d22_2 : decode B22 2 = .ok (.arraylength, 1) := by decide +kernel
theorem d22_3 : decode B22 3 = .ok (.if_icmp .ne 8, 3) := by decide +kernel
theorem d22_6 : decode B22 6 = .ok (.aload_n 0, 1) := by decide +kernel
theorem d22_7 : decode B22 7 = .ok (.invokevirtual 129, 3) := by decide +kernel
theorem d22_10 : decode B22 10 = .ok (.astore_n 2, 1) := by decide +kernel
theorem d22_11 : decode B22 11 = .ok (.aload_n 2, 1) := by decide +kernel
theorem d22_12 : decode B22 12 = .ok (.iload_n 3, 1) := by decide +kernel
theorem d22_13 : decode B22 13 = .ok (.aload_n 1, 1) := by decide +kernel
theorem d22_14 : decode B22 14 = .ok (.aastore, 1) := by decide +kernel
theorem d22_15 : decode B22 15 = .ok (.aload_n 0, 1) := by decide +kernel
theorem d22_16 : decode B22 16 = .ok (.iload_n 3, 1) := by decide +kernel
theorem d22_17 : decode B22 17 = .ok (.iconst 1, 1) := by decide +kernel
theorem d22_18 : decode B22 18 = .ok (.iadd, 1) := by decide +kernel
theorem d22_19 : decode B22 19 = .ok (.putfield 48, 3) := by decide +kernel
theorem d22_22 : decode B22 22 = .ok (.return_, 1) := by decide +kernel
theorem d23_0 : decode B23 0 = .ok (.aload_n 0, 1) := by decide +kernel
theorem d23_1 : decode B23 1 = .ok (.aload_n 0, 1) := by decide +kernel
theorem d23_2 : decode B23 2 = .ok (.getfield 48, 3) := by decide +kernel
theorem d23_5 : decode B23 5 = .ok (.iconst 1, 1) := by decide +kernel
theorem d23_6 : decode B23 6 = .ok (.iadd, 1) := by decide +kernel
theorem d23_7 : decode B23 7 = .ok (.invokevirtual 69, 3) := by decide +kernel
theorem d23_10 : decode B23 10 = .ok (.areturn, 1) := by decide +kernel
theorem d24_0 : decode B24 0 = .ok (.aload_n 0, 1) := by decide +kernel
theorem d24_1 : decode B24 1 = .ok (.getfield 9, 3) := by decide +kernel
theorem d24_4 : decode B24 4 = .ok (.arraylength, 1) := by decide +kernel
theorem d24_5 : decode B24 5 = .ok (.istore_n 2, 1) := by decide +kernel
theorem d24_6 : decode B24 6 = .ok (.iload_n 2, 1) := by decide +kernel
theorem d24_7 : decode B24 7 = .ok (.ifCond .gt 13, 3) := by decide +kernel
theorem d24_10 : decode B24 10 = .ok (.aload_n 0, 1) := by decide +kernel
theorem d24_11 : decode B24 11 = .ok (.getfield 9, 3) := by decide +kernel
theorem d24_14 : decode B24 14 = .ok (.getstatic 39, 3) := by decide +kernel
theorem d24_17 : decode B24 17 = .ok (.if_acmp .eq 28, 3) := by decide +kernel
theorem d24_45 : decode B24 45 = .ok (.aload_n 0, 1) := by decide +kernel
theorem d24_46 : decode B24 46 = .ok (.bipush 10, 2) := by decide +kernel
theorem d24_48 : decode B24 48 = .ok (.iload_n 1, 1) := by decide +kernel
theorem d24_49 : decode B24 49 = .ok (.invokestatic 79, 3) := by decide +kernel
theorem d24_52 : decode B24 52 = .ok (.anewarray 7, 3) := by decide +kernel
theorem d24_55 : decode B24 55 = .ok (.dup_x1, 1) := by decide +kernel
theorem d24_56 : decode B24 56 = .ok (.putfield 9, 3) := by decide +kernel
theorem d24_59 : decode B24 59 = .ok (.areturn, 1) := by decide +kernel
theorem d25_0 : decode B25 0 = .ok (.iload_n 0, 1) := by decide +kernel
theorem d25_1 : decode B25 1 = .ok (.iload_n 1, 1) := by decide +kernel
theorem d25_2 : decode B25 2 = .ok (.if_icmp .lt 7, 3) := by decide +kernel
theorem d25_5 : decode B25 5 = .ok (.iload_n 0, 1) := by decide +kernel
theorem d25_6 : decode B25 6 = .ok (.goto 4, 3) := by decide +kernel
theorem d25_10 : decode B25 10 = .ok (.ireturn, 1) := by decide +kernel
theorem d26_0 : decode B26 0 = .ok (.aload_n 0, 1) := by decide +kernel
theorem d26_1 : decode B26 1 = .ok (.getfield 9, 3) := by decide +kernel
theorem d26_4 : decode B26 4 = .ok (.aload_n 0, 1) := by decide +kernel
theorem d26_5 : decode B26 5 = .ok (.getfield 48, 3) := by decide +kernel
theorem d26_8 : decode B26 8 = .ok (.invokestatic 66, 3) := by decide +kernel
theorem d26_11 : decode B26 11 = .ok (.areturn, 1) := by decide +kernel
theorem d27_0 : decode B27 0 = .ok (.aload_n 0, 1) := by decide +kernel
theorem d27_1 : decode B27 1 = .ok (.iload_n 1, 1) := by decide +kernel
theorem d27_2 : decode B27 2 = .ok (.aload_n 0, 1) := by decide +kernel
theorem d27_3 : decode B27 3 = .ok (.invokevirtual 86, 3) := by decide +kernel
theorem d27_6 : decode B27 6 = .ok (.invokestatic 300, 3) := by decide +kernel
theorem d27_9 : decode B27 9 = .ok (.areturn, 1) := by decide +kernel
theorem d28_0 : decode B28 0 = .ok (.aload_n 2, 1) := by decide +kernel
theorem d28_1 : decode B28 1 = .ok (.ldc 110, 2) := by decide +kernel
theorem d28_3 : decode B28 3 = .ok (.if_acmp .ne 10, 3) := by decide +kernel
theorem d28_6 : decode B28 6 = .ok (.iload_n 1, 1) := by decide +kernel
theorem d28_7 : decode B28 7 = .ok (.anewarray 2, 3) := by decide +kernel
theorem d28_10 : decode B28 10 = .ok (.goto 14, 3) := by decide +kernel
theorem d28_24 : decode B28 24 = .ok (.astore_n 3, 1) := by decide +kernel
theorem d28_25 : decode B28 25 = .ok (.aload_n 0, 1) := by decide +kernel
theorem d28_26 : decode B28 26 = .ok (.iconst 0, 1) := by decide +kernel
theorem d28_27 : decode B28 27 = .ok (.aload_n 3, 1) := by decide +kernel
theorem d28_28 : decode B28 28 = .ok (.iconst 0, 1) := by decide +kernel
theorem d28_29 : decode B28 29 = .ok (.aload_n 0, 1) := by decide +kernel
theorem d28_30 : decode B28 30 = .ok (.arraylength, 1) := by decide +kernel
theorem d28_31 : decode B28 31 = .ok (.iload_n 1, 1) := by decide +kernel
theorem d28_32 : decode B28 32 = .ok (.invokestatic 304, 3) := by decide +kernel
theorem d28_35 : decode B28 35 = .ok (.invokestatic 150, 3) := by decide +kernel
theorem d28_38 : decode B28 38 = .ok (.aload_n 3, 1) := by decide +kernel
theorem d28_39 : decode B28 39 = .ok (.areturn, 1) := by decide +kernel
theorem d29_0 : decode B29 0 = .ok (.iload_n 0, 1) := by decide +kernel
theorem d29_1 : decode B29 1 = .ok (.iload_n 1, 1) := by decide +kernel
theorem d29_2 : decode B29 2 = .ok (.if_icmp .gt 7, 3) := by decide +kernel
theorem d29_9 : decode B29 9 = .ok (.iload_n 1, 1) := by decide +kernel
theorem d29_10 : decode B29 10 = .ok (.ireturn, 1) := by decide +kernel
theorem d30_0 : decode B30 0 = .ok (.aload_n 0, 1) := by decide +kernel
theorem d30_1 : decode B30 1 = .ok (.arraylength, 1) := by decide +kernel
theorem d30_2 : decode B30 2 = .ok (.tableswitch 57 0 2 #[26, 32, 43], 26) := by decide +kernel
theorem d30_34 : decode B30 34 = .ok (.new 96, 3) := by decide +kernel
theorem d30_37 : decode B30 37 = .ok (.dup, 1) := by decide +kernel
theorem d30_38 : decode B30 38 = .ok (.aload_n 0, 1) := by decide +kernel
theorem d30_39 : decode B30 39 = .ok (.iconst 0, 1) := by decide +kernel
theorem d30_40 : decode B30 40 = .ok (.aaload, 1) := by decide +kernel
theorem d30_41 : decode B30 41 = .ok (.invokespecial 98, 3) := by decide +kernel
theorem d30_44 : decode B30 44 = .ok (.areturn, 1) := by decide +kernel
theorem d30_45 : decode B30 45 = .ok (.new 96, 3) := by decide +kernel
theorem d30_48 : decode B30 48 = .ok (.dup, 1) := by decide +kernel
theorem d30_49 : decode B30 49 = .ok (.aload_n 0, 1) := by decide +kernel
theorem d30_50 : decode B30 50 = .ok (.iconst 0, 1) := by decide +kernel
theorem d30_51 : decode B30 51 = .ok (.aaload, 1) := by decide +kernel
theorem d30_52 : decode B30 52 = .ok (.aload_n 0, 1) := by decide +kernel
theorem d30_53 : decode B30 53 = .ok (.iconst 1, 1) := by decide +kernel
theorem d30_54 : decode B30 54 = .ok (.aaload, 1) := by decide +kernel
theorem d30_55 : decode B30 55 = .ok (.invokespecial 100, 3) := by decide +kernel
theorem d30_58 : decode B30 58 = .ok (.areturn, 1) := by decide +kernel
theorem d30_59 : decode B30 59 = .ok (.aload_n 0, 1) := by decide +kernel
theorem d30_60 : decode B30 60 = .ok (.invokestatic 109, 3) := by decide +kernel
theorem d30_63 : decode B30 63 = .ok (.areturn, 1) := by decide +kernel
theorem d31_0 : decode B31 0 = .ok (.aload_n 0, 1) := by decide +kernel
theorem d31_1 : decode B31 1 = .ok (.arraylength, 1) := by decide +kernel
theorem d31_2 : decode B31 2 = .ok (.anewarray 2, 3) := by decide +kernel
theorem d31_5 : decode B31 5 = .ok (.astore_n 1, 1) := by decide +kernel
theorem d31_6 : decode B31 6 = .ok (.iconst 0, 1) := by decide +kernel
theorem d31_7 : decode B31 7 = .ok (.istore_n 2, 1) := by decide +kernel
theorem d31_8 : decode B31 8 = .ok (.iload_n 2, 1) := by decide +kernel
theorem d31_9 : decode B31 9 = .ok (.aload_n 0, 1) := by decide +kernel
theorem d31_10 : decode B31 10 = .ok (.arraylength, 1) := by decide +kernel
theorem d31_11 : decode B31 11 = .ok (.if_icmp .ge 18, 3) := by decide +kernel
theorem d31_14 : decode B31 14 = .ok (.aload_n 1, 1) := by decide +kernel
theorem d31_15 : decode B31 15 = .ok (.iload_n 2, 1) := by decide +kernel
theorem d31_16 : decode B31 16 = .ok (.aload_n 0, 1) := by decide +kernel
theorem d31_17 : decode B31 17 = .ok (.iload_n 2, 1) := by decide +kernel
theorem d31_18 : decode B31 18 = .ok (.aaload, 1) := by decide +kernel
theorem d31_19 : decode B31 19 = .ok (.invokestatic 37, 3) := by decide +kernel
theorem d31_22 : decode B31 22 = .ok (.aastore, 1) := by decide +kernel
theorem d31_23 : decode B31 23 = .ok (.iinc 2 1, 3) := by decide +kernel
theorem d31_26 : decode B31 26 = .ok (.goto (-18), 3) := by decide +kernel
theorem d31_29 : decode B31 29 = .ok (.new 12, 3) := by decide +kernel
theorem d31_32 : decode B31 32 = .ok (.dup, 1) := by decide +kernel
theorem d31_33 : decode B31 33 = .ok (.aload_n 1, 1) := by decide +kernel
theorem d31_34 : decode B31 34 = .ok (.iconst 0, 1) := by decide +kernel
theorem d31_35 : decode B31 35 = .ok (.invokespecial 43, 3) := by decide +kernel
theorem d31_38 : decode B31 38 = .ok (.areturn, 1) := by decide +kernel
theorem d32_0 : decode B32 0 = .ok (.aload_n 0, 1) := by decide +kernel
theorem d32_1 : decode B32 1 = .ok (.ifnonnull 11, 3) := by decide +kernel
theorem d32_12 : decode B32 12 = .ok (.aload_n 0, 1) := by decide +kernel
theorem d32_13 : decode B32 13 = .ok (.areturn, 1) := by decide +kernel
theorem d33_0 : decode B33 0 = .ok (.aload_n 0, 1) := by decide +kernel
theorem d33_1 : decode B33 1 = .ok (.invokespecial 1, 3) := by decide +kernel
theorem d33_4 : decode B33 4 = .ok (.aload_n 0, 1) := by decide +kernel
theorem d33_5 : decode B33 5 = .ok (.aload_n 1, 1) := by decide +kernel
theorem d33_6 : decode B33 6 = .ok (.putfield 7, 3) := by decide +kernel
theorem d33_9 : decode B33 9 = .ok (.aload_n 0, 1) := by decide +kernel
theorem d33_10 : decode B33 10 = .ok (.iload_n 2, 1) := by decide +kernel
theorem d33_11 : decode B33 11 = .ok (.putfield 13, 3) := by decide +kernel
theorem d33_14 : decode B33 14 = .ok (.return_, 1) := by decide +kernel
theorem d34_0 : decode B34 0 = .ok (.aload_n 0, 1) := by decide +kernel
theorem d34_1 : decode B34 1 = .ok (.invokespecial 1, 3) := by decide +kernel
theorem d34_4 : decode B34 4 = .ok (.return_, 1) := by decide +kernel
theorem d35_0 : decode B35 0 = .ok (.aload_n 0, 1) := by decide +kernel
theorem d35_1 : decode B35 1 = .ok (.invokespecial 1, 3) := by decide +kernel
theorem d35_4 : decode B35 4 = .ok (.return_, 1) := by decide +kernel
theorem d41_0 : decode B41 0 = .ok (.aload_n 0, 1) := by decide +kernel
theorem d41_1 : decode B41 1 = .ok (.invokespecial 1, 3) := by decide +kernel
theorem d41_4 : decode B41 4 = .ok (.aload_n 0, 1) := by decide +kernel
theorem d41_5 : decode B41 5 = .ok (.aload_n 1, 1) := by decide +kernel
theorem d41_6 : decode B41 6 = .ok (.invokestatic 7, 3) := by decide +kernel
theorem d41_9 : decode B41 9 = .ok (.putfield 13, 3) := by decide +kernel
theorem d41_12 : decode B41 12 = .ok (.aload_n 0, 1) := by decide +kernel
theorem d41_13 : decode B41 13 = .ok (.aload_n 2, 1) := by decide +kernel
theorem d41_14 : decode B41 14 = .ok (.invokestatic 7, 3) := by decide +kernel
theorem d41_17 : decode B41 17 = .ok (.putfield 24, 3) := by decide +kernel
theorem d41_20 : decode B41 20 = .ok (.return_, 1) := by decide +kernel
theorem d42_0 : decode B42 0 = .ok (.aload_n 0, 1) := by decide +kernel
theorem d42_1 : decode B42 1 = .ok (.getfield 24, 3) := by decide +kernel
theorem d42_4 : decode B42 4 = .ok (.getstatic 19, 3) := by decide +kernel
theorem d42_7 : decode B42 7 = .ok (.if_acmp .eq 7, 3) := by decide +kernel
theorem d42_10 : decode B42 10 = .ok (.iconst 2, 1) := by decide +kernel
theorem d42_11 : decode B42 11 = .ok (.goto 4, 3) := by decide +kernel
theorem d42_14 : decode B42 14 = .ok (.iconst 1, 1) := by decide +kernel
theorem d42_15 : decode B42 15 = .ok (.ireturn, 1) := by decide +kernel
theorem d43_0 : decode B43 0 = .ok (.iload_n 1, 1) := by decide +kernel
theorem d43_1 : decode B43 1 = .ok (.ifCond .ne 8, 3) := by decide +kernel
theorem d43_4 : decode B43 4 = .ok (.aload_n 0, 1) := by decide +kernel
theorem d43_5 : decode B43 5 = .ok (.getfield 13, 3) := by decide +kernel
theorem d43_8 : decode B43 8 = .ok (.areturn, 1) := by decide +kernel
theorem d43_9 : decode B43 9 = .ok (.iload_n 1, 1) := by decide +kernel
theorem d43_10 : decode B43 10 = .ok (.iconst 1, 1) := by decide +kernel
theorem d43_11 : decode B43 11 = .ok (.if_icmp .ne 18, 3) := by decide +kernel
theorem d43_14 : decode B43 14 = .ok (.aload_n 0, 1) := by decide +kernel
theorem d43_15 : decode B43 15 = .ok (.getfield 24, 3) := by decide +kernel
theorem d43_18 : decode B43 18 = .ok (.getstatic 19, 3) := by decide +kernel
theorem d43_21 : decode B43 21 = .ok (.if_acmp .eq 8, 3) := by decide +kernel
theorem d43_24 : decode B43 24 = .ok (.aload_n 0, 1) := by decide +kernel
theorem d43_25 : decode B43 25 = .ok (.getfield 24, 3) := by decide +kernel
theorem d43_28 : decode B43 28 = .ok (.areturn, 1) := by decide +kernel
theorem d46_0 : decode B46 0 = .ok (.aload_n 0, 1) := by decide +kernel
theorem d46_1 : decode B46 1 = .ok (.invokespecial 1, 3) := by decide +kernel
theorem d46_4 : decode B46 4 = .ok (.aload_n 0, 1) := by decide +kernel
theorem d46_5 : decode B46 5 = .ok (.aload_n 1, 1) := by decide +kernel
theorem d46_6 : decode B46 6 = .ok (.invokestatic 7, 3) := by decide +kernel
theorem d46_9 : decode B46 9 = .ok (.putfield 13, 3) := by decide +kernel
theorem d46_12 : decode B46 12 = .ok (.aload_n 0, 1) := by decide +kernel
theorem d46_13 : decode B46 13 = .ok (.getstatic 19, 3) := by decide +kernel
theorem d46_16 : decode B46 16 = .ok (.putfield 24, 3) := by decide +kernel
theorem d46_19 : decode B46 19 = .ok (.return_, 1) := by decide +kernel
theorem pn0 : plainFor (⟨"com/example/packwright/packwright/io/BuildAssemblerRoutineOfHeaderPinLaw", "draw", "(II)Ljava/lang/String;"⟩ : MethodName) = true := by first | exact plainFor_of_name (by first | (simp [plainName, overriddenIn]; done) | decide +kernel) | decide +kernel
theorem pn1 : plainFor (⟨"java/lang/String", "<init>", "([C)V"⟩ : MethodName) = true := by first | exact plainFor_of_name (by first | (simp [plainName, overriddenIn]; done) | decide +kernel) | decide +kernel
theorem pn2 : plainFor (⟨"java/lang/String", "<init>", "([CIILjava/lang/Void;)V"⟩ : MethodName) = true := by first | exact plainFor_of_name (by first | (simp [plainName, overriddenIn]; done) | decide +kernel) | decide +kernel
theorem pn7 : plainFor (⟨"java/util/ArrayList", "<init>", "()V"⟩ : MethodName) = true := by first | exact plainFor_of_name (by first | (simp [plainName, overriddenIn]; done) | decide +kernel) | decide +kernel
theorem pn8 : plainFor (⟨"java/util/AbstractList", "<init>", "()V"⟩ : MethodName) = true := by first | exact plainFor_of_name (by first | (simp [plainName, overriddenIn]; done) | decide +kernel) | decide +kernel
theorem pn9 : plainFor (⟨"java/util/AbstractCollection", "<init>", "()V"⟩ : MethodName) = true := by first | exact plainFor_of_name (by first | (simp [plainName, overriddenIn]; done) | decide +kernel) | decide +kernel
theorem pn10 : plainFor (⟨"com/example/packwright/packwright/model/Node", "<init>", "(Ljava/lang/String;Ljava/util/List;Ljava/lang/String;)V"⟩ : MethodName) = true := by first | exact plainFor_of_name (by first | (simp [plainName, overriddenIn]; done) | decide +kernel) | decide +kernel
theorem pn11 : plainFor (⟨"java/lang/Record", "<init>", "()V"⟩ : MethodName) = true := by first | exact plainFor_of_name (by first | (simp [plainName, overriddenIn]; done) | decide +kernel) | decide +kernel
theorem pn12 : plainFor (⟨"java/util/List", "copyOf", "(Ljava/util/Collection;)Ljava/util/List;"⟩ : MethodName) = true := by first | exact plainFor_of_name (by first | (simp [plainName, overriddenIn]; done) | decide +kernel) | decide +kernel
theorem pn13 : plainFor (⟨"java/util/ImmutableCollections", "listCopy", "(Ljava/util/Collection;)Ljava/util/List;"⟩ : MethodName) = true := by first | exact plainFor_of_name (by first | (simp [plainName, overriddenIn]; done) | decide +kernel) | decide +kernel
theorem pn14 : plainFor (⟨"java/util/ArrayList", "isEmpty", "()Z"⟩ : MethodName) = true := by first | exact plainFor_of_name (by first | (simp [plainName, overriddenIn]; done) | decide +kernel) | decide +kernel
theorem pn15 : plainFor (⟨"java/util/List", "of", "()Ljava/util/List;"⟩ : MethodName) = true := by first | exact plainFor_of_name (by first | (simp [plainName, overriddenIn]; done) | decide +kernel) | decide +kernel
theorem pn16 : plainFor (⟨"com/example/packwright/packwright/io/BuildAssembler", "routineOfHeader", "(Lcom/example/packwright/packwright/model/Node;)Ljava/lang/String;"⟩ : MethodName) = true := by first | exact plainFor_of_name (by first | (simp [plainName, overriddenIn]; done) | decide +kernel) | decide +kernel
theorem pn17 : plainFor (⟨"com/example/packwright/packwright/model/Node", "subscripts", "()Ljava/util/List;"⟩ : MethodName) = true := by first | exact plainFor_of_name (by first | (simp [plainName, overriddenIn]; done) | decide +kernel) | decide +kernel
theorem pn18 : plainFor (⟨"java/util/ImmutableCollections$ListN", "size", "()I"⟩ : MethodName) = true := by first | exact plainFor_of_name (by first | (simp [plainName, overriddenIn]; done) | decide +kernel) | decide +kernel
theorem pn21 : plainFor (⟨"java/util/ArrayList", "add", "(Ljava/lang/Object;)Z"⟩ : MethodName) = true := by first | exact plainFor_of_name (by first | (simp [plainName, overriddenIn]; done) | decide +kernel) | decide +kernel
theorem pn22 : plainFor (⟨"java/util/ArrayList", "add", "(Ljava/lang/Object;[Ljava/lang/Object;I)V"⟩ : MethodName) = true := by first | exact plainFor_of_name (by first | (simp [plainName, overriddenIn]; done) | decide +kernel) | decide +kernel
theorem pn23 : plainFor (⟨"java/util/ArrayList", "grow", "()[Ljava/lang/Object;"⟩ : MethodName) = true := by first | exact plainFor_of_name (by first | (simp [plainName, overriddenIn]; done) | decide +kernel) | decide +kernel
theorem pn24 : plainFor (⟨"java/util/ArrayList", "grow", "(I)[Ljava/lang/Object;"⟩ : MethodName) = true := by first | exact plainFor_of_name (by first | (simp [plainName, overriddenIn]; done) | decide +kernel) | decide +kernel
theorem pn25 : plainFor (⟨"java/lang/Math", "max", "(II)I"⟩ : MethodName) = true := by first | exact plainFor_of_name (by first | (simp [plainName, overriddenIn]; done) | decide +kernel) | decide +kernel
theorem pn26 : plainFor (⟨"java/util/ArrayList", "toArray", "()[Ljava/lang/Object;"⟩ : MethodName) = true := by first | exact plainFor_of_name (by first | (simp [plainName, overriddenIn]; done) | decide +kernel) | decide +kernel
theorem pn27 : plainFor (⟨"java/util/Arrays", "copyOf", "([Ljava/lang/Object;I)[Ljava/lang/Object;"⟩ : MethodName) = true := by first | exact plainFor_of_name (by first | (simp [plainName, overriddenIn]; done) | decide +kernel) | decide +kernel
theorem pn28 : plainFor (⟨"java/util/Arrays", "copyOf", "([Ljava/lang/Object;ILjava/lang/Class;)[Ljava/lang/Object;"⟩ : MethodName) = true := by first | exact plainFor_of_name (by first | (simp [plainName, overriddenIn]; done) | decide +kernel) | decide +kernel
theorem pn29 : plainFor (⟨"java/lang/Math", "min", "(II)I"⟩ : MethodName) = true := by first | exact plainFor_of_name (by first | (simp [plainName, overriddenIn]; done) | decide +kernel) | decide +kernel
theorem pn30 : plainFor (⟨"java/util/List", "of", "([Ljava/lang/Object;)Ljava/util/List;"⟩ : MethodName) = true := by first | exact plainFor_of_name (by first | (simp [plainName, overriddenIn]; done) | decide +kernel) | decide +kernel
theorem pn31 : plainFor (⟨"java/util/ImmutableCollections", "listFromArray", "([Ljava/lang/Object;)Ljava/util/List;"⟩ : MethodName) = true := by first | exact plainFor_of_name (by first | (simp [plainName, overriddenIn]; done) | decide +kernel) | decide +kernel
theorem pn32 : plainFor (⟨"java/util/Objects", "requireNonNull", "(Ljava/lang/Object;)Ljava/lang/Object;"⟩ : MethodName) = true := by first | exact plainFor_of_name (by first | (simp [plainName, overriddenIn]; done) | decide +kernel) | decide +kernel
theorem pn33 : plainFor (⟨"java/util/ImmutableCollections$ListN", "<init>", "([Ljava/lang/Object;Z)V"⟩ : MethodName) = true := by first | exact plainFor_of_name (by first | (simp [plainName, overriddenIn]; done) | decide +kernel) | decide +kernel
theorem pn34 : plainFor (⟨"java/util/ImmutableCollections$AbstractImmutableList", "<init>", "()V"⟩ : MethodName) = true := by first | exact plainFor_of_name (by first | (simp [plainName, overriddenIn]; done) | decide +kernel) | decide +kernel
theorem pn35 : plainFor (⟨"java/util/ImmutableCollections$AbstractImmutableCollection", "<init>", "()V"⟩ : MethodName) = true := by first | exact plainFor_of_name (by first | (simp [plainName, overriddenIn]; done) | decide +kernel) | decide +kernel
theorem pn41 : plainFor (⟨"java/util/ImmutableCollections$List12", "<init>", "(Ljava/lang/Object;Ljava/lang/Object;)V"⟩ : MethodName) = true := by first | exact plainFor_of_name (by first | (simp [plainName, overriddenIn]; done) | decide +kernel) | decide +kernel
theorem pn42 : plainFor (⟨"java/util/ImmutableCollections$List12", "size", "()I"⟩ : MethodName) = true := by first | exact plainFor_of_name (by first | (simp [plainName, overriddenIn]; done) | decide +kernel) | decide +kernel
theorem pn43 : plainFor (⟨"java/util/ImmutableCollections$List12", "get", "(I)Ljava/lang/Object;"⟩ : MethodName) = true := by first | exact plainFor_of_name (by first | (simp [plainName, overriddenIn]; done) | decide +kernel) | decide +kernel
theorem pn46 : plainFor (⟨"java/util/ImmutableCollections$List12", "<init>", "(Ljava/lang/Object;)V"⟩ : MethodName) = true := by first | exact plainFor_of_name (by first | (simp [plainName, overriddenIn]; done) | decide +kernel) | decide +kernel
theorem pn47 : plainFor x = true := by first | exact plainFor_of_name (by first | (simp [plainName, overriddenIn]; done) | decide +kernel) | decide +kernel
theorem pd0 : parseMethodDescriptor "([CIILjava/lang/Void;)V" = some ⟨[(.array .char), .int, .int, (.object "java/lang/Void")], none⟩ := by decide +kernel
theorem pd1 : parseMethodDescriptor "([C)V" = some ⟨[(.array .char)], none⟩ := by decide +kernel
theorem pd2 : parseMethodDescriptor "()V" = some ⟨[], none⟩ := by decide +kernel
theorem pd3 : parseMethodDescriptor "(Ljava/lang/Object;)Ljava/lang/Object;" = some ⟨[(.object "java/lang/Object")], some (.object "java/lang/Object")⟩ := by decide +kernel
theorem pd4 : parseMethodDescriptor "(II)Ljava/lang/String;" = some ⟨[.int, .int], some (.object "java/lang/String")⟩ := by decide +kernel
theorem pd5 : parseMethodDescriptor "()Z" = some ⟨[], some .boolean⟩ := by decide +kernel
theorem pd6 : parseMethodDescriptor "()Ljava/util/List;" = some ⟨[], some (.object "java/util/List")⟩ := by decide +kernel
theorem pd7 : parseMethodDescriptor "(Ljava/util/Collection;)Ljava/util/List;" = some ⟨[(.object "java/util/Collection")], some (.object "java/util/List")⟩ := by decide +kernel
theorem pd8 : parseMethodDescriptor "(Ljava/lang/String;Ljava/util/List;Ljava/lang/String;)V" = some ⟨[(.object "java/lang/String"), (.object "java/util/List"), (.object "java/lang/String")], none⟩ := by decide +kernel
theorem pd9 : parseMethodDescriptor "()I" = some ⟨[], some .int⟩ := by decide +kernel
theorem pd10 : parseMethodDescriptor "(Lcom/example/packwright/packwright/model/Node;)Ljava/lang/String;" = some ⟨[(.object "com/example/packwright/packwright/model/Node")], some (.object "java/lang/String")⟩ := by decide +kernel
theorem pd11 : parseMethodDescriptor "(I)C" = some ⟨[.int], some .char⟩ := by decide +kernel
theorem pd12 : parseMethodDescriptor "(II)I" = some ⟨[.int, .int], some .int⟩ := by decide +kernel
theorem pd13 : parseMethodDescriptor "(I)[Ljava/lang/Object;" = some ⟨[.int], some (.array (.object "java/lang/Object"))⟩ := by decide +kernel
theorem pd14 : parseMethodDescriptor "()[Ljava/lang/Object;" = some ⟨[], some (.array (.object "java/lang/Object"))⟩ := by decide +kernel
theorem pd15 : parseMethodDescriptor "(Ljava/lang/Object;[Ljava/lang/Object;I)V" = some ⟨[(.object "java/lang/Object"), (.array (.object "java/lang/Object")), .int], none⟩ := by decide +kernel
theorem pd16 : parseMethodDescriptor "(Ljava/lang/Object;)Z" = some ⟨[(.object "java/lang/Object")], some .boolean⟩ := by decide +kernel
theorem pd17 : parseMethodDescriptor "([Ljava/lang/Object;ILjava/lang/Class;)[Ljava/lang/Object;" = some ⟨[(.array (.object "java/lang/Object")), .int, (.object "java/lang/Class")], some (.array (.object "java/lang/Object"))⟩ := by decide +kernel
theorem pd18 : parseMethodDescriptor "([Ljava/lang/Object;I)[Ljava/lang/Object;" = some ⟨[(.array (.object "java/lang/Object")), .int], some (.array (.object "java/lang/Object"))⟩ := by decide +kernel
theorem pd19 : parseMethodDescriptor "(Ljava/lang/Object;)V" = some ⟨[(.object "java/lang/Object")], none⟩ := by decide +kernel
theorem pd20 : parseMethodDescriptor "([Ljava/lang/Object;)Ljava/util/List;" = some ⟨[(.array (.object "java/lang/Object"))], some (.object "java/util/List")⟩ := by decide +kernel
theorem pd21 : parseMethodDescriptor "(Ljava/lang/Object;Ljava/lang/Object;)V" = some ⟨[(.object "java/lang/Object"), (.object "java/lang/Object")], none⟩ := by decide +kernel
theorem pd22 : parseMethodDescriptor "(I)Ljava/lang/Object;" = some ⟨[.int], some (.object "java/lang/Object")⟩ := by decide +kernel
theorem pd23 : parseMethodDescriptor "([Ljava/lang/Object;Z)V" = some ⟨[(.array (.object "java/lang/Object")), .boolean], none⟩ := by decide +kernel
abbrev RrmE4 : Room := { frames := 1, cells := 4, slots := 10, locals := 12 }
def QrmE4 (Z : State) (de : Addr) (el : Addr) (em : Addr) (x : Addr) (b : Addr) (h0 : Heap) (v : Option Value) (vm : Vm) (h : Heap) : Prop := ∃ (t : Addr) (kb : ClassId), v = none ∧ Keep h0 h [x] ∧ Str Z h x t kb []
theorem rmE4 (hcx : Cx Z a0 zc de kde em el ee kee mr fm) (x : Addr) (b : Addr) (h0 : Heap) (O0 : Old Z Z.heap.size h0) (Pr0 : Exa Z h0 x "java/lang/String") (Pr1 : Fld Z h0 x "java/lang/String" "coder" "B" (.int (0 : Int32))) (Pr2 : Fld Z h0 x "java/lang/String" "value" "[B" .null) (Pr3 : Z.heap.size ≤ x) : Met l Z consts_1 (⟨"java/lang/String", "<init>", "([CIILjava/lang/Void;)V"⟩ : MethodName) jdk_42_method_149_code 6 (none) [] RrmE4 [x] #[(.ref x), (.ref b), (.int (0 : Int32)), (.int (0 : Int32)), .null] h0 (QrmE4 Z de el em x b h0) := by
  have ⟨hw, hEL, O2, P5, OD, AD, XM, OM, OL, XL, FL, AE, MR, O4, P6⟩ := hcx
  refine Met.start (a0 := a0) (Ls := #[vR x, vR b, vI (0 : Int32), vI (0 : Int32), .val .null, .unset]) pn2 hEL O0 (fun m => by first | (simp [entryFrame, mkF, argsToLocals, Value.category]; done) | rfl) ?_
  intro p e s m below meth cc T0 vm0 X0 sf0_ hby hml hret hnm
  have hx := X0.hx
  have D : ∀ {n r}, decode jdk_42_method_149_code n = r → decode cc.code n = r := fun d => hb hby d
  have zz := X0.ge
  have A0 := X0.at
  have l1 := ltA Pr0.lt
  have s2 := sf0_ x (List.mem_of_getElem? (i := 0) rfl)
  refine Gets.via (fun _ k => (XS.aloadN A0 hx rfl (D d2_0) rfl rfl k)) ?_
  refine X0.objInit (w15 hw) (w16 hw) (w17 hw) rfl (sz hml rfl) rfl (D d2_1) (by decide) (W := 0) (mroom rfl rfl) (by decide) fun T3 X3 => ?_
  have A4 := X3.at
  refine Gets.via (fun _ k => (XS.iloadN A4 hx rfl (D d2_4) rfl (XS.ifNo A4 hx rfl (D d2_5) rfl (Jvm.Free.XT.i0_ne_f (by decide)) k))) ?_
  refine Gets.via (fun _ k => (XS.aloadN A4 hx rfl (D d2_8) rfl rfl k)) ?_
  refine X3.ldcC (w18 hw) (wSt hw) (by decide) (vs := []) (z := (0 : Int32)) ⟨by decide, by decide⟩ (by decide) (by decide) rfl (D d2_9) (n := 1) (by decide) (by decide) (by decide) (by decide) fun T5 h5 vm5 a5 yb5 k5 X5 C5 E5 Z5 Fc5 Fv5 V5 q5 => ?_
  have z5 := E5.1
  have l5 := ltA Z5.lt
  have lb5 := ltA V5.lt
  have f6 := C5.safe (x := x) (ltA (by omega)) s2
  have ne7 := neA (q5 x f6).1
  have nf7 := neA (q5 x f6).2
  show Gets p e below _ (T5.setTop (mkF m 11 #[vR x, vR b, vI (0 : Int32), vI (0 : Int32), .val .null, .unset] [(.ref a5), (.ref x)]))
  refine X5.getF (host := "") (Or.inl (w24 hw)) Via.refl Fv5 rfl rfl (D d2_11) fun T8 X8 => ?_
  have f10 := Pr2.ext E5
  have f11 := Pr0.ext E5
  refine X8.putF (host := "") (Or.inl (w24 hw)) Via.refl f10 f11 (Or.inr ⟨(w20 hw), rfl, hnm⟩) (w5 hw) (ty := (.array .byte)) (by decide) rfl rfl (leA (by omega)) f6 rfl rfl (D d2_14) fun T9 h9 X9 C9 W9 F9 Z9 => ?_
  have z9 := W9.size
  have A12 := X9.at
  refine Gets.via (fun _ k => (XS.aloadN A12 hx rfl (D d2_17) rfl rfl k)) ?_
  refine X9.ldcC (w18 hw) (wSt hw) (by decide) (vs := []) (z := (0 : Int32)) ⟨by decide, by decide⟩ (by decide) (by decide) rfl (D d2_18) (n := 1) (by decide) (by decide) (by decide) (by decide) fun T13 h13 vm13 a13 yb13 k13 X13 C13 E13 Z13 Fc13 Fv13 V13 q13 => ?_
  have z13 := E13.1
  have l13 := ltA Z13.lt
  have lb13 := ltA V13.lt
  have f14 := C9.safe (x := x) (ltA (by omega)) f6
  have f15 := C13.safe (x := x) (ltA (by omega)) f14
  have ne16 := neA (q13 x f15).1
  have nf16 := neA (q13 x f15).2
  refine X13.getF (host := "") (Or.inl (w25 hw)) Via.refl Fc13 rfl rfl (D d2_20) fun T17 X17 => ?_
  show Gets p e below _ (T17.setTop (mkF m 23 #[vR x, vR b, vI (0 : Int32), vI (0 : Int32), .val .null, .unset] [(.int (0 : Int32)), (.ref x)]))
  have f19 := Pr1.ext E5
  have f20 := f19.other W9 (Or.inr (slot_ne (t := .byte) (t' := (.array .byte)) (Or.inr (w21 hw)) (Or.inr (w20 hw)) (by decide) (by decide) (by decide)))
  have f21 := f20.ext E13
  have f22 := Z9.ext E13
  refine X17.putF (host := "") (Or.inl (w25 hw)) Via.refl f21 f22 (Or.inr ⟨(w21 hw), rfl, hnm⟩) (w5 hw) (ty := .byte) (by decide) (by decide) (by decide) (leA (by omega)) f15 rfl rfl (D d2_23) fun T18 h18 X18 C18 W18 F18 Z18 => ?_
  have z18 := W18.size
  have f23 := F9.ext E13
  have f24 := f23.other W18 (Or.inr (slot_ne (t := (.array .byte)) (t' := .byte) (Or.inr (w20 hw)) (Or.inr (w21 hw)) (by decide) (by decide) (by decide)))
  have f25 := V5.other W9 (neA (by omega))
  have f26 := f25.ext E13
  have f27 := f26.other W18 (neA (by omega))
  have f28 : Str Z h18 x yb5 k5 [] := ⟨Z18, F18, f24, f27, allN, Nat.le_of_ble_eq_true rfl⟩
  exact X18.retV hret (D d2_26) (by decide) (by decide) (fun vmE CE => ⟨yb5, k5, rfl, (((((Keep.refl h0 [x]).ext E5).wr W9 (Or.inl (List.mem_of_getElem? (i := 0) rfl))).ext E13).wr W18 (Or.inl (List.mem_of_getElem? (i := 0) rfl))), f28⟩)
abbrev RrmE1 : Room := { frames := 2, cells := 4, slots := 10, locals := 29 }
def QrmE1 (Z : State) (de : Addr) (el : Addr) (em : Addr) (x : Addr) (b : Addr) (kc : ClassId) (h0 : Heap) (v : Option Value) (vm : Vm) (h : Heap) : Prop := ∃ (t : Addr) (kb : ClassId), v = none ∧ Keep h0 h [x] ∧ Str Z h x t kb []
theorem rmE1 (hcx : Cx Z a0 zc de kde em el ee kee mr fm) (x : Addr) (b : Addr) (kc : ClassId) (h0 : Heap) (O0 : Old Z Z.heap.size h0) (Pr0 : Exa Z h0 x "java/lang/String") (Pr1 : Fld Z h0 x "java/lang/String" "coder" "B" (.int (0 : Int32))) (Pr2 : Fld Z h0 x "java/lang/String" "value" "[B" .null) (Pr3 : Z.heap.size ≤ x) (Pr4 : Arv Z h0 b kc .char (0 : Int32) [] (.int (0 : Int32))) : Met l Z consts_1 (⟨"java/lang/String", "<init>", "([C)V"⟩ : MethodName) jdk_42_method_3_code 2 (none) [] RrmE1 [x] #[(.ref x), (.ref b)] h0 (QrmE1 Z de el em x b kc h0) := by
  have ⟨hw, hEL, O2, P5, OD, AD, XM, OM, OL, XL, FL, AE, MR, O4, P6⟩ := hcx
  refine Met.start (a0 := a0) (Ls := #[vR x, vR b]) pn1 hEL O0 (fun m => by first | (simp [entryFrame, mkF, argsToLocals, Value.category]; done) | rfl) ?_
  intro p e s m below meth cc T0 vm0 X0 sf0_ hby hml hret hnm
  have hx := X0.hx
  have D : ∀ {n r}, decode jdk_42_method_3_code n = r → decode cc.code n = r := fun d => hb hby d
  have zz := X0.ge
  have A0 := X0.at
  have l1 := ltA Pr0.lt
  have l2 := ltA Pr4.lt
  have s3 := sf0_ x (List.mem_of_getElem? (i := 0) rfl)
  refine Gets.via (fun _ k => (XS.aloadN A0 hx rfl (D d1_0) rfl rfl (XS.aloadN A0 hx rfl (D d1_1) rfl rfl (XS.iconst A0 hx rfl (D d1_2) (XS.aloadN A0 hx rfl (D d1_3) rfl rfl k))))) ?_
  refine X0.alen Pr4 rfl rfl (D d1_4) ?_
  refine Gets.via (fun _ k => (XS.aconstNull A0 hx rfl (D d1_5) k)) ?_
  refine X0.callI (y := (⟨"java/lang/String", "<init>", "([CIILjava/lang/Void;)V"⟩ : MethodName)) (W := 0) rfl (w11 hw) (w12 hw) (w14 hw) (by decide) (X0.payM (sf := [x]) (rmE4 hcx x b h0 X0.old Pr0 Pr1 Pr2 Pr3) (sfS s3 sf0) (w14 hw) (w6 hw) (by decide) (by decide)) rfl (sz hml rfl) (a := x) (argsL := [(.ref b), (.int (0 : Int32)), (.int (0 : Int32)), .null]) (rest := []) (lenOf pd0 rfl) rfl rfl (mroom rfl rfl) (D d1_6) (by decide) (by decide) fun T4 h4 vm4 v4 X4 C4 z4 q4 => ?_
  obtain ⟨t4, kb4, rfl, K4, g4_0⟩ := q4
  have l5 := ltA g4_0.lt
  have l6 := ltA g4_0.lb
  show Gets p e below _ (T4.setTop (mkF m 9 #[vR x, vR b] []))
  exact X4.retV hret (D d1_9) (by decide) (by decide) (fun vmE CE => ⟨t4, kb4, rfl, ((Keep.refl h0 [x]).trans K4 (allS (Or.inl (List.mem_of_getElem? (i := 0) rfl)) all0)), g4_0⟩)
abbrev RrmDraw : Room := { frames := 4, cells := 6, slots := 14, locals := 66 }
def QrmDraw (Z : State) (de : Addr) (el : Addr) (em : Addr) (n : Int32) (w : Int32) (h0 : Heap) (v : Option Value) (vm : Vm) (h : Heap) : Prop := ∃ (a : Addr) (b : Addr) (kb : ClassId) (cs : List Int32), v = some (.ref a) ∧ Keep h0 h [] ∧ Str Z h a b kb cs ∧ h0.size ≤ a
theorem rmDraw (hcx : Cx Z a0 zc de kde em el ee kee mr fm) (n : Int32) (w : Int32) (h0 : Heap) (O0 : Old Z Z.heap.size h0)  : Met l Z consts_1 (⟨"com/example/packwright/packwright/io/BuildAssemblerRoutineOfHeaderPinLaw", "draw", "(II)Ljava/lang/String;"⟩ : MethodName) method_2_code 6 (some (.object "java/lang/String")) [] RrmDraw [] #[(.int n), (.int w)] h0 (QrmDraw Z de el em n w h0) := by
  have ⟨hw, hEL, O2, P5, OD, AD, XM, OM, OL, XL, FL, AE, MR, O4, P6⟩ := hcx
  refine Met.start (a0 := a0) (Ls := #[vI n, vI w, .unset, .unset, .unset, .unset]) pn0 hEL O0 (fun m => by first | (simp [entryFrame, mkF, argsToLocals, Value.category]; done) | rfl) ?_
  intro p e s m below meth cc T0 vm0 X0 sf0_ hby hml hret hnm
  have hx := X0.hx
  have D : ∀ {n r}, decode method_2_code n = r → decode cc.code n = r := fun d => hb hby d
  have zz := X0.ge
  have A0 := X0.at
  refine Gets.via (fun _ k => (XS.iloadN A0 hx rfl (D d0_0) rfl (XS.sipush A0 hx rfl (D d0_1) (XS.iand A0 hx rfl (D d0_4) rfl (i2cV A0 hx rfl (D d0_5) rfl (v := (w &&& (255 : Int32))) (i2c_m255 _) (XS.istoreN A0 hx rfl (D d0_6) rfl (l' := #[vI n, vI w, vI (w &&& (255 : Int32)), .unset, .unset, .unset]) rfl (XS.iloadN A0 hx rfl (D d0_7) rfl k))))))) ?_
  refine Gets.via (fun _ k => (XS.bipush A0 hx rfl (D d0_8) (XS.iushr A0 hx rfl (D d0_10) rfl (XS.sipush A0 hx rfl (D d0_11) (XS.iand A0 hx rfl (D d0_14) rfl (i2cV A0 hx rfl (D d0_15) rfl (v := ((Jvm.Free.XT.ushr w (8 : Int32)) &&& (255 : Int32))) (i2c_m255 _) (XS.istoreN A0 hx rfl (D d0_16) rfl (l' := #[vI n, vI w, vI (w &&& (255 : Int32)), vI ((Jvm.Free.XT.ushr w (8 : Int32)) &&& (255 : Int32)), .unset, .unset]) rfl k))))))) ?_
  show Gets p e below _ (T0.setTop (mkF m 17 #[vI n, vI w, vI (w &&& (255 : Int32)), vI ((Jvm.Free.XT.ushr w (8 : Int32)) &&& (255 : Int32)), .unset, .unset] []))
  refine Gets.via (fun _ k => (XS.iloadN A0 hx rfl (D d0_17) rfl (XS.bipush A0 hx rfl (D d0_18) (XS.iushr A0 hx rfl (D d0_20) rfl (XS.sipush A0 hx rfl (D d0_21) (XS.iand A0 hx rfl (D d0_24) rfl (i2cV A0 hx rfl (D d0_25) rfl (v := ((Jvm.Free.XT.ushr w (16 : Int32)) &&& (255 : Int32))) (i2c_m255 _) k))))))) ?_
  refine Gets.via (fun _ k => (XS.istore A0 hx rfl (D d0_26) rfl (l' := #[vI n, vI w, vI (w &&& (255 : Int32)), vI ((Jvm.Free.XT.ushr w (8 : Int32)) &&& (255 : Int32)), vI ((Jvm.Free.XT.ushr w (16 : Int32)) &&& (255 : Int32)), .unset]) rfl (XS.iloadN A0 hx rfl (D d0_28) rfl (XS.bipush A0 hx rfl (D d0_29) (XS.iushr A0 hx rfl (D d0_31) rfl (XS.sipush A0 hx rfl (D d0_32) (XS.iand A0 hx rfl (D d0_35) rfl k))))))) ?_
  show Gets p e below _ (T0.setTop (mkF m 36 #[vI n, vI w, vI (w &&& (255 : Int32)), vI ((Jvm.Free.XT.ushr w (8 : Int32)) &&& (255 : Int32)), vI ((Jvm.Free.XT.ushr w (16 : Int32)) &&& (255 : Int32)), .unset] [(.int ((Jvm.Free.XT.ushr w (24 : Int32)) &&& (255 : Int32)))]))
  refine Gets.via (fun _ k => (i2cV A0 hx rfl (D d0_36) rfl (v := ((Jvm.Free.XT.ushr w (24 : Int32)) &&& (255 : Int32))) (i2c_m255 _) (XS.istore A0 hx rfl (D d0_37) rfl (l' := #[vI n, vI w, vI (w &&& (255 : Int32)), vI ((Jvm.Free.XT.ushr w (8 : Int32)) &&& (255 : Int32)), vI ((Jvm.Free.XT.ushr w (16 : Int32)) &&& (255 : Int32)), vI ((Jvm.Free.XT.ushr w (24 : Int32)) &&& (255 : Int32))]) rfl (XS.iloadN A0 hx rfl (D d0_39) rfl k)))) ?_
  by_cases b40 : (0 : Int32) < n
  · refine Gets.via (fun _ k => (XS.ifYes A0 hx rfl (pc0 := 40) (pc' := 54) rfl (D d0_40) rfl (Jvm.Free.XT.i0_gt_t b40) (by decide) (by decide) k)) ?_
    refine Gets.via (fun _ k => (XS.iloadN A0 hx rfl (D d0_54) rfl (XS.iconst A0 hx rfl (D d0_55) k))) ?_
    by_cases b56 : n = (1 : Int32)
    · refine Gets.via (fun _ k => (XS.icmpNo A0 hx rfl (D d0_56) rfl (Jvm.Free.XT.ii_ne_f b56) k)) ?_
      refine X0.new (w4 hw) (w5 hw) (w6 hw) rfl (D d0_59) (by decide) (by decide) fun T1 h1 a1 X1 C1 E1 g1 Z1 S1 D1 => ?_
      have z1 := E1.1
      have l1 := ltA Z1.lt
      have A2 := X1.at
      refine Gets.via (fun _ k => (XS.dup A2 hx rfl (D d0_62) rfl rfl (XS.iconst A2 hx rfl (D d0_63) k))) ?_
      show Gets p e below _ (T1.setTop (mkF m 64 #[vI n, vI w, vI (w &&& (255 : Int32)), vI ((Jvm.Free.XT.ushr w (8 : Int32)) &&& (255 : Int32)), vI ((Jvm.Free.XT.ushr w (16 : Int32)) &&& (255 : Int32)), vI ((Jvm.Free.XT.ushr w (24 : Int32)) &&& (255 : Int32))] [(.int (1 : Int32)), (.ref a1), (.ref a1)]))
      refine X1.newA (aty := .char) (w7 hw) rfl (D d0_64) rfl (by decide) (cap := 1) (by decide) (by decide) (by decide) (by decide) fun T3 h3 a3 k3 X3 C3 E3 g3 S3 V3 => ?_
      have z3 := E3.1
      have l3 := ltA V3.lt
      have V3_ : Arv Z h3 a3 k3 .char (1 : Int32) [(.int (0 : Int32))] (.int (0 : Int32)) := padN V3 1
      have A4 := X3.at
      refine Gets.via (fun _ k => (XS.dup A4 hx rfl (D d0_66) rfl rfl (XS.iconst A4 hx rfl (D d0_67) (XS.iloadN A4 hx rfl (D d0_68) rfl k)))) ?_
      refine X3.stC V3_ (i := 0) (by decide) (by decide) (Nat.le_of_ble_eq_true rfl) (by decide) (v := (w &&& (255 : Int32))) (i2c_m255 _) (leA (by omega)) rfl rfl (D d0_69) fun T5 h5 X5 C5 K5 V5 => ?_
      have z5 := K5.1
      have V5_ : Arv Z h5 a3 k3 .char (1 : Int32) [(.int (w &&& (255 : Int32)))] (.int (0 : Int32)) := V5
      have f6 := Z1.ext E3
      have f7 := f6.keep K5
      have f8 := (D1 (Or.inr (w20 hw)) (ty := (.array .byte)) (by decide) : Fld Z h1 a1 "java/lang/String" "value" "[B" .null).ext E3
      have f9 := f8.keep K5 (ninS (neA (by omega)) nin0)
      have f10 := (D1 (Or.inr (w21 hw)) (ty := .byte) (by decide) : Fld Z h1 a1 "java/lang/String" "coder" "B" (.int (0 : Int32))).ext E3
      have f11 := f10.keep K5 (ninS (neA (by omega)) nin0)
      have f12 := C3.safe (x := a1) (ltA (by omega)) S1
      have f13 := C5.safe (x := a1) (ltA (by omega)) f12
      refine X5.callI (y := (⟨"java/lang/String", "<init>", "([C)V"⟩ : MethodName)) (W := 1) rfl (w8 hw) (w9 hw) (w10 hw) (by decide) (payStr X5 hw (w5 hw) [(w &&& (255 : Int32))] 1 (leA (by omega)) f7 f9 f11 V5_ O2 P5 rfl rfl (by decide) (by decide) (allI (m255 _) allN) (by decide) (by decide) f13) rfl (sz hml rfl) (a := a1) (argsL := [(.ref a3)]) (rest := [(.ref a1)]) (lenOf pd1 rfl) rfl rfl (mroom rfl rfl) (D d0_70) (by decide) (by decide) fun T14 h14 vm14 v14 X14 C14 z14 q14 => ?_
      obtain ⟨t14, kb14, rfl, K14, g14_0, g14_1, g14_2, g14_3, g14_4⟩ := q14
      have g14_5 : Str Z h14 a1 t14 kb14 [(w &&& (255 : Int32))] := ⟨g14_0, g14_1, g14_2, g14_3, (allI (m255 _) allN), Nat.le_of_ble_eq_true rfl⟩
      have l15 := ltA g14_5.lt
      have l16 := ltA g14_5.lb
      show Gets p e below _ (T14.setTop (mkF m 73 #[vI n, vI w, vI (w &&& (255 : Int32)), vI ((Jvm.Free.XT.ushr w (8 : Int32)) &&& (255 : Int32)), vI ((Jvm.Free.XT.ushr w (16 : Int32)) &&& (255 : Int32)), vI ((Jvm.Free.XT.ushr w (24 : Int32)) &&& (255 : Int32))] [(.ref a1)]))
      exact X14.retA hret rfl rfl rfl (D d0_73) (by decide) (by decide) (fun vmE CE => ⟨a1, t14, kb14, [(w &&& (255 : Int32))], rfl, (((((Keep.refl h0 []).ext E1).ext E3).trans K5 (allS (Or.inr (leA (by omega))) all0)).trans K14 (allS (Or.inr (leA (by omega))) all0)), g14_5, (leA (by omega))⟩)
    · refine Gets.via (fun _ k => (XS.icmpYes A0 hx rfl (pc0 := 56) (pc' := 74) rfl (D d0_56) rfl (Jvm.Free.XT.ii_ne_t b56) (by decide) (by decide) k)) ?_
      refine Gets.via (fun _ k => (XS.iloadN A0 hx rfl (D d0_74) rfl (XS.iconst A0 hx rfl (D d0_75) k))) ?_
      by_cases b76 : n = (2 : Int32)
      · refine Gets.via (fun _ k => (XS.icmpNo A0 hx rfl (D d0_76) rfl (Jvm.Free.XT.ii_ne_f b76) k)) ?_
        refine X0.new (w4 hw) (w5 hw) (w6 hw) rfl (D d0_79) (by decide) (by decide) fun T17 h17 a17 X17 C17 E17 g17 Z17 S17 D17 => ?_
        have z17 := E17.1
        have l17 := ltA Z17.lt
        have A18 := X17.at
        refine Gets.via (fun _ k => (XS.dup A18 hx rfl (D d0_82) rfl rfl (XS.iconst A18 hx rfl (D d0_83) k))) ?_
        refine X17.newA (aty := .char) (w7 hw) rfl (D d0_84) rfl (by decide) (cap := 2) (by decide) (by decide) (by decide) (by decide) fun T19 h19 a19 k19 X19 C19 E19 g19 S19 V19 => ?_
        have z19 := E19.1
        have l19 := ltA V19.lt
        have V19_ : Arv Z h19 a19 k19 .char (2 : Int32) [(.int (0 : Int32)), (.int (0 : Int32))] (.int (0 : Int32)) := padN V19 2
        show Gets p e below _ (T19.setTop (mkF m 86 #[vI n, vI w, vI (w &&& (255 : Int32)), vI ((Jvm.Free.XT.ushr w (8 : Int32)) &&& (255 : Int32)), vI ((Jvm.Free.XT.ushr w (16 : Int32)) &&& (255 : Int32)), vI ((Jvm.Free.XT.ushr w (24 : Int32)) &&& (255 : Int32))] [(.ref a19), (.ref a17), (.ref a17)]))
        have A20 := X19.at
        refine Gets.via (fun _ k => (XS.dup A20 hx rfl (D d0_86) rfl rfl (XS.iconst A20 hx rfl (D d0_87) (XS.iloadN A20 hx rfl (D d0_88) rfl k)))) ?_
        refine X19.stC V19_ (i := 0) (by decide) (by decide) (Nat.le_of_ble_eq_true rfl) (by decide) (v := (w &&& (255 : Int32))) (i2c_m255 _) (leA (by omega)) rfl rfl (D d0_89) fun T21 h21 X21 C21 K21 V21 => ?_
        have z21 := K21.1
        have V21_ : Arv Z h21 a19 k19 .char (2 : Int32) [(.int (w &&& (255 : Int32))), (.int (0 : Int32))] (.int (0 : Int32)) := V21
        have A22 := X21.at
        refine Gets.via (fun _ k => (XS.dup A22 hx rfl (D d0_90) rfl rfl (XS.iconst A22 hx rfl (D d0_91) (XS.iloadN A22 hx rfl (D d0_92) rfl k)))) ?_
        refine X21.stC V21_ (i := 1) (by decide) (by decide) (Nat.le_of_ble_eq_true rfl) (by decide) (v := ((Jvm.Free.XT.ushr w (8 : Int32)) &&& (255 : Int32))) (i2c_m255 _) (leA (by omega)) rfl rfl (D d0_93) fun T23 h23 X23 C23 K23 V23 => ?_
        have z23 := K23.1
        have V23_ : Arv Z h23 a19 k19 .char (2 : Int32) [(.int (w &&& (255 : Int32))), (.int ((Jvm.Free.XT.ushr w (8 : Int32)) &&& (255 : Int32)))] (.int (0 : Int32)) := V23
        show Gets p e below _ (T23.setTop (mkF m 94 #[vI n, vI w, vI (w &&& (255 : Int32)), vI ((Jvm.Free.XT.ushr w (8 : Int32)) &&& (255 : Int32)), vI ((Jvm.Free.XT.ushr w (16 : Int32)) &&& (255 : Int32)), vI ((Jvm.Free.XT.ushr w (24 : Int32)) &&& (255 : Int32))] [(.ref a19), (.ref a17), (.ref a17)]))
        have f24 := Z17.ext E19
        have f25 := f24.keep K21
        have f26 := f25.keep K23
        have f27 := (D17 (Or.inr (w20 hw)) (ty := (.array .byte)) (by decide) : Fld Z h17 a17 "java/lang/String" "value" "[B" .null).ext E19
        have f28 := f27.keep K21 (ninS (neA (by omega)) nin0)
        have f29 := f28.keep K23 (ninS (neA (by omega)) nin0)
        have f30 := (D17 (Or.inr (w21 hw)) (ty := .byte) (by decide) : Fld Z h17 a17 "java/lang/String" "coder" "B" (.int (0 : Int32))).ext E19
        have f31 := f30.keep K21 (ninS (neA (by omega)) nin0)
        have f32 := f31.keep K23 (ninS (neA (by omega)) nin0)
        have f33 := C19.safe (x := a17) (ltA (by omega)) S17
        have f34 := C21.safe (x := a17) (ltA (by omega)) f33
        have f35 := C23.safe (x := a17) (ltA (by omega)) f34
        refine X23.callI (y := (⟨"java/lang/String", "<init>", "([C)V"⟩ : MethodName)) (W := 1) rfl (w8 hw) (w9 hw) (w10 hw) (by decide) (payStr X23 hw (w5 hw) [(w &&& (255 : Int32)), ((Jvm.Free.XT.ushr w (8 : Int32)) &&& (255 : Int32))] 2 (leA (by omega)) f26 f29 f32 V23_ O2 P5 rfl rfl (by decide) (by decide) (allI (m255 _) (allI (m255 _) allN)) (by decide) (by decide) f35) rfl (sz hml rfl) (a := a17) (argsL := [(.ref a19)]) (rest := [(.ref a17)]) (lenOf pd1 rfl) rfl rfl (mroom rfl rfl) (D d0_94) (by decide) (by decide) fun T36 h36 vm36 v36 X36 C36 z36 q36 => ?_
        obtain ⟨t36, kb36, rfl, K36, g36_0, g36_1, g36_2, g36_3, g36_4⟩ := q36
        have g36_5 : Str Z h36 a17 t36 kb36 [(w &&& (255 : Int32)), ((Jvm.Free.XT.ushr w (8 : Int32)) &&& (255 : Int32))] := ⟨g36_0, g36_1, g36_2, g36_3, (allI (m255 _) (allI (m255 _) allN)), Nat.le_of_ble_eq_true rfl⟩
        have l37 := ltA g36_5.lt
        have l38 := ltA g36_5.lb
        exact X36.retA hret rfl rfl rfl (D d0_97) (by decide) (by decide) (fun vmE CE => ⟨a17, t36, kb36, [(w &&& (255 : Int32)), ((Jvm.Free.XT.ushr w (8 : Int32)) &&& (255 : Int32))], rfl, ((((((Keep.refl h0 []).ext E17).ext E19).trans K21 (allS (Or.inr (leA (by omega))) all0)).trans K23 (allS (Or.inr (leA (by omega))) all0)).trans K36 (allS (Or.inr (leA (by omega))) all0)), g36_5, (leA (by omega))⟩)
      · refine Gets.via (fun _ k => (XS.icmpYes A0 hx rfl (pc0 := 76) (pc' := 98) rfl (D d0_76) rfl (Jvm.Free.XT.ii_ne_t b76) (by decide) (by decide) k)) ?_
        refine Gets.via (fun _ k => (XS.iloadN A0 hx rfl (D d0_98) rfl (XS.iconst A0 hx rfl (D d0_99) k))) ?_
        by_cases b100 : n = (3 : Int32)
        · refine Gets.via (fun _ k => (XS.icmpNo A0 hx rfl (D d0_100) rfl (Jvm.Free.XT.ii_ne_f b100) k)) ?_
          refine X0.new (w4 hw) (w5 hw) (w6 hw) rfl (D d0_103) (by decide) (by decide) fun T39 h39 a39 X39 C39 E39 g39 Z39 S39 D39 => ?_
          have z39 := E39.1
          have l39 := ltA Z39.lt
          have A40 := X39.at
          refine Gets.via (fun _ k => (XS.dup A40 hx rfl (D d0_106) rfl rfl (XS.iconst A40 hx rfl (D d0_107) k))) ?_
          show Gets p e below _ (T39.setTop (mkF m 108 #[vI n, vI w, vI (w &&& (255 : Int32)), vI ((Jvm.Free.XT.ushr w (8 : Int32)) &&& (255 : Int32)), vI ((Jvm.Free.XT.ushr w (16 : Int32)) &&& (255 : Int32)), vI ((Jvm.Free.XT.ushr w (24 : Int32)) &&& (255 : Int32))] [(.int (3 : Int32)), (.ref a39), (.ref a39)]))
          refine X39.newA (aty := .char) (w7 hw) rfl (D d0_108) rfl (by decide) (cap := 3) (by decide) (by decide) (by decide) (by decide) fun T41 h41 a41 k41 X41 C41 E41 g41 S41 V41 => ?_
          have z41 := E41.1
          have l41 := ltA V41.lt
          have V41_ : Arv Z h41 a41 k41 .char (3 : Int32) [(.int (0 : Int32)), (.int (0 : Int32)), (.int (0 : Int32))] (.int (0 : Int32)) := padN V41 3
          have A42 := X41.at
          refine Gets.via (fun _ k => (XS.dup A42 hx rfl (D d0_110) rfl rfl (XS.iconst A42 hx rfl (D d0_111) (XS.iloadN A42 hx rfl (D d0_112) rfl k)))) ?_
          refine X41.stC V41_ (i := 0) (by decide) (by decide) (Nat.le_of_ble_eq_true rfl) (by decide) (v := (w &&& (255 : Int32))) (i2c_m255 _) (leA (by omega)) rfl rfl (D d0_113) fun T43 h43 X43 C43 K43 V43 => ?_
          have z43 := K43.1
          have V43_ : Arv Z h43 a41 k41 .char (3 : Int32) [(.int (w &&& (255 : Int32))), (.int (0 : Int32)), (.int (0 : Int32))] (.int (0 : Int32)) := V43
          have A44 := X43.at
          refine Gets.via (fun _ k => (XS.dup A44 hx rfl (D d0_114) rfl rfl (XS.iconst A44 hx rfl (D d0_115) (XS.iloadN A44 hx rfl (D d0_116) rfl k)))) ?_
          show Gets p e below _ (T43.setTop (mkF m 117 #[vI n, vI w, vI (w &&& (255 : Int32)), vI ((Jvm.Free.XT.ushr w (8 : Int32)) &&& (255 : Int32)), vI ((Jvm.Free.XT.ushr w (16 : Int32)) &&& (255 : Int32)), vI ((Jvm.Free.XT.ushr w (24 : Int32)) &&& (255 : Int32))] [(.int ((Jvm.Free.XT.ushr w (8 : Int32)) &&& (255 : Int32))), (.int (1 : Int32)), (.ref a41), (.ref a41), (.ref a39), (.ref a39)]))
          refine X43.stC V43_ (i := 1) (by decide) (by decide) (Nat.le_of_ble_eq_true rfl) (by decide) (v := ((Jvm.Free.XT.ushr w (8 : Int32)) &&& (255 : Int32))) (i2c_m255 _) (leA (by omega)) rfl rfl (D d0_117) fun T45 h45 X45 C45 K45 V45 => ?_
          have z45 := K45.1
          have V45_ : Arv Z h45 a41 k41 .char (3 : Int32) [(.int (w &&& (255 : Int32))), (.int ((Jvm.Free.XT.ushr w (8 : Int32)) &&& (255 : Int32))), (.int (0 : Int32))] (.int (0 : Int32)) := V45
          have A46 := X45.at
          refine Gets.via (fun _ k => (XS.dup A46 hx rfl (D d0_118) rfl rfl (XS.iconst A46 hx rfl (D d0_119) (XS.iload A46 hx rfl (D d0_120) rfl k)))) ?_
          refine X45.stC V45_ (i := 2) (by decide) (by decide) (Nat.le_of_ble_eq_true rfl) (by decide) (v := ((Jvm.Free.XT.ushr w (16 : Int32)) &&& (255 : Int32))) (i2c_m255 _) (leA (by omega)) rfl rfl (D d0_122) fun T47 h47 X47 C47 K47 V47 => ?_
          have z47 := K47.1
          have V47_ : Arv Z h47 a41 k41 .char (3 : Int32) [(.int (w &&& (255 : Int32))), (.int ((Jvm.Free.XT.ushr w (8 : Int32)) &&& (255 : Int32))), (.int ((Jvm.Free.XT.ushr w (16 : Int32)) &&& (255 : Int32)))] (.int (0 : Int32)) := V47
          have f48 := Z39.ext E41
          have f49 := f48.keep K43
          have f50 := f49.keep K45
          have f51 := f50.keep K47
          have f52 := (D39 (Or.inr (w20 hw)) (ty := (.array .byte)) (by decide) : Fld Z h39 a39 "java/lang/String" "value" "[B" .null).ext E41
          have f53 := f52.keep K43 (ninS (neA (by omega)) nin0)
          have f54 := f53.keep K45 (ninS (neA (by omega)) nin0)
          have f55 := f54.keep K47 (ninS (neA (by omega)) nin0)
          have f56 := (D39 (Or.inr (w21 hw)) (ty := .byte) (by decide) : Fld Z h39 a39 "java/lang/String" "coder" "B" (.int (0 : Int32))).ext E41
          have f57 := f56.keep K43 (ninS (neA (by omega)) nin0)
          have f58 := f57.keep K45 (ninS (neA (by omega)) nin0)
          have f59 := f58.keep K47 (ninS (neA (by omega)) nin0)
          have f60 := C41.safe (x := a39) (ltA (by omega)) S39
          have f61 := C43.safe (x := a39) (ltA (by omega)) f60
          have f62 := C45.safe (x := a39) (ltA (by omega)) f61
          have f63 := C47.safe (x := a39) (ltA (by omega)) f62
          refine X47.callI (y := (⟨"java/lang/String", "<init>", "([C)V"⟩ : MethodName)) (W := 1) rfl (w8 hw) (w9 hw) (w10 hw) (by decide) (payStr X47 hw (w5 hw) [(w &&& (255 : Int32)), ((Jvm.Free.XT.ushr w (8 : Int32)) &&& (255 : Int32)), ((Jvm.Free.XT.ushr w (16 : Int32)) &&& (255 : Int32))] 3 (leA (by omega)) f51 f55 f59 V47_ O2 P5 rfl rfl (by decide) (by decide) (allI (m255 _) (allI (m255 _) (allI (m255 _) allN))) (by decide) (by decide) f63) rfl (sz hml rfl) (a := a39) (argsL := [(.ref a41)]) (rest := [(.ref a39)]) (lenOf pd1 rfl) rfl rfl (mroom rfl rfl) (D d0_123) (by decide) (by decide) fun T64 h64 vm64 v64 X64 C64 z64 q64 => ?_
          obtain ⟨t64, kb64, rfl, K64, g64_0, g64_1, g64_2, g64_3, g64_4⟩ := q64
          have g64_5 : Str Z h64 a39 t64 kb64 [(w &&& (255 : Int32)), ((Jvm.Free.XT.ushr w (8 : Int32)) &&& (255 : Int32)), ((Jvm.Free.XT.ushr w (16 : Int32)) &&& (255 : Int32))] := ⟨g64_0, g64_1, g64_2, g64_3, (allI (m255 _) (allI (m255 _) (allI (m255 _) allN))), Nat.le_of_ble_eq_true rfl⟩
          have l65 := ltA g64_5.lt
          have l66 := ltA g64_5.lb
          show Gets p e below _ (T64.setTop (mkF m 126 #[vI n, vI w, vI (w &&& (255 : Int32)), vI ((Jvm.Free.XT.ushr w (8 : Int32)) &&& (255 : Int32)), vI ((Jvm.Free.XT.ushr w (16 : Int32)) &&& (255 : Int32)), vI ((Jvm.Free.XT.ushr w (24 : Int32)) &&& (255 : Int32))] [(.ref a39)]))
          exact X64.retA hret rfl rfl rfl (D d0_126) (by decide) (by decide) (fun vmE CE => ⟨a39, t64, kb64, [(w &&& (255 : Int32)), ((Jvm.Free.XT.ushr w (8 : Int32)) &&& (255 : Int32)), ((Jvm.Free.XT.ushr w (16 : Int32)) &&& (255 : Int32))], rfl, (((((((Keep.refl h0 []).ext E39).ext E41).trans K43 (allS (Or.inr (leA (by omega))) all0)).trans K45 (allS (Or.inr (leA (by omega))) all0)).trans K47 (allS (Or.inr (leA (by omega))) all0)).trans K64 (allS (Or.inr (leA (by omega))) all0)), g64_5, (leA (by omega))⟩)
        · refine Gets.via (fun _ k => (XS.icmpYes A0 hx rfl (pc0 := 100) (pc' := 127) rfl (D d0_100) rfl (Jvm.Free.XT.ii_ne_t b100) (by decide) (by decide) k)) ?_
          refine X0.new (w4 hw) (w5 hw) (w6 hw) rfl (D d0_127) (by decide) (by decide) fun T67 h67 a67 X67 C67 E67 g67 Z67 S67 D67 => ?_
          have z67 := E67.1
          have l67 := ltA Z67.lt
          have A68 := X67.at
          refine Gets.via (fun _ k => (XS.dup A68 hx rfl (D d0_130) rfl rfl (XS.iconst A68 hx rfl (D d0_131) k))) ?_
          refine X67.newA (aty := .char) (w7 hw) rfl (D d0_132) rfl (by decide) (cap := 4) (by decide) (by decide) (by decide) (by decide) fun T69 h69 a69 k69 X69 C69 E69 g69 S69 V69 => ?_
          have z69 := E69.1
          have l69 := ltA V69.lt
          have V69_ : Arv Z h69 a69 k69 .char (4 : Int32) [(.int (0 : Int32)), (.int (0 : Int32)), (.int (0 : Int32)), (.int (0 : Int32))] (.int (0 : Int32)) := padN V69 4
          have A70 := X69.at
          refine Gets.via (fun _ k => (XS.dup A70 hx rfl (D d0_134) rfl rfl (XS.iconst A70 hx rfl (D d0_135) (XS.iloadN A70 hx rfl (D d0_136) rfl k)))) ?_
          show Gets p e below _ (T69.setTop (mkF m 137 #[vI n, vI w, vI (w &&& (255 : Int32)), vI ((Jvm.Free.XT.ushr w (8 : Int32)) &&& (255 : Int32)), vI ((Jvm.Free.XT.ushr w (16 : Int32)) &&& (255 : Int32)), vI ((Jvm.Free.XT.ushr w (24 : Int32)) &&& (255 : Int32))] [(.int (w &&& (255 : Int32))), (.int (0 : Int32)), (.ref a69), (.ref a69), (.ref a67), (.ref a67)]))
          refine X69.stC V69_ (i := 0) (by decide) (by decide) (Nat.le_of_ble_eq_true rfl) (by decide) (v := (w &&& (255 : Int32))) (i2c_m255 _) (leA (by omega)) rfl rfl (D d0_137) fun T71 h71 X71 C71 K71 V71 => ?_
          have z71 := K71.1
          have V71_ : Arv Z h71 a69 k69 .char (4 : Int32) [(.int (w &&& (255 : Int32))), (.int (0 : Int32)), (.int (0 : Int32)), (.int (0 : Int32))] (.int (0 : Int32)) := V71
          have A72 := X71.at
          refine Gets.via (fun _ k => (XS.dup A72 hx rfl (D d0_138) rfl rfl (XS.iconst A72 hx rfl (D d0_139) (XS.iloadN A72 hx rfl (D d0_140) rfl k)))) ?_
          refine X71.stC V71_ (i := 1) (by decide) (by decide) (Nat.le_of_ble_eq_true rfl) (by decide) (v := ((Jvm.Free.XT.ushr w (8 : Int32)) &&& (255 : Int32))) (i2c_m255 _) (leA (by omega)) rfl rfl (D d0_141) fun T73 h73 X73 C73 K73 V73 => ?_
          have z73 := K73.1
          have V73_ : Arv Z h73 a69 k69 .char (4 : Int32) [(.int (w &&& (255 : Int32))), (.int ((Jvm.Free.XT.ushr w (8 : Int32)) &&& (255 : Int32))), (.int (0 : Int32)), (.int (0 : Int32))] (.int (0 : Int32)) := V73
          have A74 := X73.at
          refine Gets.via (fun _ k => (XS.dup A74 hx rfl (D d0_142) rfl rfl (XS.iconst A74 hx rfl (D d0_143) (XS.iload A74 hx rfl (D d0_144) rfl k)))) ?_
          show Gets p e below _ (T73.setTop (mkF m 146 #[vI n, vI w, vI (w &&& (255 : Int32)), vI ((Jvm.Free.XT.ushr w (8 : Int32)) &&& (255 : Int32)), vI ((Jvm.Free.XT.ushr w (16 : Int32)) &&& (255 : Int32)), vI ((Jvm.Free.XT.ushr w (24 : Int32)) &&& (255 : Int32))] [(.int ((Jvm.Free.XT.ushr w (16 : Int32)) &&& (255 : Int32))), (.int (2 : Int32)), (.ref a69), (.ref a69), (.ref a67), (.ref a67)]))
          refine X73.stC V73_ (i := 2) (by decide) (by decide) (Nat.le_of_ble_eq_true rfl) (by decide) (v := ((Jvm.Free.XT.ushr w (16 : Int32)) &&& (255 : Int32))) (i2c_m255 _) (leA (by omega)) rfl rfl (D d0_146) fun T75 h75 X75 C75 K75 V75 => ?_
          have z75 := K75.1
          have V75_ : Arv Z h75 a69 k69 .char (4 : Int32) [(.int (w &&& (255 : Int32))), (.int ((Jvm.Free.XT.ushr w (8 : Int32)) &&& (255 : Int32))), (.int ((Jvm.Free.XT.ushr w (16 : Int32)) &&& (255 : Int32))), (.int (0 : Int32))] (.int (0 : Int32)) := V75
          have A76 := X75.at
          refine Gets.via (fun _ k => (XS.dup A76 hx rfl (D d0_147) rfl rfl (XS.iconst A76 hx rfl (D d0_148) (XS.iload A76 hx rfl (D d0_149) rfl k)))) ?_
          refine X75.stC V75_ (i := 3) (by decide) (by decide) (Nat.le_of_ble_eq_true rfl) (by decide) (v := ((Jvm.Free.XT.ushr w (24 : Int32)) &&& (255 : Int32))) (i2c_m255 _) (leA (by omega)) rfl rfl (D d0_151) fun T77 h77 X77 C77 K77 V77 => ?_
          have z77 := K77.1
          have V77_ : Arv Z h77 a69 k69 .char (4 : Int32) [(.int (w &&& (255 : Int32))), (.int ((Jvm.Free.XT.ushr w (8 : Int32)) &&& (255 : Int32))), (.int ((Jvm.Free.XT.ushr w (16 : Int32)) &&& (255 : Int32))), (.int ((Jvm.Free.XT.ushr w (24 : Int32)) &&& (255 : Int32)))] (.int (0 : Int32)) := V77
          have f78 := Z67.ext E69
          have f79 := f78.keep K71
          have f80 := f79.keep K73
          have f81 := f80.keep K75
          have f82 := f81.keep K77
          have f83 := (D67 (Or.inr (w20 hw)) (ty := (.array .byte)) (by decide) : Fld Z h67 a67 "java/lang/String" "value" "[B" .null).ext E69
          have f84 := f83.keep K71 (ninS (neA (by omega)) nin0)
          have f85 := f84.keep K73 (ninS (neA (by omega)) nin0)
          have f86 := f85.keep K75 (ninS (neA (by omega)) nin0)
          have f87 := f86.keep K77 (ninS (neA (by omega)) nin0)
          have f88 := (D67 (Or.inr (w21 hw)) (ty := .byte) (by decide) : Fld Z h67 a67 "java/lang/String" "coder" "B" (.int (0 : Int32))).ext E69
          have f89 := f88.keep K71 (ninS (neA (by omega)) nin0)
          have f90 := f89.keep K73 (ninS (neA (by omega)) nin0)
          have f91 := f90.keep K75 (ninS (neA (by omega)) nin0)
          have f92 := f91.keep K77 (ninS (neA (by omega)) nin0)
          have f93 := C69.safe (x := a67) (ltA (by omega)) S67
          have f94 := C71.safe (x := a67) (ltA (by omega)) f93
          have f95 := C73.safe (x := a67) (ltA (by omega)) f94
          have f96 := C75.safe (x := a67) (ltA (by omega)) f95
          have f97 := C77.safe (x := a67) (ltA (by omega)) f96
          refine X77.callI (y := (⟨"java/lang/String", "<init>", "([C)V"⟩ : MethodName)) (W := 1) rfl (w8 hw) (w9 hw) (w10 hw) (by decide) (payStr X77 hw (w5 hw) [(w &&& (255 : Int32)), ((Jvm.Free.XT.ushr w (8 : Int32)) &&& (255 : Int32)), ((Jvm.Free.XT.ushr w (16 : Int32)) &&& (255 : Int32)), ((Jvm.Free.XT.ushr w (24 : Int32)) &&& (255 : Int32))] 4 (leA (by omega)) f82 f87 f92 V77_ O2 P5 rfl rfl (by decide) (by decide) (allI (m255 _) (allI (m255 _) (allI (m255 _) (allI (m255 _) allN)))) (by decide) (by decide) f97) rfl (sz hml rfl) (a := a67) (argsL := [(.ref a69)]) (rest := [(.ref a67)]) (lenOf pd1 rfl) rfl rfl (mroom rfl rfl) (D d0_152) (by decide) (by decide) fun T98 h98 vm98 v98 X98 C98 z98 q98 => ?_
          obtain ⟨t98, kb98, rfl, K98, g98_0, g98_1, g98_2, g98_3, g98_4⟩ := q98
          have g98_5 : Str Z h98 a67 t98 kb98 [(w &&& (255 : Int32)), ((Jvm.Free.XT.ushr w (8 : Int32)) &&& (255 : Int32)), ((Jvm.Free.XT.ushr w (16 : Int32)) &&& (255 : Int32)), ((Jvm.Free.XT.ushr w (24 : Int32)) &&& (255 : Int32))] := ⟨g98_0, g98_1, g98_2, g98_3, (allI (m255 _) (allI (m255 _) (allI (m255 _) (allI (m255 _) allN)))), Nat.le_of_ble_eq_true rfl⟩
          have l99 := ltA g98_5.lt
          have l100 := ltA g98_5.lb
          show Gets p e below _ (T98.setTop (mkF m 155 #[vI n, vI w, vI (w &&& (255 : Int32)), vI ((Jvm.Free.XT.ushr w (8 : Int32)) &&& (255 : Int32)), vI ((Jvm.Free.XT.ushr w (16 : Int32)) &&& (255 : Int32)), vI ((Jvm.Free.XT.ushr w (24 : Int32)) &&& (255 : Int32))] [(.ref a67)]))
          exact X98.retA hret rfl rfl rfl (D d0_155) (by decide) (by decide) (fun vmE CE => ⟨a67, t98, kb98, [(w &&& (255 : Int32)), ((Jvm.Free.XT.ushr w (8 : Int32)) &&& (255 : Int32)), ((Jvm.Free.XT.ushr w (16 : Int32)) &&& (255 : Int32)), ((Jvm.Free.XT.ushr w (24 : Int32)) &&& (255 : Int32))], rfl, ((((((((Keep.refl h0 []).ext E67).ext E69).trans K71 (allS (Or.inr (leA (by omega))) all0)).trans K73 (allS (Or.inr (leA (by omega))) all0)).trans K75 (allS (Or.inr (leA (by omega))) all0)).trans K77 (allS (Or.inr (leA (by omega))) all0)).trans K98 (allS (Or.inr (leA (by omega))) all0)), g98_5, (leA (by omega))⟩)
  · refine Gets.via (fun _ k => (XS.ifNo A0 hx rfl (D d0_40) rfl (Jvm.Free.XT.i0_gt_f b40) k)) ?_
    refine X0.new (w4 hw) (w5 hw) (w6 hw) rfl (D d0_43) (by decide) (by decide) fun T101 h101 a101 X101 C101 E101 g101 Z101 S101 D101 => ?_
    have z101 := E101.1
    have l101 := ltA Z101.lt
    have A102 := X101.at
    refine Gets.via (fun _ k => (XS.dup A102 hx rfl (D d0_46) rfl rfl (XS.iconst A102 hx rfl (D d0_47) k))) ?_
    refine X101.newA (aty := .char) (w7 hw) rfl (D d0_48) rfl (by decide) (cap := 0) (by decide) (by decide) (by decide) (by decide) fun T103 h103 a103 k103 X103 C103 E103 g103 S103 V103 => ?_
    have z103 := E103.1
    have l103 := ltA V103.lt
    have V103_ : Arv Z h103 a103 k103 .char (0 : Int32) [] (.int (0 : Int32)) := padN V103 0
    have f104 := Z101.ext E103
    have f105 := (D101 (Or.inr (w21 hw)) (ty := .byte) (by decide) : Fld Z h101 a101 "java/lang/String" "coder" "B" (.int (0 : Int32))).ext E103
    have f106 := (D101 (Or.inr (w20 hw)) (ty := (.array .byte)) (by decide) : Fld Z h101 a101 "java/lang/String" "value" "[B" .null).ext E103
    have f107 := C103.safe (x := a101) (ltA (by omega)) S101
    refine X103.callI (y := (⟨"java/lang/String", "<init>", "([C)V"⟩ : MethodName)) (W := 1) rfl (w8 hw) (w9 hw) (w10 hw) (by decide) (X103.payM (sf := [a101]) (rmE1 hcx a101 a103 k103 h103 X103.old f104 f105 f106 (leA (by omega)) V103_) (sfS f107 sf0) (w10 hw) (w6 hw) (by decide) (by decide)) rfl (sz hml rfl) (a := a101) (argsL := [(.ref a103)]) (rest := [(.ref a101)]) (lenOf pd1 rfl) rfl rfl (mroom rfl rfl) (D d0_50) (by decide) (by decide) fun T108 h108 vm108 v108 X108 C108 z108 q108 => ?_
    obtain ⟨t108, kb108, rfl, K108, g108_0⟩ := q108
    have l109 := ltA g108_0.lt
    have l110 := ltA g108_0.lb
    show Gets p e below _ (T108.setTop (mkF m 53 #[vI n, vI w, vI (w &&& (255 : Int32)), vI ((Jvm.Free.XT.ushr w (8 : Int32)) &&& (255 : Int32)), vI ((Jvm.Free.XT.ushr w (16 : Int32)) &&& (255 : Int32)), vI ((Jvm.Free.XT.ushr w (24 : Int32)) &&& (255 : Int32))] [(.ref a101)]))
    exact X108.retA hret rfl rfl rfl (D d0_53) (by decide) (by decide) (fun vmE CE => ⟨a101, t108, kb108, [], rfl, ((((Keep.refl h0 []).ext E101).ext E103).trans K108 (allS (Or.inr (leA (by omega))) all0)), g108_0, (leA (by omega))⟩)
abbrev Rrm9 : Room := { frames := 1, cells := 0, slots := 0, locals := 12 }
def Qrm9 (Z : State) (de : Addr) (el : Addr) (em : Addr) (x : Addr) (h0 : Heap) (v : Option Value) (vm : Vm) (h : Heap) : Prop := v = none ∧ h = h0
theorem rm9 (hcx : Cx Z a0 zc de kde em el ee kee mr fm) (x : Addr) (h0 : Heap) (O0 : Old Z Z.heap.size h0)  : Met l Z consts_1 (⟨"java/util/AbstractCollection", "<init>", "()V"⟩ : MethodName) jdk_22_method_1_code 1 (none) [] Rrm9 [] #[(.ref x)] h0 (Qrm9 Z de el em x h0) := by
  have ⟨hw, hEL, O2, P5, OD, AD, XM, OM, OL, XL, FL, AE, MR, O4, P6⟩ := hcx
  refine Met.start (a0 := a0) (Ls := #[vR x]) pn9 hEL O0 (fun m => by first | (simp [entryFrame, mkF, argsToLocals, Value.category]; done) | rfl) ?_
  intro p e s m below meth cc T0 vm0 X0 sf0_ hby hml hret hnm
  have hx := X0.hx
  have D : ∀ {n r}, decode jdk_22_method_1_code n = r → decode cc.code n = r := fun d => hb hby d
  have zz := X0.ge
  have A0 := X0.at
  refine Gets.via (fun _ k => (XS.aloadN A0 hx rfl (D d9_0) rfl rfl k)) ?_
  refine X0.objInit (w55 hw) (w16 hw) (w17 hw) rfl (sz hml rfl) rfl (D d9_1) (by decide) (W := 0) (mroom rfl rfl) (by decide) fun T1 X1 => ?_
  exact X1.retV hret (D d9_4) (by decide) (by decide) (fun vmE CE => ⟨rfl, rfl⟩)
abbrev Rrm8 : Room := { frames := 2, cells := 0, slots := 0, locals := 24 }
def Qrm8 (Z : State) (de : Addr) (el : Addr) (em : Addr) (x : Addr) (h0 : Heap) (v : Option Value) (vm : Vm) (h : Heap) : Prop := v = none ∧ Keep h0 h [x] ∧ Exa Z h x "java/util/ArrayList" ∧ Fld Z h x "java/util/AbstractList" "modCount" "I" (.int (0 : Int32)) ∧ Fld Z h x "java/util/ArrayList" "size" "I" (.int (0 : Int32)) ∧ Fld Z h x "java/util/ArrayList" "elementData" "[Ljava/lang/Object;" .null
theorem rm8 (hcx : Cx Z a0 zc de kde em el ee kee mr fm) (x : Addr) (h0 : Heap) (O0 : Old Z Z.heap.size h0) (Pr0 : Exa Z h0 x "java/util/ArrayList") (Pr1 : Fld Z h0 x "java/util/AbstractList" "modCount" "I" (.int (0 : Int32))) (Pr2 : Fld Z h0 x "java/util/ArrayList" "size" "I" (.int (0 : Int32))) (Pr3 : Fld Z h0 x "java/util/ArrayList" "elementData" "[Ljava/lang/Object;" .null) (Pr4 : Z.heap.size ≤ x) : Met l Z consts_1 (⟨"java/util/AbstractList", "<init>", "()V"⟩ : MethodName) jdk_39_method_1_code 1 (none) [] Rrm8 [] #[(.ref x)] h0 (Qrm8 Z de el em x h0) := by
  have ⟨hw, hEL, O2, P5, OD, AD, XM, OM, OL, XL, FL, AE, MR, O4, P6⟩ := hcx
  refine Met.start (a0 := a0) (Ls := #[vR x]) pn8 hEL O0 (fun m => by first | (simp [entryFrame, mkF, argsToLocals, Value.category]; done) | rfl) ?_
  intro p e s m below meth cc T0 vm0 X0 sf0_ hby hml hret hnm
  have hx := X0.hx
  have D : ∀ {n r}, decode jdk_39_method_1_code n = r → decode cc.code n = r := fun d => hb hby d
  have zz := X0.ge
  have A0 := X0.at
  have l1 := ltA Pr0.lt
  refine Gets.via (fun _ k => (XS.aloadN A0 hx rfl (D d8_0) rfl rfl k)) ?_
  refine X0.callI (y := (⟨"java/util/AbstractCollection", "<init>", "()V"⟩ : MethodName)) (W := 0) rfl (w49 hw) (w50 hw) (w54 hw) (by decide) (X0.payM (sf := []) (rm9 hcx x h0 X0.old ) sf0 (w54 hw) (w53 hw) (by decide) (by decide)) rfl (sz hml rfl) (a := x) (argsL := []) (rest := []) (lenOf pd2 rfl) rfl rfl (mroom rfl rfl) (D d8_1) (by decide) (by decide) fun T2 h2 vm2 v2 X2 C2 z2 q2 => ?_
  obtain ⟨rfl, K2⟩ := q2
  rw [K2] at X2 C2
  have A3 := X2.at
  refine Gets.via (fun _ k => (XS.aloadN A3 hx rfl (D d8_4) rfl rfl (XS.iconst A3 hx rfl (D d8_5) k))) ?_
  refine X2.putF (host := "") (Or.inl (w56 hw)) Via.refl Pr1 Pr0 (Or.inl (w57 hw)) (w38 hw) (ty := .int) (by decide) rfl rfl (leA (by omega)) (Safe.exa X2.hZ.alike Pr0 (by decide) (by decide)) rfl rfl (D d8_6) fun T4 h4 X4 C4 W4 F4 Z4 => ?_
  have z4 := W4.size
  show Gets p e below _ (T4.setTop (mkF m 9 #[vR x] []))
  have f5 := Pr2.other W4 (Or.inr (slot_ne (t := .int) (t' := .int) (Or.inl (w99 hw)) (Or.inl (w57 hw)) (by decide) (by decide) (by decide)))
  have f6 := Pr3.other W4 (Or.inr (slot_ne (t := (.array (.object "java/lang/Object"))) (t' := .int) (Or.inl (w60 hw)) (Or.inl (w57 hw)) (by decide) (by decide) (by decide)))
  exact X4.retV hret (D d8_9) (by decide) (by decide) (fun vmE CE => ⟨rfl, ((Keep.refl h0 [x]).wr W4 (Or.inl (List.mem_of_getElem? (i := 0) rfl))), Z4, F4, f5, f6⟩)
abbrev Rrm7 : Room := { frames := 3, cells := 0, slots := 0, locals := 36 }
def Qrm7 (Z : State) (de : Addr) (el : Addr) (em : Addr) (x : Addr) (h0 : Heap) (v : Option Value) (vm : Vm) (h : Heap) : Prop := v = none ∧ Keep h0 h [x] ∧ Exa Z h x "java/util/ArrayList" ∧ Fld Z h x "java/util/AbstractList" "modCount" "I" (.int (0 : Int32)) ∧ Fld Z h x "java/util/ArrayList" "size" "I" (.int (0 : Int32)) ∧ Fld Z h x "java/util/ArrayList" "elementData" "[Ljava/lang/Object;" (.ref de)
theorem rm7 (hcx : Cx Z a0 zc de kde em el ee kee mr fm) (x : Addr) (h0 : Heap) (O0 : Old Z Z.heap.size h0) (Pr0 : Exa Z h0 x "java/util/ArrayList") (Pr1 : Fld Z h0 x "java/util/AbstractList" "modCount" "I" (.int (0 : Int32))) (Pr2 : Fld Z h0 x "java/util/ArrayList" "size" "I" (.int (0 : Int32))) (Pr3 : Fld Z h0 x "java/util/ArrayList" "elementData" "[Ljava/lang/Object;" .null) (Pr4 : Z.heap.size ≤ x) : Met l Z consts_1 (⟨"java/util/ArrayList", "<init>", "()V"⟩ : MethodName) jdk_38_method_2_code 1 (none) [] Rrm7 [] #[(.ref x)] h0 (Qrm7 Z de el em x h0) := by
  have ⟨hw, hEL, O2, P5, OD, AD, XM, OM, OL, XL, FL, AE, MR, O4, P6⟩ := hcx
  refine Met.start (a0 := a0) (Ls := #[vR x]) pn7 hEL O0 (fun m => by first | (simp [entryFrame, mkF, argsToLocals, Value.category]; done) | rfl) ?_
  intro p e s m below meth cc T0 vm0 X0 sf0_ hby hml hret hnm
  have hx := X0.hx
  have D : ∀ {n r}, decode jdk_38_method_2_code n = r → decode cc.code n = r := fun d => hb hby d
  have zz := X0.ge
  have A0 := X0.at
  have l1 := ltA Pr0.lt
  refine Gets.via (fun _ k => (XS.aloadN A0 hx rfl (D d7_0) rfl rfl k)) ?_
  refine X0.callI (y := (⟨"java/util/AbstractList", "<init>", "()V"⟩ : MethodName)) (W := 0) rfl (w43 hw) (w44 hw) (w48 hw) (by decide) (X0.payM (sf := []) (rm8 hcx x h0 X0.old Pr0 Pr1 Pr2 Pr3 Pr4) sf0 (w48 hw) (w47 hw) (by decide) (by decide)) rfl (sz hml rfl) (a := x) (argsL := []) (rest := []) (lenOf pd2 rfl) rfl rfl (mroom rfl rfl) (D d7_1) (by decide) (by decide) fun T2 h2 vm2 v2 X2 C2 z2 q2 => ?_
  obtain ⟨rfl, K2, g2_0, g2_1, g2_2, g2_3⟩ := q2
  have l3 := ltA g2_0.lt
  have A4 := X2.at
  refine Gets.via (fun _ k => (XS.aloadN A4 hx rfl (D d7_4) rfl rfl k)) ?_
  refine X2.getS (host := "") (Or.inl (w58 hw)) Via.refl (X2.sta OD) rfl (D d7_5) fun T5 X5 => ?_
  refine X5.putF (host := "") (Or.inl (w59 hw)) Via.refl g2_3 g2_0 (Or.inl (w60 hw)) (w38 hw) (ty := (.array (.object "java/lang/Object"))) (by decide) rfl rfl (leA (by omega)) (Safe.exa X5.hZ.alike g2_0 (by decide) (by decide)) rfl rfl (D d7_8) fun T6 h6 X6 C6 W6 F6 Z6 => ?_
  have z6 := W6.size
  show Gets p e below _ (T6.setTop (mkF m 11 #[vR x] []))
  have f7 := g2_1.other W6 (Or.inr (slot_ne (t := .int) (t' := (.array (.object "java/lang/Object"))) (Or.inl (w57 hw)) (Or.inl (w60 hw)) (by decide) (by decide) (by decide)))
  have f8 := g2_2.other W6 (Or.inr (slot_ne (t := .int) (t' := (.array (.object "java/lang/Object"))) (Or.inl (w99 hw)) (Or.inl (w60 hw)) (by decide) (by decide) (by decide)))
  exact X6.retV hret (D d7_11) (by decide) (by decide) (fun vmE CE => ⟨rfl, (((Keep.refl h0 [x]).trans K2 (allS (Or.inl (List.mem_of_getElem? (i := 0) rfl)) all0)).wr W6 (Or.inl (List.mem_of_getElem? (i := 0) rfl))), Z6, f7, f8, F6⟩)
abbrev Rrm35 : Room := { frames := 2, cells := 0, slots := 0, locals := 24 }
def Qrm35 (Z : State) (de : Addr) (el : Addr) (em : Addr) (x : Addr) (h0 : Heap) (v : Option Value) (vm : Vm) (h : Heap) : Prop := v = none ∧ h = h0
theorem rm35 (hcx : Cx Z a0 zc de kde em el ee kee mr fm) (x : Addr) (h0 : Heap) (O0 : Old Z Z.heap.size h0)  : Met l Z consts_1 (⟨"java/util/ImmutableCollections$AbstractImmutableCollection", "<init>", "()V"⟩ : MethodName) jdk_47_method_1_code 1 (none) [] Rrm35 [] #[(.ref x)] h0 (Qrm35 Z de el em x h0) := by
  have ⟨hw, hEL, O2, P5, OD, AD, XM, OM, OL, XL, FL, AE, MR, O4, P6⟩ := hcx
  refine Met.start (a0 := a0) (Ls := #[vR x]) pn35 hEL O0 (fun m => by first | (simp [entryFrame, mkF, argsToLocals, Value.category]; done) | rfl) ?_
  intro p e s m below meth cc T0 vm0 X0 sf0_ hby hml hret hnm
  have hx := X0.hx
  have D : ∀ {n r}, decode jdk_47_method_1_code n = r → decode cc.code n = r := fun d => hb hby d
  have zz := X0.ge
  have A0 := X0.at
  refine Gets.via (fun _ k => (XS.aloadN A0 hx rfl (D d35_0) rfl rfl k)) ?_
  refine X0.callI (y := (⟨"java/util/AbstractCollection", "<init>", "()V"⟩ : MethodName)) (W := 0) rfl (w228 hw) (w50 hw) (w54 hw) (by decide) (X0.payM (sf := []) (rm9 hcx x h0 X0.old ) sf0 (w54 hw) (w53 hw) (by decide) (by decide)) rfl (sz hml rfl) (a := x) (argsL := []) (rest := []) (lenOf pd2 rfl) rfl rfl (mroom rfl rfl) (D d35_1) (by decide) (by decide) fun T1 h1 vm1 v1 X1 C1 z1 q1 => ?_
  obtain ⟨rfl, K1⟩ := q1
  rw [K1] at X1 C1
  exact X1.retV hret (D d35_4) (by decide) (by decide) (fun vmE CE => ⟨rfl, rfl⟩)
abbrev Rrm34 : Room := { frames := 3, cells := 0, slots := 0, locals := 36 }
def Qrm34 (Z : State) (de : Addr) (el : Addr) (em : Addr) (x : Addr) (h0 : Heap) (v : Option Value) (vm : Vm) (h : Heap) : Prop := v = none ∧ h = h0
theorem rm34 (hcx : Cx Z a0 zc de kde em el ee kee mr fm) (x : Addr) (h0 : Heap) (O0 : Old Z Z.heap.size h0)  : Met l Z consts_1 (⟨"java/util/ImmutableCollections$AbstractImmutableList", "<init>", "()V"⟩ : MethodName) jdk_46_method_1_code 1 (none) [] Rrm34 [] #[(.ref x)] h0 (Qrm34 Z de el em x h0) := by
  have ⟨hw, hEL, O2, P5, OD, AD, XM, OM, OL, XL, FL, AE, MR, O4, P6⟩ := hcx
  refine Met.start (a0 := a0) (Ls := #[vR x]) pn34 hEL O0 (fun m => by first | (simp [entryFrame, mkF, argsToLocals, Value.category]; done) | rfl) ?_
  intro p e s m below meth cc T0 vm0 X0 sf0_ hby hml hret hnm
  have hx := X0.hx
  have D : ∀ {n r}, decode jdk_46_method_1_code n = r → decode cc.code n = r := fun d => hb hby d
  have zz := X0.ge
  have A0 := X0.at
  refine Gets.via (fun _ k => (XS.aloadN A0 hx rfl (D d34_0) rfl rfl k)) ?_
  refine X0.callI (y := (⟨"java/util/ImmutableCollections$AbstractImmutableCollection", "<init>", "()V"⟩ : MethodName)) (W := 0) rfl (w222 hw) (w223 hw) (w227 hw) (by decide) (X0.payM (sf := []) (rm35 hcx x h0 X0.old ) sf0 (w227 hw) (w226 hw) (by decide) (by decide)) rfl (sz hml rfl) (a := x) (argsL := []) (rest := []) (lenOf pd2 rfl) rfl rfl (mroom rfl rfl) (D d34_1) (by decide) (by decide) fun T1 h1 vm1 v1 X1 C1 z1 q1 => ?_
  obtain ⟨rfl, K1⟩ := q1
  rw [K1] at X1 C1
  exact X1.retV hret (D d34_4) (by decide) (by decide) (fun vmE CE => ⟨rfl, rfl⟩)
abbrev Rrm32 : Room := { frames := 0, cells := 0, slots := 0, locals := 0 }
def Qrm32 (Z : State) (de : Addr) (el : Addr) (em : Addr) (a : Addr) (h0 : Heap) (v : Option Value) (vm : Vm) (h : Heap) : Prop := v = some (.ref a) ∧ h = h0
theorem rm32 (hcx : Cx Z a0 zc de kde em el ee kee mr fm) (a : Addr) (h0 : Heap) (O0 : Old Z Z.heap.size h0)  : Met l Z consts_1 (⟨"java/util/Objects", "requireNonNull", "(Ljava/lang/Object;)Ljava/lang/Object;"⟩ : MethodName) jdk_31_method_10_code 1 (some (.object "java/lang/Object")) [] Rrm32 [] #[(.ref a)] h0 (Qrm32 Z de el em a h0) := by
  have ⟨hw, hEL, O2, P5, OD, AD, XM, OM, OL, XL, FL, AE, MR, O4, P6⟩ := hcx
  refine Met.start (a0 := a0) (Ls := #[vR a]) pn32 hEL O0 (fun m => by first | (simp [entryFrame, mkF, argsToLocals, Value.category]; done) | rfl) ?_
  intro p e s m below meth cc T0 vm0 X0 sf0_ hby hml hret hnm
  have hx := X0.hx
  have D : ∀ {n r}, decode jdk_31_method_10_code n = r → decode cc.code n = r := fun d => hb hby d
  have zz := X0.ge
  have A0 := X0.at
  refine Gets.via (fun _ k => (XS.aloadN A0 hx rfl (D d32_0) rfl rfl (XS.ifnonnullYes A0 hx rfl (pc0 := 1) (pc' := 12) rfl (D d32_1) rfl (by decide) (by decide) k))) ?_
  refine Gets.via (fun _ k => (XS.aloadN A0 hx rfl (D d32_12) rfl rfl k)) ?_
  exact X0.retA hret rfl rfl rfl (D d32_13) (by decide) (by decide) (fun vmE CE => ⟨rfl, rfl⟩)
abbrev Rrm46 : Room := { frames := 4, cells := 0, slots := 0, locals := 48 }
def Qrm46 (Z : State) (de : Addr) (el : Addr) (em : Addr) (x : Addr) (e0 : Addr) (h0 : Heap) (v : Option Value) (vm : Vm) (h : Heap) : Prop := v = none ∧ Keep h0 h [x] ∧ Exa Z h x "java/util/ImmutableCollections$List12" ∧ Fld Z h x "java/util/ImmutableCollections$List12" "e0" "Ljava/lang/Object;" (.ref e0) ∧ Fld Z h x "java/util/ImmutableCollections$List12" "e1" "Ljava/lang/Object;" (.ref em)
theorem rm46 (hcx : Cx Z a0 zc de kde em el ee kee mr fm) (x : Addr) (e0 : Addr) (h0 : Heap) (O0 : Old Z Z.heap.size h0) (Pr0 : Exa Z h0 x "java/util/ImmutableCollections$List12") (Pr1 : Fld Z h0 x "java/util/ImmutableCollections$List12" "e0" "Ljava/lang/Object;" .null) (Pr2 : Fld Z h0 x "java/util/ImmutableCollections$List12" "e1" "Ljava/lang/Object;" .null) (Pr3 : Z.heap.size ≤ x) : Met l Z consts_1 (⟨"java/util/ImmutableCollections$List12", "<init>", "(Ljava/lang/Object;)V"⟩ : MethodName) jdk_44_method_1_code 2 (none) [] Rrm46 [] #[(.ref x), (.ref e0)] h0 (Qrm46 Z de el em x e0 h0) := by
  have ⟨hw, hEL, O2, P5, OD, AD, XM, OM, OL, XL, FL, AE, MR, O4, P6⟩ := hcx
  refine Met.start (a0 := a0) (Ls := #[vR x, vR e0]) pn46 hEL O0 (fun m => by first | (simp [entryFrame, mkF, argsToLocals, Value.category]; done) | rfl) ?_
  intro p e s m below meth cc T0 vm0 X0 sf0_ hby hml hret hnm
  have hx := X0.hx
  have D : ∀ {n r}, decode jdk_44_method_1_code n = r → decode cc.code n = r := fun d => hb hby d
  have zz := X0.ge
  have A0 := X0.at
  have l1 := ltA Pr0.lt
  refine Gets.via (fun _ k => (XS.aloadN A0 hx rfl (D d46_0) rfl rfl k)) ?_
  refine X0.callI (y := (⟨"java/util/ImmutableCollections$AbstractImmutableList", "<init>", "()V"⟩ : MethodName)) (W := 0) rfl (w261 hw) (w217 hw) (w221 hw) (by decide) (X0.payM (sf := []) (rm34 hcx x h0 X0.old ) sf0 (w221 hw) (w220 hw) (by decide) (by decide)) rfl (sz hml rfl) (a := x) (argsL := []) (rest := []) (lenOf pd2 rfl) rfl rfl (mroom rfl rfl) (D d46_1) (by decide) (by decide) fun T2 h2 vm2 v2 X2 C2 z2 q2 => ?_
  obtain ⟨rfl, K2⟩ := q2
  rw [K2] at X2 C2
  have A3 := X2.at
  refine Gets.via (fun _ k => (XS.aloadN A3 hx rfl (D d46_4) rfl rfl (XS.aloadN A3 hx rfl (D d46_5) rfl rfl k))) ?_
  refine X2.callS (W := 1) (w265 hw) (w208 hw) (w209 hw) (w210 hw) (by decide) (X2.payM (sf := []) (rm32 hcx e0 h0 X2.old ) sf0 (w210 hw) (w209 hw) (by decide) (by decide)) rfl (sz hml rfl) (argsL := [(.ref e0)]) (rest := [(.ref x)]) (lenOf pd3 rfl) rfl rfl (mroom rfl rfl) (D d46_6) (by decide) (by decide) fun T4 h4 vm4 v4 X4 C4 z4 q4 => ?_
  obtain ⟨rfl, K4⟩ := q4
  rw [K4] at X4 C4
  show Gets p e below _ (T4.setTop (mkF m 9 #[vR x, vR e0] [(.ref e0), (.ref x)]))
  refine X4.putF (host := "") (Or.inl (w266 hw)) Via.refl Pr1 Pr0 (Or.inr ⟨(w267 hw), rfl, hnm⟩) (w255 hw) (ty := (.object "java/lang/Object")) (by decide) rfl rfl (leA (by omega)) (Safe.exa X4.hZ.alike Pr0 (by decide) (by decide)) rfl rfl (D d46_9) fun T5 h5 X5 C5 W5 F5 Z5 => ?_
  have z5 := W5.size
  have A6 := X5.at
  refine Gets.via (fun _ k => (XS.aloadN A6 hx rfl (D d46_12) rfl rfl k)) ?_
  refine X5.getS (host := "java/util/ImmutableCollections") (Or.inr (w276 hw)) Via.refl (X5.sta OM) rfl (D d46_13) fun T7 X7 => ?_
  have f9 := Pr2.other W5 (Or.inr (slot_ne (t := (.object "java/lang/Object")) (t' := (.object "java/lang/Object")) (Or.inr (w269 hw)) (Or.inr (w267 hw)) (by decide) (by decide) (by decide)))
  refine X7.putF (host := "") (Or.inl (w268 hw)) Via.refl f9 Z5 (Or.inr ⟨(w269 hw), rfl, hnm⟩) (w255 hw) (ty := (.object "java/lang/Object")) (by decide) rfl rfl (leA (by omega)) (Safe.exa X7.hZ.alike Z5 (by decide) (by decide)) rfl rfl (D d46_16) fun T8 h8 X8 C8 W8 F8 Z8 => ?_
  have z8 := W8.size
  have f10 := F5.other W8 (Or.inr (slot_ne (t := (.object "java/lang/Object")) (t' := (.object "java/lang/Object")) (Or.inr (w267 hw)) (Or.inr (w269 hw)) (by decide) (by decide) (by decide)))
  exact X8.retV hret (D d46_19) (by decide) (by decide) (fun vmE CE => ⟨rfl, (((Keep.refl h0 [x]).wr W5 (Or.inl (List.mem_of_getElem? (i := 0) rfl))).wr W8 (Or.inl (List.mem_of_getElem? (i := 0) rfl))), Z8, f10, F8⟩)
abbrev Rrm41 : Room := { frames := 4, cells := 0, slots := 0, locals := 48 }
def Qrm41 (Z : State) (de : Addr) (el : Addr) (em : Addr) (x : Addr) (e0 : Addr) (e1 : Addr) (h0 : Heap) (v : Option Value) (vm : Vm) (h : Heap) : Prop := v = none ∧ Keep h0 h [x] ∧ Exa Z h x "java/util/ImmutableCollections$List12" ∧ Fld Z h x "java/util/ImmutableCollections$List12" "e0" "Ljava/lang/Object;" (.ref e0) ∧ Fld Z h x "java/util/ImmutableCollections$List12" "e1" "Ljava/lang/Object;" (.ref e1)
theorem rm41 (hcx : Cx Z a0 zc de kde em el ee kee mr fm) (x : Addr) (e0 : Addr) (e1 : Addr) (h0 : Heap) (O0 : Old Z Z.heap.size h0) (Pr0 : Exa Z h0 x "java/util/ImmutableCollections$List12") (Pr1 : Fld Z h0 x "java/util/ImmutableCollections$List12" "e0" "Ljava/lang/Object;" .null) (Pr2 : Fld Z h0 x "java/util/ImmutableCollections$List12" "e1" "Ljava/lang/Object;" .null) (Pr3 : Z.heap.size ≤ x) : Met l Z consts_1 (⟨"java/util/ImmutableCollections$List12", "<init>", "(Ljava/lang/Object;Ljava/lang/Object;)V"⟩ : MethodName) jdk_44_method_2_code 3 (none) [] Rrm41 [] #[(.ref x), (.ref e0), (.ref e1)] h0 (Qrm41 Z de el em x e0 e1 h0) := by
  have ⟨hw, hEL, O2, P5, OD, AD, XM, OM, OL, XL, FL, AE, MR, O4, P6⟩ := hcx
  refine Met.start (a0 := a0) (Ls := #[vR x, vR e0, vR e1]) pn41 hEL O0 (fun m => by first | (simp [entryFrame, mkF, argsToLocals, Value.category]; done) | rfl) ?_
  intro p e s m below meth cc T0 vm0 X0 sf0_ hby hml hret hnm
  have hx := X0.hx
  have D : ∀ {n r}, decode jdk_44_method_2_code n = r → decode cc.code n = r := fun d => hb hby d
  have zz := X0.ge
  have A0 := X0.at
  have l1 := ltA Pr0.lt
  refine Gets.via (fun _ k => (XS.aloadN A0 hx rfl (D d41_0) rfl rfl k)) ?_
  refine X0.callI (y := (⟨"java/util/ImmutableCollections$AbstractImmutableList", "<init>", "()V"⟩ : MethodName)) (W := 0) rfl (w261 hw) (w217 hw) (w221 hw) (by decide) (X0.payM (sf := []) (rm34 hcx x h0 X0.old ) sf0 (w221 hw) (w220 hw) (by decide) (by decide)) rfl (sz hml rfl) (a := x) (argsL := []) (rest := []) (lenOf pd2 rfl) rfl rfl (mroom rfl rfl) (D d41_1) (by decide) (by decide) fun T2 h2 vm2 v2 X2 C2 z2 q2 => ?_
  obtain ⟨rfl, K2⟩ := q2
  rw [K2] at X2 C2
  have A3 := X2.at
  refine Gets.via (fun _ k => (XS.aloadN A3 hx rfl (D d41_4) rfl rfl (XS.aloadN A3 hx rfl (D d41_5) rfl rfl k))) ?_
  refine X2.callS (W := 1) (w265 hw) (w208 hw) (w209 hw) (w210 hw) (by decide) (X2.payM (sf := []) (rm32 hcx e0 h0 X2.old ) sf0 (w210 hw) (w209 hw) (by decide) (by decide)) rfl (sz hml rfl) (argsL := [(.ref e0)]) (rest := [(.ref x)]) (lenOf pd3 rfl) rfl rfl (mroom rfl rfl) (D d41_6) (by decide) (by decide) fun T4 h4 vm4 v4 X4 C4 z4 q4 => ?_
  obtain ⟨rfl, K4⟩ := q4
  rw [K4] at X4 C4
  show Gets p e below _ (T4.setTop (mkF m 9 #[vR x, vR e0, vR e1] [(.ref e0), (.ref x)]))
  refine X4.putF (host := "") (Or.inl (w266 hw)) Via.refl Pr1 Pr0 (Or.inr ⟨(w267 hw), rfl, hnm⟩) (w255 hw) (ty := (.object "java/lang/Object")) (by decide) rfl rfl (leA (by omega)) (Safe.exa X4.hZ.alike Pr0 (by decide) (by decide)) rfl rfl (D d41_9) fun T5 h5 X5 C5 W5 F5 Z5 => ?_
  have z5 := W5.size
  have A6 := X5.at
  refine Gets.via (fun _ k => (XS.aloadN A6 hx rfl (D d41_12) rfl rfl (XS.aloadN A6 hx rfl (D d41_13) rfl rfl k))) ?_
  refine X5.callS (W := 1) (w265 hw) (w208 hw) (w209 hw) (w210 hw) (by decide) (X5.payM (sf := []) (rm32 hcx e1 h5 X5.old ) sf0 (w210 hw) (w209 hw) (by decide) (by decide)) rfl (sz hml rfl) (argsL := [(.ref e1)]) (rest := [(.ref x)]) (lenOf pd3 rfl) rfl rfl (mroom rfl rfl) (D d41_14) (by decide) (by decide) fun T7 h7 vm7 v7 X7 C7 z7 q7 => ?_
  obtain ⟨rfl, K7⟩ := q7
  rw [K7] at X7 C7
  have f9 := Pr2.other W5 (Or.inr (slot_ne (t := (.object "java/lang/Object")) (t' := (.object "java/lang/Object")) (Or.inr (w269 hw)) (Or.inr (w267 hw)) (by decide) (by decide) (by decide)))
  refine X7.putF (host := "") (Or.inl (w268 hw)) Via.refl f9 Z5 (Or.inr ⟨(w269 hw), rfl, hnm⟩) (w255 hw) (ty := (.object "java/lang/Object")) (by decide) rfl rfl (leA (by omega)) (Safe.exa X7.hZ.alike Z5 (by decide) (by decide)) rfl rfl (D d41_17) fun T8 h8 X8 C8 W8 F8 Z8 => ?_
  have z8 := W8.size
  have f10 := F5.other W8 (Or.inr (slot_ne (t := (.object "java/lang/Object")) (t' := (.object "java/lang/Object")) (Or.inr (w267 hw)) (Or.inr (w269 hw)) (by decide) (by decide) (by decide)))
  exact X8.retV hret (D d41_20) (by decide) (by decide) (fun vmE CE => ⟨rfl, (((Keep.refl h0 [x]).wr W5 (Or.inl (List.mem_of_getElem? (i := 0) rfl))).wr W8 (Or.inl (List.mem_of_getElem? (i := 0) rfl))), Z8, f10, F8⟩)
abbrev Rrm33 : Room := { frames := 4, cells := 0, slots := 0, locals := 48 }
def Qrm33 (Z : State) (de : Addr) (el : Addr) (em : Addr) (x : Addr) (t : Addr) (h0 : Heap) (v : Option Value) (vm : Vm) (h : Heap) : Prop := v = none ∧ Keep h0 h [x] ∧ Exa Z h x "java/util/ImmutableCollections$ListN" ∧ Fld Z h x "java/util/ImmutableCollections$ListN" "elements" "[Ljava/lang/Object;" (.ref t)
theorem rm33 (hcx : Cx Z a0 zc de kde em el ee kee mr fm) (x : Addr) (t : Addr) (h0 : Heap) (O0 : Old Z Z.heap.size h0) (Pr0 : Exa Z h0 x "java/util/ImmutableCollections$ListN") (Pr1 : Fld Z h0 x "java/util/ImmutableCollections$ListN" "elements" "[Ljava/lang/Object;" .null) (Pr2 : Fld Z h0 x "java/util/ImmutableCollections$ListN" "allowNulls" "Z" (.int (0 : Int32))) (Pr3 : Z.heap.size ≤ x) : Met l Z consts_1 (⟨"java/util/ImmutableCollections$ListN", "<init>", "([Ljava/lang/Object;Z)V"⟩ : MethodName) jdk_45_method_1_code 3 (none) [] Rrm33 [] #[(.ref x), (.ref t), (.int (0 : Int32))] h0 (Qrm33 Z de el em x t h0) := by
  have ⟨hw, hEL, O2, P5, OD, AD, XM, OM, OL, XL, FL, AE, MR, O4, P6⟩ := hcx
  refine Met.start (a0 := a0) (Ls := #[vR x, vR t, vI (0 : Int32)]) pn33 hEL O0 (fun m => by first | (simp [entryFrame, mkF, argsToLocals, Value.category]; done) | rfl) ?_
  intro p e s m below meth cc T0 vm0 X0 sf0_ hby hml hret hnm
  have hx := X0.hx
  have D : ∀ {n r}, decode jdk_45_method_1_code n = r → decode cc.code n = r := fun d => hb hby d
  have zz := X0.ge
  have A0 := X0.at
  have l1 := ltA Pr0.lt
  refine Gets.via (fun _ k => (XS.aloadN A0 hx rfl (D d33_0) rfl rfl k)) ?_
  refine X0.callI (y := (⟨"java/util/ImmutableCollections$AbstractImmutableList", "<init>", "()V"⟩ : MethodName)) (W := 0) rfl (w216 hw) (w217 hw) (w221 hw) (by decide) (X0.payM (sf := []) (rm34 hcx x h0 X0.old ) sf0 (w221 hw) (w220 hw) (by decide) (by decide)) rfl (sz hml rfl) (a := x) (argsL := []) (rest := []) (lenOf pd2 rfl) rfl rfl (mroom rfl rfl) (D d33_1) (by decide) (by decide) fun T2 h2 vm2 v2 X2 C2 z2 q2 => ?_
  obtain ⟨rfl, K2⟩ := q2
  rw [K2] at X2 C2
  have A3 := X2.at
  refine Gets.via (fun _ k => (XS.aloadN A3 hx rfl (D d33_4) rfl rfl (XS.aloadN A3 hx rfl (D d33_5) rfl rfl k))) ?_
  refine X2.putF (host := "") (Or.inl (w129 hw)) Via.refl Pr1 Pr0 (Or.inr ⟨(w130 hw), rfl, hnm⟩) (w211 hw) (ty := (.array (.object "java/lang/Object"))) (by decide) rfl rfl (leA (by omega)) (Safe.exa X2.hZ.alike Pr0 (by decide) (by decide)) rfl rfl (D d33_6) fun T4 h4 X4 C4 W4 F4 Z4 => ?_
  have z4 := W4.size
  show Gets p e below _ (T4.setTop (mkF m 9 #[vR x, vR t, vI (0 : Int32)] []))
  have A5 := X4.at
  refine Gets.via (fun _ k => (XS.aloadN A5 hx rfl (D d33_9) rfl rfl (XS.iloadN A5 hx rfl (D d33_10) rfl k))) ?_
  have f7 := Pr2.other W4 (Or.inr (slot_ne (t := .boolean) (t' := (.array (.object "java/lang/Object"))) (Or.inr (w231 hw)) (Or.inr (w130 hw)) (by decide) (by decide) (by decide)))
  refine X4.putF (host := "") (Or.inl (w230 hw)) Via.refl f7 Z4 (Or.inr ⟨(w231 hw), rfl, hnm⟩) (w211 hw) (ty := .boolean) (by decide) (by decide) (by decide) (leA (by omega)) (Safe.exa X4.hZ.alike Z4 (by decide) (by decide)) rfl rfl (D d33_11) fun T6 h6 X6 C6 W6 F6 Z6 => ?_
  have z6 := W6.size
  have f8 := F4.other W6 (Or.inr (slot_ne (t := (.array (.object "java/lang/Object"))) (t' := .boolean) (Or.inr (w130 hw)) (Or.inr (w231 hw)) (by decide) (by decide) (by decide)))
  exact X6.retV hret (D d33_14) (by decide) (by decide) (fun vmE CE => ⟨rfl, (((Keep.refl h0 [x]).wr W4 (Or.inl (List.mem_of_getElem? (i := 0) rfl))).wr W6 (Or.inl (List.mem_of_getElem? (i := 0) rfl))), Z6, f8⟩)
abbrev Rrm15 : Room := { frames := 0, cells := 0, slots := 0, locals := 0 }
def Qrm15 (Z : State) (de : Addr) (el : Addr) (em : Addr) (h0 : Heap) (v : Option Value) (vm : Vm) (h : Heap) : Prop := v = some (.ref el) ∧ h = h0
theorem rm15 (hcx : Cx Z a0 zc de kde em el ee kee mr fm)  (h0 : Heap) (O0 : Old Z Z.heap.size h0)  : Met l Z consts_1 (⟨"java/util/List", "of", "()Ljava/util/List;"⟩ : MethodName) jdk_40_method_36_code 0 (some (.object "java/util/List")) [] Rrm15 [] #[] h0 (Qrm15 Z de el em h0) := by
  have ⟨hw, hEL, O2, P5, OD, AD, XM, OM, OL, XL, FL, AE, MR, O4, P6⟩ := hcx
  refine Met.start (a0 := a0) (Ls := #[]) pn15 hEL O0 (fun m => by first | (simp [entryFrame, mkF, argsToLocals, Value.category]; done) | rfl) ?_
  intro p e s m below meth cc T0 vm0 X0 sf0_ hby hml hret hnm
  have hx := X0.hx
  have D : ∀ {n r}, decode jdk_40_method_36_code n = r → decode cc.code n = r := fun d => hb hby d
  have zz := X0.ge
  have A0 := X0.at
  refine X0.getS (host := "") (Or.inl (w103 hw)) Via.refl (X0.sta OL) rfl (D d15_0) fun T1 X1 => ?_
  exact X1.retA hret rfl rfl rfl (D d15_3) (by decide) (by decide) (fun vmE CE => ⟨rfl, rfl⟩)
abbrev Rrm11 : Room := { frames := 1, cells := 0, slots := 0, locals := 12 }
def Qrm11 (Z : State) (de : Addr) (el : Addr) (em : Addr) (x : Addr) (h0 : Heap) (v : Option Value) (vm : Vm) (h : Heap) : Prop := v = none ∧ h = h0
theorem rm11 (hcx : Cx Z a0 zc de kde em el ee kee mr fm) (x : Addr) (h0 : Heap) (O0 : Old Z Z.heap.size h0)  : Met l Z consts_1 (⟨"java/lang/Record", "<init>", "()V"⟩ : MethodName) jdk_30_method_1_code 1 (none) [] Rrm11 [] #[(.ref x)] h0 (Qrm11 Z de el em x h0) := by
  have ⟨hw, hEL, O2, P5, OD, AD, XM, OM, OL, XL, FL, AE, MR, O4, P6⟩ := hcx
  refine Met.start (a0 := a0) (Ls := #[vR x]) pn11 hEL O0 (fun m => by first | (simp [entryFrame, mkF, argsToLocals, Value.category]; done) | rfl) ?_
  intro p e s m below meth cc T0 vm0 X0 sf0_ hby hml hret hnm
  have hx := X0.hx
  have D : ∀ {n r}, decode jdk_30_method_1_code n = r → decode cc.code n = r := fun d => hb hby d
  have zz := X0.ge
  have A0 := X0.at
  refine Gets.via (fun _ k => (XS.aloadN A0 hx rfl (D d11_0) rfl rfl k)) ?_
  refine X0.objInit (w74 hw) (w16 hw) (w17 hw) rfl (sz hml rfl) rfl (D d11_1) (by decide) (W := 0) (mroom rfl rfl) (by decide) fun T1 X1 => ?_
  exact X1.retV hret (D d11_4) (by decide) (by decide) (fun vmE CE => ⟨rfl, rfl⟩)
abbrev RrmAlEmpty0 : Room := { frames := 0, cells := 0, slots := 0, locals := 0 }
def QrmAlEmpty0 (Z : State) (de : Addr) (el : Addr) (em : Addr) (x : Addr) (h0 : Heap) (v : Option Value) (vm : Vm) (h : Heap) : Prop := v = some (.int (1 : Int32)) ∧ h = h0
theorem rmAlEmpty0 (hcx : Cx Z a0 zc de kde em el ee kee mr fm) (x : Addr) (h0 : Heap) (O0 : Old Z Z.heap.size h0) (Pr0 : Fld Z h0 x "java/util/ArrayList" "size" "I" (.int (0 : Int32))) : Met l Z consts_1 (⟨"java/util/ArrayList", "isEmpty", "()Z"⟩ : MethodName) jdk_38_method_9_code 1 (some .boolean) [] RrmAlEmpty0 [] #[(.ref x)] h0 (QrmAlEmpty0 Z de el em x h0) := by
  have ⟨hw, hEL, O2, P5, OD, AD, XM, OM, OL, XL, FL, AE, MR, O4, P6⟩ := hcx
  refine Met.start (a0 := a0) (Ls := #[vR x]) pn14 hEL O0 (fun m => by first | (simp [entryFrame, mkF, argsToLocals, Value.category]; done) | rfl) ?_
  intro p e s m below meth cc T0 vm0 X0 sf0_ hby hml hret hnm
  have hx := X0.hx
  have D : ∀ {n r}, decode jdk_38_method_9_code n = r → decode cc.code n = r := fun d => hb hby d
  have zz := X0.ge
  have A0 := X0.at
  have l1 := ltA Pr0.lt
  refine Gets.via (fun _ k => (XS.aloadN A0 hx rfl (D d14_0) rfl rfl k)) ?_
  refine X0.getF (host := "") (Or.inl (w98 hw)) Via.refl Pr0 rfl rfl (D d14_1) fun T2 X2 => ?_
  have A3 := X2.at
  refine Gets.via (fun _ k => (XS.ifNo A3 hx rfl (D d14_4) rfl (Jvm.Free.XT.i0_ne_f (by decide)) k)) ?_
  refine Gets.via (fun _ k => (XS.iconst A3 hx rfl (D d14_7) (XS.goto A3 hx rfl (pc0 := 8) (pc' := 12) rfl (D d14_8) (by decide) (by decide) k))) ?_
  exact X2.retI hret (by decide) (by simp) (D d14_12) (by decide) (by decide) (fun vmE CE => ⟨rfl, rfl⟩)
abbrev RrmLc0 : Room := { frames := 1, cells := 0, slots := 0, locals := 12 }
def QrmLc0 (Z : State) (de : Addr) (el : Addr) (em : Addr) (x : Addr) (h0 : Heap) (v : Option Value) (vm : Vm) (h : Heap) : Prop := v = some (.ref el) ∧ h = h0
theorem rmLc0 (hcx : Cx Z a0 zc de kde em el ee kee mr fm) (x : Addr) (h0 : Heap) (O0 : Old Z Z.heap.size h0) (Pr0 : Exa Z h0 x "java/util/ArrayList") (Pr1 : Fld Z h0 x "java/util/ArrayList" "size" "I" (.int (0 : Int32))) : Met l Z consts_1 (⟨"java/util/ImmutableCollections", "listCopy", "(Ljava/util/Collection;)Ljava/util/List;"⟩ : MethodName) jdk_56_method_3_code 2 (some (.object "java/util/List")) [] RrmLc0 [] #[(.ref x)] h0 (QrmLc0 Z de el em x h0) := by
  have ⟨hw, hEL, O2, P5, OD, AD, XM, OM, OL, XL, FL, AE, MR, O4, P6⟩ := hcx
  refine Met.start (a0 := a0) (Ls := #[vR x, .unset]) pn13 hEL O0 (fun m => by first | (simp [entryFrame, mkF, argsToLocals, Value.category]; done) | rfl) ?_
  intro p e s m below meth cc T0 vm0 X0 sf0_ hby hml hret hnm
  have hx := X0.hx
  have D : ∀ {n r}, decode jdk_56_method_3_code n = r → decode cc.code n = r := fun d => hb hby d
  have zz := X0.ge
  have A0 := X0.at
  have l1 := ltA Pr0.lt
  refine Gets.via (fun _ k => (XS.aloadN A0 hx rfl (D d13_0) rfl rfl k)) ?_
  refine X0.instNo (w83 hw) Pr0 (ns_no (w84 hw) (plainS (w270 hw) rfl) (NS.step (w84 hw) (NS.step (w85 hw) (NS.step (w86 hw) (ns_root (w87 hw) (plainS (w270 hw) rfl) (by decide)) (by decide)) (by decide)) (by decide)) (by decide)) rfl rfl (D d13_1) fun T2 X2 => ?_
  have A3 := X2.at
  refine Gets.via (fun _ k => (XS.ifNo A3 hx rfl (D d13_4) rfl (Jvm.Free.XT.i0_ne_f (by decide)) k)) ?_
  refine Gets.via (fun _ k => (XS.aloadN A3 hx rfl (D d13_7) rfl rfl k)) ?_
  refine X2.instNo (w88 hw) Pr0 (ns_no (w84 hw) (plainS (w122 hw) rfl) (NS.step (w84 hw) (NS.step (w85 hw) (NS.step (w86 hw) (ns_root (w87 hw) (plainS (w122 hw) rfl) (by decide)) (by decide)) (by decide)) (by decide)) (by decide)) rfl rfl (D d13_8) fun T4 X4 => ?_
  show Gets p e below _ (T4.setTop (mkF m 11 #[vR x, .unset] [(.int (0 : Int32))]))
  have A5 := X4.at
  refine Gets.via (fun _ k => (XS.ifYes A5 hx rfl (pc0 := 11) (pc' := 31) rfl (D d13_11) rfl (Jvm.Free.XT.i0_eq_t (by decide)) (by decide) (by decide) k)) ?_
  refine Gets.via (fun _ k => (XS.aloadN A5 hx rfl (D d13_31) rfl rfl k)) ?_
  refine X4.callF (W := 0) (w89 hw) (w90 hw) (w91 hw) rfl (w92 hw) (w93 hw) (w94 hw) (w95 hw) (w96 hw) (by decide) (X4.payM (sf := []) (rmAlEmpty0 hcx x h0 X4.old Pr1) sf0 (w97 hw) (w39 hw) (by decide) (by decide)) Pr0 rfl (sz hml rfl) (argsL := []) (rest := []) (lenOf pd5 rfl) rfl rfl (mroom rfl rfl) (D d13_32) (by decide) (by decide) fun T6 h6 vm6 v6 X6 C6 z6 q6 => ?_
  obtain ⟨rfl, K6⟩ := q6
  rw [K6] at X6 C6
  have A7 := X6.at
  refine Gets.via (fun _ k => (XS.ifNo A7 hx rfl (D d13_37) rfl (Jvm.Free.XT.i0_eq_f (by decide)) k)) ?_
  refine X6.callS (W := 0) (w100 hw) (w101 hw) (w77 hw) (w102 hw) (by decide) (X6.payM (sf := []) (rm15 hcx  h0 X6.old ) sf0 (w102 hw) (w77 hw) (by decide) (by decide)) rfl (sz hml rfl) (argsL := []) (rest := []) (lenOf pd6 rfl) rfl rfl (mroom rfl rfl) (D d13_40) (by decide) (by decide) fun T8 h8 vm8 v8 X8 C8 z8 q8 => ?_
  obtain ⟨rfl, K8⟩ := q8
  rw [K8] at X8 C8
  exact X8.retA hret rfl rfl rfl (D d13_43) (by decide) (by decide) (fun vmE CE => ⟨rfl, rfl⟩)
abbrev RrmCoL0 : Room := { frames := 2, cells := 0, slots := 0, locals := 25 }
def QrmCoL0 (Z : State) (de : Addr) (el : Addr) (em : Addr) (x : Addr) (h0 : Heap) (v : Option Value) (vm : Vm) (h : Heap) : Prop := v = some (.ref el) ∧ h = h0
theorem rmCoL0 (hcx : Cx Z a0 zc de kde em el ee kee mr fm) (x : Addr) (h0 : Heap) (O0 : Old Z Z.heap.size h0) (Pr0 : Exa Z h0 x "java/util/ArrayList") (Pr1 : Fld Z h0 x "java/util/ArrayList" "size" "I" (.int (0 : Int32))) : Met l Z consts_1 (⟨"java/util/List", "copyOf", "(Ljava/util/Collection;)Ljava/util/List;"⟩ : MethodName) jdk_40_method_48_code 1 (some (.object "java/util/List")) [] RrmCoL0 [] #[(.ref x)] h0 (QrmCoL0 Z de el em x h0) := by
  have ⟨hw, hEL, O2, P5, OD, AD, XM, OM, OL, XL, FL, AE, MR, O4, P6⟩ := hcx
  refine Met.start (a0 := a0) (Ls := #[vR x]) pn12 hEL O0 (fun m => by first | (simp [entryFrame, mkF, argsToLocals, Value.category]; done) | rfl) ?_
  intro p e s m below meth cc T0 vm0 X0 sf0_ hby hml hret hnm
  have hx := X0.hx
  have D : ∀ {n r}, decode jdk_40_method_48_code n = r → decode cc.code n = r := fun d => hb hby d
  have zz := X0.ge
  have A0 := X0.at
  have l1 := ltA Pr0.lt
  refine Gets.via (fun _ k => (XS.aloadN A0 hx rfl (D d12_0) rfl rfl k)) ?_
  refine X0.callS (W := 0) (w79 hw) (w80 hw) (w81 hw) (w82 hw) (by decide) (X0.payM (sf := []) (rmLc0 hcx x h0 X0.old Pr0 Pr1) sf0 (w82 hw) (w81 hw) (by decide) (by decide)) rfl (sz hml rfl) (argsL := [(.ref x)]) (rest := []) (lenOf pd7 rfl) rfl rfl (mroom rfl rfl) (D d12_1) (by decide) (by decide) fun T2 h2 vm2 v2 X2 C2 z2 q2 => ?_
  obtain ⟨rfl, K2⟩ := q2
  rw [K2] at X2 C2
  exact X2.retA hret rfl rfl rfl (D d12_4) (by decide) (by decide) (fun vmE CE => ⟨rfl, rfl⟩)
abbrev RrmNode0 : Room := { frames := 3, cells := 0, slots := 0, locals := 37 }
def QrmNode0 (Z : State) (de : Addr) (el : Addr) (em : Addr) (x : Addr) (u : Addr) (z : Addr) (v1 : Addr) (h0 : Heap) (v : Option Value) (vm : Vm) (h : Heap) : Prop := v = none ∧ Keep h0 h [x] ∧ Exa Z h x "com/example/packwright/packwright/model/Node" ∧ Fld Z h x "com/example/packwright/packwright/model/Node" "subscripts" "Ljava/util/List;" (.ref el)
theorem rmNode0 (hcx : Cx Z a0 zc de kde em el ee kee mr fm) (x : Addr) (u : Addr) (z : Addr) (v1 : Addr) (h0 : Heap) (O0 : Old Z Z.heap.size h0) (Pr0 : Exa Z h0 x "com/example/packwright/packwright/model/Node") (Pr1 : Fld Z h0 x "com/example/packwright/packwright/model/Node" "subscriptLine" "Ljava/lang/String;" .null) (Pr2 : Fld Z h0 x "com/example/packwright/packwright/model/Node" "subscripts" "Ljava/util/List;" .null) (Pr3 : Fld Z h0 x "com/example/packwright/packwright/model/Node" "value" "Ljava/lang/String;" .null) (Pr4 : Z.heap.size ≤ x) (Pr5 : Exa Z h0 z "java/util/ArrayList") (Pr6 : Fld Z h0 z "java/util/ArrayList" "size" "I" (.int (0 : Int32))) : Met l Z consts_1 (⟨"com/example/packwright/packwright/model/Node", "<init>", "(Ljava/lang/String;Ljava/util/List;Ljava/lang/String;)V"⟩ : MethodName) prog_37_method_1_code 4 (none) [] RrmNode0 [] #[(.ref x), (.ref u), (.ref z), (.ref v1)] h0 (QrmNode0 Z de el em x u z v1 h0) := by
  have ⟨hw, hEL, O2, P5, OD, AD, XM, OM, OL, XL, FL, AE, MR, O4, P6⟩ := hcx
  refine Met.start (a0 := a0) (Ls := #[vR x, vR u, vR z, vR v1]) pn10 hEL O0 (fun m => by first | (simp [entryFrame, mkF, argsToLocals, Value.category]; done) | rfl) ?_
  intro p e s m below meth cc T0 vm0 X0 sf0_ hby hml hret hnm
  have hx := X0.hx
  have D : ∀ {n r}, decode prog_37_method_1_code n = r → decode cc.code n = r := fun d => hb hby d
  have zz := X0.ge
  have A0 := X0.at
  have l1 := ltA Pr0.lt
  have l2 := ltA Pr5.lt
  refine Gets.via (fun _ k => (XS.aloadN A0 hx rfl (D d10_0) rfl rfl k)) ?_
  refine X0.callI (y := (⟨"java/lang/Record", "<init>", "()V"⟩ : MethodName)) (W := 0) rfl (w69 hw) (w70 hw) (w73 hw) (by decide) (X0.payM (sf := []) (rm11 hcx x h0 X0.old ) sf0 (w73 hw) (w72 hw) (by decide) (by decide)) rfl (sz hml rfl) (a := x) (argsL := []) (rest := []) (lenOf pd2 rfl) rfl rfl (mroom rfl rfl) (D d10_1) (by decide) (by decide) fun T3 h3 vm3 v3 X3 C3 z3 q3 => ?_
  obtain ⟨rfl, K3⟩ := q3
  rw [K3] at X3 C3
  have A4 := X3.at
  refine Gets.via (fun _ k => (XS.aloadN A4 hx rfl (D d10_4) rfl rfl k)) ?_
  refine X3.callS (W := 0) (w75 hw) (w76 hw) (w77 hw) (w78 hw) (by decide) (X3.payM (sf := []) (rmCoL0 hcx z h0 X3.old Pr5 Pr6) sf0 (w78 hw) (w77 hw) (by decide) (by decide)) rfl (sz hml rfl) (argsL := [(.ref z)]) (rest := []) (lenOf pd7 rfl) rfl rfl (mroom rfl rfl) (D d10_5) (by decide) (by decide) fun T5 h5 vm5 v5 X5 C5 z5 q5 => ?_
  obtain ⟨rfl, K5⟩ := q5
  rw [K5] at X5 C5
  have A6 := X5.at
  refine Gets.via (fun _ k => (XS.astoreN A6 hx rfl (D d10_8) rfl rfl (l' := #[vR x, vR u, vR el, vR v1]) rfl (XS.aloadN A6 hx rfl (D d10_9) rfl rfl (XS.aloadN A6 hx rfl (D d10_10) rfl rfl k)))) ?_
  show Gets p e below _ (T5.setTop (mkF m 11 #[vR x, vR u, vR el, vR v1] [(.ref u), (.ref x)]))
  refine X5.putF (host := "") (Or.inl (w104 hw)) Via.refl Pr1 Pr0 (Or.inr ⟨(w105 hw), rfl, hnm⟩) (w62 hw) (ty := (.object "java/lang/String")) (by decide) rfl rfl (leA (by omega)) (Safe.exa X5.hZ.alike Pr0 (by decide) (by decide)) rfl rfl (D d10_11) fun T7 h7 X7 C7 W7 F7 Z7 => ?_
  have z7 := W7.size
  have A8 := X7.at
  refine Gets.via (fun _ k => (XS.aloadN A8 hx rfl (D d10_14) rfl rfl (XS.aloadN A8 hx rfl (D d10_15) rfl rfl k))) ?_
  have f10 := Pr2.other W7 (Or.inr (slot_ne (t := (.object "java/util/List")) (t' := (.object "java/lang/String")) (Or.inr (w107 hw)) (Or.inr (w105 hw)) (by decide) (by decide) (by decide)))
  refine X7.putF (host := "") (Or.inl (w106 hw)) Via.refl f10 Z7 (Or.inr ⟨(w107 hw), rfl, hnm⟩) (w62 hw) (ty := (.object "java/util/List")) (by decide) rfl rfl (leA (by omega)) (Safe.exa X7.hZ.alike Z7 (by decide) (by decide)) rfl rfl (D d10_16) fun T9 h9 X9 C9 W9 F9 Z9 => ?_
  have z9 := W9.size
  have A11 := X9.at
  refine Gets.via (fun _ k => (XS.aloadN A11 hx rfl (D d10_19) rfl rfl (XS.aloadN A11 hx rfl (D d10_20) rfl rfl k))) ?_
  have f13 := Pr3.other W7 (Or.inr (slot_ne (t := (.object "java/lang/String")) (t' := (.object "java/lang/String")) (Or.inr (w109 hw)) (Or.inr (w105 hw)) (by decide) (by decide) (by decide)))
  have f14 := f13.other W9 (Or.inr (slot_ne (t := (.object "java/lang/String")) (t' := (.object "java/util/List")) (Or.inr (w109 hw)) (Or.inr (w107 hw)) (by decide) (by decide) (by decide)))
  refine X9.putF (host := "") (Or.inl (w108 hw)) Via.refl f14 Z9 (Or.inr ⟨(w109 hw), rfl, hnm⟩) (w62 hw) (ty := (.object "java/lang/String")) (by decide) rfl rfl (leA (by omega)) (Safe.exa X9.hZ.alike Z9 (by decide) (by decide)) rfl rfl (D d10_21) fun T12 h12 X12 C12 W12 F12 Z12 => ?_
  have z12 := W12.size
  show Gets p e below _ (T12.setTop (mkF m 24 #[vR x, vR u, vR el, vR v1] []))
  have f15 := F9.other W12 (Or.inr (slot_ne (t := (.object "java/util/List")) (t' := (.object "java/lang/String")) (Or.inr (w107 hw)) (Or.inr (w109 hw)) (by decide) (by decide) (by decide)))
  exact X12.retV hret (D d10_24) (by decide) (by decide) (fun vmE CE => ⟨rfl, ((((Keep.refl h0 [x]).wr W7 (Or.inl (List.mem_of_getElem? (i := 0) rfl))).wr W9 (Or.inl (List.mem_of_getElem? (i := 0) rfl))).wr W12 (Or.inl (List.mem_of_getElem? (i := 0) rfl))), Z12, f15⟩)
abbrev RrmSubs : Room := { frames := 0, cells := 0, slots := 0, locals := 0 }
def QrmSubs (Z : State) (de : Addr) (el : Addr) (em : Addr) (x : Addr) (L : Addr) (h0 : Heap) (v : Option Value) (vm : Vm) (h : Heap) : Prop := v = some (.ref L) ∧ h = h0
theorem rmSubs (hcx : Cx Z a0 zc de kde em el ee kee mr fm) (x : Addr) (L : Addr) (h0 : Heap) (O0 : Old Z Z.heap.size h0) (Pr0 : Fld Z h0 x "com/example/packwright/packwright/model/Node" "subscripts" "Ljava/util/List;" (.ref L)) : Met l Z consts_1 (⟨"com/example/packwright/packwright/model/Node", "subscripts", "()Ljava/util/List;"⟩ : MethodName) prog_37_method_7_code 1 (some (.object "java/util/List")) [] RrmSubs [] #[(.ref x)] h0 (QrmSubs Z de el em x L h0) := by
  have ⟨hw, hEL, O2, P5, OD, AD, XM, OM, OL, XL, FL, AE, MR, O4, P6⟩ := hcx
  refine Met.start (a0 := a0) (Ls := #[vR x]) pn17 hEL O0 (fun m => by first | (simp [entryFrame, mkF, argsToLocals, Value.category]; done) | rfl) ?_
  intro p e s m below meth cc T0 vm0 X0 sf0_ hby hml hret hnm
  have hx := X0.hx
  have D : ∀ {n r}, decode prog_37_method_7_code n = r → decode cc.code n = r := fun d => hb hby d
  have zz := X0.ge
  have A0 := X0.at
  have l1 := ltA Pr0.lt
  refine Gets.via (fun _ k => (XS.aloadN A0 hx rfl (D d17_0) rfl rfl k)) ?_
  refine X0.getF (host := "") (Or.inl (w106 hw)) Via.refl Pr0 rfl rfl (D d17_1) fun T2 X2 => ?_
  exact X2.retA hret rfl rfl rfl (D d17_4) (by decide) (by decide) (fun vmE CE => ⟨rfl, rfl⟩)
abbrev RrmLNs0 : Room := { frames := 0, cells := 0, slots := 0, locals := 0 }
def QrmLNs0 (Z : State) (de : Addr) (el : Addr) (em : Addr) (x : Addr) (t : Addr) (kt : ClassId) (vs : List Value) (h0 : Heap) (v : Option Value) (vm : Vm) (h : Heap) : Prop := v = some (.int (0 : Int32)) ∧ h = h0
theorem rmLNs0 (hcx : Cx Z a0 zc de kde em el ee kee mr fm) (x : Addr) (t : Addr) (kt : ClassId) (vs : List Value) (h0 : Heap) (O0 : Old Z Z.heap.size h0) (Pr0 : Fld Z h0 x "java/util/ImmutableCollections$ListN" "elements" "[Ljava/lang/Object;" (.ref t)) (Pr1 : Arv Z h0 t kt (.object "java/lang/Object") (0 : Int32) vs .null) : Met l Z consts_1 (⟨"java/util/ImmutableCollections$ListN", "size", "()I"⟩ : MethodName) jdk_45_method_3_code 1 (some .int) [] RrmLNs0 [] #[(.ref x)] h0 (QrmLNs0 Z de el em x t kt vs h0) := by
  have ⟨hw, hEL, O2, P5, OD, AD, XM, OM, OL, XL, FL, AE, MR, O4, P6⟩ := hcx
  refine Met.start (a0 := a0) (Ls := #[vR x]) pn18 hEL O0 (fun m => by first | (simp [entryFrame, mkF, argsToLocals, Value.category]; done) | rfl) ?_
  intro p e s m below meth cc T0 vm0 X0 sf0_ hby hml hret hnm
  have hx := X0.hx
  have D : ∀ {n r}, decode jdk_45_method_3_code n = r → decode cc.code n = r := fun d => hb hby d
  have zz := X0.ge
  have A0 := X0.at
  have l1 := ltA Pr0.lt
  have l2 := ltA Pr1.lt
  refine Gets.via (fun _ k => (XS.aloadN A0 hx rfl (D d18_0) rfl rfl k)) ?_
  refine X0.getF (host := "") (Or.inl (w129 hw)) Via.refl Pr0 rfl rfl (D d18_1) fun T3 X3 => ?_
  refine X3.alen Pr1 rfl rfl (D d18_4) ?_
  exact X3.retI hret rfl (by simp) (D d18_5) (by decide) (by decide) (fun vmE CE => ⟨rfl, rfl⟩)
abbrev RrmRoh0 : Room := { frames := 1, cells := 0, slots := 0, locals := 12 }
def QrmRoh0 (Z : State) (de : Addr) (el : Addr) (em : Addr) (x : Addr) (h0 : Heap) (v : Option Value) (vm : Vm) (h : Heap) : Prop := v = some .null ∧ h = h0
theorem rmRoh0 (hcx : Cx Z a0 zc de kde em el ee kee mr fm) (x : Addr) (h0 : Heap) (O0 : Old Z Z.heap.size h0) (Pr0 : Exa Z h0 x "com/example/packwright/packwright/model/Node") (Pr1 : Fld Z h0 x "com/example/packwright/packwright/model/Node" "subscripts" "Ljava/util/List;" (.ref el)) : Met l Z consts_1 (⟨"com/example/packwright/packwright/io/BuildAssembler", "routineOfHeader", "(Lcom/example/packwright/packwright/model/Node;)Ljava/lang/String;"⟩ : MethodName) prog_4_method_11_code 2 (some (.object "java/lang/String")) [] RrmRoh0 [] #[(.ref x)] h0 (QrmRoh0 Z de el em x h0) := by
  have ⟨hw, hEL, O2, P5, OD, AD, XM, OM, OL, XL, FL, AE, MR, O4, P6⟩ := hcx
  refine Met.start (a0 := a0) (Ls := #[vR x, .unset]) pn16 hEL O0 (fun m => by first | (simp [entryFrame, mkF, argsToLocals, Value.category]; done) | rfl) ?_
  intro p e s m below meth cc T0 vm0 X0 sf0_ hby hml hret hnm
  have hx := X0.hx
  have D : ∀ {n r}, decode prog_4_method_11_code n = r → decode cc.code n = r := fun d => hb hby d
  have zz := X0.ge
  have A0 := X0.at
  have l1 := ltA Pr0.lt
  refine Gets.via (fun _ k => (XS.aloadN A0 hx rfl (D d16_0) rfl rfl k)) ?_
  refine X0.callV (W := 0) (w114 hw) (w115 hw) (w117 hw) (w116 hw) (nfs rfl (w117 hw)) (by decide) (X0.payM (sf := []) (rmSubs hcx x el h0 X0.old Pr1) sf0 (w118 hw) (w63 hw) (by decide) (by decide)) Pr0 rfl (sz hml rfl) (argsL := []) (rest := []) (lenOf pd6 rfl) rfl rfl (mroom rfl rfl) (D d16_1) (by decide) (by decide) fun T2 h2 vm2 v2 X2 C2 z2 q2 => ?_
  obtain ⟨rfl, K2⟩ := q2
  rw [K2] at X2 C2
  have A3 := X2.at
  refine Gets.via (fun _ k => (XS.astoreN A3 hx rfl (D d16_4) rfl rfl (l' := #[vR x, vR el]) rfl (XS.aloadN A3 hx rfl (D d16_5) rfl rfl k))) ?_
  have f4 : Exa Z h0 el "java/util/ImmutableCollections$ListN" := XL.ext X2.old.2
  have f5 : Fld Z h0 el "java/util/ImmutableCollections$ListN" "elements" "[Ljava/lang/Object;" (.ref ee) := FL.ext X2.old.2
  have f6 : Arv Z h0 ee kee (.object "java/lang/Object") (0 : Int32) [] .null := AE.ext X2.old.2
  refine X2.callF (W := 0) (w119 hw) (w120 hw) (w121 hw) rfl (w122 hw) (w123 hw) (w124 hw) (w125 hw) (w126 hw) (by decide) (X2.payM (sf := []) (rmLNs0 hcx el ee kee [] h0 X2.old f5 f6) sf0 (w128 hw) (w127 hw) (by decide) (by decide)) f4 rfl (sz hml rfl) (argsL := []) (rest := []) (lenOf pd9 rfl) rfl rfl (mroom rfl rfl) (D d16_6) (by decide) (by decide) fun T7 h7 vm7 v7 X7 C7 z7 q7 => ?_
  obtain ⟨rfl, K7⟩ := q7
  rw [K7] at X7 C7
  show Gets p e below _ (T7.setTop (mkF m 11 #[vR x, vR el] [(.int (0 : Int32))]))
  have A8 := X7.at
  refine Gets.via (fun _ k => (XS.iconst A8 hx rfl (D d16_11) (XS.icmpYes A8 hx rfl (pc0 := 12) (pc' := 46) rfl (D d16_12) rfl (Jvm.Free.XT.ii_ne_t (by decide)) (by decide) (by decide) k))) ?_
  refine Gets.via (fun _ k => (XS.aconstNull A8 hx rfl (D d16_46) k)) ?_
  exact X7.retA hret rfl rfl rfl (D d16_47) (by decide) (by decide) (fun vmE CE => ⟨rfl, rfl⟩)
abbrev Rrmmax_10_1 : Room := { frames := 0, cells := 0, slots := 0, locals := 0 }
def Qrmmax_10_1 (Z : State) (de : Addr) (el : Addr) (em : Addr) (h0 : Heap) (v : Option Value) (vm : Vm) (h : Heap) : Prop := v = some (.int (10 : Int32)) ∧ h = h0
theorem rmmax_10_1 (hcx : Cx Z a0 zc de kde em el ee kee mr fm)  (h0 : Heap) (O0 : Old Z Z.heap.size h0)  : Met l Z consts_1 (⟨"java/lang/Math", "max", "(II)I"⟩ : MethodName) jdk_29_method_65_code 2 (some .int) [] Rrmmax_10_1 [] #[(.int (10 : Int32)), (.int (1 : Int32))] h0 (Qrmmax_10_1 Z de el em h0) := by
  have ⟨hw, hEL, O2, P5, OD, AD, XM, OM, OL, XL, FL, AE, MR, O4, P6⟩ := hcx
  refine Met.start (a0 := a0) (Ls := #[vI (10 : Int32), vI (1 : Int32)]) pn25 hEL O0 (fun m => by first | (simp [entryFrame, mkF, argsToLocals, Value.category]; done) | rfl) ?_
  intro p e s m below meth cc T0 vm0 X0 sf0_ hby hml hret hnm
  have hx := X0.hx
  have D : ∀ {n r}, decode jdk_29_method_65_code n = r → decode cc.code n = r := fun d => hb hby d
  have zz := X0.ge
  have A0 := X0.at
  refine Gets.via (fun _ k => (XS.iloadN A0 hx rfl (D d25_0) rfl (XS.iloadN A0 hx rfl (D d25_1) rfl (XS.icmpNo A0 hx rfl (D d25_2) rfl (Jvm.Free.XT.ii_lt_f (by decide)) k)))) ?_
  refine Gets.via (fun _ k => (XS.iloadN A0 hx rfl (D d25_5) rfl (XS.goto A0 hx rfl (pc0 := 6) (pc' := 10) rfl (D d25_6) (by decide) (by decide) k))) ?_
  exact X0.retI hret rfl (by simp) (D d25_10) (by decide) (by decide) (fun vmE CE => ⟨rfl, rfl⟩)
abbrev RrmGrowI : Room := { frames := 1, cells := 1, slots := 10, locals := 14 }
def QrmGrowI (Z : State) (de : Addr) (el : Addr) (em : Addr) (x : Addr) (mc : Int32) (h0 : Heap) (v : Option Value) (vm : Vm) (h : Heap) : Prop := ∃ (d : Addr) (kd : ClassId), v = some (.ref d) ∧ Keep h0 h [x] ∧ Exa Z h x "java/util/ArrayList" ∧ Fld Z h x "java/util/AbstractList" "modCount" "I" (.int mc) ∧ Fld Z h x "java/util/ArrayList" "size" "I" (.int (0 : Int32)) ∧ Fld Z h x "java/util/ArrayList" "elementData" "[Ljava/lang/Object;" (.ref d) ∧ Arv Z h d kd (.object "java/lang/Object") (10 : Int32) [.null, .null, .null, .null, .null, .null, .null, .null, .null, .null] .null ∧ Exa Z h d "[Ljava/lang/Object;" ∧ Ovr Z kd "java/lang/Object" ∧ Z.heap.size ≤ d ∧ h0.size ≤ d
theorem rmGrowI (hcx : Cx Z a0 zc de kde em el ee kee mr fm) (x : Addr) (mc : Int32) (h0 : Heap) (O0 : Old Z Z.heap.size h0) (Pr0 : Exa Z h0 x "java/util/ArrayList") (Pr1 : Fld Z h0 x "java/util/AbstractList" "modCount" "I" (.int mc)) (Pr2 : Fld Z h0 x "java/util/ArrayList" "size" "I" (.int (0 : Int32))) (Pr3 : Fld Z h0 x "java/util/ArrayList" "elementData" "[Ljava/lang/Object;" (.ref de)) (Pr4 : Z.heap.size ≤ x) : Met l Z consts_1 (⟨"java/util/ArrayList", "grow", "(I)[Ljava/lang/Object;"⟩ : MethodName) jdk_38_method_6_code 4 (some (.array (.object "java/lang/Object"))) [] RrmGrowI [] #[(.ref x), (.int (1 : Int32))] h0 (QrmGrowI Z de el em x mc h0) := by
  have ⟨hw, hEL, O2, P5, OD, AD, XM, OM, OL, XL, FL, AE, MR, O4, P6⟩ := hcx
  refine Met.start (a0 := a0) (Ls := #[vR x, vI (1 : Int32), .unset, .unset]) pn24 hEL O0 (fun m => by first | (simp [entryFrame, mkF, argsToLocals, Value.category]; done) | rfl) ?_
  intro p e s m below meth cc T0 vm0 X0 sf0_ hby hml hret hnm
  have hx := X0.hx
  have D : ∀ {n r}, decode jdk_38_method_6_code n = r → decode cc.code n = r := fun d => hb hby d
  have zz := X0.ge
  have A0 := X0.at
  have l1 := ltA Pr0.lt
  refine Gets.via (fun _ k => (XS.aloadN A0 hx rfl (D d24_0) rfl rfl k)) ?_
  refine X0.getF (host := "") (Or.inl (w59 hw)) Via.refl Pr3 rfl rfl (D d24_1) fun T2 X2 => ?_
  have f3 : Arv Z h0 de kde (.object "java/lang/Object") (0 : Int32) [] .null := AD.ext X2.old.2
  refine X2.alen f3 rfl rfl (D d24_4) ?_
  have A4 := X2.at
  refine Gets.via (fun _ k => (XS.istoreN A4 hx rfl (D d24_5) rfl (l' := #[vR x, vI (1 : Int32), vI (0 : Int32), .unset]) rfl (XS.iloadN A4 hx rfl (D d24_6) rfl (XS.ifNo A4 hx rfl (D d24_7) rfl (Jvm.Free.XT.i0_gt_f (by decide)) k)))) ?_
  show Gets p e below _ (T2.setTop (mkF m 10 #[vR x, vI (1 : Int32), vI (0 : Int32), .unset] []))
  refine Gets.via (fun _ k => (XS.aloadN A4 hx rfl (D d24_10) rfl rfl k)) ?_
  refine X2.getF (host := "") (Or.inl (w59 hw)) Via.refl Pr3 rfl rfl (D d24_11) fun T5 X5 => ?_
  refine X5.getS (host := "") (Or.inl (w58 hw)) Via.refl (X5.sta OD) rfl (D d24_14) fun T6 X6 => ?_
  refine X6.acmpW hx rfl rfl rfl (pc0 := 17) (pc' := 45) (same := true) rfl (D d24_17) rfl (by simp) (by decide) (by decide) ?_
  have A7 := X6.at
  refine Gets.via (fun _ k => (XS.aloadN A7 hx rfl (D d24_45) rfl rfl (XS.bipush A7 hx rfl (D d24_46) (XS.iloadN A7 hx rfl (D d24_48) rfl k)))) ?_
  show Gets p e below _ (T6.setTop (mkF m 49 #[vR x, vI (1 : Int32), vI (0 : Int32), .unset] [(.int (1 : Int32)), (.int (10 : Int32)), (.ref x)]))
  refine X6.callS (W := 1) (w163 hw) (w164 hw) (w165 hw) (w166 hw) (by decide) (X6.payM (sf := []) (rmmax_10_1 hcx  h0 X6.old ) sf0 (w166 hw) (w165 hw) (by decide) (by decide)) rfl (sz hml rfl) (argsL := [(.int (10 : Int32)), (.int (1 : Int32))]) (rest := [(.ref x)]) (lenOf pd12 rfl) rfl rfl (mroom rfl rfl) (D d24_49) (by decide) (by decide) fun T8 h8 vm8 v8 X8 C8 z8 q8 => ?_
  obtain ⟨rfl, K8⟩ := q8
  rw [K8] at X8 C8
  refine X8.newR (ad := "[Ljava/lang/Object;") (w167 hw) (w168 hw) rfl (D d24_52) rfl (by decide) (cap := 10) (by decide) (by decide) (by decide) (by decide) (by decide) fun T9 h9 a9 k9 X9 C9 E9 g9 Z9 Ov9 V9 => ?_
  have z9 := E9.1
  have l9 := ltA V9.lt
  have V9_ : Arv Z h9 a9 k9 (.object "java/lang/Object") (10 : Int32) [.null, .null, .null, .null, .null, .null, .null, .null, .null, .null] .null := padN V9 10
  have A10 := X9.at
  refine Gets.via (fun _ k => (XS.dupX1 A10 hx rfl (D d24_55) rfl rfl rfl k)) ?_
  have f12 := Pr3.ext E9
  have f13 := Pr0.ext E9
  refine X9.putF (host := "") (Or.inl (w59 hw)) Via.refl f12 f13 (Or.inl (w60 hw)) (w38 hw) (ty := (.array (.object "java/lang/Object"))) (by decide) rfl rfl (leA (by omega)) (Safe.exa X9.hZ.alike f13 (by decide) (by decide)) rfl rfl (D d24_56) fun T11 h11 X11 C11 W11 F11 Z11 => ?_
  have z11 := W11.size
  have f14 := Pr1.ext E9
  have f15 := f14.other W11 (Or.inr (slot_ne (t := .int) (t' := (.array (.object "java/lang/Object"))) (Or.inl (w57 hw)) (Or.inl (w60 hw)) (by decide) (by decide) (by decide)))
  have f16 := Pr2.ext E9
  have f17 := f16.other W11 (Or.inr (slot_ne (t := .int) (t' := (.array (.object "java/lang/Object"))) (Or.inl (w99 hw)) (Or.inl (w60 hw)) (by decide) (by decide) (by decide)))
  have f18 := V9_.other W11 (neA (by omega))
  have f19 := Z9.wr W11
  exact X11.retA hret rfl rfl rfl (D d24_59) (by decide) (by decide) (fun vmE CE => ⟨a9, k9, rfl, (((Keep.refl h0 [x]).ext E9).wr W11 (Or.inl (List.mem_of_getElem? (i := 0) rfl))), Z11, f15, f17, F11, f18, f19, Ov9, (leA (by omega)), (leA (by omega))⟩)
abbrev RrmGrow : Room := { frames := 2, cells := 1, slots := 10, locals := 29 }
def QrmGrow (Z : State) (de : Addr) (el : Addr) (em : Addr) (x : Addr) (mc : Int32) (h0 : Heap) (v : Option Value) (vm : Vm) (h : Heap) : Prop := ∃ (d : Addr) (kd : ClassId), v = some (.ref d) ∧ Keep h0 h [x] ∧ Exa Z h x "java/util/ArrayList" ∧ Fld Z h x "java/util/AbstractList" "modCount" "I" (.int mc) ∧ Fld Z h x "java/util/ArrayList" "size" "I" (.int (0 : Int32)) ∧ Fld Z h x "java/util/ArrayList" "elementData" "[Ljava/lang/Object;" (.ref d) ∧ Arv Z h d kd (.object "java/lang/Object") (10 : Int32) [.null, .null, .null, .null, .null, .null, .null, .null, .null, .null] .null ∧ Exa Z h d "[Ljava/lang/Object;" ∧ Ovr Z kd "java/lang/Object" ∧ Z.heap.size ≤ d ∧ h0.size ≤ d
theorem rmGrow (hcx : Cx Z a0 zc de kde em el ee kee mr fm) (x : Addr) (mc : Int32) (h0 : Heap) (O0 : Old Z Z.heap.size h0) (Pr0 : Exa Z h0 x "java/util/ArrayList") (Pr1 : Fld Z h0 x "java/util/AbstractList" "modCount" "I" (.int mc)) (Pr2 : Fld Z h0 x "java/util/ArrayList" "size" "I" (.int (0 : Int32))) (Pr3 : Fld Z h0 x "java/util/ArrayList" "elementData" "[Ljava/lang/Object;" (.ref de)) (Pr4 : Z.heap.size ≤ x) : Met l Z consts_1 (⟨"java/util/ArrayList", "grow", "()[Ljava/lang/Object;"⟩ : MethodName) jdk_38_method_7_code 1 (some (.array (.object "java/lang/Object"))) [] RrmGrow [] #[(.ref x)] h0 (QrmGrow Z de el em x mc h0) := by
  have ⟨hw, hEL, O2, P5, OD, AD, XM, OM, OL, XL, FL, AE, MR, O4, P6⟩ := hcx
  refine Met.start (a0 := a0) (Ls := #[vR x]) pn23 hEL O0 (fun m => by first | (simp [entryFrame, mkF, argsToLocals, Value.category]; done) | rfl) ?_
  intro p e s m below meth cc T0 vm0 X0 sf0_ hby hml hret hnm
  have hx := X0.hx
  have D : ∀ {n r}, decode jdk_38_method_7_code n = r → decode cc.code n = r := fun d => hb hby d
  have zz := X0.ge
  have A0 := X0.at
  have l1 := ltA Pr0.lt
  refine Gets.via (fun _ k => (XS.aloadN A0 hx rfl (D d23_0) rfl rfl (XS.aloadN A0 hx rfl (D d23_1) rfl rfl k))) ?_
  refine X0.getF (host := "") (Or.inl (w98 hw)) Via.refl Pr2 rfl rfl (D d23_2) fun T2 X2 => ?_
  have A3 := X2.at
  refine Gets.via (fun _ k => (XS.iconst A3 hx rfl (D d23_5) (iaddV A3 hx rfl (D d23_6) rfl (v := (1 : Int32)) (by decide) k))) ?_
  refine X2.callP (W := 0) (w158 hw) (w159 hw) (w161 hw) (w160 hw) (w162 hw) (by decide) (X2.payM (sf := []) (rmGrowI hcx x mc h0 X2.old Pr0 Pr1 Pr2 Pr3 Pr4) sf0 (w162 hw) (w39 hw) (by decide) (by decide)) Pr0 rfl (sz hml rfl) (argsL := [(.int (1 : Int32))]) (rest := []) (lenOf pd13 rfl) rfl rfl (mroom rfl rfl) (D d23_7) (by decide) (by decide) fun T4 h4 vm4 v4 X4 C4 z4 q4 => ?_
  obtain ⟨d4, kd4, rfl, K4, g4_0, g4_1, g4_2, g4_3, g4_4, g4_5, g4_6, g4_7, g4_8⟩ := q4
  have l5 := ltA g4_0.lt
  have l6 := ltA g4_4.lt
  show Gets p e below _ (T4.setTop (mkF m 10 #[vR x] [(.ref d4)]))
  exact X4.retA hret rfl rfl rfl (D d23_10) (by decide) (by decide) (fun vmE CE => ⟨d4, kd4, rfl, ((Keep.refl h0 [x]).trans K4 (allS (Or.inl (List.mem_of_getElem? (i := 0) rfl)) all0)), g4_0, g4_1, g4_2, g4_3, g4_4, g4_5, g4_6, g4_7, g4_8⟩)
abbrev RrmAddT0 : Room := { frames := 3, cells := 1, slots := 10, locals := 41 }
def QrmAddT0 (Z : State) (de : Addr) (el : Addr) (em : Addr) (x : Addr) (y : Addr) (mc : Int32) (h0 : Heap) (v : Option Value) (vm : Vm) (h : Heap) : Prop := ∃ (d : Addr) (kd : ClassId), v = none ∧ Keep h0 h [x] ∧ Exa Z h x "java/util/ArrayList" ∧ Fld Z h x "java/util/AbstractList" "modCount" "I" (.int mc) ∧ Fld Z h x "java/util/ArrayList" "size" "I" (.int (1 : Int32)) ∧ Fld Z h x "java/util/ArrayList" "elementData" "[Ljava/lang/Object;" (.ref d) ∧ Arv Z h d kd (.object "java/lang/Object") (10 : Int32) [(.ref y), .null, .null, .null, .null, .null, .null, .null, .null, .null] .null ∧ Exa Z h d "[Ljava/lang/Object;" ∧ Ovr Z kd "java/lang/Object" ∧ Z.heap.size ≤ d ∧ h0.size ≤ d
theorem rmAddT0 (hcx : Cx Z a0 zc de kde em el ee kee mr fm) (x : Addr) (y : Addr) (mc : Int32) (h0 : Heap) (O0 : Old Z Z.heap.size h0) (Pr0 : Exa Z h0 x "java/util/ArrayList") (Pr1 : Fld Z h0 x "java/util/AbstractList" "modCount" "I" (.int mc)) (Pr2 : Fld Z h0 x "java/util/ArrayList" "size" "I" (.int (0 : Int32))) (Pr3 : Fld Z h0 x "java/util/ArrayList" "elementData" "[Ljava/lang/Object;" (.ref de)) (Pr4 : Z.heap.size ≤ x) (Pr5 : Exa Z h0 y "java/lang/String") : Met l Z consts_1 (⟨"java/util/ArrayList", "add", "(Ljava/lang/Object;[Ljava/lang/Object;I)V"⟩ : MethodName) jdk_38_method_24_code 4 (none) [] RrmAddT0 [] #[(.ref x), (.ref y), (.ref de), (.int (0 : Int32))] h0 (QrmAddT0 Z de el em x y mc h0) := by
  have ⟨hw, hEL, O2, P5, OD, AD, XM, OM, OL, XL, FL, AE, MR, O4, P6⟩ := hcx
  refine Met.start (a0 := a0) (Ls := #[vR x, vR y, vR de, vI (0 : Int32)]) pn22 hEL O0 (fun m => by first | (simp [entryFrame, mkF, argsToLocals, Value.category]; done) | rfl) ?_
  intro p e s m below meth cc T0 vm0 X0 sf0_ hby hml hret hnm
  have hx := X0.hx
  have D : ∀ {n r}, decode jdk_38_method_24_code n = r → decode cc.code n = r := fun d => hb hby d
  have zz := X0.ge
  have A0 := X0.at
  have l1 := ltA Pr0.lt
  have l2 := ltA Pr5.lt
  refine Gets.via (fun _ k => (XS.iloadN A0 hx rfl (D d22_0) rfl (XS.aloadN A0 hx rfl (D d22_1) rfl rfl k))) ?_
  have f3 : Arv Z h0 de kde (.object "java/lang/Object") (0 : Int32) [] .null := AD.ext X0.old.2
  refine X0.alen f3 rfl rfl (D d22_2) ?_
  refine Gets.via (fun _ k => (XS.icmpNo A0 hx rfl (D d22_3) rfl (Jvm.Free.XT.ii_ne_f (by decide)) k)) ?_
  refine Gets.via (fun _ k => (XS.aloadN A0 hx rfl (D d22_6) rfl rfl k)) ?_
  refine X0.callP (W := 0) (w153 hw) (w154 hw) (w156 hw) (w155 hw) (w157 hw) (by decide) (X0.payM (sf := []) (rmGrow hcx x mc h0 X0.old Pr0 Pr1 Pr2 Pr3 Pr4) sf0 (w157 hw) (w39 hw) (by decide) (by decide)) Pr0 rfl (sz hml rfl) (argsL := []) (rest := []) (lenOf pd14 rfl) rfl rfl (mroom rfl rfl) (D d22_7) (by decide) (by decide) fun T4 h4 vm4 v4 X4 C4 z4 q4 => ?_
  obtain ⟨d4, kd4, rfl, K4, g4_0, g4_1, g4_2, g4_3, g4_4, g4_5, g4_6, g4_7, g4_8⟩ := q4
  have l5 := ltA g4_0.lt
  have l6 := ltA g4_4.lt
  show Gets p e below _ (T4.setTop (mkF m 10 #[vR x, vR y, vR de, vI (0 : Int32)] [(.ref d4)]))
  have A7 := X4.at
  refine Gets.via (fun _ k => (XS.astoreN A7 hx rfl (D d22_10) rfl rfl (l' := #[vR x, vR y, vR d4, vI (0 : Int32)]) rfl (XS.aloadN A7 hx rfl (D d22_11) rfl rfl (XS.iloadN A7 hx rfl (D d22_12) rfl (XS.aloadN A7 hx rfl (D d22_13) rfl rfl k))))) ?_
  have f9 := Pr5.keep K4
  refine X4.stR g4_4 (stoV g4_4 g4_6 (Ins.of_exa f9 (w169 hw))) rfl (i := 0) (by decide) (by decide) (Nat.le_of_ble_eq_true rfl) (by decide) (leA (by omega)) rfl rfl (D d22_14) fun T8 h8 X8 C8 K8 V8 => ?_
  have z8 := K8.1
  have V8_ : Arv Z h8 d4 kd4 (.object "java/lang/Object") (10 : Int32) [(.ref y), .null, .null, .null, .null, .null, .null, .null, .null, .null] .null := V8
  have A10 := X8.at
  refine Gets.via (fun _ k => (XS.aloadN A10 hx rfl (D d22_15) rfl rfl (XS.iloadN A10 hx rfl (D d22_16) rfl (XS.iconst A10 hx rfl (D d22_17) (iaddV A10 hx rfl (D d22_18) rfl (v := (1 : Int32)) (by decide) k))))) ?_
  have f12 := g4_2.keep K8 (ninS (neA (by omega)) nin0)
  have f13 := g4_0.keep K8
  refine X8.putF (host := "") (Or.inl (w98 hw)) Via.refl f12 f13 (Or.inl (w99 hw)) (w38 hw) (ty := .int) (by decide) rfl rfl (leA (by omega)) (Safe.exa X8.hZ.alike f13 (by decide) (by decide)) rfl rfl (D d22_19) fun T11 h11 X11 C11 W11 F11 Z11 => ?_
  have z11 := W11.size
  show Gets p e below _ (T11.setTop (mkF m 22 #[vR x, vR y, vR d4, vI (0 : Int32)] []))
  have f14 := g4_1.keep K8 (ninS (neA (by omega)) nin0)
  have f15 := f14.other W11 (Or.inr (slot_ne (t := .int) (t' := .int) (Or.inl (w57 hw)) (Or.inl (w99 hw)) (by decide) (by decide) (by decide)))
  have f16 := g4_3.keep K8 (ninS (neA (by omega)) nin0)
  have f17 := f16.other W11 (Or.inr (slot_ne (t := (.array (.object "java/lang/Object"))) (t' := .int) (Or.inl (w60 hw)) (Or.inl (w99 hw)) (by decide) (by decide) (by decide)))
  have f18 := V8_.other W11 (neA (by omega))
  have f19 := g4_5.keep K8
  have f20 := f19.wr W11
  exact X11.retV hret (D d22_22) (by decide) (by decide) (fun vmE CE => ⟨d4, kd4, rfl, ((((Keep.refl h0 [x]).trans K4 (allS (Or.inl (List.mem_of_getElem? (i := 0) rfl)) all0)).trans K8 (allS (Or.inr (leA (by omega))) all0)).wr W11 (Or.inl (List.mem_of_getElem? (i := 0) rfl))), Z11, f15, F11, f17, f18, f20, g4_6, g4_7, g4_8⟩)
abbrev RrmAdd0 : Room := { frames := 4, cells := 1, slots := 10, locals := 56 }
def QrmAdd0 (Z : State) (de : Addr) (el : Addr) (em : Addr) (x : Addr) (y : Addr) (mc : Int32) (h0 : Heap) (v : Option Value) (vm : Vm) (h : Heap) : Prop := ∃ (d : Addr) (kd : ClassId), v = some (.int (1 : Int32)) ∧ Keep h0 h [x] ∧ Exa Z h x "java/util/ArrayList" ∧ Fld Z h x "java/util/AbstractList" "modCount" "I" (.int (mc + (1 : Int32))) ∧ Fld Z h x "java/util/ArrayList" "size" "I" (.int (1 : Int32)) ∧ Fld Z h x "java/util/ArrayList" "elementData" "[Ljava/lang/Object;" (.ref d) ∧ Arv Z h d kd (.object "java/lang/Object") (10 : Int32) [(.ref y), .null, .null, .null, .null, .null, .null, .null, .null, .null] .null ∧ Exa Z h d "[Ljava/lang/Object;" ∧ Ovr Z kd "java/lang/Object" ∧ Z.heap.size ≤ d ∧ h0.size ≤ d
theorem rmAdd0 (hcx : Cx Z a0 zc de kde em el ee kee mr fm) (x : Addr) (y : Addr) (mc : Int32) (h0 : Heap) (O0 : Old Z Z.heap.size h0) (Pr0 : Exa Z h0 x "java/util/ArrayList") (Pr1 : Fld Z h0 x "java/util/AbstractList" "modCount" "I" (.int mc)) (Pr2 : Fld Z h0 x "java/util/ArrayList" "size" "I" (.int (0 : Int32))) (Pr3 : Fld Z h0 x "java/util/ArrayList" "elementData" "[Ljava/lang/Object;" (.ref de)) (Pr4 : Z.heap.size ≤ x) (Pr5 : Exa Z h0 y "java/lang/String") : Met l Z consts_1 (⟨"java/util/ArrayList", "add", "(Ljava/lang/Object;)Z"⟩ : MethodName) jdk_38_method_25_code 2 (some .boolean) [] RrmAdd0 [] #[(.ref x), (.ref y)] h0 (QrmAdd0 Z de el em x y mc h0) := by
  have ⟨hw, hEL, O2, P5, OD, AD, XM, OM, OL, XL, FL, AE, MR, O4, P6⟩ := hcx
  refine Met.start (a0 := a0) (Ls := #[vR x, vR y]) pn21 hEL O0 (fun m => by first | (simp [entryFrame, mkF, argsToLocals, Value.category]; done) | rfl) ?_
  intro p e s m below meth cc T0 vm0 X0 sf0_ hby hml hret hnm
  have hx := X0.hx
  have D : ∀ {n r}, decode jdk_38_method_25_code n = r → decode cc.code n = r := fun d => hb hby d
  have zz := X0.ge
  have A0 := X0.at
  have l1 := ltA Pr0.lt
  have l2 := ltA Pr5.lt
  refine Gets.via (fun _ k => (XS.aloadN A0 hx rfl (D d21_0) rfl rfl (XS.dup A0 hx rfl (D d21_1) rfl rfl k))) ?_
  refine X0.getF (host := "") (Or.inl (w146 hw)) (Via.of (w147 hw)) Pr1 rfl rfl (D d21_2) fun T3 X3 => ?_
  have A4 := X3.at
  refine Gets.via (fun _ k => (XS.iconst A4 hx rfl (D d21_5) (XS.iadd A4 hx rfl (D d21_6) rfl k))) ?_
  refine X3.putF (host := "") (Or.inl (w146 hw)) (Via.of (w147 hw)) Pr1 Pr0 (Or.inl (w57 hw)) (w38 hw) (ty := .int) (by decide) rfl rfl (leA (by omega)) (Safe.exa X3.hZ.alike Pr0 (by decide) (by decide)) rfl rfl (D d21_7) fun T5 h5 X5 C5 W5 F5 Z5 => ?_
  have z5 := W5.size
  show Gets p e below _ (T5.setTop (mkF m 10 #[vR x, vR y] []))
  have A6 := X5.at
  refine Gets.via (fun _ k => (XS.aloadN A6 hx rfl (D d21_10) rfl rfl (XS.aloadN A6 hx rfl (D d21_11) rfl rfl (XS.aloadN A6 hx rfl (D d21_12) rfl rfl k)))) ?_
  have f8 := Pr3.other W5 (Or.inr (slot_ne (t := (.array (.object "java/lang/Object"))) (t' := .int) (Or.inl (w60 hw)) (Or.inl (w57 hw)) (by decide) (by decide) (by decide)))
  refine X5.getF (host := "") (Or.inl (w59 hw)) Via.refl f8 rfl rfl (D d21_13) fun T7 X7 => ?_
  have A9 := X7.at
  refine Gets.via (fun _ k => (XS.aloadN A9 hx rfl (D d21_16) rfl rfl k)) ?_
  have f11 := Pr2.other W5 (Or.inr (slot_ne (t := .int) (t' := .int) (Or.inl (w99 hw)) (Or.inl (w57 hw)) (by decide) (by decide) (by decide)))
  refine X7.getF (host := "") (Or.inl (w98 hw)) Via.refl f11 rfl rfl (D d21_17) fun T10 X10 => ?_
  have f12 := Pr5.wr W5
  refine X10.callP (W := 0) (w148 hw) (w149 hw) (w151 hw) (w150 hw) (w152 hw) (by decide) (X10.payM (sf := []) (rmAddT0 hcx x y (mc + (1 : Int32)) h5 X10.old Z5 F5 f11 f8 Pr4 f12) sf0 (w152 hw) (w39 hw) (by decide) (by decide)) Z5 rfl (sz hml rfl) (argsL := [(.ref y), (.ref de), (.int (0 : Int32))]) (rest := []) (lenOf pd15 rfl) rfl rfl (mroom rfl rfl) (D d21_20) (by decide) (by decide) fun T13 h13 vm13 v13 X13 C13 z13 q13 => ?_
  obtain ⟨d13, kd13, rfl, K13, g13_0, g13_1, g13_2, g13_3, g13_4, g13_5, g13_6, g13_7, g13_8⟩ := q13
  have l14 := ltA g13_0.lt
  have l15 := ltA g13_4.lt
  show Gets p e below _ (T13.setTop (mkF m 23 #[vR x, vR y] []))
  have A16 := X13.at
  refine Gets.via (fun _ k => (XS.iconst A16 hx rfl (D d21_23) k)) ?_
  exact X13.retI hret (by decide) (by simp) (D d21_24) (by decide) (by decide) (fun vmE CE => ⟨d13, kd13, rfl, (((Keep.refl h0 [x]).wr W5 (Or.inl (List.mem_of_getElem? (i := 0) rfl))).trans K13 (allS (Or.inl (List.mem_of_getElem? (i := 0) rfl)) all0)), g13_0, g13_1, g13_2, g13_3, g13_4, g13_5, g13_6, g13_7, (leA (by omega))⟩)
abbrev RrmAlEmpty1 : Room := { frames := 0, cells := 0, slots := 0, locals := 0 }
def QrmAlEmpty1 (Z : State) (de : Addr) (el : Addr) (em : Addr) (x : Addr) (h0 : Heap) (v : Option Value) (vm : Vm) (h : Heap) : Prop := v = some (.int (0 : Int32)) ∧ h = h0
theorem rmAlEmpty1 (hcx : Cx Z a0 zc de kde em el ee kee mr fm) (x : Addr) (h0 : Heap) (O0 : Old Z Z.heap.size h0) (Pr0 : Fld Z h0 x "java/util/ArrayList" "size" "I" (.int (1 : Int32))) : Met l Z consts_1 (⟨"java/util/ArrayList", "isEmpty", "()Z"⟩ : MethodName) jdk_38_method_9_code 1 (some .boolean) [] RrmAlEmpty1 [] #[(.ref x)] h0 (QrmAlEmpty1 Z de el em x h0) := by
  have ⟨hw, hEL, O2, P5, OD, AD, XM, OM, OL, XL, FL, AE, MR, O4, P6⟩ := hcx
  refine Met.start (a0 := a0) (Ls := #[vR x]) pn14 hEL O0 (fun m => by first | (simp [entryFrame, mkF, argsToLocals, Value.category]; done) | rfl) ?_
  intro p e s m below meth cc T0 vm0 X0 sf0_ hby hml hret hnm
  have hx := X0.hx
  have D : ∀ {n r}, decode jdk_38_method_9_code n = r → decode cc.code n = r := fun d => hb hby d
  have zz := X0.ge
  have A0 := X0.at
  have l1 := ltA Pr0.lt
  refine Gets.via (fun _ k => (XS.aloadN A0 hx rfl (D d14_0) rfl rfl k)) ?_
  refine X0.getF (host := "") (Or.inl (w98 hw)) Via.refl Pr0 rfl rfl (D d14_1) fun T2 X2 => ?_
  have A3 := X2.at
  refine Gets.via (fun _ k => (XS.ifYes A3 hx rfl (pc0 := 4) (pc' := 11) rfl (D d14_4) rfl (Jvm.Free.XT.i0_ne_t (by decide)) (by decide) (by decide) k)) ?_
  refine Gets.via (fun _ k => (XS.iconst A3 hx rfl (D d14_11) k)) ?_
  exact X2.retI hret (by decide) (by simp) (D d14_12) (by decide) (by decide) (fun vmE CE => ⟨rfl, rfl⟩)
abbrev Rrmmin_10_1 : Room := { frames := 0, cells := 0, slots := 0, locals := 0 }
def Qrmmin_10_1 (Z : State) (de : Addr) (el : Addr) (em : Addr) (h0 : Heap) (v : Option Value) (vm : Vm) (h : Heap) : Prop := v = some (.int (1 : Int32)) ∧ h = h0
theorem rmmin_10_1 (hcx : Cx Z a0 zc de kde em el ee kee mr fm)  (h0 : Heap) (O0 : Old Z Z.heap.size h0)  : Met l Z consts_1 (⟨"java/lang/Math", "min", "(II)I"⟩ : MethodName) jdk_29_method_69_code 2 (some .int) [] Rrmmin_10_1 [] #[(.int (10 : Int32)), (.int (1 : Int32))] h0 (Qrmmin_10_1 Z de el em h0) := by
  have ⟨hw, hEL, O2, P5, OD, AD, XM, OM, OL, XL, FL, AE, MR, O4, P6⟩ := hcx
  refine Met.start (a0 := a0) (Ls := #[vI (10 : Int32), vI (1 : Int32)]) pn29 hEL O0 (fun m => by first | (simp [entryFrame, mkF, argsToLocals, Value.category]; done) | rfl) ?_
  intro p e s m below meth cc T0 vm0 X0 sf0_ hby hml hret hnm
  have hx := X0.hx
  have D : ∀ {n r}, decode jdk_29_method_69_code n = r → decode cc.code n = r := fun d => hb hby d
  have zz := X0.ge
  have A0 := X0.at
  refine Gets.via (fun _ k => (XS.iloadN A0 hx rfl (D d29_0) rfl (XS.iloadN A0 hx rfl (D d29_1) rfl (XS.icmpYes A0 hx rfl (pc0 := 2) (pc' := 9) rfl (D d29_2) rfl (Jvm.Free.XT.ii_gt_t (by decide)) (by decide) (by decide) k)))) ?_
  refine Gets.via (fun _ k => (XS.iloadN A0 hx rfl (D d29_9) rfl k)) ?_
  exact X0.retI hret rfl (by simp) (D d29_10) (by decide) (by decide) (fun vmE CE => ⟨rfl, rfl⟩)
abbrev RrmCoT1 : Room := { frames := 1, cells := 1, slots := 1, locals := 22 }
def QrmCoT1 (Z : State) (de : Addr) (el : Addr) (em : Addr) (d : Addr) (kd : ClassId) (e0 : Addr) (h0 : Heap) (v : Option Value) (vm : Vm) (h : Heap) : Prop := ∃ (r : Addr) (kr : ClassId), v = some (.ref r) ∧ Keep h0 h [] ∧ Arv Z h r kr (.object "java/lang/Object") (1 : Int32) [(.ref e0)] .null ∧ Exa Z h r "[Ljava/lang/Object;" ∧ Ovr Z kr "java/lang/Object" ∧ h0.size ≤ r
theorem rmCoT1 (hcx : Cx Z a0 zc de kde em el ee kee mr fm) (d : Addr) (kd : ClassId) (e0 : Addr) (h0 : Heap) (O0 : Old Z Z.heap.size h0) (Pr0 : Arv Z h0 d kd (.object "java/lang/Object") (10 : Int32) [(.ref e0), .null, .null, .null, .null, .null, .null, .null, .null, .null] .null) (Pr1 : Exa Z h0 d "[Ljava/lang/Object;") (Pr2 : Exa Z h0 e0 "java/lang/String") : Met l Z consts_1 (⟨"java/util/Arrays", "copyOf", "([Ljava/lang/Object;ILjava/lang/Class;)[Ljava/lang/Object;"⟩ : MethodName) jdk_65_method_120_code 4 (some (.array (.object "java/lang/Object"))) [] RrmCoT1 [] #[(.ref d), (.int (1 : Int32)), (.ref mr)] h0 (QrmCoT1 Z de el em d kd e0 h0) := by
  have ⟨hw, hEL, O2, P5, OD, AD, XM, OM, OL, XL, FL, AE, MR, O4, P6⟩ := hcx
  refine Met.start (a0 := a0) (Ls := #[vR d, vI (1 : Int32), vR mr, .unset]) pn28 hEL O0 (fun m => by first | (simp [entryFrame, mkF, argsToLocals, Value.category]; done) | rfl) ?_
  intro p e s m below meth cc T0 vm0 X0 sf0_ hby hml hret hnm
  have hx := X0.hx
  have D : ∀ {n r}, decode jdk_65_method_120_code n = r → decode cc.code n = r := fun d => hb hby d
  have zz := X0.ge
  have A0 := X0.at
  have l1 := ltA Pr0.lt
  have l2 := ltA Pr2.lt
  refine Gets.via (fun _ k => (XS.aloadN A0 hx rfl (D d28_0) rfl rfl k)) ?_
  refine X0.ldcM (w191 hw) MR rfl (D d28_1) fun T3 X3 => ?_
  refine X3.acmpW hx rfl rfl rfl (pc0 := 3) (pc' := 6) (same := true) rfl (D d28_3) rfl (by simp) (by decide) (by decide) ?_
  have A4 := X3.at
  refine Gets.via (fun _ k => (XS.iloadN A4 hx rfl (D d28_6) rfl k)) ?_
  refine X3.newR (ad := "[Ljava/lang/Object;") (w192 hw) (w168 hw) rfl (D d28_7) rfl (by decide) (cap := 1) (by decide) (by decide) (by decide) (by decide) (by decide) fun T5 h5 a5 k5 X5 C5 E5 g5 Z5 Ov5 V5 => ?_
  have z5 := E5.1
  have l5 := ltA V5.lt
  have V5_ : Arv Z h5 a5 k5 (.object "java/lang/Object") (1 : Int32) [.null] .null := padN V5 1
  show Gets p e below _ (T5.setTop (mkF m 10 #[vR d, vI (1 : Int32), vR mr, .unset] [(.ref a5)]))
  have A6 := X5.at
  refine Gets.via (fun _ k => (XS.goto A6 hx rfl (pc0 := 10) (pc' := 24) rfl (D d28_10) (by decide) (by decide) k)) ?_
  refine Gets.via (fun _ k => (XS.astoreN A6 hx rfl (D d28_24) rfl rfl (l' := #[vR d, vI (1 : Int32), vR mr, vR a5]) rfl (XS.aloadN A6 hx rfl (D d28_25) rfl rfl (XS.iconst A6 hx rfl (D d28_26) (XS.aloadN A6 hx rfl (D d28_27) rfl rfl (XS.iconst A6 hx rfl (D d28_28) (XS.aloadN A6 hx rfl (D d28_29) rfl rfl k))))))) ?_
  have f7 := Pr0.ext E5
  refine X5.alen f7 rfl rfl (D d28_30) ?_
  refine Gets.via (fun _ k => (XS.iloadN A6 hx rfl (D d28_31) rfl k)) ?_
  refine X5.callS (W := 4) (w193 hw) (w194 hw) (w165 hw) (w195 hw) (by decide) (X5.payM (sf := []) (rmmin_10_1 hcx  h5 X5.old ) sf0 (w195 hw) (w165 hw) (by decide) (by decide)) rfl (sz hml rfl) (argsL := [(.int (10 : Int32)), (.int (1 : Int32))]) (rest := [(.int (0 : Int32)), (.ref a5), (.int (0 : Int32)), (.ref d)]) (lenOf pd12 rfl) rfl rfl (mroom rfl rfl) (D d28_32) (by decide) (by decide) fun T8 h8 vm8 v8 X8 C8 z8 q8 => ?_
  obtain ⟨rfl, K8⟩ := q8
  rw [K8] at X8 C8
  show Gets p e below _ (T8.setTop (mkF m 35 #[vR d, vI (1 : Int32), vR mr, vR a5] [(.int (1 : Int32)), (.int (0 : Int32)), (.ref a5), (.int (0 : Int32)), (.ref d)]))
  have f10 := Pr2.ext E5
  refine X8.copy (w196 hw) (w199 hw) (w197 hw) (w198 hw) (us := [(.ref e0)]) f7 V5_ (Or.inr ⟨rfl, rfl, ⟨(stoV V5_ Ov5 (Ins.of_exa f10 (w169 hw))), trivial⟩⟩) (by decide) (by decide) (by decide) (by decide) (by decide) rfl (Nat.le_of_ble_eq_true rfl) (leA (by omega)) (Safe.exa X8.hZ.alike Z5 (by decide) (by decide)) rfl (sz hml rfl) rfl (D d28_35) (by decide) (W := 0) (mroom rfl rfl) (by decide) fun T9 h9 X9 C9 K9 V9 => ?_
  have z9 := K9.1
  have V9_ : Arv Z h9 a5 k5 (.object "java/lang/Object") (1 : Int32) [(.ref e0)] .null := V9
  have A11 := X9.at
  refine Gets.via (fun _ k => (XS.aloadN A11 hx rfl (D d28_38) rfl rfl k)) ?_
  have f12 := Z5.keep K9
  exact X9.retA hret rfl rfl rfl (D d28_39) (by decide) (by decide) (fun vmE CE => ⟨a5, k5, rfl, (((Keep.refl h0 []).ext E5).trans K9 (allS (Or.inr (leA (by omega))) all0)), V9_, f12, Ov5, (leA (by omega))⟩)
abbrev RrmCo1 : Room := { frames := 2, cells := 1, slots := 1, locals := 37 }
def QrmCo1 (Z : State) (de : Addr) (el : Addr) (em : Addr) (d : Addr) (kd : ClassId) (e0 : Addr) (h0 : Heap) (v : Option Value) (vm : Vm) (h : Heap) : Prop := ∃ (r : Addr) (kr : ClassId), v = some (.ref r) ∧ Keep h0 h [] ∧ Arv Z h r kr (.object "java/lang/Object") (1 : Int32) [(.ref e0)] .null ∧ Exa Z h r "[Ljava/lang/Object;" ∧ Ovr Z kr "java/lang/Object" ∧ h0.size ≤ r
theorem rmCo1 (hcx : Cx Z a0 zc de kde em el ee kee mr fm) (d : Addr) (kd : ClassId) (e0 : Addr) (h0 : Heap) (O0 : Old Z Z.heap.size h0) (Pr0 : Arv Z h0 d kd (.object "java/lang/Object") (10 : Int32) [(.ref e0), .null, .null, .null, .null, .null, .null, .null, .null, .null] .null) (Pr1 : Exa Z h0 d "[Ljava/lang/Object;") (Pr2 : Exa Z h0 e0 "java/lang/String") : Met l Z consts_1 (⟨"java/util/Arrays", "copyOf", "([Ljava/lang/Object;I)[Ljava/lang/Object;"⟩ : MethodName) jdk_65_method_119_code 2 (some (.array (.object "java/lang/Object"))) [] RrmCo1 [] #[(.ref d), (.int (1 : Int32))] h0 (QrmCo1 Z de el em d kd e0 h0) := by
  have ⟨hw, hEL, O2, P5, OD, AD, XM, OM, OL, XL, FL, AE, MR, O4, P6⟩ := hcx
  refine Met.start (a0 := a0) (Ls := #[vR d, vI (1 : Int32)]) pn27 hEL O0 (fun m => by first | (simp [entryFrame, mkF, argsToLocals, Value.category]; done) | rfl) ?_
  intro p e s m below meth cc T0 vm0 X0 sf0_ hby hml hret hnm
  have hx := X0.hx
  have D : ∀ {n r}, decode jdk_65_method_119_code n = r → decode cc.code n = r := fun d => hb hby d
  have zz := X0.ge
  have A0 := X0.at
  have l1 := ltA Pr0.lt
  have l2 := ltA Pr2.lt
  refine Gets.via (fun _ k => (XS.aloadN A0 hx rfl (D d27_0) rfl rfl (XS.iloadN A0 hx rfl (D d27_1) rfl (XS.aloadN A0 hx rfl (D d27_2) rfl rfl k)))) ?_
  refine X0.getC (w182 hw) (w183 hw) (w87 hw) (w185 hw) (w184 hw) (w186 hw) Pr1 MR rfl (sz hml rfl) rfl (D d27_3) (by decide) (W := 2) (mroom rfl rfl) (by decide) fun T3 X3 => ?_
  refine X3.callS (W := 0) (w188 hw) (w189 hw) (w180 hw) (w190 hw) (by decide) (X3.payM (sf := []) (rmCoT1 hcx d kd e0 h0 X3.old Pr0 Pr1 Pr2) sf0 (w190 hw) (w180 hw) (by decide) (by decide)) rfl (sz hml rfl) (argsL := [(.ref d), (.int (1 : Int32)), (.ref mr)]) (rest := []) (lenOf pd17 rfl) rfl rfl (mroom rfl rfl) (D d27_6) (by decide) (by decide) fun T4 h4 vm4 v4 X4 C4 z4 q4 => ?_
  obtain ⟨r4, kr4, rfl, K4, g4_0, g4_1, g4_2, g4_3⟩ := q4
  have l5 := ltA g4_0.lt
  show Gets p e below _ (T4.setTop (mkF m 9 #[vR d, vI (1 : Int32)] [(.ref r4)]))
  exact X4.retA hret rfl rfl rfl (D d27_9) (by decide) (by decide) (fun vmE CE => ⟨r4, kr4, rfl, ((Keep.refl h0 []).trans K4 all0), g4_0, g4_1, g4_2, g4_3⟩)
abbrev RrmToA1 : Room := { frames := 3, cells := 1, slots := 1, locals := 50 }
def QrmToA1 (Z : State) (de : Addr) (el : Addr) (em : Addr) (x : Addr) (d : Addr) (kd : ClassId) (e0 : Addr) (h0 : Heap) (v : Option Value) (vm : Vm) (h : Heap) : Prop := ∃ (r : Addr) (kr : ClassId), v = some (.ref r) ∧ Keep h0 h [] ∧ Arv Z h r kr (.object "java/lang/Object") (1 : Int32) [(.ref e0)] .null ∧ Exa Z h r "[Ljava/lang/Object;" ∧ Ovr Z kr "java/lang/Object" ∧ h0.size ≤ r
theorem rmToA1 (hcx : Cx Z a0 zc de kde em el ee kee mr fm) (x : Addr) (d : Addr) (kd : ClassId) (e0 : Addr) (h0 : Heap) (O0 : Old Z Z.heap.size h0) (Pr0 : Fld Z h0 x "java/util/ArrayList" "size" "I" (.int (1 : Int32))) (Pr1 : Fld Z h0 x "java/util/ArrayList" "elementData" "[Ljava/lang/Object;" (.ref d)) (Pr2 : Arv Z h0 d kd (.object "java/lang/Object") (10 : Int32) [(.ref e0), .null, .null, .null, .null, .null, .null, .null, .null, .null] .null) (Pr3 : Exa Z h0 d "[Ljava/lang/Object;") (Pr4 : Exa Z h0 e0 "java/lang/String") : Met l Z consts_1 (⟨"java/util/ArrayList", "toArray", "()[Ljava/lang/Object;"⟩ : MethodName) jdk_38_method_16_code 1 (some (.array (.object "java/lang/Object"))) [] RrmToA1 [] #[(.ref x)] h0 (QrmToA1 Z de el em x d kd e0 h0) := by
  have ⟨hw, hEL, O2, P5, OD, AD, XM, OM, OL, XL, FL, AE, MR, O4, P6⟩ := hcx
  refine Met.start (a0 := a0) (Ls := #[vR x]) pn26 hEL O0 (fun m => by first | (simp [entryFrame, mkF, argsToLocals, Value.category]; done) | rfl) ?_
  intro p e s m below meth cc T0 vm0 X0 sf0_ hby hml hret hnm
  have hx := X0.hx
  have D : ∀ {n r}, decode jdk_38_method_16_code n = r → decode cc.code n = r := fun d => hb hby d
  have zz := X0.ge
  have A0 := X0.at
  have l1 := ltA Pr0.lt
  have l2 := ltA Pr2.lt
  have l3 := ltA Pr4.lt
  refine Gets.via (fun _ k => (XS.aloadN A0 hx rfl (D d26_0) rfl rfl k)) ?_
  refine X0.getF (host := "") (Or.inl (w59 hw)) Via.refl Pr1 rfl rfl (D d26_1) fun T4 X4 => ?_
  have A5 := X4.at
  refine Gets.via (fun _ k => (XS.aloadN A5 hx rfl (D d26_4) rfl rfl k)) ?_
  refine X4.getF (host := "") (Or.inl (w98 hw)) Via.refl Pr0 rfl rfl (D d26_5) fun T6 X6 => ?_
  refine X6.callS (W := 0) (w178 hw) (w179 hw) (w180 hw) (w181 hw) (by decide) (X6.payM (sf := []) (rmCo1 hcx d kd e0 h0 X6.old Pr2 Pr3 Pr4) sf0 (w181 hw) (w180 hw) (by decide) (by decide)) rfl (sz hml rfl) (argsL := [(.ref d), (.int (1 : Int32))]) (rest := []) (lenOf pd18 rfl) rfl rfl (mroom rfl rfl) (D d26_8) (by decide) (by decide) fun T7 h7 vm7 v7 X7 C7 z7 q7 => ?_
  obtain ⟨r7, kr7, rfl, K7, g7_0, g7_1, g7_2, g7_3⟩ := q7
  have l8 := ltA g7_0.lt
  show Gets p e below _ (T7.setTop (mkF m 11 #[vR x] [(.ref r7)]))
  exact X7.retA hret rfl rfl rfl (D d26_11) (by decide) (by decide) (fun vmE CE => ⟨r7, kr7, rfl, ((Keep.refl h0 []).trans K7 all0), g7_0, g7_1, g7_2, g7_3⟩)
abbrev RrmOf1 : Room := { frames := 5, cells := 1, slots := 2, locals := 62 }
def QrmOf1 (Z : State) (de : Addr) (el : Addr) (em : Addr) (r : Addr) (kr : ClassId) (e0 : Addr) (h0 : Heap) (v : Option Value) (vm : Vm) (h : Heap) : Prop := ∃ (a : Addr), v = some (.ref a) ∧ Keep h0 h [] ∧ Exa Z h a "java/util/ImmutableCollections$List12" ∧ Fld Z h a "java/util/ImmutableCollections$List12" "e0" "Ljava/lang/Object;" (.ref e0) ∧ Fld Z h a "java/util/ImmutableCollections$List12" "e1" "Ljava/lang/Object;" (.ref em) ∧ h0.size ≤ a
theorem rmOf1 (hcx : Cx Z a0 zc de kde em el ee kee mr fm) (r : Addr) (kr : ClassId) (e0 : Addr) (h0 : Heap) (O0 : Old Z Z.heap.size h0) (Pr0 : Arv Z h0 r kr (.object "java/lang/Object") (1 : Int32) [(.ref e0)] .null) (Pr1 : Exa Z h0 e0 "java/lang/String") : Met l Z consts_1 (⟨"java/util/List", "of", "([Ljava/lang/Object;)Ljava/util/List;"⟩ : MethodName) jdk_40_method_47_code 2 (some (.object "java/util/List")) [] RrmOf1 [] #[(.ref r)] h0 (QrmOf1 Z de el em r kr e0 h0) := by
  have ⟨hw, hEL, O2, P5, OD, AD, XM, OM, OL, XL, FL, AE, MR, O4, P6⟩ := hcx
  refine Met.start (a0 := a0) (Ls := #[vR r, .unset]) pn30 hEL O0 (fun m => by first | (simp [entryFrame, mkF, argsToLocals, Value.category]; done) | rfl) ?_
  intro p e s m below meth cc T0 vm0 X0 sf0_ hby hml hret hnm
  have hx := X0.hx
  have D : ∀ {n r}, decode jdk_40_method_47_code n = r → decode cc.code n = r := fun d => hb hby d
  have zz := X0.ge
  have A0 := X0.at
  have l1 := ltA Pr0.lt
  have l2 := ltA Pr1.lt
  refine Gets.via (fun _ k => (XS.aloadN A0 hx rfl (D d30_0) rfl rfl k)) ?_
  refine X0.alen Pr0 rfl rfl (D d30_1) ?_
  refine Gets.via (fun _ k => (XS.tswIn A0 hx rfl (pc0 := 2) (pc' := 34) rfl (D d30_2) rfl (by decide) (o := 32) rfl (by decide) (by decide) k)) ?_
  refine X0.new (w254 hw) (w255 hw) (w256 hw) rfl (D d30_34) (by decide) (by decide) fun T3 h3 a3 X3 C3 E3 g3 Z3 S3 D3 => ?_
  have z3 := E3.1
  have l3 := ltA Z3.lt
  have A4 := X3.at
  refine Gets.via (fun _ k => (XS.dup A4 hx rfl (D d30_37) rfl rfl (XS.aloadN A4 hx rfl (D d30_38) rfl rfl (XS.iconst A4 hx rfl (D d30_39) k)))) ?_
  show Gets p e below _ (T3.setTop (mkF m 40 #[vR r, .unset] [(.int (0 : Int32)), (.ref r), (.ref a3), (.ref a3)]))
  have f5 := Pr0.ext E3
  refine X3.ldR f5 rfl (i := 0) (by decide) (by decide) (by decide) rfl rfl rfl (D d30_40) ?_
  refine X3.callI (y := (⟨"java/util/ImmutableCollections$List12", "<init>", "(Ljava/lang/Object;)V"⟩ : MethodName)) (W := 1) rfl (w298 hw) (w299 hw) (w300 hw) (by decide) (X3.payM (sf := []) (rm46 hcx a3 e0 h3 X3.old Z3 (D3 (Or.inr (w267 hw)) (ty := (.object "java/lang/Object")) (by decide) : Fld Z h3 a3 "java/util/ImmutableCollections$List12" "e0" "Ljava/lang/Object;" .null) (D3 (Or.inr (w269 hw)) (ty := (.object "java/lang/Object")) (by decide) : Fld Z h3 a3 "java/util/ImmutableCollections$List12" "e1" "Ljava/lang/Object;" .null) (leA (by omega))) sf0 (w300 hw) (w256 hw) (by decide) (by decide)) rfl (sz hml rfl) (a := a3) (argsL := [(.ref e0)]) (rest := [(.ref a3)]) (lenOf pd19 rfl) rfl rfl (mroom rfl rfl) (D d30_41) (by decide) (by decide) fun T6 h6 vm6 v6 X6 C6 z6 q6 => ?_
  obtain ⟨rfl, K6, g6_0, g6_1, g6_2⟩ := q6
  have l7 := ltA g6_0.lt
  exact X6.retA hret rfl rfl rfl (D d30_44) (by decide) (by decide) (fun vmE CE => ⟨a3, rfl, (((Keep.refl h0 []).ext E3).trans K6 (allS (Or.inr (leA (by omega))) all0)), g6_0, g6_1, g6_2, (leA (by omega))⟩)
abbrev RrmLc1 : Room := { frames := 6, cells := 2, slots := 3, locals := 75 }
def QrmLc1 (Z : State) (de : Addr) (el : Addr) (em : Addr) (x : Addr) (d : Addr) (kd : ClassId) (e0 : Addr) (h0 : Heap) (v : Option Value) (vm : Vm) (h : Heap) : Prop := ∃ (a : Addr), v = some (.ref a) ∧ Keep h0 h [] ∧ Exa Z h a "java/util/ImmutableCollections$List12" ∧ Fld Z h a "java/util/ImmutableCollections$List12" "e0" "Ljava/lang/Object;" (.ref e0) ∧ Fld Z h a "java/util/ImmutableCollections$List12" "e1" "Ljava/lang/Object;" (.ref em) ∧ h0.size ≤ a
theorem rmLc1 (hcx : Cx Z a0 zc de kde em el ee kee mr fm) (x : Addr) (d : Addr) (kd : ClassId) (e0 : Addr) (h0 : Heap) (O0 : Old Z Z.heap.size h0) (Pr0 : Exa Z h0 x "java/util/ArrayList") (Pr1 : Fld Z h0 x "java/util/ArrayList" "size" "I" (.int (1 : Int32))) (Pr2 : Fld Z h0 x "java/util/ArrayList" "elementData" "[Ljava/lang/Object;" (.ref d)) (Pr3 : Arv Z h0 d kd (.object "java/lang/Object") (10 : Int32) [(.ref e0), .null, .null, .null, .null, .null, .null, .null, .null, .null] .null) (Pr4 : Exa Z h0 d "[Ljava/lang/Object;") (Pr5 : Exa Z h0 e0 "java/lang/String") : Met l Z consts_1 (⟨"java/util/ImmutableCollections", "listCopy", "(Ljava/util/Collection;)Ljava/util/List;"⟩ : MethodName) jdk_56_method_3_code 2 (some (.object "java/util/List")) [] RrmLc1 [] #[(.ref x)] h0 (QrmLc1 Z de el em x d kd e0 h0) := by
  have ⟨hw, hEL, O2, P5, OD, AD, XM, OM, OL, XL, FL, AE, MR, O4, P6⟩ := hcx
  refine Met.start (a0 := a0) (Ls := #[vR x, .unset]) pn13 hEL O0 (fun m => by first | (simp [entryFrame, mkF, argsToLocals, Value.category]; done) | rfl) ?_
  intro p e s m below meth cc T0 vm0 X0 sf0_ hby hml hret hnm
  have hx := X0.hx
  have D : ∀ {n r}, decode jdk_56_method_3_code n = r → decode cc.code n = r := fun d => hb hby d
  have zz := X0.ge
  have A0 := X0.at
  have l1 := ltA Pr0.lt
  have l2 := ltA Pr3.lt
  have l3 := ltA Pr5.lt
  refine Gets.via (fun _ k => (XS.aloadN A0 hx rfl (D d13_0) rfl rfl k)) ?_
  refine X0.instNo (w83 hw) Pr0 (ns_no (w84 hw) (plainS (w270 hw) rfl) (NS.step (w84 hw) (NS.step (w85 hw) (NS.step (w86 hw) (ns_root (w87 hw) (plainS (w270 hw) rfl) (by decide)) (by decide)) (by decide)) (by decide)) (by decide)) rfl rfl (D d13_1) fun T4 X4 => ?_
  have A5 := X4.at
  refine Gets.via (fun _ k => (XS.ifNo A5 hx rfl (D d13_4) rfl (Jvm.Free.XT.i0_ne_f (by decide)) k)) ?_
  refine Gets.via (fun _ k => (XS.aloadN A5 hx rfl (D d13_7) rfl rfl k)) ?_
  refine X4.instNo (w88 hw) Pr0 (ns_no (w84 hw) (plainS (w122 hw) rfl) (NS.step (w84 hw) (NS.step (w85 hw) (NS.step (w86 hw) (ns_root (w87 hw) (plainS (w122 hw) rfl) (by decide)) (by decide)) (by decide)) (by decide)) (by decide)) rfl rfl (D d13_8) fun T6 X6 => ?_
  show Gets p e below _ (T6.setTop (mkF m 11 #[vR x, .unset] [(.int (0 : Int32))]))
  have A7 := X6.at
  refine Gets.via (fun _ k => (XS.ifYes A7 hx rfl (pc0 := 11) (pc' := 31) rfl (D d13_11) rfl (Jvm.Free.XT.i0_eq_t (by decide)) (by decide) (by decide) k)) ?_
  refine Gets.via (fun _ k => (XS.aloadN A7 hx rfl (D d13_31) rfl rfl k)) ?_
  refine X6.callF (W := 0) (w89 hw) (w90 hw) (w91 hw) rfl (w92 hw) (w93 hw) (w94 hw) (w95 hw) (w96 hw) (by decide) (X6.payM (sf := []) (rmAlEmpty1 hcx x h0 X6.old Pr1) sf0 (w97 hw) (w39 hw) (by decide) (by decide)) Pr0 rfl (sz hml rfl) (argsL := []) (rest := []) (lenOf pd5 rfl) rfl rfl (mroom rfl rfl) (D d13_32) (by decide) (by decide) fun T8 h8 vm8 v8 X8 C8 z8 q8 => ?_
  obtain ⟨rfl, K8⟩ := q8
  rw [K8] at X8 C8
  have A9 := X8.at
  refine Gets.via (fun _ k => (XS.ifYes A9 hx rfl (pc0 := 37) (pc' := 44) rfl (D d13_37) rfl (Jvm.Free.XT.i0_eq_t (by decide)) (by decide) (by decide) k)) ?_
  refine Gets.via (fun _ k => (XS.aloadN A9 hx rfl (D d13_44) rfl rfl k)) ?_
  refine X8.callF (W := 0) (w170 hw) (w171 hw) (w172 hw) rfl (w173 hw) (w174 hw) (w175 hw) (w176 hw) (w96 hw) (by decide) (X8.payM (sf := []) (rmToA1 hcx x d kd e0 h0 X8.old Pr1 Pr2 Pr3 Pr4 Pr5) sf0 (w177 hw) (w39 hw) (by decide) (by decide)) Pr0 rfl (sz hml rfl) (argsL := []) (rest := []) (lenOf pd14 rfl) rfl rfl (mroom rfl rfl) (D d13_45) (by decide) (by decide) fun T10 h10 vm10 v10 X10 C10 z10 q10 => ?_
  obtain ⟨r10, kr10, rfl, K10, g10_0, g10_1, g10_2, g10_3⟩ := q10
  have l11 := ltA g10_0.lt
  have f12 := Pr5.keep K10
  refine X10.callS (W := 0) (w200 hw) (w201 hw) (w77 hw) (w202 hw) (by decide) (X10.payM (sf := []) (rmOf1 hcx r10 kr10 e0 h10 X10.old g10_0 f12) sf0 (w202 hw) (w77 hw) (by decide) (by decide)) rfl (sz hml rfl) (argsL := [(.ref r10)]) (rest := []) (lenOf pd20 rfl) rfl rfl (mroom rfl rfl) (D d13_50) (by decide) (by decide) fun T13 h13 vm13 v13 X13 C13 z13 q13 => ?_
  obtain ⟨a13, rfl, K13, g13_0, g13_1, g13_2, g13_3⟩ := q13
  have l14 := ltA g13_0.lt
  show Gets p e below _ (T13.setTop (mkF m 53 #[vR x, .unset] [(.ref a13)]))
  exact X13.retA hret rfl rfl rfl (D d13_53) (by decide) (by decide) (fun vmE CE => ⟨a13, rfl, (((Keep.refl h0 []).trans K10 all0).trans K13 all0), g13_0, g13_1, g13_2, (leA (by omega))⟩)
abbrev RrmCoL1 : Room := { frames := 7, cells := 2, slots := 3, locals := 88 }
def QrmCoL1 (Z : State) (de : Addr) (el : Addr) (em : Addr) (x : Addr) (d : Addr) (kd : ClassId) (e0 : Addr) (h0 : Heap) (v : Option Value) (vm : Vm) (h : Heap) : Prop := ∃ (a : Addr), v = some (.ref a) ∧ Keep h0 h [] ∧ Exa Z h a "java/util/ImmutableCollections$List12" ∧ Fld Z h a "java/util/ImmutableCollections$List12" "e0" "Ljava/lang/Object;" (.ref e0) ∧ Fld Z h a "java/util/ImmutableCollections$List12" "e1" "Ljava/lang/Object;" (.ref em) ∧ h0.size ≤ a
theorem rmCoL1 (hcx : Cx Z a0 zc de kde em el ee kee mr fm) (x : Addr) (d : Addr) (kd : ClassId) (e0 : Addr) (h0 : Heap) (O0 : Old Z Z.heap.size h0) (Pr0 : Exa Z h0 x "java/util/ArrayList") (Pr1 : Fld Z h0 x "java/util/ArrayList" "size" "I" (.int (1 : Int32))) (Pr2 : Fld Z h0 x "java/util/ArrayList" "elementData" "[Ljava/lang/Object;" (.ref d)) (Pr3 : Arv Z h0 d kd (.object "java/lang/Object") (10 : Int32) [(.ref e0), .null, .null, .null, .null, .null, .null, .null, .null, .null] .null) (Pr4 : Exa Z h0 d "[Ljava/lang/Object;") (Pr5 : Exa Z h0 e0 "java/lang/String") : Met l Z consts_1 (⟨"java/util/List", "copyOf", "(Ljava/util/Collection;)Ljava/util/List;"⟩ : MethodName) jdk_40_method_48_code 1 (some (.object "java/util/List")) [] RrmCoL1 [] #[(.ref x)] h0 (QrmCoL1 Z de el em x d kd e0 h0) := by
  have ⟨hw, hEL, O2, P5, OD, AD, XM, OM, OL, XL, FL, AE, MR, O4, P6⟩ := hcx
  refine Met.start (a0 := a0) (Ls := #[vR x]) pn12 hEL O0 (fun m => by first | (simp [entryFrame, mkF, argsToLocals, Value.category]; done) | rfl) ?_
  intro p e s m below meth cc T0 vm0 X0 sf0_ hby hml hret hnm
  have hx := X0.hx
  have D : ∀ {n r}, decode jdk_40_method_48_code n = r → decode cc.code n = r := fun d => hb hby d
  have zz := X0.ge
  have A0 := X0.at
  have l1 := ltA Pr0.lt
  have l2 := ltA Pr3.lt
  have l3 := ltA Pr5.lt
  refine Gets.via (fun _ k => (XS.aloadN A0 hx rfl (D d12_0) rfl rfl k)) ?_
  refine X0.callS (W := 0) (w79 hw) (w80 hw) (w81 hw) (w82 hw) (by decide) (X0.payM (sf := []) (rmLc1 hcx x d kd e0 h0 X0.old Pr0 Pr1 Pr2 Pr3 Pr4 Pr5) sf0 (w82 hw) (w81 hw) (by decide) (by decide)) rfl (sz hml rfl) (argsL := [(.ref x)]) (rest := []) (lenOf pd7 rfl) rfl rfl (mroom rfl rfl) (D d12_1) (by decide) (by decide) fun T4 h4 vm4 v4 X4 C4 z4 q4 => ?_
  obtain ⟨a4, rfl, K4, g4_0, g4_1, g4_2, g4_3⟩ := q4
  have l5 := ltA g4_0.lt
  exact X4.retA hret rfl rfl rfl (D d12_4) (by decide) (by decide) (fun vmE CE => ⟨a4, rfl, ((Keep.refl h0 []).trans K4 all0), g4_0, g4_1, g4_2, g4_3⟩)
abbrev RrmNode1 : Room := { frames := 8, cells := 2, slots := 3, locals := 100 }
def QrmNode1 (Z : State) (de : Addr) (el : Addr) (em : Addr) (x : Addr) (u : Addr) (z : Addr) (v1 : Addr) (d : Addr) (kd : ClassId) (e0 : Addr) (h0 : Heap) (v : Option Value) (vm : Vm) (h : Heap) : Prop := ∃ (L : Addr), v = none ∧ Keep h0 h [x] ∧ Exa Z h x "com/example/packwright/packwright/model/Node" ∧ Fld Z h x "com/example/packwright/packwright/model/Node" "subscripts" "Ljava/util/List;" (.ref L) ∧ Exa Z h L "java/util/ImmutableCollections$List12" ∧ Fld Z h L "java/util/ImmutableCollections$List12" "e0" "Ljava/lang/Object;" (.ref e0) ∧ Fld Z h L "java/util/ImmutableCollections$List12" "e1" "Ljava/lang/Object;" (.ref em)
theorem rmNode1 (hcx : Cx Z a0 zc de kde em el ee kee mr fm) (x : Addr) (u : Addr) (z : Addr) (v1 : Addr) (d : Addr) (kd : ClassId) (e0 : Addr) (h0 : Heap) (O0 : Old Z Z.heap.size h0) (Pr0 : Exa Z h0 x "com/example/packwright/packwright/model/Node") (Pr1 : Fld Z h0 x "com/example/packwright/packwright/model/Node" "subscriptLine" "Ljava/lang/String;" .null) (Pr2 : Fld Z h0 x "com/example/packwright/packwright/model/Node" "subscripts" "Ljava/util/List;" .null) (Pr3 : Fld Z h0 x "com/example/packwright/packwright/model/Node" "value" "Ljava/lang/String;" .null) (Pr4 : Z.heap.size ≤ x) (Pr5 : Exa Z h0 z "java/util/ArrayList") (Pr6 : Fld Z h0 z "java/util/ArrayList" "size" "I" (.int (1 : Int32))) (Pr7 : Fld Z h0 z "java/util/ArrayList" "elementData" "[Ljava/lang/Object;" (.ref d)) (Pr8 : Arv Z h0 d kd (.object "java/lang/Object") (10 : Int32) [(.ref e0), .null, .null, .null, .null, .null, .null, .null, .null, .null] .null) (Pr9 : Exa Z h0 d "[Ljava/lang/Object;") (Pr10 : Exa Z h0 e0 "java/lang/String") : Met l Z consts_1 (⟨"com/example/packwright/packwright/model/Node", "<init>", "(Ljava/lang/String;Ljava/util/List;Ljava/lang/String;)V"⟩ : MethodName) prog_37_method_1_code 4 (none) [] RrmNode1 [] #[(.ref x), (.ref u), (.ref z), (.ref v1)] h0 (QrmNode1 Z de el em x u z v1 d kd e0 h0) := by
  have ⟨hw, hEL, O2, P5, OD, AD, XM, OM, OL, XL, FL, AE, MR, O4, P6⟩ := hcx
  refine Met.start (a0 := a0) (Ls := #[vR x, vR u, vR z, vR v1]) pn10 hEL O0 (fun m => by first | (simp [entryFrame, mkF, argsToLocals, Value.category]; done) | rfl) ?_
  intro p e s m below meth cc T0 vm0 X0 sf0_ hby hml hret hnm
  have hx := X0.hx
  have D : ∀ {n r}, decode prog_37_method_1_code n = r → decode cc.code n = r := fun d => hb hby d
  have zz := X0.ge
  have A0 := X0.at
  have l1 := ltA Pr0.lt
  have l2 := ltA Pr5.lt
  have l3 := ltA Pr8.lt
  have l4 := ltA Pr10.lt
  refine Gets.via (fun _ k => (XS.aloadN A0 hx rfl (D d10_0) rfl rfl k)) ?_
  refine X0.callI (y := (⟨"java/lang/Record", "<init>", "()V"⟩ : MethodName)) (W := 0) rfl (w69 hw) (w70 hw) (w73 hw) (by decide) (X0.payM (sf := []) (rm11 hcx x h0 X0.old ) sf0 (w73 hw) (w72 hw) (by decide) (by decide)) rfl (sz hml rfl) (a := x) (argsL := []) (rest := []) (lenOf pd2 rfl) rfl rfl (mroom rfl rfl) (D d10_1) (by decide) (by decide) fun T5 h5 vm5 v5 X5 C5 z5 q5 => ?_
  obtain ⟨rfl, K5⟩ := q5
  rw [K5] at X5 C5
  have A6 := X5.at
  refine Gets.via (fun _ k => (XS.aloadN A6 hx rfl (D d10_4) rfl rfl k)) ?_
  refine X5.callS (W := 0) (w75 hw) (w76 hw) (w77 hw) (w78 hw) (by decide) (X5.payM (sf := []) (rmCoL1 hcx z d kd e0 h0 X5.old Pr5 Pr6 Pr7 Pr8 Pr9 Pr10) sf0 (w78 hw) (w77 hw) (by decide) (by decide)) rfl (sz hml rfl) (argsL := [(.ref z)]) (rest := []) (lenOf pd7 rfl) rfl rfl (mroom rfl rfl) (D d10_5) (by decide) (by decide) fun T7 h7 vm7 v7 X7 C7 z7 q7 => ?_
  obtain ⟨a7, rfl, K7, g7_0, g7_1, g7_2, g7_3⟩ := q7
  have l8 := ltA g7_0.lt
  have A9 := X7.at
  refine Gets.via (fun _ k => (XS.astoreN A9 hx rfl (D d10_8) rfl rfl (l' := #[vR x, vR u, vR a7, vR v1]) rfl (XS.aloadN A9 hx rfl (D d10_9) rfl rfl (XS.aloadN A9 hx rfl (D d10_10) rfl rfl k)))) ?_
  show Gets p e below _ (T7.setTop (mkF m 11 #[vR x, vR u, vR a7, vR v1] [(.ref u), (.ref x)]))
  have f11 := Pr1.keep K7 nin0
  have f12 := Pr0.keep K7
  refine X7.putF (host := "") (Or.inl (w104 hw)) Via.refl f11 f12 (Or.inr ⟨(w105 hw), rfl, hnm⟩) (w62 hw) (ty := (.object "java/lang/String")) (by decide) rfl rfl (leA (by omega)) (Safe.exa X7.hZ.alike f12 (by decide) (by decide)) rfl rfl (D d10_11) fun T10 h10 X10 C10 W10 F10 Z10 => ?_
  have z10 := W10.size
  have A13 := X10.at
  refine Gets.via (fun _ k => (XS.aloadN A13 hx rfl (D d10_14) rfl rfl (XS.aloadN A13 hx rfl (D d10_15) rfl rfl k))) ?_
  have f15 := Pr2.keep K7 nin0
  have f16 := f15.other W10 (Or.inr (slot_ne (t := (.object "java/util/List")) (t' := (.object "java/lang/String")) (Or.inr (w107 hw)) (Or.inr (w105 hw)) (by decide) (by decide) (by decide)))
  refine X10.putF (host := "") (Or.inl (w106 hw)) Via.refl f16 Z10 (Or.inr ⟨(w107 hw), rfl, hnm⟩) (w62 hw) (ty := (.object "java/util/List")) (by decide) rfl rfl (leA (by omega)) (Safe.exa X10.hZ.alike Z10 (by decide) (by decide)) rfl rfl (D d10_16) fun T14 h14 X14 C14 W14 F14 Z14 => ?_
  have z14 := W14.size
  have A17 := X14.at
  refine Gets.via (fun _ k => (XS.aloadN A17 hx rfl (D d10_19) rfl rfl (XS.aloadN A17 hx rfl (D d10_20) rfl rfl k))) ?_
  have f19 := Pr3.keep K7 nin0
  have f20 := f19.other W10 (Or.inr (slot_ne (t := (.object "java/lang/String")) (t' := (.object "java/lang/String")) (Or.inr (w109 hw)) (Or.inr (w105 hw)) (by decide) (by decide) (by decide)))
  have f21 := f20.other W14 (Or.inr (slot_ne (t := (.object "java/lang/String")) (t' := (.object "java/util/List")) (Or.inr (w109 hw)) (Or.inr (w107 hw)) (by decide) (by decide) (by decide)))
  refine X14.putF (host := "") (Or.inl (w108 hw)) Via.refl f21 Z14 (Or.inr ⟨(w109 hw), rfl, hnm⟩) (w62 hw) (ty := (.object "java/lang/String")) (by decide) rfl rfl (leA (by omega)) (Safe.exa X14.hZ.alike Z14 (by decide) (by decide)) rfl rfl (D d10_21) fun T18 h18 X18 C18 W18 F18 Z18 => ?_
  have z18 := W18.size
  show Gets p e below _ (T18.setTop (mkF m 24 #[vR x, vR u, vR a7, vR v1] []))
  have f22 := F14.other W18 (Or.inr (slot_ne (t := (.object "java/util/List")) (t' := (.object "java/lang/String")) (Or.inr (w107 hw)) (Or.inr (w109 hw)) (by decide) (by decide) (by decide)))
  have f23 := g7_0.wr W10
  have f24 := f23.wr W14
  have f25 := f24.wr W18
  have f26 := g7_1.other W10 (Or.inl (neA (by omega)))
  have f27 := f26.other W14 (Or.inl (neA (by omega)))
  have f28 := f27.other W18 (Or.inl (neA (by omega)))
  have f29 := g7_2.other W10 (Or.inl (neA (by omega)))
  have f30 := f29.other W14 (Or.inl (neA (by omega)))
  have f31 := f30.other W18 (Or.inl (neA (by omega)))
  exact X18.retV hret (D d10_24) (by decide) (by decide) (fun vmE CE => ⟨a7, rfl, (((((Keep.refl h0 [x]).trans K7 all0).wr W10 (Or.inl (List.mem_of_getElem? (i := 0) rfl))).wr W14 (Or.inl (List.mem_of_getElem? (i := 0) rfl))).wr W18 (Or.inl (List.mem_of_getElem? (i := 0) rfl))), Z18, f22, f25, f28, f31⟩)
abbrev RrmL12s1 : Room := { frames := 0, cells := 0, slots := 0, locals := 0 }
def QrmL12s1 (Z : State) (de : Addr) (el : Addr) (em : Addr) (x : Addr) (h0 : Heap) (v : Option Value) (vm : Vm) (h : Heap) : Prop := v = some (.int (1 : Int32)) ∧ h = h0
theorem rmL12s1 (hcx : Cx Z a0 zc de kde em el ee kee mr fm) (x : Addr) (h0 : Heap) (O0 : Old Z Z.heap.size h0) (Pr0 : Fld Z h0 x "java/util/ImmutableCollections$List12" "e1" "Ljava/lang/Object;" (.ref em)) : Met l Z consts_1 (⟨"java/util/ImmutableCollections$List12", "size", "()I"⟩ : MethodName) jdk_44_method_3_code 1 (some .int) [] RrmL12s1 [] #[(.ref x)] h0 (QrmL12s1 Z de el em x h0) := by
  have ⟨hw, hEL, O2, P5, OD, AD, XM, OM, OL, XL, FL, AE, MR, O4, P6⟩ := hcx
  refine Met.start (a0 := a0) (Ls := #[vR x]) pn42 hEL O0 (fun m => by first | (simp [entryFrame, mkF, argsToLocals, Value.category]; done) | rfl) ?_
  intro p e s m below meth cc T0 vm0 X0 sf0_ hby hml hret hnm
  have hx := X0.hx
  have D : ∀ {n r}, decode jdk_44_method_3_code n = r → decode cc.code n = r := fun d => hb hby d
  have zz := X0.ge
  have A0 := X0.at
  have l1 := ltA Pr0.lt
  refine Gets.via (fun _ k => (XS.aloadN A0 hx rfl (D d42_0) rfl rfl k)) ?_
  refine X0.getF (host := "") (Or.inl (w268 hw)) Via.refl Pr0 rfl rfl (D d42_1) fun T2 X2 => ?_
  refine X2.getS (host := "java/util/ImmutableCollections") (Or.inr (w276 hw)) Via.refl (X2.sta OM) rfl (D d42_4) fun T3 X3 => ?_
  refine X3.acmpW hx rfl rfl rfl (pc0 := 7) (pc' := 14) (same := true) rfl (D d42_7) rfl (by simp) (by decide) (by decide) ?_
  show Gets p e below _ (T3.setTop (mkF m 14 #[vR x] []))
  have A4 := X3.at
  refine Gets.via (fun _ k => (XS.iconst A4 hx rfl (D d42_14) k)) ?_
  exact X3.retI hret rfl (by simp) (D d42_15) (by decide) (by decide) (fun vmE CE => ⟨rfl, rfl⟩)
abbrev RrmRoh1 : Room := { frames := 1, cells := 0, slots := 0, locals := 12 }
def QrmRoh1 (Z : State) (de : Addr) (el : Addr) (em : Addr) (x : Addr) (L : Addr) (e0 : Addr) (h0 : Heap) (v : Option Value) (vm : Vm) (h : Heap) : Prop := v = some .null ∧ h = h0
theorem rmRoh1 (hcx : Cx Z a0 zc de kde em el ee kee mr fm) (x : Addr) (L : Addr) (e0 : Addr) (h0 : Heap) (O0 : Old Z Z.heap.size h0) (Pr0 : Exa Z h0 x "com/example/packwright/packwright/model/Node") (Pr1 : Fld Z h0 x "com/example/packwright/packwright/model/Node" "subscripts" "Ljava/util/List;" (.ref L)) (Pr2 : Exa Z h0 L "java/util/ImmutableCollections$List12") (Pr3 : Fld Z h0 L "java/util/ImmutableCollections$List12" "e0" "Ljava/lang/Object;" (.ref e0)) (Pr4 : Fld Z h0 L "java/util/ImmutableCollections$List12" "e1" "Ljava/lang/Object;" (.ref em)) : Met l Z consts_1 (⟨"com/example/packwright/packwright/io/BuildAssembler", "routineOfHeader", "(Lcom/example/packwright/packwright/model/Node;)Ljava/lang/String;"⟩ : MethodName) prog_4_method_11_code 2 (some (.object "java/lang/String")) [] RrmRoh1 [] #[(.ref x)] h0 (QrmRoh1 Z de el em x L e0 h0) := by
  have ⟨hw, hEL, O2, P5, OD, AD, XM, OM, OL, XL, FL, AE, MR, O4, P6⟩ := hcx
  refine Met.start (a0 := a0) (Ls := #[vR x, .unset]) pn16 hEL O0 (fun m => by first | (simp [entryFrame, mkF, argsToLocals, Value.category]; done) | rfl) ?_
  intro p e s m below meth cc T0 vm0 X0 sf0_ hby hml hret hnm
  have hx := X0.hx
  have D : ∀ {n r}, decode prog_4_method_11_code n = r → decode cc.code n = r := fun d => hb hby d
  have zz := X0.ge
  have A0 := X0.at
  have l1 := ltA Pr0.lt
  have l2 := ltA Pr2.lt
  refine Gets.via (fun _ k => (XS.aloadN A0 hx rfl (D d16_0) rfl rfl k)) ?_
  refine X0.callV (W := 0) (w114 hw) (w115 hw) (w117 hw) (w116 hw) (nfs rfl (w117 hw)) (by decide) (X0.payM (sf := []) (rmSubs hcx x L h0 X0.old Pr1) sf0 (w118 hw) (w63 hw) (by decide) (by decide)) Pr0 rfl (sz hml rfl) (argsL := []) (rest := []) (lenOf pd6 rfl) rfl rfl (mroom rfl rfl) (D d16_1) (by decide) (by decide) fun T3 h3 vm3 v3 X3 C3 z3 q3 => ?_
  obtain ⟨rfl, K3⟩ := q3
  rw [K3] at X3 C3
  have A4 := X3.at
  refine Gets.via (fun _ k => (XS.astoreN A4 hx rfl (D d16_4) rfl rfl (l' := #[vR x, vR L]) rfl (XS.aloadN A4 hx rfl (D d16_5) rfl rfl k))) ?_
  refine X3.callF (W := 0) (w119 hw) (w120 hw) (w121 hw) rfl (w270 hw) (w271 hw) (w272 hw) (w273 hw) (w274 hw) (by decide) (X3.payM (sf := []) (rmL12s1 hcx L h0 X3.old Pr4) sf0 (w275 hw) (w256 hw) (by decide) (by decide)) Pr2 rfl (sz hml rfl) (argsL := []) (rest := []) (lenOf pd9 rfl) rfl rfl (mroom rfl rfl) (D d16_6) (by decide) (by decide) fun T5 h5 vm5 v5 X5 C5 z5 q5 => ?_
  obtain ⟨rfl, K5⟩ := q5
  rw [K5] at X5 C5
  show Gets p e below _ (T5.setTop (mkF m 11 #[vR x, vR L] [(.int (1 : Int32))]))
  have A6 := X5.at
  refine Gets.via (fun _ k => (XS.iconst A6 hx rfl (D d16_11) (XS.icmpYes A6 hx rfl (pc0 := 12) (pc' := 46) rfl (D d16_12) rfl (Jvm.Free.XT.ii_ne_t (by decide)) (by decide) (by decide) k))) ?_
  refine Gets.via (fun _ k => (XS.aconstNull A6 hx rfl (D d16_46) k)) ?_
  exact X5.retA hret rfl rfl rfl (D d16_47) (by decide) (by decide) (fun vmE CE => ⟨rfl, rfl⟩)
abbrev RrmAddT1 : Room := { frames := 0, cells := 0, slots := 0, locals := 0 }
def QrmAddT1 (Z : State) (de : Addr) (el : Addr) (em : Addr) (x : Addr) (y : Addr) (mc : Int32) (d : Addr) (kd : ClassId) (e0 : Addr) (h0 : Heap) (v : Option Value) (vm : Vm) (h : Heap) : Prop := v = none ∧ Keep h0 h [x, d] ∧ Exa Z h x "java/util/ArrayList" ∧ Fld Z h x "java/util/AbstractList" "modCount" "I" (.int mc) ∧ Fld Z h x "java/util/ArrayList" "size" "I" (.int (2 : Int32)) ∧ Fld Z h x "java/util/ArrayList" "elementData" "[Ljava/lang/Object;" (.ref d) ∧ Arv Z h d kd (.object "java/lang/Object") (10 : Int32) [(.ref e0), (.ref y), .null, .null, .null, .null, .null, .null, .null, .null] .null ∧ Exa Z h d "[Ljava/lang/Object;"
theorem rmAddT1 (hcx : Cx Z a0 zc de kde em el ee kee mr fm) (x : Addr) (y : Addr) (mc : Int32) (d : Addr) (kd : ClassId) (e0 : Addr) (h0 : Heap) (O0 : Old Z Z.heap.size h0) (Pr0 : Exa Z h0 x "java/util/ArrayList") (Pr1 : Fld Z h0 x "java/util/AbstractList" "modCount" "I" (.int mc)) (Pr2 : Fld Z h0 x "java/util/ArrayList" "size" "I" (.int (1 : Int32))) (Pr3 : Fld Z h0 x "java/util/ArrayList" "elementData" "[Ljava/lang/Object;" (.ref d)) (Pr4 : Arv Z h0 d kd (.object "java/lang/Object") (10 : Int32) [(.ref e0), .null, .null, .null, .null, .null, .null, .null, .null, .null] .null) (Pr5 : Exa Z h0 d "[Ljava/lang/Object;") (Pr6 : Ovr Z kd "java/lang/Object") (Pr7 : Z.heap.size ≤ d) (Pr8 : x ≠ d) (Pr9 : Z.heap.size ≤ x) (Pr10 : Exa Z h0 y "java/lang/String") : Met l Z consts_1 (⟨"java/util/ArrayList", "add", "(Ljava/lang/Object;[Ljava/lang/Object;I)V"⟩ : MethodName) jdk_38_method_24_code 4 (none) [] RrmAddT1 [] #[(.ref x), (.ref y), (.ref d), (.int (1 : Int32))] h0 (QrmAddT1 Z de el em x y mc d kd e0 h0) := by
  have ⟨hw, hEL, O2, P5, OD, AD, XM, OM, OL, XL, FL, AE, MR, O4, P6⟩ := hcx
  refine Met.start (a0 := a0) (Ls := #[vR x, vR y, vR d, vI (1 : Int32)]) pn22 hEL O0 (fun m => by first | (simp [entryFrame, mkF, argsToLocals, Value.category]; done) | rfl) ?_
  intro p e s m below meth cc T0 vm0 X0 sf0_ hby hml hret hnm
  have hx := X0.hx
  have D : ∀ {n r}, decode jdk_38_method_24_code n = r → decode cc.code n = r := fun d => hb hby d
  have zz := X0.ge
  have A0 := X0.at
  have l1 := ltA Pr0.lt
  have l2 := ltA Pr4.lt
  have l3 := neA Pr8
  have l4 := ltA Pr10.lt
  refine Gets.via (fun _ k => (XS.iloadN A0 hx rfl (D d22_0) rfl (XS.aloadN A0 hx rfl (D d22_1) rfl rfl k))) ?_
  refine X0.alen Pr4 rfl rfl (D d22_2) ?_
  refine Gets.via (fun _ k => (XS.icmpYes A0 hx rfl (pc0 := 3) (pc' := 11) rfl (D d22_3) rfl (Jvm.Free.XT.ii_ne_t (by decide)) (by decide) (by decide) k)) ?_
  refine Gets.via (fun _ k => (XS.aloadN A0 hx rfl (D d22_11) rfl rfl (XS.iloadN A0 hx rfl (D d22_12) rfl (XS.aloadN A0 hx rfl (D d22_13) rfl rfl k)))) ?_
  show Gets p e below _ (T0.setTop (mkF m 14 #[vR x, vR y, vR d, vI (1 : Int32)] [(.ref y), (.int (1 : Int32)), (.ref d)]))
  refine X0.stR Pr4 (stoV Pr4 Pr6 (Ins.of_exa Pr10 (w169 hw))) rfl (i := 1) (by decide) (by decide) (Nat.le_of_ble_eq_true rfl) (by decide) (leA (by omega)) rfl rfl (D d22_14) fun T5 h5 X5 C5 K5 V5 => ?_
  have z5 := K5.1
  have V5_ : Arv Z h5 d kd (.object "java/lang/Object") (10 : Int32) [(.ref e0), (.ref y), .null, .null, .null, .null, .null, .null, .null, .null] .null := V5
  have A6 := X5.at
  refine Gets.via (fun _ k => (XS.aloadN A6 hx rfl (D d22_15) rfl rfl (XS.iloadN A6 hx rfl (D d22_16) rfl (XS.iconst A6 hx rfl (D d22_17) (iaddV A6 hx rfl (D d22_18) rfl (v := (2 : Int32)) (by decide) k))))) ?_
  have f8 := Pr2.keep K5 (ninS (neA (by omega)) nin0)
  have f9 := Pr0.keep K5
  refine X5.putF (host := "") (Or.inl (w98 hw)) Via.refl f8 f9 (Or.inl (w99 hw)) (w38 hw) (ty := .int) (by decide) rfl rfl (leA (by omega)) (Safe.exa X5.hZ.alike f9 (by decide) (by decide)) rfl rfl (D d22_19) fun T7 h7 X7 C7 W7 F7 Z7 => ?_
  have z7 := W7.size
  have f10 := Pr1.keep K5 (ninS (neA (by omega)) nin0)
  have f11 := f10.other W7 (Or.inr (slot_ne (t := .int) (t' := .int) (Or.inl (w57 hw)) (Or.inl (w99 hw)) (by decide) (by decide) (by decide)))
  have f12 := Pr3.keep K5 (ninS (neA (by omega)) nin0)
  have f13 := f12.other W7 (Or.inr (slot_ne (t := (.array (.object "java/lang/Object"))) (t' := .int) (Or.inl (w60 hw)) (Or.inl (w99 hw)) (by decide) (by decide) (by decide)))
  have f14 := V5_.other W7 (neA (by omega))
  have f15 := Pr5.keep K5
  have f16 := f15.wr W7
  exact X7.retV hret (D d22_22) (by decide) (by decide) (fun vmE CE => ⟨rfl, (((Keep.refl h0 [x, d]).trans K5 (allS (Or.inl (List.mem_of_getElem? (i := 1) rfl)) all0)).wr W7 (Or.inl (List.mem_of_getElem? (i := 0) rfl))), Z7, f11, F7, f13, f14, f16⟩)
abbrev RrmAdd1 : Room := { frames := 1, cells := 0, slots := 0, locals := 15 }
def QrmAdd1 (Z : State) (de : Addr) (el : Addr) (em : Addr) (x : Addr) (y : Addr) (mc : Int32) (d : Addr) (kd : ClassId) (e0 : Addr) (h0 : Heap) (v : Option Value) (vm : Vm) (h : Heap) : Prop := v = some (.int (1 : Int32)) ∧ Keep h0 h [x, d] ∧ Exa Z h x "java/util/ArrayList" ∧ Fld Z h x "java/util/AbstractList" "modCount" "I" (.int (mc + (1 : Int32))) ∧ Fld Z h x "java/util/ArrayList" "size" "I" (.int (2 : Int32)) ∧ Fld Z h x "java/util/ArrayList" "elementData" "[Ljava/lang/Object;" (.ref d) ∧ Arv Z h d kd (.object "java/lang/Object") (10 : Int32) [(.ref e0), (.ref y), .null, .null, .null, .null, .null, .null, .null, .null] .null ∧ Exa Z h d "[Ljava/lang/Object;"
theorem rmAdd1 (hcx : Cx Z a0 zc de kde em el ee kee mr fm) (x : Addr) (y : Addr) (mc : Int32) (d : Addr) (kd : ClassId) (e0 : Addr) (h0 : Heap) (O0 : Old Z Z.heap.size h0) (Pr0 : Exa Z h0 x "java/util/ArrayList") (Pr1 : Fld Z h0 x "java/util/AbstractList" "modCount" "I" (.int mc)) (Pr2 : Fld Z h0 x "java/util/ArrayList" "size" "I" (.int (1 : Int32))) (Pr3 : Fld Z h0 x "java/util/ArrayList" "elementData" "[Ljava/lang/Object;" (.ref d)) (Pr4 : Arv Z h0 d kd (.object "java/lang/Object") (10 : Int32) [(.ref e0), .null, .null, .null, .null, .null, .null, .null, .null, .null] .null) (Pr5 : Exa Z h0 d "[Ljava/lang/Object;") (Pr6 : Ovr Z kd "java/lang/Object") (Pr7 : Z.heap.size ≤ d) (Pr8 : x ≠ d) (Pr9 : Z.heap.size ≤ x) (Pr10 : Exa Z h0 y "java/lang/String") : Met l Z consts_1 (⟨"java/util/ArrayList", "add", "(Ljava/lang/Object;)Z"⟩ : MethodName) jdk_38_method_25_code 2 (some .boolean) [] RrmAdd1 [] #[(.ref x), (.ref y)] h0 (QrmAdd1 Z de el em x y mc d kd e0 h0) := by
  have ⟨hw, hEL, O2, P5, OD, AD, XM, OM, OL, XL, FL, AE, MR, O4, P6⟩ := hcx
  refine Met.start (a0 := a0) (Ls := #[vR x, vR y]) pn21 hEL O0 (fun m => by first | (simp [entryFrame, mkF, argsToLocals, Value.category]; done) | rfl) ?_
  intro p e s m below meth cc T0 vm0 X0 sf0_ hby hml hret hnm
  have hx := X0.hx
  have D : ∀ {n r}, decode jdk_38_method_25_code n = r → decode cc.code n = r := fun d => hb hby d
  have zz := X0.ge
  have A0 := X0.at
  have l1 := ltA Pr0.lt
  have l2 := ltA Pr4.lt
  have l3 := neA Pr8
  have l4 := ltA Pr10.lt
  refine Gets.via (fun _ k => (XS.aloadN A0 hx rfl (D d21_0) rfl rfl (XS.dup A0 hx rfl (D d21_1) rfl rfl k))) ?_
  refine X0.getF (host := "") (Or.inl (w146 hw)) (Via.of (w147 hw)) Pr1 rfl rfl (D d21_2) fun T5 X5 => ?_
  have A6 := X5.at
  refine Gets.via (fun _ k => (XS.iconst A6 hx rfl (D d21_5) (XS.iadd A6 hx rfl (D d21_6) rfl k))) ?_
  refine X5.putF (host := "") (Or.inl (w146 hw)) (Via.of (w147 hw)) Pr1 Pr0 (Or.inl (w57 hw)) (w38 hw) (ty := .int) (by decide) rfl rfl (leA (by omega)) (Safe.exa X5.hZ.alike Pr0 (by decide) (by decide)) rfl rfl (D d21_7) fun T7 h7 X7 C7 W7 F7 Z7 => ?_
  have z7 := W7.size
  show Gets p e below _ (T7.setTop (mkF m 10 #[vR x, vR y] []))
  have A8 := X7.at
  refine Gets.via (fun _ k => (XS.aloadN A8 hx rfl (D d21_10) rfl rfl (XS.aloadN A8 hx rfl (D d21_11) rfl rfl (XS.aloadN A8 hx rfl (D d21_12) rfl rfl k)))) ?_
  have f10 := Pr3.other W7 (Or.inr (slot_ne (t := (.array (.object "java/lang/Object"))) (t' := .int) (Or.inl (w60 hw)) (Or.inl (w57 hw)) (by decide) (by decide) (by decide)))
  refine X7.getF (host := "") (Or.inl (w59 hw)) Via.refl f10 rfl rfl (D d21_13) fun T9 X9 => ?_
  have A11 := X9.at
  refine Gets.via (fun _ k => (XS.aloadN A11 hx rfl (D d21_16) rfl rfl k)) ?_
  have f13 := Pr2.other W7 (Or.inr (slot_ne (t := .int) (t' := .int) (Or.inl (w99 hw)) (Or.inl (w57 hw)) (by decide) (by decide) (by decide)))
  refine X9.getF (host := "") (Or.inl (w98 hw)) Via.refl f13 rfl rfl (D d21_17) fun T12 X12 => ?_
  have f14 := Pr4.other W7 (neA (by omega))
  have f15 := Pr5.wr W7
  have f16 := Pr10.wr W7
  refine X12.callP (W := 0) (w148 hw) (w149 hw) (w151 hw) (w150 hw) (w152 hw) (by decide) (X12.payM (sf := []) (rmAddT1 hcx x y (mc + (1 : Int32)) d kd e0 h7 X12.old Z7 F7 f13 f10 f14 f15 Pr6 Pr7 Pr8 Pr9 f16) sf0 (w152 hw) (w39 hw) (by decide) (by decide)) Z7 rfl (sz hml rfl) (argsL := [(.ref y), (.ref d), (.int (1 : Int32))]) (rest := []) (lenOf pd15 rfl) rfl rfl (mroom rfl rfl) (D d21_20) (by decide) (by decide) fun T17 h17 vm17 v17 X17 C17 z17 q17 => ?_
  obtain ⟨rfl, K17, g17_0, g17_1, g17_2, g17_3, g17_4, g17_5⟩ := q17
  have l18 := ltA g17_0.lt
  have l19 := ltA g17_4.lt
  show Gets p e below _ (T17.setTop (mkF m 23 #[vR x, vR y] []))
  have A20 := X17.at
  refine Gets.via (fun _ k => (XS.iconst A20 hx rfl (D d21_23) k)) ?_
  exact X17.retI hret (by decide) (by simp) (D d21_24) (by decide) (by decide) (fun vmE CE => ⟨rfl, (((Keep.refl h0 [x, d]).wr W7 (Or.inl (List.mem_of_getElem? (i := 0) rfl))).trans K17 (allS (Or.inl (List.mem_of_getElem? (i := 0) rfl)) (allS (Or.inl (List.mem_of_getElem? (i := 1) rfl)) all0))), g17_0, g17_1, g17_2, g17_3, g17_4, g17_5⟩)
abbrev RrmAlEmpty2 : Room := { frames := 0, cells := 0, slots := 0, locals := 0 }
def QrmAlEmpty2 (Z : State) (de : Addr) (el : Addr) (em : Addr) (x : Addr) (h0 : Heap) (v : Option Value) (vm : Vm) (h : Heap) : Prop := v = some (.int (0 : Int32)) ∧ h = h0
theorem rmAlEmpty2 (hcx : Cx Z a0 zc de kde em el ee kee mr fm) (x : Addr) (h0 : Heap) (O0 : Old Z Z.heap.size h0) (Pr0 : Fld Z h0 x "java/util/ArrayList" "size" "I" (.int (2 : Int32))) : Met l Z consts_1 (⟨"java/util/ArrayList", "isEmpty", "()Z"⟩ : MethodName) jdk_38_method_9_code 1 (some .boolean) [] RrmAlEmpty2 [] #[(.ref x)] h0 (QrmAlEmpty2 Z de el em x h0) := by
  have ⟨hw, hEL, O2, P5, OD, AD, XM, OM, OL, XL, FL, AE, MR, O4, P6⟩ := hcx
  refine Met.start (a0 := a0) (Ls := #[vR x]) pn14 hEL O0 (fun m => by first | (simp [entryFrame, mkF, argsToLocals, Value.category]; done) | rfl) ?_
  intro p e s m below meth cc T0 vm0 X0 sf0_ hby hml hret hnm
  have hx := X0.hx
  have D : ∀ {n r}, decode jdk_38_method_9_code n = r → decode cc.code n = r := fun d => hb hby d
  have zz := X0.ge
  have A0 := X0.at
  have l1 := ltA Pr0.lt
  refine Gets.via (fun _ k => (XS.aloadN A0 hx rfl (D d14_0) rfl rfl k)) ?_
  refine X0.getF (host := "") (Or.inl (w98 hw)) Via.refl Pr0 rfl rfl (D d14_1) fun T2 X2 => ?_
  have A3 := X2.at
  refine Gets.via (fun _ k => (XS.ifYes A3 hx rfl (pc0 := 4) (pc' := 11) rfl (D d14_4) rfl (Jvm.Free.XT.i0_ne_t (by decide)) (by decide) (by decide) k)) ?_
  refine Gets.via (fun _ k => (XS.iconst A3 hx rfl (D d14_11) k)) ?_
  exact X2.retI hret (by decide) (by simp) (D d14_12) (by decide) (by decide) (fun vmE CE => ⟨rfl, rfl⟩)
abbrev Rrmmin_10_2 : Room := { frames := 0, cells := 0, slots := 0, locals := 0 }
def Qrmmin_10_2 (Z : State) (de : Addr) (el : Addr) (em : Addr) (h0 : Heap) (v : Option Value) (vm : Vm) (h : Heap) : Prop := v = some (.int (2 : Int32)) ∧ h = h0
theorem rmmin_10_2 (hcx : Cx Z a0 zc de kde em el ee kee mr fm)  (h0 : Heap) (O0 : Old Z Z.heap.size h0)  : Met l Z consts_1 (⟨"java/lang/Math", "min", "(II)I"⟩ : MethodName) jdk_29_method_69_code 2 (some .int) [] Rrmmin_10_2 [] #[(.int (10 : Int32)), (.int (2 : Int32))] h0 (Qrmmin_10_2 Z de el em h0) := by
  have ⟨hw, hEL, O2, P5, OD, AD, XM, OM, OL, XL, FL, AE, MR, O4, P6⟩ := hcx
  refine Met.start (a0 := a0) (Ls := #[vI (10 : Int32), vI (2 : Int32)]) pn29 hEL O0 (fun m => by first | (simp [entryFrame, mkF, argsToLocals, Value.category]; done) | rfl) ?_
  intro p e s m below meth cc T0 vm0 X0 sf0_ hby hml hret hnm
  have hx := X0.hx
  have D : ∀ {n r}, decode jdk_29_method_69_code n = r → decode cc.code n = r := fun d => hb hby d
  have zz := X0.ge
  have A0 := X0.at
  refine Gets.via (fun _ k => (XS.iloadN A0 hx rfl (D d29_0) rfl (XS.iloadN A0 hx rfl (D d29_1) rfl (XS.icmpYes A0 hx rfl (pc0 := 2) (pc' := 9) rfl (D d29_2) rfl (Jvm.Free.XT.ii_gt_t (by decide)) (by decide) (by decide) k)))) ?_
  refine Gets.via (fun _ k => (XS.iloadN A0 hx rfl (D d29_9) rfl k)) ?_
  exact X0.retI hret rfl (by simp) (D d29_10) (by decide) (by decide) (fun vmE CE => ⟨rfl, rfl⟩)
abbrev RrmCoT2 : Room := { frames := 1, cells := 1, slots := 2, locals := 22 }
def QrmCoT2 (Z : State) (de : Addr) (el : Addr) (em : Addr) (d : Addr) (kd : ClassId) (e0 : Addr) (e1 : Addr) (h0 : Heap) (v : Option Value) (vm : Vm) (h : Heap) : Prop := ∃ (r : Addr) (kr : ClassId), v = some (.ref r) ∧ Keep h0 h [] ∧ Arv Z h r kr (.object "java/lang/Object") (2 : Int32) [(.ref e0), (.ref e1)] .null ∧ Exa Z h r "[Ljava/lang/Object;" ∧ Ovr Z kr "java/lang/Object" ∧ h0.size ≤ r
theorem rmCoT2 (hcx : Cx Z a0 zc de kde em el ee kee mr fm) (d : Addr) (kd : ClassId) (e0 : Addr) (e1 : Addr) (h0 : Heap) (O0 : Old Z Z.heap.size h0) (Pr0 : Arv Z h0 d kd (.object "java/lang/Object") (10 : Int32) [(.ref e0), (.ref e1), .null, .null, .null, .null, .null, .null, .null, .null] .null) (Pr1 : Exa Z h0 d "[Ljava/lang/Object;") (Pr2 : Exa Z h0 e0 "java/lang/String") (Pr3 : Exa Z h0 e1 "java/lang/String") : Met l Z consts_1 (⟨"java/util/Arrays", "copyOf", "([Ljava/lang/Object;ILjava/lang/Class;)[Ljava/lang/Object;"⟩ : MethodName) jdk_65_method_120_code 4 (some (.array (.object "java/lang/Object"))) [] RrmCoT2 [] #[(.ref d), (.int (2 : Int32)), (.ref mr)] h0 (QrmCoT2 Z de el em d kd e0 e1 h0) := by
  have ⟨hw, hEL, O2, P5, OD, AD, XM, OM, OL, XL, FL, AE, MR, O4, P6⟩ := hcx
  refine Met.start (a0 := a0) (Ls := #[vR d, vI (2 : Int32), vR mr, .unset]) pn28 hEL O0 (fun m => by first | (simp [entryFrame, mkF, argsToLocals, Value.category]; done) | rfl) ?_
  intro p e s m below meth cc T0 vm0 X0 sf0_ hby hml hret hnm
  have hx := X0.hx
  have D : ∀ {n r}, decode jdk_65_method_120_code n = r → decode cc.code n = r := fun d => hb hby d
  have zz := X0.ge
  have A0 := X0.at
  have l1 := ltA Pr0.lt
  have l2 := ltA Pr2.lt
  have l3 := ltA Pr3.lt
  refine Gets.via (fun _ k => (XS.aloadN A0 hx rfl (D d28_0) rfl rfl k)) ?_
  refine X0.ldcM (w191 hw) MR rfl (D d28_1) fun T4 X4 => ?_
  refine X4.acmpW hx rfl rfl rfl (pc0 := 3) (pc' := 6) (same := true) rfl (D d28_3) rfl (by simp) (by decide) (by decide) ?_
  have A5 := X4.at
  refine Gets.via (fun _ k => (XS.iloadN A5 hx rfl (D d28_6) rfl k)) ?_
  refine X4.newR (ad := "[Ljava/lang/Object;") (w192 hw) (w168 hw) rfl (D d28_7) rfl (by decide) (cap := 2) (by decide) (by decide) (by decide) (by decide) (by decide) fun T6 h6 a6 k6 X6 C6 E6 g6 Z6 Ov6 V6 => ?_
  have z6 := E6.1
  have l6 := ltA V6.lt
  have V6_ : Arv Z h6 a6 k6 (.object "java/lang/Object") (2 : Int32) [.null, .null] .null := padN V6 2
  show Gets p e below _ (T6.setTop (mkF m 10 #[vR d, vI (2 : Int32), vR mr, .unset] [(.ref a6)]))
  have A7 := X6.at
  refine Gets.via (fun _ k => (XS.goto A7 hx rfl (pc0 := 10) (pc' := 24) rfl (D d28_10) (by decide) (by decide) k)) ?_
  refine Gets.via (fun _ k => (XS.astoreN A7 hx rfl (D d28_24) rfl rfl (l' := #[vR d, vI (2 : Int32), vR mr, vR a6]) rfl (XS.aloadN A7 hx rfl (D d28_25) rfl rfl (XS.iconst A7 hx rfl (D d28_26) (XS.aloadN A7 hx rfl (D d28_27) rfl rfl (XS.iconst A7 hx rfl (D d28_28) (XS.aloadN A7 hx rfl (D d28_29) rfl rfl k))))))) ?_
  have f8 := Pr0.ext E6
  refine X6.alen f8 rfl rfl (D d28_30) ?_
  refine Gets.via (fun _ k => (XS.iloadN A7 hx rfl (D d28_31) rfl k)) ?_
  refine X6.callS (W := 4) (w193 hw) (w194 hw) (w165 hw) (w195 hw) (by decide) (X6.payM (sf := []) (rmmin_10_2 hcx  h6 X6.old ) sf0 (w195 hw) (w165 hw) (by decide) (by decide)) rfl (sz hml rfl) (argsL := [(.int (10 : Int32)), (.int (2 : Int32))]) (rest := [(.int (0 : Int32)), (.ref a6), (.int (0 : Int32)), (.ref d)]) (lenOf pd12 rfl) rfl rfl (mroom rfl rfl) (D d28_32) (by decide) (by decide) fun T9 h9 vm9 v9 X9 C9 z9 q9 => ?_
  obtain ⟨rfl, K9⟩ := q9
  rw [K9] at X9 C9
  show Gets p e below _ (T9.setTop (mkF m 35 #[vR d, vI (2 : Int32), vR mr, vR a6] [(.int (2 : Int32)), (.int (0 : Int32)), (.ref a6), (.int (0 : Int32)), (.ref d)]))
  have f11 := Pr3.ext E6
  have f12 := Pr2.ext E6
  refine X9.copy (w196 hw) (w199 hw) (w197 hw) (w198 hw) (us := [(.ref e0), (.ref e1)]) f8 V6_ (Or.inr ⟨rfl, rfl, ⟨(stoV V6_ Ov6 (Ins.of_exa f12 (w169 hw))), ⟨(stoV V6_ Ov6 (Ins.of_exa f11 (w169 hw))), trivial⟩⟩⟩) (by decide) (by decide) (by decide) (by decide) (by decide) rfl (Nat.le_of_ble_eq_true rfl) (leA (by omega)) (Safe.exa X9.hZ.alike Z6 (by decide) (by decide)) rfl (sz hml rfl) rfl (D d28_35) (by decide) (W := 0) (mroom rfl rfl) (by decide) fun T10 h10 X10 C10 K10 V10 => ?_
  have z10 := K10.1
  have V10_ : Arv Z h10 a6 k6 (.object "java/lang/Object") (2 : Int32) [(.ref e0), (.ref e1)] .null := V10
  have A13 := X10.at
  refine Gets.via (fun _ k => (XS.aloadN A13 hx rfl (D d28_38) rfl rfl k)) ?_
  have f14 := Z6.keep K10
  exact X10.retA hret rfl rfl rfl (D d28_39) (by decide) (by decide) (fun vmE CE => ⟨a6, k6, rfl, (((Keep.refl h0 []).ext E6).trans K10 (allS (Or.inr (leA (by omega))) all0)), V10_, f14, Ov6, (leA (by omega))⟩)
abbrev RrmCo2 : Room := { frames := 2, cells := 1, slots := 2, locals := 37 }
def QrmCo2 (Z : State) (de : Addr) (el : Addr) (em : Addr) (d : Addr) (kd : ClassId) (e0 : Addr) (e1 : Addr) (h0 : Heap) (v : Option Value) (vm : Vm) (h : Heap) : Prop := ∃ (r : Addr) (kr : ClassId), v = some (.ref r) ∧ Keep h0 h [] ∧ Arv Z h r kr (.object "java/lang/Object") (2 : Int32) [(.ref e0), (.ref e1)] .null ∧ Exa Z h r "[Ljava/lang/Object;" ∧ Ovr Z kr "java/lang/Object" ∧ h0.size ≤ r
theorem rmCo2 (hcx : Cx Z a0 zc de kde em el ee kee mr fm) (d : Addr) (kd : ClassId) (e0 : Addr) (e1 : Addr) (h0 : Heap) (O0 : Old Z Z.heap.size h0) (Pr0 : Arv Z h0 d kd (.object "java/lang/Object") (10 : Int32) [(.ref e0), (.ref e1), .null, .null, .null, .null, .null, .null, .null, .null] .null) (Pr1 : Exa Z h0 d "[Ljava/lang/Object;") (Pr2 : Exa Z h0 e0 "java/lang/String") (Pr3 : Exa Z h0 e1 "java/lang/String") : Met l Z consts_1 (⟨"java/util/Arrays", "copyOf", "([Ljava/lang/Object;I)[Ljava/lang/Object;"⟩ : MethodName) jdk_65_method_119_code 2 (some (.array (.object "java/lang/Object"))) [] RrmCo2 [] #[(.ref d), (.int (2 : Int32))] h0 (QrmCo2 Z de el em d kd e0 e1 h0) := by
  have ⟨hw, hEL, O2, P5, OD, AD, XM, OM, OL, XL, FL, AE, MR, O4, P6⟩ := hcx
  refine Met.start (a0 := a0) (Ls := #[vR d, vI (2 : Int32)]) pn27 hEL O0 (fun m => by first | (simp [entryFrame, mkF, argsToLocals, Value.category]; done) | rfl) ?_
  intro p e s m below meth cc T0 vm0 X0 sf0_ hby hml hret hnm
  have hx := X0.hx
  have D : ∀ {n r}, decode jdk_65_method_119_code n = r → decode cc.code n = r := fun d => hb hby d
  have zz := X0.ge
  have A0 := X0.at
  have l1 := ltA Pr0.lt
  have l2 := ltA Pr2.lt
  have l3 := ltA Pr3.lt
  refine Gets.via (fun _ k => (XS.aloadN A0 hx rfl (D d27_0) rfl rfl (XS.iloadN A0 hx rfl (D d27_1) rfl (XS.aloadN A0 hx rfl (D d27_2) rfl rfl k)))) ?_
  refine X0.getC (w182 hw) (w183 hw) (w87 hw) (w185 hw) (w184 hw) (w186 hw) Pr1 MR rfl (sz hml rfl) rfl (D d27_3) (by decide) (W := 2) (mroom rfl rfl) (by decide) fun T4 X4 => ?_
  refine X4.callS (W := 0) (w188 hw) (w189 hw) (w180 hw) (w190 hw) (by decide) (X4.payM (sf := []) (rmCoT2 hcx d kd e0 e1 h0 X4.old Pr0 Pr1 Pr2 Pr3) sf0 (w190 hw) (w180 hw) (by decide) (by decide)) rfl (sz hml rfl) (argsL := [(.ref d), (.int (2 : Int32)), (.ref mr)]) (rest := []) (lenOf pd17 rfl) rfl rfl (mroom rfl rfl) (D d27_6) (by decide) (by decide) fun T5 h5 vm5 v5 X5 C5 z5 q5 => ?_
  obtain ⟨r5, kr5, rfl, K5, g5_0, g5_1, g5_2, g5_3⟩ := q5
  have l6 := ltA g5_0.lt
  show Gets p e below _ (T5.setTop (mkF m 9 #[vR d, vI (2 : Int32)] [(.ref r5)]))
  exact X5.retA hret rfl rfl rfl (D d27_9) (by decide) (by decide) (fun vmE CE => ⟨r5, kr5, rfl, ((Keep.refl h0 []).trans K5 all0), g5_0, g5_1, g5_2, g5_3⟩)
abbrev RrmToA2 : Room := { frames := 3, cells := 1, slots := 2, locals := 50 }
def QrmToA2 (Z : State) (de : Addr) (el : Addr) (em : Addr) (x : Addr) (d : Addr) (kd : ClassId) (e0 : Addr) (e1 : Addr) (h0 : Heap) (v : Option Value) (vm : Vm) (h : Heap) : Prop := ∃ (r : Addr) (kr : ClassId), v = some (.ref r) ∧ Keep h0 h [] ∧ Arv Z h r kr (.object "java/lang/Object") (2 : Int32) [(.ref e0), (.ref e1)] .null ∧ Exa Z h r "[Ljava/lang/Object;" ∧ Ovr Z kr "java/lang/Object" ∧ h0.size ≤ r
theorem rmToA2 (hcx : Cx Z a0 zc de kde em el ee kee mr fm) (x : Addr) (d : Addr) (kd : ClassId) (e0 : Addr) (e1 : Addr) (h0 : Heap) (O0 : Old Z Z.heap.size h0) (Pr0 : Fld Z h0 x "java/util/ArrayList" "size" "I" (.int (2 : Int32))) (Pr1 : Fld Z h0 x "java/util/ArrayList" "elementData" "[Ljava/lang/Object;" (.ref d)) (Pr2 : Arv Z h0 d kd (.object "java/lang/Object") (10 : Int32) [(.ref e0), (.ref e1), .null, .null, .null, .null, .null, .null, .null, .null] .null) (Pr3 : Exa Z h0 d "[Ljava/lang/Object;") (Pr4 : Exa Z h0 e0 "java/lang/String") (Pr5 : Exa Z h0 e1 "java/lang/String") : Met l Z consts_1 (⟨"java/util/ArrayList", "toArray", "()[Ljava/lang/Object;"⟩ : MethodName) jdk_38_method_16_code 1 (some (.array (.object "java/lang/Object"))) [] RrmToA2 [] #[(.ref x)] h0 (QrmToA2 Z de el em x d kd e0 e1 h0) := by
  have ⟨hw, hEL, O2, P5, OD, AD, XM, OM, OL, XL, FL, AE, MR, O4, P6⟩ := hcx
  refine Met.start (a0 := a0) (Ls := #[vR x]) pn26 hEL O0 (fun m => by first | (simp [entryFrame, mkF, argsToLocals, Value.category]; done) | rfl) ?_
  intro p e s m below meth cc T0 vm0 X0 sf0_ hby hml hret hnm
  have hx := X0.hx
  have D : ∀ {n r}, decode jdk_38_method_16_code n = r → decode cc.code n = r := fun d => hb hby d
  have zz := X0.ge
  have A0 := X0.at
  have l1 := ltA Pr0.lt
  have l2 := ltA Pr2.lt
  have l3 := ltA Pr4.lt
  have l4 := ltA Pr5.lt
  refine Gets.via (fun _ k => (XS.aloadN A0 hx rfl (D d26_0) rfl rfl k)) ?_
  refine X0.getF (host := "") (Or.inl (w59 hw)) Via.refl Pr1 rfl rfl (D d26_1) fun T5 X5 => ?_
  have A6 := X5.at
  refine Gets.via (fun _ k => (XS.aloadN A6 hx rfl (D d26_4) rfl rfl k)) ?_
  refine X5.getF (host := "") (Or.inl (w98 hw)) Via.refl Pr0 rfl rfl (D d26_5) fun T7 X7 => ?_
  refine X7.callS (W := 0) (w178 hw) (w179 hw) (w180 hw) (w181 hw) (by decide) (X7.payM (sf := []) (rmCo2 hcx d kd e0 e1 h0 X7.old Pr2 Pr3 Pr4 Pr5) sf0 (w181 hw) (w180 hw) (by decide) (by decide)) rfl (sz hml rfl) (argsL := [(.ref d), (.int (2 : Int32))]) (rest := []) (lenOf pd18 rfl) rfl rfl (mroom rfl rfl) (D d26_8) (by decide) (by decide) fun T8 h8 vm8 v8 X8 C8 z8 q8 => ?_
  obtain ⟨r8, kr8, rfl, K8, g8_0, g8_1, g8_2, g8_3⟩ := q8
  have l9 := ltA g8_0.lt
  show Gets p e below _ (T8.setTop (mkF m 11 #[vR x] [(.ref r8)]))
  exact X8.retA hret rfl rfl rfl (D d26_11) (by decide) (by decide) (fun vmE CE => ⟨r8, kr8, rfl, ((Keep.refl h0 []).trans K8 all0), g8_0, g8_1, g8_2, g8_3⟩)
abbrev RrmOf2 : Room := { frames := 5, cells := 1, slots := 2, locals := 63 }
def QrmOf2 (Z : State) (de : Addr) (el : Addr) (em : Addr) (r : Addr) (kr : ClassId) (e0 : Addr) (e1 : Addr) (h0 : Heap) (v : Option Value) (vm : Vm) (h : Heap) : Prop := ∃ (a : Addr), v = some (.ref a) ∧ Keep h0 h [] ∧ Exa Z h a "java/util/ImmutableCollections$List12" ∧ Fld Z h a "java/util/ImmutableCollections$List12" "e0" "Ljava/lang/Object;" (.ref e0) ∧ Fld Z h a "java/util/ImmutableCollections$List12" "e1" "Ljava/lang/Object;" (.ref e1) ∧ h0.size ≤ a
theorem rmOf2 (hcx : Cx Z a0 zc de kde em el ee kee mr fm) (r : Addr) (kr : ClassId) (e0 : Addr) (e1 : Addr) (h0 : Heap) (O0 : Old Z Z.heap.size h0) (Pr0 : Arv Z h0 r kr (.object "java/lang/Object") (2 : Int32) [(.ref e0), (.ref e1)] .null) (Pr1 : Exa Z h0 e0 "java/lang/String") (Pr2 : Exa Z h0 e1 "java/lang/String") : Met l Z consts_1 (⟨"java/util/List", "of", "([Ljava/lang/Object;)Ljava/util/List;"⟩ : MethodName) jdk_40_method_47_code 2 (some (.object "java/util/List")) [] RrmOf2 [] #[(.ref r)] h0 (QrmOf2 Z de el em r kr e0 e1 h0) := by
  have ⟨hw, hEL, O2, P5, OD, AD, XM, OM, OL, XL, FL, AE, MR, O4, P6⟩ := hcx
  refine Met.start (a0 := a0) (Ls := #[vR r, .unset]) pn30 hEL O0 (fun m => by first | (simp [entryFrame, mkF, argsToLocals, Value.category]; done) | rfl) ?_
  intro p e s m below meth cc T0 vm0 X0 sf0_ hby hml hret hnm
  have hx := X0.hx
  have D : ∀ {n r}, decode jdk_40_method_47_code n = r → decode cc.code n = r := fun d => hb hby d
  have zz := X0.ge
  have A0 := X0.at
  have l1 := ltA Pr0.lt
  have l2 := ltA Pr1.lt
  have l3 := ltA Pr2.lt
  refine Gets.via (fun _ k => (XS.aloadN A0 hx rfl (D d30_0) rfl rfl k)) ?_
  refine X0.alen Pr0 rfl rfl (D d30_1) ?_
  refine Gets.via (fun _ k => (XS.tswIn A0 hx rfl (pc0 := 2) (pc' := 45) rfl (D d30_2) rfl (by decide) (o := 43) rfl (by decide) (by decide) k)) ?_
  refine X0.new (w254 hw) (w255 hw) (w256 hw) rfl (D d30_45) (by decide) (by decide) fun T4 h4 a4 X4 C4 E4 g4 Z4 S4 D4 => ?_
  have z4 := E4.1
  have l4 := ltA Z4.lt
  have A5 := X4.at
  refine Gets.via (fun _ k => (XS.dup A5 hx rfl (D d30_48) rfl rfl (XS.aloadN A5 hx rfl (D d30_49) rfl rfl (XS.iconst A5 hx rfl (D d30_50) k)))) ?_
  show Gets p e below _ (T4.setTop (mkF m 51 #[vR r, .unset] [(.int (0 : Int32)), (.ref r), (.ref a4), (.ref a4)]))
  have f6 := Pr0.ext E4
  refine X4.ldR f6 rfl (i := 0) (by decide) (by decide) (by decide) rfl rfl rfl (D d30_51) ?_
  refine Gets.via (fun _ k => (XS.aloadN A5 hx rfl (D d30_52) rfl rfl (XS.iconst A5 hx rfl (D d30_53) k))) ?_
  refine X4.ldR f6 rfl (i := 1) (by decide) (by decide) (by decide) rfl rfl rfl (D d30_54) ?_
  refine X4.callI (y := (⟨"java/util/ImmutableCollections$List12", "<init>", "(Ljava/lang/Object;Ljava/lang/Object;)V"⟩ : MethodName)) (W := 1) rfl (w257 hw) (w258 hw) (w260 hw) (by decide) (X4.payM (sf := []) (rm41 hcx a4 e0 e1 h4 X4.old Z4 (D4 (Or.inr (w267 hw)) (ty := (.object "java/lang/Object")) (by decide) : Fld Z h4 a4 "java/util/ImmutableCollections$List12" "e0" "Ljava/lang/Object;" .null) (D4 (Or.inr (w269 hw)) (ty := (.object "java/lang/Object")) (by decide) : Fld Z h4 a4 "java/util/ImmutableCollections$List12" "e1" "Ljava/lang/Object;" .null) (leA (by omega))) sf0 (w260 hw) (w256 hw) (by decide) (by decide)) rfl (sz hml rfl) (a := a4) (argsL := [(.ref e0), (.ref e1)]) (rest := [(.ref a4)]) (lenOf pd21 rfl) rfl rfl (mroom rfl rfl) (D d30_55) (by decide) (by decide) fun T7 h7 vm7 v7 X7 C7 z7 q7 => ?_
  obtain ⟨rfl, K7, g7_0, g7_1, g7_2⟩ := q7
  have l8 := ltA g7_0.lt
  exact X7.retA hret rfl rfl rfl (D d30_58) (by decide) (by decide) (fun vmE CE => ⟨a4, rfl, (((Keep.refl h0 []).ext E4).trans K7 (allS (Or.inr (leA (by omega))) all0)), g7_0, g7_1, g7_2, (leA (by omega))⟩)
abbrev RrmLc2 : Room := { frames := 6, cells := 2, slots := 4, locals := 76 }
def QrmLc2 (Z : State) (de : Addr) (el : Addr) (em : Addr) (x : Addr) (d : Addr) (kd : ClassId) (e0 : Addr) (e1 : Addr) (h0 : Heap) (v : Option Value) (vm : Vm) (h : Heap) : Prop := ∃ (a : Addr), v = some (.ref a) ∧ Keep h0 h [] ∧ Exa Z h a "java/util/ImmutableCollections$List12" ∧ Fld Z h a "java/util/ImmutableCollections$List12" "e0" "Ljava/lang/Object;" (.ref e0) ∧ Fld Z h a "java/util/ImmutableCollections$List12" "e1" "Ljava/lang/Object;" (.ref e1) ∧ h0.size ≤ a
theorem rmLc2 (hcx : Cx Z a0 zc de kde em el ee kee mr fm) (x : Addr) (d : Addr) (kd : ClassId) (e0 : Addr) (e1 : Addr) (h0 : Heap) (O0 : Old Z Z.heap.size h0) (Pr0 : Exa Z h0 x "java/util/ArrayList") (Pr1 : Fld Z h0 x "java/util/ArrayList" "size" "I" (.int (2 : Int32))) (Pr2 : Fld Z h0 x "java/util/ArrayList" "elementData" "[Ljava/lang/Object;" (.ref d)) (Pr3 : Arv Z h0 d kd (.object "java/lang/Object") (10 : Int32) [(.ref e0), (.ref e1), .null, .null, .null, .null, .null, .null, .null, .null] .null) (Pr4 : Exa Z h0 d "[Ljava/lang/Object;") (Pr5 : Exa Z h0 e0 "java/lang/String") (Pr6 : Exa Z h0 e1 "java/lang/String") : Met l Z consts_1 (⟨"java/util/ImmutableCollections", "listCopy", "(Ljava/util/Collection;)Ljava/util/List;"⟩ : MethodName) jdk_56_method_3_code 2 (some (.object "java/util/List")) [] RrmLc2 [] #[(.ref x)] h0 (QrmLc2 Z de el em x d kd e0 e1 h0) := by
  have ⟨hw, hEL, O2, P5, OD, AD, XM, OM, OL, XL, FL, AE, MR, O4, P6⟩ := hcx
  refine Met.start (a0 := a0) (Ls := #[vR x, .unset]) pn13 hEL O0 (fun m => by first | (simp [entryFrame, mkF, argsToLocals, Value.category]; done) | rfl) ?_
  intro p e s m below meth cc T0 vm0 X0 sf0_ hby hml hret hnm
  have hx := X0.hx
  have D : ∀ {n r}, decode jdk_56_method_3_code n = r → decode cc.code n = r := fun d => hb hby d
  have zz := X0.ge
  have A0 := X0.at
  have l1 := ltA Pr0.lt
  have l2 := ltA Pr3.lt
  have l3 := ltA Pr5.lt
  have l4 := ltA Pr6.lt
  refine Gets.via (fun _ k => (XS.aloadN A0 hx rfl (D d13_0) rfl rfl k)) ?_
  refine X0.instNo (w83 hw) Pr0 (ns_no (w84 hw) (plainS (w270 hw) rfl) (NS.step (w84 hw) (NS.step (w85 hw) (NS.step (w86 hw) (ns_root (w87 hw) (plainS (w270 hw) rfl) (by decide)) (by decide)) (by decide)) (by decide)) (by decide)) rfl rfl (D d13_1) fun T5 X5 => ?_
  have A6 := X5.at
  refine Gets.via (fun _ k => (XS.ifNo A6 hx rfl (D d13_4) rfl (Jvm.Free.XT.i0_ne_f (by decide)) k)) ?_
  refine Gets.via (fun _ k => (XS.aloadN A6 hx rfl (D d13_7) rfl rfl k)) ?_
  refine X5.instNo (w88 hw) Pr0 (ns_no (w84 hw) (plainS (w122 hw) rfl) (NS.step (w84 hw) (NS.step (w85 hw) (NS.step (w86 hw) (ns_root (w87 hw) (plainS (w122 hw) rfl) (by decide)) (by decide)) (by decide)) (by decide)) (by decide)) rfl rfl (D d13_8) fun T7 X7 => ?_
  show Gets p e below _ (T7.setTop (mkF m 11 #[vR x, .unset] [(.int (0 : Int32))]))
  have A8 := X7.at
  refine Gets.via (fun _ k => (XS.ifYes A8 hx rfl (pc0 := 11) (pc' := 31) rfl (D d13_11) rfl (Jvm.Free.XT.i0_eq_t (by decide)) (by decide) (by decide) k)) ?_
  refine Gets.via (fun _ k => (XS.aloadN A8 hx rfl (D d13_31) rfl rfl k)) ?_
  refine X7.callF (W := 0) (w89 hw) (w90 hw) (w91 hw) rfl (w92 hw) (w93 hw) (w94 hw) (w95 hw) (w96 hw) (by decide) (X7.payM (sf := []) (rmAlEmpty2 hcx x h0 X7.old Pr1) sf0 (w97 hw) (w39 hw) (by decide) (by decide)) Pr0 rfl (sz hml rfl) (argsL := []) (rest := []) (lenOf pd5 rfl) rfl rfl (mroom rfl rfl) (D d13_32) (by decide) (by decide) fun T9 h9 vm9 v9 X9 C9 z9 q9 => ?_
  obtain ⟨rfl, K9⟩ := q9
  rw [K9] at X9 C9
  have A10 := X9.at
  refine Gets.via (fun _ k => (XS.ifYes A10 hx rfl (pc0 := 37) (pc' := 44) rfl (D d13_37) rfl (Jvm.Free.XT.i0_eq_t (by decide)) (by decide) (by decide) k)) ?_
  refine Gets.via (fun _ k => (XS.aloadN A10 hx rfl (D d13_44) rfl rfl k)) ?_
  refine X9.callF (W := 0) (w170 hw) (w171 hw) (w172 hw) rfl (w173 hw) (w174 hw) (w175 hw) (w176 hw) (w96 hw) (by decide) (X9.payM (sf := []) (rmToA2 hcx x d kd e0 e1 h0 X9.old Pr1 Pr2 Pr3 Pr4 Pr5 Pr6) sf0 (w177 hw) (w39 hw) (by decide) (by decide)) Pr0 rfl (sz hml rfl) (argsL := []) (rest := []) (lenOf pd14 rfl) rfl rfl (mroom rfl rfl) (D d13_45) (by decide) (by decide) fun T11 h11 vm11 v11 X11 C11 z11 q11 => ?_
  obtain ⟨r11, kr11, rfl, K11, g11_0, g11_1, g11_2, g11_3⟩ := q11
  have l12 := ltA g11_0.lt
  have f13 := Pr5.keep K11
  have f14 := Pr6.keep K11
  refine X11.callS (W := 0) (w200 hw) (w201 hw) (w77 hw) (w202 hw) (by decide) (X11.payM (sf := []) (rmOf2 hcx r11 kr11 e0 e1 h11 X11.old g11_0 f13 f14) sf0 (w202 hw) (w77 hw) (by decide) (by decide)) rfl (sz hml rfl) (argsL := [(.ref r11)]) (rest := []) (lenOf pd20 rfl) rfl rfl (mroom rfl rfl) (D d13_50) (by decide) (by decide) fun T15 h15 vm15 v15 X15 C15 z15 q15 => ?_
  obtain ⟨a15, rfl, K15, g15_0, g15_1, g15_2, g15_3⟩ := q15
  have l16 := ltA g15_0.lt
  show Gets p e below _ (T15.setTop (mkF m 53 #[vR x, .unset] [(.ref a15)]))
  exact X15.retA hret rfl rfl rfl (D d13_53) (by decide) (by decide) (fun vmE CE => ⟨a15, rfl, (((Keep.refl h0 []).trans K11 all0).trans K15 all0), g15_0, g15_1, g15_2, (leA (by omega))⟩)
abbrev RrmCoL2 : Room := { frames := 7, cells := 2, slots := 4, locals := 89 }
def QrmCoL2 (Z : State) (de : Addr) (el : Addr) (em : Addr) (x : Addr) (d : Addr) (kd : ClassId) (e0 : Addr) (e1 : Addr) (h0 : Heap) (v : Option Value) (vm : Vm) (h : Heap) : Prop := ∃ (a : Addr), v = some (.ref a) ∧ Keep h0 h [] ∧ Exa Z h a "java/util/ImmutableCollections$List12" ∧ Fld Z h a "java/util/ImmutableCollections$List12" "e0" "Ljava/lang/Object;" (.ref e0) ∧ Fld Z h a "java/util/ImmutableCollections$List12" "e1" "Ljava/lang/Object;" (.ref e1) ∧ h0.size ≤ a
theorem rmCoL2 (hcx : Cx Z a0 zc de kde em el ee kee mr fm) (x : Addr) (d : Addr) (kd : ClassId) (e0 : Addr) (e1 : Addr) (h0 : Heap) (O0 : Old Z Z.heap.size h0) (Pr0 : Exa Z h0 x "java/util/ArrayList") (Pr1 : Fld Z h0 x "java/util/ArrayList" "size" "I" (.int (2 : Int32))) (Pr2 : Fld Z h0 x "java/util/ArrayList" "elementData" "[Ljava/lang/Object;" (.ref d)) (Pr3 : Arv Z h0 d kd (.object "java/lang/Object") (10 : Int32) [(.ref e0), (.ref e1), .null, .null, .null, .null, .null, .null, .null, .null] .null) (Pr4 : Exa Z h0 d "[Ljava/lang/Object;") (Pr5 : Exa Z h0 e0 "java/lang/String") (Pr6 : Exa Z h0 e1 "java/lang/String") : Met l Z consts_1 (⟨"java/util/List", "copyOf", "(Ljava/util/Collection;)Ljava/util/List;"⟩ : MethodName) jdk_40_method_48_code 1 (some (.object "java/util/List")) [] RrmCoL2 [] #[(.ref x)] h0 (QrmCoL2 Z de el em x d kd e0 e1 h0) := by
  have ⟨hw, hEL, O2, P5, OD, AD, XM, OM, OL, XL, FL, AE, MR, O4, P6⟩ := hcx
  refine Met.start (a0 := a0) (Ls := #[vR x]) pn12 hEL O0 (fun m => by first | (simp [entryFrame, mkF, argsToLocals, Value.category]; done) | rfl) ?_
  intro p e s m below meth cc T0 vm0 X0 sf0_ hby hml hret hnm
  have hx := X0.hx
  have D : ∀ {n r}, decode jdk_40_method_48_code n = r → decode cc.code n = r := fun d => hb hby d
  have zz := X0.ge
  have A0 := X0.at
  have l1 := ltA Pr0.lt
  have l2 := ltA Pr3.lt
  have l3 := ltA Pr5.lt
  have l4 := ltA Pr6.lt
  refine Gets.via (fun _ k => (XS.aloadN A0 hx rfl (D d12_0) rfl rfl k)) ?_
  refine X0.callS (W := 0) (w79 hw) (w80 hw) (w81 hw) (w82 hw) (by decide) (X0.payM (sf := []) (rmLc2 hcx x d kd e0 e1 h0 X0.old Pr0 Pr1 Pr2 Pr3 Pr4 Pr5 Pr6) sf0 (w82 hw) (w81 hw) (by decide) (by decide)) rfl (sz hml rfl) (argsL := [(.ref x)]) (rest := []) (lenOf pd7 rfl) rfl rfl (mroom rfl rfl) (D d12_1) (by decide) (by decide) fun T5 h5 vm5 v5 X5 C5 z5 q5 => ?_
  obtain ⟨a5, rfl, K5, g5_0, g5_1, g5_2, g5_3⟩ := q5
  have l6 := ltA g5_0.lt
  exact X5.retA hret rfl rfl rfl (D d12_4) (by decide) (by decide) (fun vmE CE => ⟨a5, rfl, ((Keep.refl h0 []).trans K5 all0), g5_0, g5_1, g5_2, g5_3⟩)
abbrev RrmNode2 : Room := { frames := 8, cells := 2, slots := 4, locals := 101 }
def QrmNode2 (Z : State) (de : Addr) (el : Addr) (em : Addr) (x : Addr) (u : Addr) (z : Addr) (v1 : Addr) (d : Addr) (kd : ClassId) (e0 : Addr) (e1 : Addr) (h0 : Heap) (v : Option Value) (vm : Vm) (h : Heap) : Prop := ∃ (L : Addr), v = none ∧ Keep h0 h [x] ∧ Exa Z h x "com/example/packwright/packwright/model/Node" ∧ Fld Z h x "com/example/packwright/packwright/model/Node" "subscripts" "Ljava/util/List;" (.ref L) ∧ Exa Z h L "java/util/ImmutableCollections$List12" ∧ Fld Z h L "java/util/ImmutableCollections$List12" "e0" "Ljava/lang/Object;" (.ref e0) ∧ Fld Z h L "java/util/ImmutableCollections$List12" "e1" "Ljava/lang/Object;" (.ref e1)
theorem rmNode2 (hcx : Cx Z a0 zc de kde em el ee kee mr fm) (x : Addr) (u : Addr) (z : Addr) (v1 : Addr) (d : Addr) (kd : ClassId) (e0 : Addr) (e1 : Addr) (h0 : Heap) (O0 : Old Z Z.heap.size h0) (Pr0 : Exa Z h0 x "com/example/packwright/packwright/model/Node") (Pr1 : Fld Z h0 x "com/example/packwright/packwright/model/Node" "subscriptLine" "Ljava/lang/String;" .null) (Pr2 : Fld Z h0 x "com/example/packwright/packwright/model/Node" "subscripts" "Ljava/util/List;" .null) (Pr3 : Fld Z h0 x "com/example/packwright/packwright/model/Node" "value" "Ljava/lang/String;" .null) (Pr4 : Z.heap.size ≤ x) (Pr5 : Exa Z h0 z "java/util/ArrayList") (Pr6 : Fld Z h0 z "java/util/ArrayList" "size" "I" (.int (2 : Int32))) (Pr7 : Fld Z h0 z "java/util/ArrayList" "elementData" "[Ljava/lang/Object;" (.ref d)) (Pr8 : Arv Z h0 d kd (.object "java/lang/Object") (10 : Int32) [(.ref e0), (.ref e1), .null, .null, .null, .null, .null, .null, .null, .null] .null) (Pr9 : Exa Z h0 d "[Ljava/lang/Object;") (Pr10 : Exa Z h0 e0 "java/lang/String") (Pr11 : Exa Z h0 e1 "java/lang/String") : Met l Z consts_1 (⟨"com/example/packwright/packwright/model/Node", "<init>", "(Ljava/lang/String;Ljava/util/List;Ljava/lang/String;)V"⟩ : MethodName) prog_37_method_1_code 4 (none) [] RrmNode2 [] #[(.ref x), (.ref u), (.ref z), (.ref v1)] h0 (QrmNode2 Z de el em x u z v1 d kd e0 e1 h0) := by
  have ⟨hw, hEL, O2, P5, OD, AD, XM, OM, OL, XL, FL, AE, MR, O4, P6⟩ := hcx
  refine Met.start (a0 := a0) (Ls := #[vR x, vR u, vR z, vR v1]) pn10 hEL O0 (fun m => by first | (simp [entryFrame, mkF, argsToLocals, Value.category]; done) | rfl) ?_
  intro p e s m below meth cc T0 vm0 X0 sf0_ hby hml hret hnm
  have hx := X0.hx
  have D : ∀ {n r}, decode prog_37_method_1_code n = r → decode cc.code n = r := fun d => hb hby d
  have zz := X0.ge
  have A0 := X0.at
  have l1 := ltA Pr0.lt
  have l2 := ltA Pr5.lt
  have l3 := ltA Pr8.lt
  have l4 := ltA Pr10.lt
  have l5 := ltA Pr11.lt
  refine Gets.via (fun _ k => (XS.aloadN A0 hx rfl (D d10_0) rfl rfl k)) ?_
  refine X0.callI (y := (⟨"java/lang/Record", "<init>", "()V"⟩ : MethodName)) (W := 0) rfl (w69 hw) (w70 hw) (w73 hw) (by decide) (X0.payM (sf := []) (rm11 hcx x h0 X0.old ) sf0 (w73 hw) (w72 hw) (by decide) (by decide)) rfl (sz hml rfl) (a := x) (argsL := []) (rest := []) (lenOf pd2 rfl) rfl rfl (mroom rfl rfl) (D d10_1) (by decide) (by decide) fun T6 h6 vm6 v6 X6 C6 z6 q6 => ?_
  obtain ⟨rfl, K6⟩ := q6
  rw [K6] at X6 C6
  have A7 := X6.at
  refine Gets.via (fun _ k => (XS.aloadN A7 hx rfl (D d10_4) rfl rfl k)) ?_
  refine X6.callS (W := 0) (w75 hw) (w76 hw) (w77 hw) (w78 hw) (by decide) (X6.payM (sf := []) (rmCoL2 hcx z d kd e0 e1 h0 X6.old Pr5 Pr6 Pr7 Pr8 Pr9 Pr10 Pr11) sf0 (w78 hw) (w77 hw) (by decide) (by decide)) rfl (sz hml rfl) (argsL := [(.ref z)]) (rest := []) (lenOf pd7 rfl) rfl rfl (mroom rfl rfl) (D d10_5) (by decide) (by decide) fun T8 h8 vm8 v8 X8 C8 z8 q8 => ?_
  obtain ⟨a8, rfl, K8, g8_0, g8_1, g8_2, g8_3⟩ := q8
  have l9 := ltA g8_0.lt
  have A10 := X8.at
  refine Gets.via (fun _ k => (XS.astoreN A10 hx rfl (D d10_8) rfl rfl (l' := #[vR x, vR u, vR a8, vR v1]) rfl (XS.aloadN A10 hx rfl (D d10_9) rfl rfl (XS.aloadN A10 hx rfl (D d10_10) rfl rfl k)))) ?_
  show Gets p e below _ (T8.setTop (mkF m 11 #[vR x, vR u, vR a8, vR v1] [(.ref u), (.ref x)]))
  have f12 := Pr1.keep K8 nin0
  have f13 := Pr0.keep K8
  refine X8.putF (host := "") (Or.inl (w104 hw)) Via.refl f12 f13 (Or.inr ⟨(w105 hw), rfl, hnm⟩) (w62 hw) (ty := (.object "java/lang/String")) (by decide) rfl rfl (leA (by omega)) (Safe.exa X8.hZ.alike f13 (by decide) (by decide)) rfl rfl (D d10_11) fun T11 h11 X11 C11 W11 F11 Z11 => ?_
  have z11 := W11.size
  have A14 := X11.at
  refine Gets.via (fun _ k => (XS.aloadN A14 hx rfl (D d10_14) rfl rfl (XS.aloadN A14 hx rfl (D d10_15) rfl rfl k))) ?_
  have f16 := Pr2.keep K8 nin0
  have f17 := f16.other W11 (Or.inr (slot_ne (t := (.object "java/util/List")) (t' := (.object "java/lang/String")) (Or.inr (w107 hw)) (Or.inr (w105 hw)) (by decide) (by decide) (by decide)))
  refine X11.putF (host := "") (Or.inl (w106 hw)) Via.refl f17 Z11 (Or.inr ⟨(w107 hw), rfl, hnm⟩) (w62 hw) (ty := (.object "java/util/List")) (by decide) rfl rfl (leA (by omega)) (Safe.exa X11.hZ.alike Z11 (by decide) (by decide)) rfl rfl (D d10_16) fun T15 h15 X15 C15 W15 F15 Z15 => ?_
  have z15 := W15.size
  have A18 := X15.at
  refine Gets.via (fun _ k => (XS.aloadN A18 hx rfl (D d10_19) rfl rfl (XS.aloadN A18 hx rfl (D d10_20) rfl rfl k))) ?_
  have f20 := Pr3.keep K8 nin0
  have f21 := f20.other W11 (Or.inr (slot_ne (t := (.object "java/lang/String")) (t' := (.object "java/lang/String")) (Or.inr (w109 hw)) (Or.inr (w105 hw)) (by decide) (by decide) (by decide)))
  have f22 := f21.other W15 (Or.inr (slot_ne (t := (.object "java/lang/String")) (t' := (.object "java/util/List")) (Or.inr (w109 hw)) (Or.inr (w107 hw)) (by decide) (by decide) (by decide)))
  refine X15.putF (host := "") (Or.inl (w108 hw)) Via.refl f22 Z15 (Or.inr ⟨(w109 hw), rfl, hnm⟩) (w62 hw) (ty := (.object "java/lang/String")) (by decide) rfl rfl (leA (by omega)) (Safe.exa X15.hZ.alike Z15 (by decide) (by decide)) rfl rfl (D d10_21) fun T19 h19 X19 C19 W19 F19 Z19 => ?_
  have z19 := W19.size
  show Gets p e below _ (T19.setTop (mkF m 24 #[vR x, vR u, vR a8, vR v1] []))
  have f23 := F15.other W19 (Or.inr (slot_ne (t := (.object "java/util/List")) (t' := (.object "java/lang/String")) (Or.inr (w107 hw)) (Or.inr (w109 hw)) (by decide) (by decide) (by decide)))
  have f24 := g8_0.wr W11
  have f25 := f24.wr W15
  have f26 := f25.wr W19
  have f27 := g8_1.other W11 (Or.inl (neA (by omega)))
  have f28 := f27.other W15 (Or.inl (neA (by omega)))
  have f29 := f28.other W19 (Or.inl (neA (by omega)))
  have f30 := g8_2.other W11 (Or.inl (neA (by omega)))
  have f31 := f30.other W15 (Or.inl (neA (by omega)))
  have f32 := f31.other W19 (Or.inl (neA (by omega)))
  exact X19.retV hret (D d10_24) (by decide) (by decide) (fun vmE CE => ⟨a8, rfl, (((((Keep.refl h0 [x]).trans K8 all0).wr W11 (Or.inl (List.mem_of_getElem? (i := 0) rfl))).wr W15 (Or.inl (List.mem_of_getElem? (i := 0) rfl))).wr W19 (Or.inl (List.mem_of_getElem? (i := 0) rfl))), Z19, f23, f26, f29, f32⟩)
abbrev RrmL12s2 : Room := { frames := 0, cells := 0, slots := 0, locals := 0 }
def QrmL12s2 (Z : State) (de : Addr) (el : Addr) (em : Addr) (x : Addr) (e1 : Addr) (h0 : Heap) (v : Option Value) (vm : Vm) (h : Heap) : Prop := v = some (.int (2 : Int32)) ∧ h = h0
theorem rmL12s2 (hcx : Cx Z a0 zc de kde em el ee kee mr fm) (x : Addr) (e1 : Addr) (h0 : Heap) (O0 : Old Z Z.heap.size h0) (Pr0 : Fld Z h0 x "java/util/ImmutableCollections$List12" "e1" "Ljava/lang/Object;" (.ref e1)) (Pr1 : e1 ≠ em) : Met l Z consts_1 (⟨"java/util/ImmutableCollections$List12", "size", "()I"⟩ : MethodName) jdk_44_method_3_code 1 (some .int) [] RrmL12s2 [] #[(.ref x)] h0 (QrmL12s2 Z de el em x e1 h0) := by
  have ⟨hw, hEL, O2, P5, OD, AD, XM, OM, OL, XL, FL, AE, MR, O4, P6⟩ := hcx
  refine Met.start (a0 := a0) (Ls := #[vR x]) pn42 hEL O0 (fun m => by first | (simp [entryFrame, mkF, argsToLocals, Value.category]; done) | rfl) ?_
  intro p e s m below meth cc T0 vm0 X0 sf0_ hby hml hret hnm
  have hx := X0.hx
  have D : ∀ {n r}, decode jdk_44_method_3_code n = r → decode cc.code n = r := fun d => hb hby d
  have zz := X0.ge
  have A0 := X0.at
  have l1 := ltA Pr0.lt
  have l2 := neA Pr1
  refine Gets.via (fun _ k => (XS.aloadN A0 hx rfl (D d42_0) rfl rfl k)) ?_
  refine X0.getF (host := "") (Or.inl (w268 hw)) Via.refl Pr0 rfl rfl (D d42_1) fun T3 X3 => ?_
  refine X3.getS (host := "java/util/ImmutableCollections") (Or.inr (w276 hw)) Via.refl (X3.sta OM) rfl (D d42_4) fun T4 X4 => ?_
  refine X4.acmpW hx rfl rfl rfl (pc0 := 7) (pc' := 10) (same := false) rfl (D d42_7) rfl (decide_eq_false fun q => Pr1 (Value.ref.inj q)) (by decide) (by decide) ?_
  show Gets p e below _ (T4.setTop (mkF m 10 #[vR x] []))
  have A5 := X4.at
  refine Gets.via (fun _ k => (XS.iconst A5 hx rfl (D d42_10) (XS.goto A5 hx rfl (pc0 := 11) (pc' := 15) rfl (D d42_11) (by decide) (by decide) k))) ?_
  exact X4.retI hret rfl (by simp) (D d42_15) (by decide) (by decide) (fun vmE CE => ⟨rfl, rfl⟩)
abbrev RrmL12g0 : Room := { frames := 0, cells := 0, slots := 0, locals := 0 }
def QrmL12g0 (Z : State) (de : Addr) (el : Addr) (em : Addr) (x : Addr) (e0 : Addr) (h0 : Heap) (v : Option Value) (vm : Vm) (h : Heap) : Prop := v = some (.ref e0) ∧ h = h0
theorem rmL12g0 (hcx : Cx Z a0 zc de kde em el ee kee mr fm) (x : Addr) (e0 : Addr) (h0 : Heap) (O0 : Old Z Z.heap.size h0) (Pr0 : Fld Z h0 x "java/util/ImmutableCollections$List12" "e0" "Ljava/lang/Object;" (.ref e0)) : Met l Z consts_1 (⟨"java/util/ImmutableCollections$List12", "get", "(I)Ljava/lang/Object;"⟩ : MethodName) jdk_44_method_5_code 2 (some (.object "java/lang/Object")) [] RrmL12g0 [] #[(.ref x), (.int (0 : Int32))] h0 (QrmL12g0 Z de el em x e0 h0) := by
  have ⟨hw, hEL, O2, P5, OD, AD, XM, OM, OL, XL, FL, AE, MR, O4, P6⟩ := hcx
  refine Met.start (a0 := a0) (Ls := #[vR x, vI (0 : Int32)]) pn43 hEL O0 (fun m => by first | (simp [entryFrame, mkF, argsToLocals, Value.category]; done) | rfl) ?_
  intro p e s m below meth cc T0 vm0 X0 sf0_ hby hml hret hnm
  have hx := X0.hx
  have D : ∀ {n r}, decode jdk_44_method_5_code n = r → decode cc.code n = r := fun d => hb hby d
  have zz := X0.ge
  have A0 := X0.at
  have l1 := ltA Pr0.lt
  refine Gets.via (fun _ k => (XS.iloadN A0 hx rfl (D d43_0) rfl (XS.ifNo A0 hx rfl (D d43_1) rfl (Jvm.Free.XT.i0_ne_f (by decide)) k))) ?_
  refine Gets.via (fun _ k => (XS.aloadN A0 hx rfl (D d43_4) rfl rfl k)) ?_
  refine X0.getF (host := "") (Or.inl (w266 hw)) Via.refl Pr0 rfl rfl (D d43_5) fun T2 X2 => ?_
  exact X2.retA hret rfl rfl rfl (D d43_8) (by decide) (by decide) (fun vmE CE => ⟨rfl, rfl⟩)
abbrev RrmL12g1 : Room := { frames := 0, cells := 0, slots := 0, locals := 0 }
def QrmL12g1 (Z : State) (de : Addr) (el : Addr) (em : Addr) (x : Addr) (e1 : Addr) (h0 : Heap) (v : Option Value) (vm : Vm) (h : Heap) : Prop := v = some (.ref e1) ∧ h = h0
theorem rmL12g1 (hcx : Cx Z a0 zc de kde em el ee kee mr fm) (x : Addr) (e1 : Addr) (h0 : Heap) (O0 : Old Z Z.heap.size h0) (Pr0 : Fld Z h0 x "java/util/ImmutableCollections$List12" "e1" "Ljava/lang/Object;" (.ref e1)) (Pr1 : e1 ≠ em) : Met l Z consts_1 (⟨"java/util/ImmutableCollections$List12", "get", "(I)Ljava/lang/Object;"⟩ : MethodName) jdk_44_method_5_code 2 (some (.object "java/lang/Object")) [] RrmL12g1 [] #[(.ref x), (.int (1 : Int32))] h0 (QrmL12g1 Z de el em x e1 h0) := by
  have ⟨hw, hEL, O2, P5, OD, AD, XM, OM, OL, XL, FL, AE, MR, O4, P6⟩ := hcx
  refine Met.start (a0 := a0) (Ls := #[vR x, vI (1 : Int32)]) pn43 hEL O0 (fun m => by first | (simp [entryFrame, mkF, argsToLocals, Value.category]; done) | rfl) ?_
  intro p e s m below meth cc T0 vm0 X0 sf0_ hby hml hret hnm
  have hx := X0.hx
  have D : ∀ {n r}, decode jdk_44_method_5_code n = r → decode cc.code n = r := fun d => hb hby d
  have zz := X0.ge
  have A0 := X0.at
  have l1 := ltA Pr0.lt
  have l2 := neA Pr1
  refine Gets.via (fun _ k => (XS.iloadN A0 hx rfl (D d43_0) rfl (XS.ifYes A0 hx rfl (pc0 := 1) (pc' := 9) rfl (D d43_1) rfl (Jvm.Free.XT.i0_ne_t (by decide)) (by decide) (by decide) k))) ?_
  refine Gets.via (fun _ k => (XS.iloadN A0 hx rfl (D d43_9) rfl (XS.iconst A0 hx rfl (D d43_10) (XS.icmpNo A0 hx rfl (D d43_11) rfl (Jvm.Free.XT.ii_ne_f (by decide)) k)))) ?_
  refine Gets.via (fun _ k => (XS.aloadN A0 hx rfl (D d43_14) rfl rfl k)) ?_
  refine X0.getF (host := "") (Or.inl (w268 hw)) Via.refl Pr0 rfl rfl (D d43_15) fun T3 X3 => ?_
  show Gets p e below _ (T3.setTop (mkF m 18 #[vR x, vI (1 : Int32)] [(.ref e1)]))
  refine X3.getS (host := "java/util/ImmutableCollections") (Or.inr (w276 hw)) Via.refl (X3.sta OM) rfl (D d43_18) fun T4 X4 => ?_
  refine X4.acmpW hx rfl rfl rfl (pc0 := 21) (pc' := 24) (same := false) rfl (D d43_21) rfl (decide_eq_false fun q => Pr1 (Value.ref.inj q)) (by decide) (by decide) ?_
  have A5 := X4.at
  refine Gets.via (fun _ k => (XS.aloadN A5 hx rfl (D d43_24) rfl rfl k)) ?_
  refine X4.getF (host := "") (Or.inl (w268 hw)) Via.refl Pr0 rfl rfl (D d43_25) fun T6 X6 => ?_
  exact X6.retA hret rfl rfl rfl (D d43_28) (by decide) (by decide) (fun vmE CE => ⟨rfl, rfl⟩)
abbrev RrmRoh2t : Room := { frames := 2, cells := 2, slots := 16, locals := 28 }
def QrmRoh2t (Z : State) (de : Addr) (el : Addr) (em : Addr) (x : Addr) (L : Addr) (e0 : Addr) (e1 : Addr) (b0 : Addr) (k0 : ClassId) (cs : List Int32) (b1 : Addr) (k1 : ClassId) (ds : List Int32) (h0 : Heap) (v : Option Value) (vm : Vm) (h : Heap) : Prop := v = some (.ref e1) ∧ Keep h0 h []
theorem rmRoh2t (hcx : Cx Z a0 zc de kde em el ee kee mr fm) (x : Addr) (L : Addr) (e0 : Addr) (e1 : Addr) (b0 : Addr) (k0 : ClassId) (cs : List Int32) (b1 : Addr) (k1 : ClassId) (ds : List Int32) (h0 : Heap) (O0 : Old Z Z.heap.size h0) (Pr0 : Exa Z h0 x "com/example/packwright/packwright/model/Node") (Pr1 : Fld Z h0 x "com/example/packwright/packwright/model/Node" "subscripts" "Ljava/util/List;" (.ref L)) (Pr2 : Exa Z h0 L "java/util/ImmutableCollections$List12") (Pr3 : Fld Z h0 L "java/util/ImmutableCollections$List12" "e0" "Ljava/lang/Object;" (.ref e0)) (Pr4 : Fld Z h0 L "java/util/ImmutableCollections$List12" "e1" "Ljava/lang/Object;" (.ref e1)) (Pr5 : Str Z h0 e0 b0 k0 cs) (Pr6 : Str Z h0 e1 b1 k1 ds) (Pr7 : cs = [(82 : Int32), (84 : Int32), (78 : Int32)]) : Met l Z consts_1 (⟨"com/example/packwright/packwright/io/BuildAssembler", "routineOfHeader", "(Lcom/example/packwright/packwright/model/Node;)Ljava/lang/String;"⟩ : MethodName) prog_4_method_11_code 2 (some (.object "java/lang/String")) [] RrmRoh2t [] #[(.ref x)] h0 (QrmRoh2t Z de el em x L e0 e1 b0 k0 cs b1 k1 ds h0) := by
  have ⟨hw, hEL, O2, P5, OD, AD, XM, OM, OL, XL, FL, AE, MR, O4, P6⟩ := hcx
  refine Met.start (a0 := a0) (Ls := #[vR x, .unset]) pn16 hEL O0 (fun m => by first | (simp [entryFrame, mkF, argsToLocals, Value.category]; done) | rfl) ?_
  intro p e s m below meth cc T0 vm0 X0 sf0_ hby hml hret hnm
  have hx := X0.hx
  have D : ∀ {n r}, decode prog_4_method_11_code n = r → decode cc.code n = r := fun d => hb hby d
  have zz := X0.ge
  have A0 := X0.at
  have l1 := ltA Pr0.lt
  have l2 := ltA Pr2.lt
  have l3 := ltA Pr5.lt
  have l4 := ltA Pr5.lb
  have l5 := ltA Pr6.lt
  have l6 := ltA Pr6.lb
  refine Gets.via (fun _ k => (XS.aloadN A0 hx rfl (D d16_0) rfl rfl k)) ?_
  refine X0.callV (W := 0) (w114 hw) (w115 hw) (w117 hw) (w116 hw) (nfs rfl (w117 hw)) (by decide) (X0.payM (sf := []) (rmSubs hcx x L h0 X0.old Pr1) sf0 (w118 hw) (w63 hw) (by decide) (by decide)) Pr0 rfl (sz hml rfl) (argsL := []) (rest := []) (lenOf pd6 rfl) rfl rfl (mroom rfl rfl) (D d16_1) (by decide) (by decide) fun T7 h7 vm7 v7 X7 C7 z7 q7 => ?_
  obtain ⟨rfl, K7⟩ := q7
  rw [K7] at X7 C7
  have A8 := X7.at
  refine Gets.via (fun _ k => (XS.astoreN A8 hx rfl (D d16_4) rfl rfl (l' := #[vR x, vR L]) rfl (XS.aloadN A8 hx rfl (D d16_5) rfl rfl k))) ?_
  have f10 : Exa Z h0 em "java/lang/Object" := XM.ext X7.old.2
  have nm9 : e1 ≠ em := ne_exa Pr6.1 f10 (by decide)
  refine X7.callF (W := 0) (w119 hw) (w120 hw) (w121 hw) rfl (w270 hw) (w271 hw) (w272 hw) (w273 hw) (w274 hw) (by decide) (X7.payM (sf := []) (rmL12s2 hcx L e1 h0 X7.old Pr4 nm9) sf0 (w275 hw) (w256 hw) (by decide) (by decide)) Pr2 rfl (sz hml rfl) (argsL := []) (rest := []) (lenOf pd9 rfl) rfl rfl (mroom rfl rfl) (D d16_6) (by decide) (by decide) fun T11 h11 vm11 v11 X11 C11 z11 q11 => ?_
  obtain ⟨rfl, K11⟩ := q11
  rw [K11] at X11 C11
  show Gets p e below _ (T11.setTop (mkF m 11 #[vR x, vR L] [(.int (2 : Int32))]))
  have A12 := X11.at
  refine Gets.via (fun _ k => (XS.iconst A12 hx rfl (D d16_11) (XS.icmpNo A12 hx rfl (D d16_12) rfl (Jvm.Free.XT.ii_ne_f (by decide)) k))) ?_
  refine Gets.via (fun _ k => (XS.aloadN A12 hx rfl (D d16_15) rfl rfl (XS.iconst A12 hx rfl (D d16_16) k))) ?_
  refine X11.callF (W := 0) (w277 hw) (w278 hw) (w279 hw) rfl (w280 hw) (w281 hw) (w282 hw) (w283 hw) (w274 hw) (by decide) (X11.payM (sf := []) (rmL12g0 hcx L e0 h0 X11.old Pr3) sf0 (w284 hw) (w256 hw) (by decide) (by decide)) Pr2 rfl (sz hml rfl) (argsL := [(.int (0 : Int32))]) (rest := []) (lenOf pd22 rfl) rfl rfl (mroom rfl rfl) (D d16_17) (by decide) (by decide) fun T13 h13 vm13 v13 X13 C13 z13 q13 => ?_
  obtain ⟨rfl, K13⟩ := q13
  rw [K13] at X13 C13
  refine X13.cast (w285 hw) (Ins.self Pr5.1) rfl rfl (D d16_22) fun T14 X14 => ?_
  refine X14.ldcC (w286 hw) (wSt hw) (by decide) (vs := [(.int (82 : Int32)), (.int (84 : Int32)), (.int (78 : Int32))]) (z := (3 : Int32)) ⟨by decide, by decide⟩ (by decide) (by decide) rfl (D d16_25) (n := 12) (by decide) (by decide) (by decide) (by decide) fun T15 h15 vm15 a15 yb15 k15 X15 C15 E15 Z15 Fc15 Fv15 V15 q15 => ?_
  have z15 := E15.1
  have l15 := ltA Z15.lt
  have lb15 := ltA V15.lt
  show Gets p e below _ (T15.setTop (mkF m 27 #[vR x, vR L] [(.ref a15), (.ref e0)]))
  have f16 : Str Z h15 e0 b0 k0 cs := Pr5.ext E15
  have f17 : Str Z h15 a15 yb15 k15 [(82 : Int32), (84 : Int32), (78 : Int32)] := ⟨Z15, Fc15, Fv15, V15, (allI ⟨by decide, by decide⟩ (allI ⟨by decide, by decide⟩ (allI ⟨by decide, by decide⟩ allN))), Nat.le_of_ble_eq_true rfl⟩
  refine X15.callV (W := 0) (w287 hw) (w288 hw) (w290 hw) (w289 hw) (nfs rfl (w290 hw)) (by decide) (payEq X15 hw (w5 hw) f16 f17 O2 P5 (by decide) (by decide)) f16.1 rfl (sz hml rfl) (argsL := [(.ref a15)]) (rest := []) (lenOf pd16 rfl) rfl rfl (mroom rfl rfl) (D d16_27) (by decide) (by decide) fun T18 h18 vm18 v18 X18 C18 z18 q18 => ?_
  obtain ⟨rfl, K18⟩ := q18
  rw [K18] at X18 C18
  have A19 := X18.at
  refine Gets.via (fun _ k => (XS.ifNo A19 hx rfl (D d16_30) rfl (Jvm.Free.XT.i0_eq_f (by rw [if_pos Pr7]; decide)) k)) ?_
  refine Gets.via (fun _ k => (XS.aloadN A19 hx rfl (D d16_33) rfl rfl (XS.iconst A19 hx rfl (D d16_34) k))) ?_
  have f20 := Pr2.ext E15
  have f21 := Pr4.ext E15
  have f22 : Str Z h15 e1 b1 k1 ds := Pr6.ext E15
  have f24 := f10.ext E15
  have nm23 : e1 ≠ em := ne_exa f22.1 f24 (by decide)
  refine X18.callF (W := 0) (w277 hw) (w278 hw) (w279 hw) rfl (w280 hw) (w281 hw) (w282 hw) (w283 hw) (w274 hw) (by decide) (X18.payM (sf := []) (rmL12g1 hcx L e1 h15 X18.old f21 nm23) sf0 (w284 hw) (w256 hw) (by decide) (by decide)) f20 rfl (sz hml rfl) (argsL := [(.int (1 : Int32))]) (rest := []) (lenOf pd22 rfl) rfl rfl (mroom rfl rfl) (D d16_35) (by decide) (by decide) fun T25 h25 vm25 v25 X25 C25 z25 q25 => ?_
  obtain ⟨rfl, K25⟩ := q25
  rw [K25] at X25 C25
  refine X25.cast (w285 hw) (Ins.self f22.1) rfl rfl (D d16_40) fun T26 X26 => ?_
  show Gets p e below _ (T26.setTop (mkF m 43 #[vR x, vR L] [(.ref e1)]))
  have A27 := X26.at
  refine Gets.via (fun _ k => (XS.goto A27 hx rfl (pc0 := 43) (pc' := 47) rfl (D d16_43) (by decide) (by decide) k)) ?_
  exact X26.retA hret rfl rfl rfl (D d16_47) (by decide) (by decide) (fun vmE CE => ⟨rfl, ((Keep.refl h0 []).ext E15)⟩)
abbrev RrmRoh2f : Room := { frames := 2, cells := 2, slots := 16, locals := 28 }
def QrmRoh2f (Z : State) (de : Addr) (el : Addr) (em : Addr) (x : Addr) (L : Addr) (e0 : Addr) (e1 : Addr) (b0 : Addr) (k0 : ClassId) (cs : List Int32) (b1 : Addr) (k1 : ClassId) (ds : List Int32) (h0 : Heap) (v : Option Value) (vm : Vm) (h : Heap) : Prop := v = some .null ∧ Keep h0 h []
theorem rmRoh2f (hcx : Cx Z a0 zc de kde em el ee kee mr fm) (x : Addr) (L : Addr) (e0 : Addr) (e1 : Addr) (b0 : Addr) (k0 : ClassId) (cs : List Int32) (b1 : Addr) (k1 : ClassId) (ds : List Int32) (h0 : Heap) (O0 : Old Z Z.heap.size h0) (Pr0 : Exa Z h0 x "com/example/packwright/packwright/model/Node") (Pr1 : Fld Z h0 x "com/example/packwright/packwright/model/Node" "subscripts" "Ljava/util/List;" (.ref L)) (Pr2 : Exa Z h0 L "java/util/ImmutableCollections$List12") (Pr3 : Fld Z h0 L "java/util/ImmutableCollections$List12" "e0" "Ljava/lang/Object;" (.ref e0)) (Pr4 : Fld Z h0 L "java/util/ImmutableCollections$List12" "e1" "Ljava/lang/Object;" (.ref e1)) (Pr5 : Str Z h0 e0 b0 k0 cs) (Pr6 : Str Z h0 e1 b1 k1 ds) (Pr7 : ¬ cs = [(82 : Int32), (84 : Int32), (78 : Int32)]) : Met l Z consts_1 (⟨"com/example/packwright/packwright/io/BuildAssembler", "routineOfHeader", "(Lcom/example/packwright/packwright/model/Node;)Ljava/lang/String;"⟩ : MethodName) prog_4_method_11_code 2 (some (.object "java/lang/String")) [] RrmRoh2f [] #[(.ref x)] h0 (QrmRoh2f Z de el em x L e0 e1 b0 k0 cs b1 k1 ds h0) := by
  have ⟨hw, hEL, O2, P5, OD, AD, XM, OM, OL, XL, FL, AE, MR, O4, P6⟩ := hcx
  refine Met.start (a0 := a0) (Ls := #[vR x, .unset]) pn16 hEL O0 (fun m => by first | (simp [entryFrame, mkF, argsToLocals, Value.category]; done) | rfl) ?_
  intro p e s m below meth cc T0 vm0 X0 sf0_ hby hml hret hnm
  have hx := X0.hx
  have D : ∀ {n r}, decode prog_4_method_11_code n = r → decode cc.code n = r := fun d => hb hby d
  have zz := X0.ge
  have A0 := X0.at
  have l1 := ltA Pr0.lt
  have l2 := ltA Pr2.lt
  have l3 := ltA Pr5.lt
  have l4 := ltA Pr5.lb
  have l5 := ltA Pr6.lt
  have l6 := ltA Pr6.lb
  refine Gets.via (fun _ k => (XS.aloadN A0 hx rfl (D d16_0) rfl rfl k)) ?_
  refine X0.callV (W := 0) (w114 hw) (w115 hw) (w117 hw) (w116 hw) (nfs rfl (w117 hw)) (by decide) (X0.payM (sf := []) (rmSubs hcx x L h0 X0.old Pr1) sf0 (w118 hw) (w63 hw) (by decide) (by decide)) Pr0 rfl (sz hml rfl) (argsL := []) (rest := []) (lenOf pd6 rfl) rfl rfl (mroom rfl rfl) (D d16_1) (by decide) (by decide) fun T7 h7 vm7 v7 X7 C7 z7 q7 => ?_
  obtain ⟨rfl, K7⟩ := q7
  rw [K7] at X7 C7
  have A8 := X7.at
  refine Gets.via (fun _ k => (XS.astoreN A8 hx rfl (D d16_4) rfl rfl (l' := #[vR x, vR L]) rfl (XS.aloadN A8 hx rfl (D d16_5) rfl rfl k))) ?_
  have f10 : Exa Z h0 em "java/lang/Object" := XM.ext X7.old.2
  have nm9 : e1 ≠ em := ne_exa Pr6.1 f10 (by decide)
  refine X7.callF (W := 0) (w119 hw) (w120 hw) (w121 hw) rfl (w270 hw) (w271 hw) (w272 hw) (w273 hw) (w274 hw) (by decide) (X7.payM (sf := []) (rmL12s2 hcx L e1 h0 X7.old Pr4 nm9) sf0 (w275 hw) (w256 hw) (by decide) (by decide)) Pr2 rfl (sz hml rfl) (argsL := []) (rest := []) (lenOf pd9 rfl) rfl rfl (mroom rfl rfl) (D d16_6) (by decide) (by decide) fun T11 h11 vm11 v11 X11 C11 z11 q11 => ?_
  obtain ⟨rfl, K11⟩ := q11
  rw [K11] at X11 C11
  show Gets p e below _ (T11.setTop (mkF m 11 #[vR x, vR L] [(.int (2 : Int32))]))
  have A12 := X11.at
  refine Gets.via (fun _ k => (XS.iconst A12 hx rfl (D d16_11) (XS.icmpNo A12 hx rfl (D d16_12) rfl (Jvm.Free.XT.ii_ne_f (by decide)) k))) ?_
  refine Gets.via (fun _ k => (XS.aloadN A12 hx rfl (D d16_15) rfl rfl (XS.iconst A12 hx rfl (D d16_16) k))) ?_
  refine X11.callF (W := 0) (w277 hw) (w278 hw) (w279 hw) rfl (w280 hw) (w281 hw) (w282 hw) (w283 hw) (w274 hw) (by decide) (X11.payM (sf := []) (rmL12g0 hcx L e0 h0 X11.old Pr3) sf0 (w284 hw) (w256 hw) (by decide) (by decide)) Pr2 rfl (sz hml rfl) (argsL := [(.int (0 : Int32))]) (rest := []) (lenOf pd22 rfl) rfl rfl (mroom rfl rfl) (D d16_17) (by decide) (by decide) fun T13 h13 vm13 v13 X13 C13 z13 q13 => ?_
  obtain ⟨rfl, K13⟩ := q13
  rw [K13] at X13 C13
  refine X13.cast (w285 hw) (Ins.self Pr5.1) rfl rfl (D d16_22) fun T14 X14 => ?_
  refine X14.ldcC (w286 hw) (wSt hw) (by decide) (vs := [(.int (82 : Int32)), (.int (84 : Int32)), (.int (78 : Int32))]) (z := (3 : Int32)) ⟨by decide, by decide⟩ (by decide) (by decide) rfl (D d16_25) (n := 12) (by decide) (by decide) (by decide) (by decide) fun T15 h15 vm15 a15 yb15 k15 X15 C15 E15 Z15 Fc15 Fv15 V15 q15 => ?_
  have z15 := E15.1
  have l15 := ltA Z15.lt
  have lb15 := ltA V15.lt
  show Gets p e below _ (T15.setTop (mkF m 27 #[vR x, vR L] [(.ref a15), (.ref e0)]))
  have f16 : Str Z h15 e0 b0 k0 cs := Pr5.ext E15
  have f17 : Str Z h15 a15 yb15 k15 [(82 : Int32), (84 : Int32), (78 : Int32)] := ⟨Z15, Fc15, Fv15, V15, (allI ⟨by decide, by decide⟩ (allI ⟨by decide, by decide⟩ (allI ⟨by decide, by decide⟩ allN))), Nat.le_of_ble_eq_true rfl⟩
  refine X15.callV (W := 0) (w287 hw) (w288 hw) (w290 hw) (w289 hw) (nfs rfl (w290 hw)) (by decide) (payEq X15 hw (w5 hw) f16 f17 O2 P5 (by decide) (by decide)) f16.1 rfl (sz hml rfl) (argsL := [(.ref a15)]) (rest := []) (lenOf pd16 rfl) rfl rfl (mroom rfl rfl) (D d16_27) (by decide) (by decide) fun T18 h18 vm18 v18 X18 C18 z18 q18 => ?_
  obtain ⟨rfl, K18⟩ := q18
  rw [K18] at X18 C18
  have A19 := X18.at
  refine Gets.via (fun _ k => (XS.ifYes A19 hx rfl (pc0 := 30) (pc' := 46) rfl (D d16_30) rfl (Jvm.Free.XT.i0_eq_t (if_neg Pr7)) (by decide) (by decide) k)) ?_
  refine Gets.via (fun _ k => (XS.aconstNull A19 hx rfl (D d16_46) k)) ?_
  exact X18.retA hret rfl rfl rfl (D d16_47) (by decide) (by decide) (fun vmE CE => ⟨rfl, ((Keep.refl h0 []).ext E15)⟩)
abbrev RrmAddT2 : Room := { frames := 0, cells := 0, slots := 0, locals := 0 }
def QrmAddT2 (Z : State) (de : Addr) (el : Addr) (em : Addr) (x : Addr) (y : Addr) (mc : Int32) (d : Addr) (kd : ClassId) (e0 : Addr) (e1 : Addr) (h0 : Heap) (v : Option Value) (vm : Vm) (h : Heap) : Prop := v = none ∧ Keep h0 h [x, d] ∧ Exa Z h x "java/util/ArrayList" ∧ Fld Z h x "java/util/AbstractList" "modCount" "I" (.int mc) ∧ Fld Z h x "java/util/ArrayList" "size" "I" (.int (3 : Int32)) ∧ Fld Z h x "java/util/ArrayList" "elementData" "[Ljava/lang/Object;" (.ref d) ∧ Arv Z h d kd (.object "java/lang/Object") (10 : Int32) [(.ref e0), (.ref e1), (.ref y), .null, .null, .null, .null, .null, .null, .null] .null ∧ Exa Z h d "[Ljava/lang/Object;"
theorem rmAddT2 (hcx : Cx Z a0 zc de kde em el ee kee mr fm) (x : Addr) (y : Addr) (mc : Int32) (d : Addr) (kd : ClassId) (e0 : Addr) (e1 : Addr) (h0 : Heap) (O0 : Old Z Z.heap.size h0) (Pr0 : Exa Z h0 x "java/util/ArrayList") (Pr1 : Fld Z h0 x "java/util/AbstractList" "modCount" "I" (.int mc)) (Pr2 : Fld Z h0 x "java/util/ArrayList" "size" "I" (.int (2 : Int32))) (Pr3 : Fld Z h0 x "java/util/ArrayList" "elementData" "[Ljava/lang/Object;" (.ref d)) (Pr4 : Arv Z h0 d kd (.object "java/lang/Object") (10 : Int32) [(.ref e0), (.ref e1), .null, .null, .null, .null, .null, .null, .null, .null] .null) (Pr5 : Exa Z h0 d "[Ljava/lang/Object;") (Pr6 : Ovr Z kd "java/lang/Object") (Pr7 : Z.heap.size ≤ d) (Pr8 : x ≠ d) (Pr9 : Z.heap.size ≤ x) (Pr10 : Exa Z h0 y "java/lang/String") : Met l Z consts_1 (⟨"java/util/ArrayList", "add", "(Ljava/lang/Object;[Ljava/lang/Object;I)V"⟩ : MethodName) jdk_38_method_24_code 4 (none) [] RrmAddT2 [] #[(.ref x), (.ref y), (.ref d), (.int (2 : Int32))] h0 (QrmAddT2 Z de el em x y mc d kd e0 e1 h0) := by
  have ⟨hw, hEL, O2, P5, OD, AD, XM, OM, OL, XL, FL, AE, MR, O4, P6⟩ := hcx
  refine Met.start (a0 := a0) (Ls := #[vR x, vR y, vR d, vI (2 : Int32)]) pn22 hEL O0 (fun m => by first | (simp [entryFrame, mkF, argsToLocals, Value.category]; done) | rfl) ?_
  intro p e s m below meth cc T0 vm0 X0 sf0_ hby hml hret hnm
  have hx := X0.hx
  have D : ∀ {n r}, decode jdk_38_method_24_code n = r → decode cc.code n = r := fun d => hb hby d
  have zz := X0.ge
  have A0 := X0.at
  have l1 := ltA Pr0.lt
  have l2 := ltA Pr4.lt
  have l3 := neA Pr8
  have l4 := ltA Pr10.lt
  refine Gets.via (fun _ k => (XS.iloadN A0 hx rfl (D d22_0) rfl (XS.aloadN A0 hx rfl (D d22_1) rfl rfl k))) ?_
  refine X0.alen Pr4 rfl rfl (D d22_2) ?_
  refine Gets.via (fun _ k => (XS.icmpYes A0 hx rfl (pc0 := 3) (pc' := 11) rfl (D d22_3) rfl (Jvm.Free.XT.ii_ne_t (by decide)) (by decide) (by decide) k)) ?_
  refine Gets.via (fun _ k => (XS.aloadN A0 hx rfl (D d22_11) rfl rfl (XS.iloadN A0 hx rfl (D d22_12) rfl (XS.aloadN A0 hx rfl (D d22_13) rfl rfl k)))) ?_
  show Gets p e below _ (T0.setTop (mkF m 14 #[vR x, vR y, vR d, vI (2 : Int32)] [(.ref y), (.int (2 : Int32)), (.ref d)]))
  refine X0.stR Pr4 (stoV Pr4 Pr6 (Ins.of_exa Pr10 (w169 hw))) rfl (i := 2) (by decide) (by decide) (Nat.le_of_ble_eq_true rfl) (by decide) (leA (by omega)) rfl rfl (D d22_14) fun T5 h5 X5 C5 K5 V5 => ?_
  have z5 := K5.1
  have V5_ : Arv Z h5 d kd (.object "java/lang/Object") (10 : Int32) [(.ref e0), (.ref e1), (.ref y), .null, .null, .null, .null, .null, .null, .null] .null := V5
  have A6 := X5.at
  refine Gets.via (fun _ k => (XS.aloadN A6 hx rfl (D d22_15) rfl rfl (XS.iloadN A6 hx rfl (D d22_16) rfl (XS.iconst A6 hx rfl (D d22_17) (iaddV A6 hx rfl (D d22_18) rfl (v := (3 : Int32)) (by decide) k))))) ?_
  have f8 := Pr2.keep K5 (ninS (neA (by omega)) nin0)
  have f9 := Pr0.keep K5
  refine X5.putF (host := "") (Or.inl (w98 hw)) Via.refl f8 f9 (Or.inl (w99 hw)) (w38 hw) (ty := .int) (by decide) rfl rfl (leA (by omega)) (Safe.exa X5.hZ.alike f9 (by decide) (by decide)) rfl rfl (D d22_19) fun T7 h7 X7 C7 W7 F7 Z7 => ?_
  have z7 := W7.size
  have f10 := Pr1.keep K5 (ninS (neA (by omega)) nin0)
  have f11 := f10.other W7 (Or.inr (slot_ne (t := .int) (t' := .int) (Or.inl (w57 hw)) (Or.inl (w99 hw)) (by decide) (by decide) (by decide)))
  have f12 := Pr3.keep K5 (ninS (neA (by omega)) nin0)
  have f13 := f12.other W7 (Or.inr (slot_ne (t := (.array (.object "java/lang/Object"))) (t' := .int) (Or.inl (w60 hw)) (Or.inl (w99 hw)) (by decide) (by decide) (by decide)))
  have f14 := V5_.other W7 (neA (by omega))
  have f15 := Pr5.keep K5
  have f16 := f15.wr W7
  exact X7.retV hret (D d22_22) (by decide) (by decide) (fun vmE CE => ⟨rfl, (((Keep.refl h0 [x, d]).trans K5 (allS (Or.inl (List.mem_of_getElem? (i := 1) rfl)) all0)).wr W7 (Or.inl (List.mem_of_getElem? (i := 0) rfl))), Z7, f11, F7, f13, f14, f16⟩)
abbrev RrmAdd2 : Room := { frames := 1, cells := 0, slots := 0, locals := 15 }
def QrmAdd2 (Z : State) (de : Addr) (el : Addr) (em : Addr) (x : Addr) (y : Addr) (mc : Int32) (d : Addr) (kd : ClassId) (e0 : Addr) (e1 : Addr) (h0 : Heap) (v : Option Value) (vm : Vm) (h : Heap) : Prop := v = some (.int (1 : Int32)) ∧ Keep h0 h [x, d] ∧ Exa Z h x "java/util/ArrayList" ∧ Fld Z h x "java/util/AbstractList" "modCount" "I" (.int (mc + (1 : Int32))) ∧ Fld Z h x "java/util/ArrayList" "size" "I" (.int (3 : Int32)) ∧ Fld Z h x "java/util/ArrayList" "elementData" "[Ljava/lang/Object;" (.ref d) ∧ Arv Z h d kd (.object "java/lang/Object") (10 : Int32) [(.ref e0), (.ref e1), (.ref y), .null, .null, .null, .null, .null, .null, .null] .null ∧ Exa Z h d "[Ljava/lang/Object;"
theorem rmAdd2 (hcx : Cx Z a0 zc de kde em el ee kee mr fm) (x : Addr) (y : Addr) (mc : Int32) (d : Addr) (kd : ClassId) (e0 : Addr) (e1 : Addr) (h0 : Heap) (O0 : Old Z Z.heap.size h0) (Pr0 : Exa Z h0 x "java/util/ArrayList") (Pr1 : Fld Z h0 x "java/util/AbstractList" "modCount" "I" (.int mc)) (Pr2 : Fld Z h0 x "java/util/ArrayList" "size" "I" (.int (2 : Int32))) (Pr3 : Fld Z h0 x "java/util/ArrayList" "elementData" "[Ljava/lang/Object;" (.ref d)) (Pr4 : Arv Z h0 d kd (.object "java/lang/Object") (10 : Int32) [(.ref e0), (.ref e1), .null, .null, .null, .null, .null, .null, .null, .null] .null) (Pr5 : Exa Z h0 d "[Ljava/lang/Object;") (Pr6 : Ovr Z kd "java/lang/Object") (Pr7 : Z.heap.size ≤ d) (Pr8 : x ≠ d) (Pr9 : Z.heap.size ≤ x) (Pr10 : Exa Z h0 y "java/lang/String") : Met l Z consts_1 (⟨"java/util/ArrayList", "add", "(Ljava/lang/Object;)Z"⟩ : MethodName) jdk_38_method_25_code 2 (some .boolean) [] RrmAdd2 [] #[(.ref x), (.ref y)] h0 (QrmAdd2 Z de el em x y mc d kd e0 e1 h0) := by
  have ⟨hw, hEL, O2, P5, OD, AD, XM, OM, OL, XL, FL, AE, MR, O4, P6⟩ := hcx
  refine Met.start (a0 := a0) (Ls := #[vR x, vR y]) pn21 hEL O0 (fun m => by first | (simp [entryFrame, mkF, argsToLocals, Value.category]; done) | rfl) ?_
  intro p e s m below meth cc T0 vm0 X0 sf0_ hby hml hret hnm
  have hx := X0.hx
  have D : ∀ {n r}, decode jdk_38_method_25_code n = r → decode cc.code n = r := fun d => hb hby d
  have zz := X0.ge
  have A0 := X0.at
  have l1 := ltA Pr0.lt
  have l2 := ltA Pr4.lt
  have l3 := neA Pr8
  have l4 := ltA Pr10.lt
  refine Gets.via (fun _ k => (XS.aloadN A0 hx rfl (D d21_0) rfl rfl (XS.dup A0 hx rfl (D d21_1) rfl rfl k))) ?_
  refine X0.getF (host := "") (Or.inl (w146 hw)) (Via.of (w147 hw)) Pr1 rfl rfl (D d21_2) fun T5 X5 => ?_
  have A6 := X5.at
  refine Gets.via (fun _ k => (XS.iconst A6 hx rfl (D d21_5) (XS.iadd A6 hx rfl (D d21_6) rfl k))) ?_
  refine X5.putF (host := "") (Or.inl (w146 hw)) (Via.of (w147 hw)) Pr1 Pr0 (Or.inl (w57 hw)) (w38 hw) (ty := .int) (by decide) rfl rfl (leA (by omega)) (Safe.exa X5.hZ.alike Pr0 (by decide) (by decide)) rfl rfl (D d21_7) fun T7 h7 X7 C7 W7 F7 Z7 => ?_
  have z7 := W7.size
  show Gets p e below _ (T7.setTop (mkF m 10 #[vR x, vR y] []))
  have A8 := X7.at
  refine Gets.via (fun _ k => (XS.aloadN A8 hx rfl (D d21_10) rfl rfl (XS.aloadN A8 hx rfl (D d21_11) rfl rfl (XS.aloadN A8 hx rfl (D d21_12) rfl rfl k)))) ?_
  have f10 := Pr3.other W7 (Or.inr (slot_ne (t := (.array (.object "java/lang/Object"))) (t' := .int) (Or.inl (w60 hw)) (Or.inl (w57 hw)) (by decide) (by decide) (by decide)))
  refine X7.getF (host := "") (Or.inl (w59 hw)) Via.refl f10 rfl rfl (D d21_13) fun T9 X9 => ?_
  have A11 := X9.at
  refine Gets.via (fun _ k => (XS.aloadN A11 hx rfl (D d21_16) rfl rfl k)) ?_
  have f13 := Pr2.other W7 (Or.inr (slot_ne (t := .int) (t' := .int) (Or.inl (w99 hw)) (Or.inl (w57 hw)) (by decide) (by decide) (by decide)))
  refine X9.getF (host := "") (Or.inl (w98 hw)) Via.refl f13 rfl rfl (D d21_17) fun T12 X12 => ?_
  have f14 := Pr4.other W7 (neA (by omega))
  have f15 := Pr5.wr W7
  have f16 := Pr10.wr W7
  refine X12.callP (W := 0) (w148 hw) (w149 hw) (w151 hw) (w150 hw) (w152 hw) (by decide) (X12.payM (sf := []) (rmAddT2 hcx x y (mc + (1 : Int32)) d kd e0 e1 h7 X12.old Z7 F7 f13 f10 f14 f15 Pr6 Pr7 Pr8 Pr9 f16) sf0 (w152 hw) (w39 hw) (by decide) (by decide)) Z7 rfl (sz hml rfl) (argsL := [(.ref y), (.ref d), (.int (2 : Int32))]) (rest := []) (lenOf pd15 rfl) rfl rfl (mroom rfl rfl) (D d21_20) (by decide) (by decide) fun T17 h17 vm17 v17 X17 C17 z17 q17 => ?_
  obtain ⟨rfl, K17, g17_0, g17_1, g17_2, g17_3, g17_4, g17_5⟩ := q17
  have l18 := ltA g17_0.lt
  have l19 := ltA g17_4.lt
  show Gets p e below _ (T17.setTop (mkF m 23 #[vR x, vR y] []))
  have A20 := X17.at
  refine Gets.via (fun _ k => (XS.iconst A20 hx rfl (D d21_23) k)) ?_
  exact X17.retI hret (by decide) (by simp) (D d21_24) (by decide) (by decide) (fun vmE CE => ⟨rfl, (((Keep.refl h0 [x, d]).wr W7 (Or.inl (List.mem_of_getElem? (i := 0) rfl))).trans K17 (allS (Or.inl (List.mem_of_getElem? (i := 0) rfl)) (allS (Or.inl (List.mem_of_getElem? (i := 1) rfl)) all0))), g17_0, g17_1, g17_2, g17_3, g17_4, g17_5⟩)
abbrev RrmAlEmpty3 : Room := { frames := 0, cells := 0, slots := 0, locals := 0 }
def QrmAlEmpty3 (Z : State) (de : Addr) (el : Addr) (em : Addr) (x : Addr) (h0 : Heap) (v : Option Value) (vm : Vm) (h : Heap) : Prop := v = some (.int (0 : Int32)) ∧ h = h0
theorem rmAlEmpty3 (hcx : Cx Z a0 zc de kde em el ee kee mr fm) (x : Addr) (h0 : Heap) (O0 : Old Z Z.heap.size h0) (Pr0 : Fld Z h0 x "java/util/ArrayList" "size" "I" (.int (3 : Int32))) : Met l Z consts_1 (⟨"java/util/ArrayList", "isEmpty", "()Z"⟩ : MethodName) jdk_38_method_9_code 1 (some .boolean) [] RrmAlEmpty3 [] #[(.ref x)] h0 (QrmAlEmpty3 Z de el em x h0) := by
  have ⟨hw, hEL, O2, P5, OD, AD, XM, OM, OL, XL, FL, AE, MR, O4, P6⟩ := hcx
  refine Met.start (a0 := a0) (Ls := #[vR x]) pn14 hEL O0 (fun m => by first | (simp [entryFrame, mkF, argsToLocals, Value.category]; done) | rfl) ?_
  intro p e s m below meth cc T0 vm0 X0 sf0_ hby hml hret hnm
  have hx := X0.hx
  have D : ∀ {n r}, decode jdk_38_method_9_code n = r → decode cc.code n = r := fun d => hb hby d
  have zz := X0.ge
  have A0 := X0.at
  have l1 := ltA Pr0.lt
  refine Gets.via (fun _ k => (XS.aloadN A0 hx rfl (D d14_0) rfl rfl k)) ?_
  refine X0.getF (host := "") (Or.inl (w98 hw)) Via.refl Pr0 rfl rfl (D d14_1) fun T2 X2 => ?_
  have A3 := X2.at
  refine Gets.via (fun _ k => (XS.ifYes A3 hx rfl (pc0 := 4) (pc' := 11) rfl (D d14_4) rfl (Jvm.Free.XT.i0_ne_t (by decide)) (by decide) (by decide) k)) ?_
  refine Gets.via (fun _ k => (XS.iconst A3 hx rfl (D d14_11) k)) ?_
  exact X2.retI hret (by decide) (by simp) (D d14_12) (by decide) (by decide) (fun vmE CE => ⟨rfl, rfl⟩)
abbrev Rrmmin_10_3 : Room := { frames := 0, cells := 0, slots := 0, locals := 0 }
def Qrmmin_10_3 (Z : State) (de : Addr) (el : Addr) (em : Addr) (h0 : Heap) (v : Option Value) (vm : Vm) (h : Heap) : Prop := v = some (.int (3 : Int32)) ∧ h = h0
theorem rmmin_10_3 (hcx : Cx Z a0 zc de kde em el ee kee mr fm)  (h0 : Heap) (O0 : Old Z Z.heap.size h0)  : Met l Z consts_1 (⟨"java/lang/Math", "min", "(II)I"⟩ : MethodName) jdk_29_method_69_code 2 (some .int) [] Rrmmin_10_3 [] #[(.int (10 : Int32)), (.int (3 : Int32))] h0 (Qrmmin_10_3 Z de el em h0) := by
  have ⟨hw, hEL, O2, P5, OD, AD, XM, OM, OL, XL, FL, AE, MR, O4, P6⟩ := hcx
  refine Met.start (a0 := a0) (Ls := #[vI (10 : Int32), vI (3 : Int32)]) pn29 hEL O0 (fun m => by first | (simp [entryFrame, mkF, argsToLocals, Value.category]; done) | rfl) ?_
  intro p e s m below meth cc T0 vm0 X0 sf0_ hby hml hret hnm
  have hx := X0.hx
  have D : ∀ {n r}, decode jdk_29_method_69_code n = r → decode cc.code n = r := fun d => hb hby d
  have zz := X0.ge
  have A0 := X0.at
  refine Gets.via (fun _ k => (XS.iloadN A0 hx rfl (D d29_0) rfl (XS.iloadN A0 hx rfl (D d29_1) rfl (XS.icmpYes A0 hx rfl (pc0 := 2) (pc' := 9) rfl (D d29_2) rfl (Jvm.Free.XT.ii_gt_t (by decide)) (by decide) (by decide) k)))) ?_
  refine Gets.via (fun _ k => (XS.iloadN A0 hx rfl (D d29_9) rfl k)) ?_
  exact X0.retI hret rfl (by simp) (D d29_10) (by decide) (by decide) (fun vmE CE => ⟨rfl, rfl⟩)
abbrev RrmCoT3 : Room := { frames := 1, cells := 1, slots := 3, locals := 22 }
def QrmCoT3 (Z : State) (de : Addr) (el : Addr) (em : Addr) (d : Addr) (kd : ClassId) (e0 : Addr) (e1 : Addr) (e2 : Addr) (h0 : Heap) (v : Option Value) (vm : Vm) (h : Heap) : Prop := ∃ (r : Addr) (kr : ClassId), v = some (.ref r) ∧ Keep h0 h [] ∧ Arv Z h r kr (.object "java/lang/Object") (3 : Int32) [(.ref e0), (.ref e1), (.ref e2)] .null ∧ Exa Z h r "[Ljava/lang/Object;" ∧ Ovr Z kr "java/lang/Object" ∧ h0.size ≤ r
theorem rmCoT3 (hcx : Cx Z a0 zc de kde em el ee kee mr fm) (d : Addr) (kd : ClassId) (e0 : Addr) (e1 : Addr) (e2 : Addr) (h0 : Heap) (O0 : Old Z Z.heap.size h0) (Pr0 : Arv Z h0 d kd (.object "java/lang/Object") (10 : Int32) [(.ref e0), (.ref e1), (.ref e2), .null, .null, .null, .null, .null, .null, .null] .null) (Pr1 : Exa Z h0 d "[Ljava/lang/Object;") (Pr2 : Exa Z h0 e0 "java/lang/String") (Pr3 : Exa Z h0 e1 "java/lang/String") (Pr4 : Exa Z h0 e2 "java/lang/String") : Met l Z consts_1 (⟨"java/util/Arrays", "copyOf", "([Ljava/lang/Object;ILjava/lang/Class;)[Ljava/lang/Object;"⟩ : MethodName) jdk_65_method_120_code 4 (some (.array (.object "java/lang/Object"))) [] RrmCoT3 [] #[(.ref d), (.int (3 : Int32)), (.ref mr)] h0 (QrmCoT3 Z de el em d kd e0 e1 e2 h0) := by
  have ⟨hw, hEL, O2, P5, OD, AD, XM, OM, OL, XL, FL, AE, MR, O4, P6⟩ := hcx
  refine Met.start (a0 := a0) (Ls := #[vR d, vI (3 : Int32), vR mr, .unset]) pn28 hEL O0 (fun m => by first | (simp [entryFrame, mkF, argsToLocals, Value.category]; done) | rfl) ?_
  intro p e s m below meth cc T0 vm0 X0 sf0_ hby hml hret hnm
  have hx := X0.hx
  have D : ∀ {n r}, decode jdk_65_method_120_code n = r → decode cc.code n = r := fun d => hb hby d
  have zz := X0.ge
  have A0 := X0.at
  have l1 := ltA Pr0.lt
  have l2 := ltA Pr2.lt
  have l3 := ltA Pr3.lt
  have l4 := ltA Pr4.lt
  refine Gets.via (fun _ k => (XS.aloadN A0 hx rfl (D d28_0) rfl rfl k)) ?_
  refine X0.ldcM (w191 hw) MR rfl (D d28_1) fun T5 X5 => ?_
  refine X5.acmpW hx rfl rfl rfl (pc0 := 3) (pc' := 6) (same := true) rfl (D d28_3) rfl (by simp) (by decide) (by decide) ?_
  have A6 := X5.at
  refine Gets.via (fun _ k => (XS.iloadN A6 hx rfl (D d28_6) rfl k)) ?_
  refine X5.newR (ad := "[Ljava/lang/Object;") (w192 hw) (w168 hw) rfl (D d28_7) rfl (by decide) (cap := 3) (by decide) (by decide) (by decide) (by decide) (by decide) fun T7 h7 a7 k7 X7 C7 E7 g7 Z7 Ov7 V7 => ?_
  have z7 := E7.1
  have l7 := ltA V7.lt
  have V7_ : Arv Z h7 a7 k7 (.object "java/lang/Object") (3 : Int32) [.null, .null, .null] .null := padN V7 3
  show Gets p e below _ (T7.setTop (mkF m 10 #[vR d, vI (3 : Int32), vR mr, .unset] [(.ref a7)]))
  have A8 := X7.at
  refine Gets.via (fun _ k => (XS.goto A8 hx rfl (pc0 := 10) (pc' := 24) rfl (D d28_10) (by decide) (by decide) k)) ?_
  refine Gets.via (fun _ k => (XS.astoreN A8 hx rfl (D d28_24) rfl rfl (l' := #[vR d, vI (3 : Int32), vR mr, vR a7]) rfl (XS.aloadN A8 hx rfl (D d28_25) rfl rfl (XS.iconst A8 hx rfl (D d28_26) (XS.aloadN A8 hx rfl (D d28_27) rfl rfl (XS.iconst A8 hx rfl (D d28_28) (XS.aloadN A8 hx rfl (D d28_29) rfl rfl k))))))) ?_
  have f9 := Pr0.ext E7
  refine X7.alen f9 rfl rfl (D d28_30) ?_
  refine Gets.via (fun _ k => (XS.iloadN A8 hx rfl (D d28_31) rfl k)) ?_
  refine X7.callS (W := 4) (w193 hw) (w194 hw) (w165 hw) (w195 hw) (by decide) (X7.payM (sf := []) (rmmin_10_3 hcx  h7 X7.old ) sf0 (w195 hw) (w165 hw) (by decide) (by decide)) rfl (sz hml rfl) (argsL := [(.int (10 : Int32)), (.int (3 : Int32))]) (rest := [(.int (0 : Int32)), (.ref a7), (.int (0 : Int32)), (.ref d)]) (lenOf pd12 rfl) rfl rfl (mroom rfl rfl) (D d28_32) (by decide) (by decide) fun T10 h10 vm10 v10 X10 C10 z10 q10 => ?_
  obtain ⟨rfl, K10⟩ := q10
  rw [K10] at X10 C10
  show Gets p e below _ (T10.setTop (mkF m 35 #[vR d, vI (3 : Int32), vR mr, vR a7] [(.int (3 : Int32)), (.int (0 : Int32)), (.ref a7), (.int (0 : Int32)), (.ref d)]))
  have f12 := Pr4.ext E7
  have f13 := Pr3.ext E7
  have f14 := Pr2.ext E7
  refine X10.copy (w196 hw) (w199 hw) (w197 hw) (w198 hw) (us := [(.ref e0), (.ref e1), (.ref e2)]) f9 V7_ (Or.inr ⟨rfl, rfl, ⟨(stoV V7_ Ov7 (Ins.of_exa f14 (w169 hw))), ⟨(stoV V7_ Ov7 (Ins.of_exa f13 (w169 hw))), ⟨(stoV V7_ Ov7 (Ins.of_exa f12 (w169 hw))), trivial⟩⟩⟩⟩) (by decide) (by decide) (by decide) (by decide) (by decide) rfl (Nat.le_of_ble_eq_true rfl) (leA (by omega)) (Safe.exa X10.hZ.alike Z7 (by decide) (by decide)) rfl (sz hml rfl) rfl (D d28_35) (by decide) (W := 0) (mroom rfl rfl) (by decide) fun T11 h11 X11 C11 K11 V11 => ?_
  have z11 := K11.1
  have V11_ : Arv Z h11 a7 k7 (.object "java/lang/Object") (3 : Int32) [(.ref e0), (.ref e1), (.ref e2)] .null := V11
  have A15 := X11.at
  refine Gets.via (fun _ k => (XS.aloadN A15 hx rfl (D d28_38) rfl rfl k)) ?_
  have f16 := Z7.keep K11
  exact X11.retA hret rfl rfl rfl (D d28_39) (by decide) (by decide) (fun vmE CE => ⟨a7, k7, rfl, (((Keep.refl h0 []).ext E7).trans K11 (allS (Or.inr (leA (by omega))) all0)), V11_, f16, Ov7, (leA (by omega))⟩)
abbrev RrmCo3 : Room := { frames := 2, cells := 1, slots := 3, locals := 37 }
def QrmCo3 (Z : State) (de : Addr) (el : Addr) (em : Addr) (d : Addr) (kd : ClassId) (e0 : Addr) (e1 : Addr) (e2 : Addr) (h0 : Heap) (v : Option Value) (vm : Vm) (h : Heap) : Prop := ∃ (r : Addr) (kr : ClassId), v = some (.ref r) ∧ Keep h0 h [] ∧ Arv Z h r kr (.object "java/lang/Object") (3 : Int32) [(.ref e0), (.ref e1), (.ref e2)] .null ∧ Exa Z h r "[Ljava/lang/Object;" ∧ Ovr Z kr "java/lang/Object" ∧ h0.size ≤ r
theorem rmCo3 (hcx : Cx Z a0 zc de kde em el ee kee mr fm) (d : Addr) (kd : ClassId) (e0 : Addr) (e1 : Addr) (e2 : Addr) (h0 : Heap) (O0 : Old Z Z.heap.size h0) (Pr0 : Arv Z h0 d kd (.object "java/lang/Object") (10 : Int32) [(.ref e0), (.ref e1), (.ref e2), .null, .null, .null, .null, .null, .null, .null] .null) (Pr1 : Exa Z h0 d "[Ljava/lang/Object;") (Pr2 : Exa Z h0 e0 "java/lang/String") (Pr3 : Exa Z h0 e1 "java/lang/String") (Pr4 : Exa Z h0 e2 "java/lang/String") : Met l Z consts_1 (⟨"java/util/Arrays", "copyOf", "([Ljava/lang/Object;I)[Ljava/lang/Object;"⟩ : MethodName) jdk_65_method_119_code 2 (some (.array (.object "java/lang/Object"))) [] RrmCo3 [] #[(.ref d), (.int (3 : Int32))] h0 (QrmCo3 Z de el em d kd e0 e1 e2 h0) := by
  have ⟨hw, hEL, O2, P5, OD, AD, XM, OM, OL, XL, FL, AE, MR, O4, P6⟩ := hcx
  refine Met.start (a0 := a0) (Ls := #[vR d, vI (3 : Int32)]) pn27 hEL O0 (fun m => by first | (simp [entryFrame, mkF, argsToLocals, Value.category]; done) | rfl) ?_
  intro p e s m below meth cc T0 vm0 X0 sf0_ hby hml hret hnm
  have hx := X0.hx
  have D : ∀ {n r}, decode jdk_65_method_119_code n = r → decode cc.code n = r := fun d => hb hby d
  have zz := X0.ge
  have A0 := X0.at
  have l1 := ltA Pr0.lt
  have l2 := ltA Pr2.lt
  have l3 := ltA Pr3.lt
  have l4 := ltA Pr4.lt
  refine Gets.via (fun _ k => (XS.aloadN A0 hx rfl (D d27_0) rfl rfl (XS.iloadN A0 hx rfl (D d27_1) rfl (XS.aloadN A0 hx rfl (D d27_2) rfl rfl k)))) ?_
  refine X0.getC (w182 hw) (w183 hw) (w87 hw) (w185 hw) (w184 hw) (w186 hw) Pr1 MR rfl (sz hml rfl) rfl (D d27_3) (by decide) (W := 2) (mroom rfl rfl) (by decide) fun T5 X5 => ?_
  refine X5.callS (W := 0) (w188 hw) (w189 hw) (w180 hw) (w190 hw) (by decide) (X5.payM (sf := []) (rmCoT3 hcx d kd e0 e1 e2 h0 X5.old Pr0 Pr1 Pr2 Pr3 Pr4) sf0 (w190 hw) (w180 hw) (by decide) (by decide)) rfl (sz hml rfl) (argsL := [(.ref d), (.int (3 : Int32)), (.ref mr)]) (rest := []) (lenOf pd17 rfl) rfl rfl (mroom rfl rfl) (D d27_6) (by decide) (by decide) fun T6 h6 vm6 v6 X6 C6 z6 q6 => ?_
  obtain ⟨r6, kr6, rfl, K6, g6_0, g6_1, g6_2, g6_3⟩ := q6
  have l7 := ltA g6_0.lt
  show Gets p e below _ (T6.setTop (mkF m 9 #[vR d, vI (3 : Int32)] [(.ref r6)]))
  exact X6.retA hret rfl rfl rfl (D d27_9) (by decide) (by decide) (fun vmE CE => ⟨r6, kr6, rfl, ((Keep.refl h0 []).trans K6 all0), g6_0, g6_1, g6_2, g6_3⟩)
abbrev RrmToA3 : Room := { frames := 3, cells := 1, slots := 3, locals := 50 }
def QrmToA3 (Z : State) (de : Addr) (el : Addr) (em : Addr) (x : Addr) (d : Addr) (kd : ClassId) (e0 : Addr) (e1 : Addr) (e2 : Addr) (h0 : Heap) (v : Option Value) (vm : Vm) (h : Heap) : Prop := ∃ (r : Addr) (kr : ClassId), v = some (.ref r) ∧ Keep h0 h [] ∧ Arv Z h r kr (.object "java/lang/Object") (3 : Int32) [(.ref e0), (.ref e1), (.ref e2)] .null ∧ Exa Z h r "[Ljava/lang/Object;" ∧ Ovr Z kr "java/lang/Object" ∧ h0.size ≤ r
theorem rmToA3 (hcx : Cx Z a0 zc de kde em el ee kee mr fm) (x : Addr) (d : Addr) (kd : ClassId) (e0 : Addr) (e1 : Addr) (e2 : Addr) (h0 : Heap) (O0 : Old Z Z.heap.size h0) (Pr0 : Fld Z h0 x "java/util/ArrayList" "size" "I" (.int (3 : Int32))) (Pr1 : Fld Z h0 x "java/util/ArrayList" "elementData" "[Ljava/lang/Object;" (.ref d)) (Pr2 : Arv Z h0 d kd (.object "java/lang/Object") (10 : Int32) [(.ref e0), (.ref e1), (.ref e2), .null, .null, .null, .null, .null, .null, .null] .null) (Pr3 : Exa Z h0 d "[Ljava/lang/Object;") (Pr4 : Exa Z h0 e0 "java/lang/String") (Pr5 : Exa Z h0 e1 "java/lang/String") (Pr6 : Exa Z h0 e2 "java/lang/String") : Met l Z consts_1 (⟨"java/util/ArrayList", "toArray", "()[Ljava/lang/Object;"⟩ : MethodName) jdk_38_method_16_code 1 (some (.array (.object "java/lang/Object"))) [] RrmToA3 [] #[(.ref x)] h0 (QrmToA3 Z de el em x d kd e0 e1 e2 h0) := by
  have ⟨hw, hEL, O2, P5, OD, AD, XM, OM, OL, XL, FL, AE, MR, O4, P6⟩ := hcx
  refine Met.start (a0 := a0) (Ls := #[vR x]) pn26 hEL O0 (fun m => by first | (simp [entryFrame, mkF, argsToLocals, Value.category]; done) | rfl) ?_
  intro p e s m below meth cc T0 vm0 X0 sf0_ hby hml hret hnm
  have hx := X0.hx
  have D : ∀ {n r}, decode jdk_38_method_16_code n = r → decode cc.code n = r := fun d => hb hby d
  have zz := X0.ge
  have A0 := X0.at
  have l1 := ltA Pr0.lt
  have l2 := ltA Pr2.lt
  have l3 := ltA Pr4.lt
  have l4 := ltA Pr5.lt
  have l5 := ltA Pr6.lt
  refine Gets.via (fun _ k => (XS.aloadN A0 hx rfl (D d26_0) rfl rfl k)) ?_
  refine X0.getF (host := "") (Or.inl (w59 hw)) Via.refl Pr1 rfl rfl (D d26_1) fun T6 X6 => ?_
  have A7 := X6.at
  refine Gets.via (fun _ k => (XS.aloadN A7 hx rfl (D d26_4) rfl rfl k)) ?_
  refine X6.getF (host := "") (Or.inl (w98 hw)) Via.refl Pr0 rfl rfl (D d26_5) fun T8 X8 => ?_
  refine X8.callS (W := 0) (w178 hw) (w179 hw) (w180 hw) (w181 hw) (by decide) (X8.payM (sf := []) (rmCo3 hcx d kd e0 e1 e2 h0 X8.old Pr2 Pr3 Pr4 Pr5 Pr6) sf0 (w181 hw) (w180 hw) (by decide) (by decide)) rfl (sz hml rfl) (argsL := [(.ref d), (.int (3 : Int32))]) (rest := []) (lenOf pd18 rfl) rfl rfl (mroom rfl rfl) (D d26_8) (by decide) (by decide) fun T9 h9 vm9 v9 X9 C9 z9 q9 => ?_
  obtain ⟨r9, kr9, rfl, K9, g9_0, g9_1, g9_2, g9_3⟩ := q9
  have l10 := ltA g9_0.lt
  show Gets p e below _ (T9.setTop (mkF m 11 #[vR x] [(.ref r9)]))
  exact X9.retA hret rfl rfl rfl (D d26_11) (by decide) (by decide) (fun vmE CE => ⟨r9, kr9, rfl, ((Keep.refl h0 []).trans K9 all0), g9_0, g9_1, g9_2, g9_3⟩)
abbrev RrmLf3 : Room := { frames := 5, cells := 2, slots := 5, locals := 63 }
def QrmLf3 (Z : State) (de : Addr) (el : Addr) (em : Addr) (r : Addr) (kr : ClassId) (e0 : Addr) (e1 : Addr) (e2 : Addr) (h0 : Heap) (v : Option Value) (vm : Vm) (h : Heap) : Prop := ∃ (a : Addr) (t : Addr) (kn : ClassId), v = some (.ref a) ∧ Keep h0 h [] ∧ Exa Z h a "java/util/ImmutableCollections$ListN" ∧ Fld Z h a "java/util/ImmutableCollections$ListN" "elements" "[Ljava/lang/Object;" (.ref t) ∧ Arv Z h t kn (.object "java/lang/Object") (3 : Int32) [(.ref e0), (.ref e1), (.ref e2)] .null ∧ h0.size ≤ t ∧ h0.size ≤ a
theorem rmLf3 (hcx : Cx Z a0 zc de kde em el ee kee mr fm) (r : Addr) (kr : ClassId) (e0 : Addr) (e1 : Addr) (e2 : Addr) (h0 : Heap) (O0 : Old Z Z.heap.size h0) (Pr0 : Arv Z h0 r kr (.object "java/lang/Object") (3 : Int32) [(.ref e0), (.ref e1), (.ref e2)] .null) (Pr1 : Exa Z h0 e0 "java/lang/String") (Pr2 : Exa Z h0 e1 "java/lang/String") (Pr3 : Exa Z h0 e2 "java/lang/String") : Met l Z consts_1 (⟨"java/util/ImmutableCollections", "listFromArray", "([Ljava/lang/Object;)Ljava/util/List;"⟩ : MethodName) jdk_56_method_4_code 3 (some (.object "java/util/List")) [] RrmLf3 [] #[(.ref r)] h0 (QrmLf3 Z de el em r kr e0 e1 e2 h0) := by
  have ⟨hw, hEL, O2, P5, OD, AD, XM, OM, OL, XL, FL, AE, MR, O4, P6⟩ := hcx
  refine Met.start (a0 := a0) (Ls := #[vR r, .unset, .unset]) pn31 hEL O0 (fun m => by first | (simp [entryFrame, mkF, argsToLocals, Value.category]; done) | rfl) ?_
  intro p e s m below meth cc T0 vm0 X0 sf0_ hby hml hret hnm
  have hx := X0.hx
  have D : ∀ {n r}, decode jdk_56_method_4_code n = r → decode cc.code n = r := fun d => hb hby d
  have zz := X0.ge
  have A0 := X0.at
  have l1 := ltA Pr0.lt
  have l2 := ltA Pr1.lt
  have l3 := ltA Pr2.lt
  have l4 := ltA Pr3.lt
  refine Gets.via (fun _ k => (XS.aloadN A0 hx rfl (D d31_0) rfl rfl k)) ?_
  refine X0.alen Pr0 rfl rfl (D d31_1) ?_
  refine X0.newR (ad := "[Ljava/lang/Object;") (w206 hw) (w168 hw) rfl (D d31_2) rfl (by decide) (cap := 3) (by decide) (by decide) (by decide) (by decide) (by decide) fun T5 h5 a5 k5 X5 C5 E5 g5 Z5 Ov5 V5 => ?_
  have z5 := E5.1
  have l5 := ltA V5.lt
  have V5_ : Arv Z h5 a5 k5 (.object "java/lang/Object") (3 : Int32) [.null, .null, .null] .null := padN V5 3
  have A6 := X5.at
  refine Gets.via (fun _ k => (XS.astoreN A6 hx rfl (D d31_5) rfl rfl (l' := #[vR r, vR a5, .unset]) rfl (XS.iconst A6 hx rfl (D d31_6) (XS.istoreN A6 hx rfl (D d31_7) rfl (l' := #[vR r, vR a5, vI (0 : Int32)]) rfl (XS.iloadN A6 hx rfl (D d31_8) rfl (XS.aloadN A6 hx rfl (D d31_9) rfl rfl k)))))) ?_
  show Gets p e below _ (T5.setTop (mkF m 10 #[vR r, vR a5, vI (0 : Int32)] [(.ref r), (.int (0 : Int32))]))
  have f7 := Pr0.ext E5
  refine X5.alen f7 rfl rfl (D d31_10) ?_
  refine Gets.via (fun _ k => (XS.icmpNo A6 hx rfl (D d31_11) rfl (Jvm.Free.XT.ii_ge_f (by decide)) k)) ?_
  refine Gets.via (fun _ k => (XS.aloadN A6 hx rfl (D d31_14) rfl rfl (XS.iloadN A6 hx rfl (D d31_15) rfl (XS.aloadN A6 hx rfl (D d31_16) rfl rfl (XS.iloadN A6 hx rfl (D d31_17) rfl k))))) ?_
  refine X5.ldR f7 rfl (i := 0) (by decide) (by decide) (by decide) rfl rfl rfl (D d31_18) ?_
  refine X5.callS (W := 2) (w207 hw) (w208 hw) (w209 hw) (w210 hw) (by decide) (X5.payM (sf := []) (rm32 hcx e0 h5 X5.old ) sf0 (w210 hw) (w209 hw) (by decide) (by decide)) rfl (sz hml rfl) (argsL := [(.ref e0)]) (rest := [(.int (0 : Int32)), (.ref a5)]) (lenOf pd3 rfl) rfl rfl (mroom rfl rfl) (D d31_19) (by decide) (by decide) fun T8 h8 vm8 v8 X8 C8 z8 q8 => ?_
  obtain ⟨rfl, K8⟩ := q8
  rw [K8] at X8 C8
  show Gets p e below _ (T8.setTop (mkF m 22 #[vR r, vR a5, vI (0 : Int32)] [(.ref e0), (.int (0 : Int32)), (.ref a5)]))
  have f10 := Pr1.ext E5
  refine X8.stR V5_ (stoV V5_ Ov5 (Ins.of_exa f10 (w169 hw))) rfl (i := 0) (by decide) (by decide) (Nat.le_of_ble_eq_true rfl) (by decide) (leA (by omega)) rfl rfl (D d31_22) fun T9 h9 X9 C9 K9 V9 => ?_
  have z9 := K9.1
  have V9_ : Arv Z h9 a5 k5 (.object "java/lang/Object") (3 : Int32) [(.ref e0), .null, .null] .null := V9
  have A11 := X9.at
  refine Gets.via (fun _ k => (iincV A11 hx rfl (D d31_23) rfl (v := (1 : Int32)) (by decide) (l' := #[vR r, vR a5, vI (1 : Int32)]) rfl (XS.goto A11 hx rfl (pc0 := 26) (pc' := 8) rfl (D d31_26) (by decide) (by decide) k))) ?_
  refine Gets.via (fun _ k => (XS.iloadN A11 hx rfl (D d31_8) rfl (XS.aloadN A11 hx rfl (D d31_9) rfl rfl k))) ?_
  have f12 := f7.keep K9 (ninS (neA (by omega)) nin0)
  refine X9.alen f12 rfl rfl (D d31_10) ?_
  refine Gets.via (fun _ k => (XS.icmpNo A11 hx rfl (D d31_11) rfl (Jvm.Free.XT.ii_ge_f (by decide)) k)) ?_
  refine Gets.via (fun _ k => (XS.aloadN A11 hx rfl (D d31_14) rfl rfl (XS.iloadN A11 hx rfl (D d31_15) rfl (XS.aloadN A11 hx rfl (D d31_16) rfl rfl (XS.iloadN A11 hx rfl (D d31_17) rfl k))))) ?_
  show Gets p e below _ (T9.setTop (mkF m 18 #[vR r, vR a5, vI (1 : Int32)] [(.int (1 : Int32)), (.ref r), (.int (1 : Int32)), (.ref a5)]))
  refine X9.ldR f12 rfl (i := 1) (by decide) (by decide) (by decide) rfl rfl rfl (D d31_18) ?_
  refine X9.callS (W := 2) (w207 hw) (w208 hw) (w209 hw) (w210 hw) (by decide) (X9.payM (sf := []) (rm32 hcx e1 h9 X9.old ) sf0 (w210 hw) (w209 hw) (by decide) (by decide)) rfl (sz hml rfl) (argsL := [(.ref e1)]) (rest := [(.int (1 : Int32)), (.ref a5)]) (lenOf pd3 rfl) rfl rfl (mroom rfl rfl) (D d31_19) (by decide) (by decide) fun T13 h13 vm13 v13 X13 C13 z13 q13 => ?_
  obtain ⟨rfl, K13⟩ := q13
  rw [K13] at X13 C13
  have f15 := Pr2.ext E5
  have f16 := f15.keep K9
  refine X13.stR V9_ (stoV V9_ Ov5 (Ins.of_exa f16 (w169 hw))) rfl (i := 1) (by decide) (by decide) (Nat.le_of_ble_eq_true rfl) (by decide) (leA (by omega)) rfl rfl (D d31_22) fun T14 h14 X14 C14 K14 V14 => ?_
  have z14 := K14.1
  have V14_ : Arv Z h14 a5 k5 (.object "java/lang/Object") (3 : Int32) [(.ref e0), (.ref e1), .null] .null := V14
  have A17 := X14.at
  refine Gets.via (fun _ k => (iincV A17 hx rfl (D d31_23) rfl (v := (2 : Int32)) (by decide) (l' := #[vR r, vR a5, vI (2 : Int32)]) rfl (XS.goto A17 hx rfl (pc0 := 26) (pc' := 8) rfl (D d31_26) (by decide) (by decide) k))) ?_
  refine Gets.via (fun _ k => (XS.iloadN A17 hx rfl (D d31_8) rfl (XS.aloadN A17 hx rfl (D d31_9) rfl rfl k))) ?_
  show Gets p e below _ (T14.setTop (mkF m 10 #[vR r, vR a5, vI (2 : Int32)] [(.ref r), (.int (2 : Int32))]))
  have f18 := f12.keep K14 (ninS (neA (by omega)) nin0)
  refine X14.alen f18 rfl rfl (D d31_10) ?_
  refine Gets.via (fun _ k => (XS.icmpNo A17 hx rfl (D d31_11) rfl (Jvm.Free.XT.ii_ge_f (by decide)) k)) ?_
  refine Gets.via (fun _ k => (XS.aloadN A17 hx rfl (D d31_14) rfl rfl (XS.iloadN A17 hx rfl (D d31_15) rfl (XS.aloadN A17 hx rfl (D d31_16) rfl rfl (XS.iloadN A17 hx rfl (D d31_17) rfl k))))) ?_
  refine X14.ldR f18 rfl (i := 2) (by decide) (by decide) (by decide) rfl rfl rfl (D d31_18) ?_
  refine X14.callS (W := 2) (w207 hw) (w208 hw) (w209 hw) (w210 hw) (by decide) (X14.payM (sf := []) (rm32 hcx e2 h14 X14.old ) sf0 (w210 hw) (w209 hw) (by decide) (by decide)) rfl (sz hml rfl) (argsL := [(.ref e2)]) (rest := [(.int (2 : Int32)), (.ref a5)]) (lenOf pd3 rfl) rfl rfl (mroom rfl rfl) (D d31_19) (by decide) (by decide) fun T19 h19 vm19 v19 X19 C19 z19 q19 => ?_
  obtain ⟨rfl, K19⟩ := q19
  rw [K19] at X19 C19
  show Gets p e below _ (T19.setTop (mkF m 22 #[vR r, vR a5, vI (2 : Int32)] [(.ref e2), (.int (2 : Int32)), (.ref a5)]))
  have f21 := Pr3.ext E5
  have f22 := f21.keep K9
  have f23 := f22.keep K14
  refine X19.stR V14_ (stoV V14_ Ov5 (Ins.of_exa f23 (w169 hw))) rfl (i := 2) (by decide) (by decide) (Nat.le_of_ble_eq_true rfl) (by decide) (leA (by omega)) rfl rfl (D d31_22) fun T20 h20 X20 C20 K20 V20 => ?_
  have z20 := K20.1
  have V20_ : Arv Z h20 a5 k5 (.object "java/lang/Object") (3 : Int32) [(.ref e0), (.ref e1), (.ref e2)] .null := V20
  have A24 := X20.at
  refine Gets.via (fun _ k => (iincV A24 hx rfl (D d31_23) rfl (v := (3 : Int32)) (by decide) (l' := #[vR r, vR a5, vI (3 : Int32)]) rfl (XS.goto A24 hx rfl (pc0 := 26) (pc' := 8) rfl (D d31_26) (by decide) (by decide) k))) ?_
  refine Gets.via (fun _ k => (XS.iloadN A24 hx rfl (D d31_8) rfl (XS.aloadN A24 hx rfl (D d31_9) rfl rfl k))) ?_
  have f25 := f18.keep K20 (ninS (neA (by omega)) nin0)
  refine X20.alen f25 rfl rfl (D d31_10) ?_
  refine Gets.via (fun _ k => (XS.icmpYes A24 hx rfl (pc0 := 11) (pc' := 29) rfl (D d31_11) rfl (Jvm.Free.XT.ii_ge_t (by decide)) (by decide) (by decide) k)) ?_
  refine X20.new (w88 hw) (w211 hw) (w127 hw) rfl (D d31_29) (by decide) (by decide) fun T26 h26 a26 X26 C26 E26 g26 Z26 S26 D26 => ?_
  have z26 := E26.1
  have l26 := ltA Z26.lt
  show Gets p e below _ (T26.setTop (mkF m 32 #[vR r, vR a5, vI (3 : Int32)] [(.ref a26)]))
  have A27 := X26.at
  refine Gets.via (fun _ k => (XS.dup A27 hx rfl (D d31_32) rfl rfl (XS.aloadN A27 hx rfl (D d31_33) rfl rfl (XS.iconst A27 hx rfl (D d31_34) k)))) ?_
  refine X26.callIN (W := 1) rfl (w212 hw) (w213 hw) (w215 hw) (by decide) (X26.payM (sf := []) (rm33 hcx a26 a5 h26 X26.old Z26 ((D26 (Or.inr (w130 hw)) (ty := (.array (.object "java/lang/Object"))) (by decide) : Fld Z h26 a26 "java/util/ImmutableCollections$ListN" "elements" "[Ljava/lang/Object;" .null)) (D26 (Or.inr (w231 hw)) (ty := .boolean) (by decide) : Fld Z h26 a26 "java/util/ImmutableCollections$ListN" "allowNulls" "Z" (.int (0 : Int32))) (leA (by omega))) sf0 (w215 hw) (w127 hw) (by decide) (by decide)) rfl (sz hml rfl) (a := a26) (argsL := [(.ref a5), (.int (0 : Int32))]) (rest := [(.ref a26)]) (lenOf pd23 rfl) rfl rfl (mroom rfl rfl) (D d31_35) (by decide) (by decide) fun T28 h28 vm28 v28 X28 C28 z28 q28 => ?_
  obtain ⟨rfl, K28, g28_0, g28_1⟩ := q28
  have l29 := ltA g28_0.lt
  have f30 := V20_.ext E26
  have f31 := f30.keep K28 (ninS (neA (by omega)) nin0)
  exact X28.retA hret rfl rfl rfl (D d31_38) (by decide) (by decide) (fun vmE CE => ⟨a26, a5, k5, rfl, (((((((Keep.refl h0 []).ext E5).trans K9 (allS (Or.inr (leA (by omega))) all0)).trans K14 (allS (Or.inr (leA (by omega))) all0)).trans K20 (allS (Or.inr (leA (by omega))) all0)).ext E26).trans K28 (allS (Or.inr (leA (by omega))) all0)), g28_0, g28_1, f31, (leA (by omega)), (leA (by omega))⟩)
abbrev RrmOf3 : Room := { frames := 6, cells := 2, slots := 5, locals := 77 }
def QrmOf3 (Z : State) (de : Addr) (el : Addr) (em : Addr) (r : Addr) (kr : ClassId) (e0 : Addr) (e1 : Addr) (e2 : Addr) (h0 : Heap) (v : Option Value) (vm : Vm) (h : Heap) : Prop := ∃ (a : Addr) (t : Addr) (kn : ClassId), v = some (.ref a) ∧ Keep h0 h [] ∧ Exa Z h a "java/util/ImmutableCollections$ListN" ∧ Fld Z h a "java/util/ImmutableCollections$ListN" "elements" "[Ljava/lang/Object;" (.ref t) ∧ Arv Z h t kn (.object "java/lang/Object") (3 : Int32) [(.ref e0), (.ref e1), (.ref e2)] .null ∧ h0.size ≤ t ∧ h0.size ≤ a
theorem rmOf3 (hcx : Cx Z a0 zc de kde em el ee kee mr fm) (r : Addr) (kr : ClassId) (e0 : Addr) (e1 : Addr) (e2 : Addr) (h0 : Heap) (O0 : Old Z Z.heap.size h0) (Pr0 : Arv Z h0 r kr (.object "java/lang/Object") (3 : Int32) [(.ref e0), (.ref e1), (.ref e2)] .null) (Pr1 : Exa Z h0 e0 "java/lang/String") (Pr2 : Exa Z h0 e1 "java/lang/String") (Pr3 : Exa Z h0 e2 "java/lang/String") : Met l Z consts_1 (⟨"java/util/List", "of", "([Ljava/lang/Object;)Ljava/util/List;"⟩ : MethodName) jdk_40_method_47_code 2 (some (.object "java/util/List")) [] RrmOf3 [] #[(.ref r)] h0 (QrmOf3 Z de el em r kr e0 e1 e2 h0) := by
  have ⟨hw, hEL, O2, P5, OD, AD, XM, OM, OL, XL, FL, AE, MR, O4, P6⟩ := hcx
  refine Met.start (a0 := a0) (Ls := #[vR r, .unset]) pn30 hEL O0 (fun m => by first | (simp [entryFrame, mkF, argsToLocals, Value.category]; done) | rfl) ?_
  intro p e s m below meth cc T0 vm0 X0 sf0_ hby hml hret hnm
  have hx := X0.hx
  have D : ∀ {n r}, decode jdk_40_method_47_code n = r → decode cc.code n = r := fun d => hb hby d
  have zz := X0.ge
  have A0 := X0.at
  have l1 := ltA Pr0.lt
  have l2 := ltA Pr1.lt
  have l3 := ltA Pr2.lt
  have l4 := ltA Pr3.lt
  refine Gets.via (fun _ k => (XS.aloadN A0 hx rfl (D d30_0) rfl rfl k)) ?_
  refine X0.alen Pr0 rfl rfl (D d30_1) ?_
  refine Gets.via (fun _ k => (XS.tswOut A0 hx rfl (pc0 := 2) (pc' := 59) rfl (D d30_2) rfl (by decide) (by decide) (by decide) k)) ?_
  refine Gets.via (fun _ k => (XS.aloadN A0 hx rfl (D d30_59) rfl rfl k)) ?_
  refine X0.callS (W := 0) (w203 hw) (w204 hw) (w81 hw) (w205 hw) (by decide) (X0.payM (sf := []) (rmLf3 hcx r kr e0 e1 e2 h0 X0.old Pr0 Pr1 Pr2 Pr3) sf0 (w205 hw) (w81 hw) (by decide) (by decide)) rfl (sz hml rfl) (argsL := [(.ref r)]) (rest := []) (lenOf pd20 rfl) rfl rfl (mroom rfl rfl) (D d30_60) (by decide) (by decide) fun T5 h5 vm5 v5 X5 C5 z5 q5 => ?_
  obtain ⟨a5, t5, kn5, rfl, K5, g5_0, g5_1, g5_2, g5_3, g5_4⟩ := q5
  have l6 := ltA g5_0.lt
  have l7 := ltA g5_2.lt
  show Gets p e below _ (T5.setTop (mkF m 63 #[vR r, .unset] [(.ref a5)]))
  exact X5.retA hret rfl rfl rfl (D d30_63) (by decide) (by decide) (fun vmE CE => ⟨a5, t5, kn5, rfl, ((Keep.refl h0 []).trans K5 all0), g5_0, g5_1, g5_2, g5_3, g5_4⟩)
abbrev RrmLc3 : Room := { frames := 7, cells := 3, slots := 8, locals := 90 }
def QrmLc3 (Z : State) (de : Addr) (el : Addr) (em : Addr) (x : Addr) (d : Addr) (kd : ClassId) (e0 : Addr) (e1 : Addr) (e2 : Addr) (h0 : Heap) (v : Option Value) (vm : Vm) (h : Heap) : Prop := ∃ (a : Addr) (t : Addr) (kn : ClassId), v = some (.ref a) ∧ Keep h0 h [] ∧ Exa Z h a "java/util/ImmutableCollections$ListN" ∧ Fld Z h a "java/util/ImmutableCollections$ListN" "elements" "[Ljava/lang/Object;" (.ref t) ∧ Arv Z h t kn (.object "java/lang/Object") (3 : Int32) [(.ref e0), (.ref e1), (.ref e2)] .null ∧ h0.size ≤ t ∧ h0.size ≤ a
theorem rmLc3 (hcx : Cx Z a0 zc de kde em el ee kee mr fm) (x : Addr) (d : Addr) (kd : ClassId) (e0 : Addr) (e1 : Addr) (e2 : Addr) (h0 : Heap) (O0 : Old Z Z.heap.size h0) (Pr0 : Exa Z h0 x "java/util/ArrayList") (Pr1 : Fld Z h0 x "java/util/ArrayList" "size" "I" (.int (3 : Int32))) (Pr2 : Fld Z h0 x "java/util/ArrayList" "elementData" "[Ljava/lang/Object;" (.ref d)) (Pr3 : Arv Z h0 d kd (.object "java/lang/Object") (10 : Int32) [(.ref e0), (.ref e1), (.ref e2), .null, .null, .null, .null, .null, .null, .null] .null) (Pr4 : Exa Z h0 d "[Ljava/lang/Object;") (Pr5 : Exa Z h0 e0 "java/lang/String") (Pr6 : Exa Z h0 e1 "java/lang/String") (Pr7 : Exa Z h0 e2 "java/lang/String") : Met l Z consts_1 (⟨"java/util/ImmutableCollections", "listCopy", "(Ljava/util/Collection;)Ljava/util/List;"⟩ : MethodName) jdk_56_method_3_code 2 (some (.object "java/util/List")) [] RrmLc3 [] #[(.ref x)] h0 (QrmLc3 Z de el em x d kd e0 e1 e2 h0) := by
  have ⟨hw, hEL, O2, P5, OD, AD, XM, OM, OL, XL, FL, AE, MR, O4, P6⟩ := hcx
  refine Met.start (a0 := a0) (Ls := #[vR x, .unset]) pn13 hEL O0 (fun m => by first | (simp [entryFrame, mkF, argsToLocals, Value.category]; done) | rfl) ?_
  intro p e s m below meth cc T0 vm0 X0 sf0_ hby hml hret hnm
  have hx := X0.hx
  have D : ∀ {n r}, decode jdk_56_method_3_code n = r → decode cc.code n = r := fun d => hb hby d
  have zz := X0.ge
  have A0 := X0.at
  have l1 := ltA Pr0.lt
  have l2 := ltA Pr3.lt
  have l3 := ltA Pr5.lt
  have l4 := ltA Pr6.lt
  have l5 := ltA Pr7.lt
  refine Gets.via (fun _ k => (XS.aloadN A0 hx rfl (D d13_0) rfl rfl k)) ?_
  refine X0.instNo (w83 hw) Pr0 (ns_no (w84 hw) (plainS (w270 hw) rfl) (NS.step (w84 hw) (NS.step (w85 hw) (NS.step (w86 hw) (ns_root (w87 hw) (plainS (w270 hw) rfl) (by decide)) (by decide)) (by decide)) (by decide)) (by decide)) rfl rfl (D d13_1) fun T6 X6 => ?_
  have A7 := X6.at
  refine Gets.via (fun _ k => (XS.ifNo A7 hx rfl (D d13_4) rfl (Jvm.Free.XT.i0_ne_f (by decide)) k)) ?_
  refine Gets.via (fun _ k => (XS.aloadN A7 hx rfl (D d13_7) rfl rfl k)) ?_
  refine X6.instNo (w88 hw) Pr0 (ns_no (w84 hw) (plainS (w122 hw) rfl) (NS.step (w84 hw) (NS.step (w85 hw) (NS.step (w86 hw) (ns_root (w87 hw) (plainS (w122 hw) rfl) (by decide)) (by decide)) (by decide)) (by decide)) (by decide)) rfl rfl (D d13_8) fun T8 X8 => ?_
  show Gets p e below _ (T8.setTop (mkF m 11 #[vR x, .unset] [(.int (0 : Int32))]))
  have A9 := X8.at
  refine Gets.via (fun _ k => (XS.ifYes A9 hx rfl (pc0 := 11) (pc' := 31) rfl (D d13_11) rfl (Jvm.Free.XT.i0_eq_t (by decide)) (by decide) (by decide) k)) ?_
  refine Gets.via (fun _ k => (XS.aloadN A9 hx rfl (D d13_31) rfl rfl k)) ?_
  refine X8.callF (W := 0) (w89 hw) (w90 hw) (w91 hw) rfl (w92 hw) (w93 hw) (w94 hw) (w95 hw) (w96 hw) (by decide) (X8.payM (sf := []) (rmAlEmpty3 hcx x h0 X8.old Pr1) sf0 (w97 hw) (w39 hw) (by decide) (by decide)) Pr0 rfl (sz hml rfl) (argsL := []) (rest := []) (lenOf pd5 rfl) rfl rfl (mroom rfl rfl) (D d13_32) (by decide) (by decide) fun T10 h10 vm10 v10 X10 C10 z10 q10 => ?_
  obtain ⟨rfl, K10⟩ := q10
  rw [K10] at X10 C10
  have A11 := X10.at
  refine Gets.via (fun _ k => (XS.ifYes A11 hx rfl (pc0 := 37) (pc' := 44) rfl (D d13_37) rfl (Jvm.Free.XT.i0_eq_t (by decide)) (by decide) (by decide) k)) ?_
  refine Gets.via (fun _ k => (XS.aloadN A11 hx rfl (D d13_44) rfl rfl k)) ?_
  refine X10.callF (W := 0) (w170 hw) (w171 hw) (w172 hw) rfl (w173 hw) (w174 hw) (w175 hw) (w176 hw) (w96 hw) (by decide) (X10.payM (sf := []) (rmToA3 hcx x d kd e0 e1 e2 h0 X10.old Pr1 Pr2 Pr3 Pr4 Pr5 Pr6 Pr7) sf0 (w177 hw) (w39 hw) (by decide) (by decide)) Pr0 rfl (sz hml rfl) (argsL := []) (rest := []) (lenOf pd14 rfl) rfl rfl (mroom rfl rfl) (D d13_45) (by decide) (by decide) fun T12 h12 vm12 v12 X12 C12 z12 q12 => ?_
  obtain ⟨r12, kr12, rfl, K12, g12_0, g12_1, g12_2, g12_3⟩ := q12
  have l13 := ltA g12_0.lt
  have f14 := Pr5.keep K12
  have f15 := Pr6.keep K12
  have f16 := Pr7.keep K12
  refine X12.callS (W := 0) (w200 hw) (w201 hw) (w77 hw) (w202 hw) (by decide) (X12.payM (sf := []) (rmOf3 hcx r12 kr12 e0 e1 e2 h12 X12.old g12_0 f14 f15 f16) sf0 (w202 hw) (w77 hw) (by decide) (by decide)) rfl (sz hml rfl) (argsL := [(.ref r12)]) (rest := []) (lenOf pd20 rfl) rfl rfl (mroom rfl rfl) (D d13_50) (by decide) (by decide) fun T17 h17 vm17 v17 X17 C17 z17 q17 => ?_
  obtain ⟨a17, t17, kn17, rfl, K17, g17_0, g17_1, g17_2, g17_3, g17_4⟩ := q17
  have l18 := ltA g17_0.lt
  have l19 := ltA g17_2.lt
  show Gets p e below _ (T17.setTop (mkF m 53 #[vR x, .unset] [(.ref a17)]))
  exact X17.retA hret rfl rfl rfl (D d13_53) (by decide) (by decide) (fun vmE CE => ⟨a17, t17, kn17, rfl, (((Keep.refl h0 []).trans K12 all0).trans K17 all0), g17_0, g17_1, g17_2, (leA (by omega)), (leA (by omega))⟩)
abbrev RrmCoL3 : Room := { frames := 8, cells := 3, slots := 8, locals := 103 }
def QrmCoL3 (Z : State) (de : Addr) (el : Addr) (em : Addr) (x : Addr) (d : Addr) (kd : ClassId) (e0 : Addr) (e1 : Addr) (e2 : Addr) (h0 : Heap) (v : Option Value) (vm : Vm) (h : Heap) : Prop := ∃ (a : Addr) (t : Addr) (kn : ClassId), v = some (.ref a) ∧ Keep h0 h [] ∧ Exa Z h a "java/util/ImmutableCollections$ListN" ∧ Fld Z h a "java/util/ImmutableCollections$ListN" "elements" "[Ljava/lang/Object;" (.ref t) ∧ Arv Z h t kn (.object "java/lang/Object") (3 : Int32) [(.ref e0), (.ref e1), (.ref e2)] .null ∧ h0.size ≤ t ∧ h0.size ≤ a
theorem rmCoL3 (hcx : Cx Z a0 zc de kde em el ee kee mr fm) (x : Addr) (d : Addr) (kd : ClassId) (e0 : Addr) (e1 : Addr) (e2 : Addr) (h0 : Heap) (O0 : Old Z Z.heap.size h0) (Pr0 : Exa Z h0 x "java/util/ArrayList") (Pr1 : Fld Z h0 x "java/util/ArrayList" "size" "I" (.int (3 : Int32))) (Pr2 : Fld Z h0 x "java/util/ArrayList" "elementData" "[Ljava/lang/Object;" (.ref d)) (Pr3 : Arv Z h0 d kd (.object "java/lang/Object") (10 : Int32) [(.ref e0), (.ref e1), (.ref e2), .null, .null, .null, .null, .null, .null, .null] .null) (Pr4 : Exa Z h0 d "[Ljava/lang/Object;") (Pr5 : Exa Z h0 e0 "java/lang/String") (Pr6 : Exa Z h0 e1 "java/lang/String") (Pr7 : Exa Z h0 e2 "java/lang/String") : Met l Z consts_1 (⟨"java/util/List", "copyOf", "(Ljava/util/Collection;)Ljava/util/List;"⟩ : MethodName) jdk_40_method_48_code 1 (some (.object "java/util/List")) [] RrmCoL3 [] #[(.ref x)] h0 (QrmCoL3 Z de el em x d kd e0 e1 e2 h0) := by
  have ⟨hw, hEL, O2, P5, OD, AD, XM, OM, OL, XL, FL, AE, MR, O4, P6⟩ := hcx
  refine Met.start (a0 := a0) (Ls := #[vR x]) pn12 hEL O0 (fun m => by first | (simp [entryFrame, mkF, argsToLocals, Value.category]; done) | rfl) ?_
  intro p e s m below meth cc T0 vm0 X0 sf0_ hby hml hret hnm
  have hx := X0.hx
  have D : ∀ {n r}, decode jdk_40_method_48_code n = r → decode cc.code n = r := fun d => hb hby d
  have zz := X0.ge
  have A0 := X0.at
  have l1 := ltA Pr0.lt
  have l2 := ltA Pr3.lt
  have l3 := ltA Pr5.lt
  have l4 := ltA Pr6.lt
  have l5 := ltA Pr7.lt
  refine Gets.via (fun _ k => (XS.aloadN A0 hx rfl (D d12_0) rfl rfl k)) ?_
  refine X0.callS (W := 0) (w79 hw) (w80 hw) (w81 hw) (w82 hw) (by decide) (X0.payM (sf := []) (rmLc3 hcx x d kd e0 e1 e2 h0 X0.old Pr0 Pr1 Pr2 Pr3 Pr4 Pr5 Pr6 Pr7) sf0 (w82 hw) (w81 hw) (by decide) (by decide)) rfl (sz hml rfl) (argsL := [(.ref x)]) (rest := []) (lenOf pd7 rfl) rfl rfl (mroom rfl rfl) (D d12_1) (by decide) (by decide) fun T6 h6 vm6 v6 X6 C6 z6 q6 => ?_
  obtain ⟨a6, t6, kn6, rfl, K6, g6_0, g6_1, g6_2, g6_3, g6_4⟩ := q6
  have l7 := ltA g6_0.lt
  have l8 := ltA g6_2.lt
  exact X6.retA hret rfl rfl rfl (D d12_4) (by decide) (by decide) (fun vmE CE => ⟨a6, t6, kn6, rfl, ((Keep.refl h0 []).trans K6 all0), g6_0, g6_1, g6_2, g6_3, g6_4⟩)
abbrev RrmNode3 : Room := { frames := 9, cells := 3, slots := 8, locals := 115 }
def QrmNode3 (Z : State) (de : Addr) (el : Addr) (em : Addr) (x : Addr) (u : Addr) (z : Addr) (v1 : Addr) (d : Addr) (kd : ClassId) (e0 : Addr) (e1 : Addr) (e2 : Addr) (h0 : Heap) (v : Option Value) (vm : Vm) (h : Heap) : Prop := ∃ (L : Addr) (t : Addr) (kn : ClassId), v = none ∧ Keep h0 h [x] ∧ Exa Z h x "com/example/packwright/packwright/model/Node" ∧ Fld Z h x "com/example/packwright/packwright/model/Node" "subscripts" "Ljava/util/List;" (.ref L) ∧ Exa Z h L "java/util/ImmutableCollections$ListN" ∧ Fld Z h L "java/util/ImmutableCollections$ListN" "elements" "[Ljava/lang/Object;" (.ref t) ∧ Arv Z h t kn (.object "java/lang/Object") (3 : Int32) [(.ref e0), (.ref e1), (.ref e2)] .null
theorem rmNode3 (hcx : Cx Z a0 zc de kde em el ee kee mr fm) (x : Addr) (u : Addr) (z : Addr) (v1 : Addr) (d : Addr) (kd : ClassId) (e0 : Addr) (e1 : Addr) (e2 : Addr) (h0 : Heap) (O0 : Old Z Z.heap.size h0) (Pr0 : Exa Z h0 x "com/example/packwright/packwright/model/Node") (Pr1 : Fld Z h0 x "com/example/packwright/packwright/model/Node" "subscriptLine" "Ljava/lang/String;" .null) (Pr2 : Fld Z h0 x "com/example/packwright/packwright/model/Node" "subscripts" "Ljava/util/List;" .null) (Pr3 : Fld Z h0 x "com/example/packwright/packwright/model/Node" "value" "Ljava/lang/String;" .null) (Pr4 : Z.heap.size ≤ x) (Pr5 : Exa Z h0 z "java/util/ArrayList") (Pr6 : Fld Z h0 z "java/util/ArrayList" "size" "I" (.int (3 : Int32))) (Pr7 : Fld Z h0 z "java/util/ArrayList" "elementData" "[Ljava/lang/Object;" (.ref d)) (Pr8 : Arv Z h0 d kd (.object "java/lang/Object") (10 : Int32) [(.ref e0), (.ref e1), (.ref e2), .null, .null, .null, .null, .null, .null, .null] .null) (Pr9 : Exa Z h0 d "[Ljava/lang/Object;") (Pr10 : Exa Z h0 e0 "java/lang/String") (Pr11 : Exa Z h0 e1 "java/lang/String") (Pr12 : Exa Z h0 e2 "java/lang/String") : Met l Z consts_1 (⟨"com/example/packwright/packwright/model/Node", "<init>", "(Ljava/lang/String;Ljava/util/List;Ljava/lang/String;)V"⟩ : MethodName) prog_37_method_1_code 4 (none) [] RrmNode3 [] #[(.ref x), (.ref u), (.ref z), (.ref v1)] h0 (QrmNode3 Z de el em x u z v1 d kd e0 e1 e2 h0) := by
  have ⟨hw, hEL, O2, P5, OD, AD, XM, OM, OL, XL, FL, AE, MR, O4, P6⟩ := hcx
  refine Met.start (a0 := a0) (Ls := #[vR x, vR u, vR z, vR v1]) pn10 hEL O0 (fun m => by first | (simp [entryFrame, mkF, argsToLocals, Value.category]; done) | rfl) ?_
  intro p e s m below meth cc T0 vm0 X0 sf0_ hby hml hret hnm
  have hx := X0.hx
  have D : ∀ {n r}, decode prog_37_method_1_code n = r → decode cc.code n = r := fun d => hb hby d
  have zz := X0.ge
  have A0 := X0.at
  have l1 := ltA Pr0.lt
  have l2 := ltA Pr5.lt
  have l3 := ltA Pr8.lt
  have l4 := ltA Pr10.lt
  have l5 := ltA Pr11.lt
  have l6 := ltA Pr12.lt
  refine Gets.via (fun _ k => (XS.aloadN A0 hx rfl (D d10_0) rfl rfl k)) ?_
  refine X0.callI (y := (⟨"java/lang/Record", "<init>", "()V"⟩ : MethodName)) (W := 0) rfl (w69 hw) (w70 hw) (w73 hw) (by decide) (X0.payM (sf := []) (rm11 hcx x h0 X0.old ) sf0 (w73 hw) (w72 hw) (by decide) (by decide)) rfl (sz hml rfl) (a := x) (argsL := []) (rest := []) (lenOf pd2 rfl) rfl rfl (mroom rfl rfl) (D d10_1) (by decide) (by decide) fun T7 h7 vm7 v7 X7 C7 z7 q7 => ?_
  obtain ⟨rfl, K7⟩ := q7
  rw [K7] at X7 C7
  have A8 := X7.at
  refine Gets.via (fun _ k => (XS.aloadN A8 hx rfl (D d10_4) rfl rfl k)) ?_
  refine X7.callS (W := 0) (w75 hw) (w76 hw) (w77 hw) (w78 hw) (by decide) (X7.payM (sf := []) (rmCoL3 hcx z d kd e0 e1 e2 h0 X7.old Pr5 Pr6 Pr7 Pr8 Pr9 Pr10 Pr11 Pr12) sf0 (w78 hw) (w77 hw) (by decide) (by decide)) rfl (sz hml rfl) (argsL := [(.ref z)]) (rest := []) (lenOf pd7 rfl) rfl rfl (mroom rfl rfl) (D d10_5) (by decide) (by decide) fun T9 h9 vm9 v9 X9 C9 z9 q9 => ?_
  obtain ⟨a9, t9, kn9, rfl, K9, g9_0, g9_1, g9_2, g9_3, g9_4⟩ := q9
  have l10 := ltA g9_0.lt
  have l11 := ltA g9_2.lt
  have A12 := X9.at
  refine Gets.via (fun _ k => (XS.astoreN A12 hx rfl (D d10_8) rfl rfl (l' := #[vR x, vR u, vR a9, vR v1]) rfl (XS.aloadN A12 hx rfl (D d10_9) rfl rfl (XS.aloadN A12 hx rfl (D d10_10) rfl rfl k)))) ?_
  show Gets p e below _ (T9.setTop (mkF m 11 #[vR x, vR u, vR a9, vR v1] [(.ref u), (.ref x)]))
  have f14 := Pr1.keep K9 nin0
  have f15 := Pr0.keep K9
  refine X9.putF (host := "") (Or.inl (w104 hw)) Via.refl f14 f15 (Or.inr ⟨(w105 hw), rfl, hnm⟩) (w62 hw) (ty := (.object "java/lang/String")) (by decide) rfl rfl (leA (by omega)) (Safe.exa X9.hZ.alike f15 (by decide) (by decide)) rfl rfl (D d10_11) fun T13 h13 X13 C13 W13 F13 Z13 => ?_
  have z13 := W13.size
  have A16 := X13.at
  refine Gets.via (fun _ k => (XS.aloadN A16 hx rfl (D d10_14) rfl rfl (XS.aloadN A16 hx rfl (D d10_15) rfl rfl k))) ?_
  have f18 := Pr2.keep K9 nin0
  have f19 := f18.other W13 (Or.inr (slot_ne (t := (.object "java/util/List")) (t' := (.object "java/lang/String")) (Or.inr (w107 hw)) (Or.inr (w105 hw)) (by decide) (by decide) (by decide)))
  refine X13.putF (host := "") (Or.inl (w106 hw)) Via.refl f19 Z13 (Or.inr ⟨(w107 hw), rfl, hnm⟩) (w62 hw) (ty := (.object "java/util/List")) (by decide) rfl rfl (leA (by omega)) (Safe.exa X13.hZ.alike Z13 (by decide) (by decide)) rfl rfl (D d10_16) fun T17 h17 X17 C17 W17 F17 Z17 => ?_
  have z17 := W17.size
  have A20 := X17.at
  refine Gets.via (fun _ k => (XS.aloadN A20 hx rfl (D d10_19) rfl rfl (XS.aloadN A20 hx rfl (D d10_20) rfl rfl k))) ?_
  have f22 := Pr3.keep K9 nin0
  have f23 := f22.other W13 (Or.inr (slot_ne (t := (.object "java/lang/String")) (t' := (.object "java/lang/String")) (Or.inr (w109 hw)) (Or.inr (w105 hw)) (by decide) (by decide) (by decide)))
  have f24 := f23.other W17 (Or.inr (slot_ne (t := (.object "java/lang/String")) (t' := (.object "java/util/List")) (Or.inr (w109 hw)) (Or.inr (w107 hw)) (by decide) (by decide) (by decide)))
  refine X17.putF (host := "") (Or.inl (w108 hw)) Via.refl f24 Z17 (Or.inr ⟨(w109 hw), rfl, hnm⟩) (w62 hw) (ty := (.object "java/lang/String")) (by decide) rfl rfl (leA (by omega)) (Safe.exa X17.hZ.alike Z17 (by decide) (by decide)) rfl rfl (D d10_21) fun T21 h21 X21 C21 W21 F21 Z21 => ?_
  have z21 := W21.size
  show Gets p e below _ (T21.setTop (mkF m 24 #[vR x, vR u, vR a9, vR v1] []))
  have f25 := F17.other W21 (Or.inr (slot_ne (t := (.object "java/util/List")) (t' := (.object "java/lang/String")) (Or.inr (w107 hw)) (Or.inr (w109 hw)) (by decide) (by decide) (by decide)))
  have f26 := g9_0.wr W13
  have f27 := f26.wr W17
  have f28 := f27.wr W21
  have f29 := g9_1.other W13 (Or.inl (neA (by omega)))
  have f30 := f29.other W17 (Or.inl (neA (by omega)))
  have f31 := f30.other W21 (Or.inl (neA (by omega)))
  have f32 := g9_2.other W13 (neA (by omega))
  have f33 := f32.other W17 (neA (by omega))
  have f34 := f33.other W21 (neA (by omega))
  exact X21.retV hret (D d10_24) (by decide) (by decide) (fun vmE CE => ⟨a9, t9, kn9, rfl, (((((Keep.refl h0 [x]).trans K9 all0).wr W13 (Or.inl (List.mem_of_getElem? (i := 0) rfl))).wr W17 (Or.inl (List.mem_of_getElem? (i := 0) rfl))).wr W21 (Or.inl (List.mem_of_getElem? (i := 0) rfl))), Z21, f25, f28, f31, f34⟩)
abbrev RrmLNs3 : Room := { frames := 0, cells := 0, slots := 0, locals := 0 }
def QrmLNs3 (Z : State) (de : Addr) (el : Addr) (em : Addr) (x : Addr) (t : Addr) (kt : ClassId) (vs : List Value) (h0 : Heap) (v : Option Value) (vm : Vm) (h : Heap) : Prop := v = some (.int (3 : Int32)) ∧ h = h0
theorem rmLNs3 (hcx : Cx Z a0 zc de kde em el ee kee mr fm) (x : Addr) (t : Addr) (kt : ClassId) (vs : List Value) (h0 : Heap) (O0 : Old Z Z.heap.size h0) (Pr0 : Fld Z h0 x "java/util/ImmutableCollections$ListN" "elements" "[Ljava/lang/Object;" (.ref t)) (Pr1 : Arv Z h0 t kt (.object "java/lang/Object") (3 : Int32) vs .null) : Met l Z consts_1 (⟨"java/util/ImmutableCollections$ListN", "size", "()I"⟩ : MethodName) jdk_45_method_3_code 1 (some .int) [] RrmLNs3 [] #[(.ref x)] h0 (QrmLNs3 Z de el em x t kt vs h0) := by
  have ⟨hw, hEL, O2, P5, OD, AD, XM, OM, OL, XL, FL, AE, MR, O4, P6⟩ := hcx
  refine Met.start (a0 := a0) (Ls := #[vR x]) pn18 hEL O0 (fun m => by first | (simp [entryFrame, mkF, argsToLocals, Value.category]; done) | rfl) ?_
  intro p e s m below meth cc T0 vm0 X0 sf0_ hby hml hret hnm
  have hx := X0.hx
  have D : ∀ {n r}, decode jdk_45_method_3_code n = r → decode cc.code n = r := fun d => hb hby d
  have zz := X0.ge
  have A0 := X0.at
  have l1 := ltA Pr0.lt
  have l2 := ltA Pr1.lt
  refine Gets.via (fun _ k => (XS.aloadN A0 hx rfl (D d18_0) rfl rfl k)) ?_
  refine X0.getF (host := "") (Or.inl (w129 hw)) Via.refl Pr0 rfl rfl (D d18_1) fun T3 X3 => ?_
  refine X3.alen Pr1 rfl rfl (D d18_4) ?_
  exact X3.retI hret rfl (by simp) (D d18_5) (by decide) (by decide) (fun vmE CE => ⟨rfl, rfl⟩)
abbrev RrmRoh3 : Room := { frames := 1, cells := 0, slots := 0, locals := 12 }
def QrmRoh3 (Z : State) (de : Addr) (el : Addr) (em : Addr) (x : Addr) (L : Addr) (e0 : Addr) (e1 : Addr) (e2 : Addr) (t : Addr) (kn : ClassId) (h0 : Heap) (v : Option Value) (vm : Vm) (h : Heap) : Prop := v = some .null ∧ h = h0
theorem rmRoh3 (hcx : Cx Z a0 zc de kde em el ee kee mr fm) (x : Addr) (L : Addr) (e0 : Addr) (e1 : Addr) (e2 : Addr) (t : Addr) (kn : ClassId) (h0 : Heap) (O0 : Old Z Z.heap.size h0) (Pr0 : Exa Z h0 x "com/example/packwright/packwright/model/Node") (Pr1 : Fld Z h0 x "com/example/packwright/packwright/model/Node" "subscripts" "Ljava/util/List;" (.ref L)) (Pr2 : Exa Z h0 L "java/util/ImmutableCollections$ListN") (Pr3 : Fld Z h0 L "java/util/ImmutableCollections$ListN" "elements" "[Ljava/lang/Object;" (.ref t)) (Pr4 : Arv Z h0 t kn (.object "java/lang/Object") (3 : Int32) [(.ref e0), (.ref e1), (.ref e2)] .null) : Met l Z consts_1 (⟨"com/example/packwright/packwright/io/BuildAssembler", "routineOfHeader", "(Lcom/example/packwright/packwright/model/Node;)Ljava/lang/String;"⟩ : MethodName) prog_4_method_11_code 2 (some (.object "java/lang/String")) [] RrmRoh3 [] #[(.ref x)] h0 (QrmRoh3 Z de el em x L e0 e1 e2 t kn h0) := by
  have ⟨hw, hEL, O2, P5, OD, AD, XM, OM, OL, XL, FL, AE, MR, O4, P6⟩ := hcx
  refine Met.start (a0 := a0) (Ls := #[vR x, .unset]) pn16 hEL O0 (fun m => by first | (simp [entryFrame, mkF, argsToLocals, Value.category]; done) | rfl) ?_
  intro p e s m below meth cc T0 vm0 X0 sf0_ hby hml hret hnm
  have hx := X0.hx
  have D : ∀ {n r}, decode prog_4_method_11_code n = r → decode cc.code n = r := fun d => hb hby d
  have zz := X0.ge
  have A0 := X0.at
  have l1 := ltA Pr0.lt
  have l2 := ltA Pr2.lt
  have l3 := ltA Pr4.lt
  refine Gets.via (fun _ k => (XS.aloadN A0 hx rfl (D d16_0) rfl rfl k)) ?_
  refine X0.callV (W := 0) (w114 hw) (w115 hw) (w117 hw) (w116 hw) (nfs rfl (w117 hw)) (by decide) (X0.payM (sf := []) (rmSubs hcx x L h0 X0.old Pr1) sf0 (w118 hw) (w63 hw) (by decide) (by decide)) Pr0 rfl (sz hml rfl) (argsL := []) (rest := []) (lenOf pd6 rfl) rfl rfl (mroom rfl rfl) (D d16_1) (by decide) (by decide) fun T4 h4 vm4 v4 X4 C4 z4 q4 => ?_
  obtain ⟨rfl, K4⟩ := q4
  rw [K4] at X4 C4
  have A5 := X4.at
  refine Gets.via (fun _ k => (XS.astoreN A5 hx rfl (D d16_4) rfl rfl (l' := #[vR x, vR L]) rfl (XS.aloadN A5 hx rfl (D d16_5) rfl rfl k))) ?_
  refine X4.callF (W := 0) (w119 hw) (w120 hw) (w121 hw) rfl (w122 hw) (w123 hw) (w124 hw) (w125 hw) (w126 hw) (by decide) (X4.payM (sf := []) (rmLNs3 hcx L t kn [(.ref e0), (.ref e1), (.ref e2)] h0 X4.old Pr3 Pr4) sf0 (w128 hw) (w127 hw) (by decide) (by decide)) Pr2 rfl (sz hml rfl) (argsL := []) (rest := []) (lenOf pd9 rfl) rfl rfl (mroom rfl rfl) (D d16_6) (by decide) (by decide) fun T6 h6 vm6 v6 X6 C6 z6 q6 => ?_
  obtain ⟨rfl, K6⟩ := q6
  rw [K6] at X6 C6
  show Gets p e below _ (T6.setTop (mkF m 11 #[vR x, vR L] [(.int (3 : Int32))]))
  have A7 := X6.at
  refine Gets.via (fun _ k => (XS.iconst A7 hx rfl (D d16_11) (XS.icmpYes A7 hx rfl (pc0 := 12) (pc' := 46) rfl (D d16_12) rfl (Jvm.Free.XT.ii_ne_t (by decide)) (by decide) (by decide) k))) ?_
  refine Gets.via (fun _ k => (XS.aconstNull A7 hx rfl (D d16_46) k)) ?_
  exact X6.retA hret rfl rfl rfl (D d16_47) (by decide) (by decide) (fun vmE CE => ⟨rfl, rfl⟩)
abbrev RrmAddT3 : Room := { frames := 0, cells := 0, slots := 0, locals := 0 }
def QrmAddT3 (Z : State) (de : Addr) (el : Addr) (em : Addr) (x : Addr) (y : Addr) (mc : Int32) (d : Addr) (kd : ClassId) (e0 : Addr) (e1 : Addr) (e2 : Addr) (h0 : Heap) (v : Option Value) (vm : Vm) (h : Heap) : Prop := v = none ∧ Keep h0 h [x, d] ∧ Exa Z h x "java/util/ArrayList" ∧ Fld Z h x "java/util/AbstractList" "modCount" "I" (.int mc) ∧ Fld Z h x "java/util/ArrayList" "size" "I" (.int (4 : Int32)) ∧ Fld Z h x "java/util/ArrayList" "elementData" "[Ljava/lang/Object;" (.ref d) ∧ Arv Z h d kd (.object "java/lang/Object") (10 : Int32) [(.ref e0), (.ref e1), (.ref e2), (.ref y), .null, .null, .null, .null, .null, .null] .null ∧ Exa Z h d "[Ljava/lang/Object;"
theorem rmAddT3 (hcx : Cx Z a0 zc de kde em el ee kee mr fm) (x : Addr) (y : Addr) (mc : Int32) (d : Addr) (kd : ClassId) (e0 : Addr) (e1 : Addr) (e2 : Addr) (h0 : Heap) (O0 : Old Z Z.heap.size h0) (Pr0 : Exa Z h0 x "java/util/ArrayList") (Pr1 : Fld Z h0 x "java/util/AbstractList" "modCount" "I" (.int mc)) (Pr2 : Fld Z h0 x "java/util/ArrayList" "size" "I" (.int (3 : Int32))) (Pr3 : Fld Z h0 x "java/util/ArrayList" "elementData" "[Ljava/lang/Object;" (.ref d)) (Pr4 : Arv Z h0 d kd (.object "java/lang/Object") (10 : Int32) [(.ref e0), (.ref e1), (.ref e2), .null, .null, .null, .null, .null, .null, .null] .null) (Pr5 : Exa Z h0 d "[Ljava/lang/Object;") (Pr6 : Ovr Z kd "java/lang/Object") (Pr7 : Z.heap.size ≤ d) (Pr8 : x ≠ d) (Pr9 : Z.heap.size ≤ x) (Pr10 : Exa Z h0 y "java/lang/String") : Met l Z consts_1 (⟨"java/util/ArrayList", "add", "(Ljava/lang/Object;[Ljava/lang/Object;I)V"⟩ : MethodName) jdk_38_method_24_code 4 (none) [] RrmAddT3 [] #[(.ref x), (.ref y), (.ref d), (.int (3 : Int32))] h0 (QrmAddT3 Z de el em x y mc d kd e0 e1 e2 h0) := by
  have ⟨hw, hEL, O2, P5, OD, AD, XM, OM, OL, XL, FL, AE, MR, O4, P6⟩ := hcx
  refine Met.start (a0 := a0) (Ls := #[vR x, vR y, vR d, vI (3 : Int32)]) pn22 hEL O0 (fun m => by first | (simp [entryFrame, mkF, argsToLocals, Value.category]; done) | rfl) ?_
  intro p e s m below meth cc T0 vm0 X0 sf0_ hby hml hret hnm
  have hx := X0.hx
  have D : ∀ {n r}, decode jdk_38_method_24_code n = r → decode cc.code n = r := fun d => hb hby d
  have zz := X0.ge
  have A0 := X0.at
  have l1 := ltA Pr0.lt
  have l2 := ltA Pr4.lt
  have l3 := neA Pr8
  have l4 := ltA Pr10.lt
  refine Gets.via (fun _ k => (XS.iloadN A0 hx rfl (D d22_0) rfl (XS.aloadN A0 hx rfl (D d22_1) rfl rfl k))) ?_
  refine X0.alen Pr4 rfl rfl (D d22_2) ?_
  refine Gets.via (fun _ k => (XS.icmpYes A0 hx rfl (pc0 := 3) (pc' := 11) rfl (D d22_3) rfl (Jvm.Free.XT.ii_ne_t (by decide)) (by decide) (by decide) k)) ?_
  refine Gets.via (fun _ k => (XS.aloadN A0 hx rfl (D d22_11) rfl rfl (XS.iloadN A0 hx rfl (D d22_12) rfl (XS.aloadN A0 hx rfl (D d22_13) rfl rfl k)))) ?_
  show Gets p e below _ (T0.setTop (mkF m 14 #[vR x, vR y, vR d, vI (3 : Int32)] [(.ref y), (.int (3 : Int32)), (.ref d)]))
  refine X0.stR Pr4 (stoV Pr4 Pr6 (Ins.of_exa Pr10 (w169 hw))) rfl (i := 3) (by decide) (by decide) (Nat.le_of_ble_eq_true rfl) (by decide) (leA (by omega)) rfl rfl (D d22_14) fun T5 h5 X5 C5 K5 V5 => ?_
  have z5 := K5.1
  have V5_ : Arv Z h5 d kd (.object "java/lang/Object") (10 : Int32) [(.ref e0), (.ref e1), (.ref e2), (.ref y), .null, .null, .null, .null, .null, .null] .null := V5
  have A6 := X5.at
  refine Gets.via (fun _ k => (XS.aloadN A6 hx rfl (D d22_15) rfl rfl (XS.iloadN A6 hx rfl (D d22_16) rfl (XS.iconst A6 hx rfl (D d22_17) (iaddV A6 hx rfl (D d22_18) rfl (v := (4 : Int32)) (by decide) k))))) ?_
  have f8 := Pr2.keep K5 (ninS (neA (by omega)) nin0)
  have f9 := Pr0.keep K5
  refine X5.putF (host := "") (Or.inl (w98 hw)) Via.refl f8 f9 (Or.inl (w99 hw)) (w38 hw) (ty := .int) (by decide) rfl rfl (leA (by omega)) (Safe.exa X5.hZ.alike f9 (by decide) (by decide)) rfl rfl (D d22_19) fun T7 h7 X7 C7 W7 F7 Z7 => ?_
  have z7 := W7.size
  have f10 := Pr1.keep K5 (ninS (neA (by omega)) nin0)
  have f11 := f10.other W7 (Or.inr (slot_ne (t := .int) (t' := .int) (Or.inl (w57 hw)) (Or.inl (w99 hw)) (by decide) (by decide) (by decide)))
  have f12 := Pr3.keep K5 (ninS (neA (by omega)) nin0)
  have f13 := f12.other W7 (Or.inr (slot_ne (t := (.array (.object "java/lang/Object"))) (t' := .int) (Or.inl (w60 hw)) (Or.inl (w99 hw)) (by decide) (by decide) (by decide)))
  have f14 := V5_.other W7 (neA (by omega))
  have f15 := Pr5.keep K5
  have f16 := f15.wr W7
  exact X7.retV hret (D d22_22) (by decide) (by decide) (fun vmE CE => ⟨rfl, (((Keep.refl h0 [x, d]).trans K5 (allS (Or.inl (List.mem_of_getElem? (i := 1) rfl)) all0)).wr W7 (Or.inl (List.mem_of_getElem? (i := 0) rfl))), Z7, f11, F7, f13, f14, f16⟩)
abbrev RrmAdd3 : Room := { frames := 1, cells := 0, slots := 0, locals := 15 }
def QrmAdd3 (Z : State) (de : Addr) (el : Addr) (em : Addr) (x : Addr) (y : Addr) (mc : Int32) (d : Addr) (kd : ClassId) (e0 : Addr) (e1 : Addr) (e2 : Addr) (h0 : Heap) (v : Option Value) (vm : Vm) (h : Heap) : Prop := v = some (.int (1 : Int32)) ∧ Keep h0 h [x, d] ∧ Exa Z h x "java/util/ArrayList" ∧ Fld Z h x "java/util/AbstractList" "modCount" "I" (.int (mc + (1 : Int32))) ∧ Fld Z h x "java/util/ArrayList" "size" "I" (.int (4 : Int32)) ∧ Fld Z h x "java/util/ArrayList" "elementData" "[Ljava/lang/Object;" (.ref d) ∧ Arv Z h d kd (.object "java/lang/Object") (10 : Int32) [(.ref e0), (.ref e1), (.ref e2), (.ref y), .null, .null, .null, .null, .null, .null] .null ∧ Exa Z h d "[Ljava/lang/Object;"
theorem rmAdd3 (hcx : Cx Z a0 zc de kde em el ee kee mr fm) (x : Addr) (y : Addr) (mc : Int32) (d : Addr) (kd : ClassId) (e0 : Addr) (e1 : Addr) (e2 : Addr) (h0 : Heap) (O0 : Old Z Z.heap.size h0) (Pr0 : Exa Z h0 x "java/util/ArrayList") (Pr1 : Fld Z h0 x "java/util/AbstractList" "modCount" "I" (.int mc)) (Pr2 : Fld Z h0 x "java/util/ArrayList" "size" "I" (.int (3 : Int32))) (Pr3 : Fld Z h0 x "java/util/ArrayList" "elementData" "[Ljava/lang/Object;" (.ref d)) (Pr4 : Arv Z h0 d kd (.object "java/lang/Object") (10 : Int32) [(.ref e0), (.ref e1), (.ref e2), .null, .null, .null, .null, .null, .null, .null] .null) (Pr5 : Exa Z h0 d "[Ljava/lang/Object;") (Pr6 : Ovr Z kd "java/lang/Object") (Pr7 : Z.heap.size ≤ d) (Pr8 : x ≠ d) (Pr9 : Z.heap.size ≤ x) (Pr10 : Exa Z h0 y "java/lang/String") : Met l Z consts_1 (⟨"java/util/ArrayList", "add", "(Ljava/lang/Object;)Z"⟩ : MethodName) jdk_38_method_25_code 2 (some .boolean) [] RrmAdd3 [] #[(.ref x), (.ref y)] h0 (QrmAdd3 Z de el em x y mc d kd e0 e1 e2 h0) := by
  have ⟨hw, hEL, O2, P5, OD, AD, XM, OM, OL, XL, FL, AE, MR, O4, P6⟩ := hcx
  refine Met.start (a0 := a0) (Ls := #[vR x, vR y]) pn21 hEL O0 (fun m => by first | (simp [entryFrame, mkF, argsToLocals, Value.category]; done) | rfl) ?_
  intro p e s m below meth cc T0 vm0 X0 sf0_ hby hml hret hnm
  have hx := X0.hx
  have D : ∀ {n r}, decode jdk_38_method_25_code n = r → decode cc.code n = r := fun d => hb hby d
  have zz := X0.ge
  have A0 := X0.at
  have l1 := ltA Pr0.lt
  have l2 := ltA Pr4.lt
  have l3 := neA Pr8
  have l4 := ltA Pr10.lt
  refine Gets.via (fun _ k => (XS.aloadN A0 hx rfl (D d21_0) rfl rfl (XS.dup A0 hx rfl (D d21_1) rfl rfl k))) ?_
  refine X0.getF (host := "") (Or.inl (w146 hw)) (Via.of (w147 hw)) Pr1 rfl rfl (D d21_2) fun T5 X5 => ?_
  have A6 := X5.at
  refine Gets.via (fun _ k => (XS.iconst A6 hx rfl (D d21_5) (XS.iadd A6 hx rfl (D d21_6) rfl k))) ?_
  refine X5.putF (host := "") (Or.inl (w146 hw)) (Via.of (w147 hw)) Pr1 Pr0 (Or.inl (w57 hw)) (w38 hw) (ty := .int) (by decide) rfl rfl (leA (by omega)) (Safe.exa X5.hZ.alike Pr0 (by decide) (by decide)) rfl rfl (D d21_7) fun T7 h7 X7 C7 W7 F7 Z7 => ?_
  have z7 := W7.size
  show Gets p e below _ (T7.setTop (mkF m 10 #[vR x, vR y] []))
  have A8 := X7.at
  refine Gets.via (fun _ k => (XS.aloadN A8 hx rfl (D d21_10) rfl rfl (XS.aloadN A8 hx rfl (D d21_11) rfl rfl (XS.aloadN A8 hx rfl (D d21_12) rfl rfl k)))) ?_
  have f10 := Pr3.other W7 (Or.inr (slot_ne (t := (.array (.object "java/lang/Object"))) (t' := .int) (Or.inl (w60 hw)) (Or.inl (w57 hw)) (by decide) (by decide) (by decide)))
  refine X7.getF (host := "") (Or.inl (w59 hw)) Via.refl f10 rfl rfl (D d21_13) fun T9 X9 => ?_
  have A11 := X9.at
  refine Gets.via (fun _ k => (XS.aloadN A11 hx rfl (D d21_16) rfl rfl k)) ?_
  have f13 := Pr2.other W7 (Or.inr (slot_ne (t := .int) (t' := .int) (Or.inl (w99 hw)) (Or.inl (w57 hw)) (by decide) (by decide) (by decide)))
  refine X9.getF (host := "") (Or.inl (w98 hw)) Via.refl f13 rfl rfl (D d21_17) fun T12 X12 => ?_
  have f14 := Pr4.other W7 (neA (by omega))
  have f15 := Pr5.wr W7
  have f16 := Pr10.wr W7
  refine X12.callP (W := 0) (w148 hw) (w149 hw) (w151 hw) (w150 hw) (w152 hw) (by decide) (X12.payM (sf := []) (rmAddT3 hcx x y (mc + (1 : Int32)) d kd e0 e1 e2 h7 X12.old Z7 F7 f13 f10 f14 f15 Pr6 Pr7 Pr8 Pr9 f16) sf0 (w152 hw) (w39 hw) (by decide) (by decide)) Z7 rfl (sz hml rfl) (argsL := [(.ref y), (.ref d), (.int (3 : Int32))]) (rest := []) (lenOf pd15 rfl) rfl rfl (mroom rfl rfl) (D d21_20) (by decide) (by decide) fun T17 h17 vm17 v17 X17 C17 z17 q17 => ?_
  obtain ⟨rfl, K17, g17_0, g17_1, g17_2, g17_3, g17_4, g17_5⟩ := q17
  have l18 := ltA g17_0.lt
  have l19 := ltA g17_4.lt
  show Gets p e below _ (T17.setTop (mkF m 23 #[vR x, vR y] []))
  have A20 := X17.at
  refine Gets.via (fun _ k => (XS.iconst A20 hx rfl (D d21_23) k)) ?_
  exact X17.retI hret (by decide) (by simp) (D d21_24) (by decide) (by decide) (fun vmE CE => ⟨rfl, (((Keep.refl h0 [x, d]).wr W7 (Or.inl (List.mem_of_getElem? (i := 0) rfl))).trans K17 (allS (Or.inl (List.mem_of_getElem? (i := 0) rfl)) (allS (Or.inl (List.mem_of_getElem? (i := 1) rfl)) all0))), g17_0, g17_1, g17_2, g17_3, g17_4, g17_5⟩)
abbrev RrmAlEmpty4 : Room := { frames := 0, cells := 0, slots := 0, locals := 0 }
def QrmAlEmpty4 (Z : State) (de : Addr) (el : Addr) (em : Addr) (x : Addr) (h0 : Heap) (v : Option Value) (vm : Vm) (h : Heap) : Prop := v = some (.int (0 : Int32)) ∧ h = h0
theorem rmAlEmpty4 (hcx : Cx Z a0 zc de kde em el ee kee mr fm) (x : Addr) (h0 : Heap) (O0 : Old Z Z.heap.size h0) (Pr0 : Fld Z h0 x "java/util/ArrayList" "size" "I" (.int (4 : Int32))) : Met l Z consts_1 (⟨"java/util/ArrayList", "isEmpty", "()Z"⟩ : MethodName) jdk_38_method_9_code 1 (some .boolean) [] RrmAlEmpty4 [] #[(.ref x)] h0 (QrmAlEmpty4 Z de el em x h0) := by
  have ⟨hw, hEL, O2, P5, OD, AD, XM, OM, OL, XL, FL, AE, MR, O4, P6⟩ := hcx
  refine Met.start (a0 := a0) (Ls := #[vR x]) pn14 hEL O0 (fun m => by first | (simp [entryFrame, mkF, argsToLocals, Value.category]; done) | rfl) ?_
  intro p e s m below meth cc T0 vm0 X0 sf0_ hby hml hret hnm
  have hx := X0.hx
  have D : ∀ {n r}, decode jdk_38_method_9_code n = r → decode cc.code n = r := fun d => hb hby d
  have zz := X0.ge
  have A0 := X0.at
  have l1 := ltA Pr0.lt
  refine Gets.via (fun _ k => (XS.aloadN A0 hx rfl (D d14_0) rfl rfl k)) ?_
  refine X0.getF (host := "") (Or.inl (w98 hw)) Via.refl Pr0 rfl rfl (D d14_1) fun T2 X2 => ?_
  have A3 := X2.at
  refine Gets.via (fun _ k => (XS.ifYes A3 hx rfl (pc0 := 4) (pc' := 11) rfl (D d14_4) rfl (Jvm.Free.XT.i0_ne_t (by decide)) (by decide) (by decide) k)) ?_
  refine Gets.via (fun _ k => (XS.iconst A3 hx rfl (D d14_11) k)) ?_
  exact X2.retI hret (by decide) (by simp) (D d14_12) (by decide) (by decide) (fun vmE CE => ⟨rfl, rfl⟩)
abbrev Rrmmin_10_4 : Room := { frames := 0, cells := 0, slots := 0, locals := 0 }
def Qrmmin_10_4 (Z : State) (de : Addr) (el : Addr) (em : Addr) (h0 : Heap) (v : Option Value) (vm : Vm) (h : Heap) : Prop := v = some (.int (4 : Int32)) ∧ h = h0
theorem rmmin_10_4 (hcx : Cx Z a0 zc de kde em el ee kee mr fm)  (h0 : Heap) (O0 : Old Z Z.heap.size h0)  : Met l Z consts_1 (⟨"java/lang/Math", "min", "(II)I"⟩ : MethodName) jdk_29_method_69_code 2 (some .int) [] Rrmmin_10_4 [] #[(.int (10 : Int32)), (.int (4 : Int32))] h0 (Qrmmin_10_4 Z de el em h0) := by
  have ⟨hw, hEL, O2, P5, OD, AD, XM, OM, OL, XL, FL, AE, MR, O4, P6⟩ := hcx
  refine Met.start (a0 := a0) (Ls := #[vI (10 : Int32), vI (4 : Int32)]) pn29 hEL O0 (fun m => by first | (simp [entryFrame, mkF, argsToLocals, Value.category]; done) | rfl) ?_
  intro p e s m below meth cc T0 vm0 X0 sf0_ hby hml hret hnm
  have hx := X0.hx
  have D : ∀ {n r}, decode jdk_29_method_69_code n = r → decode cc.code n = r := fun d => hb hby d
  have zz := X0.ge
  have A0 := X0.at
  refine Gets.via (fun _ k => (XS.iloadN A0 hx rfl (D d29_0) rfl (XS.iloadN A0 hx rfl (D d29_1) rfl (XS.icmpYes A0 hx rfl (pc0 := 2) (pc' := 9) rfl (D d29_2) rfl (Jvm.Free.XT.ii_gt_t (by decide)) (by decide) (by decide) k)))) ?_
  refine Gets.via (fun _ k => (XS.iloadN A0 hx rfl (D d29_9) rfl k)) ?_
  exact X0.retI hret rfl (by simp) (D d29_10) (by decide) (by decide) (fun vmE CE => ⟨rfl, rfl⟩)
abbrev RrmCoT4 : Room := { frames := 1, cells := 1, slots := 4, locals := 22 }
def QrmCoT4 (Z : State) (de : Addr) (el : Addr) (em : Addr) (d : Addr) (kd : ClassId) (e0 : Addr) (e1 : Addr) (e2 : Addr) (e3 : Addr) (h0 : Heap) (v : Option Value) (vm : Vm) (h : Heap) : Prop := ∃ (r : Addr) (kr : ClassId), v = some (.ref r) ∧ Keep h0 h [] ∧ Arv Z h r kr (.object "java/lang/Object") (4 : Int32) [(.ref e0), (.ref e1), (.ref e2), (.ref e3)] .null ∧ Exa Z h r "[Ljava/lang/Object;" ∧ Ovr Z kr "java/lang/Object" ∧ h0.size ≤ r
theorem rmCoT4 (hcx : Cx Z a0 zc de kde em el ee kee mr fm) (d : Addr) (kd : ClassId) (e0 : Addr) (e1 : Addr) (e2 : Addr) (e3 : Addr) (h0 : Heap) (O0 : Old Z Z.heap.size h0) (Pr0 : Arv Z h0 d kd (.object "java/lang/Object") (10 : Int32) [(.ref e0), (.ref e1), (.ref e2), (.ref e3), .null, .null, .null, .null, .null, .null] .null) (Pr1 : Exa Z h0 d "[Ljava/lang/Object;") (Pr2 : Exa Z h0 e0 "java/lang/String") (Pr3 : Exa Z h0 e1 "java/lang/String") (Pr4 : Exa Z h0 e2 "java/lang/String") (Pr5 : Exa Z h0 e3 "java/lang/String") : Met l Z consts_1 (⟨"java/util/Arrays", "copyOf", "([Ljava/lang/Object;ILjava/lang/Class;)[Ljava/lang/Object;"⟩ : MethodName) jdk_65_method_120_code 4 (some (.array (.object "java/lang/Object"))) [] RrmCoT4 [] #[(.ref d), (.int (4 : Int32)), (.ref mr)] h0 (QrmCoT4 Z de el em d kd e0 e1 e2 e3 h0) := by
  have ⟨hw, hEL, O2, P5, OD, AD, XM, OM, OL, XL, FL, AE, MR, O4, P6⟩ := hcx
  refine Met.start (a0 := a0) (Ls := #[vR d, vI (4 : Int32), vR mr, .unset]) pn28 hEL O0 (fun m => by first | (simp [entryFrame, mkF, argsToLocals, Value.category]; done) | rfl) ?_
  intro p e s m below meth cc T0 vm0 X0 sf0_ hby hml hret hnm
  have hx := X0.hx
  have D : ∀ {n r}, decode jdk_65_method_120_code n = r → decode cc.code n = r := fun d => hb hby d
  have zz := X0.ge
  have A0 := X0.at
  have l1 := ltA Pr0.lt
  have l2 := ltA Pr2.lt
  have l3 := ltA Pr3.lt
  have l4 := ltA Pr4.lt
  have l5 := ltA Pr5.lt
  refine Gets.via (fun _ k => (XS.aloadN A0 hx rfl (D d28_0) rfl rfl k)) ?_
  refine X0.ldcM (w191 hw) MR rfl (D d28_1) fun T6 X6 => ?_
  refine X6.acmpW hx rfl rfl rfl (pc0 := 3) (pc' := 6) (same := true) rfl (D d28_3) rfl (by simp) (by decide) (by decide) ?_
  have A7 := X6.at
  refine Gets.via (fun _ k => (XS.iloadN A7 hx rfl (D d28_6) rfl k)) ?_
  refine X6.newR (ad := "[Ljava/lang/Object;") (w192 hw) (w168 hw) rfl (D d28_7) rfl (by decide) (cap := 4) (by decide) (by decide) (by decide) (by decide) (by decide) fun T8 h8 a8 k8 X8 C8 E8 g8 Z8 Ov8 V8 => ?_
  have z8 := E8.1
  have l8 := ltA V8.lt
  have V8_ : Arv Z h8 a8 k8 (.object "java/lang/Object") (4 : Int32) [.null, .null, .null, .null] .null := padN V8 4
  show Gets p e below _ (T8.setTop (mkF m 10 #[vR d, vI (4 : Int32), vR mr, .unset] [(.ref a8)]))
  have A9 := X8.at
  refine Gets.via (fun _ k => (XS.goto A9 hx rfl (pc0 := 10) (pc' := 24) rfl (D d28_10) (by decide) (by decide) k)) ?_
  refine Gets.via (fun _ k => (XS.astoreN A9 hx rfl (D d28_24) rfl rfl (l' := #[vR d, vI (4 : Int32), vR mr, vR a8]) rfl (XS.aloadN A9 hx rfl (D d28_25) rfl rfl (XS.iconst A9 hx rfl (D d28_26) (XS.aloadN A9 hx rfl (D d28_27) rfl rfl (XS.iconst A9 hx rfl (D d28_28) (XS.aloadN A9 hx rfl (D d28_29) rfl rfl k))))))) ?_
  have f10 := Pr0.ext E8
  refine X8.alen f10 rfl rfl (D d28_30) ?_
  refine Gets.via (fun _ k => (XS.iloadN A9 hx rfl (D d28_31) rfl k)) ?_
  refine X8.callS (W := 4) (w193 hw) (w194 hw) (w165 hw) (w195 hw) (by decide) (X8.payM (sf := []) (rmmin_10_4 hcx  h8 X8.old ) sf0 (w195 hw) (w165 hw) (by decide) (by decide)) rfl (sz hml rfl) (argsL := [(.int (10 : Int32)), (.int (4 : Int32))]) (rest := [(.int (0 : Int32)), (.ref a8), (.int (0 : Int32)), (.ref d)]) (lenOf pd12 rfl) rfl rfl (mroom rfl rfl) (D d28_32) (by decide) (by decide) fun T11 h11 vm11 v11 X11 C11 z11 q11 => ?_
  obtain ⟨rfl, K11⟩ := q11
  rw [K11] at X11 C11
  show Gets p e below _ (T11.setTop (mkF m 35 #[vR d, vI (4 : Int32), vR mr, vR a8] [(.int (4 : Int32)), (.int (0 : Int32)), (.ref a8), (.int (0 : Int32)), (.ref d)]))
  have f13 := Pr5.ext E8
  have f14 := Pr4.ext E8
  have f15 := Pr3.ext E8
  have f16 := Pr2.ext E8
  refine X11.copy (w196 hw) (w199 hw) (w197 hw) (w198 hw) (us := [(.ref e0), (.ref e1), (.ref e2), (.ref e3)]) f10 V8_ (Or.inr ⟨rfl, rfl, ⟨(stoV V8_ Ov8 (Ins.of_exa f16 (w169 hw))), ⟨(stoV V8_ Ov8 (Ins.of_exa f15 (w169 hw))), ⟨(stoV V8_ Ov8 (Ins.of_exa f14 (w169 hw))), ⟨(stoV V8_ Ov8 (Ins.of_exa f13 (w169 hw))), trivial⟩⟩⟩⟩⟩) (by decide) (by decide) (by decide) (by decide) (by decide) rfl (Nat.le_of_ble_eq_true rfl) (leA (by omega)) (Safe.exa X11.hZ.alike Z8 (by decide) (by decide)) rfl (sz hml rfl) rfl (D d28_35) (by decide) (W := 0) (mroom rfl rfl) (by decide) fun T12 h12 X12 C12 K12 V12 => ?_
  have z12 := K12.1
  have V12_ : Arv Z h12 a8 k8 (.object "java/lang/Object") (4 : Int32) [(.ref e0), (.ref e1), (.ref e2), (.ref e3)] .null := V12
  have A17 := X12.at
  refine Gets.via (fun _ k => (XS.aloadN A17 hx rfl (D d28_38) rfl rfl k)) ?_
  have f18 := Z8.keep K12
  exact X12.retA hret rfl rfl rfl (D d28_39) (by decide) (by decide) (fun vmE CE => ⟨a8, k8, rfl, (((Keep.refl h0 []).ext E8).trans K12 (allS (Or.inr (leA (by omega))) all0)), V12_, f18, Ov8, (leA (by omega))⟩)
abbrev RrmCo4 : Room := { frames := 2, cells := 1, slots := 4, locals := 37 }
def QrmCo4 (Z : State) (de : Addr) (el : Addr) (em : Addr) (d : Addr) (kd : ClassId) (e0 : Addr) (e1 : Addr) (e2 : Addr) (e3 : Addr) (h0 : Heap) (v : Option Value) (vm : Vm) (h : Heap) : Prop := ∃ (r : Addr) (kr : ClassId), v = some (.ref r) ∧ Keep h0 h [] ∧ Arv Z h r kr (.object "java/lang/Object") (4 : Int32) [(.ref e0), (.ref e1), (.ref e2), (.ref e3)] .null ∧ Exa Z h r "[Ljava/lang/Object;" ∧ Ovr Z kr "java/lang/Object" ∧ h0.size ≤ r
theorem rmCo4 (hcx : Cx Z a0 zc de kde em el ee kee mr fm) (d : Addr) (kd : ClassId) (e0 : Addr) (e1 : Addr) (e2 : Addr) (e3 : Addr) (h0 : Heap) (O0 : Old Z Z.heap.size h0) (Pr0 : Arv Z h0 d kd (.object "java/lang/Object") (10 : Int32) [(.ref e0), (.ref e1), (.ref e2), (.ref e3), .null, .null, .null, .null, .null, .null] .null) (Pr1 : Exa Z h0 d "[Ljava/lang/Object;") (Pr2 : Exa Z h0 e0 "java/lang/String") (Pr3 : Exa Z h0 e1 "java/lang/String") (Pr4 : Exa Z h0 e2 "java/lang/String") (Pr5 : Exa Z h0 e3 "java/lang/String") : Met l Z consts_1 (⟨"java/util/Arrays", "copyOf", "([Ljava/lang/Object;I)[Ljava/lang/Object;"⟩ : MethodName) jdk_65_method_119_code 2 (some (.array (.object "java/lang/Object"))) [] RrmCo4 [] #[(.ref d), (.int (4 : Int32))] h0 (QrmCo4 Z de el em d kd e0 e1 e2 e3 h0) := by
  have ⟨hw, hEL, O2, P5, OD, AD, XM, OM, OL, XL, FL, AE, MR, O4, P6⟩ := hcx
  refine Met.start (a0 := a0) (Ls := #[vR d, vI (4 : Int32)]) pn27 hEL O0 (fun m => by first | (simp [entryFrame, mkF, argsToLocals, Value.category]; done) | rfl) ?_
  intro p e s m below meth cc T0 vm0 X0 sf0_ hby hml hret hnm
  have hx := X0.hx
  have D : ∀ {n r}, decode jdk_65_method_119_code n = r → decode cc.code n = r := fun d => hb hby d
  have zz := X0.ge
  have A0 := X0.at
  have l1 := ltA Pr0.lt
  have l2 := ltA Pr2.lt
  have l3 := ltA Pr3.lt
  have l4 := ltA Pr4.lt
  have l5 := ltA Pr5.lt
  refine Gets.via (fun _ k => (XS.aloadN A0 hx rfl (D d27_0) rfl rfl (XS.iloadN A0 hx rfl (D d27_1) rfl (XS.aloadN A0 hx rfl (D d27_2) rfl rfl k)))) ?_
  refine X0.getC (w182 hw) (w183 hw) (w87 hw) (w185 hw) (w184 hw) (w186 hw) Pr1 MR rfl (sz hml rfl) rfl (D d27_3) (by decide) (W := 2) (mroom rfl rfl) (by decide) fun T6 X6 => ?_
  refine X6.callS (W := 0) (w188 hw) (w189 hw) (w180 hw) (w190 hw) (by decide) (X6.payM (sf := []) (rmCoT4 hcx d kd e0 e1 e2 e3 h0 X6.old Pr0 Pr1 Pr2 Pr3 Pr4 Pr5) sf0 (w190 hw) (w180 hw) (by decide) (by decide)) rfl (sz hml rfl) (argsL := [(.ref d), (.int (4 : Int32)), (.ref mr)]) (rest := []) (lenOf pd17 rfl) rfl rfl (mroom rfl rfl) (D d27_6) (by decide) (by decide) fun T7 h7 vm7 v7 X7 C7 z7 q7 => ?_
  obtain ⟨r7, kr7, rfl, K7, g7_0, g7_1, g7_2, g7_3⟩ := q7
  have l8 := ltA g7_0.lt
  show Gets p e below _ (T7.setTop (mkF m 9 #[vR d, vI (4 : Int32)] [(.ref r7)]))
  exact X7.retA hret rfl rfl rfl (D d27_9) (by decide) (by decide) (fun vmE CE => ⟨r7, kr7, rfl, ((Keep.refl h0 []).trans K7 all0), g7_0, g7_1, g7_2, g7_3⟩)
abbrev RrmToA4 : Room := { frames := 3, cells := 1, slots := 4, locals := 50 }
def QrmToA4 (Z : State) (de : Addr) (el : Addr) (em : Addr) (x : Addr) (d : Addr) (kd : ClassId) (e0 : Addr) (e1 : Addr) (e2 : Addr) (e3 : Addr) (h0 : Heap) (v : Option Value) (vm : Vm) (h : Heap) : Prop := ∃ (r : Addr) (kr : ClassId), v = some (.ref r) ∧ Keep h0 h [] ∧ Arv Z h r kr (.object "java/lang/Object") (4 : Int32) [(.ref e0), (.ref e1), (.ref e2), (.ref e3)] .null ∧ Exa Z h r "[Ljava/lang/Object;" ∧ Ovr Z kr "java/lang/Object" ∧ h0.size ≤ r
theorem rmToA4 (hcx : Cx Z a0 zc de kde em el ee kee mr fm) (x : Addr) (d : Addr) (kd : ClassId) (e0 : Addr) (e1 : Addr) (e2 : Addr) (e3 : Addr) (h0 : Heap) (O0 : Old Z Z.heap.size h0) (Pr0 : Fld Z h0 x "java/util/ArrayList" "size" "I" (.int (4 : Int32))) (Pr1 : Fld Z h0 x "java/util/ArrayList" "elementData" "[Ljava/lang/Object;" (.ref d)) (Pr2 : Arv Z h0 d kd (.object "java/lang/Object") (10 : Int32) [(.ref e0), (.ref e1), (.ref e2), (.ref e3), .null, .null, .null, .null, .null, .null] .null) (Pr3 : Exa Z h0 d "[Ljava/lang/Object;") (Pr4 : Exa Z h0 e0 "java/lang/String") (Pr5 : Exa Z h0 e1 "java/lang/String") (Pr6 : Exa Z h0 e2 "java/lang/String") (Pr7 : Exa Z h0 e3 "java/lang/String") : Met l Z consts_1 (⟨"java/util/ArrayList", "toArray", "()[Ljava/lang/Object;"⟩ : MethodName) jdk_38_method_16_code 1 (some (.array (.object "java/lang/Object"))) [] RrmToA4 [] #[(.ref x)] h0 (QrmToA4 Z de el em x d kd e0 e1 e2 e3 h0) := by
  have ⟨hw, hEL, O2, P5, OD, AD, XM, OM, OL, XL, FL, AE, MR, O4, P6⟩ := hcx
  refine Met.start (a0 := a0) (Ls := #[vR x]) pn26 hEL O0 (fun m => by first | (simp [entryFrame, mkF, argsToLocals, Value.category]; done) | rfl) ?_
  intro p e s m below meth cc T0 vm0 X0 sf0_ hby hml hret hnm
  have hx := X0.hx
  have D : ∀ {n r}, decode jdk_38_method_16_code n = r → decode cc.code n = r := fun d => hb hby d
  have zz := X0.ge
  have A0 := X0.at
  have l1 := ltA Pr0.lt
  have l2 := ltA Pr2.lt
  have l3 := ltA Pr4.lt
  have l4 := ltA Pr5.lt
  have l5 := ltA Pr6.lt
  have l6 := ltA Pr7.lt
  refine Gets.via (fun _ k => (XS.aloadN A0 hx rfl (D d26_0) rfl rfl k)) ?_
  refine X0.getF (host := "") (Or.inl (w59 hw)) Via.refl Pr1 rfl rfl (D d26_1) fun T7 X7 => ?_
  have A8 := X7.at
  refine Gets.via (fun _ k => (XS.aloadN A8 hx rfl (D d26_4) rfl rfl k)) ?_
  refine X7.getF (host := "") (Or.inl (w98 hw)) Via.refl Pr0 rfl rfl (D d26_5) fun T9 X9 => ?_
  refine X9.callS (W := 0) (w178 hw) (w179 hw) (w180 hw) (w181 hw) (by decide) (X9.payM (sf := []) (rmCo4 hcx d kd e0 e1 e2 e3 h0 X9.old Pr2 Pr3 Pr4 Pr5 Pr6 Pr7) sf0 (w181 hw) (w180 hw) (by decide) (by decide)) rfl (sz hml rfl) (argsL := [(.ref d), (.int (4 : Int32))]) (rest := []) (lenOf pd18 rfl) rfl rfl (mroom rfl rfl) (D d26_8) (by decide) (by decide) fun T10 h10 vm10 v10 X10 C10 z10 q10 => ?_
  obtain ⟨r10, kr10, rfl, K10, g10_0, g10_1, g10_2, g10_3⟩ := q10
  have l11 := ltA g10_0.lt
  show Gets p e below _ (T10.setTop (mkF m 11 #[vR x] [(.ref r10)]))
  exact X10.retA hret rfl rfl rfl (D d26_11) (by decide) (by decide) (fun vmE CE => ⟨r10, kr10, rfl, ((Keep.refl h0 []).trans K10 all0), g10_0, g10_1, g10_2, g10_3⟩)
abbrev RrmLf4 : Room := { frames := 5, cells := 2, slots := 6, locals := 63 }
def QrmLf4 (Z : State) (de : Addr) (el : Addr) (em : Addr) (r : Addr) (kr : ClassId) (e0 : Addr) (e1 : Addr) (e2 : Addr) (e3 : Addr) (h0 : Heap) (v : Option Value) (vm : Vm) (h : Heap) : Prop := ∃ (a : Addr) (t : Addr) (kn : ClassId), v = some (.ref a) ∧ Keep h0 h [] ∧ Exa Z h a "java/util/ImmutableCollections$ListN" ∧ Fld Z h a "java/util/ImmutableCollections$ListN" "elements" "[Ljava/lang/Object;" (.ref t) ∧ Arv Z h t kn (.object "java/lang/Object") (4 : Int32) [(.ref e0), (.ref e1), (.ref e2), (.ref e3)] .null ∧ h0.size ≤ t ∧ h0.size ≤ a
theorem rmLf4 (hcx : Cx Z a0 zc de kde em el ee kee mr fm) (r : Addr) (kr : ClassId) (e0 : Addr) (e1 : Addr) (e2 : Addr) (e3 : Addr) (h0 : Heap) (O0 : Old Z Z.heap.size h0) (Pr0 : Arv Z h0 r kr (.object "java/lang/Object") (4 : Int32) [(.ref e0), (.ref e1), (.ref e2), (.ref e3)] .null) (Pr1 : Exa Z h0 e0 "java/lang/String") (Pr2 : Exa Z h0 e1 "java/lang/String") (Pr3 : Exa Z h0 e2 "java/lang/String") (Pr4 : Exa Z h0 e3 "java/lang/String") : Met l Z consts_1 (⟨"java/util/ImmutableCollections", "listFromArray", "([Ljava/lang/Object;)Ljava/util/List;"⟩ : MethodName) jdk_56_method_4_code 3 (some (.object "java/util/List")) [] RrmLf4 [] #[(.ref r)] h0 (QrmLf4 Z de el em r kr e0 e1 e2 e3 h0) := by
  have ⟨hw, hEL, O2, P5, OD, AD, XM, OM, OL, XL, FL, AE, MR, O4, P6⟩ := hcx
  refine Met.start (a0 := a0) (Ls := #[vR r, .unset, .unset]) pn31 hEL O0 (fun m => by first | (simp [entryFrame, mkF, argsToLocals, Value.category]; done) | rfl) ?_
  intro p e s m below meth cc T0 vm0 X0 sf0_ hby hml hret hnm
  have hx := X0.hx
  have D : ∀ {n r}, decode jdk_56_method_4_code n = r → decode cc.code n = r := fun d => hb hby d
  have zz := X0.ge
  have A0 := X0.at
  have l1 := ltA Pr0.lt
  have l2 := ltA Pr1.lt
  have l3 := ltA Pr2.lt
  have l4 := ltA Pr3.lt
  have l5 := ltA Pr4.lt
  refine Gets.via (fun _ k => (XS.aloadN A0 hx rfl (D d31_0) rfl rfl k)) ?_
  refine X0.alen Pr0 rfl rfl (D d31_1) ?_
  refine X0.newR (ad := "[Ljava/lang/Object;") (w206 hw) (w168 hw) rfl (D d31_2) rfl (by decide) (cap := 4) (by decide) (by decide) (by decide) (by decide) (by decide) fun T6 h6 a6 k6 X6 C6 E6 g6 Z6 Ov6 V6 => ?_
  have z6 := E6.1
  have l6 := ltA V6.lt
  have V6_ : Arv Z h6 a6 k6 (.object "java/lang/Object") (4 : Int32) [.null, .null, .null, .null] .null := padN V6 4
  have A7 := X6.at
  refine Gets.via (fun _ k => (XS.astoreN A7 hx rfl (D d31_5) rfl rfl (l' := #[vR r, vR a6, .unset]) rfl (XS.iconst A7 hx rfl (D d31_6) (XS.istoreN A7 hx rfl (D d31_7) rfl (l' := #[vR r, vR a6, vI (0 : Int32)]) rfl (XS.iloadN A7 hx rfl (D d31_8) rfl (XS.aloadN A7 hx rfl (D d31_9) rfl rfl k)))))) ?_
  show Gets p e below _ (T6.setTop (mkF m 10 #[vR r, vR a6, vI (0 : Int32)] [(.ref r), (.int (0 : Int32))]))
  have f8 := Pr0.ext E6
  refine X6.alen f8 rfl rfl (D d31_10) ?_
  refine Gets.via (fun _ k => (XS.icmpNo A7 hx rfl (D d31_11) rfl (Jvm.Free.XT.ii_ge_f (by decide)) k)) ?_
  refine Gets.via (fun _ k => (XS.aloadN A7 hx rfl (D d31_14) rfl rfl (XS.iloadN A7 hx rfl (D d31_15) rfl (XS.aloadN A7 hx rfl (D d31_16) rfl rfl (XS.iloadN A7 hx rfl (D d31_17) rfl k))))) ?_
  refine X6.ldR f8 rfl (i := 0) (by decide) (by decide) (by decide) rfl rfl rfl (D d31_18) ?_
  refine X6.callS (W := 2) (w207 hw) (w208 hw) (w209 hw) (w210 hw) (by decide) (X6.payM (sf := []) (rm32 hcx e0 h6 X6.old ) sf0 (w210 hw) (w209 hw) (by decide) (by decide)) rfl (sz hml rfl) (argsL := [(.ref e0)]) (rest := [(.int (0 : Int32)), (.ref a6)]) (lenOf pd3 rfl) rfl rfl (mroom rfl rfl) (D d31_19) (by decide) (by decide) fun T9 h9 vm9 v9 X9 C9 z9 q9 => ?_
  obtain ⟨rfl, K9⟩ := q9
  rw [K9] at X9 C9
  show Gets p e below _ (T9.setTop (mkF m 22 #[vR r, vR a6, vI (0 : Int32)] [(.ref e0), (.int (0 : Int32)), (.ref a6)]))
  have f11 := Pr1.ext E6
  refine X9.stR V6_ (stoV V6_ Ov6 (Ins.of_exa f11 (w169 hw))) rfl (i := 0) (by decide) (by decide) (Nat.le_of_ble_eq_true rfl) (by decide) (leA (by omega)) rfl rfl (D d31_22) fun T10 h10 X10 C10 K10 V10 => ?_
  have z10 := K10.1
  have V10_ : Arv Z h10 a6 k6 (.object "java/lang/Object") (4 : Int32) [(.ref e0), .null, .null, .null] .null := V10
  have A12 := X10.at
  refine Gets.via (fun _ k => (iincV A12 hx rfl (D d31_23) rfl (v := (1 : Int32)) (by decide) (l' := #[vR r, vR a6, vI (1 : Int32)]) rfl (XS.goto A12 hx rfl (pc0 := 26) (pc' := 8) rfl (D d31_26) (by decide) (by decide) k))) ?_
  refine Gets.via (fun _ k => (XS.iloadN A12 hx rfl (D d31_8) rfl (XS.aloadN A12 hx rfl (D d31_9) rfl rfl k))) ?_
  have f13 := f8.keep K10 (ninS (neA (by omega)) nin0)
  refine X10.alen f13 rfl rfl (D d31_10) ?_
  refine Gets.via (fun _ k => (XS.icmpNo A12 hx rfl (D d31_11) rfl (Jvm.Free.XT.ii_ge_f (by decide)) k)) ?_
  refine Gets.via (fun _ k => (XS.aloadN A12 hx rfl (D d31_14) rfl rfl (XS.iloadN A12 hx rfl (D d31_15) rfl (XS.aloadN A12 hx rfl (D d31_16) rfl rfl (XS.iloadN A12 hx rfl (D d31_17) rfl k))))) ?_
  show Gets p e below _ (T10.setTop (mkF m 18 #[vR r, vR a6, vI (1 : Int32)] [(.int (1 : Int32)), (.ref r), (.int (1 : Int32)), (.ref a6)]))
  refine X10.ldR f13 rfl (i := 1) (by decide) (by decide) (by decide) rfl rfl rfl (D d31_18) ?_
  refine X10.callS (W := 2) (w207 hw) (w208 hw) (w209 hw) (w210 hw) (by decide) (X10.payM (sf := []) (rm32 hcx e1 h10 X10.old ) sf0 (w210 hw) (w209 hw) (by decide) (by decide)) rfl (sz hml rfl) (argsL := [(.ref e1)]) (rest := [(.int (1 : Int32)), (.ref a6)]) (lenOf pd3 rfl) rfl rfl (mroom rfl rfl) (D d31_19) (by decide) (by decide) fun T14 h14 vm14 v14 X14 C14 z14 q14 => ?_
  obtain ⟨rfl, K14⟩ := q14
  rw [K14] at X14 C14
  have f16 := Pr2.ext E6
  have f17 := f16.keep K10
  refine X14.stR V10_ (stoV V10_ Ov6 (Ins.of_exa f17 (w169 hw))) rfl (i := 1) (by decide) (by decide) (Nat.le_of_ble_eq_true rfl) (by decide) (leA (by omega)) rfl rfl (D d31_22) fun T15 h15 X15 C15 K15 V15 => ?_
  have z15 := K15.1
  have V15_ : Arv Z h15 a6 k6 (.object "java/lang/Object") (4 : Int32) [(.ref e0), (.ref e1), .null, .null] .null := V15
  have A18 := X15.at
  refine Gets.via (fun _ k => (iincV A18 hx rfl (D d31_23) rfl (v := (2 : Int32)) (by decide) (l' := #[vR r, vR a6, vI (2 : Int32)]) rfl (XS.goto A18 hx rfl (pc0 := 26) (pc' := 8) rfl (D d31_26) (by decide) (by decide) k))) ?_
  refine Gets.via (fun _ k => (XS.iloadN A18 hx rfl (D d31_8) rfl (XS.aloadN A18 hx rfl (D d31_9) rfl rfl k))) ?_
  show Gets p e below _ (T15.setTop (mkF m 10 #[vR r, vR a6, vI (2 : Int32)] [(.ref r), (.int (2 : Int32))]))
  have f19 := f13.keep K15 (ninS (neA (by omega)) nin0)
  refine X15.alen f19 rfl rfl (D d31_10) ?_
  refine Gets.via (fun _ k => (XS.icmpNo A18 hx rfl (D d31_11) rfl (Jvm.Free.XT.ii_ge_f (by decide)) k)) ?_
  refine Gets.via (fun _ k => (XS.aloadN A18 hx rfl (D d31_14) rfl rfl (XS.iloadN A18 hx rfl (D d31_15) rfl (XS.aloadN A18 hx rfl (D d31_16) rfl rfl (XS.iloadN A18 hx rfl (D d31_17) rfl k))))) ?_
  refine X15.ldR f19 rfl (i := 2) (by decide) (by decide) (by decide) rfl rfl rfl (D d31_18) ?_
  refine X15.callS (W := 2) (w207 hw) (w208 hw) (w209 hw) (w210 hw) (by decide) (X15.payM (sf := []) (rm32 hcx e2 h15 X15.old ) sf0 (w210 hw) (w209 hw) (by decide) (by decide)) rfl (sz hml rfl) (argsL := [(.ref e2)]) (rest := [(.int (2 : Int32)), (.ref a6)]) (lenOf pd3 rfl) rfl rfl (mroom rfl rfl) (D d31_19) (by decide) (by decide) fun T20 h20 vm20 v20 X20 C20 z20 q20 => ?_
  obtain ⟨rfl, K20⟩ := q20
  rw [K20] at X20 C20
  show Gets p e below _ (T20.setTop (mkF m 22 #[vR r, vR a6, vI (2 : Int32)] [(.ref e2), (.int (2 : Int32)), (.ref a6)]))
  have f22 := Pr3.ext E6
  have f23 := f22.keep K10
  have f24 := f23.keep K15
  refine X20.stR V15_ (stoV V15_ Ov6 (Ins.of_exa f24 (w169 hw))) rfl (i := 2) (by decide) (by decide) (Nat.le_of_ble_eq_true rfl) (by decide) (leA (by omega)) rfl rfl (D d31_22) fun T21 h21 X21 C21 K21 V21 => ?_
  have z21 := K21.1
  have V21_ : Arv Z h21 a6 k6 (.object "java/lang/Object") (4 : Int32) [(.ref e0), (.ref e1), (.ref e2), .null] .null := V21
  have A25 := X21.at
  refine Gets.via (fun _ k => (iincV A25 hx rfl (D d31_23) rfl (v := (3 : Int32)) (by decide) (l' := #[vR r, vR a6, vI (3 : Int32)]) rfl (XS.goto A25 hx rfl (pc0 := 26) (pc' := 8) rfl (D d31_26) (by decide) (by decide) k))) ?_
  refine Gets.via (fun _ k => (XS.iloadN A25 hx rfl (D d31_8) rfl (XS.aloadN A25 hx rfl (D d31_9) rfl rfl k))) ?_
  have f26 := f19.keep K21 (ninS (neA (by omega)) nin0)
  refine X21.alen f26 rfl rfl (D d31_10) ?_
  refine Gets.via (fun _ k => (XS.icmpNo A25 hx rfl (D d31_11) rfl (Jvm.Free.XT.ii_ge_f (by decide)) k)) ?_
  refine Gets.via (fun _ k => (XS.aloadN A25 hx rfl (D d31_14) rfl rfl (XS.iloadN A25 hx rfl (D d31_15) rfl (XS.aloadN A25 hx rfl (D d31_16) rfl rfl (XS.iloadN A25 hx rfl (D d31_17) rfl k))))) ?_
  show Gets p e below _ (T21.setTop (mkF m 18 #[vR r, vR a6, vI (3 : Int32)] [(.int (3 : Int32)), (.ref r), (.int (3 : Int32)), (.ref a6)]))
  refine X21.ldR f26 rfl (i := 3) (by decide) (by decide) (by decide) rfl rfl rfl (D d31_18) ?_
  refine X21.callS (W := 2) (w207 hw) (w208 hw) (w209 hw) (w210 hw) (by decide) (X21.payM (sf := []) (rm32 hcx e3 h21 X21.old ) sf0 (w210 hw) (w209 hw) (by decide) (by decide)) rfl (sz hml rfl) (argsL := [(.ref e3)]) (rest := [(.int (3 : Int32)), (.ref a6)]) (lenOf pd3 rfl) rfl rfl (mroom rfl rfl) (D d31_19) (by decide) (by decide) fun T27 h27 vm27 v27 X27 C27 z27 q27 => ?_
  obtain ⟨rfl, K27⟩ := q27
  rw [K27] at X27 C27
  have f29 := Pr4.ext E6
  have f30 := f29.keep K10
  have f31 := f30.keep K15
  have f32 := f31.keep K21
  refine X27.stR V21_ (stoV V21_ Ov6 (Ins.of_exa f32 (w169 hw))) rfl (i := 3) (by decide) (by decide) (Nat.le_of_ble_eq_true rfl) (by decide) (leA (by omega)) rfl rfl (D d31_22) fun T28 h28 X28 C28 K28 V28 => ?_
  have z28 := K28.1
  have V28_ : Arv Z h28 a6 k6 (.object "java/lang/Object") (4 : Int32) [(.ref e0), (.ref e1), (.ref e2), (.ref e3)] .null := V28
  have A33 := X28.at
  refine Gets.via (fun _ k => (iincV A33 hx rfl (D d31_23) rfl (v := (4 : Int32)) (by decide) (l' := #[vR r, vR a6, vI (4 : Int32)]) rfl (XS.goto A33 hx rfl (pc0 := 26) (pc' := 8) rfl (D d31_26) (by decide) (by decide) k))) ?_
  refine Gets.via (fun _ k => (XS.iloadN A33 hx rfl (D d31_8) rfl (XS.aloadN A33 hx rfl (D d31_9) rfl rfl k))) ?_
  show Gets p e below _ (T28.setTop (mkF m 10 #[vR r, vR a6, vI (4 : Int32)] [(.ref r), (.int (4 : Int32))]))
  have f34 := f26.keep K28 (ninS (neA (by omega)) nin0)
  refine X28.alen f34 rfl rfl (D d31_10) ?_
  refine Gets.via (fun _ k => (XS.icmpYes A33 hx rfl (pc0 := 11) (pc' := 29) rfl (D d31_11) rfl (Jvm.Free.XT.ii_ge_t (by decide)) (by decide) (by decide) k)) ?_
  refine X28.new (w88 hw) (w211 hw) (w127 hw) rfl (D d31_29) (by decide) (by decide) fun T35 h35 a35 X35 C35 E35 g35 Z35 S35 D35 => ?_
  have z35 := E35.1
  have l35 := ltA Z35.lt
  have A36 := X35.at
  refine Gets.via (fun _ k => (XS.dup A36 hx rfl (D d31_32) rfl rfl (XS.aloadN A36 hx rfl (D d31_33) rfl rfl (XS.iconst A36 hx rfl (D d31_34) k)))) ?_
  refine X35.callIN (W := 1) rfl (w212 hw) (w213 hw) (w215 hw) (by decide) (X35.payM (sf := []) (rm33 hcx a35 a6 h35 X35.old Z35 ((D35 (Or.inr (w130 hw)) (ty := (.array (.object "java/lang/Object"))) (by decide) : Fld Z h35 a35 "java/util/ImmutableCollections$ListN" "elements" "[Ljava/lang/Object;" .null)) (D35 (Or.inr (w231 hw)) (ty := .boolean) (by decide) : Fld Z h35 a35 "java/util/ImmutableCollections$ListN" "allowNulls" "Z" (.int (0 : Int32))) (leA (by omega))) sf0 (w215 hw) (w127 hw) (by decide) (by decide)) rfl (sz hml rfl) (a := a35) (argsL := [(.ref a6), (.int (0 : Int32))]) (rest := [(.ref a35)]) (lenOf pd23 rfl) rfl rfl (mroom rfl rfl) (D d31_35) (by decide) (by decide) fun T37 h37 vm37 v37 X37 C37 z37 q37 => ?_
  obtain ⟨rfl, K37, g37_0, g37_1⟩ := q37
  have l38 := ltA g37_0.lt
  show Gets p e below _ (T37.setTop (mkF m 38 #[vR r, vR a6, vI (4 : Int32)] [(.ref a35)]))
  have f39 := V28_.ext E35
  have f40 := f39.keep K37 (ninS (neA (by omega)) nin0)
  exact X37.retA hret rfl rfl rfl (D d31_38) (by decide) (by decide) (fun vmE CE => ⟨a35, a6, k6, rfl, ((((((((Keep.refl h0 []).ext E6).trans K10 (allS (Or.inr (leA (by omega))) all0)).trans K15 (allS (Or.inr (leA (by omega))) all0)).trans K21 (allS (Or.inr (leA (by omega))) all0)).trans K28 (allS (Or.inr (leA (by omega))) all0)).ext E35).trans K37 (allS (Or.inr (leA (by omega))) all0)), g37_0, g37_1, f40, (leA (by omega)), (leA (by omega))⟩)
abbrev RrmOf4 : Room := { frames := 6, cells := 2, slots := 6, locals := 77 }
def QrmOf4 (Z : State) (de : Addr) (el : Addr) (em : Addr) (r : Addr) (kr : ClassId) (e0 : Addr) (e1 : Addr) (e2 : Addr) (e3 : Addr) (h0 : Heap) (v : Option Value) (vm : Vm) (h : Heap) : Prop := ∃ (a : Addr) (t : Addr) (kn : ClassId), v = some (.ref a) ∧ Keep h0 h [] ∧ Exa Z h a "java/util/ImmutableCollections$ListN" ∧ Fld Z h a "java/util/ImmutableCollections$ListN" "elements" "[Ljava/lang/Object;" (.ref t) ∧ Arv Z h t kn (.object "java/lang/Object") (4 : Int32) [(.ref e0), (.ref e1), (.ref e2), (.ref e3)] .null ∧ h0.size ≤ t ∧ h0.size ≤ a
theorem rmOf4 (hcx : Cx Z a0 zc de kde em el ee kee mr fm) (r : Addr) (kr : ClassId) (e0 : Addr) (e1 : Addr) (e2 : Addr) (e3 : Addr) (h0 : Heap) (O0 : Old Z Z.heap.size h0) (Pr0 : Arv Z h0 r kr (.object "java/lang/Object") (4 : Int32) [(.ref e0), (.ref e1), (.ref e2), (.ref e3)] .null) (Pr1 : Exa Z h0 e0 "java/lang/String") (Pr2 : Exa Z h0 e1 "java/lang/String") (Pr3 : Exa Z h0 e2 "java/lang/String") (Pr4 : Exa Z h0 e3 "java/lang/String") : Met l Z consts_1 (⟨"java/util/List", "of", "([Ljava/lang/Object;)Ljava/util/List;"⟩ : MethodName) jdk_40_method_47_code 2 (some (.object "java/util/List")) [] RrmOf4 [] #[(.ref r)] h0 (QrmOf4 Z de el em r kr e0 e1 e2 e3 h0) := by
  have ⟨hw, hEL, O2, P5, OD, AD, XM, OM, OL, XL, FL, AE, MR, O4, P6⟩ := hcx
  refine Met.start (a0 := a0) (Ls := #[vR r, .unset]) pn30 hEL O0 (fun m => by first | (simp [entryFrame, mkF, argsToLocals, Value.category]; done) | rfl) ?_
  intro p e s m below meth cc T0 vm0 X0 sf0_ hby hml hret hnm
  have hx := X0.hx
  have D : ∀ {n r}, decode jdk_40_method_47_code n = r → decode cc.code n = r := fun d => hb hby d
  have zz := X0.ge
  have A0 := X0.at
  have l1 := ltA Pr0.lt
  have l2 := ltA Pr1.lt
  have l3 := ltA Pr2.lt
  have l4 := ltA Pr3.lt
  have l5 := ltA Pr4.lt
  refine Gets.via (fun _ k => (XS.aloadN A0 hx rfl (D d30_0) rfl rfl k)) ?_
  refine X0.alen Pr0 rfl rfl (D d30_1) ?_
  refine Gets.via (fun _ k => (XS.tswOut A0 hx rfl (pc0 := 2) (pc' := 59) rfl (D d30_2) rfl (by decide) (by decide) (by decide) k)) ?_
  refine Gets.via (fun _ k => (XS.aloadN A0 hx rfl (D d30_59) rfl rfl k)) ?_
  refine X0.callS (W := 0) (w203 hw) (w204 hw) (w81 hw) (w205 hw) (by decide) (X0.payM (sf := []) (rmLf4 hcx r kr e0 e1 e2 e3 h0 X0.old Pr0 Pr1 Pr2 Pr3 Pr4) sf0 (w205 hw) (w81 hw) (by decide) (by decide)) rfl (sz hml rfl) (argsL := [(.ref r)]) (rest := []) (lenOf pd20 rfl) rfl rfl (mroom rfl rfl) (D d30_60) (by decide) (by decide) fun T6 h6 vm6 v6 X6 C6 z6 q6 => ?_
  obtain ⟨a6, t6, kn6, rfl, K6, g6_0, g6_1, g6_2, g6_3, g6_4⟩ := q6
  have l7 := ltA g6_0.lt
  have l8 := ltA g6_2.lt
  show Gets p e below _ (T6.setTop (mkF m 63 #[vR r, .unset] [(.ref a6)]))
  exact X6.retA hret rfl rfl rfl (D d30_63) (by decide) (by decide) (fun vmE CE => ⟨a6, t6, kn6, rfl, ((Keep.refl h0 []).trans K6 all0), g6_0, g6_1, g6_2, g6_3, g6_4⟩)
abbrev RrmLc4 : Room := { frames := 7, cells := 3, slots := 10, locals := 90 }
def QrmLc4 (Z : State) (de : Addr) (el : Addr) (em : Addr) (x : Addr) (d : Addr) (kd : ClassId) (e0 : Addr) (e1 : Addr) (e2 : Addr) (e3 : Addr) (h0 : Heap) (v : Option Value) (vm : Vm) (h : Heap) : Prop := ∃ (a : Addr) (t : Addr) (kn : ClassId), v = some (.ref a) ∧ Keep h0 h [] ∧ Exa Z h a "java/util/ImmutableCollections$ListN" ∧ Fld Z h a "java/util/ImmutableCollections$ListN" "elements" "[Ljava/lang/Object;" (.ref t) ∧ Arv Z h t kn (.object "java/lang/Object") (4 : Int32) [(.ref e0), (.ref e1), (.ref e2), (.ref e3)] .null ∧ h0.size ≤ t ∧ h0.size ≤ a
theorem rmLc4 (hcx : Cx Z a0 zc de kde em el ee kee mr fm) (x : Addr) (d : Addr) (kd : ClassId) (e0 : Addr) (e1 : Addr) (e2 : Addr) (e3 : Addr) (h0 : Heap) (O0 : Old Z Z.heap.size h0) (Pr0 : Exa Z h0 x "java/util/ArrayList") (Pr1 : Fld Z h0 x "java/util/ArrayList" "size" "I" (.int (4 : Int32))) (Pr2 : Fld Z h0 x "java/util/ArrayList" "elementData" "[Ljava/lang/Object;" (.ref d)) (Pr3 : Arv Z h0 d kd (.object "java/lang/Object") (10 : Int32) [(.ref e0), (.ref e1), (.ref e2), (.ref e3), .null, .null, .null, .null, .null, .null] .null) (Pr4 : Exa Z h0 d "[Ljava/lang/Object;") (Pr5 : Exa Z h0 e0 "java/lang/String") (Pr6 : Exa Z h0 e1 "java/lang/String") (Pr7 : Exa Z h0 e2 "java/lang/String") (Pr8 : Exa Z h0 e3 "java/lang/String") : Met l Z consts_1 (⟨"java/util/ImmutableCollections", "listCopy", "(Ljava/util/Collection;)Ljava/util/List;"⟩ : MethodName) jdk_56_method_3_code 2 (some (.object "java/util/List")) [] RrmLc4 [] #[(.ref x)] h0 (QrmLc4 Z de el em x d kd e0 e1 e2 e3 h0) := by
  have ⟨hw, hEL, O2, P5, OD, AD, XM, OM, OL, XL, FL, AE, MR, O4, P6⟩ := hcx
  refine Met.start (a0 := a0) (Ls := #[vR x, .unset]) pn13 hEL O0 (fun m => by first | (simp [entryFrame, mkF, argsToLocals, Value.category]; done) | rfl) ?_
  intro p e s m below meth cc T0 vm0 X0 sf0_ hby hml hret hnm
  have hx := X0.hx
  have D : ∀ {n r}, decode jdk_56_method_3_code n = r → decode cc.code n = r := fun d => hb hby d
  have zz := X0.ge
  have A0 := X0.at
  have l1 := ltA Pr0.lt
  have l2 := ltA Pr3.lt
  have l3 := ltA Pr5.lt
  have l4 := ltA Pr6.lt
  have l5 := ltA Pr7.lt
  have l6 := ltA Pr8.lt
  refine Gets.via (fun _ k => (XS.aloadN A0 hx rfl (D d13_0) rfl rfl k)) ?_
  refine X0.instNo (w83 hw) Pr0 (ns_no (w84 hw) (plainS (w270 hw) rfl) (NS.step (w84 hw) (NS.step (w85 hw) (NS.step (w86 hw) (ns_root (w87 hw) (plainS (w270 hw) rfl) (by decide)) (by decide)) (by decide)) (by decide)) (by decide)) rfl rfl (D d13_1) fun T7 X7 => ?_
  have A8 := X7.at
  refine Gets.via (fun _ k => (XS.ifNo A8 hx rfl (D d13_4) rfl (Jvm.Free.XT.i0_ne_f (by decide)) k)) ?_
  refine Gets.via (fun _ k => (XS.aloadN A8 hx rfl (D d13_7) rfl rfl k)) ?_
  refine X7.instNo (w88 hw) Pr0 (ns_no (w84 hw) (plainS (w122 hw) rfl) (NS.step (w84 hw) (NS.step (w85 hw) (NS.step (w86 hw) (ns_root (w87 hw) (plainS (w122 hw) rfl) (by decide)) (by decide)) (by decide)) (by decide)) (by decide)) rfl rfl (D d13_8) fun T9 X9 => ?_
  show Gets p e below _ (T9.setTop (mkF m 11 #[vR x, .unset] [(.int (0 : Int32))]))
  have A10 := X9.at
  refine Gets.via (fun _ k => (XS.ifYes A10 hx rfl (pc0 := 11) (pc' := 31) rfl (D d13_11) rfl (Jvm.Free.XT.i0_eq_t (by decide)) (by decide) (by decide) k)) ?_
  refine Gets.via (fun _ k => (XS.aloadN A10 hx rfl (D d13_31) rfl rfl k)) ?_
  refine X9.callF (W := 0) (w89 hw) (w90 hw) (w91 hw) rfl (w92 hw) (w93 hw) (w94 hw) (w95 hw) (w96 hw) (by decide) (X9.payM (sf := []) (rmAlEmpty4 hcx x h0 X9.old Pr1) sf0 (w97 hw) (w39 hw) (by decide) (by decide)) Pr0 rfl (sz hml rfl) (argsL := []) (rest := []) (lenOf pd5 rfl) rfl rfl (mroom rfl rfl) (D d13_32) (by decide) (by decide) fun T11 h11 vm11 v11 X11 C11 z11 q11 => ?_
  obtain ⟨rfl, K11⟩ := q11
  rw [K11] at X11 C11
  have A12 := X11.at
  refine Gets.via (fun _ k => (XS.ifYes A12 hx rfl (pc0 := 37) (pc' := 44) rfl (D d13_37) rfl (Jvm.Free.XT.i0_eq_t (by decide)) (by decide) (by decide) k)) ?_
  refine Gets.via (fun _ k => (XS.aloadN A12 hx rfl (D d13_44) rfl rfl k)) ?_
  refine X11.callF (W := 0) (w170 hw) (w171 hw) (w172 hw) rfl (w173 hw) (w174 hw) (w175 hw) (w176 hw) (w96 hw) (by decide) (X11.payM (sf := []) (rmToA4 hcx x d kd e0 e1 e2 e3 h0 X11.old Pr1 Pr2 Pr3 Pr4 Pr5 Pr6 Pr7 Pr8) sf0 (w177 hw) (w39 hw) (by decide) (by decide)) Pr0 rfl (sz hml rfl) (argsL := []) (rest := []) (lenOf pd14 rfl) rfl rfl (mroom rfl rfl) (D d13_45) (by decide) (by decide) fun T13 h13 vm13 v13 X13 C13 z13 q13 => ?_
  obtain ⟨r13, kr13, rfl, K13, g13_0, g13_1, g13_2, g13_3⟩ := q13
  have l14 := ltA g13_0.lt
  have f15 := Pr5.keep K13
  have f16 := Pr6.keep K13
  have f17 := Pr7.keep K13
  have f18 := Pr8.keep K13
  refine X13.callS (W := 0) (w200 hw) (w201 hw) (w77 hw) (w202 hw) (by decide) (X13.payM (sf := []) (rmOf4 hcx r13 kr13 e0 e1 e2 e3 h13 X13.old g13_0 f15 f16 f17 f18) sf0 (w202 hw) (w77 hw) (by decide) (by decide)) rfl (sz hml rfl) (argsL := [(.ref r13)]) (rest := []) (lenOf pd20 rfl) rfl rfl (mroom rfl rfl) (D d13_50) (by decide) (by decide) fun T19 h19 vm19 v19 X19 C19 z19 q19 => ?_
  obtain ⟨a19, t19, kn19, rfl, K19, g19_0, g19_1, g19_2, g19_3, g19_4⟩ := q19
  have l20 := ltA g19_0.lt
  have l21 := ltA g19_2.lt
  show Gets p e below _ (T19.setTop (mkF m 53 #[vR x, .unset] [(.ref a19)]))
  exact X19.retA hret rfl rfl rfl (D d13_53) (by decide) (by decide) (fun vmE CE => ⟨a19, t19, kn19, rfl, (((Keep.refl h0 []).trans K13 all0).trans K19 all0), g19_0, g19_1, g19_2, (leA (by omega)), (leA (by omega))⟩)
abbrev RrmCoL4 : Room := { frames := 8, cells := 3, slots := 10, locals := 103 }
def QrmCoL4 (Z : State) (de : Addr) (el : Addr) (em : Addr) (x : Addr) (d : Addr) (kd : ClassId) (e0 : Addr) (e1 : Addr) (e2 : Addr) (e3 : Addr) (h0 : Heap) (v : Option Value) (vm : Vm) (h : Heap) : Prop := ∃ (a : Addr) (t : Addr) (kn : ClassId), v = some (.ref a) ∧ Keep h0 h [] ∧ Exa Z h a "java/util/ImmutableCollections$ListN" ∧ Fld Z h a "java/util/ImmutableCollections$ListN" "elements" "[Ljava/lang/Object;" (.ref t) ∧ Arv Z h t kn (.object "java/lang/Object") (4 : Int32) [(.ref e0), (.ref e1), (.ref e2), (.ref e3)] .null ∧ h0.size ≤ t ∧ h0.size ≤ a
theorem rmCoL4 (hcx : Cx Z a0 zc de kde em el ee kee mr fm) (x : Addr) (d : Addr) (kd : ClassId) (e0 : Addr) (e1 : Addr) (e2 : Addr) (e3 : Addr) (h0 : Heap) (O0 : Old Z Z.heap.size h0) (Pr0 : Exa Z h0 x "java/util/ArrayList") (Pr1 : Fld Z h0 x "java/util/ArrayList" "size" "I" (.int (4 : Int32))) (Pr2 : Fld Z h0 x "java/util/ArrayList" "elementData" "[Ljava/lang/Object;" (.ref d)) (Pr3 : Arv Z h0 d kd (.object "java/lang/Object") (10 : Int32) [(.ref e0), (.ref e1), (.ref e2), (.ref e3), .null, .null, .null, .null, .null, .null] .null) (Pr4 : Exa Z h0 d "[Ljava/lang/Object;") (Pr5 : Exa Z h0 e0 "java/lang/String") (Pr6 : Exa Z h0 e1 "java/lang/String") (Pr7 : Exa Z h0 e2 "java/lang/String") (Pr8 : Exa Z h0 e3 "java/lang/String") : Met l Z consts_1 (⟨"java/util/List", "copyOf", "(Ljava/util/Collection;)Ljava/util/List;"⟩ : MethodName) jdk_40_method_48_code 1 (some (.object "java/util/List")) [] RrmCoL4 [] #[(.ref x)] h0 (QrmCoL4 Z de el em x d kd e0 e1 e2 e3 h0) := by
  have ⟨hw, hEL, O2, P5, OD, AD, XM, OM, OL, XL, FL, AE, MR, O4, P6⟩ := hcx
  refine Met.start (a0 := a0) (Ls := #[vR x]) pn12 hEL O0 (fun m => by first | (simp [entryFrame, mkF, argsToLocals, Value.category]; done) | rfl) ?_
  intro p e s m below meth cc T0 vm0 X0 sf0_ hby hml hret hnm
  have hx := X0.hx
  have D : ∀ {n r}, decode jdk_40_method_48_code n = r → decode cc.code n = r := fun d => hb hby d
  have zz := X0.ge
  have A0 := X0.at
  have l1 := ltA Pr0.lt
  have l2 := ltA Pr3.lt
  have l3 := ltA Pr5.lt
  have l4 := ltA Pr6.lt
  have l5 := ltA Pr7.lt
  have l6 := ltA Pr8.lt
  refine Gets.via (fun _ k => (XS.aloadN A0 hx rfl (D d12_0) rfl rfl k)) ?_
  refine X0.callS (W := 0) (w79 hw) (w80 hw) (w81 hw) (w82 hw) (by decide) (X0.payM (sf := []) (rmLc4 hcx x d kd e0 e1 e2 e3 h0 X0.old Pr0 Pr1 Pr2 Pr3 Pr4 Pr5 Pr6 Pr7 Pr8) sf0 (w82 hw) (w81 hw) (by decide) (by decide)) rfl (sz hml rfl) (argsL := [(.ref x)]) (rest := []) (lenOf pd7 rfl) rfl rfl (mroom rfl rfl) (D d12_1) (by decide) (by decide) fun T7 h7 vm7 v7 X7 C7 z7 q7 => ?_
  obtain ⟨a7, t7, kn7, rfl, K7, g7_0, g7_1, g7_2, g7_3, g7_4⟩ := q7
  have l8 := ltA g7_0.lt
  have l9 := ltA g7_2.lt
  exact X7.retA hret rfl rfl rfl (D d12_4) (by decide) (by decide) (fun vmE CE => ⟨a7, t7, kn7, rfl, ((Keep.refl h0 []).trans K7 all0), g7_0, g7_1, g7_2, g7_3, g7_4⟩)
abbrev RrmNode4 : Room := { frames := 9, cells := 3, slots := 10, locals := 115 }
def QrmNode4 (Z : State) (de : Addr) (el : Addr) (em : Addr) (x : Addr) (u : Addr) (z : Addr) (v1 : Addr) (d : Addr) (kd : ClassId) (e0 : Addr) (e1 : Addr) (e2 : Addr) (e3 : Addr) (h0 : Heap) (v : Option Value) (vm : Vm) (h : Heap) : Prop := ∃ (L : Addr) (t : Addr) (kn : ClassId), v = none ∧ Keep h0 h [x] ∧ Exa Z h x "com/example/packwright/packwright/model/Node" ∧ Fld Z h x "com/example/packwright/packwright/model/Node" "subscripts" "Ljava/util/List;" (.ref L) ∧ Exa Z h L "java/util/ImmutableCollections$ListN" ∧ Fld Z h L "java/util/ImmutableCollections$ListN" "elements" "[Ljava/lang/Object;" (.ref t) ∧ Arv Z h t kn (.object "java/lang/Object") (4 : Int32) [(.ref e0), (.ref e1), (.ref e2), (.ref e3)] .null
theorem rmNode4 (hcx : Cx Z a0 zc de kde em el ee kee mr fm) (x : Addr) (u : Addr) (z : Addr) (v1 : Addr) (d : Addr) (kd : ClassId) (e0 : Addr) (e1 : Addr) (e2 : Addr) (e3 : Addr) (h0 : Heap) (O0 : Old Z Z.heap.size h0) (Pr0 : Exa Z h0 x "com/example/packwright/packwright/model/Node") (Pr1 : Fld Z h0 x "com/example/packwright/packwright/model/Node" "subscriptLine" "Ljava/lang/String;" .null) (Pr2 : Fld Z h0 x "com/example/packwright/packwright/model/Node" "subscripts" "Ljava/util/List;" .null) (Pr3 : Fld Z h0 x "com/example/packwright/packwright/model/Node" "value" "Ljava/lang/String;" .null) (Pr4 : Z.heap.size ≤ x) (Pr5 : Exa Z h0 z "java/util/ArrayList") (Pr6 : Fld Z h0 z "java/util/ArrayList" "size" "I" (.int (4 : Int32))) (Pr7 : Fld Z h0 z "java/util/ArrayList" "elementData" "[Ljava/lang/Object;" (.ref d)) (Pr8 : Arv Z h0 d kd (.object "java/lang/Object") (10 : Int32) [(.ref e0), (.ref e1), (.ref e2), (.ref e3), .null, .null, .null, .null, .null, .null] .null) (Pr9 : Exa Z h0 d "[Ljava/lang/Object;") (Pr10 : Exa Z h0 e0 "java/lang/String") (Pr11 : Exa Z h0 e1 "java/lang/String") (Pr12 : Exa Z h0 e2 "java/lang/String") (Pr13 : Exa Z h0 e3 "java/lang/String") : Met l Z consts_1 (⟨"com/example/packwright/packwright/model/Node", "<init>", "(Ljava/lang/String;Ljava/util/List;Ljava/lang/String;)V"⟩ : MethodName) prog_37_method_1_code 4 (none) [] RrmNode4 [] #[(.ref x), (.ref u), (.ref z), (.ref v1)] h0 (QrmNode4 Z de el em x u z v1 d kd e0 e1 e2 e3 h0) := by
  have ⟨hw, hEL, O2, P5, OD, AD, XM, OM, OL, XL, FL, AE, MR, O4, P6⟩ := hcx
  refine Met.start (a0 := a0) (Ls := #[vR x, vR u, vR z, vR v1]) pn10 hEL O0 (fun m => by first | (simp [entryFrame, mkF, argsToLocals, Value.category]; done) | rfl) ?_
  intro p e s m below meth cc T0 vm0 X0 sf0_ hby hml hret hnm
  have hx := X0.hx
  have D : ∀ {n r}, decode prog_37_method_1_code n = r → decode cc.code n = r := fun d => hb hby d
  have zz := X0.ge
  have A0 := X0.at
  have l1 := ltA Pr0.lt
  have l2 := ltA Pr5.lt
  have l3 := ltA Pr8.lt
  have l4 := ltA Pr10.lt
  have l5 := ltA Pr11.lt
  have l6 := ltA Pr12.lt
  have l7 := ltA Pr13.lt
  refine Gets.via (fun _ k => (XS.aloadN A0 hx rfl (D d10_0) rfl rfl k)) ?_
  refine X0.callI (y := (⟨"java/lang/Record", "<init>", "()V"⟩ : MethodName)) (W := 0) rfl (w69 hw) (w70 hw) (w73 hw) (by decide) (X0.payM (sf := []) (rm11 hcx x h0 X0.old ) sf0 (w73 hw) (w72 hw) (by decide) (by decide)) rfl (sz hml rfl) (a := x) (argsL := []) (rest := []) (lenOf pd2 rfl) rfl rfl (mroom rfl rfl) (D d10_1) (by decide) (by decide) fun T8 h8 vm8 v8 X8 C8 z8 q8 => ?_
  obtain ⟨rfl, K8⟩ := q8
  rw [K8] at X8 C8
  have A9 := X8.at
  refine Gets.via (fun _ k => (XS.aloadN A9 hx rfl (D d10_4) rfl rfl k)) ?_
  refine X8.callS (W := 0) (w75 hw) (w76 hw) (w77 hw) (w78 hw) (by decide) (X8.payM (sf := []) (rmCoL4 hcx z d kd e0 e1 e2 e3 h0 X8.old Pr5 Pr6 Pr7 Pr8 Pr9 Pr10 Pr11 Pr12 Pr13) sf0 (w78 hw) (w77 hw) (by decide) (by decide)) rfl (sz hml rfl) (argsL := [(.ref z)]) (rest := []) (lenOf pd7 rfl) rfl rfl (mroom rfl rfl) (D d10_5) (by decide) (by decide) fun T10 h10 vm10 v10 X10 C10 z10 q10 => ?_
  obtain ⟨a10, t10, kn10, rfl, K10, g10_0, g10_1, g10_2, g10_3, g10_4⟩ := q10
  have l11 := ltA g10_0.lt
  have l12 := ltA g10_2.lt
  have A13 := X10.at
  refine Gets.via (fun _ k => (XS.astoreN A13 hx rfl (D d10_8) rfl rfl (l' := #[vR x, vR u, vR a10, vR v1]) rfl (XS.aloadN A13 hx rfl (D d10_9) rfl rfl (XS.aloadN A13 hx rfl (D d10_10) rfl rfl k)))) ?_
  show Gets p e below _ (T10.setTop (mkF m 11 #[vR x, vR u, vR a10, vR v1] [(.ref u), (.ref x)]))
  have f15 := Pr1.keep K10 nin0
  have f16 := Pr0.keep K10
  refine X10.putF (host := "") (Or.inl (w104 hw)) Via.refl f15 f16 (Or.inr ⟨(w105 hw), rfl, hnm⟩) (w62 hw) (ty := (.object "java/lang/String")) (by decide) rfl rfl (leA (by omega)) (Safe.exa X10.hZ.alike f16 (by decide) (by decide)) rfl rfl (D d10_11) fun T14 h14 X14 C14 W14 F14 Z14 => ?_
  have z14 := W14.size
  have A17 := X14.at
  refine Gets.via (fun _ k => (XS.aloadN A17 hx rfl (D d10_14) rfl rfl (XS.aloadN A17 hx rfl (D d10_15) rfl rfl k))) ?_
  have f19 := Pr2.keep K10 nin0
  have f20 := f19.other W14 (Or.inr (slot_ne (t := (.object "java/util/List")) (t' := (.object "java/lang/String")) (Or.inr (w107 hw)) (Or.inr (w105 hw)) (by decide) (by decide) (by decide)))
  refine X14.putF (host := "") (Or.inl (w106 hw)) Via.refl f20 Z14 (Or.inr ⟨(w107 hw), rfl, hnm⟩) (w62 hw) (ty := (.object "java/util/List")) (by decide) rfl rfl (leA (by omega)) (Safe.exa X14.hZ.alike Z14 (by decide) (by decide)) rfl rfl (D d10_16) fun T18 h18 X18 C18 W18 F18 Z18 => ?_
  have z18 := W18.size
  have A21 := X18.at
  refine Gets.via (fun _ k => (XS.aloadN A21 hx rfl (D d10_19) rfl rfl (XS.aloadN A21 hx rfl (D d10_20) rfl rfl k))) ?_
  have f23 := Pr3.keep K10 nin0
  have f24 := f23.other W14 (Or.inr (slot_ne (t := (.object "java/lang/String")) (t' := (.object "java/lang/String")) (Or.inr (w109 hw)) (Or.inr (w105 hw)) (by decide) (by decide) (by decide)))
  have f25 := f24.other W18 (Or.inr (slot_ne (t := (.object "java/lang/String")) (t' := (.object "java/util/List")) (Or.inr (w109 hw)) (Or.inr (w107 hw)) (by decide) (by decide) (by decide)))
  refine X18.putF (host := "") (Or.inl (w108 hw)) Via.refl f25 Z18 (Or.inr ⟨(w109 hw), rfl, hnm⟩) (w62 hw) (ty := (.object "java/lang/String")) (by decide) rfl rfl (leA (by omega)) (Safe.exa X18.hZ.alike Z18 (by decide) (by decide)) rfl rfl (D d10_21) fun T22 h22 X22 C22 W22 F22 Z22 => ?_
  have z22 := W22.size
  show Gets p e below _ (T22.setTop (mkF m 24 #[vR x, vR u, vR a10, vR v1] []))
  have f26 := F18.other W22 (Or.inr (slot_ne (t := (.object "java/util/List")) (t' := (.object "java/lang/String")) (Or.inr (w107 hw)) (Or.inr (w109 hw)) (by decide) (by decide) (by decide)))
  have f27 := g10_0.wr W14
  have f28 := f27.wr W18
  have f29 := f28.wr W22
  have f30 := g10_1.other W14 (Or.inl (neA (by omega)))
  have f31 := f30.other W18 (Or.inl (neA (by omega)))
  have f32 := f31.other W22 (Or.inl (neA (by omega)))
  have f33 := g10_2.other W14 (neA (by omega))
  have f34 := f33.other W18 (neA (by omega))
  have f35 := f34.other W22 (neA (by omega))
  exact X22.retV hret (D d10_24) (by decide) (by decide) (fun vmE CE => ⟨a10, t10, kn10, rfl, (((((Keep.refl h0 [x]).trans K10 all0).wr W14 (Or.inl (List.mem_of_getElem? (i := 0) rfl))).wr W18 (Or.inl (List.mem_of_getElem? (i := 0) rfl))).wr W22 (Or.inl (List.mem_of_getElem? (i := 0) rfl))), Z22, f26, f29, f32, f35⟩)
abbrev RrmLNs4 : Room := { frames := 0, cells := 0, slots := 0, locals := 0 }
def QrmLNs4 (Z : State) (de : Addr) (el : Addr) (em : Addr) (x : Addr) (t : Addr) (kt : ClassId) (vs : List Value) (h0 : Heap) (v : Option Value) (vm : Vm) (h : Heap) : Prop := v = some (.int (4 : Int32)) ∧ h = h0
theorem rmLNs4 (hcx : Cx Z a0 zc de kde em el ee kee mr fm) (x : Addr) (t : Addr) (kt : ClassId) (vs : List Value) (h0 : Heap) (O0 : Old Z Z.heap.size h0) (Pr0 : Fld Z h0 x "java/util/ImmutableCollections$ListN" "elements" "[Ljava/lang/Object;" (.ref t)) (Pr1 : Arv Z h0 t kt (.object "java/lang/Object") (4 : Int32) vs .null) : Met l Z consts_1 (⟨"java/util/ImmutableCollections$ListN", "size", "()I"⟩ : MethodName) jdk_45_method_3_code 1 (some .int) [] RrmLNs4 [] #[(.ref x)] h0 (QrmLNs4 Z de el em x t kt vs h0) := by
  have ⟨hw, hEL, O2, P5, OD, AD, XM, OM, OL, XL, FL, AE, MR, O4, P6⟩ := hcx
  refine Met.start (a0 := a0) (Ls := #[vR x]) pn18 hEL O0 (fun m => by first | (simp [entryFrame, mkF, argsToLocals, Value.category]; done) | rfl) ?_
  intro p e s m below meth cc T0 vm0 X0 sf0_ hby hml hret hnm
  have hx := X0.hx
  have D : ∀ {n r}, decode jdk_45_method_3_code n = r → decode cc.code n = r := fun d => hb hby d
  have zz := X0.ge
  have A0 := X0.at
  have l1 := ltA Pr0.lt
  have l2 := ltA Pr1.lt
  refine Gets.via (fun _ k => (XS.aloadN A0 hx rfl (D d18_0) rfl rfl k)) ?_
  refine X0.getF (host := "") (Or.inl (w129 hw)) Via.refl Pr0 rfl rfl (D d18_1) fun T3 X3 => ?_
  refine X3.alen Pr1 rfl rfl (D d18_4) ?_
  exact X3.retI hret rfl (by simp) (D d18_5) (by decide) (by decide) (fun vmE CE => ⟨rfl, rfl⟩)
abbrev RrmRoh4 : Room := { frames := 1, cells := 0, slots := 0, locals := 12 }
def QrmRoh4 (Z : State) (de : Addr) (el : Addr) (em : Addr) (x : Addr) (L : Addr) (e0 : Addr) (e1 : Addr) (e2 : Addr) (e3 : Addr) (t : Addr) (kn : ClassId) (h0 : Heap) (v : Option Value) (vm : Vm) (h : Heap) : Prop := v = some .null ∧ h = h0
theorem rmRoh4 (hcx : Cx Z a0 zc de kde em el ee kee mr fm) (x : Addr) (L : Addr) (e0 : Addr) (e1 : Addr) (e2 : Addr) (e3 : Addr) (t : Addr) (kn : ClassId) (h0 : Heap) (O0 : Old Z Z.heap.size h0) (Pr0 : Exa Z h0 x "com/example/packwright/packwright/model/Node") (Pr1 : Fld Z h0 x "com/example/packwright/packwright/model/Node" "subscripts" "Ljava/util/List;" (.ref L)) (Pr2 : Exa Z h0 L "java/util/ImmutableCollections$ListN") (Pr3 : Fld Z h0 L "java/util/ImmutableCollections$ListN" "elements" "[Ljava/lang/Object;" (.ref t)) (Pr4 : Arv Z h0 t kn (.object "java/lang/Object") (4 : Int32) [(.ref e0), (.ref e1), (.ref e2), (.ref e3)] .null) : Met l Z consts_1 (⟨"com/example/packwright/packwright/io/BuildAssembler", "routineOfHeader", "(Lcom/example/packwright/packwright/model/Node;)Ljava/lang/String;"⟩ : MethodName) prog_4_method_11_code 2 (some (.object "java/lang/String")) [] RrmRoh4 [] #[(.ref x)] h0 (QrmRoh4 Z de el em x L e0 e1 e2 e3 t kn h0) := by
  have ⟨hw, hEL, O2, P5, OD, AD, XM, OM, OL, XL, FL, AE, MR, O4, P6⟩ := hcx
  refine Met.start (a0 := a0) (Ls := #[vR x, .unset]) pn16 hEL O0 (fun m => by first | (simp [entryFrame, mkF, argsToLocals, Value.category]; done) | rfl) ?_
  intro p e s m below meth cc T0 vm0 X0 sf0_ hby hml hret hnm
  have hx := X0.hx
  have D : ∀ {n r}, decode prog_4_method_11_code n = r → decode cc.code n = r := fun d => hb hby d
  have zz := X0.ge
  have A0 := X0.at
  have l1 := ltA Pr0.lt
  have l2 := ltA Pr2.lt
  have l3 := ltA Pr4.lt
  refine Gets.via (fun _ k => (XS.aloadN A0 hx rfl (D d16_0) rfl rfl k)) ?_
  refine X0.callV (W := 0) (w114 hw) (w115 hw) (w117 hw) (w116 hw) (nfs rfl (w117 hw)) (by decide) (X0.payM (sf := []) (rmSubs hcx x L h0 X0.old Pr1) sf0 (w118 hw) (w63 hw) (by decide) (by decide)) Pr0 rfl (sz hml rfl) (argsL := []) (rest := []) (lenOf pd6 rfl) rfl rfl (mroom rfl rfl) (D d16_1) (by decide) (by decide) fun T4 h4 vm4 v4 X4 C4 z4 q4 => ?_
  obtain ⟨rfl, K4⟩ := q4
  rw [K4] at X4 C4
  have A5 := X4.at
  refine Gets.via (fun _ k => (XS.astoreN A5 hx rfl (D d16_4) rfl rfl (l' := #[vR x, vR L]) rfl (XS.aloadN A5 hx rfl (D d16_5) rfl rfl k))) ?_
  refine X4.callF (W := 0) (w119 hw) (w120 hw) (w121 hw) rfl (w122 hw) (w123 hw) (w124 hw) (w125 hw) (w126 hw) (by decide) (X4.payM (sf := []) (rmLNs4 hcx L t kn [(.ref e0), (.ref e1), (.ref e2), (.ref e3)] h0 X4.old Pr3 Pr4) sf0 (w128 hw) (w127 hw) (by decide) (by decide)) Pr2 rfl (sz hml rfl) (argsL := []) (rest := []) (lenOf pd9 rfl) rfl rfl (mroom rfl rfl) (D d16_6) (by decide) (by decide) fun T6 h6 vm6 v6 X6 C6 z6 q6 => ?_
  obtain ⟨rfl, K6⟩ := q6
  rw [K6] at X6 C6
  show Gets p e below _ (T6.setTop (mkF m 11 #[vR x, vR L] [(.int (4 : Int32))]))
  have A7 := X6.at
  refine Gets.via (fun _ k => (XS.iconst A7 hx rfl (D d16_11) (XS.icmpYes A7 hx rfl (pc0 := 12) (pc' := 46) rfl (D d16_12) rfl (Jvm.Free.XT.ii_ne_t (by decide)) (by decide) (by decide) k))) ?_
  refine Gets.via (fun _ k => (XS.aconstNull A7 hx rfl (D d16_46) k)) ?_
  exact X6.retA hret rfl rfl rfl (D d16_47) (by decide) (by decide) (fun vmE CE => ⟨rfl, rfl⟩)
abbrev RrmLaw : Room := room_1
def QrmLaw (Z : State) (de : Addr) (el : Addr) (em : Addr) (p0 : Int32) (p1 : Int32) (p2 : Int32) (p3 : Int32) (p4 : Int32) (p5 : Int32) (h0 : Heap) (v : Option Value) (vm : Vm) (h : Heap) : Prop := v = some (.int (1 : Int32)) ∧ Keep h0 h []
theorem rmLaw (hcx : Cx Z a0 zc de kde em el ee kee mr fm) (p0 : Int32) (p1 : Int32) (p2 : Int32) (p3 : Int32) (p4 : Int32) (p5 : Int32) (h0 : Heap) (O0 : Old Z Z.heap.size h0)  : Met l Z consts_1 x code maxLocals ret tables_1 RrmLaw [] #[(.int p0), (.int p1), (.int p2), (.int p3), (.int p4), (.int p5)] h0 (QrmLaw Z de el em p0 p1 p2 p3 p4 p5 h0) := by
  have ⟨hw, hEL, O2, P5, OD, AD, XM, OM, OL, XL, FL, AE, MR, O4, P6⟩ := hcx
  refine Met.start (a0 := a0) (Ls := #[vI p0, vI p1, vI p2, vI p3, vI p4, vI p5, .unset, .unset, .unset, .unset, .unset, .unset, .unset, .unset, .unset, .unset]) pn47 hEL O0 (fun m => by first | (simp [entryFrame, mkF, argsToLocals, Value.category, maxLocals]; done) | rfl) ?_
  intro p e s m below meth cc T0 vm0 X0 sf0_ hby hml hret hnm
  have hx := X0.hx
  have D : ∀ {n r}, decode code n = r → decode cc.code n = r := fun d => hb hby d
  have zz := X0.ge
  have A0 := X0.at
  refine Gets.via (fun _ k => (XS.iloadN A0 hx rfl (D at_0) rfl (XS.bipush A0 hx rfl (D at_1) (XS.iand A0 hx rfl (D at_3) rfl (XS.iconst A0 hx rfl (D at_4) (iremV A0 hx rfl (D at_5) rfl (by decide) (XS.istore A0 hx rfl (D at_6) rfl (l' := #[vI p0, vI p1, vI p2, vI p3, vI p4, vI p5, vI ((p0 &&& (7 : Int32)) % (5 : Int32)), .unset, .unset, .unset, .unset, .unset, .unset, .unset, .unset, .unset]) rfl k))))))) ?_
  refine Gets.via (fun _ k => (XS.iloadN A0 hx rfl (D at_8) rfl (XS.iconst A0 hx rfl (D at_9) (XS.iand A0 hx rfl (D at_10) rfl (XS.istore A0 hx rfl (D at_11) rfl (l' := #[vI p0, vI p1, vI p2, vI p3, vI p4, vI p5, vI ((p0 &&& (7 : Int32)) % (5 : Int32)), vI (p1 &&& (3 : Int32)), .unset, .unset, .unset, .unset, .unset, .unset, .unset, .unset]) rfl (XS.iload A0 hx rfl (D at_13) rfl k)))))) ?_
  show Gets p e below _ (T0.setTop (mkF m 15 #[vI p0, vI p1, vI p2, vI p3, vI p4, vI p5, vI ((p0 &&& (7 : Int32)) % (5 : Int32)), vI (p1 &&& (3 : Int32)), .unset, .unset, .unset, .unset, .unset, .unset, .unset, .unset] [(.int (p1 &&& (3 : Int32)))]))
  have j95 : ∀ (T1 : State) (h1 : Heap) (vm1 : Vm) (fa : Addr) (fb : Addr) (fk : ClassId) (cs : List Int32) (X1 : Wk p l e RrmLaw s m #[(.int p0), (.int p1), (.int p2), (.int p3), (.int p4), (.int p5)] below meth cc x.cls Z a0 consts_1 h0 T1 h1 vm1 6 40) (K1 : Keep h0 h1 []) (j1_0 : Str Z h1 fa fb fk cs), Gets p e below (Jvm.Ow.Out s Z consts_1 RrmLaw (QrmLaw Z de el em p0 p1 p2 p3 p4 p5 h0)) (T1.setTop (mkF m 95 #[vI p0, vI p1, vI p2, vI p3, vI p4, vI p5, vI ((p0 &&& (7 : Int32)) % (5 : Int32)), vI (p1 &&& (3 : Int32)), vR fa, .unset, .unset, .unset, .unset, .unset, .unset, .unset] [])) := by
    intro T1 h1 vm1 fa fb fk cs X1 K1 j1_0
    have z1 := K1.1
    have l2 := ltA j1_0.lt
    have l3 := ltA j1_0.lb
    have A4 := X1.at
    refine Gets.via (fun _ k => (XS.iloadN A4 hx rfl (D at_95) rfl (XS.bipush A4 hx rfl (D at_96) (XS.iand A4 hx rfl (D at_98) rfl (XS.iconst A4 hx rfl (D at_99) (iremV A4 hx rfl (D at_100) rfl (by decide) (XS.iload A4 hx rfl (D at_101) rfl k))))))) ?_
    refine X1.callS (W := 0) (w0 hw) (w1 hw) (w2 hw) (w3 hw) (by decide) (X1.payM (sf := []) (rmDraw hcx ((p3 &&& (7 : Int32)) % (5 : Int32)) p4 h1 X1.old ) sf0 (w3 hw) (w2 hw) (by decide) (by decide)) rfl (sz hml rfl) (argsL := [(.int ((p3 &&& (7 : Int32)) % (5 : Int32))), (.int p4)]) (rest := []) (lenOf pd4 rfl) rfl rfl (mroom rfl rfl) (D at_103) (by decide) (by decide) fun T5 h5 vm5 v5 X5 C5 z5 q5 => ?_
    obtain ⟨a5, b5, kb5, cs5, rfl, K5, g5_0, g5_1⟩ := q5
    have l6 := ltA g5_0.lt
    have l7 := ltA g5_0.lb
    have A8 := X5.at
    refine Gets.via (fun _ k => (XS.astore A8 hx rfl (D at_106) rfl rfl (l' := #[vI p0, vI p1, vI p2, vI p3, vI p4, vI p5, vI ((p0 &&& (7 : Int32)) % (5 : Int32)), vI (p1 &&& (3 : Int32)), vR fa, vR a5, .unset, .unset, .unset, .unset, .unset, .unset]) rfl (XS.iloadN A8 hx rfl (D at_108) rfl (XS.iconst A8 hx rfl (D at_109) (XS.iushr A8 hx rfl (D at_110) rfl (XS.bipush A8 hx rfl (D at_111) (XS.iand A8 hx rfl (D at_113) rfl k))))))) ?_
    show Gets p e below _ (T5.setTop (mkF m 114 #[vI p0, vI p1, vI p2, vI p3, vI p4, vI p5, vI ((p0 &&& (7 : Int32)) % (5 : Int32)), vI (p1 &&& (3 : Int32)), vR fa, vR a5, .unset, .unset, .unset, .unset, .unset, .unset] [(.int ((Jvm.Free.XT.ushr p3 (3 : Int32)) &&& (7 : Int32)))]))
    refine Gets.via (fun _ k => (XS.iconst A8 hx rfl (D at_114) (iremV A8 hx rfl (D at_115) rfl (by decide) (XS.iload A8 hx rfl (D at_116) rfl k)))) ?_
    refine X5.callS (W := 0) (w0 hw) (w1 hw) (w2 hw) (w3 hw) (by decide) (X5.payM (sf := []) (rmDraw hcx (((Jvm.Free.XT.ushr p3 (3 : Int32)) &&& (7 : Int32)) % (5 : Int32)) p5 h5 X5.old ) sf0 (w3 hw) (w2 hw) (by decide) (by decide)) rfl (sz hml rfl) (argsL := [(.int (((Jvm.Free.XT.ushr p3 (3 : Int32)) &&& (7 : Int32)) % (5 : Int32))), (.int p5)]) (rest := []) (lenOf pd4 rfl) rfl rfl (mroom rfl rfl) (D at_118) (by decide) (by decide) fun T9 h9 vm9 v9 X9 C9 z9 q9 => ?_
    obtain ⟨a9, b9, kb9, cs9, rfl, K9, g9_0, g9_1⟩ := q9
    have l10 := ltA g9_0.lt
    have l11 := ltA g9_0.lb
    have A12 := X9.at
    refine Gets.via (fun _ k => (XS.astore A12 hx rfl (D at_121) rfl rfl (l' := #[vI p0, vI p1, vI p2, vI p3, vI p4, vI p5, vI ((p0 &&& (7 : Int32)) % (5 : Int32)), vI (p1 &&& (3 : Int32)), vR fa, vR a5, vR a9, .unset, .unset, .unset, .unset, .unset]) rfl (XS.iloadN A12 hx rfl (D at_123) rfl (XS.bipush A12 hx rfl (D at_124) (XS.iushr A12 hx rfl (D at_126) rfl (XS.bipush A12 hx rfl (D at_127) (XS.iand A12 hx rfl (D at_129) rfl k))))))) ?_
    show Gets p e below _ (T9.setTop (mkF m 130 #[vI p0, vI p1, vI p2, vI p3, vI p4, vI p5, vI ((p0 &&& (7 : Int32)) % (5 : Int32)), vI (p1 &&& (3 : Int32)), vR fa, vR a5, vR a9, .unset, .unset, .unset, .unset, .unset] [(.int ((Jvm.Free.XT.ushr p3 (6 : Int32)) &&& (7 : Int32)))]))
    refine Gets.via (fun _ k => (XS.iconst A12 hx rfl (D at_130) (iremV A12 hx rfl (D at_131) rfl (by decide) (XS.iload A12 hx rfl (D at_132) rfl (XS.bipush A12 hx rfl (D at_134) (XS.iushr A12 hx rfl (D at_136) rfl k)))))) ?_
    refine X9.callS (W := 0) (w0 hw) (w1 hw) (w2 hw) (w3 hw) (by decide) (X9.payM (sf := []) (rmDraw hcx (((Jvm.Free.XT.ushr p3 (6 : Int32)) &&& (7 : Int32)) % (5 : Int32)) (Jvm.Free.XT.ushr p5 (8 : Int32)) h9 X9.old ) sf0 (w3 hw) (w2 hw) (by decide) (by decide)) rfl (sz hml rfl) (argsL := [(.int (((Jvm.Free.XT.ushr p3 (6 : Int32)) &&& (7 : Int32)) % (5 : Int32))), (.int (Jvm.Free.XT.ushr p5 (8 : Int32)))]) (rest := []) (lenOf pd4 rfl) rfl rfl (mroom rfl rfl) (D at_137) (by decide) (by decide) fun T13 h13 vm13 v13 X13 C13 z13 q13 => ?_
    obtain ⟨a13, b13, kb13, cs13, rfl, K13, g13_0, g13_1⟩ := q13
    have l14 := ltA g13_0.lt
    have l15 := ltA g13_0.lb
    have A16 := X13.at
    refine Gets.via (fun _ k => (XS.astore A16 hx rfl (D at_140) rfl rfl (l' := #[vI p0, vI p1, vI p2, vI p3, vI p4, vI p5, vI ((p0 &&& (7 : Int32)) % (5 : Int32)), vI (p1 &&& (3 : Int32)), vR fa, vR a5, vR a9, vR a13, .unset, .unset, .unset, .unset]) rfl k)) ?_
    refine X13.new (w37 hw) (w38 hw) (w39 hw) rfl (D at_142) (by decide) (by decide) fun T17 h17 a17 X17 C17 E17 g17 Z17 S17 D17 => ?_
    have z17 := E17.1
    have l17 := ltA Z17.lt
    show Gets p e below _ (T17.setTop (mkF m 145 #[vI p0, vI p1, vI p2, vI p3, vI p4, vI p5, vI ((p0 &&& (7 : Int32)) % (5 : Int32)), vI (p1 &&& (3 : Int32)), vR fa, vR a5, vR a9, vR a13, .unset, .unset, .unset, .unset] [(.ref a17)]))
    have A18 := X17.at
    refine Gets.via (fun _ k => (XS.dup A18 hx rfl (D at_145) rfl rfl k)) ?_
    refine X17.callI (y := (⟨"java/util/ArrayList", "<init>", "()V"⟩ : MethodName)) (W := 1) rfl (w40 hw) (w41 hw) (w42 hw) (by decide) (X17.payM (sf := []) (rm7 hcx a17 h17 X17.old Z17 (D17 (Or.inl (w57 hw)) (ty := .int) (by decide) : Fld Z h17 a17 "java/util/AbstractList" "modCount" "I" (.int (0 : Int32))) (D17 (Or.inl (w99 hw)) (ty := .int) (by decide) : Fld Z h17 a17 "java/util/ArrayList" "size" "I" (.int (0 : Int32))) ((D17 (Or.inl (w60 hw)) (ty := (.array (.object "java/lang/Object"))) (by decide) : Fld Z h17 a17 "java/util/ArrayList" "elementData" "[Ljava/lang/Object;" .null)) (leA (by omega))) sf0 (w42 hw) (w39 hw) (by decide) (by decide)) rfl (sz hml rfl) (a := a17) (argsL := []) (rest := [(.ref a17)]) (lenOf pd2 rfl) rfl rfl (mroom rfl rfl) (D at_146) (by decide) (by decide) fun T19 h19 vm19 v19 X19 C19 z19 q19 => ?_
    obtain ⟨rfl, K19, g19_0, g19_1, g19_2, g19_3⟩ := q19
    have l20 := ltA g19_0.lt
    have A21 := X19.at
    refine Gets.via (fun _ k => (XS.astore A21 hx rfl (D at_149) rfl rfl (l' := #[vI p0, vI p1, vI p2, vI p3, vI p4, vI p5, vI ((p0 &&& (7 : Int32)) % (5 : Int32)), vI (p1 &&& (3 : Int32)), vR fa, vR a5, vR a9, vR a13, vR a17, .unset, .unset, .unset]) rfl k)) ?_
    rcases sz5 p0 with hs | hs | hs | hs | hs
    · refine Gets.via (fun _ k => (XS.iload A21 hx rfl (D at_151) rfl (XS.iconst A21 hx rfl (D at_153) (XS.icmpYes A21 hx rfl (pc0 := 154) (pc' := 165) rfl (D at_154) rfl (Jvm.Free.XT.ii_lt_t (by rw [hs]; decide)) (by decide) (by decide) k)))) ?_
      refine Gets.via (fun _ k => (XS.iload A21 hx rfl (D at_165) rfl (XS.iconst A21 hx rfl (D at_167) (XS.icmpYes A21 hx rfl (pc0 := 168) (pc' := 179) rfl (D at_168) rfl (Jvm.Free.XT.ii_lt_t (by rw [hs]; decide)) (by decide) (by decide) k)))) ?_
      refine Gets.via (fun _ k => (XS.iload A21 hx rfl (D at_179) rfl (XS.iconst A21 hx rfl (D at_181) (XS.icmpYes A21 hx rfl (pc0 := 182) (pc' := 193) rfl (D at_182) rfl (Jvm.Free.XT.ii_lt_t (by rw [hs]; decide)) (by decide) (by decide) k)))) ?_
      show Gets p e below _ (T19.setTop (mkF m 193 #[vI p0, vI p1, vI p2, vI p3, vI p4, vI p5, vI ((p0 &&& (7 : Int32)) % (5 : Int32)), vI (p1 &&& (3 : Int32)), vR fa, vR a5, vR a9, vR a13, vR a17, .unset, .unset, .unset] []))
      refine Gets.via (fun _ k => (XS.iload A21 hx rfl (D at_193) rfl (XS.iconst A21 hx rfl (D at_195) (XS.icmpYes A21 hx rfl (pc0 := 196) (pc' := 207) rfl (D at_196) rfl (Jvm.Free.XT.ii_lt_t (by rw [hs]; decide)) (by decide) (by decide) k)))) ?_
      refine X19.new (w61 hw) (w62 hw) (w63 hw) rfl (D at_207) (by decide) (by decide) fun T22 h22 a22 X22 C22 E22 g22 Z22 S22 D22 => ?_
      have z22 := E22.1
      have l22 := ltA Z22.lt
      have A23 := X22.at
      refine Gets.via (fun _ k => (XS.dup A23 hx rfl (D at_210) rfl rfl k)) ?_
      refine X22.ldcO (w64 hw) (wSt hw) rfl (D at_211) (n := 4) (by decide) (by decide) (by decide) (by decide) fun T24 h24 vm24 a24 X24 C24 E24 => ?_
      have z24 := E24.1
      have A25 := X24.at
      refine Gets.via (fun _ k => (XS.aload A25 hx rfl (D at_213) rfl rfl k)) ?_
      refine X24.ldcO (w65 hw) (wSt hw) rfl (D at_215) (n := 4) (by decide) (by decide) (by decide) (by decide) fun T26 h26 vm26 a26 X26 C26 E26 => ?_
      have z26 := E26.1
      show Gets p e below _ (T26.setTop (mkF m 217 #[vI p0, vI p1, vI p2, vI p3, vI p4, vI p5, vI ((p0 &&& (7 : Int32)) % (5 : Int32)), vI (p1 &&& (3 : Int32)), vR fa, vR a5, vR a9, vR a13, vR a17, .unset, .unset, .unset] [(.ref a26), (.ref a17), (.ref a24), (.ref a22), (.ref a22)]))
      have f27 := g19_2.ext E22
      have f28 := f27.ext E24
      have f29 := f28.ext E26
      have f30 := Z22.ext E24
      have f31 := f30.ext E26
      have f32 := (D22 (Or.inr (w105 hw)) (ty := (.object "java/lang/String")) (by decide) : Fld Z h22 a22 "com/example/packwright/packwright/model/Node" "subscriptLine" "Ljava/lang/String;" .null).ext E24
      have f33 := f32.ext E26
      have f34 := (D22 (Or.inr (w107 hw)) (ty := (.object "java/util/List")) (by decide) : Fld Z h22 a22 "com/example/packwright/packwright/model/Node" "subscripts" "Ljava/util/List;" .null).ext E24
      have f35 := f34.ext E26
      have f36 := (D22 (Or.inr (w109 hw)) (ty := (.object "java/lang/String")) (by decide) : Fld Z h22 a22 "com/example/packwright/packwright/model/Node" "value" "Ljava/lang/String;" .null).ext E24
      have f37 := f36.ext E26
      have f38 := g19_0.ext E22
      have f39 := f38.ext E24
      have f40 := f39.ext E26
      refine X26.callI (y := (⟨"com/example/packwright/packwright/model/Node", "<init>", "(Ljava/lang/String;Ljava/util/List;Ljava/lang/String;)V"⟩ : MethodName)) (W := 1) rfl (w66 hw) (w67 hw) (w68 hw) (by decide) (X26.payM (sf := []) (rmNode0 hcx a22 a24 a17 a26 h26 X26.old f31 f33 f35 f37 (leA (by omega)) f40 f29) sf0 (w68 hw) (w63 hw) (by decide) (by decide)) rfl (sz hml rfl) (a := a22) (argsL := [(.ref a24), (.ref a17), (.ref a26)]) (rest := [(.ref a22)]) (lenOf pd8 rfl) rfl rfl (mroom rfl rfl) (D at_217) (by decide) (by decide) fun T41 h41 vm41 v41 X41 C41 z41 q41 => ?_
      obtain ⟨rfl, K41, g41_0, g41_1⟩ := q41
      have l42 := ltA g41_0.lt
      have A43 := X41.at
      refine Gets.via (fun _ k => (XS.astore A43 hx rfl (D at_220) rfl rfl (l' := #[vI p0, vI p1, vI p2, vI p3, vI p4, vI p5, vI ((p0 &&& (7 : Int32)) % (5 : Int32)), vI (p1 &&& (3 : Int32)), vR fa, vR a5, vR a9, vR a13, vR a17, vR a22, .unset, .unset]) rfl (XS.aload A43 hx rfl (D at_222) rfl rfl k))) ?_
      refine X41.callS (W := 0) (w110 hw) (w111 hw) (w112 hw) (w113 hw) (by decide) (X41.payM (sf := []) (rmRoh0 hcx a22 h41 X41.old g41_0 g41_1) sf0 (w113 hw) (w112 hw) (by decide) (by decide)) rfl (sz hml rfl) (argsL := [(.ref a22)]) (rest := []) (lenOf pd10 rfl) rfl rfl (mroom rfl rfl) (D at_224) (by decide) (by decide) fun T44 h44 vm44 v44 X44 C44 z44 q44 => ?_
      obtain ⟨rfl, K44⟩ := q44
      rw [K44] at X44 C44
      have A45 := X44.at
      refine Gets.via (fun _ k => (XS.astore A45 hx rfl (D at_227) rfl rfl (l' := #[vI p0, vI p1, vI p2, vI p3, vI p4, vI p5, vI ((p0 &&& (7 : Int32)) % (5 : Int32)), vI (p1 &&& (3 : Int32)), vR fa, vR a5, vR a9, vR a13, vR a17, vR a22, .val .null, .unset]) rfl (XS.aload A45 hx rfl (D at_229) rfl rfl k))) ?_
      have f46 : Str Z h5 fa fb fk cs := j1_0.keep K5 nin0 nin0
      have f47 : Str Z h9 fa fb fk cs := f46.keep K9 nin0 nin0
      have f48 : Str Z h13 fa fb fk cs := f47.keep K13 nin0 nin0
      have f49 : Str Z h17 fa fb fk cs := f48.ext E17
      have l50 := neA (Exa.ne f49.1 Z17 (by decide))
      have f51 : Str Z h19 fa fb fk cs := f49.keep K19 (ninS (neA (by omega)) nin0) (ninS (neA (by omega)) nin0)
      have f52 : Str Z h22 fa fb fk cs := f51.ext E22
      have f53 : Str Z h24 fa fb fk cs := f52.ext E24
      have f54 : Str Z h26 fa fb fk cs := f53.ext E26
      have l55 := neA (Exa.ne f54.1 f31 (by decide))
      have f56 : Str Z h41 fa fb fk cs := f54.keep K41 (ninS (neA (by omega)) nin0) (ninS (neA (by omega)) nin0)
      refine X44.callV (W := 0) (w131 hw) (w132 hw) (w134 hw) (w133 hw) (nfs rfl (w134 hw)) (by decide) (payLen X44 hw (w5 hw) f56 O2 P5 (by decide) (by decide)) f56.1 rfl (sz hml rfl) (argsL := []) (rest := []) (lenOf pd9 rfl) rfl rfl (mroom rfl rfl) (D at_231) (by decide) (by decide) fun T57 h57 vm57 v57 X57 C57 z57 q57 => ?_
      obtain ⟨rfl, K57⟩ := q57
      rw [K57] at X57 C57
      show Gets p e below _ (T57.setTop (mkF m 234 #[vI p0, vI p1, vI p2, vI p3, vI p4, vI p5, vI ((p0 &&& (7 : Int32)) % (5 : Int32)), vI (p1 &&& (3 : Int32)), vR fa, vR a5, vR a9, vR a13, vR a17, vR a22, .val .null, .unset] [(.int (Int32.ofNat (cs).length))]))
      have A58 := X57.at
      refine Gets.via (fun _ k => (XS.iconst A58 hx rfl (D at_234) k)) ?_
      have j276 : ∀ (T59 : State) (vm59 : Vm) (X59 : Wk p l e RrmLaw s m #[(.int p0), (.int p1), (.int p2), (.int p3), (.int p4), (.int p5)] below meth cc x.cls Z a0 consts_1 h0 T59 h41 vm59 30 104) (ir : Int32) (hir : ir = 1 ∧ cs = [(82 : Int32), (84 : Int32), (78 : Int32)] ∨ ir = 0 ∧ ¬ cs = [(82 : Int32), (84 : Int32), (78 : Int32)]), Gets p e below (Jvm.Ow.Out s Z consts_1 RrmLaw (QrmLaw Z de el em p0 p1 p2 p3 p4 p5 h0)) (T59.setTop (mkF m 276 #[vI p0, vI p1, vI p2, vI p3, vI p4, vI p5, vI ((p0 &&& (7 : Int32)) % (5 : Int32)), vI (p1 &&& (3 : Int32)), vR fa, vR a5, vR a9, vR a13, vR a17, vR a22, .val .null, .unset] [(.int ir)])) := by
        intro T59 vm59 X59 ir hir
        have A60 := X59.at
        refine Gets.via (fun _ k => (XS.istore A60 hx rfl (D at_276) rfl (l' := #[vI p0, vI p1, vI p2, vI p3, vI p4, vI p5, vI ((p0 &&& (7 : Int32)) % (5 : Int32)), vI (p1 &&& (3 : Int32)), vR fa, vR a5, vR a9, vR a13, vR a17, vR a22, .val .null, vI ir]) rfl (XS.iload A60 hx rfl (D at_278) rfl (XS.iconst A60 hx rfl (D at_280) (XS.icmpYes A60 hx rfl (pc0 := 281) (pc' := 310) rfl (D at_281) rfl (Jvm.Free.XT.ii_ne_t (by rw [hs]; decide)) (by decide) (by decide) k))))) ?_
        refine Gets.via (fun _ k => (XS.aload A60 hx rfl (D at_310) rfl rfl (XS.ifnonnullNo A60 hx rfl (D at_312) rfl k))) ?_
        refine Gets.via (fun _ k => (XS.iconst A60 hx rfl (D at_315) (XS.goto A60 hx rfl (pc0 := 316) (pc' := 320) rfl (D at_316) (by decide) (by decide) k))) ?_
        exact X59.retI hret (by decide) (by simp) (D at_320) (by decide) (by decide) (fun vmE CE => ⟨rfl, (((((((((((Keep.refl h0 []).trans K1 all0).trans K5 all0).trans K9 all0).trans K13 all0).ext E17).trans K19 (allS (Or.inr (leA (by omega))) all0)).ext E22).ext E24).ext E26).trans K41 (allS (Or.inr (leA (by omega))) all0))⟩)
      by_cases b235 : (Int32.ofNat (cs).length) = (3 : Int32)
      · refine Gets.via (fun _ k => (XS.icmpNo A58 hx rfl (D at_235) rfl (Jvm.Free.XT.ii_ne_f b235) k)) ?_
        have hl3 : cs.length = 3 := ofNat_eq f56.2.2.2.2.2 b235
        refine Gets.via (fun _ k => (XS.aload A58 hx rfl (D at_238) rfl rfl (XS.iconst A58 hx rfl (D at_240) k))) ?_
        show Gets p e below _ (T57.setTop (mkF m 241 #[vI p0, vI p1, vI p2, vI p3, vI p4, vI p5, vI ((p0 &&& (7 : Int32)) % (5 : Int32)), vI (p1 &&& (3 : Int32)), vR fa, vR a5, vR a9, vR a13, vR a17, vR a22, .val .null, .unset] [(.int (0 : Int32)), (.ref fa)]))
        refine X57.callV (W := 0) (w232 hw) (w233 hw) (w235 hw) (w234 hw) (nfs rfl (w235 hw)) (by decide) (payCh X57 hw (w5 hw) f56 O2 P5 O4 P6 (0) (by omega) rfl (by decide) (by decide)) f56.1 rfl (sz hml rfl) (argsL := [(.int (0 : Int32))]) (rest := []) (lenOf pd11 rfl) rfl rfl (mroom rfl rfl) (D at_241) (by decide) (by decide) fun T61 h61 vm61 v61 X61 C61 z61 q61 => ?_
        obtain ⟨rfl, K61⟩ := q61
        rw [K61] at X61 C61
        have A62 := X61.at
        refine Gets.via (fun _ k => (XS.bipush A62 hx rfl (D at_244) k)) ?_
        by_cases b246 : (cs.getD (0) 0) = (82 : Int32)
        · refine Gets.via (fun _ k => (XS.icmpNo A62 hx rfl (D at_246) rfl (Jvm.Free.XT.ii_ne_f b246) k)) ?_
          refine Gets.via (fun _ k => (XS.aload A62 hx rfl (D at_249) rfl rfl (XS.iconst A62 hx rfl (D at_251) k))) ?_
          refine X61.callV (W := 0) (w232 hw) (w233 hw) (w235 hw) (w234 hw) (nfs rfl (w235 hw)) (by decide) (payCh X61 hw (w5 hw) f56 O2 P5 O4 P6 (1) (by omega) rfl (by decide) (by decide)) f56.1 rfl (sz hml rfl) (argsL := [(.int (1 : Int32))]) (rest := []) (lenOf pd11 rfl) rfl rfl (mroom rfl rfl) (D at_252) (by decide) (by decide) fun T63 h63 vm63 v63 X63 C63 z63 q63 => ?_
          obtain ⟨rfl, K63⟩ := q63
          rw [K63] at X63 C63
          have A64 := X63.at
          refine Gets.via (fun _ k => (XS.bipush A64 hx rfl (D at_255) k)) ?_
          by_cases b257 : (cs.getD (1) 0) = (84 : Int32)
          · refine Gets.via (fun _ k => (XS.icmpNo A64 hx rfl (D at_257) rfl (Jvm.Free.XT.ii_ne_f b257) k)) ?_
            show Gets p e below _ (T63.setTop (mkF m 260 #[vI p0, vI p1, vI p2, vI p3, vI p4, vI p5, vI ((p0 &&& (7 : Int32)) % (5 : Int32)), vI (p1 &&& (3 : Int32)), vR fa, vR a5, vR a9, vR a13, vR a17, vR a22, .val .null, .unset] []))
            refine Gets.via (fun _ k => (XS.aload A64 hx rfl (D at_260) rfl rfl (XS.iconst A64 hx rfl (D at_262) k))) ?_
            refine X63.callV (W := 0) (w232 hw) (w233 hw) (w235 hw) (w234 hw) (nfs rfl (w235 hw)) (by decide) (payCh X63 hw (w5 hw) f56 O2 P5 O4 P6 (2) (by omega) rfl (by decide) (by decide)) f56.1 rfl (sz hml rfl) (argsL := [(.int (2 : Int32))]) (rest := []) (lenOf pd11 rfl) rfl rfl (mroom rfl rfl) (D at_263) (by decide) (by decide) fun T65 h65 vm65 v65 X65 C65 z65 q65 => ?_
            obtain ⟨rfl, K65⟩ := q65
            rw [K65] at X65 C65
            have A66 := X65.at
            refine Gets.via (fun _ k => (XS.bipush A66 hx rfl (D at_266) k)) ?_
            by_cases b268 : (cs.getD (2) 0) = (78 : Int32)
            · refine Gets.via (fun _ k => (XS.icmpNo A66 hx rfl (D at_268) rfl (Jvm.Free.XT.ii_ne_f b268) k)) ?_
              refine Gets.via (fun _ k => (XS.iconst A66 hx rfl (D at_271) (XS.goto A66 hx rfl (pc0 := 272) (pc' := 276) rfl (D at_272) (by decide) (by decide) k))) ?_
              exact j276 T65 vm65 X65 (1 : Int32) (Or.inl ⟨rfl, rtn_of hl3 b246 b257 b268⟩)
            · refine Gets.via (fun _ k => (XS.icmpYes A66 hx rfl (pc0 := 268) (pc' := 275) rfl (D at_268) rfl (Jvm.Free.XT.ii_ne_t b268) (by decide) (by decide) k)) ?_
              refine Gets.via (fun _ k => (XS.iconst A66 hx rfl (D at_275) k)) ?_
              exact j276 T65 vm65 X65 (0 : Int32) (Or.inr ⟨rfl, fun q => b268 (by rw [q]; rfl)⟩)
          · refine Gets.via (fun _ k => (XS.icmpYes A64 hx rfl (pc0 := 257) (pc' := 275) rfl (D at_257) rfl (Jvm.Free.XT.ii_ne_t b257) (by decide) (by decide) k)) ?_
            show Gets p e below _ (T63.setTop (mkF m 275 #[vI p0, vI p1, vI p2, vI p3, vI p4, vI p5, vI ((p0 &&& (7 : Int32)) % (5 : Int32)), vI (p1 &&& (3 : Int32)), vR fa, vR a5, vR a9, vR a13, vR a17, vR a22, .val .null, .unset] []))
            refine Gets.via (fun _ k => (XS.iconst A64 hx rfl (D at_275) k)) ?_
            exact j276 T63 vm63 X63 (0 : Int32) (Or.inr ⟨rfl, fun q => b257 (by rw [q]; rfl)⟩)
        · refine Gets.via (fun _ k => (XS.icmpYes A62 hx rfl (pc0 := 246) (pc' := 275) rfl (D at_246) rfl (Jvm.Free.XT.ii_ne_t b246) (by decide) (by decide) k)) ?_
          refine Gets.via (fun _ k => (XS.iconst A62 hx rfl (D at_275) k)) ?_
          exact j276 T61 vm61 X61 (0 : Int32) (Or.inr ⟨rfl, fun q => b246 (by rw [q]; rfl)⟩)
      · refine Gets.via (fun _ k => (XS.icmpYes A58 hx rfl (pc0 := 235) (pc' := 275) rfl (D at_235) rfl (Jvm.Free.XT.ii_ne_t b235) (by decide) (by decide) k)) ?_
        refine Gets.via (fun _ k => (XS.iconst A58 hx rfl (D at_275) k)) ?_
        exact j276 T57 vm57 X57 (0 : Int32) (Or.inr ⟨rfl, fun q => b235 (by rw [q]; rfl)⟩)
    · refine Gets.via (fun _ k => (XS.iload A21 hx rfl (D at_151) rfl (XS.iconst A21 hx rfl (D at_153) (XS.icmpNo A21 hx rfl (D at_154) rfl (Jvm.Free.XT.ii_lt_f (by rw [hs]; decide)) k)))) ?_
      refine Gets.via (fun _ k => (XS.aload A21 hx rfl (D at_157) rfl rfl (XS.aload A21 hx rfl (D at_159) rfl rfl k))) ?_
      have f67 : Str Z h5 fa fb fk cs := j1_0.keep K5 nin0 nin0
      have f68 : Str Z h9 fa fb fk cs := f67.keep K9 nin0 nin0
      have f69 : Str Z h13 fa fb fk cs := f68.keep K13 nin0 nin0
      have f70 : Str Z h17 fa fb fk cs := f69.ext E17
      have l71 := neA (Exa.ne f70.1 Z17 (by decide))
      have f72 : Str Z h19 fa fb fk cs := f70.keep K19 (ninS (neA (by omega)) nin0) (ninS (neA (by omega)) nin0)
      refine X19.callV (W := 0) (w141 hw) (w142 hw) (w144 hw) (w143 hw) (nfs rfl (w144 hw)) (by decide) (X19.payM (sf := []) (rmAdd0 hcx a17 fa (0 : Int32) h19 X19.old g19_0 g19_1 g19_2 g19_3 (leA (by omega)) f72.1) sf0 (w145 hw) (w39 hw) (by decide) (by decide)) g19_0 rfl (sz hml rfl) (argsL := [(.ref fa)]) (rest := []) (lenOf pd16 rfl) rfl rfl (mroom rfl rfl) (D at_161) (by decide) (by decide) fun T73 h73 vm73 v73 X73 C73 z73 q73 => ?_
      obtain ⟨d73, kd73, rfl, K73, g73_0, g73_1, g73_2, g73_3, g73_4, g73_5, g73_6, g73_7, g73_8⟩ := q73
      have l74 := ltA g73_0.lt
      have l75 := ltA g73_4.lt
      show Gets p e below _ (T73.setTop (mkF m 164 #[vI p0, vI p1, vI p2, vI p3, vI p4, vI p5, vI ((p0 &&& (7 : Int32)) % (5 : Int32)), vI (p1 &&& (3 : Int32)), vR fa, vR a5, vR a9, vR a13, vR a17, .unset, .unset, .unset] [(.int (1 : Int32))]))
      have A76 := X73.at
      refine Gets.via (fun _ k => (XS.pop A76 hx rfl (D at_164) rfl rfl (XS.iload A76 hx rfl (D at_165) rfl (XS.iconst A76 hx rfl (D at_167) (XS.icmpYes A76 hx rfl (pc0 := 168) (pc' := 179) rfl (D at_168) rfl (Jvm.Free.XT.ii_lt_t (by rw [hs]; decide)) (by decide) (by decide) k))))) ?_
      refine Gets.via (fun _ k => (XS.iload A76 hx rfl (D at_179) rfl (XS.iconst A76 hx rfl (D at_181) (XS.icmpYes A76 hx rfl (pc0 := 182) (pc' := 193) rfl (D at_182) rfl (Jvm.Free.XT.ii_lt_t (by rw [hs]; decide)) (by decide) (by decide) k)))) ?_
      refine Gets.via (fun _ k => (XS.iload A76 hx rfl (D at_193) rfl (XS.iconst A76 hx rfl (D at_195) (XS.icmpYes A76 hx rfl (pc0 := 196) (pc' := 207) rfl (D at_196) rfl (Jvm.Free.XT.ii_lt_t (by rw [hs]; decide)) (by decide) (by decide) k)))) ?_
      refine X73.new (w61 hw) (w62 hw) (w63 hw) rfl (D at_207) (by decide) (by decide) fun T77 h77 a77 X77 C77 E77 g77 Z77 S77 D77 => ?_
      have z77 := E77.1
      have l77 := ltA Z77.lt
      show Gets p e below _ (T77.setTop (mkF m 210 #[vI p0, vI p1, vI p2, vI p3, vI p4, vI p5, vI ((p0 &&& (7 : Int32)) % (5 : Int32)), vI (p1 &&& (3 : Int32)), vR fa, vR a5, vR a9, vR a13, vR a17, .unset, .unset, .unset] [(.ref a77)]))
      have A78 := X77.at
      refine Gets.via (fun _ k => (XS.dup A78 hx rfl (D at_210) rfl rfl k)) ?_
      refine X77.ldcO (w64 hw) (wSt hw) rfl (D at_211) (n := 4) (by decide) (by decide) (by decide) (by decide) fun T79 h79 vm79 a79 X79 C79 E79 => ?_
      have z79 := E79.1
      have A80 := X79.at
      refine Gets.via (fun _ k => (XS.aload A80 hx rfl (D at_213) rfl rfl k)) ?_
      refine X79.ldcO (w65 hw) (wSt hw) rfl (D at_215) (n := 4) (by decide) (by decide) (by decide) (by decide) fun T81 h81 vm81 a81 X81 C81 E81 => ?_
      have z81 := E81.1
      have f82 := g73_2.ext E77
      have f83 := f82.ext E79
      have f84 := f83.ext E81
      have f85 := Z77.ext E79
      have f86 := f85.ext E81
      have f87 := (D77 (Or.inr (w105 hw)) (ty := (.object "java/lang/String")) (by decide) : Fld Z h77 a77 "com/example/packwright/packwright/model/Node" "subscriptLine" "Ljava/lang/String;" .null).ext E79
      have f88 := f87.ext E81
      have f89 := (D77 (Or.inr (w107 hw)) (ty := (.object "java/util/List")) (by decide) : Fld Z h77 a77 "com/example/packwright/packwright/model/Node" "subscripts" "Ljava/util/List;" .null).ext E79
      have f90 := f89.ext E81
      have f91 := (D77 (Or.inr (w109 hw)) (ty := (.object "java/lang/String")) (by decide) : Fld Z h77 a77 "com/example/packwright/packwright/model/Node" "value" "Ljava/lang/String;" .null).ext E79
      have f92 := f91.ext E81
      have f93 := g73_0.ext E77
      have f94 := f93.ext E79
      have f95 := f94.ext E81
      have f96 := g73_3.ext E77
      have f97 := f96.ext E79
      have f98 := f97.ext E81
      have f99 := g73_4.ext E77
      have f100 := f99.ext E79
      have f101 := f100.ext E81
      have f102 := g73_5.ext E77
      have f103 := f102.ext E79
      have f104 := f103.ext E81
      have f105 : Str Z h73 fa fb fk cs := f72.keep K73 (ninS (neA (by omega)) nin0) (ninS (neA (by omega)) nin0)
      have f106 : Str Z h77 fa fb fk cs := f105.ext E77
      have f107 : Str Z h79 fa fb fk cs := f106.ext E79
      have f108 : Str Z h81 fa fb fk cs := f107.ext E81
      refine X81.callI (y := (⟨"com/example/packwright/packwright/model/Node", "<init>", "(Ljava/lang/String;Ljava/util/List;Ljava/lang/String;)V"⟩ : MethodName)) (W := 1) rfl (w66 hw) (w67 hw) (w68 hw) (by decide) (X81.payM (sf := []) (rmNode1 hcx a77 a79 a17 a81 d73 kd73 fa h81 X81.old f86 f88 f90 f92 (leA (by omega)) f95 f84 f98 f101 f104 f108.1) sf0 (w68 hw) (w63 hw) (by decide) (by decide)) rfl (sz hml rfl) (a := a77) (argsL := [(.ref a79), (.ref a17), (.ref a81)]) (rest := [(.ref a77)]) (lenOf pd8 rfl) rfl rfl (mroom rfl rfl) (D at_217) (by decide) (by decide) fun T109 h109 vm109 v109 X109 C109 z109 q109 => ?_
      obtain ⟨L109, rfl, K109, g109_0, g109_1, g109_2, g109_3, g109_4⟩ := q109
      have l110 := ltA g109_0.lt
      have l111 := ltA g109_2.lt
      have A112 := X109.at
      refine Gets.via (fun _ k => (XS.astore A112 hx rfl (D at_220) rfl rfl (l' := #[vI p0, vI p1, vI p2, vI p3, vI p4, vI p5, vI ((p0 &&& (7 : Int32)) % (5 : Int32)), vI (p1 &&& (3 : Int32)), vR fa, vR a5, vR a9, vR a13, vR a17, vR a77, .unset, .unset]) rfl (XS.aload A112 hx rfl (D at_222) rfl rfl k))) ?_
      show Gets p e below _ (T109.setTop (mkF m 224 #[vI p0, vI p1, vI p2, vI p3, vI p4, vI p5, vI ((p0 &&& (7 : Int32)) % (5 : Int32)), vI (p1 &&& (3 : Int32)), vR fa, vR a5, vR a9, vR a13, vR a17, vR a77, .unset, .unset] [(.ref a77)]))
      refine X109.callS (W := 0) (w110 hw) (w111 hw) (w112 hw) (w113 hw) (by decide) (X109.payM (sf := []) (rmRoh1 hcx a77 L109 fa h109 X109.old g109_0 g109_1 g109_2 g109_3 g109_4) sf0 (w113 hw) (w112 hw) (by decide) (by decide)) rfl (sz hml rfl) (argsL := [(.ref a77)]) (rest := []) (lenOf pd10 rfl) rfl rfl (mroom rfl rfl) (D at_224) (by decide) (by decide) fun T113 h113 vm113 v113 X113 C113 z113 q113 => ?_
      obtain ⟨rfl, K113⟩ := q113
      rw [K113] at X113 C113
      have A114 := X113.at
      refine Gets.via (fun _ k => (XS.astore A114 hx rfl (D at_227) rfl rfl (l' := #[vI p0, vI p1, vI p2, vI p3, vI p4, vI p5, vI ((p0 &&& (7 : Int32)) % (5 : Int32)), vI (p1 &&& (3 : Int32)), vR fa, vR a5, vR a9, vR a13, vR a17, vR a77, .val .null, .unset]) rfl (XS.aload A114 hx rfl (D at_229) rfl rfl k))) ?_
      have l115 := neA (Exa.ne f108.1 f86 (by decide))
      have f116 : Str Z h109 fa fb fk cs := f108.keep K109 (ninS (neA (by omega)) nin0) (ninS (neA (by omega)) nin0)
      refine X113.callV (W := 0) (w131 hw) (w132 hw) (w134 hw) (w133 hw) (nfs rfl (w134 hw)) (by decide) (payLen X113 hw (w5 hw) f116 O2 P5 (by decide) (by decide)) f116.1 rfl (sz hml rfl) (argsL := []) (rest := []) (lenOf pd9 rfl) rfl rfl (mroom rfl rfl) (D at_231) (by decide) (by decide) fun T117 h117 vm117 v117 X117 C117 z117 q117 => ?_
      obtain ⟨rfl, K117⟩ := q117
      rw [K117] at X117 C117
      have A118 := X117.at
      refine Gets.via (fun _ k => (XS.iconst A118 hx rfl (D at_234) k)) ?_
      have j276 : ∀ (T119 : State) (vm119 : Vm) (X119 : Wk p l e RrmLaw s m #[(.int p0), (.int p1), (.int p2), (.int p3), (.int p4), (.int p5)] below meth cc x.cls Z a0 consts_1 h0 T119 h109 vm119 33 117) (ir : Int32) (hir : ir = 1 ∧ cs = [(82 : Int32), (84 : Int32), (78 : Int32)] ∨ ir = 0 ∧ ¬ cs = [(82 : Int32), (84 : Int32), (78 : Int32)]), Gets p e below (Jvm.Ow.Out s Z consts_1 RrmLaw (QrmLaw Z de el em p0 p1 p2 p3 p4 p5 h0)) (T119.setTop (mkF m 276 #[vI p0, vI p1, vI p2, vI p3, vI p4, vI p5, vI ((p0 &&& (7 : Int32)) % (5 : Int32)), vI (p1 &&& (3 : Int32)), vR fa, vR a5, vR a9, vR a13, vR a17, vR a77, .val .null, .unset] [(.int ir)])) := by
        intro T119 vm119 X119 ir hir
        have A120 := X119.at
        refine Gets.via (fun _ k => (XS.istore A120 hx rfl (D at_276) rfl (l' := #[vI p0, vI p1, vI p2, vI p3, vI p4, vI p5, vI ((p0 &&& (7 : Int32)) % (5 : Int32)), vI (p1 &&& (3 : Int32)), vR fa, vR a5, vR a9, vR a13, vR a17, vR a77, .val .null, vI ir]) rfl (XS.iload A120 hx rfl (D at_278) rfl (XS.iconst A120 hx rfl (D at_280) (XS.icmpYes A120 hx rfl (pc0 := 281) (pc' := 310) rfl (D at_281) rfl (Jvm.Free.XT.ii_ne_t (by rw [hs]; decide)) (by decide) (by decide) k))))) ?_
        show Gets p e below _ (T119.setTop (mkF m 310 #[vI p0, vI p1, vI p2, vI p3, vI p4, vI p5, vI ((p0 &&& (7 : Int32)) % (5 : Int32)), vI (p1 &&& (3 : Int32)), vR fa, vR a5, vR a9, vR a13, vR a17, vR a77, .val .null, vI ir] []))
        refine Gets.via (fun _ k => (XS.aload A120 hx rfl (D at_310) rfl rfl (XS.ifnonnullNo A120 hx rfl (D at_312) rfl k))) ?_
        refine Gets.via (fun _ k => (XS.iconst A120 hx rfl (D at_315) (XS.goto A120 hx rfl (pc0 := 316) (pc' := 320) rfl (D at_316) (by decide) (by decide) k))) ?_
        exact X119.retI hret (by decide) (by simp) (D at_320) (by decide) (by decide) (fun vmE CE => ⟨rfl, ((((((((((((Keep.refl h0 []).trans K1 all0).trans K5 all0).trans K9 all0).trans K13 all0).ext E17).trans K19 (allS (Or.inr (leA (by omega))) all0)).trans K73 (allS (Or.inr (leA (by omega))) all0)).ext E77).ext E79).ext E81).trans K109 (allS (Or.inr (leA (by omega))) all0))⟩)
      by_cases b235 : (Int32.ofNat (cs).length) = (3 : Int32)
      · refine Gets.via (fun _ k => (XS.icmpNo A118 hx rfl (D at_235) rfl (Jvm.Free.XT.ii_ne_f b235) k)) ?_
        have hl3 : cs.length = 3 := ofNat_eq f116.2.2.2.2.2 b235
        refine Gets.via (fun _ k => (XS.aload A118 hx rfl (D at_238) rfl rfl (XS.iconst A118 hx rfl (D at_240) k))) ?_
        refine X117.callV (W := 0) (w232 hw) (w233 hw) (w235 hw) (w234 hw) (nfs rfl (w235 hw)) (by decide) (payCh X117 hw (w5 hw) f116 O2 P5 O4 P6 (0) (by omega) rfl (by decide) (by decide)) f116.1 rfl (sz hml rfl) (argsL := [(.int (0 : Int32))]) (rest := []) (lenOf pd11 rfl) rfl rfl (mroom rfl rfl) (D at_241) (by decide) (by decide) fun T121 h121 vm121 v121 X121 C121 z121 q121 => ?_
        obtain ⟨rfl, K121⟩ := q121
        rw [K121] at X121 C121
        have A122 := X121.at
        refine Gets.via (fun _ k => (XS.bipush A122 hx rfl (D at_244) k)) ?_
        by_cases b246 : (cs.getD (0) 0) = (82 : Int32)
        · refine Gets.via (fun _ k => (XS.icmpNo A122 hx rfl (D at_246) rfl (Jvm.Free.XT.ii_ne_f b246) k)) ?_
          show Gets p e below _ (T121.setTop (mkF m 249 #[vI p0, vI p1, vI p2, vI p3, vI p4, vI p5, vI ((p0 &&& (7 : Int32)) % (5 : Int32)), vI (p1 &&& (3 : Int32)), vR fa, vR a5, vR a9, vR a13, vR a17, vR a77, .val .null, .unset] []))
          refine Gets.via (fun _ k => (XS.aload A122 hx rfl (D at_249) rfl rfl (XS.iconst A122 hx rfl (D at_251) k))) ?_
          refine X121.callV (W := 0) (w232 hw) (w233 hw) (w235 hw) (w234 hw) (nfs rfl (w235 hw)) (by decide) (payCh X121 hw (w5 hw) f116 O2 P5 O4 P6 (1) (by omega) rfl (by decide) (by decide)) f116.1 rfl (sz hml rfl) (argsL := [(.int (1 : Int32))]) (rest := []) (lenOf pd11 rfl) rfl rfl (mroom rfl rfl) (D at_252) (by decide) (by decide) fun T123 h123 vm123 v123 X123 C123 z123 q123 => ?_
          obtain ⟨rfl, K123⟩ := q123
          rw [K123] at X123 C123
          have A124 := X123.at
          refine Gets.via (fun _ k => (XS.bipush A124 hx rfl (D at_255) k)) ?_
          by_cases b257 : (cs.getD (1) 0) = (84 : Int32)
          · refine Gets.via (fun _ k => (XS.icmpNo A124 hx rfl (D at_257) rfl (Jvm.Free.XT.ii_ne_f b257) k)) ?_
            refine Gets.via (fun _ k => (XS.aload A124 hx rfl (D at_260) rfl rfl (XS.iconst A124 hx rfl (D at_262) k))) ?_
            refine X123.callV (W := 0) (w232 hw) (w233 hw) (w235 hw) (w234 hw) (nfs rfl (w235 hw)) (by decide) (payCh X123 hw (w5 hw) f116 O2 P5 O4 P6 (2) (by omega) rfl (by decide) (by decide)) f116.1 rfl (sz hml rfl) (argsL := [(.int (2 : Int32))]) (rest := []) (lenOf pd11 rfl) rfl rfl (mroom rfl rfl) (D at_263) (by decide) (by decide) fun T125 h125 vm125 v125 X125 C125 z125 q125 => ?_
            obtain ⟨rfl, K125⟩ := q125
            rw [K125] at X125 C125
            show Gets p e below _ (T125.setTop (mkF m 266 #[vI p0, vI p1, vI p2, vI p3, vI p4, vI p5, vI ((p0 &&& (7 : Int32)) % (5 : Int32)), vI (p1 &&& (3 : Int32)), vR fa, vR a5, vR a9, vR a13, vR a17, vR a77, .val .null, .unset] [(.int (cs.getD (2) 0))]))
            have A126 := X125.at
            refine Gets.via (fun _ k => (XS.bipush A126 hx rfl (D at_266) k)) ?_
            by_cases b268 : (cs.getD (2) 0) = (78 : Int32)
            · refine Gets.via (fun _ k => (XS.icmpNo A126 hx rfl (D at_268) rfl (Jvm.Free.XT.ii_ne_f b268) k)) ?_
              refine Gets.via (fun _ k => (XS.iconst A126 hx rfl (D at_271) (XS.goto A126 hx rfl (pc0 := 272) (pc' := 276) rfl (D at_272) (by decide) (by decide) k))) ?_
              exact j276 T125 vm125 X125 (1 : Int32) (Or.inl ⟨rfl, rtn_of hl3 b246 b257 b268⟩)
            · refine Gets.via (fun _ k => (XS.icmpYes A126 hx rfl (pc0 := 268) (pc' := 275) rfl (D at_268) rfl (Jvm.Free.XT.ii_ne_t b268) (by decide) (by decide) k)) ?_
              refine Gets.via (fun _ k => (XS.iconst A126 hx rfl (D at_275) k)) ?_
              exact j276 T125 vm125 X125 (0 : Int32) (Or.inr ⟨rfl, fun q => b268 (by rw [q]; rfl)⟩)
          · refine Gets.via (fun _ k => (XS.icmpYes A124 hx rfl (pc0 := 257) (pc' := 275) rfl (D at_257) rfl (Jvm.Free.XT.ii_ne_t b257) (by decide) (by decide) k)) ?_
            refine Gets.via (fun _ k => (XS.iconst A124 hx rfl (D at_275) k)) ?_
            exact j276 T123 vm123 X123 (0 : Int32) (Or.inr ⟨rfl, fun q => b257 (by rw [q]; rfl)⟩)
        · refine Gets.via (fun _ k => (XS.icmpYes A122 hx rfl (pc0 := 246) (pc' := 275) rfl (D at_246) rfl (Jvm.Free.XT.ii_ne_t b246) (by decide) (by decide) k)) ?_
          refine Gets.via (fun _ k => (XS.iconst A122 hx rfl (D at_275) k)) ?_
          exact j276 T121 vm121 X121 (0 : Int32) (Or.inr ⟨rfl, fun q => b246 (by rw [q]; rfl)⟩)
      · refine Gets.via (fun _ k => (XS.icmpYes A118 hx rfl (pc0 := 235) (pc' := 275) rfl (D at_235) rfl (Jvm.Free.XT.ii_ne_t b235) (by decide) (by decide) k)) ?_
        refine Gets.via (fun _ k => (XS.iconst A118 hx rfl (D at_275) k)) ?_
        show Gets p e below _ (T117.setTop (mkF m 276 #[vI p0, vI p1, vI p2, vI p3, vI p4, vI p5, vI ((p0 &&& (7 : Int32)) % (5 : Int32)), vI (p1 &&& (3 : Int32)), vR fa, vR a5, vR a9, vR a13, vR a17, vR a77, .val .null, .unset] [(.int (0 : Int32))]))
        exact j276 T117 vm117 X117 (0 : Int32) (Or.inr ⟨rfl, fun q => b235 (by rw [q]; rfl)⟩)
    · refine Gets.via (fun _ k => (XS.iload A21 hx rfl (D at_151) rfl (XS.iconst A21 hx rfl (D at_153) (XS.icmpNo A21 hx rfl (D at_154) rfl (Jvm.Free.XT.ii_lt_f (by rw [hs]; decide)) k)))) ?_
      refine Gets.via (fun _ k => (XS.aload A21 hx rfl (D at_157) rfl rfl (XS.aload A21 hx rfl (D at_159) rfl rfl k))) ?_
      have f127 : Str Z h5 fa fb fk cs := j1_0.keep K5 nin0 nin0
      have f128 : Str Z h9 fa fb fk cs := f127.keep K9 nin0 nin0
      have f129 : Str Z h13 fa fb fk cs := f128.keep K13 nin0 nin0
      have f130 : Str Z h17 fa fb fk cs := f129.ext E17
      have l131 := neA (Exa.ne f130.1 Z17 (by decide))
      have f132 : Str Z h19 fa fb fk cs := f130.keep K19 (ninS (neA (by omega)) nin0) (ninS (neA (by omega)) nin0)
      refine X19.callV (W := 0) (w141 hw) (w142 hw) (w144 hw) (w143 hw) (nfs rfl (w144 hw)) (by decide) (X19.payM (sf := []) (rmAdd0 hcx a17 fa (0 : Int32) h19 X19.old g19_0 g19_1 g19_2 g19_3 (leA (by omega)) f132.1) sf0 (w145 hw) (w39 hw) (by decide) (by decide)) g19_0 rfl (sz hml rfl) (argsL := [(.ref fa)]) (rest := []) (lenOf pd16 rfl) rfl rfl (mroom rfl rfl) (D at_161) (by decide) (by decide) fun T133 h133 vm133 v133 X133 C133 z133 q133 => ?_
      obtain ⟨d133, kd133, rfl, K133, g133_0, g133_1, g133_2, g133_3, g133_4, g133_5, g133_6, g133_7, g133_8⟩ := q133
      have l134 := ltA g133_0.lt
      have l135 := ltA g133_4.lt
      have A136 := X133.at
      refine Gets.via (fun _ k => (XS.pop A136 hx rfl (D at_164) rfl rfl (XS.iload A136 hx rfl (D at_165) rfl (XS.iconst A136 hx rfl (D at_167) (XS.icmpNo A136 hx rfl (D at_168) rfl (Jvm.Free.XT.ii_lt_f (by rw [hs]; decide)) k))))) ?_
      show Gets p e below _ (T133.setTop (mkF m 171 #[vI p0, vI p1, vI p2, vI p3, vI p4, vI p5, vI ((p0 &&& (7 : Int32)) % (5 : Int32)), vI (p1 &&& (3 : Int32)), vR fa, vR a5, vR a9, vR a13, vR a17, .unset, .unset, .unset] []))
      refine Gets.via (fun _ k => (XS.aload A136 hx rfl (D at_171) rfl rfl (XS.aload A136 hx rfl (D at_173) rfl rfl k))) ?_
      have f137 : Str Z h9 a5 b5 kb5 cs5 := g5_0.keep K9 nin0 nin0
      have f138 : Str Z h13 a5 b5 kb5 cs5 := f137.keep K13 nin0 nin0
      have f139 : Str Z h17 a5 b5 kb5 cs5 := f138.ext E17
      have l140 := neA (Exa.ne f139.1 Z17 (by decide))
      have f141 : Str Z h19 a5 b5 kb5 cs5 := f139.keep K19 (ninS (neA (by omega)) nin0) (ninS (neA (by omega)) nin0)
      have f142 : Str Z h133 a5 b5 kb5 cs5 := f141.keep K133 (ninS (neA (by omega)) nin0) (ninS (neA (by omega)) nin0)
      refine X133.callV (W := 0) (w141 hw) (w142 hw) (w144 hw) (w143 hw) (nfs rfl (w144 hw)) (by decide) (X133.payM (sf := []) (rmAdd1 hcx a17 a5 ((0 : Int32) + (1 : Int32)) d133 kd133 fa h133 X133.old g133_0 g133_1 g133_2 g133_3 g133_4 g133_5 g133_6 g133_7 (neA (by omega)) (leA (by omega)) f142.1) sf0 (w145 hw) (w39 hw) (by decide) (by decide)) g133_0 rfl (sz hml rfl) (argsL := [(.ref a5)]) (rest := []) (lenOf pd16 rfl) rfl rfl (mroom rfl rfl) (D at_175) (by decide) (by decide) fun T143 h143 vm143 v143 X143 C143 z143 q143 => ?_
      obtain ⟨rfl, K143, g143_0, g143_1, g143_2, g143_3, g143_4, g143_5⟩ := q143
      have l144 := ltA g143_0.lt
      have l145 := ltA g143_4.lt
      have A146 := X143.at
      refine Gets.via (fun _ k => (XS.pop A146 hx rfl (D at_178) rfl rfl (XS.iload A146 hx rfl (D at_179) rfl (XS.iconst A146 hx rfl (D at_181) (XS.icmpYes A146 hx rfl (pc0 := 182) (pc' := 193) rfl (D at_182) rfl (Jvm.Free.XT.ii_lt_t (by rw [hs]; decide)) (by decide) (by decide) k))))) ?_
      refine Gets.via (fun _ k => (XS.iload A146 hx rfl (D at_193) rfl (XS.iconst A146 hx rfl (D at_195) (XS.icmpYes A146 hx rfl (pc0 := 196) (pc' := 207) rfl (D at_196) rfl (Jvm.Free.XT.ii_lt_t (by rw [hs]; decide)) (by decide) (by decide) k)))) ?_
      show Gets p e below _ (T143.setTop (mkF m 207 #[vI p0, vI p1, vI p2, vI p3, vI p4, vI p5, vI ((p0 &&& (7 : Int32)) % (5 : Int32)), vI (p1 &&& (3 : Int32)), vR fa, vR a5, vR a9, vR a13, vR a17, .unset, .unset, .unset] []))
      refine X143.new (w61 hw) (w62 hw) (w63 hw) rfl (D at_207) (by decide) (by decide) fun T147 h147 a147 X147 C147 E147 g147 Z147 S147 D147 => ?_
      have z147 := E147.1
      have l147 := ltA Z147.lt
      have A148 := X147.at
      refine Gets.via (fun _ k => (XS.dup A148 hx rfl (D at_210) rfl rfl k)) ?_
      refine X147.ldcO (w64 hw) (wSt hw) rfl (D at_211) (n := 4) (by decide) (by decide) (by decide) (by decide) fun T149 h149 vm149 a149 X149 C149 E149 => ?_
      have z149 := E149.1
      have A150 := X149.at
      refine Gets.via (fun _ k => (XS.aload A150 hx rfl (D at_213) rfl rfl k)) ?_
      refine X149.ldcO (w65 hw) (wSt hw) rfl (D at_215) (n := 4) (by decide) (by decide) (by decide) (by decide) fun T151 h151 vm151 a151 X151 C151 E151 => ?_
      have z151 := E151.1
      have f152 := g143_2.ext E147
      have f153 := f152.ext E149
      have f154 := f153.ext E151
      have f155 := Z147.ext E149
      have f156 := f155.ext E151
      have f157 := (D147 (Or.inr (w105 hw)) (ty := (.object "java/lang/String")) (by decide) : Fld Z h147 a147 "com/example/packwright/packwright/model/Node" "subscriptLine" "Ljava/lang/String;" .null).ext E149
      have f158 := f157.ext E151
      have f159 := (D147 (Or.inr (w107 hw)) (ty := (.object "java/util/List")) (by decide) : Fld Z h147 a147 "com/example/packwright/packwright/model/Node" "subscripts" "Ljava/util/List;" .null).ext E149
      have f160 := f159.ext E151
      have f161 := (D147 (Or.inr (w109 hw)) (ty := (.object "java/lang/String")) (by decide) : Fld Z h147 a147 "com/example/packwright/packwright/model/Node" "value" "Ljava/lang/String;" .null).ext E149
      have f162 := f161.ext E151
      have f163 := g143_0.ext E147
      have f164 := f163.ext E149
      have f165 := f164.ext E151
      have f166 := g143_3.ext E147
      have f167 := f166.ext E149
      have f168 := f167.ext E151
      have f169 := g143_4.ext E147
      have f170 := f169.ext E149
      have f171 := f170.ext E151
      have f172 := g143_5.ext E147
      have f173 := f172.ext E149
      have f174 := f173.ext E151
      have f175 : Str Z h133 fa fb fk cs := f132.keep K133 (ninS (neA (by omega)) nin0) (ninS (neA (by omega)) nin0)
      have l176 := neA (Exa.ne f175.1 g133_5 (by decide))
      have l177 := neA (Arv.nty f175.2.2.2.1 g133_4 (by decide))
      have f178 : Str Z h143 fa fb fk cs := f175.keep K143 (ninS (neA (by omega)) (ninS (neA (by omega)) nin0)) (ninS (neA (by omega)) (ninS (neA (by omega)) nin0))
      have f179 : Str Z h147 fa fb fk cs := f178.ext E147
      have f180 : Str Z h149 fa fb fk cs := f179.ext E149
      have f181 : Str Z h151 fa fb fk cs := f180.ext E151
      have l182 := neA (Exa.ne f142.1 g133_5 (by decide))
      have l183 := neA (Arv.nty f142.2.2.2.1 g133_4 (by decide))
      have f184 : Str Z h143 a5 b5 kb5 cs5 := f142.keep K143 (ninS (neA (by omega)) (ninS (neA (by omega)) nin0)) (ninS (neA (by omega)) (ninS (neA (by omega)) nin0))
      have f185 : Str Z h147 a5 b5 kb5 cs5 := f184.ext E147
      have f186 : Str Z h149 a5 b5 kb5 cs5 := f185.ext E149
      have f187 : Str Z h151 a5 b5 kb5 cs5 := f186.ext E151
      refine X151.callI (y := (⟨"com/example/packwright/packwright/model/Node", "<init>", "(Ljava/lang/String;Ljava/util/List;Ljava/lang/String;)V"⟩ : MethodName)) (W := 1) rfl (w66 hw) (w67 hw) (w68 hw) (by decide) (X151.payM (sf := []) (rmNode2 hcx a147 a149 a17 a151 d133 kd133 fa a5 h151 X151.old f156 f158 f160 f162 (leA (by omega)) f165 f154 f168 f171 f174 f181.1 f187.1) sf0 (w68 hw) (w63 hw) (by decide) (by decide)) rfl (sz hml rfl) (a := a147) (argsL := [(.ref a149), (.ref a17), (.ref a151)]) (rest := [(.ref a147)]) (lenOf pd8 rfl) rfl rfl (mroom rfl rfl) (D at_217) (by decide) (by decide) fun T188 h188 vm188 v188 X188 C188 z188 q188 => ?_
      obtain ⟨L188, rfl, K188, g188_0, g188_1, g188_2, g188_3, g188_4⟩ := q188
      have l189 := ltA g188_0.lt
      have l190 := ltA g188_2.lt
      show Gets p e below _ (T188.setTop (mkF m 220 #[vI p0, vI p1, vI p2, vI p3, vI p4, vI p5, vI ((p0 &&& (7 : Int32)) % (5 : Int32)), vI (p1 &&& (3 : Int32)), vR fa, vR a5, vR a9, vR a13, vR a17, .unset, .unset, .unset] [(.ref a147)]))
      have A191 := X188.at
      refine Gets.via (fun _ k => (XS.astore A191 hx rfl (D at_220) rfl rfl (l' := #[vI p0, vI p1, vI p2, vI p3, vI p4, vI p5, vI ((p0 &&& (7 : Int32)) % (5 : Int32)), vI (p1 &&& (3 : Int32)), vR fa, vR a5, vR a9, vR a13, vR a17, vR a147, .unset, .unset]) rfl (XS.aload A191 hx rfl (D at_222) rfl rfl k))) ?_
      rcases Classical.em (cs = [(82 : Int32), (84 : Int32), (78 : Int32)]) with hc | hc
      · skip
        have l192 := neA (Exa.ne f181.1 f156 (by decide))
        have f193 : Str Z h188 fa fb fk cs := f181.keep K188 (ninS (neA (by omega)) nin0) (ninS (neA (by omega)) nin0)
        have l194 := neA (Exa.ne f187.1 f156 (by decide))
        have f195 : Str Z h188 a5 b5 kb5 cs5 := f187.keep K188 (ninS (neA (by omega)) nin0) (ninS (neA (by omega)) nin0)
        refine X188.callS (W := 0) (w110 hw) (w111 hw) (w112 hw) (w113 hw) (by decide) (X188.payM (sf := []) (rmRoh2t hcx a147 L188 fa a5 fb fk cs b5 kb5 cs5 h188 X188.old g188_0 g188_1 g188_2 g188_3 g188_4 f193 f195 hc) sf0 (w113 hw) (w112 hw) (by decide) (by decide)) rfl (sz hml rfl) (argsL := [(.ref a147)]) (rest := []) (lenOf pd10 rfl) rfl rfl (mroom rfl rfl) (D at_224) (by decide) (by decide) fun T196 h196 vm196 v196 X196 C196 z196 q196 => ?_
        obtain ⟨rfl, K196⟩ := q196
        have A197 := X196.at
        refine Gets.via (fun _ k => (XS.astore A197 hx rfl (D at_227) rfl rfl (l' := #[vI p0, vI p1, vI p2, vI p3, vI p4, vI p5, vI ((p0 &&& (7 : Int32)) % (5 : Int32)), vI (p1 &&& (3 : Int32)), vR fa, vR a5, vR a9, vR a13, vR a17, vR a147, vR a5, .unset]) rfl (XS.aload A197 hx rfl (D at_229) rfl rfl k))) ?_
        have f198 : Str Z h196 fa fb fk cs := f193.keep K196 nin0 nin0
        refine X196.callV (W := 0) (w131 hw) (w132 hw) (w134 hw) (w133 hw) (nfs rfl (w134 hw)) (by decide) (payLen X196 hw (w5 hw) f198 O2 P5 (by decide) (by decide)) f198.1 rfl (sz hml rfl) (argsL := []) (rest := []) (lenOf pd9 rfl) rfl rfl (mroom rfl rfl) (D at_231) (by decide) (by decide) fun T199 h199 vm199 v199 X199 C199 z199 q199 => ?_
        obtain ⟨rfl, K199⟩ := q199
        rw [K199] at X199 C199
        have A200 := X199.at
        refine Gets.via (fun _ k => (XS.iconst A200 hx rfl (D at_234) k)) ?_
        have j276 : ∀ (T201 : State) (vm201 : Vm) (X201 : Wk p l e RrmLaw s m #[(.int p0), (.int p1), (.int p2), (.int p3), (.int p4), (.int p5)] below meth cc x.cls Z a0 consts_1 h0 T201 h196 vm201 35 134) (ir : Int32) (hir : ir = 1 ∧ cs = [(82 : Int32), (84 : Int32), (78 : Int32)] ∨ ir = 0 ∧ ¬ cs = [(82 : Int32), (84 : Int32), (78 : Int32)]), Gets p e below (Jvm.Ow.Out s Z consts_1 RrmLaw (QrmLaw Z de el em p0 p1 p2 p3 p4 p5 h0)) (T201.setTop (mkF m 276 #[vI p0, vI p1, vI p2, vI p3, vI p4, vI p5, vI ((p0 &&& (7 : Int32)) % (5 : Int32)), vI (p1 &&& (3 : Int32)), vR fa, vR a5, vR a9, vR a13, vR a17, vR a147, vR a5, .unset] [(.int ir)])) := by
          intro T201 vm201 X201 ir hir
          have A202 := X201.at
          refine Gets.via (fun _ k => (XS.istore A202 hx rfl (D at_276) rfl (l' := #[vI p0, vI p1, vI p2, vI p3, vI p4, vI p5, vI ((p0 &&& (7 : Int32)) % (5 : Int32)), vI (p1 &&& (3 : Int32)), vR fa, vR a5, vR a9, vR a13, vR a17, vR a147, vR a5, vI ir]) rfl (XS.iload A202 hx rfl (D at_278) rfl (XS.iconst A202 hx rfl (D at_280) (XS.icmpNo A202 hx rfl (D at_281) rfl (Jvm.Free.XT.ii_ne_f (by rw [hs]; decide)) k))))) ?_
          show Gets p e below _ (T201.setTop (mkF m 284 #[vI p0, vI p1, vI p2, vI p3, vI p4, vI p5, vI ((p0 &&& (7 : Int32)) % (5 : Int32)), vI (p1 &&& (3 : Int32)), vR fa, vR a5, vR a9, vR a13, vR a17, vR a147, vR a5, vI ir] []))
          have hi0 : ¬ (ir = (0 : Int32)) := hir.elim (fun q => by rw [q.1]; decide) (fun q => (q.2 hc).elim)
          refine Gets.via (fun _ k => (XS.iload A202 hx rfl (D at_284) rfl (XS.ifNo A202 hx rfl (D at_286) rfl (Jvm.Free.XT.i0_eq_f hi0) k))) ?_
          refine Gets.via (fun _ k => (XS.aload A202 hx rfl (D at_289) rfl rfl (XS.ifnullNo A202 hx rfl (D at_291) rfl k))) ?_
          refine Gets.via (fun _ k => (XS.aload A202 hx rfl (D at_294) rfl rfl (XS.aload A202 hx rfl (D at_296) rfl rfl k))) ?_
          have f203 : Str Z h196 a5 b5 kb5 cs5 := f195.keep K196 nin0 nin0
          refine X201.callV (W := 0) (w297 hw) (w288 hw) (w290 hw) (w289 hw) (nfs rfl (w290 hw)) (by decide) (payEq X201 hw (w5 hw) f203 f203 O2 P5 (by decide) (by decide)) f203.1 rfl (sz hml rfl) (argsL := [(.ref a5)]) (rest := []) (lenOf pd16 rfl) rfl rfl (mroom rfl rfl) (D at_298) (by decide) (by decide) fun T204 h204 vm204 v204 X204 C204 z204 q204 => ?_
          obtain ⟨rfl, K204⟩ := q204
          rw [K204] at X204 C204
          have A205 := X204.at
          refine Gets.via (fun _ k => (XS.ifNo A205 hx rfl (D at_301) rfl (Jvm.Free.XT.i0_eq_f (by rw [if_pos rfl]; decide)) k)) ?_
          refine Gets.via (fun _ k => (XS.iconst A205 hx rfl (D at_304) (XS.goto A205 hx rfl (pc0 := 305) (pc' := 309) rfl (D at_305) (by decide) (by decide) k))) ?_
          show Gets p e below _ (T204.setTop (mkF m 309 #[vI p0, vI p1, vI p2, vI p3, vI p4, vI p5, vI ((p0 &&& (7 : Int32)) % (5 : Int32)), vI (p1 &&& (3 : Int32)), vR fa, vR a5, vR a9, vR a13, vR a17, vR a147, vR a5, vI ir] [(.int (1 : Int32))]))
          exact X204.retI hret (by decide) (by simp) (D at_309) (by decide) (by decide) (fun vmE CE => ⟨rfl, ((((((((((((((Keep.refl h0 []).trans K1 all0).trans K5 all0).trans K9 all0).trans K13 all0).ext E17).trans K19 (allS (Or.inr (leA (by omega))) all0)).trans K133 (allS (Or.inr (leA (by omega))) all0)).trans K143 (allS (Or.inr (leA (by omega))) (allS (Or.inr (leA (by omega))) all0))).ext E147).ext E149).ext E151).trans K188 (allS (Or.inr (leA (by omega))) all0)).trans K196 all0)⟩)
        by_cases b235 : (Int32.ofNat (cs).length) = (3 : Int32)
        · refine Gets.via (fun _ k => (XS.icmpNo A200 hx rfl (D at_235) rfl (Jvm.Free.XT.ii_ne_f b235) k)) ?_
          have hl3 : cs.length = 3 := ofNat_eq f198.2.2.2.2.2 b235
          refine Gets.via (fun _ k => (XS.aload A200 hx rfl (D at_238) rfl rfl (XS.iconst A200 hx rfl (D at_240) k))) ?_
          refine X199.callV (W := 0) (w232 hw) (w233 hw) (w235 hw) (w234 hw) (nfs rfl (w235 hw)) (by decide) (payCh X199 hw (w5 hw) f198 O2 P5 O4 P6 (0) (by omega) rfl (by decide) (by decide)) f198.1 rfl (sz hml rfl) (argsL := [(.int (0 : Int32))]) (rest := []) (lenOf pd11 rfl) rfl rfl (mroom rfl rfl) (D at_241) (by decide) (by decide) fun T206 h206 vm206 v206 X206 C206 z206 q206 => ?_
          obtain ⟨rfl, K206⟩ := q206
          rw [K206] at X206 C206
          have A207 := X206.at
          refine Gets.via (fun _ k => (XS.bipush A207 hx rfl (D at_244) k)) ?_
          by_cases b246 : (cs.getD (0) 0) = (82 : Int32)
          · refine Gets.via (fun _ k => (XS.icmpNo A207 hx rfl (D at_246) rfl (Jvm.Free.XT.ii_ne_f b246) k)) ?_
            refine Gets.via (fun _ k => (XS.aload A207 hx rfl (D at_249) rfl rfl (XS.iconst A207 hx rfl (D at_251) k))) ?_
            refine X206.callV (W := 0) (w232 hw) (w233 hw) (w235 hw) (w234 hw) (nfs rfl (w235 hw)) (by decide) (payCh X206 hw (w5 hw) f198 O2 P5 O4 P6 (1) (by omega) rfl (by decide) (by decide)) f198.1 rfl (sz hml rfl) (argsL := [(.int (1 : Int32))]) (rest := []) (lenOf pd11 rfl) rfl rfl (mroom rfl rfl) (D at_252) (by decide) (by decide) fun T208 h208 vm208 v208 X208 C208 z208 q208 => ?_
            obtain ⟨rfl, K208⟩ := q208
            rw [K208] at X208 C208
            show Gets p e below _ (T208.setTop (mkF m 255 #[vI p0, vI p1, vI p2, vI p3, vI p4, vI p5, vI ((p0 &&& (7 : Int32)) % (5 : Int32)), vI (p1 &&& (3 : Int32)), vR fa, vR a5, vR a9, vR a13, vR a17, vR a147, vR a5, .unset] [(.int (cs.getD (1) 0))]))
            have A209 := X208.at
            refine Gets.via (fun _ k => (XS.bipush A209 hx rfl (D at_255) k)) ?_
            by_cases b257 : (cs.getD (1) 0) = (84 : Int32)
            · refine Gets.via (fun _ k => (XS.icmpNo A209 hx rfl (D at_257) rfl (Jvm.Free.XT.ii_ne_f b257) k)) ?_
              refine Gets.via (fun _ k => (XS.aload A209 hx rfl (D at_260) rfl rfl (XS.iconst A209 hx rfl (D at_262) k))) ?_
              refine X208.callV (W := 0) (w232 hw) (w233 hw) (w235 hw) (w234 hw) (nfs rfl (w235 hw)) (by decide) (payCh X208 hw (w5 hw) f198 O2 P5 O4 P6 (2) (by omega) rfl (by decide) (by decide)) f198.1 rfl (sz hml rfl) (argsL := [(.int (2 : Int32))]) (rest := []) (lenOf pd11 rfl) rfl rfl (mroom rfl rfl) (D at_263) (by decide) (by decide) fun T210 h210 vm210 v210 X210 C210 z210 q210 => ?_
              obtain ⟨rfl, K210⟩ := q210
              rw [K210] at X210 C210
              have A211 := X210.at
              refine Gets.via (fun _ k => (XS.bipush A211 hx rfl (D at_266) k)) ?_
              by_cases b268 : (cs.getD (2) 0) = (78 : Int32)
              · refine Gets.via (fun _ k => (XS.icmpNo A211 hx rfl (D at_268) rfl (Jvm.Free.XT.ii_ne_f b268) k)) ?_
                refine Gets.via (fun _ k => (XS.iconst A211 hx rfl (D at_271) (XS.goto A211 hx rfl (pc0 := 272) (pc' := 276) rfl (D at_272) (by decide) (by decide) k))) ?_
                exact j276 T210 vm210 X210 (1 : Int32) (Or.inl ⟨rfl, rtn_of hl3 b246 b257 b268⟩)
              · refine Gets.via (fun _ k => (XS.icmpYes A211 hx rfl (pc0 := 268) (pc' := 275) rfl (D at_268) rfl (Jvm.Free.XT.ii_ne_t b268) (by decide) (by decide) k)) ?_
                show Gets p e below _ (T210.setTop (mkF m 275 #[vI p0, vI p1, vI p2, vI p3, vI p4, vI p5, vI ((p0 &&& (7 : Int32)) % (5 : Int32)), vI (p1 &&& (3 : Int32)), vR fa, vR a5, vR a9, vR a13, vR a17, vR a147, vR a5, .unset] []))
                refine Gets.via (fun _ k => (XS.iconst A211 hx rfl (D at_275) k)) ?_
                exact j276 T210 vm210 X210 (0 : Int32) (Or.inr ⟨rfl, fun q => b268 (by rw [q]; rfl)⟩)
            · refine Gets.via (fun _ k => (XS.icmpYes A209 hx rfl (pc0 := 257) (pc' := 275) rfl (D at_257) rfl (Jvm.Free.XT.ii_ne_t b257) (by decide) (by decide) k)) ?_
              refine Gets.via (fun _ k => (XS.iconst A209 hx rfl (D at_275) k)) ?_
              exact j276 T208 vm208 X208 (0 : Int32) (Or.inr ⟨rfl, fun q => b257 (by rw [q]; rfl)⟩)
          · refine Gets.via (fun _ k => (XS.icmpYes A207 hx rfl (pc0 := 246) (pc' := 275) rfl (D at_246) rfl (Jvm.Free.XT.ii_ne_t b246) (by decide) (by decide) k)) ?_
            refine Gets.via (fun _ k => (XS.iconst A207 hx rfl (D at_275) k)) ?_
            exact j276 T206 vm206 X206 (0 : Int32) (Or.inr ⟨rfl, fun q => b246 (by rw [q]; rfl)⟩)
        · refine Gets.via (fun _ k => (XS.icmpYes A200 hx rfl (pc0 := 235) (pc' := 275) rfl (D at_235) rfl (Jvm.Free.XT.ii_ne_t b235) (by decide) (by decide) k)) ?_
          refine Gets.via (fun _ k => (XS.iconst A200 hx rfl (D at_275) k)) ?_
          exact j276 T199 vm199 X199 (0 : Int32) (Or.inr ⟨rfl, fun q => b235 (by rw [q]; rfl)⟩)
      · skip
        have l212 := neA (Exa.ne f181.1 f156 (by decide))
        have f213 : Str Z h188 fa fb fk cs := f181.keep K188 (ninS (neA (by omega)) nin0) (ninS (neA (by omega)) nin0)
        have l214 := neA (Exa.ne f187.1 f156 (by decide))
        have f215 : Str Z h188 a5 b5 kb5 cs5 := f187.keep K188 (ninS (neA (by omega)) nin0) (ninS (neA (by omega)) nin0)
        refine X188.callS (W := 0) (w110 hw) (w111 hw) (w112 hw) (w113 hw) (by decide) (X188.payM (sf := []) (rmRoh2f hcx a147 L188 fa a5 fb fk cs b5 kb5 cs5 h188 X188.old g188_0 g188_1 g188_2 g188_3 g188_4 f213 f215 hc) sf0 (w113 hw) (w112 hw) (by decide) (by decide)) rfl (sz hml rfl) (argsL := [(.ref a147)]) (rest := []) (lenOf pd10 rfl) rfl rfl (mroom rfl rfl) (D at_224) (by decide) (by decide) fun T216 h216 vm216 v216 X216 C216 z216 q216 => ?_
        obtain ⟨rfl, K216⟩ := q216
        have A217 := X216.at
        refine Gets.via (fun _ k => (XS.astore A217 hx rfl (D at_227) rfl rfl (l' := #[vI p0, vI p1, vI p2, vI p3, vI p4, vI p5, vI ((p0 &&& (7 : Int32)) % (5 : Int32)), vI (p1 &&& (3 : Int32)), vR fa, vR a5, vR a9, vR a13, vR a17, vR a147, .val .null, .unset]) rfl (XS.aload A217 hx rfl (D at_229) rfl rfl k))) ?_
        show Gets p e below _ (T216.setTop (mkF m 231 #[vI p0, vI p1, vI p2, vI p3, vI p4, vI p5, vI ((p0 &&& (7 : Int32)) % (5 : Int32)), vI (p1 &&& (3 : Int32)), vR fa, vR a5, vR a9, vR a13, vR a17, vR a147, .val .null, .unset] [(.ref fa)]))
        have f218 : Str Z h216 fa fb fk cs := f213.keep K216 nin0 nin0
        refine X216.callV (W := 0) (w131 hw) (w132 hw) (w134 hw) (w133 hw) (nfs rfl (w134 hw)) (by decide) (payLen X216 hw (w5 hw) f218 O2 P5 (by decide) (by decide)) f218.1 rfl (sz hml rfl) (argsL := []) (rest := []) (lenOf pd9 rfl) rfl rfl (mroom rfl rfl) (D at_231) (by decide) (by decide) fun T219 h219 vm219 v219 X219 C219 z219 q219 => ?_
        obtain ⟨rfl, K219⟩ := q219
        rw [K219] at X219 C219
        have A220 := X219.at
        refine Gets.via (fun _ k => (XS.iconst A220 hx rfl (D at_234) k)) ?_
        have j276 : ∀ (T221 : State) (vm221 : Vm) (X221 : Wk p l e RrmLaw s m #[(.int p0), (.int p1), (.int p2), (.int p3), (.int p4), (.int p5)] below meth cc x.cls Z a0 consts_1 h0 T221 h216 vm221 35 134) (ir : Int32) (hir : ir = 1 ∧ cs = [(82 : Int32), (84 : Int32), (78 : Int32)] ∨ ir = 0 ∧ ¬ cs = [(82 : Int32), (84 : Int32), (78 : Int32)]), Gets p e below (Jvm.Ow.Out s Z consts_1 RrmLaw (QrmLaw Z de el em p0 p1 p2 p3 p4 p5 h0)) (T221.setTop (mkF m 276 #[vI p0, vI p1, vI p2, vI p3, vI p4, vI p5, vI ((p0 &&& (7 : Int32)) % (5 : Int32)), vI (p1 &&& (3 : Int32)), vR fa, vR a5, vR a9, vR a13, vR a17, vR a147, .val .null, .unset] [(.int ir)])) := by
          intro T221 vm221 X221 ir hir
          have A222 := X221.at
          refine Gets.via (fun _ k => (XS.istore A222 hx rfl (D at_276) rfl (l' := #[vI p0, vI p1, vI p2, vI p3, vI p4, vI p5, vI ((p0 &&& (7 : Int32)) % (5 : Int32)), vI (p1 &&& (3 : Int32)), vR fa, vR a5, vR a9, vR a13, vR a17, vR a147, .val .null, vI ir]) rfl (XS.iload A222 hx rfl (D at_278) rfl (XS.iconst A222 hx rfl (D at_280) (XS.icmpNo A222 hx rfl (D at_281) rfl (Jvm.Free.XT.ii_ne_f (by rw [hs]; decide)) k))))) ?_
          have hi0 : ir = (0 : Int32) := hir.elim (fun q => (hc q.2).elim) (fun q => q.1)
          refine Gets.via (fun _ k => (XS.iload A222 hx rfl (D at_284) rfl (XS.ifYes A222 hx rfl (pc0 := 286) (pc' := 310) rfl (D at_286) rfl (Jvm.Free.XT.i0_eq_t hi0) (by decide) (by decide) k))) ?_
          refine Gets.via (fun _ k => (XS.aload A222 hx rfl (D at_310) rfl rfl (XS.ifnonnullNo A222 hx rfl (D at_312) rfl k))) ?_
          show Gets p e below _ (T221.setTop (mkF m 315 #[vI p0, vI p1, vI p2, vI p3, vI p4, vI p5, vI ((p0 &&& (7 : Int32)) % (5 : Int32)), vI (p1 &&& (3 : Int32)), vR fa, vR a5, vR a9, vR a13, vR a17, vR a147, .val .null, vI ir] []))
          refine Gets.via (fun _ k => (XS.iconst A222 hx rfl (D at_315) (XS.goto A222 hx rfl (pc0 := 316) (pc' := 320) rfl (D at_316) (by decide) (by decide) k))) ?_
          exact X221.retI hret (by decide) (by simp) (D at_320) (by decide) (by decide) (fun vmE CE => ⟨rfl, ((((((((((((((Keep.refl h0 []).trans K1 all0).trans K5 all0).trans K9 all0).trans K13 all0).ext E17).trans K19 (allS (Or.inr (leA (by omega))) all0)).trans K133 (allS (Or.inr (leA (by omega))) all0)).trans K143 (allS (Or.inr (leA (by omega))) (allS (Or.inr (leA (by omega))) all0))).ext E147).ext E149).ext E151).trans K188 (allS (Or.inr (leA (by omega))) all0)).trans K216 all0)⟩)
        by_cases b235 : (Int32.ofNat (cs).length) = (3 : Int32)
        · refine Gets.via (fun _ k => (XS.icmpNo A220 hx rfl (D at_235) rfl (Jvm.Free.XT.ii_ne_f b235) k)) ?_
          have hl3 : cs.length = 3 := ofNat_eq f218.2.2.2.2.2 b235
          refine Gets.via (fun _ k => (XS.aload A220 hx rfl (D at_238) rfl rfl (XS.iconst A220 hx rfl (D at_240) k))) ?_
          refine X219.callV (W := 0) (w232 hw) (w233 hw) (w235 hw) (w234 hw) (nfs rfl (w235 hw)) (by decide) (payCh X219 hw (w5 hw) f218 O2 P5 O4 P6 (0) (by omega) rfl (by decide) (by decide)) f218.1 rfl (sz hml rfl) (argsL := [(.int (0 : Int32))]) (rest := []) (lenOf pd11 rfl) rfl rfl (mroom rfl rfl) (D at_241) (by decide) (by decide) fun T223 h223 vm223 v223 X223 C223 z223 q223 => ?_
          obtain ⟨rfl, K223⟩ := q223
          rw [K223] at X223 C223
          have A224 := X223.at
          refine Gets.via (fun _ k => (XS.bipush A224 hx rfl (D at_244) k)) ?_
          by_cases b246 : (cs.getD (0) 0) = (82 : Int32)
          · refine Gets.via (fun _ k => (XS.icmpNo A224 hx rfl (D at_246) rfl (Jvm.Free.XT.ii_ne_f b246) k)) ?_
            refine Gets.via (fun _ k => (XS.aload A224 hx rfl (D at_249) rfl rfl (XS.iconst A224 hx rfl (D at_251) k))) ?_
            show Gets p e below _ (T223.setTop (mkF m 252 #[vI p0, vI p1, vI p2, vI p3, vI p4, vI p5, vI ((p0 &&& (7 : Int32)) % (5 : Int32)), vI (p1 &&& (3 : Int32)), vR fa, vR a5, vR a9, vR a13, vR a17, vR a147, .val .null, .unset] [(.int (1 : Int32)), (.ref fa)]))
            refine X223.callV (W := 0) (w232 hw) (w233 hw) (w235 hw) (w234 hw) (nfs rfl (w235 hw)) (by decide) (payCh X223 hw (w5 hw) f218 O2 P5 O4 P6 (1) (by omega) rfl (by decide) (by decide)) f218.1 rfl (sz hml rfl) (argsL := [(.int (1 : Int32))]) (rest := []) (lenOf pd11 rfl) rfl rfl (mroom rfl rfl) (D at_252) (by decide) (by decide) fun T225 h225 vm225 v225 X225 C225 z225 q225 => ?_
            obtain ⟨rfl, K225⟩ := q225
            rw [K225] at X225 C225
            have A226 := X225.at
            refine Gets.via (fun _ k => (XS.bipush A226 hx rfl (D at_255) k)) ?_
            by_cases b257 : (cs.getD (1) 0) = (84 : Int32)
            · refine Gets.via (fun _ k => (XS.icmpNo A226 hx rfl (D at_257) rfl (Jvm.Free.XT.ii_ne_f b257) k)) ?_
              refine Gets.via (fun _ k => (XS.aload A226 hx rfl (D at_260) rfl rfl (XS.iconst A226 hx rfl (D at_262) k))) ?_
              refine X225.callV (W := 0) (w232 hw) (w233 hw) (w235 hw) (w234 hw) (nfs rfl (w235 hw)) (by decide) (payCh X225 hw (w5 hw) f218 O2 P5 O4 P6 (2) (by omega) rfl (by decide) (by decide)) f218.1 rfl (sz hml rfl) (argsL := [(.int (2 : Int32))]) (rest := []) (lenOf pd11 rfl) rfl rfl (mroom rfl rfl) (D at_263) (by decide) (by decide) fun T227 h227 vm227 v227 X227 C227 z227 q227 => ?_
              obtain ⟨rfl, K227⟩ := q227
              rw [K227] at X227 C227
              have A228 := X227.at
              refine Gets.via (fun _ k => (XS.bipush A228 hx rfl (D at_266) k)) ?_
              by_cases b268 : (cs.getD (2) 0) = (78 : Int32)
              · refine Gets.via (fun _ k => (XS.icmpNo A228 hx rfl (D at_268) rfl (Jvm.Free.XT.ii_ne_f b268) k)) ?_
                show Gets p e below _ (T227.setTop (mkF m 271 #[vI p0, vI p1, vI p2, vI p3, vI p4, vI p5, vI ((p0 &&& (7 : Int32)) % (5 : Int32)), vI (p1 &&& (3 : Int32)), vR fa, vR a5, vR a9, vR a13, vR a17, vR a147, .val .null, .unset] []))
                refine Gets.via (fun _ k => (XS.iconst A228 hx rfl (D at_271) (XS.goto A228 hx rfl (pc0 := 272) (pc' := 276) rfl (D at_272) (by decide) (by decide) k))) ?_
                exact j276 T227 vm227 X227 (1 : Int32) (Or.inl ⟨rfl, rtn_of hl3 b246 b257 b268⟩)
              · refine Gets.via (fun _ k => (XS.icmpYes A228 hx rfl (pc0 := 268) (pc' := 275) rfl (D at_268) rfl (Jvm.Free.XT.ii_ne_t b268) (by decide) (by decide) k)) ?_
                refine Gets.via (fun _ k => (XS.iconst A228 hx rfl (D at_275) k)) ?_
                exact j276 T227 vm227 X227 (0 : Int32) (Or.inr ⟨rfl, fun q => b268 (by rw [q]; rfl)⟩)
            · refine Gets.via (fun _ k => (XS.icmpYes A226 hx rfl (pc0 := 257) (pc' := 275) rfl (D at_257) rfl (Jvm.Free.XT.ii_ne_t b257) (by decide) (by decide) k)) ?_
              refine Gets.via (fun _ k => (XS.iconst A226 hx rfl (D at_275) k)) ?_
              exact j276 T225 vm225 X225 (0 : Int32) (Or.inr ⟨rfl, fun q => b257 (by rw [q]; rfl)⟩)
          · refine Gets.via (fun _ k => (XS.icmpYes A224 hx rfl (pc0 := 246) (pc' := 275) rfl (D at_246) rfl (Jvm.Free.XT.ii_ne_t b246) (by decide) (by decide) k)) ?_
            refine Gets.via (fun _ k => (XS.iconst A224 hx rfl (D at_275) k)) ?_
            exact j276 T223 vm223 X223 (0 : Int32) (Or.inr ⟨rfl, fun q => b246 (by rw [q]; rfl)⟩)
        · refine Gets.via (fun _ k => (XS.icmpYes A220 hx rfl (pc0 := 235) (pc' := 275) rfl (D at_235) rfl (Jvm.Free.XT.ii_ne_t b235) (by decide) (by decide) k)) ?_
          refine Gets.via (fun _ k => (XS.iconst A220 hx rfl (D at_275) k)) ?_
          exact j276 T219 vm219 X219 (0 : Int32) (Or.inr ⟨rfl, fun q => b235 (by rw [q]; rfl)⟩)
    · refine Gets.via (fun _ k => (XS.iload A21 hx rfl (D at_151) rfl (XS.iconst A21 hx rfl (D at_153) (XS.icmpNo A21 hx rfl (D at_154) rfl (Jvm.Free.XT.ii_lt_f (by rw [hs]; decide)) k)))) ?_
      show Gets p e below _ (T19.setTop (mkF m 157 #[vI p0, vI p1, vI p2, vI p3, vI p4, vI p5, vI ((p0 &&& (7 : Int32)) % (5 : Int32)), vI (p1 &&& (3 : Int32)), vR fa, vR a5, vR a9, vR a13, vR a17, .unset, .unset, .unset] []))
      refine Gets.via (fun _ k => (XS.aload A21 hx rfl (D at_157) rfl rfl (XS.aload A21 hx rfl (D at_159) rfl rfl k))) ?_
      have f229 : Str Z h5 fa fb fk cs := j1_0.keep K5 nin0 nin0
      have f230 : Str Z h9 fa fb fk cs := f229.keep K9 nin0 nin0
      have f231 : Str Z h13 fa fb fk cs := f230.keep K13 nin0 nin0
      have f232 : Str Z h17 fa fb fk cs := f231.ext E17
      have l233 := neA (Exa.ne f232.1 Z17 (by decide))
      have f234 : Str Z h19 fa fb fk cs := f232.keep K19 (ninS (neA (by omega)) nin0) (ninS (neA (by omega)) nin0)
      refine X19.callV (W := 0) (w141 hw) (w142 hw) (w144 hw) (w143 hw) (nfs rfl (w144 hw)) (by decide) (X19.payM (sf := []) (rmAdd0 hcx a17 fa (0 : Int32) h19 X19.old g19_0 g19_1 g19_2 g19_3 (leA (by omega)) f234.1) sf0 (w145 hw) (w39 hw) (by decide) (by decide)) g19_0 rfl (sz hml rfl) (argsL := [(.ref fa)]) (rest := []) (lenOf pd16 rfl) rfl rfl (mroom rfl rfl) (D at_161) (by decide) (by decide) fun T235 h235 vm235 v235 X235 C235 z235 q235 => ?_
      obtain ⟨d235, kd235, rfl, K235, g235_0, g235_1, g235_2, g235_3, g235_4, g235_5, g235_6, g235_7, g235_8⟩ := q235
      have l236 := ltA g235_0.lt
      have l237 := ltA g235_4.lt
      have A238 := X235.at
      refine Gets.via (fun _ k => (XS.pop A238 hx rfl (D at_164) rfl rfl (XS.iload A238 hx rfl (D at_165) rfl (XS.iconst A238 hx rfl (D at_167) (XS.icmpNo A238 hx rfl (D at_168) rfl (Jvm.Free.XT.ii_lt_f (by rw [hs]; decide)) k))))) ?_
      refine Gets.via (fun _ k => (XS.aload A238 hx rfl (D at_171) rfl rfl (XS.aload A238 hx rfl (D at_173) rfl rfl k))) ?_
      have f239 : Str Z h9 a5 b5 kb5 cs5 := g5_0.keep K9 nin0 nin0
      have f240 : Str Z h13 a5 b5 kb5 cs5 := f239.keep K13 nin0 nin0
      have f241 : Str Z h17 a5 b5 kb5 cs5 := f240.ext E17
      have l242 := neA (Exa.ne f241.1 Z17 (by decide))
      have f243 : Str Z h19 a5 b5 kb5 cs5 := f241.keep K19 (ninS (neA (by omega)) nin0) (ninS (neA (by omega)) nin0)
      have f244 : Str Z h235 a5 b5 kb5 cs5 := f243.keep K235 (ninS (neA (by omega)) nin0) (ninS (neA (by omega)) nin0)
      refine X235.callV (W := 0) (w141 hw) (w142 hw) (w144 hw) (w143 hw) (nfs rfl (w144 hw)) (by decide) (X235.payM (sf := []) (rmAdd1 hcx a17 a5 ((0 : Int32) + (1 : Int32)) d235 kd235 fa h235 X235.old g235_0 g235_1 g235_2 g235_3 g235_4 g235_5 g235_6 g235_7 (neA (by omega)) (leA (by omega)) f244.1) sf0 (w145 hw) (w39 hw) (by decide) (by decide)) g235_0 rfl (sz hml rfl) (argsL := [(.ref a5)]) (rest := []) (lenOf pd16 rfl) rfl rfl (mroom rfl rfl) (D at_175) (by decide) (by decide) fun T245 h245 vm245 v245 X245 C245 z245 q245 => ?_
      obtain ⟨rfl, K245, g245_0, g245_1, g245_2, g245_3, g245_4, g245_5⟩ := q245
      have l246 := ltA g245_0.lt
      have l247 := ltA g245_4.lt
      show Gets p e below _ (T245.setTop (mkF m 178 #[vI p0, vI p1, vI p2, vI p3, vI p4, vI p5, vI ((p0 &&& (7 : Int32)) % (5 : Int32)), vI (p1 &&& (3 : Int32)), vR fa, vR a5, vR a9, vR a13, vR a17, .unset, .unset, .unset] [(.int (1 : Int32))]))
      have A248 := X245.at
      refine Gets.via (fun _ k => (XS.pop A248 hx rfl (D at_178) rfl rfl (XS.iload A248 hx rfl (D at_179) rfl (XS.iconst A248 hx rfl (D at_181) (XS.icmpNo A248 hx rfl (D at_182) rfl (Jvm.Free.XT.ii_lt_f (by rw [hs]; decide)) k))))) ?_
      refine Gets.via (fun _ k => (XS.aload A248 hx rfl (D at_185) rfl rfl (XS.aload A248 hx rfl (D at_187) rfl rfl k))) ?_
      have f249 : Str Z h13 a9 b9 kb9 cs9 := g9_0.keep K13 nin0 nin0
      have f250 : Str Z h17 a9 b9 kb9 cs9 := f249.ext E17
      have l251 := neA (Exa.ne f250.1 Z17 (by decide))
      have f252 : Str Z h19 a9 b9 kb9 cs9 := f250.keep K19 (ninS (neA (by omega)) nin0) (ninS (neA (by omega)) nin0)
      have f253 : Str Z h235 a9 b9 kb9 cs9 := f252.keep K235 (ninS (neA (by omega)) nin0) (ninS (neA (by omega)) nin0)
      have l254 := neA (Exa.ne f253.1 g235_5 (by decide))
      have l255 := neA (Arv.nty f253.2.2.2.1 g235_4 (by decide))
      have f256 : Str Z h245 a9 b9 kb9 cs9 := f253.keep K245 (ninS (neA (by omega)) (ninS (neA (by omega)) nin0)) (ninS (neA (by omega)) (ninS (neA (by omega)) nin0))
      refine X245.callV (W := 0) (w141 hw) (w142 hw) (w144 hw) (w143 hw) (nfs rfl (w144 hw)) (by decide) (X245.payM (sf := []) (rmAdd2 hcx a17 a9 (((0 : Int32) + (1 : Int32)) + (1 : Int32)) d235 kd235 fa a5 h245 X245.old g245_0 g245_1 g245_2 g245_3 g245_4 g245_5 g235_6 g235_7 (neA (by omega)) (leA (by omega)) f256.1) sf0 (w145 hw) (w39 hw) (by decide) (by decide)) g245_0 rfl (sz hml rfl) (argsL := [(.ref a9)]) (rest := []) (lenOf pd16 rfl) rfl rfl (mroom rfl rfl) (D at_189) (by decide) (by decide) fun T257 h257 vm257 v257 X257 C257 z257 q257 => ?_
      obtain ⟨rfl, K257, g257_0, g257_1, g257_2, g257_3, g257_4, g257_5⟩ := q257
      have l258 := ltA g257_0.lt
      have l259 := ltA g257_4.lt
      have A260 := X257.at
      refine Gets.via (fun _ k => (XS.pop A260 hx rfl (D at_192) rfl rfl (XS.iload A260 hx rfl (D at_193) rfl (XS.iconst A260 hx rfl (D at_195) (XS.icmpYes A260 hx rfl (pc0 := 196) (pc' := 207) rfl (D at_196) rfl (Jvm.Free.XT.ii_lt_t (by rw [hs]; decide)) (by decide) (by decide) k))))) ?_
      show Gets p e below _ (T257.setTop (mkF m 207 #[vI p0, vI p1, vI p2, vI p3, vI p4, vI p5, vI ((p0 &&& (7 : Int32)) % (5 : Int32)), vI (p1 &&& (3 : Int32)), vR fa, vR a5, vR a9, vR a13, vR a17, .unset, .unset, .unset] []))
      refine X257.new (w61 hw) (w62 hw) (w63 hw) rfl (D at_207) (by decide) (by decide) fun T261 h261 a261 X261 C261 E261 g261 Z261 S261 D261 => ?_
      have z261 := E261.1
      have l261 := ltA Z261.lt
      have A262 := X261.at
      refine Gets.via (fun _ k => (XS.dup A262 hx rfl (D at_210) rfl rfl k)) ?_
      refine X261.ldcO (w64 hw) (wSt hw) rfl (D at_211) (n := 4) (by decide) (by decide) (by decide) (by decide) fun T263 h263 vm263 a263 X263 C263 E263 => ?_
      have z263 := E263.1
      have A264 := X263.at
      refine Gets.via (fun _ k => (XS.aload A264 hx rfl (D at_213) rfl rfl k)) ?_
      refine X263.ldcO (w65 hw) (wSt hw) rfl (D at_215) (n := 4) (by decide) (by decide) (by decide) (by decide) fun T265 h265 vm265 a265 X265 C265 E265 => ?_
      have z265 := E265.1
      have f266 := g257_2.ext E261
      have f267 := f266.ext E263
      have f268 := f267.ext E265
      have f269 := Z261.ext E263
      have f270 := f269.ext E265
      have f271 := (D261 (Or.inr (w105 hw)) (ty := (.object "java/lang/String")) (by decide) : Fld Z h261 a261 "com/example/packwright/packwright/model/Node" "subscriptLine" "Ljava/lang/String;" .null).ext E263
      have f272 := f271.ext E265
      have f273 := (D261 (Or.inr (w107 hw)) (ty := (.object "java/util/List")) (by decide) : Fld Z h261 a261 "com/example/packwright/packwright/model/Node" "subscripts" "Ljava/util/List;" .null).ext E263
      have f274 := f273.ext E265
      have f275 := (D261 (Or.inr (w109 hw)) (ty := (.object "java/lang/String")) (by decide) : Fld Z h261 a261 "com/example/packwright/packwright/model/Node" "value" "Ljava/lang/String;" .null).ext E263
      have f276 := f275.ext E265
      have f277 := g257_0.ext E261
      have f278 := f277.ext E263
      have f279 := f278.ext E265
      have f280 := g257_3.ext E261
      have f281 := f280.ext E263
      have f282 := f281.ext E265
      have f283 := g257_4.ext E261
      have f284 := f283.ext E263
      have f285 := f284.ext E265
      have f286 := g257_5.ext E261
      have f287 := f286.ext E263
      have f288 := f287.ext E265
      have f289 : Str Z h235 fa fb fk cs := f234.keep K235 (ninS (neA (by omega)) nin0) (ninS (neA (by omega)) nin0)
      have l290 := neA (Exa.ne f289.1 g235_5 (by decide))
      have l291 := neA (Arv.nty f289.2.2.2.1 g235_4 (by decide))
      have f292 : Str Z h245 fa fb fk cs := f289.keep K245 (ninS (neA (by omega)) (ninS (neA (by omega)) nin0)) (ninS (neA (by omega)) (ninS (neA (by omega)) nin0))
      have f293 : Str Z h257 fa fb fk cs := f292.keep K257 (ninS (neA (by omega)) (ninS (neA (by omega)) nin0)) (ninS (neA (by omega)) (ninS (neA (by omega)) nin0))
      have f294 : Str Z h261 fa fb fk cs := f293.ext E261
      have f295 : Str Z h263 fa fb fk cs := f294.ext E263
      have f296 : Str Z h265 fa fb fk cs := f295.ext E265
      have l297 := neA (Exa.ne f244.1 g235_5 (by decide))
      have l298 := neA (Arv.nty f244.2.2.2.1 g235_4 (by decide))
      have f299 : Str Z h245 a5 b5 kb5 cs5 := f244.keep K245 (ninS (neA (by omega)) (ninS (neA (by omega)) nin0)) (ninS (neA (by omega)) (ninS (neA (by omega)) nin0))
      have f300 : Str Z h257 a5 b5 kb5 cs5 := f299.keep K257 (ninS (neA (by omega)) (ninS (neA (by omega)) nin0)) (ninS (neA (by omega)) (ninS (neA (by omega)) nin0))
      have f301 : Str Z h261 a5 b5 kb5 cs5 := f300.ext E261
      have f302 : Str Z h263 a5 b5 kb5 cs5 := f301.ext E263
      have f303 : Str Z h265 a5 b5 kb5 cs5 := f302.ext E265
      have f304 : Str Z h257 a9 b9 kb9 cs9 := f256.keep K257 (ninS (neA (by omega)) (ninS (neA (by omega)) nin0)) (ninS (neA (by omega)) (ninS (neA (by omega)) nin0))
      have f305 : Str Z h261 a9 b9 kb9 cs9 := f304.ext E261
      have f306 : Str Z h263 a9 b9 kb9 cs9 := f305.ext E263
      have f307 : Str Z h265 a9 b9 kb9 cs9 := f306.ext E265
      refine X265.callI (y := (⟨"com/example/packwright/packwright/model/Node", "<init>", "(Ljava/lang/String;Ljava/util/List;Ljava/lang/String;)V"⟩ : MethodName)) (W := 1) rfl (w66 hw) (w67 hw) (w68 hw) (by decide) (X265.payM (sf := []) (rmNode3 hcx a261 a263 a17 a265 d235 kd235 fa a5 a9 h265 X265.old f270 f272 f274 f276 (leA (by omega)) f279 f268 f282 f285 f288 f296.1 f303.1 f307.1) sf0 (w68 hw) (w63 hw) (by decide) (by decide)) rfl (sz hml rfl) (a := a261) (argsL := [(.ref a263), (.ref a17), (.ref a265)]) (rest := [(.ref a261)]) (lenOf pd8 rfl) rfl rfl (mroom rfl rfl) (D at_217) (by decide) (by decide) fun T308 h308 vm308 v308 X308 C308 z308 q308 => ?_
      obtain ⟨L308, t308, kn308, rfl, K308, g308_0, g308_1, g308_2, g308_3, g308_4⟩ := q308
      have l309 := ltA g308_0.lt
      have l310 := ltA g308_2.lt
      have l311 := ltA g308_4.lt
      show Gets p e below _ (T308.setTop (mkF m 220 #[vI p0, vI p1, vI p2, vI p3, vI p4, vI p5, vI ((p0 &&& (7 : Int32)) % (5 : Int32)), vI (p1 &&& (3 : Int32)), vR fa, vR a5, vR a9, vR a13, vR a17, .unset, .unset, .unset] [(.ref a261)]))
      have A312 := X308.at
      refine Gets.via (fun _ k => (XS.astore A312 hx rfl (D at_220) rfl rfl (l' := #[vI p0, vI p1, vI p2, vI p3, vI p4, vI p5, vI ((p0 &&& (7 : Int32)) % (5 : Int32)), vI (p1 &&& (3 : Int32)), vR fa, vR a5, vR a9, vR a13, vR a17, vR a261, .unset, .unset]) rfl (XS.aload A312 hx rfl (D at_222) rfl rfl k))) ?_
      refine X308.callS (W := 0) (w110 hw) (w111 hw) (w112 hw) (w113 hw) (by decide) (X308.payM (sf := []) (rmRoh3 hcx a261 L308 fa a5 a9 t308 kn308 h308 X308.old g308_0 g308_1 g308_2 g308_3 g308_4) sf0 (w113 hw) (w112 hw) (by decide) (by decide)) rfl (sz hml rfl) (argsL := [(.ref a261)]) (rest := []) (lenOf pd10 rfl) rfl rfl (mroom rfl rfl) (D at_224) (by decide) (by decide) fun T313 h313 vm313 v313 X313 C313 z313 q313 => ?_
      obtain ⟨rfl, K313⟩ := q313
      rw [K313] at X313 C313
      have A314 := X313.at
      refine Gets.via (fun _ k => (XS.astore A314 hx rfl (D at_227) rfl rfl (l' := #[vI p0, vI p1, vI p2, vI p3, vI p4, vI p5, vI ((p0 &&& (7 : Int32)) % (5 : Int32)), vI (p1 &&& (3 : Int32)), vR fa, vR a5, vR a9, vR a13, vR a17, vR a261, .val .null, .unset]) rfl (XS.aload A314 hx rfl (D at_229) rfl rfl k))) ?_
      have l315 := neA (Exa.ne f296.1 f270 (by decide))
      have f316 : Str Z h308 fa fb fk cs := f296.keep K308 (ninS (neA (by omega)) nin0) (ninS (neA (by omega)) nin0)
      refine X313.callV (W := 0) (w131 hw) (w132 hw) (w134 hw) (w133 hw) (nfs rfl (w134 hw)) (by decide) (payLen X313 hw (w5 hw) f316 O2 P5 (by decide) (by decide)) f316.1 rfl (sz hml rfl) (argsL := []) (rest := []) (lenOf pd9 rfl) rfl rfl (mroom rfl rfl) (D at_231) (by decide) (by decide) fun T317 h317 vm317 v317 X317 C317 z317 q317 => ?_
      obtain ⟨rfl, K317⟩ := q317
      rw [K317] at X317 C317
      have A318 := X317.at
      refine Gets.via (fun _ k => (XS.iconst A318 hx rfl (D at_234) k)) ?_
      have j276 : ∀ (T319 : State) (vm319 : Vm) (X319 : Wk p l e RrmLaw s m #[(.int p0), (.int p1), (.int p2), (.int p3), (.int p4), (.int p5)] below meth cc x.cls Z a0 consts_1 h0 T319 h308 vm319 34 122) (ir : Int32) (hir : ir = 1 ∧ cs = [(82 : Int32), (84 : Int32), (78 : Int32)] ∨ ir = 0 ∧ ¬ cs = [(82 : Int32), (84 : Int32), (78 : Int32)]), Gets p e below (Jvm.Ow.Out s Z consts_1 RrmLaw (QrmLaw Z de el em p0 p1 p2 p3 p4 p5 h0)) (T319.setTop (mkF m 276 #[vI p0, vI p1, vI p2, vI p3, vI p4, vI p5, vI ((p0 &&& (7 : Int32)) % (5 : Int32)), vI (p1 &&& (3 : Int32)), vR fa, vR a5, vR a9, vR a13, vR a17, vR a261, .val .null, .unset] [(.int ir)])) := by
        intro T319 vm319 X319 ir hir
        have A320 := X319.at
        refine Gets.via (fun _ k => (XS.istore A320 hx rfl (D at_276) rfl (l' := #[vI p0, vI p1, vI p2, vI p3, vI p4, vI p5, vI ((p0 &&& (7 : Int32)) % (5 : Int32)), vI (p1 &&& (3 : Int32)), vR fa, vR a5, vR a9, vR a13, vR a17, vR a261, .val .null, vI ir]) rfl (XS.iload A320 hx rfl (D at_278) rfl (XS.iconst A320 hx rfl (D at_280) (XS.icmpYes A320 hx rfl (pc0 := 281) (pc' := 310) rfl (D at_281) rfl (Jvm.Free.XT.ii_ne_t (by rw [hs]; decide)) (by decide) (by decide) k))))) ?_
        show Gets p e below _ (T319.setTop (mkF m 310 #[vI p0, vI p1, vI p2, vI p3, vI p4, vI p5, vI ((p0 &&& (7 : Int32)) % (5 : Int32)), vI (p1 &&& (3 : Int32)), vR fa, vR a5, vR a9, vR a13, vR a17, vR a261, .val .null, vI ir] []))
        refine Gets.via (fun _ k => (XS.aload A320 hx rfl (D at_310) rfl rfl (XS.ifnonnullNo A320 hx rfl (D at_312) rfl k))) ?_
        refine Gets.via (fun _ k => (XS.iconst A320 hx rfl (D at_315) (XS.goto A320 hx rfl (pc0 := 316) (pc' := 320) rfl (D at_316) (by decide) (by decide) k))) ?_
        exact X319.retI hret (by decide) (by simp) (D at_320) (by decide) (by decide) (fun vmE CE => ⟨rfl, ((((((((((((((Keep.refl h0 []).trans K1 all0).trans K5 all0).trans K9 all0).trans K13 all0).ext E17).trans K19 (allS (Or.inr (leA (by omega))) all0)).trans K235 (allS (Or.inr (leA (by omega))) all0)).trans K245 (allS (Or.inr (leA (by omega))) (allS (Or.inr (leA (by omega))) all0))).trans K257 (allS (Or.inr (leA (by omega))) (allS (Or.inr (leA (by omega))) all0))).ext E261).ext E263).ext E265).trans K308 (allS (Or.inr (leA (by omega))) all0))⟩)
      by_cases b235 : (Int32.ofNat (cs).length) = (3 : Int32)
      · refine Gets.via (fun _ k => (XS.icmpNo A318 hx rfl (D at_235) rfl (Jvm.Free.XT.ii_ne_f b235) k)) ?_
        have hl3 : cs.length = 3 := ofNat_eq f316.2.2.2.2.2 b235
        refine Gets.via (fun _ k => (XS.aload A318 hx rfl (D at_238) rfl rfl (XS.iconst A318 hx rfl (D at_240) k))) ?_
        refine X317.callV (W := 0) (w232 hw) (w233 hw) (w235 hw) (w234 hw) (nfs rfl (w235 hw)) (by decide) (payCh X317 hw (w5 hw) f316 O2 P5 O4 P6 (0) (by omega) rfl (by decide) (by decide)) f316.1 rfl (sz hml rfl) (argsL := [(.int (0 : Int32))]) (rest := []) (lenOf pd11 rfl) rfl rfl (mroom rfl rfl) (D at_241) (by decide) (by decide) fun T321 h321 vm321 v321 X321 C321 z321 q321 => ?_
        obtain ⟨rfl, K321⟩ := q321
        rw [K321] at X321 C321
        have A322 := X321.at
        refine Gets.via (fun _ k => (XS.bipush A322 hx rfl (D at_244) k)) ?_
        by_cases b246 : (cs.getD (0) 0) = (82 : Int32)
        · refine Gets.via (fun _ k => (XS.icmpNo A322 hx rfl (D at_246) rfl (Jvm.Free.XT.ii_ne_f b246) k)) ?_
          show Gets p e below _ (T321.setTop (mkF m 249 #[vI p0, vI p1, vI p2, vI p3, vI p4, vI p5, vI ((p0 &&& (7 : Int32)) % (5 : Int32)), vI (p1 &&& (3 : Int32)), vR fa, vR a5, vR a9, vR a13, vR a17, vR a261, .val .null, .unset] []))
          refine Gets.via (fun _ k => (XS.aload A322 hx rfl (D at_249) rfl rfl (XS.iconst A322 hx rfl (D at_251) k))) ?_
          refine X321.callV (W := 0) (w232 hw) (w233 hw) (w235 hw) (w234 hw) (nfs rfl (w235 hw)) (by decide) (payCh X321 hw (w5 hw) f316 O2 P5 O4 P6 (1) (by omega) rfl (by decide) (by decide)) f316.1 rfl (sz hml rfl) (argsL := [(.int (1 : Int32))]) (rest := []) (lenOf pd11 rfl) rfl rfl (mroom rfl rfl) (D at_252) (by decide) (by decide) fun T323 h323 vm323 v323 X323 C323 z323 q323 => ?_
          obtain ⟨rfl, K323⟩ := q323
          rw [K323] at X323 C323
          have A324 := X323.at
          refine Gets.via (fun _ k => (XS.bipush A324 hx rfl (D at_255) k)) ?_
          by_cases b257 : (cs.getD (1) 0) = (84 : Int32)
          · refine Gets.via (fun _ k => (XS.icmpNo A324 hx rfl (D at_257) rfl (Jvm.Free.XT.ii_ne_f b257) k)) ?_
            refine Gets.via (fun _ k => (XS.aload A324 hx rfl (D at_260) rfl rfl (XS.iconst A324 hx rfl (D at_262) k))) ?_
            refine X323.callV (W := 0) (w232 hw) (w233 hw) (w235 hw) (w234 hw) (nfs rfl (w235 hw)) (by decide) (payCh X323 hw (w5 hw) f316 O2 P5 O4 P6 (2) (by omega) rfl (by decide) (by decide)) f316.1 rfl (sz hml rfl) (argsL := [(.int (2 : Int32))]) (rest := []) (lenOf pd11 rfl) rfl rfl (mroom rfl rfl) (D at_263) (by decide) (by decide) fun T325 h325 vm325 v325 X325 C325 z325 q325 => ?_
            obtain ⟨rfl, K325⟩ := q325
            rw [K325] at X325 C325
            show Gets p e below _ (T325.setTop (mkF m 266 #[vI p0, vI p1, vI p2, vI p3, vI p4, vI p5, vI ((p0 &&& (7 : Int32)) % (5 : Int32)), vI (p1 &&& (3 : Int32)), vR fa, vR a5, vR a9, vR a13, vR a17, vR a261, .val .null, .unset] [(.int (cs.getD (2) 0))]))
            have A326 := X325.at
            refine Gets.via (fun _ k => (XS.bipush A326 hx rfl (D at_266) k)) ?_
            by_cases b268 : (cs.getD (2) 0) = (78 : Int32)
            · refine Gets.via (fun _ k => (XS.icmpNo A326 hx rfl (D at_268) rfl (Jvm.Free.XT.ii_ne_f b268) k)) ?_
              refine Gets.via (fun _ k => (XS.iconst A326 hx rfl (D at_271) (XS.goto A326 hx rfl (pc0 := 272) (pc' := 276) rfl (D at_272) (by decide) (by decide) k))) ?_
              exact j276 T325 vm325 X325 (1 : Int32) (Or.inl ⟨rfl, rtn_of hl3 b246 b257 b268⟩)
            · refine Gets.via (fun _ k => (XS.icmpYes A326 hx rfl (pc0 := 268) (pc' := 275) rfl (D at_268) rfl (Jvm.Free.XT.ii_ne_t b268) (by decide) (by decide) k)) ?_
              refine Gets.via (fun _ k => (XS.iconst A326 hx rfl (D at_275) k)) ?_
              exact j276 T325 vm325 X325 (0 : Int32) (Or.inr ⟨rfl, fun q => b268 (by rw [q]; rfl)⟩)
          · refine Gets.via (fun _ k => (XS.icmpYes A324 hx rfl (pc0 := 257) (pc' := 275) rfl (D at_257) rfl (Jvm.Free.XT.ii_ne_t b257) (by decide) (by decide) k)) ?_
            refine Gets.via (fun _ k => (XS.iconst A324 hx rfl (D at_275) k)) ?_
            exact j276 T323 vm323 X323 (0 : Int32) (Or.inr ⟨rfl, fun q => b257 (by rw [q]; rfl)⟩)
        · refine Gets.via (fun _ k => (XS.icmpYes A322 hx rfl (pc0 := 246) (pc' := 275) rfl (D at_246) rfl (Jvm.Free.XT.ii_ne_t b246) (by decide) (by decide) k)) ?_
          refine Gets.via (fun _ k => (XS.iconst A322 hx rfl (D at_275) k)) ?_
          exact j276 T321 vm321 X321 (0 : Int32) (Or.inr ⟨rfl, fun q => b246 (by rw [q]; rfl)⟩)
      · refine Gets.via (fun _ k => (XS.icmpYes A318 hx rfl (pc0 := 235) (pc' := 275) rfl (D at_235) rfl (Jvm.Free.XT.ii_ne_t b235) (by decide) (by decide) k)) ?_
        refine Gets.via (fun _ k => (XS.iconst A318 hx rfl (D at_275) k)) ?_
        show Gets p e below _ (T317.setTop (mkF m 276 #[vI p0, vI p1, vI p2, vI p3, vI p4, vI p5, vI ((p0 &&& (7 : Int32)) % (5 : Int32)), vI (p1 &&& (3 : Int32)), vR fa, vR a5, vR a9, vR a13, vR a17, vR a261, .val .null, .unset] [(.int (0 : Int32))]))
        exact j276 T317 vm317 X317 (0 : Int32) (Or.inr ⟨rfl, fun q => b235 (by rw [q]; rfl)⟩)
    · refine Gets.via (fun _ k => (XS.iload A21 hx rfl (D at_151) rfl (XS.iconst A21 hx rfl (D at_153) (XS.icmpNo A21 hx rfl (D at_154) rfl (Jvm.Free.XT.ii_lt_f (by rw [hs]; decide)) k)))) ?_
      refine Gets.via (fun _ k => (XS.aload A21 hx rfl (D at_157) rfl rfl (XS.aload A21 hx rfl (D at_159) rfl rfl k))) ?_
      have f327 : Str Z h5 fa fb fk cs := j1_0.keep K5 nin0 nin0
      have f328 : Str Z h9 fa fb fk cs := f327.keep K9 nin0 nin0
      have f329 : Str Z h13 fa fb fk cs := f328.keep K13 nin0 nin0
      have f330 : Str Z h17 fa fb fk cs := f329.ext E17
      have l331 := neA (Exa.ne f330.1 Z17 (by decide))
      have f332 : Str Z h19 fa fb fk cs := f330.keep K19 (ninS (neA (by omega)) nin0) (ninS (neA (by omega)) nin0)
      refine X19.callV (W := 0) (w141 hw) (w142 hw) (w144 hw) (w143 hw) (nfs rfl (w144 hw)) (by decide) (X19.payM (sf := []) (rmAdd0 hcx a17 fa (0 : Int32) h19 X19.old g19_0 g19_1 g19_2 g19_3 (leA (by omega)) f332.1) sf0 (w145 hw) (w39 hw) (by decide) (by decide)) g19_0 rfl (sz hml rfl) (argsL := [(.ref fa)]) (rest := []) (lenOf pd16 rfl) rfl rfl (mroom rfl rfl) (D at_161) (by decide) (by decide) fun T333 h333 vm333 v333 X333 C333 z333 q333 => ?_
      obtain ⟨d333, kd333, rfl, K333, g333_0, g333_1, g333_2, g333_3, g333_4, g333_5, g333_6, g333_7, g333_8⟩ := q333
      have l334 := ltA g333_0.lt
      have l335 := ltA g333_4.lt
      have A336 := X333.at
      refine Gets.via (fun _ k => (XS.pop A336 hx rfl (D at_164) rfl rfl (XS.iload A336 hx rfl (D at_165) rfl (XS.iconst A336 hx rfl (D at_167) (XS.icmpNo A336 hx rfl (D at_168) rfl (Jvm.Free.XT.ii_lt_f (by rw [hs]; decide)) k))))) ?_
      show Gets p e below _ (T333.setTop (mkF m 171 #[vI p0, vI p1, vI p2, vI p3, vI p4, vI p5, vI ((p0 &&& (7 : Int32)) % (5 : Int32)), vI (p1 &&& (3 : Int32)), vR fa, vR a5, vR a9, vR a13, vR a17, .unset, .unset, .unset] []))
      refine Gets.via (fun _ k => (XS.aload A336 hx rfl (D at_171) rfl rfl (XS.aload A336 hx rfl (D at_173) rfl rfl k))) ?_
      have f337 : Str Z h9 a5 b5 kb5 cs5 := g5_0.keep K9 nin0 nin0
      have f338 : Str Z h13 a5 b5 kb5 cs5 := f337.keep K13 nin0 nin0
      have f339 : Str Z h17 a5 b5 kb5 cs5 := f338.ext E17
      have l340 := neA (Exa.ne f339.1 Z17 (by decide))
      have f341 : Str Z h19 a5 b5 kb5 cs5 := f339.keep K19 (ninS (neA (by omega)) nin0) (ninS (neA (by omega)) nin0)
      have f342 : Str Z h333 a5 b5 kb5 cs5 := f341.keep K333 (ninS (neA (by omega)) nin0) (ninS (neA (by omega)) nin0)
      refine X333.callV (W := 0) (w141 hw) (w142 hw) (w144 hw) (w143 hw) (nfs rfl (w144 hw)) (by decide) (X333.payM (sf := []) (rmAdd1 hcx a17 a5 ((0 : Int32) + (1 : Int32)) d333 kd333 fa h333 X333.old g333_0 g333_1 g333_2 g333_3 g333_4 g333_5 g333_6 g333_7 (neA (by omega)) (leA (by omega)) f342.1) sf0 (w145 hw) (w39 hw) (by decide) (by decide)) g333_0 rfl (sz hml rfl) (argsL := [(.ref a5)]) (rest := []) (lenOf pd16 rfl) rfl rfl (mroom rfl rfl) (D at_175) (by decide) (by decide) fun T343 h343 vm343 v343 X343 C343 z343 q343 => ?_
      obtain ⟨rfl, K343, g343_0, g343_1, g343_2, g343_3, g343_4, g343_5⟩ := q343
      have l344 := ltA g343_0.lt
      have l345 := ltA g343_4.lt
      have A346 := X343.at
      refine Gets.via (fun _ k => (XS.pop A346 hx rfl (D at_178) rfl rfl (XS.iload A346 hx rfl (D at_179) rfl (XS.iconst A346 hx rfl (D at_181) (XS.icmpNo A346 hx rfl (D at_182) rfl (Jvm.Free.XT.ii_lt_f (by rw [hs]; decide)) k))))) ?_
      refine Gets.via (fun _ k => (XS.aload A346 hx rfl (D at_185) rfl rfl (XS.aload A346 hx rfl (D at_187) rfl rfl k))) ?_
      have f347 : Str Z h13 a9 b9 kb9 cs9 := g9_0.keep K13 nin0 nin0
      have f348 : Str Z h17 a9 b9 kb9 cs9 := f347.ext E17
      have l349 := neA (Exa.ne f348.1 Z17 (by decide))
      have f350 : Str Z h19 a9 b9 kb9 cs9 := f348.keep K19 (ninS (neA (by omega)) nin0) (ninS (neA (by omega)) nin0)
      have f351 : Str Z h333 a9 b9 kb9 cs9 := f350.keep K333 (ninS (neA (by omega)) nin0) (ninS (neA (by omega)) nin0)
      have l352 := neA (Exa.ne f351.1 g333_5 (by decide))
      have l353 := neA (Arv.nty f351.2.2.2.1 g333_4 (by decide))
      have f354 : Str Z h343 a9 b9 kb9 cs9 := f351.keep K343 (ninS (neA (by omega)) (ninS (neA (by omega)) nin0)) (ninS (neA (by omega)) (ninS (neA (by omega)) nin0))
      refine X343.callV (W := 0) (w141 hw) (w142 hw) (w144 hw) (w143 hw) (nfs rfl (w144 hw)) (by decide) (X343.payM (sf := []) (rmAdd2 hcx a17 a9 (((0 : Int32) + (1 : Int32)) + (1 : Int32)) d333 kd333 fa a5 h343 X343.old g343_0 g343_1 g343_2 g343_3 g343_4 g343_5 g333_6 g333_7 (neA (by omega)) (leA (by omega)) f354.1) sf0 (w145 hw) (w39 hw) (by decide) (by decide)) g343_0 rfl (sz hml rfl) (argsL := [(.ref a9)]) (rest := []) (lenOf pd16 rfl) rfl rfl (mroom rfl rfl) (D at_189) (by decide) (by decide) fun T355 h355 vm355 v355 X355 C355 z355 q355 => ?_
      obtain ⟨rfl, K355, g355_0, g355_1, g355_2, g355_3, g355_4, g355_5⟩ := q355
      have l356 := ltA g355_0.lt
      have l357 := ltA g355_4.lt
      show Gets p e below _ (T355.setTop (mkF m 192 #[vI p0, vI p1, vI p2, vI p3, vI p4, vI p5, vI ((p0 &&& (7 : Int32)) % (5 : Int32)), vI (p1 &&& (3 : Int32)), vR fa, vR a5, vR a9, vR a13, vR a17, .unset, .unset, .unset] [(.int (1 : Int32))]))
      have A358 := X355.at
      refine Gets.via (fun _ k => (XS.pop A358 hx rfl (D at_192) rfl rfl (XS.iload A358 hx rfl (D at_193) rfl (XS.iconst A358 hx rfl (D at_195) (XS.icmpNo A358 hx rfl (D at_196) rfl (Jvm.Free.XT.ii_lt_f (by rw [hs]; decide)) k))))) ?_
      refine Gets.via (fun _ k => (XS.aload A358 hx rfl (D at_199) rfl rfl (XS.aload A358 hx rfl (D at_201) rfl rfl k))) ?_
      have f359 : Str Z h17 a13 b13 kb13 cs13 := g13_0.ext E17
      have l360 := neA (Exa.ne f359.1 Z17 (by decide))
      have f361 : Str Z h19 a13 b13 kb13 cs13 := f359.keep K19 (ninS (neA (by omega)) nin0) (ninS (neA (by omega)) nin0)
      have f362 : Str Z h333 a13 b13 kb13 cs13 := f361.keep K333 (ninS (neA (by omega)) nin0) (ninS (neA (by omega)) nin0)
      have l363 := neA (Exa.ne f362.1 g333_5 (by decide))
      have l364 := neA (Arv.nty f362.2.2.2.1 g333_4 (by decide))
      have f365 : Str Z h343 a13 b13 kb13 cs13 := f362.keep K343 (ninS (neA (by omega)) (ninS (neA (by omega)) nin0)) (ninS (neA (by omega)) (ninS (neA (by omega)) nin0))
      have f366 : Str Z h355 a13 b13 kb13 cs13 := f365.keep K355 (ninS (neA (by omega)) (ninS (neA (by omega)) nin0)) (ninS (neA (by omega)) (ninS (neA (by omega)) nin0))
      refine X355.callV (W := 0) (w141 hw) (w142 hw) (w144 hw) (w143 hw) (nfs rfl (w144 hw)) (by decide) (X355.payM (sf := []) (rmAdd3 hcx a17 a13 ((((0 : Int32) + (1 : Int32)) + (1 : Int32)) + (1 : Int32)) d333 kd333 fa a5 a9 h355 X355.old g355_0 g355_1 g355_2 g355_3 g355_4 g355_5 g333_6 g333_7 (neA (by omega)) (leA (by omega)) f366.1) sf0 (w145 hw) (w39 hw) (by decide) (by decide)) g355_0 rfl (sz hml rfl) (argsL := [(.ref a13)]) (rest := []) (lenOf pd16 rfl) rfl rfl (mroom rfl rfl) (D at_203) (by decide) (by decide) fun T367 h367 vm367 v367 X367 C367 z367 q367 => ?_
      obtain ⟨rfl, K367, g367_0, g367_1, g367_2, g367_3, g367_4, g367_5⟩ := q367
      have l368 := ltA g367_0.lt
      have l369 := ltA g367_4.lt
      have A370 := X367.at
      refine Gets.via (fun _ k => (XS.pop A370 hx rfl (D at_206) rfl rfl k)) ?_
      refine X367.new (w61 hw) (w62 hw) (w63 hw) rfl (D at_207) (by decide) (by decide) fun T371 h371 a371 X371 C371 E371 g371 Z371 S371 D371 => ?_
      have z371 := E371.1
      have l371 := ltA Z371.lt
      show Gets p e below _ (T371.setTop (mkF m 210 #[vI p0, vI p1, vI p2, vI p3, vI p4, vI p5, vI ((p0 &&& (7 : Int32)) % (5 : Int32)), vI (p1 &&& (3 : Int32)), vR fa, vR a5, vR a9, vR a13, vR a17, .unset, .unset, .unset] [(.ref a371)]))
      have A372 := X371.at
      refine Gets.via (fun _ k => (XS.dup A372 hx rfl (D at_210) rfl rfl k)) ?_
      refine X371.ldcO (w64 hw) (wSt hw) rfl (D at_211) (n := 4) (by decide) (by decide) (by decide) (by decide) fun T373 h373 vm373 a373 X373 C373 E373 => ?_
      have z373 := E373.1
      have A374 := X373.at
      refine Gets.via (fun _ k => (XS.aload A374 hx rfl (D at_213) rfl rfl k)) ?_
      refine X373.ldcO (w65 hw) (wSt hw) rfl (D at_215) (n := 4) (by decide) (by decide) (by decide) (by decide) fun T375 h375 vm375 a375 X375 C375 E375 => ?_
      have z375 := E375.1
      have f376 := g367_2.ext E371
      have f377 := f376.ext E373
      have f378 := f377.ext E375
      have f379 := Z371.ext E373
      have f380 := f379.ext E375
      have f381 := (D371 (Or.inr (w105 hw)) (ty := (.object "java/lang/String")) (by decide) : Fld Z h371 a371 "com/example/packwright/packwright/model/Node" "subscriptLine" "Ljava/lang/String;" .null).ext E373
      have f382 := f381.ext E375
      have f383 := (D371 (Or.inr (w107 hw)) (ty := (.object "java/util/List")) (by decide) : Fld Z h371 a371 "com/example/packwright/packwright/model/Node" "subscripts" "Ljava/util/List;" .null).ext E373
      have f384 := f383.ext E375
      have f385 := (D371 (Or.inr (w109 hw)) (ty := (.object "java/lang/String")) (by decide) : Fld Z h371 a371 "com/example/packwright/packwright/model/Node" "value" "Ljava/lang/String;" .null).ext E373
      have f386 := f385.ext E375
      have f387 := g367_0.ext E371
      have f388 := f387.ext E373
      have f389 := f388.ext E375
      have f390 := g367_3.ext E371
      have f391 := f390.ext E373
      have f392 := f391.ext E375
      have f393 := g367_4.ext E371
      have f394 := f393.ext E373
      have f395 := f394.ext E375
      have f396 := g367_5.ext E371
      have f397 := f396.ext E373
      have f398 := f397.ext E375
      have f399 : Str Z h333 fa fb fk cs := f332.keep K333 (ninS (neA (by omega)) nin0) (ninS (neA (by omega)) nin0)
      have l400 := neA (Exa.ne f399.1 g333_5 (by decide))
      have l401 := neA (Arv.nty f399.2.2.2.1 g333_4 (by decide))
      have f402 : Str Z h343 fa fb fk cs := f399.keep K343 (ninS (neA (by omega)) (ninS (neA (by omega)) nin0)) (ninS (neA (by omega)) (ninS (neA (by omega)) nin0))
      have f403 : Str Z h355 fa fb fk cs := f402.keep K355 (ninS (neA (by omega)) (ninS (neA (by omega)) nin0)) (ninS (neA (by omega)) (ninS (neA (by omega)) nin0))
      have f404 : Str Z h367 fa fb fk cs := f403.keep K367 (ninS (neA (by omega)) (ninS (neA (by omega)) nin0)) (ninS (neA (by omega)) (ninS (neA (by omega)) nin0))
      have f405 : Str Z h371 fa fb fk cs := f404.ext E371
      have f406 : Str Z h373 fa fb fk cs := f405.ext E373
      have f407 : Str Z h375 fa fb fk cs := f406.ext E375
      have l408 := neA (Exa.ne f342.1 g333_5 (by decide))
      have l409 := neA (Arv.nty f342.2.2.2.1 g333_4 (by decide))
      have f410 : Str Z h343 a5 b5 kb5 cs5 := f342.keep K343 (ninS (neA (by omega)) (ninS (neA (by omega)) nin0)) (ninS (neA (by omega)) (ninS (neA (by omega)) nin0))
      have f411 : Str Z h355 a5 b5 kb5 cs5 := f410.keep K355 (ninS (neA (by omega)) (ninS (neA (by omega)) nin0)) (ninS (neA (by omega)) (ninS (neA (by omega)) nin0))
      have f412 : Str Z h367 a5 b5 kb5 cs5 := f411.keep K367 (ninS (neA (by omega)) (ninS (neA (by omega)) nin0)) (ninS (neA (by omega)) (ninS (neA (by omega)) nin0))
      have f413 : Str Z h371 a5 b5 kb5 cs5 := f412.ext E371
      have f414 : Str Z h373 a5 b5 kb5 cs5 := f413.ext E373
      have f415 : Str Z h375 a5 b5 kb5 cs5 := f414.ext E375
      have f416 : Str Z h355 a9 b9 kb9 cs9 := f354.keep K355 (ninS (neA (by omega)) (ninS (neA (by omega)) nin0)) (ninS (neA (by omega)) (ninS (neA (by omega)) nin0))
      have f417 : Str Z h367 a9 b9 kb9 cs9 := f416.keep K367 (ninS (neA (by omega)) (ninS (neA (by omega)) nin0)) (ninS (neA (by omega)) (ninS (neA (by omega)) nin0))
      have f418 : Str Z h371 a9 b9 kb9 cs9 := f417.ext E371
      have f419 : Str Z h373 a9 b9 kb9 cs9 := f418.ext E373
      have f420 : Str Z h375 a9 b9 kb9 cs9 := f419.ext E375
      have f421 : Str Z h367 a13 b13 kb13 cs13 := f366.keep K367 (ninS (neA (by omega)) (ninS (neA (by omega)) nin0)) (ninS (neA (by omega)) (ninS (neA (by omega)) nin0))
      have f422 : Str Z h371 a13 b13 kb13 cs13 := f421.ext E371
      have f423 : Str Z h373 a13 b13 kb13 cs13 := f422.ext E373
      have f424 : Str Z h375 a13 b13 kb13 cs13 := f423.ext E375
      refine X375.callI (y := (⟨"com/example/packwright/packwright/model/Node", "<init>", "(Ljava/lang/String;Ljava/util/List;Ljava/lang/String;)V"⟩ : MethodName)) (W := 1) rfl (w66 hw) (w67 hw) (w68 hw) (by decide) (X375.payM (sf := []) (rmNode4 hcx a371 a373 a17 a375 d333 kd333 fa a5 a9 a13 h375 X375.old f380 f382 f384 f386 (leA (by omega)) f389 f378 f392 f395 f398 f407.1 f415.1 f420.1 f424.1) sf0 (w68 hw) (w63 hw) (by decide) (by decide)) rfl (sz hml rfl) (a := a371) (argsL := [(.ref a373), (.ref a17), (.ref a375)]) (rest := [(.ref a371)]) (lenOf pd8 rfl) rfl rfl (mroom rfl rfl) (D at_217) (by decide) (by decide) fun T425 h425 vm425 v425 X425 C425 z425 q425 => ?_
      obtain ⟨L425, t425, kn425, rfl, K425, g425_0, g425_1, g425_2, g425_3, g425_4⟩ := q425
      have l426 := ltA g425_0.lt
      have l427 := ltA g425_2.lt
      have l428 := ltA g425_4.lt
      have A429 := X425.at
      refine Gets.via (fun _ k => (XS.astore A429 hx rfl (D at_220) rfl rfl (l' := #[vI p0, vI p1, vI p2, vI p3, vI p4, vI p5, vI ((p0 &&& (7 : Int32)) % (5 : Int32)), vI (p1 &&& (3 : Int32)), vR fa, vR a5, vR a9, vR a13, vR a17, vR a371, .unset, .unset]) rfl (XS.aload A429 hx rfl (D at_222) rfl rfl k))) ?_
      show Gets p e below _ (T425.setTop (mkF m 224 #[vI p0, vI p1, vI p2, vI p3, vI p4, vI p5, vI ((p0 &&& (7 : Int32)) % (5 : Int32)), vI (p1 &&& (3 : Int32)), vR fa, vR a5, vR a9, vR a13, vR a17, vR a371, .unset, .unset] [(.ref a371)]))
      refine X425.callS (W := 0) (w110 hw) (w111 hw) (w112 hw) (w113 hw) (by decide) (X425.payM (sf := []) (rmRoh4 hcx a371 L425 fa a5 a9 a13 t425 kn425 h425 X425.old g425_0 g425_1 g425_2 g425_3 g425_4) sf0 (w113 hw) (w112 hw) (by decide) (by decide)) rfl (sz hml rfl) (argsL := [(.ref a371)]) (rest := []) (lenOf pd10 rfl) rfl rfl (mroom rfl rfl) (D at_224) (by decide) (by decide) fun T430 h430 vm430 v430 X430 C430 z430 q430 => ?_
      obtain ⟨rfl, K430⟩ := q430
      rw [K430] at X430 C430
      have A431 := X430.at
      refine Gets.via (fun _ k => (XS.astore A431 hx rfl (D at_227) rfl rfl (l' := #[vI p0, vI p1, vI p2, vI p3, vI p4, vI p5, vI ((p0 &&& (7 : Int32)) % (5 : Int32)), vI (p1 &&& (3 : Int32)), vR fa, vR a5, vR a9, vR a13, vR a17, vR a371, .val .null, .unset]) rfl (XS.aload A431 hx rfl (D at_229) rfl rfl k))) ?_
      have l432 := neA (Exa.ne f407.1 f380 (by decide))
      have f433 : Str Z h425 fa fb fk cs := f407.keep K425 (ninS (neA (by omega)) nin0) (ninS (neA (by omega)) nin0)
      refine X430.callV (W := 0) (w131 hw) (w132 hw) (w134 hw) (w133 hw) (nfs rfl (w134 hw)) (by decide) (payLen X430 hw (w5 hw) f433 O2 P5 (by decide) (by decide)) f433.1 rfl (sz hml rfl) (argsL := []) (rest := []) (lenOf pd9 rfl) rfl rfl (mroom rfl rfl) (D at_231) (by decide) (by decide) fun T434 h434 vm434 v434 X434 C434 z434 q434 => ?_
      obtain ⟨rfl, K434⟩ := q434
      rw [K434] at X434 C434
      have A435 := X434.at
      refine Gets.via (fun _ k => (XS.iconst A435 hx rfl (D at_234) k)) ?_
      have j276 : ∀ (T436 : State) (vm436 : Vm) (X436 : Wk p l e RrmLaw s m #[(.int p0), (.int p1), (.int p2), (.int p3), (.int p4), (.int p5)] below meth cc x.cls Z a0 consts_1 h0 T436 h425 vm436 34 124) (ir : Int32) (hir : ir = 1 ∧ cs = [(82 : Int32), (84 : Int32), (78 : Int32)] ∨ ir = 0 ∧ ¬ cs = [(82 : Int32), (84 : Int32), (78 : Int32)]), Gets p e below (Jvm.Ow.Out s Z consts_1 RrmLaw (QrmLaw Z de el em p0 p1 p2 p3 p4 p5 h0)) (T436.setTop (mkF m 276 #[vI p0, vI p1, vI p2, vI p3, vI p4, vI p5, vI ((p0 &&& (7 : Int32)) % (5 : Int32)), vI (p1 &&& (3 : Int32)), vR fa, vR a5, vR a9, vR a13, vR a17, vR a371, .val .null, .unset] [(.int ir)])) := by
        intro T436 vm436 X436 ir hir
        have A437 := X436.at
        refine Gets.via (fun _ k => (XS.istore A437 hx rfl (D at_276) rfl (l' := #[vI p0, vI p1, vI p2, vI p3, vI p4, vI p5, vI ((p0 &&& (7 : Int32)) % (5 : Int32)), vI (p1 &&& (3 : Int32)), vR fa, vR a5, vR a9, vR a13, vR a17, vR a371, .val .null, vI ir]) rfl (XS.iload A437 hx rfl (D at_278) rfl (XS.iconst A437 hx rfl (D at_280) (XS.icmpYes A437 hx rfl (pc0 := 281) (pc' := 310) rfl (D at_281) rfl (Jvm.Free.XT.ii_ne_t (by rw [hs]; decide)) (by decide) (by decide) k))))) ?_
        show Gets p e below _ (T436.setTop (mkF m 310 #[vI p0, vI p1, vI p2, vI p3, vI p4, vI p5, vI ((p0 &&& (7 : Int32)) % (5 : Int32)), vI (p1 &&& (3 : Int32)), vR fa, vR a5, vR a9, vR a13, vR a17, vR a371, .val .null, vI ir] []))
        refine Gets.via (fun _ k => (XS.aload A437 hx rfl (D at_310) rfl rfl (XS.ifnonnullNo A437 hx rfl (D at_312) rfl k))) ?_
        refine Gets.via (fun _ k => (XS.iconst A437 hx rfl (D at_315) (XS.goto A437 hx rfl (pc0 := 316) (pc' := 320) rfl (D at_316) (by decide) (by decide) k))) ?_
        exact X436.retI hret (by decide) (by simp) (D at_320) (by decide) (by decide) (fun vmE CE => ⟨rfl, (((((((((((((((Keep.refl h0 []).trans K1 all0).trans K5 all0).trans K9 all0).trans K13 all0).ext E17).trans K19 (allS (Or.inr (leA (by omega))) all0)).trans K333 (allS (Or.inr (leA (by omega))) all0)).trans K343 (allS (Or.inr (leA (by omega))) (allS (Or.inr (leA (by omega))) all0))).trans K355 (allS (Or.inr (leA (by omega))) (allS (Or.inr (leA (by omega))) all0))).trans K367 (allS (Or.inr (leA (by omega))) (allS (Or.inr (leA (by omega))) all0))).ext E371).ext E373).ext E375).trans K425 (allS (Or.inr (leA (by omega))) all0))⟩)
      by_cases b235 : (Int32.ofNat (cs).length) = (3 : Int32)
      · refine Gets.via (fun _ k => (XS.icmpNo A435 hx rfl (D at_235) rfl (Jvm.Free.XT.ii_ne_f b235) k)) ?_
        have hl3 : cs.length = 3 := ofNat_eq f433.2.2.2.2.2 b235
        refine Gets.via (fun _ k => (XS.aload A435 hx rfl (D at_238) rfl rfl (XS.iconst A435 hx rfl (D at_240) k))) ?_
        refine X434.callV (W := 0) (w232 hw) (w233 hw) (w235 hw) (w234 hw) (nfs rfl (w235 hw)) (by decide) (payCh X434 hw (w5 hw) f433 O2 P5 O4 P6 (0) (by omega) rfl (by decide) (by decide)) f433.1 rfl (sz hml rfl) (argsL := [(.int (0 : Int32))]) (rest := []) (lenOf pd11 rfl) rfl rfl (mroom rfl rfl) (D at_241) (by decide) (by decide) fun T438 h438 vm438 v438 X438 C438 z438 q438 => ?_
        obtain ⟨rfl, K438⟩ := q438
        rw [K438] at X438 C438
        have A439 := X438.at
        refine Gets.via (fun _ k => (XS.bipush A439 hx rfl (D at_244) k)) ?_
        by_cases b246 : (cs.getD (0) 0) = (82 : Int32)
        · refine Gets.via (fun _ k => (XS.icmpNo A439 hx rfl (D at_246) rfl (Jvm.Free.XT.ii_ne_f b246) k)) ?_
          show Gets p e below _ (T438.setTop (mkF m 249 #[vI p0, vI p1, vI p2, vI p3, vI p4, vI p5, vI ((p0 &&& (7 : Int32)) % (5 : Int32)), vI (p1 &&& (3 : Int32)), vR fa, vR a5, vR a9, vR a13, vR a17, vR a371, .val .null, .unset] []))
          refine Gets.via (fun _ k => (XS.aload A439 hx rfl (D at_249) rfl rfl (XS.iconst A439 hx rfl (D at_251) k))) ?_
          refine X438.callV (W := 0) (w232 hw) (w233 hw) (w235 hw) (w234 hw) (nfs rfl (w235 hw)) (by decide) (payCh X438 hw (w5 hw) f433 O2 P5 O4 P6 (1) (by omega) rfl (by decide) (by decide)) f433.1 rfl (sz hml rfl) (argsL := [(.int (1 : Int32))]) (rest := []) (lenOf pd11 rfl) rfl rfl (mroom rfl rfl) (D at_252) (by decide) (by decide) fun T440 h440 vm440 v440 X440 C440 z440 q440 => ?_
          obtain ⟨rfl, K440⟩ := q440
          rw [K440] at X440 C440
          have A441 := X440.at
          refine Gets.via (fun _ k => (XS.bipush A441 hx rfl (D at_255) k)) ?_
          by_cases b257 : (cs.getD (1) 0) = (84 : Int32)
          · refine Gets.via (fun _ k => (XS.icmpNo A441 hx rfl (D at_257) rfl (Jvm.Free.XT.ii_ne_f b257) k)) ?_
            refine Gets.via (fun _ k => (XS.aload A441 hx rfl (D at_260) rfl rfl (XS.iconst A441 hx rfl (D at_262) k))) ?_
            refine X440.callV (W := 0) (w232 hw) (w233 hw) (w235 hw) (w234 hw) (nfs rfl (w235 hw)) (by decide) (payCh X440 hw (w5 hw) f433 O2 P5 O4 P6 (2) (by omega) rfl (by decide) (by decide)) f433.1 rfl (sz hml rfl) (argsL := [(.int (2 : Int32))]) (rest := []) (lenOf pd11 rfl) rfl rfl (mroom rfl rfl) (D at_263) (by decide) (by decide) fun T442 h442 vm442 v442 X442 C442 z442 q442 => ?_
            obtain ⟨rfl, K442⟩ := q442
            rw [K442] at X442 C442
            show Gets p e below _ (T442.setTop (mkF m 266 #[vI p0, vI p1, vI p2, vI p3, vI p4, vI p5, vI ((p0 &&& (7 : Int32)) % (5 : Int32)), vI (p1 &&& (3 : Int32)), vR fa, vR a5, vR a9, vR a13, vR a17, vR a371, .val .null, .unset] [(.int (cs.getD (2) 0))]))
            have A443 := X442.at
            refine Gets.via (fun _ k => (XS.bipush A443 hx rfl (D at_266) k)) ?_
            by_cases b268 : (cs.getD (2) 0) = (78 : Int32)
            · refine Gets.via (fun _ k => (XS.icmpNo A443 hx rfl (D at_268) rfl (Jvm.Free.XT.ii_ne_f b268) k)) ?_
              refine Gets.via (fun _ k => (XS.iconst A443 hx rfl (D at_271) (XS.goto A443 hx rfl (pc0 := 272) (pc' := 276) rfl (D at_272) (by decide) (by decide) k))) ?_
              exact j276 T442 vm442 X442 (1 : Int32) (Or.inl ⟨rfl, rtn_of hl3 b246 b257 b268⟩)
            · refine Gets.via (fun _ k => (XS.icmpYes A443 hx rfl (pc0 := 268) (pc' := 275) rfl (D at_268) rfl (Jvm.Free.XT.ii_ne_t b268) (by decide) (by decide) k)) ?_
              refine Gets.via (fun _ k => (XS.iconst A443 hx rfl (D at_275) k)) ?_
              exact j276 T442 vm442 X442 (0 : Int32) (Or.inr ⟨rfl, fun q => b268 (by rw [q]; rfl)⟩)
          · refine Gets.via (fun _ k => (XS.icmpYes A441 hx rfl (pc0 := 257) (pc' := 275) rfl (D at_257) rfl (Jvm.Free.XT.ii_ne_t b257) (by decide) (by decide) k)) ?_
            refine Gets.via (fun _ k => (XS.iconst A441 hx rfl (D at_275) k)) ?_
            exact j276 T440 vm440 X440 (0 : Int32) (Or.inr ⟨rfl, fun q => b257 (by rw [q]; rfl)⟩)
        · refine Gets.via (fun _ k => (XS.icmpYes A439 hx rfl (pc0 := 246) (pc' := 275) rfl (D at_246) rfl (Jvm.Free.XT.ii_ne_t b246) (by decide) (by decide) k)) ?_
          refine Gets.via (fun _ k => (XS.iconst A439 hx rfl (D at_275) k)) ?_
          exact j276 T438 vm438 X438 (0 : Int32) (Or.inr ⟨rfl, fun q => b246 (by rw [q]; rfl)⟩)
      · refine Gets.via (fun _ k => (XS.icmpYes A435 hx rfl (pc0 := 235) (pc' := 275) rfl (D at_235) rfl (Jvm.Free.XT.ii_ne_t b235) (by decide) (by decide) k)) ?_
        refine Gets.via (fun _ k => (XS.iconst A435 hx rfl (D at_275) k)) ?_
        show Gets p e below _ (T434.setTop (mkF m 276 #[vI p0, vI p1, vI p2, vI p3, vI p4, vI p5, vI ((p0 &&& (7 : Int32)) % (5 : Int32)), vI (p1 &&& (3 : Int32)), vR fa, vR a5, vR a9, vR a13, vR a17, vR a371, .val .null, .unset] [(.int (0 : Int32))]))
        exact j276 T434 vm434 X434 (0 : Int32) (Or.inr ⟨rfl, fun q => b235 (by rw [q]; rfl)⟩)
  by_cases b15 : (p1 &&& (3 : Int32)) = (0 : Int32)
  · refine Gets.via (fun _ k => (XS.ifNo A0 hx rfl (D at_15) rfl (Jvm.Free.XT.i0_ne_f b15) k)) ?_
    refine X0.ldcC (w296 hw) (wSt hw) (by decide) (vs := [(.int (82 : Int32)), (.int (84 : Int32)), (.int (78 : Int32))]) (z := (3 : Int32)) ⟨by decide, by decide⟩ (by decide) (by decide) rfl (D at_18) (n := 12) (by decide) (by decide) (by decide) (by decide) fun T444 h444 vm444 a444 yb444 k444 X444 C444 E444 Z444 Fc444 Fv444 V444 q444 => ?_
    have z444 := E444.1
    have l444 := ltA Z444.lt
    have lb444 := ltA V444.lt
    have A445 := X444.at
    refine Gets.via (fun _ k => (XS.astore A445 hx rfl (D at_20) rfl rfl (l' := #[vI p0, vI p1, vI p2, vI p3, vI p4, vI p5, vI ((p0 &&& (7 : Int32)) % (5 : Int32)), vI (p1 &&& (3 : Int32)), vR a444, .unset, .unset, .unset, .unset, .unset, .unset, .unset]) rfl (XS.goto A445 hx rfl (pc0 := 22) (pc' := 95) rfl (D at_22) (by decide) (by decide) k))) ?_
    have f446 : Str Z h444 a444 yb444 k444 [(82 : Int32), (84 : Int32), (78 : Int32)] := ⟨Z444, Fc444, Fv444, V444, (allI ⟨by decide, by decide⟩ (allI ⟨by decide, by decide⟩ (allI ⟨by decide, by decide⟩ allN))), Nat.le_of_ble_eq_true rfl⟩
    exact j95 T444 h444 vm444 a444 yb444 k444 [(82 : Int32), (84 : Int32), (78 : Int32)] (X444.more (by decide) (by decide)) ((Keep.refl h0 []).ext E444) f446
  · refine Gets.via (fun _ k => (XS.ifYes A0 hx rfl (pc0 := 15) (pc' := 25) rfl (D at_15) rfl (Jvm.Free.XT.i0_ne_t b15) (by decide) (by decide) k)) ?_
    refine Gets.via (fun _ k => (XS.iload A0 hx rfl (D at_25) rfl (XS.iconst A0 hx rfl (D at_27) k))) ?_
    by_cases b28 : (p1 &&& (3 : Int32)) = (1 : Int32)
    · refine Gets.via (fun _ k => (XS.icmpNo A0 hx rfl (D at_28) rfl (Jvm.Free.XT.ii_ne_f b28) k)) ?_
      refine Gets.via (fun _ k => (XS.iconst A0 hx rfl (D at_31) (XS.iloadN A0 hx rfl (D at_32) rfl k))) ?_
      show Gets p e below _ (T0.setTop (mkF m 33 #[vI p0, vI p1, vI p2, vI p3, vI p4, vI p5, vI ((p0 &&& (7 : Int32)) % (5 : Int32)), vI (p1 &&& (3 : Int32)), .unset, .unset, .unset, .unset, .unset, .unset, .unset, .unset] [(.int p2), (.int (3 : Int32))]))
      refine X0.callS (W := 0) (w0 hw) (w1 hw) (w2 hw) (w3 hw) (by decide) (X0.payM (sf := []) (rmDraw hcx (3 : Int32) p2 h0 X0.old ) sf0 (w3 hw) (w2 hw) (by decide) (by decide)) rfl (sz hml rfl) (argsL := [(.int (3 : Int32)), (.int p2)]) (rest := []) (lenOf pd4 rfl) rfl rfl (mroom rfl rfl) (D at_33) (by decide) (by decide) fun T447 h447 vm447 v447 X447 C447 z447 q447 => ?_
      obtain ⟨a447, b447, kb447, cs447, rfl, K447, g447_0, g447_1⟩ := q447
      have l448 := ltA g447_0.lt
      have l449 := ltA g447_0.lb
      have A450 := X447.at
      refine Gets.via (fun _ k => (XS.astore A450 hx rfl (D at_36) rfl rfl (l' := #[vI p0, vI p1, vI p2, vI p3, vI p4, vI p5, vI ((p0 &&& (7 : Int32)) % (5 : Int32)), vI (p1 &&& (3 : Int32)), vR a447, .unset, .unset, .unset, .unset, .unset, .unset, .unset]) rfl (XS.goto A450 hx rfl (pc0 := 38) (pc' := 95) rfl (D at_38) (by decide) (by decide) k))) ?_
      exact j95 T447 h447 vm447 a447 b447 kb447 cs447 (X447.more (by decide) (by decide)) ((Keep.refl h0 []).trans K447 all0) g447_0
    · refine Gets.via (fun _ k => (XS.icmpYes A0 hx rfl (pc0 := 28) (pc' := 41) rfl (D at_28) rfl (Jvm.Free.XT.ii_ne_t b28) (by decide) (by decide) k)) ?_
      refine Gets.via (fun _ k => (XS.iload A0 hx rfl (D at_41) rfl (XS.iconst A0 hx rfl (D at_43) k))) ?_
      by_cases b44 : (p1 &&& (3 : Int32)) = (2 : Int32)
      · refine Gets.via (fun _ k => (XS.icmpNo A0 hx rfl (D at_44) rfl (Jvm.Free.XT.ii_ne_f b44) k)) ?_
        refine X0.new (w4 hw) (w5 hw) (w6 hw) rfl (D at_47) (by decide) (by decide) fun T451 h451 a451 X451 C451 E451 g451 Z451 S451 D451 => ?_
        have z451 := E451.1
        have l451 := ltA Z451.lt
        show Gets p e below _ (T451.setTop (mkF m 50 #[vI p0, vI p1, vI p2, vI p3, vI p4, vI p5, vI ((p0 &&& (7 : Int32)) % (5 : Int32)), vI (p1 &&& (3 : Int32)), .unset, .unset, .unset, .unset, .unset, .unset, .unset, .unset] [(.ref a451)]))
        have A452 := X451.at
        refine Gets.via (fun _ k => (XS.dup A452 hx rfl (D at_50) rfl rfl (XS.iconst A452 hx rfl (D at_51) k))) ?_
        refine X451.newA (aty := .char) (w7 hw) rfl (D at_52) rfl (by decide) (cap := 3) (by decide) (by decide) (by decide) (by decide) fun T453 h453 a453 k453 X453 C453 E453 g453 S453 V453 => ?_
        have z453 := E453.1
        have l453 := ltA V453.lt
        have V453_ : Arv Z h453 a453 k453 .char (3 : Int32) [(.int (0 : Int32)), (.int (0 : Int32)), (.int (0 : Int32))] (.int (0 : Int32)) := padN V453 3
        have A454 := X453.at
        refine Gets.via (fun _ k => (XS.dup A454 hx rfl (D at_54) rfl rfl (XS.iconst A454 hx rfl (D at_55) (XS.bipush A454 hx rfl (D at_56) k)))) ?_
        refine X453.stC V453_ (i := 0) (by decide) (by decide) (Nat.le_of_ble_eq_true rfl) (by decide) (v := (82 : Int32)) (by decide) (leA (by omega)) rfl rfl (D at_58) fun T455 h455 X455 C455 K455 V455 => ?_
        have z455 := K455.1
        have V455_ : Arv Z h455 a453 k453 .char (3 : Int32) [(.int (82 : Int32)), (.int (0 : Int32)), (.int (0 : Int32))] (.int (0 : Int32)) := V455
        have A456 := X455.at
        refine Gets.via (fun _ k => (XS.dup A456 hx rfl (D at_59) rfl rfl (XS.iconst A456 hx rfl (D at_60) (XS.bipush A456 hx rfl (D at_61) k)))) ?_
        show Gets p e below _ (T455.setTop (mkF m 63 #[vI p0, vI p1, vI p2, vI p3, vI p4, vI p5, vI ((p0 &&& (7 : Int32)) % (5 : Int32)), vI (p1 &&& (3 : Int32)), .unset, .unset, .unset, .unset, .unset, .unset, .unset, .unset] [(.int (84 : Int32)), (.int (1 : Int32)), (.ref a453), (.ref a453), (.ref a451), (.ref a451)]))
        refine X455.stC V455_ (i := 1) (by decide) (by decide) (Nat.le_of_ble_eq_true rfl) (by decide) (v := (84 : Int32)) (by decide) (leA (by omega)) rfl rfl (D at_63) fun T457 h457 X457 C457 K457 V457 => ?_
        have z457 := K457.1
        have V457_ : Arv Z h457 a453 k453 .char (3 : Int32) [(.int (82 : Int32)), (.int (84 : Int32)), (.int (0 : Int32))] (.int (0 : Int32)) := V457
        have A458 := X457.at
        refine Gets.via (fun _ k => (XS.dup A458 hx rfl (D at_64) rfl rfl (XS.iconst A458 hx rfl (D at_65) (XS.iloadN A458 hx rfl (D at_66) rfl (XS.sipush A458 hx rfl (D at_67) (XS.iand A458 hx rfl (D at_70) rfl (i2cV A458 hx rfl (D at_71) rfl (v := (p2 &&& (255 : Int32))) (i2c_m255 _) k))))))) ?_
        refine X457.stC V457_ (i := 2) (by decide) (by decide) (Nat.le_of_ble_eq_true rfl) (by decide) (v := (p2 &&& (255 : Int32))) (i2c_m255 _) (leA (by omega)) rfl rfl (D at_72) fun T459 h459 X459 C459 K459 V459 => ?_
        have z459 := K459.1
        have V459_ : Arv Z h459 a453 k453 .char (3 : Int32) [(.int (82 : Int32)), (.int (84 : Int32)), (.int (p2 &&& (255 : Int32)))] (.int (0 : Int32)) := V459
        show Gets p e below _ (T459.setTop (mkF m 73 #[vI p0, vI p1, vI p2, vI p3, vI p4, vI p5, vI ((p0 &&& (7 : Int32)) % (5 : Int32)), vI (p1 &&& (3 : Int32)), .unset, .unset, .unset, .unset, .unset, .unset, .unset, .unset] [(.ref a453), (.ref a451), (.ref a451)]))
        have f460 := Z451.ext E453
        have f461 := f460.keep K455
        have f462 := f461.keep K457
        have f463 := f462.keep K459
        have f464 := (D451 (Or.inr (w20 hw)) (ty := (.array .byte)) (by decide) : Fld Z h451 a451 "java/lang/String" "value" "[B" .null).ext E453
        have f465 := f464.keep K455 (ninS (neA (by omega)) nin0)
        have f466 := f465.keep K457 (ninS (neA (by omega)) nin0)
        have f467 := f466.keep K459 (ninS (neA (by omega)) nin0)
        have f468 := (D451 (Or.inr (w21 hw)) (ty := .byte) (by decide) : Fld Z h451 a451 "java/lang/String" "coder" "B" (.int (0 : Int32))).ext E453
        have f469 := f468.keep K455 (ninS (neA (by omega)) nin0)
        have f470 := f469.keep K457 (ninS (neA (by omega)) nin0)
        have f471 := f470.keep K459 (ninS (neA (by omega)) nin0)
        have f472 := C453.safe (x := a451) (ltA (by omega)) S451
        have f473 := C455.safe (x := a451) (ltA (by omega)) f472
        have f474 := C457.safe (x := a451) (ltA (by omega)) f473
        have f475 := C459.safe (x := a451) (ltA (by omega)) f474
        refine X459.callI (y := (⟨"java/lang/String", "<init>", "([C)V"⟩ : MethodName)) (W := 1) rfl (w8 hw) (w9 hw) (w10 hw) (by decide) (payStr X459 hw (w5 hw) [(82 : Int32), (84 : Int32), (p2 &&& (255 : Int32))] 3 (leA (by omega)) f463 f467 f471 V459_ O2 P5 rfl rfl (by decide) (by decide) (allI ⟨by decide, by decide⟩ (allI ⟨by decide, by decide⟩ (allI (m255 _) allN))) (by decide) (by decide) f475) rfl (sz hml rfl) (a := a451) (argsL := [(.ref a453)]) (rest := [(.ref a451)]) (lenOf pd1 rfl) rfl rfl (mroom rfl rfl) (D at_73) (by decide) (by decide) fun T476 h476 vm476 v476 X476 C476 z476 q476 => ?_
        obtain ⟨t476, kb476, rfl, K476, g476_0, g476_1, g476_2, g476_3, g476_4⟩ := q476
        have g476_5 : Str Z h476 a451 t476 kb476 [(82 : Int32), (84 : Int32), (p2 &&& (255 : Int32))] := ⟨g476_0, g476_1, g476_2, g476_3, (allI ⟨by decide, by decide⟩ (allI ⟨by decide, by decide⟩ (allI (m255 _) allN))), Nat.le_of_ble_eq_true rfl⟩
        have l477 := ltA g476_5.lt
        have l478 := ltA g476_5.lb
        have A479 := X476.at
        refine Gets.via (fun _ k => (XS.astore A479 hx rfl (D at_76) rfl rfl (l' := #[vI p0, vI p1, vI p2, vI p3, vI p4, vI p5, vI ((p0 &&& (7 : Int32)) % (5 : Int32)), vI (p1 &&& (3 : Int32)), vR a451, .unset, .unset, .unset, .unset, .unset, .unset, .unset]) rfl (XS.goto A479 hx rfl (pc0 := 78) (pc' := 95) rfl (D at_78) (by decide) (by decide) k))) ?_
        exact j95 T476 h476 vm476 a451 t476 kb476 [(82 : Int32), (84 : Int32), (p2 &&& (255 : Int32))] (X476.more (by decide) (by decide)) (((((((Keep.refl h0 []).ext E451).ext E453).trans K455 (allS (Or.inr (leA (by omega))) all0)).trans K457 (allS (Or.inr (leA (by omega))) all0)).trans K459 (allS (Or.inr (leA (by omega))) all0)).trans K476 (allS (Or.inr (leA (by omega))) all0)) g476_5
      · refine Gets.via (fun _ k => (XS.icmpYes A0 hx rfl (pc0 := 44) (pc' := 81) rfl (D at_44) rfl (Jvm.Free.XT.ii_ne_t b44) (by decide) (by decide) k)) ?_
        refine Gets.via (fun _ k => (XS.iloadN A0 hx rfl (D at_81) rfl (XS.iconst A0 hx rfl (D at_82) (XS.iushr A0 hx rfl (D at_83) rfl (XS.bipush A0 hx rfl (D at_84) (XS.iand A0 hx rfl (D at_86) rfl (XS.iconst A0 hx rfl (D at_87) k))))))) ?_
        show Gets p e below _ (T0.setTop (mkF m 88 #[vI p0, vI p1, vI p2, vI p3, vI p4, vI p5, vI ((p0 &&& (7 : Int32)) % (5 : Int32)), vI (p1 &&& (3 : Int32)), .unset, .unset, .unset, .unset, .unset, .unset, .unset, .unset] [(.int (5 : Int32)), (.int ((Jvm.Free.XT.ushr p1 (2 : Int32)) &&& (7 : Int32)))]))
        refine Gets.via (fun _ k => (iremV A0 hx rfl (D at_88) rfl (by decide) (XS.iloadN A0 hx rfl (D at_89) rfl k))) ?_
        refine X0.callS (W := 0) (w0 hw) (w1 hw) (w2 hw) (w3 hw) (by decide) (X0.payM (sf := []) (rmDraw hcx (((Jvm.Free.XT.ushr p1 (2 : Int32)) &&& (7 : Int32)) % (5 : Int32)) p2 h0 X0.old ) sf0 (w3 hw) (w2 hw) (by decide) (by decide)) rfl (sz hml rfl) (argsL := [(.int (((Jvm.Free.XT.ushr p1 (2 : Int32)) &&& (7 : Int32)) % (5 : Int32))), (.int p2)]) (rest := []) (lenOf pd4 rfl) rfl rfl (mroom rfl rfl) (D at_90) (by decide) (by decide) fun T480 h480 vm480 v480 X480 C480 z480 q480 => ?_
        obtain ⟨a480, b480, kb480, cs480, rfl, K480, g480_0, g480_1⟩ := q480
        have l481 := ltA g480_0.lt
        have l482 := ltA g480_0.lb
        have A483 := X480.at
        refine Gets.via (fun _ k => (XS.astore A483 hx rfl (D at_93) rfl rfl (l' := #[vI p0, vI p1, vI p2, vI p3, vI p4, vI p5, vI ((p0 &&& (7 : Int32)) % (5 : Int32)), vI (p1 &&& (3 : Int32)), vR a480, .unset, .unset, .unset, .unset, .unset, .unset, .unset]) rfl k)) ?_
        exact j95 T480 h480 vm480 a480 b480 kb480 cs480 (X480.more (by decide) (by decide)) ((Keep.refl h0 []).trans K480 all0) g480_0
set_option maxRecDepth 65536 in
set_option maxHeartbeats 40000000 in
theorem comes_1 {Post : Tables → Env → Array Value → State → Outcome → State → Prop} (hpost : ∀ tb e args s v u, (limb_1_1.after args s (.returned v) u = true ∧ limb_1_2.after args s (.returned v) u = true ∧ True) → FramedW s (.returned v) u (Jvm.fieldLocs frame_1_writes args s ++ Jvm.arrayLocs frame_1_arrays args s ++ Jvm.staticLocs frame_1_statics s) 56 5376 → Post tb e args s (.returned v) u) :
    ArmFor flags0 classFile x code maxLocals ret World_1 tables_1 room_1 Calls_1 rest_1 Pre_1 Post := by
  intro l hfl _ _ p e ha hc hk s m args below hf hA hF happ hP
  obtain ⟨hcalls, hrest, hpre⟩ := hP
  obtain ⟨-, -, -, hnamed, -, -, -, hat⟩ := (Spec.applies_iff hf).mp happ
  obtain ⟨hg, hn⟩ := and_e (Cond.before_iff.mp (show (Jvm.Cond.and given_1 narrow_1).before args s = true from hpre))
  obtain ⟨h1, h2⟩ := and_e hg
  obtain ⟨w0, w1, w2, w3, w4, w5, rfl⟩ : ∃ w0 w1 w2 w3 w4 w5 : Value, args = #[w0, w1, w2, w3, w4, w5] := by
    have hs : args.size = 6 := by simpa [Cond.value, given_1] using h1
    obtain ⟨L⟩ := args
    match L, hs with
    | [w0, w1, w2, w3, w4, w5], _ => exact ⟨w0, w1, w2, w3, w4, w5, rfl⟩
  have hw := fun d (hd : d ∈ tables_1) => atoms_spec (ws := Jvm.Cond.code x code maxLocals ret :: tables_1) hat d (List.mem_cons_of_mem _ hd)
  obtain ⟨u0, r0⟩ := and_e h2
  obtain ⟨i0, e0⟩ := is_v u0
  obtain rfl : w0 = (.int i0) := Option.some.inj e0
  obtain ⟨u1, r1⟩ := and_e r0
  obtain ⟨i1, e1⟩ := is_v u1
  obtain rfl : w1 = (.int i1) := Option.some.inj e1
  obtain ⟨u2, r2⟩ := and_e r1
  obtain ⟨i2, e2⟩ := is_v u2
  obtain rfl : w2 = (.int i2) := Option.some.inj e2
  obtain ⟨u3, r3⟩ := and_e r2
  obtain ⟨i3, e3⟩ := is_v u3
  obtain rfl : w3 = (.int i3) := Option.some.inj e3
  obtain ⟨u4, r4⟩ := and_e r3
  obtain ⟨i4, e4⟩ := is_v u4
  obtain rfl : w4 = (.int i4) := Option.some.inj e4
  obtain ⟨i5, e5⟩ := is_v r4
  obtain rfl : w5 = (.int i5) := Option.some.inj e5
  obtain ⟨hst, hown0⟩ := atoms_of _ (rest_1_c_eq ▸ (show rest_1_c.before _ s = true from hrest))
  obtain ⟨zc, ez⟩ := is_v (Cond.before_iff.mp (hst _ (List.mem_of_getElem? (i := 1) rfl)))
  have O2 : Sta s s.heap "java/lang/String" "COMPACT_STRINGS" "Z" (.int zc) := Sta.start ez (Or.inl (hst _ (List.mem_of_getElem? (i := 0) rfl)))
  have P5 : ¬ zc = 0 := gotF (Cond.eq_ints ez (Term.int_eval (0))) (not_v (Cond.before_iff.mp (hst _ (List.mem_of_getElem? (i := 2) rfl))))
  have hEL : EW s _ consts_1 := (EW.cons (w286 hw) (by decide) (EW.cons (w296 hw) (by decide) (EW.cons (w64 hw) (by decide) (EW.cons (w65 hw) (by decide) (EW.cons (w18 hw) (by decide) EW.nil)))))
  have hCH : CHv s consts_1 s.vm s.heap := CHv.start hEL hcalls.2.1 (hst _ (List.mem_of_getElem? (i := 2) rfl)) (w19 hw) (w5 hw)
  have hfit : Fit s := fun {y c} hc i hi => by
    obtain ⟨ha, rfl⟩ := Array.getElem?_eq_some_iff.mp hc
    have q := List.all_eq_true.mp ((Array.all_eq_true_iff_forall_mem.mp hF) _ (Array.getElem_mem ha)) i (List.mem_range.mpr hi)
    simpa [Array.getElem?_eq_getElem hi] using q
  have xD := Cond.before_iff.mp (hst _ (List.mem_of_getElem? (i := 15) rfl))
  obtain ⟨de, vD⟩ := arr_v xD
  have OD : Sta s s.heap "java/util/ArrayList" "DEFAULTCAPACITY_EMPTY_ELEMENTDATA" "[Ljava/lang/Object;" (.ref de) := Sta.start vD (Or.inr ⟨(w39 hw), hst _ (List.mem_of_getElem? (i := 11) rfl)⟩)
  obtain ⟨kde, AD⟩ := arv0 hfit vD xD (Cond.before_iff.mp (hst _ (List.mem_of_getElem? (i := 17) rfl)))
  have xM := Cond.before_iff.mp (hst _ (List.mem_of_getElem? (i := 27) rfl))
  obtain ⟨em, vM⟩ := exa_v xM
  have XM : Exa s s.heap em "java/lang/Object" := Exa.start vM xM
  have OM : Sta s s.heap "java/util/ImmutableCollections" "EMPTY" "Ljava/lang/Object;" (.ref em) := Sta.start vM (Or.inl (hst _ (List.mem_of_getElem? (i := 26) rfl)))
  have xL := Cond.before_iff.mp (hst _ (List.mem_of_getElem? (i := 20) rfl))
  obtain ⟨el, vL⟩ := exa_v xL
  have OL : Sta s s.heap "java/util/ImmutableCollections" "EMPTY_LIST" "Ljava/util/ImmutableCollections$ListN;" (.ref el) := Sta.start vL (Or.inl (hst _ (List.mem_of_getElem? (i := 19) rfl)))
  have XL : Exa s s.heap el "java/util/ImmutableCollections$ListN" := Exa.start vL xL
  have xE := Cond.before_iff.mp (hst _ (List.mem_of_getElem? (i := 21) rfl))
  obtain ⟨ee, vE⟩ := arr_v xE
  have FL : Fld s s.heap el "java/util/ImmutableCollections$ListN" "elements" "[Ljava/lang/Object;" (.ref ee) := Fld.start ((fld_at vL).symm.trans vE)
  obtain ⟨kee, AE⟩ := arv0 hfit vE xE (Cond.before_iff.mp (hst _ (List.mem_of_getElem? (i := 23) rfl)))
  obtain ⟨mr, MR⟩ : ∃ mr, Mir s "[Ljava/lang/Object;" mr := by obtain ⟨cc, kk, mm, q1, q2, q3, q4⟩ := hcalls.1; exact ⟨mm, cc, kk, q1, q2, q3, q4⟩
  obtain ⟨fm, v4, P6⟩ := isR_v (Cond.before_iff.mp (hst _ (List.mem_of_getElem? (i := 8) rfl)))
  have O4 : Sta s s.heap "jdk/internal/util/Preconditions" "SIOOBE_FORMATTER" "Ljava/util/function/BiFunction;" fm := Sta.start v4 (Or.inl (hst _ (List.mem_of_getElem? (i := 7) rfl)))
  obtain ⟨n, o, h1, h2, h3, v, L, rfl, ⟨⟨rfl, -⟩, N, -⟩, -, hq⟩ := rmLaw ⟨hw, hEL, O2, P5, OD, AD, XM, OM, OL, XL, FL, AE, MR, O4, P6⟩ i0 i1 i2 i3 i4 i5 s.heap (Old.start s) p e ha hc hk s m _ below hf ((Spec.applies_iff_loose hf).mp happ).1 ⟨rfl, State.Warmed39.refl s, rfl, hCH, fun _ q => nomatch q⟩ trivial
  refine ⟨n, _, h1, h2, h3, hpost _ _ _ _ _ _ ⟨Cond.after_iff.mpr rfl, Cond.after_iff.mpr (eq_i res_at (Term.int_eval (1)) rfl), trivial⟩ ⟨hq.1, hq.2.1, hq.2.2.1, (hq.2.2.2.sift fun y hy => Or.inr (N y hy)).mono (by decide) (by decide)⟩⟩
theorem main_1_1 : Claimed_1_1 := comes_1 fun _ _ _ _ _ _ h hF => ⟨h.1, hF⟩
theorem main_1_2 : Claimed_1_2 := comes_1 fun _ _ _ _ _ _ h hF => ⟨h.2.1, hF⟩
end Jvm.Pilot.@@N@@
namespace Jvm.Pilot.@@N@@
open Jvm Jvm.ClassFile Sem Op Lib Jvm.Free Jvm.Stand Jvm.Pilot.@@N@@.Jvm.D
/-! MADE BY PROGRAM (witnessworld.py) out of the Statement's table words and the real class files: 41 classes; the members and pool entries that the words name. The judged class is class 1, her method 2. -/
namespace start1
open Jvm.ClassFile
def u (s : String) : CpInfo := .utf8 (stringToUtf16 s)
/-- a pool by its gaps: so many unusable entries, then the entry; so many at the end -/
def gap : Nat → List CpInfo → List CpInfo
  | 0, r => r
  | n + 1, r => .unusable :: gap n r
def poolList (es : List (Nat × CpInfo)) (last : Nat) : List CpInfo := es.foldr (fun e r => gap e.1 (e.2 :: r)) (gap last [])
def pool (es : List (Nat × CpInfo)) (last : Nat) : Array CpInfo := ⟨poolList es last⟩
def fileOf (pool : Array CpInfo) (this : Nat) (attrs : Array Attribute := #[]) (ms : Array MethodInfo := #[]) (fl : Nat := 33) (sup : Nat := 0) (ifs : Array Nat := #[]) (fds : Array FieldInfo := #[]) : ClassFile where
  minorVersion := 0
  majorVersion := 65
  constantPool := pool
  accessFlags := fl
  thisClass := this
  superClass := sup
  interfaces := ifs
  fields := fds
  methods := ms
  attributes := attrs
def plain (name : String) (sup : Option ClassId) : Class where
  name := name
  kind := .ordinary
  loader := none
  accessFlags := 33
  super := sup
  interfaces := #[]
  cf := none
  fields := #[]
  methods := #[]
  instanceTypes := #[]
  staticTypes := #[]
  resolved := #[]
  callSites := []
  init := .initialized
  statics := none
  mirror := none

def pool0 : Array CpInfo := pool [(5, u "<init>"), (0, u "()V"), (1, .class_ 10), (1, u "java/lang/Object"), (0, u "getClass"), (0, u "()Ljava/lang/Class;")] 111

def k0c0 : Code := { maxStack := 0, maxLocals := 1, code := object_method_1_code, exceptionTable := #[], attributes := #[] }
def k0m0 : Method := { name := "<init>", desc := "()V", sig := { parameters := [], returnType := none }, accessFlags := 1, code := some k0c0 }
def k0m1 : Method := { name := "getClass", desc := "()Ljava/lang/Class;", sig := { parameters := [], returnType := some (.object "java/lang/Class") }, accessFlags := 273, code := none }
/-- java/lang/Object -/
def k0 : Class := { plain "java/lang/Object" none with
  accessFlags := 33
  interfaces := #[]
  cf := some (fileOf pool0 8 #[] #[{ accessFlags := 1, nameIndex := 5, descriptorIndex := 6, attributes := #[] }, { accessFlags := 273, nameIndex := 11, descriptorIndex := 12, attributes := #[] }] 33 0 #[] #[])
  fields := #[]
  methods := #[k0m0, k0m1]
  instanceTypes := #[]
  staticTypes := #[]
  resolved := Array.replicate 124 none
  statics := none }

def pool1 : Array CpInfo := pool [(2, .class_ 4), (0, .nameAndType 5 6), (0, u "java/lang/Object"), (0, u "<init>"), (0, u "()V"), (0, .class_ 8), (0, u "java/lang/String"), (0, .methodref 7 10), (0, .nameAndType 5 11), (0, u "([C)V"), (0, .string 13), (0, u "RTN"), (0, .methodref 15 16), (0, .class_ 17), (0, .nameAndType 18 19), (0, u "com/example/packwright/packwright/io/BuildAssemblerRoutineOfHeaderPinLaw"), (0, u "draw"), (0, u "(II)Ljava/lang/String;"), (0, .class_ 21), (0, u "java/util/ArrayList"), (0, .methodref 20 3), (0, .methodref 20 24), (0, .nameAndType 25 26), (0, u "add"), (0, u "(Ljava/lang/Object;)Z"), (0, .class_ 28), (0, u "com/example/packwright/packwright/model/Node"), (0, .string 30), (0, u "x"), (0, .string 32), (0, u "v"), (0, .methodref 27 34), (0, .nameAndType 5 35), (0, u "(Ljava/lang/String;Ljava/util/List;Ljava/lang/String;)V"), (0, .methodref 37 38), (0, .class_ 39), (0, .nameAndType 40 41), (0, u "com/example/packwright/packwright/io/BuildAssembler"), (0, u "routineOfHeader"), (0, u "(Lcom/example/packwright/packwright/model/Node;)Ljava/lang/String;"), (0, .methodref 7 43), (0, .nameAndType 44 45), (0, u "length"), (0, u "()I"), (0, .methodref 7 47), (0, .nameAndType 48 49), (0, u "charAt"), (0, u "(I)C"), (0, .methodref 7 51), (0, .nameAndType 52 26), (0, u "equals"), (3, u "law"), (0, u "(IIIIII)Z")] 2

def k1m0 : Method := { name := "<init>", desc := "()V", sig := { parameters := [], returnType := none }, accessFlags := 1, code := none }
def k1c1 : Code := { maxStack := 6, maxLocals := 6, code := method_2_code, exceptionTable := #[], attributes := #[] }
def k1m1 : Method := { name := "draw", desc := "(II)Ljava/lang/String;", sig := { parameters := [.int, .int], returnType := some (.object "java/lang/String") }, accessFlags := 10, code := some k1c1 }
def k1c2 : Code := { maxStack := 7, maxLocals := 16, code := code, exceptionTable := #[], attributes := #[] }
def k1m2 : Method := { name := "law", desc := "(IIIIII)Z", sig := { parameters := [.int, .int, .int, .int, .int, .int], returnType := some .boolean }, accessFlags := 9, code := some k1c2 }
/-- com/example/packwright/packwright/io/BuildAssemblerRoutineOfHeaderPinLaw -/
def k1 : Class := { plain "com/example/packwright/packwright/io/BuildAssemblerRoutineOfHeaderPinLaw" (some 0) with
  accessFlags := 49
  interfaces := #[]
  cf := some (fileOf pool1 15 #[] #[{ accessFlags := 1, nameIndex := 5, descriptorIndex := 6, attributes := #[] }, { accessFlags := 10, nameIndex := 18, descriptorIndex := 19, attributes := #[] }, { accessFlags := 9, nameIndex := 56, descriptorIndex := 57, attributes := #[] }] 49 2 #[] #[])
  fields := #[]
  methods := #[k1m0, k1m1, k1m2]
  instanceTypes := #[]
  staticTypes := #[]
  resolved := Array.replicate 60 none
  statics := none }

def pool2 : Array CpInfo := pool [(1, .class_ 2), (0, u "java/io/Serializable"), (0, .class_ 4), (0, u "java/lang/Object")] 2

/-- java/io/Serializable -/
def k2 : Class := { plain "java/io/Serializable" (some 0) with
  accessFlags := 1537
  interfaces := #[]
  cf := some (fileOf pool2 1 #[] #[] 1537 3 #[] #[])
  fields := #[]
  methods := #[]
  instanceTypes := #[]
  staticTypes := #[]
  resolved := Array.replicate 7 none
  statics := none }

def pool3 : Array CpInfo := pool [(1, .class_ 2), (0, u "java/lang/Comparable"), (0, .class_ 4), (0, u "java/lang/Object")] 7

/-- java/lang/Comparable -/
def k3 : Class := { plain "java/lang/Comparable" (some 0) with
  accessFlags := 1537
  interfaces := #[]
  cf := some (fileOf pool3 1 #[] #[] 1537 3 #[] #[])
  fields := #[]
  methods := #[]
  instanceTypes := #[]
  staticTypes := #[]
  resolved := Array.replicate 12 none
  statics := none }

def pool4 : Array CpInfo := pool [(2, .class_ 4), (1, u "java/lang/CharSequence"), (42, .class_ 48), (0, u "java/lang/CharSequence$1CodePointIterator"), (10, .class_ 60), (0, u "java/lang/CharSequence$1CharIterator"), (5, .class_ 67), (0, u "java/lang/Object")] 63

/-- java/lang/CharSequence -/
def k4 : Class := { plain "java/lang/CharSequence" (some 0) with
  accessFlags := 1537
  interfaces := #[]
  cf := some (fileOf pool4 2 #[.nestMembers #[47, 59]] #[] 1537 66 #[] #[])
  fields := #[]
  methods := #[]
  instanceTypes := #[]
  staticTypes := #[]
  resolved := Array.replicate 131 none
  statics := none }

def pool5 : Array CpInfo := pool [(1, .class_ 2), (0, u "java/lang/constant/Constable"), (0, .class_ 4), (0, u "java/lang/Object")] 6

/-- java/lang/constant/Constable -/
def k5 : Class := { plain "java/lang/constant/Constable" (some 0) with
  accessFlags := 1537
  interfaces := #[]
  cf := some (fileOf pool5 1 #[] #[] 1537 3 #[] #[])
  fields := #[]
  methods := #[]
  instanceTypes := #[]
  staticTypes := #[]
  resolved := Array.replicate 11 none
  statics := none }

def pool6 : Array CpInfo := pool [(1, .class_ 2), (0, u "java/lang/constant/ConstantDesc"), (0, .class_ 4), (0, u "java/lang/Object")] 32

/-- java/lang/constant/ConstantDesc -/
def k6 : Class := { plain "java/lang/constant/ConstantDesc" (some 0) with
  accessFlags := 1537
  interfaces := #[]
  cf := some (fileOf pool6 1 #[] #[] 1537 3 #[] #[])
  fields := #[]
  methods := #[]
  instanceTypes := #[]
  staticTypes := #[]
  resolved := Array.replicate 37 none
  statics := none }

def pool7 : Array CpInfo := pool [(1, .methodref 2 3), (0, .class_ 4), (0, .nameAndType 5 6), (0, u "java/lang/Object"), (0, u "<init>"), (0, u "()V"), (0, .string 8), (0, u ""), (0, .fieldref 10 11), (0, .class_ 12), (0, .nameAndType 13 14), (0, u "java/lang/String"), (0, u "value"), (0, u "[B"), (0, .fieldref 10 16), (0, .nameAndType 17 18), (0, u "coder"), (0, u "B"), (2, u "hash"), (0, u "I"), (2, u "hashIsZero"), (0, u "Z"), (0, .methodref 10 28), (0, .nameAndType 5 29), (0, u "([CIILjava/lang/Void;)V"), (8, .fieldref 10 39), (0, .nameAndType 40 26), (0, u "COMPACT_STRINGS"), (1, .class_ 44), (1, u "java/lang/StringUTF16"), (0, u "compress"), (1, .methodref 42 48), (0, .nameAndType 49 50), (0, u "coderFromArrayLen"), (0, u "([BI)B"), (56, .class_ 109), (1, u "java/lang/StringLatin1"), (32, u "()Z"), (34, .methodref 42 178), (0, .nameAndType 45 179), (0, u "([CII)[B"), (154, u "()I"), (0, .methodref 10 336), (0, .nameAndType 17 337), (0, u "()B"), (25, u "([BI)C"), (27, u "(II)V"), (35, u "(I)C"), (64, .methodref 10 493), (0, .nameAndType 494 142), (0, u "isLatin1"), (0, .methodref 107 496), (0, .nameAndType 497 363), (0, u "charAt"), (3, u "checkIndex"), (5, u "length"), (33, .methodref 107 542), (0, .nameAndType 543 544), (0, u "equals"), (0, u "([B[B)Z"), (28, u "(Ljava/lang/Object;)Z"), (1, .class_ 576), (0, u "java/lang/CharSequence"), (22, u "CASE_INSENSITIVE_ORDER"), (0, u "Ljava/util/Comparator;"), (409, u "([C)V"), (42, .fieldref 1054 1055), (0, .class_ 1056), (0, .nameAndType 1057 1058), (0, u "jdk/internal/util/Preconditions"), (0, u "SIOOBE_FORMATTER"), (0, u "Ljava/util/function/BiFunction;"), (0, .methodref 1054 1060), (0, .nameAndType 501 1061), (0, u "(IILjava/util/function/BiFunction;)I"), (39, u "serialPersistentFields"), (0, u "[Ljava/io/ObjectStreamField;"), (0, .class_ 1104), (0, u "java/lang/String$CaseInsensitiveComparator"), (1, .class_ 1107), (0, u "java/io/Serializable"), (0, .class_ 1109), (0, u "java/lang/Comparable"), (0, .class_ 1111), (0, u "java/lang/constant/Constable"), (0, .class_ 1113), (0, u "java/lang/constant/ConstantDesc"), (2, u "serialVersionUID"), (0, u "J"), (3, u "REPL"), (0, u "C"), (2, u "LATIN1"), (1, u "UTF16")] 323

def k7m0 : Method := { name := "<init>", desc := "()V", sig := { parameters := [], returnType := none }, accessFlags := 1, code := none }
def k7c1 : Code := { maxStack := 5, maxLocals := 2, code := jdk_42_method_3_code, exceptionTable := #[], attributes := #[] }
def k7m1 : Method := { name := "<init>", desc := "([C)V", sig := { parameters := [(.array .char)], returnType := none }, accessFlags := 1, code := some k7c1 }
def k7c2 : Code := { maxStack := 2, maxLocals := 1, code := jdk_42_method_54_code, exceptionTable := #[], attributes := #[] }
def k7m2 : Method := { name := "length", desc := "()I", sig := { parameters := [], returnType := some .int }, accessFlags := 1, code := some k7c2 }
def k7c3 : Code := { maxStack := 2, maxLocals := 2, code := jdk_42_method_56_code, exceptionTable := #[], attributes := #[] }
def k7m3 : Method := { name := "charAt", desc := "(I)C", sig := { parameters := [.int], returnType := some .char }, accessFlags := 1, code := some k7c3 }
def k7c4 : Code := { maxStack := 2, maxLocals := 3, code := jdk_42_method_66_code, exceptionTable := #[], attributes := #[] }
def k7m4 : Method := { name := "equals", desc := "(Ljava/lang/Object;)Z", sig := { parameters := [(.object "java/lang/Object")], returnType := some .boolean }, accessFlags := 1, code := some k7c4 }
def k7c5 : Code := { maxStack := 4, maxLocals := 6, code := jdk_42_method_149_code, exceptionTable := #[], attributes := #[] }
def k7m5 : Method := { name := "<init>", desc := "([CIILjava/lang/Void;)V", sig := { parameters := [(.array .char), .int, .int, (.object "java/lang/Void")], returnType := none }, accessFlags := 2, code := some k7c5 }
def k7c6 : Code := { maxStack := 1, maxLocals := 1, code := jdk_42_method_152_code, exceptionTable := #[], attributes := #[] }
def k7m6 : Method := { name := "coder", desc := "()B", sig := { parameters := [], returnType := some .byte }, accessFlags := 0, code := some k7c6 }
def k7c7 : Code := { maxStack := 1, maxLocals := 1, code := jdk_42_method_154_code, exceptionTable := #[], attributes := #[] }
def k7m7 : Method := { name := "isLatin1", desc := "()Z", sig := { parameters := [], returnType := some .boolean }, accessFlags := 0, code := some k7c7 }
def k7c8 : Code := { maxStack := 3, maxLocals := 2, code := jdk_42_method_155_code, exceptionTable := #[], attributes := #[] }
def k7m8 : Method := { name := "checkIndex", desc := "(II)V", sig := { parameters := [.int, .int], returnType := none }, accessFlags := 8, code := some k7c8 }
/-- java/lang/String -/
def k7 : Class := { plain "java/lang/String" (some 0) with
  accessFlags := 49
  interfaces := #[2, 3, 4, 5, 6]
  cf := some (fileOf pool7 10 #[.nestMembers #[1103]] #[{ accessFlags := 1, nameIndex := 5, descriptorIndex := 6, attributes := #[] }, { accessFlags := 1, nameIndex := 5, descriptorIndex := 1010, attributes := #[] }, { accessFlags := 1, nameIndex := 507, descriptorIndex := 334, attributes := #[] }, { accessFlags := 1, nameIndex := 497, descriptorIndex := 427, attributes := #[] }, { accessFlags := 1, nameIndex := 543, descriptorIndex := 573, attributes := #[] }, { accessFlags := 2, nameIndex := 5, descriptorIndex := 29, attributes := #[] }, { accessFlags := 0, nameIndex := 17, descriptorIndex := 337, attributes := #[] }, { accessFlags := 0, nameIndex := 494, descriptorIndex := 142, attributes := #[] }, { accessFlags := 8, nameIndex := 501, descriptorIndex := 391, attributes := #[] }] 49 2 #[1106, 1108, 575, 1110, 1112] #[{ accessFlags := 18, nameIndex := 13, descriptorIndex := 14, attributes := #[] }, { accessFlags := 18, nameIndex := 17, descriptorIndex := 18, attributes := #[] }, { accessFlags := 2, nameIndex := 21, descriptorIndex := 22, attributes := #[] }, { accessFlags := 2, nameIndex := 25, descriptorIndex := 26, attributes := #[] }, { accessFlags := 26, nameIndex := 1116, descriptorIndex := 1117, attributes := #[] }, { accessFlags := 24, nameIndex := 40, descriptorIndex := 26, attributes := #[] }, { accessFlags := 26, nameIndex := 1101, descriptorIndex := 1102, attributes := #[] }, { accessFlags := 26, nameIndex := 1121, descriptorIndex := 1122, attributes := #[] }, { accessFlags := 25, nameIndex := 599, descriptorIndex := 600, attributes := #[] }, { accessFlags := 24, nameIndex := 1125, descriptorIndex := 18, attributes := #[] }, { accessFlags := 24, nameIndex := 1127, descriptorIndex := 18, attributes := #[] }])
  fields := #[{ name := "value", type := (.array .byte), accessFlags := 18, slot := 0, constantValue := 0 }, { name := "coder", type := .byte, accessFlags := 18, slot := 1, constantValue := 0 }, { name := "hash", type := .int, accessFlags := 2, slot := 2, constantValue := 0 }, { name := "hashIsZero", type := .boolean, accessFlags := 2, slot := 3, constantValue := 0 }, { name := "serialVersionUID", type := .long, accessFlags := 26, slot := 0, constantValue := 0 }, { name := "COMPACT_STRINGS", type := .boolean, accessFlags := 24, slot := 1, constantValue := 0 }, { name := "serialPersistentFields", type := (.array (.object "java/io/ObjectStreamField")), accessFlags := 26, slot := 2, constantValue := 0 }, { name := "REPL", type := .char, accessFlags := 26, slot := 3, constantValue := 0 }, { name := "CASE_INSENSITIVE_ORDER", type := (.object "java/util/Comparator"), accessFlags := 25, slot := 4, constantValue := 0 }, { name := "LATIN1", type := .byte, accessFlags := 24, slot := 5, constantValue := 0 }, { name := "UTF16", type := .byte, accessFlags := 24, slot := 6, constantValue := 0 }]
  methods := #[k7m0, k7m1, k7m2, k7m3, k7m4, k7m5, k7m6, k7m7, k7m8]
  instanceTypes := #[(.array .byte), .byte, .int, .boolean]
  staticTypes := #[.long, .boolean, (.array (.object "java/io/ObjectStreamField")), .char, (.object "java/util/Comparator"), .byte, .byte]
  resolved := Array.replicate 1451 none
  statics := some 0 }

def pool8 : Array CpInfo := pool [(6, .class_ 8), (1, u "java/lang/Object"), (0, u "<init>"), (0, u "()V"), (1, .class_ 14), (1, u "java/lang/StringUTF16"), (31, u "$assertionsDisabled"), (0, u "Z"), (13, u "HI_BYTE_SHIFT"), (0, u "I"), (2, u "LO_BYTE_SHIFT"), (49, .methodref 12 116), (0, .nameAndType 117 118), (0, u "compress"), (0, u "([CI[BII)I"), (3, u "([CII)[B"), (138, u "coderFromArrayLen"), (0, u "([BI)B"), (106, .class_ 371), (1, u "java/lang/StringUTF16$LinesSpliterator"), (58, u "MAX_LENGTH"), (196, .class_ 628), (0, u "java/lang/StringUTF16$CodePointsSpliterator"), (0, .class_ 630), (0, u "java/lang/StringUTF16$CharsSpliterator")] 4

def k8m0 : Method := { name := "<init>", desc := "()V", sig := { parameters := [], returnType := none }, accessFlags := 0, code := none }
def k8c1 : Code := { maxStack := 2, maxLocals := 2, code := jdk_52_method_15_code, exceptionTable := #[], attributes := #[] }
def k8m1 : Method := { name := "coderFromArrayLen", desc := "([BI)B", sig := { parameters := [(.array .byte), .int], returnType := some .byte }, accessFlags := 8, code := some k8c1 }
def k8c2 : Code := { maxStack := 5, maxLocals := 6, code := jdk_52_method_16_code, exceptionTable := #[], attributes := #[] }
def k8m2 : Method := { name := "compress", desc := "([CII)[B", sig := { parameters := [(.array .char), .int, .int], returnType := some (.array .byte) }, accessFlags := 9, code := some k8c2 }
def k8c3 : Code := { maxStack := 3, maxLocals := 7, code := jdk_52_method_21_code, exceptionTable := #[], attributes := #[] }
def k8m3 : Method := { name := "compress", desc := "([CI[BII)I", sig := { parameters := [(.array .char), .int, (.array .byte), .int, .int], returnType := some .int }, accessFlags := 9, code := some k8c3 }
/-- java/lang/StringUTF16 -/
def k8 : Class := { plain "java/lang/StringUTF16" (some 0) with
  accessFlags := 48
  interfaces := #[]
  cf := some (fileOf pool8 12 #[.nestMembers #[627, 629, 369]] #[{ accessFlags := 0, nameIndex := 9, descriptorIndex := 10, attributes := #[] }, { accessFlags := 8, nameIndex := 261, descriptorIndex := 262, attributes := #[] }, { accessFlags := 9, nameIndex := 117, descriptorIndex := 122, attributes := #[] }, { accessFlags := 9, nameIndex := 117, descriptorIndex := 118, attributes := #[] }] 48 6 #[] #[{ accessFlags := 26, nameIndex := 61, descriptorIndex := 62, attributes := #[] }, { accessFlags := 26, nameIndex := 65, descriptorIndex := 62, attributes := #[] }, { accessFlags := 24, nameIndex := 430, descriptorIndex := 62, attributes := #[] }, { accessFlags := 4120, nameIndex := 46, descriptorIndex := 47, attributes := #[] }])
  fields := #[{ name := "HI_BYTE_SHIFT", type := .int, accessFlags := 26, slot := 0, constantValue := 0 }, { name := "LO_BYTE_SHIFT", type := .int, accessFlags := 26, slot := 1, constantValue := 0 }, { name := "MAX_LENGTH", type := .int, accessFlags := 24, slot := 2, constantValue := 0 }, { name := "$assertionsDisabled", type := .boolean, accessFlags := 4120, slot := 3, constantValue := 0 }]
  methods := #[k8m0, k8m1, k8m2, k8m3]
  instanceTypes := #[]
  staticTypes := #[.int, .int, .int, .boolean]
  resolved := Array.replicate 635 none
  statics := none }

def pool9 : Array CpInfo := pool [(8, .class_ 10), (1, u "java/lang/Iterable"), (24, .class_ 36), (0, u "java/lang/Object")] 25

/-- java/lang/Iterable -/
def k9 : Class := { plain "java/lang/Iterable" (some 0) with
  accessFlags := 1537
  interfaces := #[]
  cf := some (fileOf pool9 8 #[] #[] 1537 35 #[] #[])
  fields := #[]
  methods := #[]
  instanceTypes := #[]
  staticTypes := #[]
  resolved := Array.replicate 62 none
  statics := none }

def pool10 : Array CpInfo := pool [(10, .class_ 12), (1, u "java/util/Collection"), (0, u "toArray"), (16, u "()Z"), (29, .class_ 61), (0, u "java/lang/Object"), (0, .class_ 63), (0, u "java/lang/Iterable"), (2, u "isEmpty"), (3, u "()[Ljava/lang/Object;")] 44

def k10m0 : Method := { name := "isEmpty", desc := "()Z", sig := { parameters := [], returnType := some .boolean }, accessFlags := 1025, code := none }
def k10m1 : Method := { name := "toArray", desc := "()[Ljava/lang/Object;", sig := { parameters := [], returnType := some (.array (.object "java/lang/Object")) }, accessFlags := 1025, code := none }
/-- java/util/Collection -/
def k10 : Class := { plain "java/util/Collection" (some 0) with
  accessFlags := 1537
  interfaces := #[9]
  cf := some (fileOf pool10 10 #[] #[{ accessFlags := 1025, nameIndex := 66, descriptorIndex := 30, attributes := #[] }, { accessFlags := 1025, nameIndex := 13, descriptorIndex := 70, attributes := #[] }] 1537 60 #[62] #[])
  fields := #[]
  methods := #[k10m0, k10m1]
  instanceTypes := #[]
  staticTypes := #[]
  resolved := Array.replicate 115 none
  statics := none }

def pool11 : Array CpInfo := pool [(1, .methodref 2 3), (0, .class_ 4), (0, .nameAndType 5 6), (0, u "java/lang/Object"), (0, u "<init>"), (0, u "()V"), (1, .class_ 10), (1, u "java/util/AbstractCollection"), (66, .class_ 78), (0, u "java/util/Collection")] 81

def k11c0 : Code := { maxStack := 1, maxLocals := 1, code := jdk_22_method_1_code, exceptionTable := #[], attributes := #[] }
def k11m0 : Method := { name := "<init>", desc := "()V", sig := { parameters := [], returnType := none }, accessFlags := 4, code := some k11c0 }
/-- java/util/AbstractCollection -/
def k11 : Class := { plain "java/util/AbstractCollection" (some 0) with
  accessFlags := 1057
  interfaces := #[10]
  cf := some (fileOf pool11 8 #[] #[{ accessFlags := 4, nameIndex := 5, descriptorIndex := 6, attributes := #[] }] 1057 2 #[77] #[])
  fields := #[]
  methods := #[k11m0]
  instanceTypes := #[]
  staticTypes := #[]
  resolved := Array.replicate 160 none
  statics := none }

def pool12 : Array CpInfo := pool [(8, .class_ 10), (1, u "java/util/SequencedCollection"), (15, .class_ 27), (0, u "java/lang/Object"), (0, .class_ 29), (0, u "java/util/Collection")] 27

/-- java/util/SequencedCollection -/
def k12 : Class := { plain "java/util/SequencedCollection" (some 0) with
  accessFlags := 1537
  interfaces := #[10]
  cf := some (fileOf pool12 8 #[] #[] 1537 26 #[28] #[])
  fields := #[]
  methods := #[]
  instanceTypes := #[]
  staticTypes := #[]
  resolved := Array.replicate 57 none
  statics := none }

def pool13 : Array CpInfo := pool [(8, .class_ 10), (1, u "java/util/List"), (20, u "(Ljava/lang/Object;)V"), (16, u "<init>"), (26, u "get"), (0, u "(I)Ljava/lang/Object;"), (2, u "size"), (0, u "()I"), (7, u "of"), (1, .fieldref 91 92), (0, .class_ 93), (0, .nameAndType 94 95), (0, u "java/util/ImmutableCollections"), (0, u "EMPTY_LIST"), (0, u "Ljava/util/ImmutableCollections$ListN;"), (0, .class_ 97), (0, u "java/util/ImmutableCollections$List12"), (0, .methodref 96 99), (0, .nameAndType 48 31), (0, .methodref 96 101), (0, .nameAndType 48 102), (0, u "(Ljava/lang/Object;Ljava/lang/Object;)V"), (0, .class_ 104), (0, u "java/lang/Object"), (3, u "([Ljava/lang/Object;)Ljava/util/List;"), (0, .methodref 91 110), (0, .nameAndType 111 108), (0, u "listFromArray"), (0, .methodref 91 113), (0, .nameAndType 114 115), (0, u "listCopy"), (0, u "(Ljava/util/Collection;)Ljava/util/List;"), (3, u "()Ljava/util/List;"), (0, .class_ 121), (0, u "java/util/SequencedCollection"), (112, u "copyOf")] 16

def k13m0 : Method := { name := "size", desc := "()I", sig := { parameters := [], returnType := some .int }, accessFlags := 1025, code := none }
def k13m1 : Method := { name := "get", desc := "(I)Ljava/lang/Object;", sig := { parameters := [.int], returnType := some (.object "java/lang/Object") }, accessFlags := 1025, code := none }
def k13c2 : Code := { maxStack := 1, maxLocals := 0, code := jdk_40_method_36_code, exceptionTable := #[], attributes := #[] }
def k13m2 : Method := { name := "of", desc := "()Ljava/util/List;", sig := { parameters := [], returnType := some (.object "java/util/List") }, accessFlags := 9, code := some k13c2 }
def k13c3 : Code := { maxStack := 5, maxLocals := 2, code := jdk_40_method_47_code, exceptionTable := #[], attributes := #[] }
def k13m3 : Method := { name := "of", desc := "([Ljava/lang/Object;)Ljava/util/List;", sig := { parameters := [(.array (.object "java/lang/Object"))], returnType := some (.object "java/util/List") }, accessFlags := 137, code := some k13c3 }
def k13c4 : Code := { maxStack := 1, maxLocals := 1, code := jdk_40_method_48_code, exceptionTable := #[], attributes := #[] }
def k13m4 : Method := { name := "copyOf", desc := "(Ljava/util/Collection;)Ljava/util/List;", sig := { parameters := [(.object "java/util/Collection")], returnType := some (.object "java/util/List") }, accessFlags := 9, code := some k13c4 }
/-- java/util/List -/
def k13 : Class := { plain "java/util/List" (some 0) with
  accessFlags := 1537
  interfaces := #[12]
  cf := some (fileOf pool13 8 #[] #[{ accessFlags := 1025, nameIndex := 79, descriptorIndex := 80, attributes := #[] }, { accessFlags := 1025, nameIndex := 75, descriptorIndex := 76, attributes := #[] }, { accessFlags := 9, nameIndex := 88, descriptorIndex := 119, attributes := #[] }, { accessFlags := 137, nameIndex := 88, descriptorIndex := 108, attributes := #[] }, { accessFlags := 9, nameIndex := 234, descriptorIndex := 115, attributes := #[] }] 1537 103 #[120] #[])
  fields := #[]
  methods := #[k13m0, k13m1, k13m2, k13m3, k13m4]
  instanceTypes := #[]
  staticTypes := #[]
  resolved := Array.replicate 251 none
  statics := none }

def pool14 : Array CpInfo := pool [(1, .methodref 2 3), (0, .class_ 4), (0, .nameAndType 5 6), (0, u "java/util/AbstractCollection"), (0, u "<init>"), (0, u "()V"), (0, .fieldref 8 9), (0, .class_ 10), (0, .nameAndType 11 12), (0, u "java/util/AbstractList"), (0, u "modCount"), (0, u "I"), (64, .class_ 78), (0, u "java/util/AbstractList$Itr"), (3, .class_ 83), (0, u "java/util/AbstractList$ListItr"), (9, .class_ 94), (0, u "java/util/AbstractList$RandomAccessSubList"), (3, .class_ 99), (0, u "java/util/AbstractList$SubList"), (33, .class_ 134), (0, u "java/util/List"), (73, .class_ 209), (0, u "java/util/AbstractList$SubList$1"), (0, .class_ 211), (0, u "java/util/AbstractList$RandomAccessSpliterator")] 6

def k14c0 : Code := { maxStack := 2, maxLocals := 1, code := jdk_39_method_1_code, exceptionTable := #[], attributes := #[] }
def k14m0 : Method := { name := "<init>", desc := "()V", sig := { parameters := [], returnType := none }, accessFlags := 4, code := some k14c0 }
/-- java/util/AbstractList -/
def k14 : Class := { plain "java/util/AbstractList" (some 11) with
  accessFlags := 1057
  interfaces := #[13]
  cf := some (fileOf pool14 8 #[.nestMembers #[93, 98, 208, 210, 82, 77]] #[{ accessFlags := 4, nameIndex := 5, descriptorIndex := 6, attributes := #[] }] 1057 2 #[133] #[{ accessFlags := 132, nameIndex := 11, descriptorIndex := 12, attributes := #[] }])
  fields := #[{ name := "modCount", type := .int, accessFlags := 132, slot := 0, constantValue := 0 }]
  methods := #[k14m0]
  instanceTypes := #[.int]
  staticTypes := #[]
  resolved := Array.replicate 218 none
  statics := none }

def pool15 : Array CpInfo := pool [(1, .class_ 2), (0, u "java/util/RandomAccess"), (0, .class_ 4), (0, u "java/lang/Object")] 2

/-- java/util/RandomAccess -/
def k15 : Class := { plain "java/util/RandomAccess" (some 0) with
  accessFlags := 1537
  interfaces := #[]
  cf := some (fileOf pool15 1 #[] #[] 1537 3 #[] #[])
  fields := #[]
  methods := #[]
  instanceTypes := #[]
  staticTypes := #[]
  resolved := Array.replicate 7 none
  statics := none }

def pool16 : Array CpInfo := pool [(1, .class_ 2), (0, u "java/lang/Cloneable"), (0, .class_ 4), (0, u "java/lang/Object")] 2

/-- java/lang/Cloneable -/
def k16 : Class := { plain "java/lang/Cloneable" (some 0) with
  accessFlags := 1537
  interfaces := #[]
  cf := some (fileOf pool16 1 #[] #[] 1537 3 #[] #[])
  fields := #[]
  methods := #[]
  instanceTypes := #[]
  staticTypes := #[]
  resolved := Array.replicate 7 none
  statics := none }

def pool17 : Array CpInfo := pool [(1, .methodref 2 3), (0, .class_ 4), (0, .nameAndType 5 6), (0, u "java/util/AbstractList"), (0, u "<init>"), (0, u "()V"), (0, .class_ 8), (0, u "java/lang/Object"), (0, .fieldref 10 11), (0, .class_ 12), (0, .nameAndType 13 14), (0, u "java/util/ArrayList"), (0, u "elementData"), (0, u "[Ljava/lang/Object;"), (2, u "EMPTY_ELEMENTDATA"), (21, .fieldref 10 40), (0, .nameAndType 41 14), (0, u "DEFAULTCAPACITY_EMPTY_ELEMENTDATA"), (4, u "toArray"), (0, u "()[Ljava/lang/Object;"), (0, .fieldref 10 49), (0, .nameAndType 50 51), (0, u "size"), (0, u "I"), (6, .class_ 60), (1, u "java/util/Arrays"), (0, u "copyOf"), (1, .fieldref 10 64), (0, .nameAndType 65 51), (0, u "modCount"), (0, .methodref 58 67), (0, .nameAndType 61 68), (0, u "([Ljava/lang/Object;I)[Ljava/lang/Object;"), (0, .methodref 10 70), (0, .nameAndType 71 72), (0, u "grow"), (0, u "(I)[Ljava/lang/Object;"), (6, .methodref 80 81), (0, .class_ 82), (0, .nameAndType 83 84), (0, u "java/lang/Math"), (0, u "max"), (0, u "(II)I"), (11, u "(Ljava/lang/Object;)Z"), (32, .methodref 10 130), (0, .nameAndType 71 47), (0, .methodref 10 132), (0, .nameAndType 133 134), (0, u "add"), (0, u "(Ljava/lang/Object;[Ljava/lang/Object;I)V"), (13, .class_ 149), (0, u "java/util/List"), (23, u "()Z"), (88, .class_ 263), (0, u "java/util/ArrayList$ListItr"), (3, .class_ 268), (0, u "java/util/ArrayList$Itr"), (7, .class_ 277), (0, u "java/util/ArrayList$SubList"), (12, .class_ 291), (0, u "java/util/ArrayList$ArrayListSpliterator"), (37, .class_ 330), (0, u "java/util/RandomAccess"), (0, .class_ 332), (0, u "java/lang/Cloneable"), (0, .class_ 334), (0, u "java/io/Serializable"), (0, u "serialVersionUID"), (0, u "J"), (3, u "DEFAULT_CAPACITY"), (22, u "isEmpty"), (136, .class_ 501), (0, u "java/util/ArrayList$SubList$2"), (0, .class_ 503), (0, u "java/util/ArrayList$SubList$1")] 5

def k17c0 : Code := { maxStack := 2, maxLocals := 1, code := jdk_38_method_2_code, exceptionTable := #[], attributes := #[] }
def k17m0 : Method := { name := "<init>", desc := "()V", sig := { parameters := [], returnType := none }, accessFlags := 1, code := some k17c0 }
def k17c1 : Code := { maxStack := 4, maxLocals := 4, code := jdk_38_method_6_code, exceptionTable := #[], attributes := #[] }
def k17m1 : Method := { name := "grow", desc := "(I)[Ljava/lang/Object;", sig := { parameters := [.int], returnType := some (.array (.object "java/lang/Object")) }, accessFlags := 2, code := some k17c1 }
def k17c2 : Code := { maxStack := 3, maxLocals := 1, code := jdk_38_method_7_code, exceptionTable := #[], attributes := #[] }
def k17m2 : Method := { name := "grow", desc := "()[Ljava/lang/Object;", sig := { parameters := [], returnType := some (.array (.object "java/lang/Object")) }, accessFlags := 2, code := some k17c2 }
def k17c3 : Code := { maxStack := 1, maxLocals := 1, code := jdk_38_method_9_code, exceptionTable := #[], attributes := #[] }
def k17m3 : Method := { name := "isEmpty", desc := "()Z", sig := { parameters := [], returnType := some .boolean }, accessFlags := 1, code := some k17c3 }
def k17c4 : Code := { maxStack := 2, maxLocals := 1, code := jdk_38_method_16_code, exceptionTable := #[], attributes := #[] }
def k17m4 : Method := { name := "toArray", desc := "()[Ljava/lang/Object;", sig := { parameters := [], returnType := some (.array (.object "java/lang/Object")) }, accessFlags := 1, code := some k17c4 }
def k17c5 : Code := { maxStack := 3, maxLocals := 4, code := jdk_38_method_24_code, exceptionTable := #[], attributes := #[] }
def k17m5 : Method := { name := "add", desc := "(Ljava/lang/Object;[Ljava/lang/Object;I)V", sig := { parameters := [(.object "java/lang/Object"), (.array (.object "java/lang/Object")), .int], returnType := none }, accessFlags := 2, code := some k17c5 }
def k17c6 : Code := { maxStack := 4, maxLocals := 2, code := jdk_38_method_25_code, exceptionTable := #[], attributes := #[] }
def k17m6 : Method := { name := "add", desc := "(Ljava/lang/Object;)Z", sig := { parameters := [(.object "java/lang/Object")], returnType := some .boolean }, accessFlags := 1, code := some k17c6 }
/-- java/util/ArrayList -/
def k17 : Class := { plain "java/util/ArrayList" (some 14) with
  accessFlags := 33
  interfaces := #[13, 15, 16, 2]
  cf := some (fileOf pool17 10 #[.nestMembers #[290, 276, 500, 502, 262, 267]] #[{ accessFlags := 1, nameIndex := 5, descriptorIndex := 6, attributes := #[] }, { accessFlags := 2, nameIndex := 71, descriptorIndex := 72, attributes := #[] }, { accessFlags := 2, nameIndex := 71, descriptorIndex := 47, attributes := #[] }, { accessFlags := 1, nameIndex := 363, descriptorIndex := 173, attributes := #[] }, { accessFlags := 1, nameIndex := 46, descriptorIndex := 47, attributes := #[] }, { accessFlags := 2, nameIndex := 133, descriptorIndex := 134, attributes := #[] }, { accessFlags := 1, nameIndex := 133, descriptorIndex := 96, attributes := #[] }] 33 2 #[148, 329, 331, 333] #[{ accessFlags := 26, nameIndex := 335, descriptorIndex := 336, attributes := #[] }, { accessFlags := 26, nameIndex := 340, descriptorIndex := 51, attributes := #[] }, { accessFlags := 26, nameIndex := 17, descriptorIndex := 14, attributes := #[] }, { accessFlags := 26, nameIndex := 41, descriptorIndex := 14, attributes := #[] }, { accessFlags := 128, nameIndex := 13, descriptorIndex := 14, attributes := #[] }, { accessFlags := 2, nameIndex := 50, descriptorIndex := 51, attributes := #[] }])
  fields := #[{ name := "serialVersionUID", type := .long, accessFlags := 26, slot := 0, constantValue := 0 }, { name := "DEFAULT_CAPACITY", type := .int, accessFlags := 26, slot := 1, constantValue := 0 }, { name := "EMPTY_ELEMENTDATA", type := (.array (.object "java/lang/Object")), accessFlags := 26, slot := 2, constantValue := 0 }, { name := "DEFAULTCAPACITY_EMPTY_ELEMENTDATA", type := (.array (.object "java/lang/Object")), accessFlags := 26, slot := 3, constantValue := 0 }, { name := "elementData", type := (.array (.object "java/lang/Object")), accessFlags := 128, slot := 1, constantValue := 0 }, { name := "size", type := .int, accessFlags := 2, slot := 2, constantValue := 0 }]
  methods := #[k17m0, k17m1, k17m2, k17m3, k17m4, k17m5, k17m6]
  instanceTypes := #[.int, (.array (.object "java/lang/Object")), .int]
  staticTypes := #[.long, .int, (.array (.object "java/lang/Object")), (.array (.object "java/lang/Object"))]
  resolved := Array.replicate 509 none
  statics := some 1 }

def pool18 : Array CpInfo := pool [(1, .methodref 2 3), (0, .class_ 4), (0, .nameAndType 5 6), (0, u "java/lang/Object"), (0, u "<init>"), (0, u "()V"), (0, .class_ 8), (0, u "java/lang/Record")] 13

def k18c0 : Code := { maxStack := 1, maxLocals := 1, code := jdk_30_method_1_code, exceptionTable := #[], attributes := #[] }
def k18m0 : Method := { name := "<init>", desc := "()V", sig := { parameters := [], returnType := none }, accessFlags := 4, code := some k18c0 }
/-- java/lang/Record -/
def k18 : Class := { plain "java/lang/Record" (some 0) with
  accessFlags := 1057
  interfaces := #[]
  cf := some (fileOf pool18 7 #[] #[{ accessFlags := 4, nameIndex := 5, descriptorIndex := 6, attributes := #[] }] 1057 2 #[] #[])
  fields := #[]
  methods := #[k18m0]
  instanceTypes := #[]
  staticTypes := #[]
  resolved := Array.replicate 22 none
  statics := none }

def pool19 : Array CpInfo := pool [(1, .methodref 2 3), (0, .class_ 4), (0, .nameAndType 5 6), (0, u "java/lang/Record"), (0, u "<init>"), (0, u "()V"), (0, .interfaceMethodref 8 9), (0, .class_ 10), (0, .nameAndType 11 12), (0, u "java/util/List"), (0, u "copyOf"), (0, u "(Ljava/util/Collection;)Ljava/util/List;"), (0, .fieldref 14 15), (0, .class_ 16), (0, .nameAndType 17 18), (0, u "com/example/packwright/packwright/model/Node"), (0, u "subscriptLine"), (0, u "Ljava/lang/String;"), (0, .fieldref 14 20), (0, .nameAndType 21 22), (0, u "subscripts"), (0, u "Ljava/util/List;"), (0, .fieldref 14 24), (0, .nameAndType 25 18), (0, u "value"), (2, u "(Ljava/lang/String;Ljava/util/List;Ljava/lang/String;)V"), (23, u "()Ljava/util/List;")] 23

def k19c0 : Code := { maxStack := 2, maxLocals := 4, code := prog_37_method_1_code, exceptionTable := #[], attributes := #[] }
def k19m0 : Method := { name := "<init>", desc := "(Ljava/lang/String;Ljava/util/List;Ljava/lang/String;)V", sig := { parameters := [(.object "java/lang/String"), (.object "java/util/List"), (.object "java/lang/String")], returnType := none }, accessFlags := 1, code := some k19c0 }
def k19c1 : Code := { maxStack := 1, maxLocals := 1, code := prog_37_method_7_code, exceptionTable := #[], attributes := #[] }
def k19m1 : Method := { name := "subscripts", desc := "()Ljava/util/List;", sig := { parameters := [], returnType := some (.object "java/util/List") }, accessFlags := 1, code := some k19c1 }
/-- com/example/packwright/packwright/model/Node -/
def k19 : Class := { plain "com/example/packwright/packwright/model/Node" (some 18) with
  accessFlags := 49
  interfaces := #[]
  cf := some (fileOf pool19 14 #[] #[{ accessFlags := 1, nameIndex := 5, descriptorIndex := 28, attributes := #[] }, { accessFlags := 1, nameIndex := 21, descriptorIndex := 52, attributes := #[] }] 49 2 #[] #[{ accessFlags := 18, nameIndex := 17, descriptorIndex := 18, attributes := #[] }, { accessFlags := 18, nameIndex := 21, descriptorIndex := 22, attributes := #[] }, { accessFlags := 18, nameIndex := 25, descriptorIndex := 18, attributes := #[] }])
  fields := #[{ name := "subscriptLine", type := (.object "java/lang/String"), accessFlags := 18, slot := 0, constantValue := 0 }, { name := "subscripts", type := (.object "java/util/List"), accessFlags := 18, slot := 1, constantValue := 0 }, { name := "value", type := (.object "java/lang/String"), accessFlags := 18, slot := 2, constantValue := 0 }]
  methods := #[k19m0, k19m1]
  instanceTypes := #[(.object "java/lang/String"), (.object "java/util/List"), (.object "java/lang/String")]
  staticTypes := #[]
  resolved := Array.replicate 76 none
  statics := none }

def pool20 : Array CpInfo := pool [(2, .class_ 4), (1, u "java/lang/Object"), (0, u "<init>"), (0, u "()V"), (3, .class_ 11), (0, u "java/util/ImmutableCollections$List12"), (0, .class_ 13), (0, u "java/util/ImmutableCollections$ListN"), (3, u "Z"), (0, .class_ 19), (0, u "java/util/List"), (0, .interfaceMethodref 21 22), (0, .class_ 23), (0, .nameAndType 24 25), (0, u "java/util/Collection"), (0, u "isEmpty"), (0, u "()Z"), (0, .interfaceMethodref 18 27), (0, .nameAndType 28 29), (0, u "of"), (0, u "()Ljava/util/List;"), (0, .interfaceMethodref 21 31), (0, .nameAndType 32 33), (0, u "toArray"), (0, u "()[Ljava/lang/Object;"), (0, .interfaceMethodref 18 35), (0, .nameAndType 28 36), (0, u "([Ljava/lang/Object;)Ljava/util/List;"), (0, .methodref 38 39), (0, .class_ 40), (0, .nameAndType 41 42), (0, u "java/util/Objects"), (0, u "requireNonNull"), (0, u "(Ljava/lang/Object;)Ljava/lang/Object;"), (0, .methodref 12 44), (0, .nameAndType 5 45), (0, u "([Ljava/lang/Object;Z)V"), (1, .class_ 49), (1, u "java/util/ImmutableCollections"), (0, u "$assertionsDisabled"), (5, u "[Ljava/lang/Object;"), (5, u "EMPTY_LIST"), (0, u "Ljava/util/ImmutableCollections$ListN;"), (8, u "EMPTY_LIST_NULLS"), (22, u "SALT32L"), (0, u "J"), (2, u "REVERSE"), (6, u "archivedObjects"), (2, u "EMPTY"), (0, u "Ljava/lang/Object;"), (0, .class_ 112), (0, u "java/util/ImmutableCollections$SetN"), (5, u "EMPTY_SET"), (0, u "Ljava/util/ImmutableCollections$SetN;"), (0, .class_ 121), (0, u "java/util/ImmutableCollections$MapN"), (3, u "EMPTY_MAP"), (0, u "Ljava/util/ImmutableCollections$MapN;"), (4, u "EXPAND_FACTOR"), (0, u "I"), (9, u "listCopy"), (0, u "(Ljava/util/Collection;)Ljava/util/List;"), (7, u "listFromArray"), (17, .class_ 170), (0, u "java/util/ImmutableCollections$MapN$MapNIterator"), (0, .class_ 172), (0, u "java/util/ImmutableCollections$MapN$1"), (0, .class_ 174), (0, u "java/util/ImmutableCollections$Map1"), (0, .class_ 176), (0, u "java/util/ImmutableCollections$AbstractImmutableMap"), (0, .class_ 178), (0, u "java/util/ImmutableCollections$SetN$SetNIterator"), (0, .class_ 180), (0, u "java/util/ImmutableCollections$Set12"), (0, .class_ 182), (0, u "java/util/ImmutableCollections$Set12$1"), (0, .class_ 184), (0, u "java/util/ImmutableCollections$AbstractImmutableSet"), (0, .class_ 186), (0, u "java/util/ImmutableCollections$SubList"), (0, .class_ 188), (0, u "java/util/ImmutableCollections$ListItr"), (0, .class_ 190), (0, u "java/util/ImmutableCollections$AbstractImmutableList"), (0, .class_ 192), (0, u "java/util/ImmutableCollections$AbstractImmutableCollection"), (0, .class_ 194), (0, u "java/util/ImmutableCollections$Access"), (0, .class_ 196), (0, u "java/util/ImmutableCollections$Access$1")] 16

def k20m0 : Method := { name := "<init>", desc := "()V", sig := { parameters := [], returnType := none }, accessFlags := 2, code := none }
def k20c1 : Code := { maxStack := 1, maxLocals := 2, code := jdk_56_method_3_code, exceptionTable := #[], attributes := #[] }
def k20m1 : Method := { name := "listCopy", desc := "(Ljava/util/Collection;)Ljava/util/List;", sig := { parameters := [(.object "java/util/Collection")], returnType := some (.object "java/util/List") }, accessFlags := 8, code := some k20c1 }
def k20c2 : Code := { maxStack := 4, maxLocals := 3, code := jdk_56_method_4_code, exceptionTable := #[], attributes := #[] }
def k20m2 : Method := { name := "listFromArray", desc := "([Ljava/lang/Object;)Ljava/util/List;", sig := { parameters := [(.array (.object "java/lang/Object"))], returnType := some (.object "java/util/List") }, accessFlags := 136, code := some k20c2 }
/-- java/util/ImmutableCollections -/
def k20 : Class := { plain "java/util/ImmutableCollections" (some 0) with
  accessFlags := 32
  interfaces := #[]
  cf := some (fileOf pool20 47 #[.nestMembers #[120, 169, 171, 173, 175, 111, 177, 179, 181, 183, 12, 10, 185, 187, 189, 191, 193, 195]] #[{ accessFlags := 2, nameIndex := 5, descriptorIndex := 6, attributes := #[] }, { accessFlags := 8, nameIndex := 142, descriptorIndex := 143, attributes := #[] }, { accessFlags := 136, nameIndex := 151, descriptorIndex := 36, attributes := #[] }] 32 2 #[] #[{ accessFlags := 26, nameIndex := 95, descriptorIndex := 96, attributes := #[] }, { accessFlags := 26, nameIndex := 99, descriptorIndex := 17, attributes := #[] }, { accessFlags := 10, nameIndex := 106, descriptorIndex := 56, attributes := #[] }, { accessFlags := 26, nameIndex := 109, descriptorIndex := 110, attributes := #[] }, { accessFlags := 24, nameIndex := 62, descriptorIndex := 63, attributes := #[] }, { accessFlags := 24, nameIndex := 72, descriptorIndex := 63, attributes := #[] }, { accessFlags := 24, nameIndex := 118, descriptorIndex := 119, attributes := #[] }, { accessFlags := 24, nameIndex := 125, descriptorIndex := 126, attributes := #[] }, { accessFlags := 24, nameIndex := 131, descriptorIndex := 132, attributes := #[] }, { accessFlags := 4120, nameIndex := 50, descriptorIndex := 17, attributes := #[] }])
  fields := #[{ name := "SALT32L", type := .long, accessFlags := 26, slot := 0, constantValue := 0 }, { name := "REVERSE", type := .boolean, accessFlags := 26, slot := 1, constantValue := 0 }, { name := "archivedObjects", type := (.array (.object "java/lang/Object")), accessFlags := 10, slot := 2, constantValue := 0 }, { name := "EMPTY", type := (.object "java/lang/Object"), accessFlags := 26, slot := 3, constantValue := 0 }, { name := "EMPTY_LIST", type := (.object "java/util/ImmutableCollections$ListN"), accessFlags := 24, slot := 4, constantValue := 0 }, { name := "EMPTY_LIST_NULLS", type := (.object "java/util/ImmutableCollections$ListN"), accessFlags := 24, slot := 5, constantValue := 0 }, { name := "EMPTY_SET", type := (.object "java/util/ImmutableCollections$SetN"), accessFlags := 24, slot := 6, constantValue := 0 }, { name := "EMPTY_MAP", type := (.object "java/util/ImmutableCollections$MapN"), accessFlags := 24, slot := 7, constantValue := 0 }, { name := "EXPAND_FACTOR", type := .int, accessFlags := 24, slot := 8, constantValue := 0 }, { name := "$assertionsDisabled", type := .boolean, accessFlags := 4120, slot := 9, constantValue := 0 }]
  methods := #[k20m0, k20m1, k20m2]
  instanceTypes := #[]
  staticTypes := #[.long, .boolean, (.array (.object "java/lang/Object")), (.object "java/lang/Object"), (.object "java/util/ImmutableCollections$ListN"), (.object "java/util/ImmutableCollections$ListN"), (.object "java/util/ImmutableCollections$SetN"), (.object "java/util/ImmutableCollections$MapN"), .int, .boolean]
  resolved := Array.replicate 213 none
  statics := some 2 }

def pool21 : Array CpInfo := pool [(1, .methodref 2 3), (0, .class_ 4), (0, .nameAndType 5 6), (0, u "java/util/AbstractCollection"), (0, u "<init>"), (0, u "()V"), (1, .class_ 10), (1, u "java/util/ImmutableCollections"), (2, .class_ 14), (0, u "java/util/ImmutableCollections$AbstractImmutableCollection")] 41

def k21c0 : Code := { maxStack := 1, maxLocals := 1, code := jdk_47_method_1_code, exceptionTable := #[], attributes := #[] }
def k21m0 : Method := { name := "<init>", desc := "()V", sig := { parameters := [], returnType := none }, accessFlags := 0, code := some k21c0 }
/-- java/util/ImmutableCollections$AbstractImmutableCollection -/
def k21 : Class := { plain "java/util/ImmutableCollections$AbstractImmutableCollection" (some 11) with
  accessFlags := 1056
  interfaces := #[]
  cf := some (fileOf pool21 13 #[.nestHost 8] #[{ accessFlags := 0, nameIndex := 5, descriptorIndex := 6, attributes := #[] }] 1056 2 #[] #[])
  fields := #[]
  methods := #[k21m0]
  instanceTypes := #[]
  staticTypes := #[]
  resolved := Array.replicate 56 none
  statics := none }

def pool22 : Array CpInfo := pool [(1, .methodref 2 3), (0, .class_ 4), (0, .nameAndType 5 6), (0, u "java/util/ImmutableCollections$AbstractImmutableCollection"), (0, u "<init>"), (0, u "()V"), (1, .class_ 10), (1, u "java/util/ImmutableCollections"), (3, .class_ 16), (1, u "java/util/ImmutableCollections$AbstractImmutableList"), (60, .class_ 78), (0, u "java/util/List"), (45, .class_ 125), (0, u "java/util/RandomAccess")] 70

def k22c0 : Code := { maxStack := 1, maxLocals := 1, code := jdk_46_method_1_code, exceptionTable := #[], attributes := #[] }
def k22m0 : Method := { name := "<init>", desc := "()V", sig := { parameters := [], returnType := none }, accessFlags := 0, code := some k22c0 }
/-- java/util/ImmutableCollections$AbstractImmutableList -/
def k22 : Class := { plain "java/util/ImmutableCollections$AbstractImmutableList" (some 21) with
  accessFlags := 1056
  interfaces := #[13, 15]
  cf := some (fileOf pool22 14 #[.nestHost 8] #[{ accessFlags := 0, nameIndex := 5, descriptorIndex := 6, attributes := #[] }] 1056 2 #[77, 124] #[])
  fields := #[]
  methods := #[k22m0]
  instanceTypes := #[]
  staticTypes := #[]
  resolved := Array.replicate 196 none
  statics := none }

def pool23 : Array CpInfo := pool [(1, .methodref 2 3), (0, .class_ 4), (0, .nameAndType 5 6), (0, u "java/util/ImmutableCollections$AbstractImmutableList"), (0, u "<init>"), (0, u "()V"), (0, .methodref 8 9), (0, .class_ 10), (0, .nameAndType 11 12), (0, u "java/util/Objects"), (0, u "requireNonNull"), (0, u "(Ljava/lang/Object;)Ljava/lang/Object;"), (0, .fieldref 14 15), (0, .class_ 16), (0, .nameAndType 17 18), (0, u "java/util/ImmutableCollections$List12"), (0, u "e0"), (0, u "Ljava/lang/Object;"), (0, .fieldref 20 21), (0, .class_ 22), (0, .nameAndType 23 18), (0, u "java/util/ImmutableCollections"), (0, u "EMPTY"), (0, .fieldref 14 25), (0, .nameAndType 26 18), (0, u "e1"), (24, u "size"), (0, u "()I"), (17, .class_ 71), (0, u "java/io/Serializable"), (4, u "(Ljava/lang/Object;)V"), (8, u "(Ljava/lang/Object;Ljava/lang/Object;)V"), (4, u "get"), (0, u "(I)Ljava/lang/Object;")] 33

def k23c0 : Code := { maxStack := 2, maxLocals := 2, code := jdk_44_method_1_code, exceptionTable := #[], attributes := #[] }
def k23m0 : Method := { name := "<init>", desc := "(Ljava/lang/Object;)V", sig := { parameters := [(.object "java/lang/Object")], returnType := none }, accessFlags := 0, code := some k23c0 }
def k23c1 : Code := { maxStack := 2, maxLocals := 3, code := jdk_44_method_2_code, exceptionTable := #[], attributes := #[] }
def k23m1 : Method := { name := "<init>", desc := "(Ljava/lang/Object;Ljava/lang/Object;)V", sig := { parameters := [(.object "java/lang/Object"), (.object "java/lang/Object")], returnType := none }, accessFlags := 0, code := some k23c1 }
def k23c2 : Code := { maxStack := 2, maxLocals := 1, code := jdk_44_method_3_code, exceptionTable := #[], attributes := #[] }
def k23m2 : Method := { name := "size", desc := "()I", sig := { parameters := [], returnType := some .int }, accessFlags := 1, code := some k23c2 }
def k23c3 : Code := { maxStack := 2, maxLocals := 2, code := jdk_44_method_5_code, exceptionTable := #[], attributes := #[] }
def k23m3 : Method := { name := "get", desc := "(I)Ljava/lang/Object;", sig := { parameters := [.int], returnType := some (.object "java/lang/Object") }, accessFlags := 1, code := some k23c3 }
/-- java/util/ImmutableCollections$List12 -/
def k23 : Class := { plain "java/util/ImmutableCollections$List12" (some 22) with
  accessFlags := 48
  interfaces := #[2]
  cf := some (fileOf pool23 14 #[.nestHost 20] #[{ accessFlags := 0, nameIndex := 5, descriptorIndex := 76, attributes := #[] }, { accessFlags := 0, nameIndex := 5, descriptorIndex := 85, attributes := #[] }, { accessFlags := 1, nameIndex := 51, descriptorIndex := 52, attributes := #[] }, { accessFlags := 1, nameIndex := 90, descriptorIndex := 91, attributes := #[] }] 48 2 #[70] #[{ accessFlags := 18, nameIndex := 17, descriptorIndex := 18, attributes := #[] }, { accessFlags := 18, nameIndex := 26, descriptorIndex := 18, attributes := #[] }])
  fields := #[{ name := "e0", type := (.object "java/lang/Object"), accessFlags := 18, slot := 0, constantValue := 0 }, { name := "e1", type := (.object "java/lang/Object"), accessFlags := 18, slot := 1, constantValue := 0 }]
  methods := #[k23m0, k23m1, k23m2, k23m3]
  instanceTypes := #[(.object "java/lang/Object"), (.object "java/lang/Object")]
  staticTypes := #[]
  resolved := Array.replicate 125 none
  statics := none }

def pool24 : Array CpInfo := pool [(1, .methodref 2 3), (0, .class_ 4), (0, .nameAndType 5 6), (0, u "java/util/ImmutableCollections$AbstractImmutableList"), (0, u "<init>"), (0, u "()V"), (0, .fieldref 8 9), (0, .class_ 10), (0, .nameAndType 11 12), (0, u "java/util/ImmutableCollections$ListN"), (0, u "elements"), (0, u "[Ljava/lang/Object;"), (0, .fieldref 8 14), (0, .nameAndType 15 16), (0, u "allowNulls"), (0, u "Z"), (42, .class_ 60), (0, u "java/io/Serializable"), (4, u "([Ljava/lang/Object;Z)V"), (11, u "size"), (0, u "()I"), (35, .class_ 115), (0, u "java/util/ImmutableCollections")] 3

def k24c0 : Code := { maxStack := 2, maxLocals := 3, code := jdk_45_method_1_code, exceptionTable := #[], attributes := #[] }
def k24m0 : Method := { name := "<init>", desc := "([Ljava/lang/Object;Z)V", sig := { parameters := [(.array (.object "java/lang/Object")), .boolean], returnType := none }, accessFlags := 2, code := some k24c0 }
def k24c1 : Code := { maxStack := 1, maxLocals := 1, code := jdk_45_method_3_code, exceptionTable := #[], attributes := #[] }
def k24m1 : Method := { name := "size", desc := "()I", sig := { parameters := [], returnType := some .int }, accessFlags := 1, code := some k24c1 }
/-- java/util/ImmutableCollections$ListN -/
def k24 : Class := { plain "java/util/ImmutableCollections$ListN" (some 22) with
  accessFlags := 48
  interfaces := #[2]
  cf := some (fileOf pool24 8 #[.nestHost 114] #[{ accessFlags := 2, nameIndex := 5, descriptorIndex := 65, attributes := #[] }, { accessFlags := 1, nameIndex := 77, descriptorIndex := 78, attributes := #[] }] 48 2 #[59] #[{ accessFlags := 18, nameIndex := 11, descriptorIndex := 12, attributes := #[] }, { accessFlags := 18, nameIndex := 15, descriptorIndex := 16, attributes := #[] }])
  fields := #[{ name := "elements", type := (.array (.object "java/lang/Object")), accessFlags := 18, slot := 0, constantValue := 0 }, { name := "allowNulls", type := .boolean, accessFlags := 18, slot := 1, constantValue := 0 }]
  methods := #[k24m0, k24m1]
  instanceTypes := #[(.array (.object "java/lang/Object")), .boolean]
  staticTypes := #[]
  resolved := Array.replicate 119 none
  statics := none }

def pool25 : Array CpInfo := pool [(2, .class_ 4), (1, u "java/lang/Object"), (6, .class_ 13), (1, u "com/example/packwright/packwright/io/BuildAssembler"), (0, u "requiredBuilds"), (0, u "Ljava/util/List;"), (5, u "installRoutines"), (0, u "Ljava/util/Map;"), (5, u "routines"), (2, u "files"), (5, u "filesWithData"), (0, u "Ljava/util/Set;"), (2, u "components"), (2, u "buildNodes"), (2, u "routineListEntries"), (2, u "newAfterChecksums"), (2, u "file"), (0, u "Ljava/nio/file/Path;"), (2, u "installName"), (0, u "Ljava/lang/String;"), (2, u "installNameLine"), (0, u "I"), (1, .class_ 66), (1, u "java/util/List"), (1, u "(Ljava/lang/Object;)Z"), (0, .methodref 70 71), (0, .class_ 72), (0, .nameAndType 73 74), (0, u "com/example/packwright/packwright/model/Node"), (0, u "subscripts"), (0, u "()Ljava/util/List;"), (4, .interfaceMethodref 64 80), (0, .nameAndType 81 82), (0, u "get"), (0, u "(I)Ljava/lang/Object;"), (0, .class_ 84), (0, u "java/lang/String"), (0, .interfaceMethodref 64 86), (0, .nameAndType 87 88), (0, u "size"), (0, u "()I"), (2, .methodref 83 92), (0, .nameAndType 93 68), (0, u "equals"), (4, u "zeroNode"), (11, u "zeroNodeLine"), (48, .string 160), (0, u "RTN"), (17, .class_ 179), (0, u "com/example/packwright/packwright/io/BuildAssembler$RoutineNodes"), (32, .class_ 213), (0, u "com/example/packwright/packwright/io/BuildAssembler$FileNodes"), (105, u "ROUTINE_NAME"), (0, u "Ljava/util/regex/Pattern;"), (93, u "FILEMAN_DATE"), (42, u "ROUTINE_TYPE"), (25, u "(Lcom/example/packwright/packwright/model/Node;)Ljava/lang/String;"), (0, u "routineOfHeader")] 71

def k25c0 : Code := { maxStack := 2, maxLocals := 2, code := prog_4_method_11_code, exceptionTable := #[], attributes := #[] }
def k25m0 : Method := { name := "routineOfHeader", desc := "(Lcom/example/packwright/packwright/model/Node;)Ljava/lang/String;", sig := { parameters := [(.object "com/example/packwright/packwright/model/Node")], returnType := some (.object "java/lang/String") }, accessFlags := 8, code := some k25c0 }
/-- com/example/packwright/packwright/io/BuildAssembler -/
def k25 : Class := { plain "com/example/packwright/packwright/io/BuildAssembler" (some 0) with
  accessFlags := 48
  interfaces := #[]
  cf := some (fileOf pool25 11 #[.nestMembers #[212, 178]] #[{ accessFlags := 8, nameIndex := 484, descriptorIndex := 483, attributes := #[] }] 48 2 #[] #[{ accessFlags := 26, nameIndex := 414, descriptorIndex := 320, attributes := #[] }, { accessFlags := 26, nameIndex := 457, descriptorIndex := 58, attributes := #[] }, { accessFlags := 26, nameIndex := 319, descriptorIndex := 320, attributes := #[] }, { accessFlags := 18, nameIndex := 53, descriptorIndex := 54, attributes := #[] }, { accessFlags := 18, nameIndex := 57, descriptorIndex := 58, attributes := #[] }, { accessFlags := 18, nameIndex := 61, descriptorIndex := 62, attributes := #[] }, { accessFlags := 2, nameIndex := 98, descriptorIndex := 58, attributes := #[] }, { accessFlags := 2, nameIndex := 110, descriptorIndex := 62, attributes := #[] }, { accessFlags := 18, nameIndex := 14, descriptorIndex := 15, attributes := #[] }, { accessFlags := 18, nameIndex := 21, descriptorIndex := 22, attributes := #[] }, { accessFlags := 18, nameIndex := 28, descriptorIndex := 22, attributes := #[] }, { accessFlags := 18, nameIndex := 31, descriptorIndex := 22, attributes := #[] }, { accessFlags := 18, nameIndex := 37, descriptorIndex := 38, attributes := #[] }, { accessFlags := 18, nameIndex := 41, descriptorIndex := 15, attributes := #[] }, { accessFlags := 18, nameIndex := 44, descriptorIndex := 15, attributes := #[] }, { accessFlags := 18, nameIndex := 47, descriptorIndex := 22, attributes := #[] }, { accessFlags := 18, nameIndex := 50, descriptorIndex := 22, attributes := #[] }])
  fields := #[{ name := "FILEMAN_DATE", type := (.object "java/util/regex/Pattern"), accessFlags := 26, slot := 0, constantValue := 0 }, { name := "ROUTINE_TYPE", type := (.object "java/lang/String"), accessFlags := 26, slot := 1, constantValue := 0 }, { name := "ROUTINE_NAME", type := (.object "java/util/regex/Pattern"), accessFlags := 26, slot := 2, constantValue := 0 }, { name := "file", type := (.object "java/nio/file/Path"), accessFlags := 18, slot := 0, constantValue := 0 }, { name := "installName", type := (.object "java/lang/String"), accessFlags := 18, slot := 1, constantValue := 0 }, { name := "installNameLine", type := .int, accessFlags := 18, slot := 2, constantValue := 0 }, { name := "zeroNode", type := (.object "java/lang/String"), accessFlags := 2, slot := 3, constantValue := 0 }, { name := "zeroNodeLine", type := .int, accessFlags := 2, slot := 4, constantValue := 0 }, { name := "requiredBuilds", type := (.object "java/util/List"), accessFlags := 18, slot := 5, constantValue := 0 }, { name := "installRoutines", type := (.object "java/util/Map"), accessFlags := 18, slot := 6, constantValue := 0 }, { name := "routines", type := (.object "java/util/Map"), accessFlags := 18, slot := 7, constantValue := 0 }, { name := "files", type := (.object "java/util/Map"), accessFlags := 18, slot := 8, constantValue := 0 }, { name := "filesWithData", type := (.object "java/util/Set"), accessFlags := 18, slot := 9, constantValue := 0 }, { name := "components", type := (.object "java/util/List"), accessFlags := 18, slot := 10, constantValue := 0 }, { name := "buildNodes", type := (.object "java/util/List"), accessFlags := 18, slot := 11, constantValue := 0 }, { name := "routineListEntries", type := (.object "java/util/Map"), accessFlags := 18, slot := 12, constantValue := 0 }, { name := "newAfterChecksums", type := (.object "java/util/Map"), accessFlags := 18, slot := 13, constantValue := 0 }]
  methods := #[k25m0]
  instanceTypes := #[(.object "java/nio/file/Path"), (.object "java/lang/String"), .int, (.object "java/lang/String"), .int, (.object "java/util/List"), (.object "java/util/Map"), (.object "java/util/Map"), (.object "java/util/Map"), (.object "java/util/Set"), (.object "java/util/List"), (.object "java/util/List"), (.object "java/util/Map"), (.object "java/util/Map")]
  staticTypes := #[(.object "java/util/regex/Pattern"), (.object "java/lang/String"), (.object "java/util/regex/Pattern")]
  resolved := Array.replicate 556 none
  statics := none }

def pool26 : Array CpInfo := pool [(1, .class_ 2), (0, u "java/lang/Math"), (1, .class_ 6), (1, u "java/lang/Object"), (0, u "<init>"), (0, u "()V"), (89, .class_ 100), (1, u "java/lang/Math$RandomNumberGeneratorHolder"), (71, u "negativeZeroFloatBits"), (0, u "J"), (2, u "negativeZeroDoubleBits"), (21, u "max"), (2, u "min"), (43, u "$assertionsDisabled"), (0, u "Z"), (88, u "(II)I"), (2, u "twoToTheDoubleScaleDown"), (0, u "D"), (4, u "twoToTheDoubleScaleUp"), (9, u "E"), (3, u "PI"), (2, u "TAU"), (2, u "DEGREES_TO_RADIANS"), (0, u "RADIANS_TO_DEGREES")] 94

def k26m0 : Method := { name := "<init>", desc := "()V", sig := { parameters := [], returnType := none }, accessFlags := 2, code := none }
def k26c1 : Code := { maxStack := 2, maxLocals := 2, code := jdk_29_method_65_code, exceptionTable := #[], attributes := #[] }
def k26m1 : Method := { name := "max", desc := "(II)I", sig := { parameters := [.int, .int], returnType := some .int }, accessFlags := 9, code := some k26c1 }
def k26c2 : Code := { maxStack := 2, maxLocals := 2, code := jdk_29_method_69_code, exceptionTable := #[], attributes := #[] }
def k26m2 : Method := { name := "min", desc := "(II)I", sig := { parameters := [.int, .int], returnType := some .int }, accessFlags := 9, code := some k26c2 }
/-- java/lang/Math -/
def k26 : Class := { plain "java/lang/Math" (some 0) with
  accessFlags := 49
  interfaces := #[]
  cf := some (fileOf pool26 1 #[.nestMembers #[98]] #[{ accessFlags := 2, nameIndex := 7, descriptorIndex := 8, attributes := #[] }, { accessFlags := 9, nameIndex := 198, descriptorIndex := 335, attributes := #[] }, { accessFlags := 9, nameIndex := 201, descriptorIndex := 335, attributes := #[] }] 49 4 #[] #[{ accessFlags := 25, nameIndex := 354, descriptorIndex := 339, attributes := #[] }, { accessFlags := 25, nameIndex := 358, descriptorIndex := 339, attributes := #[] }, { accessFlags := 25, nameIndex := 361, descriptorIndex := 339, attributes := #[] }, { accessFlags := 26, nameIndex := 364, descriptorIndex := 339, attributes := #[] }, { accessFlags := 26, nameIndex := 365, descriptorIndex := 339, attributes := #[] }, { accessFlags := 26, nameIndex := 172, descriptorIndex := 173, attributes := #[] }, { accessFlags := 26, nameIndex := 176, descriptorIndex := 173, attributes := #[] }, { accessFlags := 8, nameIndex := 344, descriptorIndex := 339, attributes := #[] }, { accessFlags := 8, nameIndex := 338, descriptorIndex := 339, attributes := #[] }, { accessFlags := 4120, nameIndex := 245, descriptorIndex := 246, attributes := #[] }])
  fields := #[{ name := "E", type := .double, accessFlags := 25, slot := 0, constantValue := 0 }, { name := "PI", type := .double, accessFlags := 25, slot := 1, constantValue := 0 }, { name := "TAU", type := .double, accessFlags := 25, slot := 2, constantValue := 0 }, { name := "DEGREES_TO_RADIANS", type := .double, accessFlags := 26, slot := 3, constantValue := 0 }, { name := "RADIANS_TO_DEGREES", type := .double, accessFlags := 26, slot := 4, constantValue := 0 }, { name := "negativeZeroFloatBits", type := .long, accessFlags := 26, slot := 5, constantValue := 0 }, { name := "negativeZeroDoubleBits", type := .long, accessFlags := 26, slot := 6, constantValue := 0 }, { name := "twoToTheDoubleScaleUp", type := .double, accessFlags := 8, slot := 7, constantValue := 0 }, { name := "twoToTheDoubleScaleDown", type := .double, accessFlags := 8, slot := 8, constantValue := 0 }, { name := "$assertionsDisabled", type := .boolean, accessFlags := 4120, slot := 9, constantValue := 0 }]
  methods := #[k26m0, k26m1, k26m2]
  instanceTypes := #[]
  staticTypes := #[.double, .double, .double, .double, .double, .long, .long, .double, .double, .boolean]
  resolved := Array.replicate 460 none
  statics := none }

def pool27 : Array CpInfo := pool [(2, .class_ 4), (1, u "java/lang/Object"), (0, u "<init>"), (0, u "()V"), (7, .class_ 16), (1, u "java/util/Arrays"), (57, .class_ 76), (1, u "java/util/Arrays$NaturalOrder"), (9, .methodref 2 87), (0, .nameAndType 88 89), (0, u "getClass"), (0, u "()Ljava/lang/Class;"), (20, .class_ 111), (0, u "[Ljava/lang/Object;"), (1, .class_ 115), (1, u "java/util/Arrays$LegacyMergeSort"), (1, u "Z"), (32, .methodref 151 152), (0, .class_ 153), (0, .nameAndType 154 155), (0, u "java/lang/System"), (0, u "arraycopy"), (0, u "(Ljava/lang/Object;ILjava/lang/Object;II)V"), (144, .methodref 14 301), (0, .nameAndType 302 303), (0, u "copyOf"), (0, u "([Ljava/lang/Object;ILjava/lang/Class;)[Ljava/lang/Object;"), (0, .methodref 305 306), (0, .class_ 307), (0, .nameAndType 308 309), (0, u "java/lang/Math"), (0, u "min"), (0, u "(II)I"), (65, .class_ 376), (0, u "java/util/Arrays$ArrayList"), (68, u "$assertionsDisabled"), (269, u "MIN_ARRAY_SORT_GRAN"), (0, u "I"), (2, u "INSERTIONSORT_THRESHOLD"), (140, u "([Ljava/lang/Object;I)[Ljava/lang/Object;"), (114, .class_ 976), (0, u "java/util/Arrays$ArrayItr")] 52

def k27m0 : Method := { name := "<init>", desc := "()V", sig := { parameters := [], returnType := none }, accessFlags := 2, code := none }
def k27c1 : Code := { maxStack := 3, maxLocals := 2, code := jdk_65_method_119_code, exceptionTable := #[], attributes := #[] }
def k27m1 : Method := { name := "copyOf", desc := "([Ljava/lang/Object;I)[Ljava/lang/Object;", sig := { parameters := [(.array (.object "java/lang/Object")), .int], returnType := some (.array (.object "java/lang/Object")) }, accessFlags := 9, code := some k27c1 }
def k27c2 : Code := { maxStack := 6, maxLocals := 4, code := jdk_65_method_120_code, exceptionTable := #[], attributes := #[] }
def k27m2 : Method := { name := "copyOf", desc := "([Ljava/lang/Object;ILjava/lang/Class;)[Ljava/lang/Object;", sig := { parameters := [(.array (.object "java/lang/Object")), .int, (.object "java/lang/Class")], returnType := some (.array (.object "java/lang/Object")) }, accessFlags := 9, code := some k27c2 }
/-- java/util/Arrays -/
def k27 : Class := { plain "java/util/Arrays" (some 0) with
  accessFlags := 49
  interfaces := #[]
  cf := some (fileOf pool27 14 #[.nestMembers #[975, 375, 113, 74]] #[{ accessFlags := 2, nameIndex := 5, descriptorIndex := 6, attributes := #[] }, { accessFlags := 9, nameIndex := 302, descriptorIndex := 860, attributes := #[] }, { accessFlags := 9, nameIndex := 302, descriptorIndex := 303, attributes := #[] }] 49 2 #[] #[{ accessFlags := 26, nameIndex := 715, descriptorIndex := 716, attributes := #[] }, { accessFlags := 26, nameIndex := 719, descriptorIndex := 716, attributes := #[] }, { accessFlags := 4120, nameIndex := 445, descriptorIndex := 117, attributes := #[] }])
  fields := #[{ name := "MIN_ARRAY_SORT_GRAN", type := .int, accessFlags := 26, slot := 0, constantValue := 0 }, { name := "INSERTIONSORT_THRESHOLD", type := .int, accessFlags := 26, slot := 1, constantValue := 0 }, { name := "$assertionsDisabled", type := .boolean, accessFlags := 4120, slot := 2, constantValue := 0 }]
  methods := #[k27m0, k27m1, k27m2]
  instanceTypes := #[]
  staticTypes := #[.int, .int, .boolean]
  resolved := Array.replicate 1029 none
  statics := none }

def pool28 : Array CpInfo := pool [(2, .class_ 4), (1, u "java/lang/Object"), (0, u "<init>"), (0, u "()V"), (1, .class_ 10), (1, u "java/lang/System"), (0, u "allowSecurityManager"), (0, u "I"), (16, u "cons"), (0, u "Ljava/io/Console;"), (77, .class_ 110), (1, u "java/lang/System$CallersHolder"), (43, u "initialErrStream"), (0, u "Ljava/io/PrintStream;"), (19, u "security"), (0, u "Ljava/lang/SecurityManager;"), (31, .class_ 209), (0, u "java/lang/System$1"), (7, u "props"), (0, u "Ljava/util/Properties;"), (2, u "lineSeparator"), (0, u "Ljava/lang/String;"), (96, .class_ 321), (1, u "java/lang/System$LoggerFinder"), (5, .class_ 328), (0, u "java/lang/System$Logger"), (67, u "err"), (2, u "out"), (91, u "notSupportedJnuEncoding"), (15, u "in"), (17, u "initialIn"), (0, u "Ljava/io/InputStream;"), (35, u "bootLayer"), (0, u "Ljava/lang/ModuleLayer;"), (99, .class_ 664), (0, u "java/lang/System$2"), (9, u "NEVER"), (2, u "MAYBE"), (49, u "arraycopy"), (0, u "(Ljava/lang/Object;ILjava/lang/Object;II)V"), (72, .class_ 802), (0, u "java/lang/System$Logger$Level")] 31

def k28m0 : Method := { name := "<init>", desc := "()V", sig := { parameters := [], returnType := none }, accessFlags := 2, code := none }
def k28m1 : Method := { name := "arraycopy", desc := "(Ljava/lang/Object;ILjava/lang/Object;II)V", sig := { parameters := [(.object "java/lang/Object"), .int, (.object "java/lang/Object"), .int, .int], returnType := none }, accessFlags := 265, code := none }
/-- java/lang/System -/
def k28 : Class := { plain "java/lang/System" (some 0) with
  accessFlags := 49
  interfaces := #[]
  cf := some (fileOf pool28 8 #[.nestMembers #[319, 327, 801, 108, 663, 208]] #[{ accessFlags := 2, nameIndex := 5, descriptorIndex := 6, attributes := #[] }, { accessFlags := 265, nameIndex := 727, descriptorIndex := 728, attributes := #[] }] 49 2 #[] #[{ accessFlags := 25, nameIndex := 507, descriptorIndex := 526, attributes := #[] }, { accessFlags := 25, nameIndex := 399, descriptorIndex := 155, attributes := #[] }, { accessFlags := 25, nameIndex := 396, descriptorIndex := 155, attributes := #[] }, { accessFlags := 10, nameIndex := 525, descriptorIndex := 526, attributes := #[] }, { accessFlags := 26, nameIndex := 674, descriptorIndex := 12, attributes := #[] }, { accessFlags := 26, nameIndex := 677, descriptorIndex := 12, attributes := #[] }, { accessFlags := 10, nameIndex := 11, descriptorIndex := 12, attributes := #[] }, { accessFlags := 74, nameIndex := 175, descriptorIndex := 176, attributes := #[] }, { accessFlags := 10, nameIndex := 491, descriptorIndex := 222, attributes := #[] }, { accessFlags := 74, nameIndex := 29, descriptorIndex := 30, attributes := #[] }, { accessFlags := 74, nameIndex := 154, descriptorIndex := 155, attributes := #[] }, { accessFlags := 10, nameIndex := 217, descriptorIndex := 218, attributes := #[] }, { accessFlags := 10, nameIndex := 221, descriptorIndex := 222, attributes := #[] }, { accessFlags := 8, nameIndex := 562, descriptorIndex := 563, attributes := #[] }])
  fields := #[{ name := "in", type := (.object "java/io/InputStream"), accessFlags := 25, slot := 0, constantValue := 0 }, { name := "out", type := (.object "java/io/PrintStream"), accessFlags := 25, slot := 1, constantValue := 0 }, { name := "err", type := (.object "java/io/PrintStream"), accessFlags := 25, slot := 2, constantValue := 0 }, { name := "initialIn", type := (.object "java/io/InputStream"), accessFlags := 10, slot := 3, constantValue := 0 }, { name := "NEVER", type := .int, accessFlags := 26, slot := 4, constantValue := 0 }, { name := "MAYBE", type := .int, accessFlags := 26, slot := 5, constantValue := 0 }, { name := "allowSecurityManager", type := .int, accessFlags := 10, slot := 6, constantValue := 0 }, { name := "security", type := (.object "java/lang/SecurityManager"), accessFlags := 74, slot := 7, constantValue := 0 }, { name := "notSupportedJnuEncoding", type := (.object "java/lang/String"), accessFlags := 10, slot := 8, constantValue := 0 }, { name := "cons", type := (.object "java/io/Console"), accessFlags := 74, slot := 9, constantValue := 0 }, { name := "initialErrStream", type := (.object "java/io/PrintStream"), accessFlags := 74, slot := 10, constantValue := 0 }, { name := "props", type := (.object "java/util/Properties"), accessFlags := 10, slot := 11, constantValue := 0 }, { name := "lineSeparator", type := (.object "java/lang/String"), accessFlags := 10, slot := 12, constantValue := 0 }, { name := "bootLayer", type := (.object "java/lang/ModuleLayer"), accessFlags := 8, slot := 13, constantValue := 0 }]
  methods := #[k28m0, k28m1]
  instanceTypes := #[]
  staticTypes := #[(.object "java/io/InputStream"), (.object "java/io/PrintStream"), (.object "java/io/PrintStream"), (.object "java/io/InputStream"), .int, .int, .int, (.object "java/lang/SecurityManager"), (.object "java/lang/String"), (.object "java/io/Console"), (.object "java/io/PrintStream"), (.object "java/util/Properties"), (.object "java/lang/String"), (.object "java/lang/ModuleLayer")]
  resolved := Array.replicate 834 none
  statics := none }

def pool29 : Array CpInfo := pool [(2, .class_ 4), (1, u "java/lang/Object"), (0, u "<init>"), (0, u "()V"), (35, .class_ 44), (1, u "java/util/Objects"), (0, u "requireNonNull"), (0, u "(Ljava/lang/Object;)Ljava/lang/Object;")] 137

def k29m0 : Method := { name := "<init>", desc := "()V", sig := { parameters := [], returnType := none }, accessFlags := 2, code := none }
def k29c1 : Code := { maxStack := 2, maxLocals := 1, code := jdk_31_method_10_code, exceptionTable := #[], attributes := #[] }
def k29m1 : Method := { name := "requireNonNull", desc := "(Ljava/lang/Object;)Ljava/lang/Object;", sig := { parameters := [(.object "java/lang/Object")], returnType := some (.object "java/lang/Object") }, accessFlags := 9, code := some k29c1 }
/-- java/util/Objects -/
def k29 : Class := { plain "java/util/Objects" (some 0) with
  accessFlags := 49
  interfaces := #[]
  cf := some (fileOf pool29 42 #[] #[{ accessFlags := 2, nameIndex := 5, descriptorIndex := 6, attributes := #[] }, { accessFlags := 9, nameIndex := 45, descriptorIndex := 46, attributes := #[] }] 49 2 #[] #[])
  fields := #[]
  methods := #[k29m0, k29m1]
  instanceTypes := #[]
  staticTypes := #[]
  resolved := Array.replicate 184 none
  statics := none }

def pool30 : Array CpInfo := pool [(1, .class_ 2), (0, u "java/lang/String"), (1, .class_ 6), (1, u "java/lang/Object"), (0, u "<init>"), (0, u "()V"), (0, .methodref 1 10), (0, .nameAndType 11 12), (0, u "checkIndex"), (0, u "(II)V"), (1, .class_ 16), (1, u "java/lang/StringLatin1"), (36, u "([BI)C"), (67, u "$assertionsDisabled"), (0, u "Z"), (98, .class_ 223), (1, u "java/lang/StringLatin1$LinesSpliterator"), (28, u "charAt"), (28, u "equals"), (0, u "([B[B)Z"), (107, .class_ 391), (0, u "java/lang/StringLatin1$CharsSpliterator")] 3

def k30m0 : Method := { name := "<init>", desc := "()V", sig := { parameters := [], returnType := none }, accessFlags := 0, code := none }
def k30c1 : Code := { maxStack := 2, maxLocals := 2, code := jdk_43_method_2_code, exceptionTable := #[], attributes := #[] }
def k30m1 : Method := { name := "charAt", desc := "([BI)C", sig := { parameters := [(.array .byte), .int], returnType := some .char }, accessFlags := 9, code := some k30c1 }
def k30c2 : Code := { maxStack := 3, maxLocals := 3, code := jdk_43_method_13_code, exceptionTable := #[], attributes := #[] }
def k30m2 : Method := { name := "equals", desc := "([B[B)Z", sig := { parameters := [(.array .byte), (.array .byte)], returnType := some .boolean }, accessFlags := 9, code := some k30c2 }
/-- java/lang/StringLatin1 -/
def k30 : Class := { plain "java/lang/StringLatin1" (some 0) with
  accessFlags := 48
  interfaces := #[]
  cf := some (fileOf pool30 14 #[.nestMembers #[390, 221]] #[{ accessFlags := 0, nameIndex := 7, descriptorIndex := 8, attributes := #[] }, { accessFlags := 9, nameIndex := 252, descriptorIndex := 53, attributes := #[] }, { accessFlags := 9, nameIndex := 281, descriptorIndex := 282, attributes := #[] }] 48 4 #[] #[{ accessFlags := 4120, nameIndex := 121, descriptorIndex := 122, attributes := #[] }])
  fields := #[{ name := "$assertionsDisabled", type := .boolean, accessFlags := 4120, slot := 0, constantValue := 0 }]
  methods := #[k30m0, k30m1, k30m2]
  instanceTypes := #[]
  staticTypes := #[.boolean]
  resolved := Array.replicate 395 none
  statics := none }

def pool31 : Array CpInfo := pool [(2, .class_ 4), (1, u "java/lang/Object"), (0, u "<init>"), (0, u "()V"), (17, .class_ 26), (1, u "jdk/internal/util/Preconditions"), (6, u "checkIndex"), (21, .class_ 56), (0, u "jdk/internal/util/Preconditions$4"), (57, .class_ 115), (0, u "jdk/internal/util/Preconditions$1"), (7, u "SIOOBE_FORMATTER"), (0, u "Ljava/util/function/BiFunction;"), (0, .class_ 126), (0, u "jdk/internal/util/Preconditions$2"), (3, u "AIOOBE_FORMATTER"), (0, .class_ 132), (0, u "jdk/internal/util/Preconditions$3"), (3, u "IOOBE_FORMATTER"), (41, u "(IILjava/util/function/BiFunction;)I")] 15

def k31m0 : Method := { name := "<init>", desc := "()V", sig := { parameters := [], returnType := none }, accessFlags := 1, code := none }
def k31c1 : Code := { maxStack := 3, maxLocals := 3, code := jdk_41_method_11_code, exceptionTable := #[], attributes := #[] }
def k31m1 : Method := { name := "checkIndex", desc := "(IILjava/util/function/BiFunction;)I", sig := { parameters := [.int, .int, (.object "java/util/function/BiFunction")], returnType := some .int }, accessFlags := 9, code := some k31c1 }
/-- jdk/internal/util/Preconditions -/
def k31 : Class := { plain "jdk/internal/util/Preconditions" (some 0) with
  accessFlags := 33
  interfaces := #[]
  cf := some (fileOf pool31 24 #[.nestMembers #[55, 131, 125, 114]] #[{ accessFlags := 1, nameIndex := 5, descriptorIndex := 6, attributes := #[] }, { accessFlags := 9, nameIndex := 33, descriptorIndex := 178, attributes := #[] }] 33 2 #[] #[{ accessFlags := 25, nameIndex := 123, descriptorIndex := 124, attributes := #[] }, { accessFlags := 25, nameIndex := 130, descriptorIndex := 124, attributes := #[] }, { accessFlags := 25, nameIndex := 136, descriptorIndex := 124, attributes := #[] }])
  fields := #[{ name := "SIOOBE_FORMATTER", type := (.object "java/util/function/BiFunction"), accessFlags := 25, slot := 0, constantValue := 0 }, { name := "AIOOBE_FORMATTER", type := (.object "java/util/function/BiFunction"), accessFlags := 25, slot := 1, constantValue := 0 }, { name := "IOOBE_FORMATTER", type := (.object "java/util/function/BiFunction"), accessFlags := 25, slot := 2, constantValue := 0 }]
  methods := #[k31m0, k31m1]
  instanceTypes := #[]
  staticTypes := #[(.object "java/util/function/BiFunction"), (.object "java/util/function/BiFunction"), (.object "java/util/function/BiFunction")]
  resolved := Array.replicate 194 none
  statics := some 3 }

def pool32 : Array CpInfo := pool [(9, u "<init>"), (6, .class_ 18), (1, u "java/lang/Object"), (0, u "()V"), (1, .class_ 23), (1, u "jdk/internal/util/ArraysSupport"), (0, u "LOG2_ARRAY_LONG_INDEX_SCALE"), (0, u "I"), (2, u "U"), (0, u "Ljdk/internal/misc/Unsafe;"), (8, u "BIG_ENDIAN"), (0, u "Z"), (8, u "LOG2_BYTE_BIT_SIZE"), (4, u "LOG2_ARRAY_INT_INDEX_SCALE"), (54, u "JLA"), (0, u "Ljdk/internal/access/JavaLangAccess;"), (11, u "LOG2_ARRAY_BOOLEAN_INDEX_SCALE"), (9, u "LOG2_ARRAY_BYTE_INDEX_SCALE"), (5, u "LOG2_ARRAY_CHAR_INDEX_SCALE"), (5, u "LOG2_ARRAY_SHORT_INDEX_SCALE"), (18, u "LOG2_ARRAY_FLOAT_INDEX_SCALE"), (24, u "LOG2_ARRAY_DOUBLE_INDEX_SCALE"), (89, u "T_BOOLEAN"), (2, u "T_CHAR"), (1, u "T_FLOAT"), (1, u "T_DOUBLE"), (1, u "T_BYTE"), (1, u "T_SHORT"), (1, u "T_INT"), (1, u "T_LONG"), (1, u "SOFT_MAX_ARRAY_LENGTH")] 83

def k32m0 : Method := { name := "<init>", desc := "()V", sig := { parameters := [], returnType := none }, accessFlags := 2, code := none }
/-- jdk/internal/util/ArraysSupport -/
def k32 : Class := { plain "jdk/internal/util/ArraysSupport" (some 0) with
  accessFlags := 33
  interfaces := #[]
  cf := some (fileOf pool32 21 #[] #[{ accessFlags := 2, nameIndex := 9, descriptorIndex := 19, attributes := #[] }] 33 16 #[] #[{ accessFlags := 24, nameIndex := 28, descriptorIndex := 29, attributes := #[] }, { accessFlags := 26, nameIndex := 38, descriptorIndex := 39, attributes := #[] }, { accessFlags := 25, nameIndex := 121, descriptorIndex := 25, attributes := #[] }, { accessFlags := 25, nameIndex := 131, descriptorIndex := 25, attributes := #[] }, { accessFlags := 25, nameIndex := 137, descriptorIndex := 25, attributes := #[] }, { accessFlags := 25, nameIndex := 143, descriptorIndex := 25, attributes := #[] }, { accessFlags := 25, nameIndex := 53, descriptorIndex := 25, attributes := #[] }, { accessFlags := 25, nameIndex := 24, descriptorIndex := 25, attributes := #[] }, { accessFlags := 25, nameIndex := 162, descriptorIndex := 25, attributes := #[] }, { accessFlags := 25, nameIndex := 187, descriptorIndex := 25, attributes := #[] }, { accessFlags := 26, nameIndex := 48, descriptorIndex := 25, attributes := #[] }, { accessFlags := 25, nameIndex := 277, descriptorIndex := 25, attributes := #[] }, { accessFlags := 25, nameIndex := 280, descriptorIndex := 25, attributes := #[] }, { accessFlags := 25, nameIndex := 282, descriptorIndex := 25, attributes := #[] }, { accessFlags := 25, nameIndex := 284, descriptorIndex := 25, attributes := #[] }, { accessFlags := 25, nameIndex := 286, descriptorIndex := 25, attributes := #[] }, { accessFlags := 25, nameIndex := 288, descriptorIndex := 25, attributes := #[] }, { accessFlags := 25, nameIndex := 290, descriptorIndex := 25, attributes := #[] }, { accessFlags := 25, nameIndex := 292, descriptorIndex := 25, attributes := #[] }, { accessFlags := 26, nameIndex := 108, descriptorIndex := 109, attributes := #[] }, { accessFlags := 25, nameIndex := 294, descriptorIndex := 25, attributes := #[] }])
  fields := #[{ name := "U", type := (.object "jdk/internal/misc/Unsafe"), accessFlags := 24, slot := 0, constantValue := 0 }, { name := "BIG_ENDIAN", type := .boolean, accessFlags := 26, slot := 1, constantValue := 0 }, { name := "LOG2_ARRAY_BOOLEAN_INDEX_SCALE", type := .int, accessFlags := 25, slot := 2, constantValue := 0 }, { name := "LOG2_ARRAY_BYTE_INDEX_SCALE", type := .int, accessFlags := 25, slot := 3, constantValue := 0 }, { name := "LOG2_ARRAY_CHAR_INDEX_SCALE", type := .int, accessFlags := 25, slot := 4, constantValue := 0 }, { name := "LOG2_ARRAY_SHORT_INDEX_SCALE", type := .int, accessFlags := 25, slot := 5, constantValue := 0 }, { name := "LOG2_ARRAY_INT_INDEX_SCALE", type := .int, accessFlags := 25, slot := 6, constantValue := 0 }, { name := "LOG2_ARRAY_LONG_INDEX_SCALE", type := .int, accessFlags := 25, slot := 7, constantValue := 0 }, { name := "LOG2_ARRAY_FLOAT_INDEX_SCALE", type := .int, accessFlags := 25, slot := 8, constantValue := 0 }, { name := "LOG2_ARRAY_DOUBLE_INDEX_SCALE", type := .int, accessFlags := 25, slot := 9, constantValue := 0 }, { name := "LOG2_BYTE_BIT_SIZE", type := .int, accessFlags := 26, slot := 10, constantValue := 0 }, { name := "T_BOOLEAN", type := .int, accessFlags := 25, slot := 11, constantValue := 0 }, { name := "T_CHAR", type := .int, accessFlags := 25, slot := 12, constantValue := 0 }, { name := "T_FLOAT", type := .int, accessFlags := 25, slot := 13, constantValue := 0 }, { name := "T_DOUBLE", type := .int, accessFlags := 25, slot := 14, constantValue := 0 }, { name := "T_BYTE", type := .int, accessFlags := 25, slot := 15, constantValue := 0 }, { name := "T_SHORT", type := .int, accessFlags := 25, slot := 16, constantValue := 0 }, { name := "T_INT", type := .int, accessFlags := 25, slot := 17, constantValue := 0 }, { name := "T_LONG", type := .int, accessFlags := 25, slot := 18, constantValue := 0 }, { name := "JLA", type := (.object "jdk/internal/access/JavaLangAccess"), accessFlags := 26, slot := 19, constantValue := 0 }, { name := "SOFT_MAX_ARRAY_LENGTH", type := .int, accessFlags := 25, slot := 20, constantValue := 0 }]
  methods := #[k32m0]
  instanceTypes := #[]
  staticTypes := #[(.object "jdk/internal/misc/Unsafe"), .boolean, .int, .int, .int, .int, .int, .int, .int, .int, .int, .int, .int, .int, .int, .int, .int, .int, .int, (.object "jdk/internal/access/JavaLangAccess"), .int]
  resolved := Array.replicate 378 none
  statics := none }

def pool33 : Array CpInfo := pool [(1, u "java/lang/Class"), (0, .class_ 1), (0, u "java/lang/Object"), (0, .class_ 3)] 0

/-- java/lang/Class -/
def k33 : Class := { plain "java/lang/Class" (some 0) with
  accessFlags := 49
  interfaces := #[]
  cf := some (fileOf pool33 2 #[] #[] 49 4 #[] #[])
  fields := #[]
  methods := #[]
  instanceTypes := #[]
  staticTypes := #[]
  resolved := Array.replicate 5 none
  statics := none }

/-- the primitive byte -/
def k34 : Class := { plain "byte" none with kind := .primitive 'B', accessFlags := 0x411 }
/-- [B -/
def k35 : Class := { plain "[B" (some 0) with kind := .array 34 .byte, interfaces := #[16, 2], accessFlags := 1041 }

/-- the primitive char -/
def k36 : Class := { plain "char" none with kind := .primitive 'C', accessFlags := 0x411 }
/-- [C -/
def k37 : Class := { plain "[C" (some 0) with kind := .array 36 .char, interfaces := #[16, 2], accessFlags := 1041 }

/-- the primitive int -/
def k38 : Class := { plain "int" none with kind := .primitive 'I', accessFlags := 0x411 }
/-- [I -/
def k39 : Class := { plain "[I" (some 0) with kind := .array 38 .int, interfaces := #[16, 2], accessFlags := 1041 }

/-- [Ljava/lang/Object; -/
def k40 : Class := { plain "[Ljava/lang/Object;" (some 0) with mirror := some 4, kind := .array 0 (.object "java/lang/Object"), interfaces := #[16, 2], accessFlags := 1041 }

def heap : Heap := #[{ cls := 7, slots := #[.long 0, .int 1, .null, .int 0, .null, .int 0, .int 0], vm := .statics 7 },
  { cls := 17, slots := #[.long 0, .int 0, .ref 7, .ref 8], vm := .statics 17 },
  { cls := 20, slots := #[.long 0, .int 0, .null, .ref 9, .ref 6, .null, .null, .null, .int 0, .int 1], vm := .statics 20 },
  { cls := 31, slots := #[.null, .null, .null], vm := .statics 31 },
  { cls := 33, slots := #[], vm := .mirror 40 },
  { cls := 40, slots := #[], vm := .none },
  { cls := 24, slots := #[.ref 5, .int 0], vm := .none },
  { cls := 40, slots := #[], vm := .none },
  { cls := 40, slots := #[], vm := .none },
  { cls := 0, slots := #[], vm := .none }]
def classes : Array Class := #[k0, k1, k2, k3, k4, k5, k6, k7, k8, k9, k10, k11, k12, k13, k14, k15, k16, k17, k18, k19, k20, k21, k22, k23, k24, k25, k26, k27, k28, k29, k30, k31, k32, k33, k34, k35, k36, k37, k38, k39, k40]
def interned : List (Array UInt16 × Addr) := []
def slotsUsed : Nat := 26
def theMethod : MethodId := ⟨1, 2⟩
def args0 : Array Value := #[.int 5, .int 5, .int 5, .int 5, .int 5, .int 5]
def aboutOver (below : List Frame) : State where
  vm := { classes := classes, interned := interned.toArray }
  heap := heap
  slotsUsed := slotsUsed
  threads := #[{ frames := .invoking theMethod args0 :: below }]
def below0 : List Frame := [.native { method := ⟨0, 0⟩, args := #[] }]
def about1 : State := aboutOver below0
def p0 : Program := .bare "" "" ""
def e0 : Env := launch0.env 0 0 0
theorem w_frames : about1.frames = Frame.invoking theMethod args0 :: below0 := rfl
set_option maxRecDepth 65536 in
theorem w_args : argsFit about1.vm theMethod args0 = true := by decide +kernel
set_option maxRecDepth 65536 in
theorem w_heap : heapFits about1 = true := by decide +kernel
set_option maxRecDepth 65536 in
theorem w_runnable : about1.curStatus? = some .runnable := by decide +kernel
set_option maxRecDepth 65536 in
theorem w_alone : about1.alone = true := by decide +kernel
set_option maxRecDepth 65536 in
theorem w_named : about1.methodNamed? x = some theMethod := by decide +kernel
set_option maxRecDepth 65536 in
theorem w_hears : about1.hears theMethod below0 = true := by decide +kernel
set_option maxRecDepth 65536 in
theorem w_ripe : about1.ripe theMethod args0 below0 = true := by decide +kernel
theorem w_running : about1.status = .running := rfl
set_option maxRecDepth 65536 in
theorem w_room : about1.hasRoom e0.platform room_1 = true :=
  launch0.hasRoom_least _ room_1 (by decide +kernel) (by decide +kernel) (by decide +kernel) (by decide +kernel) (by decide +kernel) (by decide +kernel)
theorem allAtoms_all (ts : List Jvm.Cond) (a : Array Jvm.Value) (st : Jvm.State) : (allAtoms ts).before a st = ts.all (fun c => c.before a st) := by
  induction ts with
  | nil => rfl
  | cons c t ih =>
    show (Jvm.Cond.and c (allAtoms t)).before a st = _
    rw [Jvm.Cond.before_and, ih, List.all_cons]
def words1 : List Jvm.Cond := Jvm.Cond.code x code maxLocals ret :: tables_1
/-- a 'code' word, met by the world's own term for the bytes: nothing is compared byte by byte -/
theorem code_word {y : MethodName} {bytes : ByteArray} {mx : Nat} {rt : Option FieldType} {a : Array Value} {s : State} {m : MethodId} {meth : Method} {c : Code} (h1 : s.methodNamed? y = some m) (h2 : s.vm.method? m = some meth) (h3 : meth.code = some c) (h4 : c.code = bytes)
    (h5 : (c.maxLocals == mx && c.exceptionTable.isEmpty && decide (c.maxStack ≤ mostOperands) && decide (meth.sig.returnType = rt) && !meth.locks && decide (parseMethodDescriptor y.desc = some meth.sig)) = true) : (Jvm.Cond.code y bytes mx rt).before a s = true := by
  simp only [Bool.and_eq_true, beq_iff_eq, Bool.not_eq_true', decide_eq_true_eq] at h5
  obtain ⟨⟨⟨⟨⟨g1, g2⟩, g3⟩, g4⟩, g5⟩, g6⟩ := h5
  simp [Cond.before, Cond.holds, Cond.value, h1, h2, h3, h4, g1, g2, g3, g4, g5, g6]
def isCode : Jvm.Cond → Bool
  | .code _ _ _ _ => true
  | _ => false
theorem all_split {L : List Jvm.Cond} {P : Jvm.Cond → Bool} (h1 : L.all (fun c => isCode c || P c) = true) (h2 : ∀ c ∈ L.filter isCode, P c = true) : L.all P = true := by
  refine List.all_eq_true.mpr fun c hc => ?_
  have h := List.all_eq_true.mp h1 c hc
  rcases Bool.eq_false_or_eq_true (isCode c) with hi | hi
  · exact h2 c (List.mem_filter.mpr ⟨hc, hi⟩)
  · simpa [hi] using h
set_option maxRecDepth 65536 in
theorem w_c0 : (Jvm.Cond.code x code maxLocals ret).before args0 about1 = true := code_word (m := ⟨1, 2⟩) (meth := k1m2) (c := k1c2) (by decide +kernel) rfl rfl rfl (by decide +kernel)
set_option maxRecDepth 65536 in
theorem w_c1 : (Jvm.Cond.code ({ cls := "com/example/packwright/packwright/io/BuildAssemblerRoutineOfHeaderPinLaw", name := "draw", desc := "(II)Ljava/lang/String;" } : Jvm.MethodName) method_2_code (6 : Nat) (Option.some (Jvm.ClassFile.FieldType.object "java/lang/String"))).before args0 about1 = true := code_word (m := ⟨1, 1⟩) (meth := k1m1) (c := k1c1) (by decide +kernel) rfl rfl rfl (by decide +kernel)
set_option maxRecDepth 65536 in
theorem w_c2 : (Jvm.Cond.code ({ cls := "java/lang/String", name := "<init>", desc := "([C)V" } : Jvm.MethodName) jdk_42_method_3_code (2 : Nat) (Option.none : Option Jvm.ClassFile.FieldType)).before args0 about1 = true := code_word (m := ⟨7, 1⟩) (meth := k7m1) (c := k7c1) (by decide +kernel) rfl rfl rfl (by decide +kernel)
set_option maxRecDepth 65536 in
theorem w_c3 : (Jvm.Cond.code ({ cls := "java/lang/String", name := "<init>", desc := "([CIILjava/lang/Void;)V" } : Jvm.MethodName) jdk_42_method_149_code (6 : Nat) (Option.none : Option Jvm.ClassFile.FieldType)).before args0 about1 = true := code_word (m := ⟨7, 5⟩) (meth := k7m5) (c := k7c5) (by decide +kernel) rfl rfl rfl (by decide +kernel)
set_option maxRecDepth 65536 in
theorem w_c4 : (Jvm.Cond.code ({ cls := "java/lang/Object", name := "<init>", desc := "()V" } : Jvm.MethodName) object_method_1_code (1 : Nat) (Option.none : Option Jvm.ClassFile.FieldType)).before args0 about1 = true := code_word (m := ⟨0, 0⟩) (meth := k0m0) (c := k0c0) (by decide +kernel) rfl rfl rfl (by decide +kernel)
set_option maxRecDepth 65536 in
theorem w_c5 : (Jvm.Cond.code ({ cls := "java/lang/StringUTF16", name := "compress", desc := "([CII)[B" } : Jvm.MethodName) jdk_52_method_16_code (6 : Nat) (Option.some (Jvm.ClassFile.FieldType.array Jvm.ClassFile.FieldType.byte))).before args0 about1 = true := code_word (m := ⟨8, 2⟩) (meth := k8m2) (c := k8c2) (by decide +kernel) rfl rfl rfl (by decide +kernel)
set_option maxRecDepth 65536 in
theorem w_c6 : (Jvm.Cond.code ({ cls := "java/lang/StringUTF16", name := "compress", desc := "([CI[BII)I" } : Jvm.MethodName) jdk_52_method_21_code (7 : Nat) (Option.some Jvm.ClassFile.FieldType.int)).before args0 about1 = true := code_word (m := ⟨8, 3⟩) (meth := k8m3) (c := k8c3) (by decide +kernel) rfl rfl rfl (by decide +kernel)
set_option maxRecDepth 65536 in
theorem w_c7 : (Jvm.Cond.code ({ cls := "java/lang/StringUTF16", name := "coderFromArrayLen", desc := "([BI)B" } : Jvm.MethodName) jdk_52_method_15_code (2 : Nat) (Option.some Jvm.ClassFile.FieldType.byte)).before args0 about1 = true := code_word (m := ⟨8, 1⟩) (meth := k8m1) (c := k8c1) (by decide +kernel) rfl rfl rfl (by decide +kernel)
set_option maxRecDepth 65536 in
theorem w_c8 : (Jvm.Cond.code ({ cls := "java/util/ArrayList", name := "<init>", desc := "()V" } : Jvm.MethodName) jdk_38_method_2_code (1 : Nat) (Option.none : Option Jvm.ClassFile.FieldType)).before args0 about1 = true := code_word (m := ⟨17, 0⟩) (meth := k17m0) (c := k17c0) (by decide +kernel) rfl rfl rfl (by decide +kernel)
set_option maxRecDepth 65536 in
theorem w_c9 : (Jvm.Cond.code ({ cls := "java/util/AbstractList", name := "<init>", desc := "()V" } : Jvm.MethodName) jdk_39_method_1_code (1 : Nat) (Option.none : Option Jvm.ClassFile.FieldType)).before args0 about1 = true := code_word (m := ⟨14, 0⟩) (meth := k14m0) (c := k14c0) (by decide +kernel) rfl rfl rfl (by decide +kernel)
set_option maxRecDepth 65536 in
theorem w_c10 : (Jvm.Cond.code ({ cls := "java/util/AbstractCollection", name := "<init>", desc := "()V" } : Jvm.MethodName) jdk_22_method_1_code (1 : Nat) (Option.none : Option Jvm.ClassFile.FieldType)).before args0 about1 = true := code_word (m := ⟨11, 0⟩) (meth := k11m0) (c := k11c0) (by decide +kernel) rfl rfl rfl (by decide +kernel)
set_option maxRecDepth 65536 in
theorem w_c11 : (Jvm.Cond.code ({ cls := "com/example/packwright/packwright/model/Node", name := "<init>", desc := "(Ljava/lang/String;Ljava/util/List;Ljava/lang/String;)V" } : Jvm.MethodName) prog_37_method_1_code (4 : Nat) (Option.none : Option Jvm.ClassFile.FieldType)).before args0 about1 = true := code_word (m := ⟨19, 0⟩) (meth := k19m0) (c := k19c0) (by decide +kernel) rfl rfl rfl (by decide +kernel)
set_option maxRecDepth 65536 in
theorem w_c12 : (Jvm.Cond.code ({ cls := "java/lang/Record", name := "<init>", desc := "()V" } : Jvm.MethodName) jdk_30_method_1_code (1 : Nat) (Option.none : Option Jvm.ClassFile.FieldType)).before args0 about1 = true := code_word (m := ⟨18, 0⟩) (meth := k18m0) (c := k18c0) (by decide +kernel) rfl rfl rfl (by decide +kernel)
set_option maxRecDepth 65536 in
theorem w_c13 : (Jvm.Cond.code ({ cls := "java/util/List", name := "copyOf", desc := "(Ljava/util/Collection;)Ljava/util/List;" } : Jvm.MethodName) jdk_40_method_48_code (1 : Nat) (Option.some (Jvm.ClassFile.FieldType.object "java/util/List"))).before args0 about1 = true := code_word (m := ⟨13, 4⟩) (meth := k13m4) (c := k13c4) (by decide +kernel) rfl rfl rfl (by decide +kernel)
set_option maxRecDepth 65536 in
theorem w_c14 : (Jvm.Cond.code ({ cls := "java/util/ImmutableCollections", name := "listCopy", desc := "(Ljava/util/Collection;)Ljava/util/List;" } : Jvm.MethodName) jdk_56_method_3_code (2 : Nat) (Option.some (Jvm.ClassFile.FieldType.object "java/util/List"))).before args0 about1 = true := code_word (m := ⟨20, 1⟩) (meth := k20m1) (c := k20c1) (by decide +kernel) rfl rfl rfl (by decide +kernel)
set_option maxRecDepth 65536 in
theorem w_c15 : (Jvm.Cond.code ({ cls := "java/util/ArrayList", name := "isEmpty", desc := "()Z" } : Jvm.MethodName) jdk_38_method_9_code (1 : Nat) (Option.some Jvm.ClassFile.FieldType.boolean)).before args0 about1 = true := code_word (m := ⟨17, 3⟩) (meth := k17m3) (c := k17c3) (by decide +kernel) rfl rfl rfl (by decide +kernel)
set_option maxRecDepth 65536 in
theorem w_c16 : (Jvm.Cond.code ({ cls := "java/util/List", name := "of", desc := "()Ljava/util/List;" } : Jvm.MethodName) jdk_40_method_36_code (0 : Nat) (Option.some (Jvm.ClassFile.FieldType.object "java/util/List"))).before args0 about1 = true := code_word (m := ⟨13, 2⟩) (meth := k13m2) (c := k13c2) (by decide +kernel) rfl rfl rfl (by decide +kernel)
set_option maxRecDepth 65536 in
theorem w_c17 : (Jvm.Cond.code ({ cls := "com/example/packwright/packwright/io/BuildAssembler", name := "routineOfHeader", desc := "(Lcom/example/packwright/packwright/model/Node;)Ljava/lang/String;" } : Jvm.MethodName) prog_4_method_11_code (2 : Nat) (Option.some (Jvm.ClassFile.FieldType.object "java/lang/String"))).before args0 about1 = true := code_word (m := ⟨25, 0⟩) (meth := k25m0) (c := k25c0) (by decide +kernel) rfl rfl rfl (by decide +kernel)
set_option maxRecDepth 65536 in
theorem w_c18 : (Jvm.Cond.code ({ cls := "com/example/packwright/packwright/model/Node", name := "subscripts", desc := "()Ljava/util/List;" } : Jvm.MethodName) prog_37_method_7_code (1 : Nat) (Option.some (Jvm.ClassFile.FieldType.object "java/util/List"))).before args0 about1 = true := code_word (m := ⟨19, 1⟩) (meth := k19m1) (c := k19c1) (by decide +kernel) rfl rfl rfl (by decide +kernel)
set_option maxRecDepth 65536 in
theorem w_c19 : (Jvm.Cond.code ({ cls := "java/util/ImmutableCollections$ListN", name := "size", desc := "()I" } : Jvm.MethodName) jdk_45_method_3_code (1 : Nat) (Option.some Jvm.ClassFile.FieldType.int)).before args0 about1 = true := code_word (m := ⟨24, 1⟩) (meth := k24m1) (c := k24c1) (by decide +kernel) rfl rfl rfl (by decide +kernel)
set_option maxRecDepth 65536 in
theorem w_c20 : (Jvm.Cond.code ({ cls := "java/lang/String", name := "length", desc := "()I" } : Jvm.MethodName) jdk_42_method_54_code (1 : Nat) (Option.some Jvm.ClassFile.FieldType.int)).before args0 about1 = true := code_word (m := ⟨7, 2⟩) (meth := k7m2) (c := k7c2) (by decide +kernel) rfl rfl rfl (by decide +kernel)
set_option maxRecDepth 65536 in
theorem w_c21 : (Jvm.Cond.code ({ cls := "java/lang/String", name := "coder", desc := "()B" } : Jvm.MethodName) jdk_42_method_152_code (1 : Nat) (Option.some Jvm.ClassFile.FieldType.byte)).before args0 about1 = true := code_word (m := ⟨7, 6⟩) (meth := k7m6) (c := k7c6) (by decide +kernel) rfl rfl rfl (by decide +kernel)
set_option maxRecDepth 65536 in
theorem w_c22 : (Jvm.Cond.code ({ cls := "java/util/ArrayList", name := "add", desc := "(Ljava/lang/Object;)Z" } : Jvm.MethodName) jdk_38_method_25_code (2 : Nat) (Option.some Jvm.ClassFile.FieldType.boolean)).before args0 about1 = true := code_word (m := ⟨17, 6⟩) (meth := k17m6) (c := k17c6) (by decide +kernel) rfl rfl rfl (by decide +kernel)
set_option maxRecDepth 65536 in
theorem w_c23 : (Jvm.Cond.code ({ cls := "java/util/ArrayList", name := "add", desc := "(Ljava/lang/Object;[Ljava/lang/Object;I)V" } : Jvm.MethodName) jdk_38_method_24_code (4 : Nat) (Option.none : Option Jvm.ClassFile.FieldType)).before args0 about1 = true := code_word (m := ⟨17, 5⟩) (meth := k17m5) (c := k17c5) (by decide +kernel) rfl rfl rfl (by decide +kernel)
set_option maxRecDepth 65536 in
theorem w_c24 : (Jvm.Cond.code ({ cls := "java/util/ArrayList", name := "grow", desc := "()[Ljava/lang/Object;" } : Jvm.MethodName) jdk_38_method_7_code (1 : Nat) (Option.some (Jvm.ClassFile.FieldType.array (Jvm.ClassFile.FieldType.object "java/lang/Object")))).before args0 about1 = true := code_word (m := ⟨17, 2⟩) (meth := k17m2) (c := k17c2) (by decide +kernel) rfl rfl rfl (by decide +kernel)
set_option maxRecDepth 65536 in
theorem w_c25 : (Jvm.Cond.code ({ cls := "java/util/ArrayList", name := "grow", desc := "(I)[Ljava/lang/Object;" } : Jvm.MethodName) jdk_38_method_6_code (4 : Nat) (Option.some (Jvm.ClassFile.FieldType.array (Jvm.ClassFile.FieldType.object "java/lang/Object")))).before args0 about1 = true := code_word (m := ⟨17, 1⟩) (meth := k17m1) (c := k17c1) (by decide +kernel) rfl rfl rfl (by decide +kernel)
set_option maxRecDepth 65536 in
theorem w_c26 : (Jvm.Cond.code ({ cls := "java/lang/Math", name := "max", desc := "(II)I" } : Jvm.MethodName) jdk_29_method_65_code (2 : Nat) (Option.some Jvm.ClassFile.FieldType.int)).before args0 about1 = true := code_word (m := ⟨26, 1⟩) (meth := k26m1) (c := k26c1) (by decide +kernel) rfl rfl rfl (by decide +kernel)
set_option maxRecDepth 65536 in
theorem w_c27 : (Jvm.Cond.code ({ cls := "java/util/ArrayList", name := "toArray", desc := "()[Ljava/lang/Object;" } : Jvm.MethodName) jdk_38_method_16_code (1 : Nat) (Option.some (Jvm.ClassFile.FieldType.array (Jvm.ClassFile.FieldType.object "java/lang/Object")))).before args0 about1 = true := code_word (m := ⟨17, 4⟩) (meth := k17m4) (c := k17c4) (by decide +kernel) rfl rfl rfl (by decide +kernel)
set_option maxRecDepth 65536 in
theorem w_c28 : (Jvm.Cond.code ({ cls := "java/util/Arrays", name := "copyOf", desc := "([Ljava/lang/Object;I)[Ljava/lang/Object;" } : Jvm.MethodName) jdk_65_method_119_code (2 : Nat) (Option.some (Jvm.ClassFile.FieldType.array (Jvm.ClassFile.FieldType.object "java/lang/Object")))).before args0 about1 = true := code_word (m := ⟨27, 1⟩) (meth := k27m1) (c := k27c1) (by decide +kernel) rfl rfl rfl (by decide +kernel)
set_option maxRecDepth 65536 in
theorem w_c29 : (Jvm.Cond.code ({ cls := "java/util/Arrays", name := "copyOf", desc := "([Ljava/lang/Object;ILjava/lang/Class;)[Ljava/lang/Object;" } : Jvm.MethodName) jdk_65_method_120_code (4 : Nat) (Option.some (Jvm.ClassFile.FieldType.array (Jvm.ClassFile.FieldType.object "java/lang/Object")))).before args0 about1 = true := code_word (m := ⟨27, 2⟩) (meth := k27m2) (c := k27c2) (by decide +kernel) rfl rfl rfl (by decide +kernel)
set_option maxRecDepth 65536 in
theorem w_c30 : (Jvm.Cond.code ({ cls := "java/lang/Math", name := "min", desc := "(II)I" } : Jvm.MethodName) jdk_29_method_69_code (2 : Nat) (Option.some Jvm.ClassFile.FieldType.int)).before args0 about1 = true := code_word (m := ⟨26, 2⟩) (meth := k26m2) (c := k26c2) (by decide +kernel) rfl rfl rfl (by decide +kernel)
set_option maxRecDepth 65536 in
theorem w_c31 : (Jvm.Cond.code ({ cls := "java/util/List", name := "of", desc := "([Ljava/lang/Object;)Ljava/util/List;" } : Jvm.MethodName) jdk_40_method_47_code (2 : Nat) (Option.some (Jvm.ClassFile.FieldType.object "java/util/List"))).before args0 about1 = true := code_word (m := ⟨13, 3⟩) (meth := k13m3) (c := k13c3) (by decide +kernel) rfl rfl rfl (by decide +kernel)
set_option maxRecDepth 65536 in
theorem w_c32 : (Jvm.Cond.code ({ cls := "java/util/ImmutableCollections", name := "listFromArray", desc := "([Ljava/lang/Object;)Ljava/util/List;" } : Jvm.MethodName) jdk_56_method_4_code (3 : Nat) (Option.some (Jvm.ClassFile.FieldType.object "java/util/List"))).before args0 about1 = true := code_word (m := ⟨20, 2⟩) (meth := k20m2) (c := k20c2) (by decide +kernel) rfl rfl rfl (by decide +kernel)
set_option maxRecDepth 65536 in
theorem w_c33 : (Jvm.Cond.code ({ cls := "java/util/Objects", name := "requireNonNull", desc := "(Ljava/lang/Object;)Ljava/lang/Object;" } : Jvm.MethodName) jdk_31_method_10_code (1 : Nat) (Option.some (Jvm.ClassFile.FieldType.object "java/lang/Object"))).before args0 about1 = true := code_word (m := ⟨29, 1⟩) (meth := k29m1) (c := k29c1) (by decide +kernel) rfl rfl rfl (by decide +kernel)
set_option maxRecDepth 65536 in
theorem w_c34 : (Jvm.Cond.code ({ cls := "java/util/ImmutableCollections$ListN", name := "<init>", desc := "([Ljava/lang/Object;Z)V" } : Jvm.MethodName) jdk_45_method_1_code (3 : Nat) (Option.none : Option Jvm.ClassFile.FieldType)).before args0 about1 = true := code_word (m := ⟨24, 0⟩) (meth := k24m0) (c := k24c0) (by decide +kernel) rfl rfl rfl (by decide +kernel)
set_option maxRecDepth 65536 in
theorem w_c35 : (Jvm.Cond.code ({ cls := "java/util/ImmutableCollections$AbstractImmutableList", name := "<init>", desc := "()V" } : Jvm.MethodName) jdk_46_method_1_code (1 : Nat) (Option.none : Option Jvm.ClassFile.FieldType)).before args0 about1 = true := code_word (m := ⟨22, 0⟩) (meth := k22m0) (c := k22c0) (by decide +kernel) rfl rfl rfl (by decide +kernel)
set_option maxRecDepth 65536 in
theorem w_c36 : (Jvm.Cond.code ({ cls := "java/util/ImmutableCollections$AbstractImmutableCollection", name := "<init>", desc := "()V" } : Jvm.MethodName) jdk_47_method_1_code (1 : Nat) (Option.none : Option Jvm.ClassFile.FieldType)).before args0 about1 = true := code_word (m := ⟨21, 0⟩) (meth := k21m0) (c := k21c0) (by decide +kernel) rfl rfl rfl (by decide +kernel)
set_option maxRecDepth 65536 in
theorem w_c37 : (Jvm.Cond.code ({ cls := "java/lang/String", name := "charAt", desc := "(I)C" } : Jvm.MethodName) jdk_42_method_56_code (2 : Nat) (Option.some Jvm.ClassFile.FieldType.char)).before args0 about1 = true := code_word (m := ⟨7, 3⟩) (meth := k7m3) (c := k7c3) (by decide +kernel) rfl rfl rfl (by decide +kernel)
set_option maxRecDepth 65536 in
theorem w_c38 : (Jvm.Cond.code ({ cls := "java/lang/String", name := "isLatin1", desc := "()Z" } : Jvm.MethodName) jdk_42_method_154_code (1 : Nat) (Option.some Jvm.ClassFile.FieldType.boolean)).before args0 about1 = true := code_word (m := ⟨7, 7⟩) (meth := k7m7) (c := k7c7) (by decide +kernel) rfl rfl rfl (by decide +kernel)
set_option maxRecDepth 65536 in
theorem w_c39 : (Jvm.Cond.code ({ cls := "java/lang/StringLatin1", name := "charAt", desc := "([BI)C" } : Jvm.MethodName) jdk_43_method_2_code (2 : Nat) (Option.some Jvm.ClassFile.FieldType.char)).before args0 about1 = true := code_word (m := ⟨30, 1⟩) (meth := k30m1) (c := k30c1) (by decide +kernel) rfl rfl rfl (by decide +kernel)
set_option maxRecDepth 65536 in
theorem w_c40 : (Jvm.Cond.code ({ cls := "java/lang/String", name := "checkIndex", desc := "(II)V" } : Jvm.MethodName) jdk_42_method_155_code (2 : Nat) (Option.none : Option Jvm.ClassFile.FieldType)).before args0 about1 = true := code_word (m := ⟨7, 8⟩) (meth := k7m8) (c := k7c8) (by decide +kernel) rfl rfl rfl (by decide +kernel)
set_option maxRecDepth 65536 in
theorem w_c41 : (Jvm.Cond.code ({ cls := "jdk/internal/util/Preconditions", name := "checkIndex", desc := "(IILjava/util/function/BiFunction;)I" } : Jvm.MethodName) jdk_41_method_11_code (3 : Nat) (Option.some Jvm.ClassFile.FieldType.int)).before args0 about1 = true := code_word (m := ⟨31, 1⟩) (meth := k31m1) (c := k31c1) (by decide +kernel) rfl rfl rfl (by decide +kernel)
set_option maxRecDepth 65536 in
theorem w_c42 : (Jvm.Cond.code ({ cls := "java/util/ImmutableCollections$List12", name := "<init>", desc := "(Ljava/lang/Object;Ljava/lang/Object;)V" } : Jvm.MethodName) jdk_44_method_2_code (3 : Nat) (Option.none : Option Jvm.ClassFile.FieldType)).before args0 about1 = true := code_word (m := ⟨23, 1⟩) (meth := k23m1) (c := k23c1) (by decide +kernel) rfl rfl rfl (by decide +kernel)
set_option maxRecDepth 65536 in
theorem w_c43 : (Jvm.Cond.code ({ cls := "java/util/ImmutableCollections$List12", name := "size", desc := "()I" } : Jvm.MethodName) jdk_44_method_3_code (1 : Nat) (Option.some Jvm.ClassFile.FieldType.int)).before args0 about1 = true := code_word (m := ⟨23, 2⟩) (meth := k23m2) (c := k23c2) (by decide +kernel) rfl rfl rfl (by decide +kernel)
set_option maxRecDepth 65536 in
theorem w_c44 : (Jvm.Cond.code ({ cls := "java/util/ImmutableCollections$List12", name := "get", desc := "(I)Ljava/lang/Object;" } : Jvm.MethodName) jdk_44_method_5_code (2 : Nat) (Option.some (Jvm.ClassFile.FieldType.object "java/lang/Object"))).before args0 about1 = true := code_word (m := ⟨23, 3⟩) (meth := k23m3) (c := k23c3) (by decide +kernel) rfl rfl rfl (by decide +kernel)
set_option maxRecDepth 65536 in
theorem w_c45 : (Jvm.Cond.code ({ cls := "java/lang/String", name := "equals", desc := "(Ljava/lang/Object;)Z" } : Jvm.MethodName) jdk_42_method_66_code (3 : Nat) (Option.some Jvm.ClassFile.FieldType.boolean)).before args0 about1 = true := code_word (m := ⟨7, 4⟩) (meth := k7m4) (c := k7c4) (by decide +kernel) rfl rfl rfl (by decide +kernel)
set_option maxRecDepth 65536 in
theorem w_c46 : (Jvm.Cond.code ({ cls := "java/lang/StringLatin1", name := "equals", desc := "([B[B)Z" } : Jvm.MethodName) jdk_43_method_13_code (3 : Nat) (Option.some Jvm.ClassFile.FieldType.boolean)).before args0 about1 = true := code_word (m := ⟨30, 2⟩) (meth := k30m2) (c := k30c2) (by decide +kernel) rfl rfl rfl (by decide +kernel)
set_option maxRecDepth 65536 in
theorem w_c47 : (Jvm.Cond.code ({ cls := "java/util/ImmutableCollections$List12", name := "<init>", desc := "(Ljava/lang/Object;)V" } : Jvm.MethodName) jdk_44_method_1_code (2 : Nat) (Option.none : Option Jvm.ClassFile.FieldType)).before args0 about1 = true := code_word (m := ⟨23, 0⟩) (meth := k23m0) (c := k23c0) (by decide +kernel) rfl rfl rfl (by decide +kernel)
def codes1 : List Jvm.Cond := [Jvm.Cond.code x code maxLocals ret, Jvm.Cond.code ({ cls := "com/example/packwright/packwright/io/BuildAssemblerRoutineOfHeaderPinLaw", name := "draw", desc := "(II)Ljava/lang/String;" } : Jvm.MethodName) method_2_code (6 : Nat) (Option.some (Jvm.ClassFile.FieldType.object "java/lang/String")), Jvm.Cond.code ({ cls := "java/lang/String", name := "<init>", desc := "([C)V" } : Jvm.MethodName) jdk_42_method_3_code (2 : Nat) (Option.none : Option Jvm.ClassFile.FieldType), Jvm.Cond.code ({ cls := "java/lang/String", name := "<init>", desc := "([CIILjava/lang/Void;)V" } : Jvm.MethodName) jdk_42_method_149_code (6 : Nat) (Option.none : Option Jvm.ClassFile.FieldType), Jvm.Cond.code ({ cls := "java/lang/Object", name := "<init>", desc := "()V" } : Jvm.MethodName) object_method_1_code (1 : Nat) (Option.none : Option Jvm.ClassFile.FieldType), Jvm.Cond.code ({ cls := "java/lang/StringUTF16", name := "compress", desc := "([CII)[B" } : Jvm.MethodName) jdk_52_method_16_code (6 : Nat) (Option.some (Jvm.ClassFile.FieldType.array Jvm.ClassFile.FieldType.byte)), Jvm.Cond.code ({ cls := "java/lang/StringUTF16", name := "compress", desc := "([CI[BII)I" } : Jvm.MethodName) jdk_52_method_21_code (7 : Nat) (Option.some Jvm.ClassFile.FieldType.int), Jvm.Cond.code ({ cls := "java/lang/StringUTF16", name := "coderFromArrayLen", desc := "([BI)B" } : Jvm.MethodName) jdk_52_method_15_code (2 : Nat) (Option.some Jvm.ClassFile.FieldType.byte), Jvm.Cond.code ({ cls := "java/util/ArrayList", name := "<init>", desc := "()V" } : Jvm.MethodName) jdk_38_method_2_code (1 : Nat) (Option.none : Option Jvm.ClassFile.FieldType), Jvm.Cond.code ({ cls := "java/util/AbstractList", name := "<init>", desc := "()V" } : Jvm.MethodName) jdk_39_method_1_code (1 : Nat) (Option.none : Option Jvm.ClassFile.FieldType), Jvm.Cond.code ({ cls := "java/util/AbstractCollection", name := "<init>", desc := "()V" } : Jvm.MethodName) jdk_22_method_1_code (1 : Nat) (Option.none : Option Jvm.ClassFile.FieldType), Jvm.Cond.code ({ cls := "com/example/packwright/packwright/model/Node", name := "<init>", desc := "(Ljava/lang/String;Ljava/util/List;Ljava/lang/String;)V" } : Jvm.MethodName) prog_37_method_1_code (4 : Nat) (Option.none : Option Jvm.ClassFile.FieldType), Jvm.Cond.code ({ cls := "java/lang/Record", name := "<init>", desc := "()V" } : Jvm.MethodName) jdk_30_method_1_code (1 : Nat) (Option.none : Option Jvm.ClassFile.FieldType), Jvm.Cond.code ({ cls := "java/util/List", name := "copyOf", desc := "(Ljava/util/Collection;)Ljava/util/List;" } : Jvm.MethodName) jdk_40_method_48_code (1 : Nat) (Option.some (Jvm.ClassFile.FieldType.object "java/util/List")), Jvm.Cond.code ({ cls := "java/util/ImmutableCollections", name := "listCopy", desc := "(Ljava/util/Collection;)Ljava/util/List;" } : Jvm.MethodName) jdk_56_method_3_code (2 : Nat) (Option.some (Jvm.ClassFile.FieldType.object "java/util/List")), Jvm.Cond.code ({ cls := "java/util/ArrayList", name := "isEmpty", desc := "()Z" } : Jvm.MethodName) jdk_38_method_9_code (1 : Nat) (Option.some Jvm.ClassFile.FieldType.boolean), Jvm.Cond.code ({ cls := "java/util/List", name := "of", desc := "()Ljava/util/List;" } : Jvm.MethodName) jdk_40_method_36_code (0 : Nat) (Option.some (Jvm.ClassFile.FieldType.object "java/util/List")), Jvm.Cond.code ({ cls := "com/example/packwright/packwright/io/BuildAssembler", name := "routineOfHeader", desc := "(Lcom/example/packwright/packwright/model/Node;)Ljava/lang/String;" } : Jvm.MethodName) prog_4_method_11_code (2 : Nat) (Option.some (Jvm.ClassFile.FieldType.object "java/lang/String")), Jvm.Cond.code ({ cls := "com/example/packwright/packwright/model/Node", name := "subscripts", desc := "()Ljava/util/List;" } : Jvm.MethodName) prog_37_method_7_code (1 : Nat) (Option.some (Jvm.ClassFile.FieldType.object "java/util/List")), Jvm.Cond.code ({ cls := "java/util/ImmutableCollections$ListN", name := "size", desc := "()I" } : Jvm.MethodName) jdk_45_method_3_code (1 : Nat) (Option.some Jvm.ClassFile.FieldType.int), Jvm.Cond.code ({ cls := "java/lang/String", name := "length", desc := "()I" } : Jvm.MethodName) jdk_42_method_54_code (1 : Nat) (Option.some Jvm.ClassFile.FieldType.int), Jvm.Cond.code ({ cls := "java/lang/String", name := "coder", desc := "()B" } : Jvm.MethodName) jdk_42_method_152_code (1 : Nat) (Option.some Jvm.ClassFile.FieldType.byte), Jvm.Cond.code ({ cls := "java/util/ArrayList", name := "add", desc := "(Ljava/lang/Object;)Z" } : Jvm.MethodName) jdk_38_method_25_code (2 : Nat) (Option.some Jvm.ClassFile.FieldType.boolean), Jvm.Cond.code ({ cls := "java/util/ArrayList", name := "add", desc := "(Ljava/lang/Object;[Ljava/lang/Object;I)V" } : Jvm.MethodName) jdk_38_method_24_code (4 : Nat) (Option.none : Option Jvm.ClassFile.FieldType), Jvm.Cond.code ({ cls := "java/util/ArrayList", name := "grow", desc := "()[Ljava/lang/Object;" } : Jvm.MethodName) jdk_38_method_7_code (1 : Nat) (Option.some (Jvm.ClassFile.FieldType.array (Jvm.ClassFile.FieldType.object "java/lang/Object"))), Jvm.Cond.code ({ cls := "java/util/ArrayList", name := "grow", desc := "(I)[Ljava/lang/Object;" } : Jvm.MethodName) jdk_38_method_6_code (4 : Nat) (Option.some (Jvm.ClassFile.FieldType.array (Jvm.ClassFile.FieldType.object "java/lang/Object"))), Jvm.Cond.code ({ cls := "java/lang/Math", name := "max", desc := "(II)I" } : Jvm.MethodName) jdk_29_method_65_code (2 : Nat) (Option.some Jvm.ClassFile.FieldType.int), Jvm.Cond.code ({ cls := "java/util/ArrayList", name := "toArray", desc := "()[Ljava/lang/Object;" } : Jvm.MethodName) jdk_38_method_16_code (1 : Nat) (Option.some (Jvm.ClassFile.FieldType.array (Jvm.ClassFile.FieldType.object "java/lang/Object"))), Jvm.Cond.code ({ cls := "java/util/Arrays", name := "copyOf", desc := "([Ljava/lang/Object;I)[Ljava/lang/Object;" } : Jvm.MethodName) jdk_65_method_119_code (2 : Nat) (Option.some (Jvm.ClassFile.FieldType.array (Jvm.ClassFile.FieldType.object "java/lang/Object"))), Jvm.Cond.code ({ cls := "java/util/Arrays", name := "copyOf", desc := "([Ljava/lang/Object;ILjava/lang/Class;)[Ljava/lang/Object;" } : Jvm.MethodName) jdk_65_method_120_code (4 : Nat) (Option.some (Jvm.ClassFile.FieldType.array (Jvm.ClassFile.FieldType.object "java/lang/Object"))), Jvm.Cond.code ({ cls := "java/lang/Math", name := "min", desc := "(II)I" } : Jvm.MethodName) jdk_29_method_69_code (2 : Nat) (Option.some Jvm.ClassFile.FieldType.int), Jvm.Cond.code ({ cls := "java/util/List", name := "of", desc := "([Ljava/lang/Object;)Ljava/util/List;" } : Jvm.MethodName) jdk_40_method_47_code (2 : Nat) (Option.some (Jvm.ClassFile.FieldType.object "java/util/List")), Jvm.Cond.code ({ cls := "java/util/ImmutableCollections", name := "listFromArray", desc := "([Ljava/lang/Object;)Ljava/util/List;" } : Jvm.MethodName) jdk_56_method_4_code (3 : Nat) (Option.some (Jvm.ClassFile.FieldType.object "java/util/List")), Jvm.Cond.code ({ cls := "java/util/Objects", name := "requireNonNull", desc := "(Ljava/lang/Object;)Ljava/lang/Object;" } : Jvm.MethodName) jdk_31_method_10_code (1 : Nat) (Option.some (Jvm.ClassFile.FieldType.object "java/lang/Object")), Jvm.Cond.code ({ cls := "java/util/ImmutableCollections$ListN", name := "<init>", desc := "([Ljava/lang/Object;Z)V" } : Jvm.MethodName) jdk_45_method_1_code (3 : Nat) (Option.none : Option Jvm.ClassFile.FieldType), Jvm.Cond.code ({ cls := "java/util/ImmutableCollections$AbstractImmutableList", name := "<init>", desc := "()V" } : Jvm.MethodName) jdk_46_method_1_code (1 : Nat) (Option.none : Option Jvm.ClassFile.FieldType), Jvm.Cond.code ({ cls := "java/util/ImmutableCollections$AbstractImmutableCollection", name := "<init>", desc := "()V" } : Jvm.MethodName) jdk_47_method_1_code (1 : Nat) (Option.none : Option Jvm.ClassFile.FieldType), Jvm.Cond.code ({ cls := "java/lang/String", name := "charAt", desc := "(I)C" } : Jvm.MethodName) jdk_42_method_56_code (2 : Nat) (Option.some Jvm.ClassFile.FieldType.char), Jvm.Cond.code ({ cls := "java/lang/String", name := "isLatin1", desc := "()Z" } : Jvm.MethodName) jdk_42_method_154_code (1 : Nat) (Option.some Jvm.ClassFile.FieldType.boolean), Jvm.Cond.code ({ cls := "java/lang/StringLatin1", name := "charAt", desc := "([BI)C" } : Jvm.MethodName) jdk_43_method_2_code (2 : Nat) (Option.some Jvm.ClassFile.FieldType.char), Jvm.Cond.code ({ cls := "java/lang/String", name := "checkIndex", desc := "(II)V" } : Jvm.MethodName) jdk_42_method_155_code (2 : Nat) (Option.none : Option Jvm.ClassFile.FieldType), Jvm.Cond.code ({ cls := "jdk/internal/util/Preconditions", name := "checkIndex", desc := "(IILjava/util/function/BiFunction;)I" } : Jvm.MethodName) jdk_41_method_11_code (3 : Nat) (Option.some Jvm.ClassFile.FieldType.int), Jvm.Cond.code ({ cls := "java/util/ImmutableCollections$List12", name := "<init>", desc := "(Ljava/lang/Object;Ljava/lang/Object;)V" } : Jvm.MethodName) jdk_44_method_2_code (3 : Nat) (Option.none : Option Jvm.ClassFile.FieldType), Jvm.Cond.code ({ cls := "java/util/ImmutableCollections$List12", name := "size", desc := "()I" } : Jvm.MethodName) jdk_44_method_3_code (1 : Nat) (Option.some Jvm.ClassFile.FieldType.int), Jvm.Cond.code ({ cls := "java/util/ImmutableCollections$List12", name := "get", desc := "(I)Ljava/lang/Object;" } : Jvm.MethodName) jdk_44_method_5_code (2 : Nat) (Option.some (Jvm.ClassFile.FieldType.object "java/lang/Object")), Jvm.Cond.code ({ cls := "java/lang/String", name := "equals", desc := "(Ljava/lang/Object;)Z" } : Jvm.MethodName) jdk_42_method_66_code (3 : Nat) (Option.some Jvm.ClassFile.FieldType.boolean), Jvm.Cond.code ({ cls := "java/lang/StringLatin1", name := "equals", desc := "([B[B)Z" } : Jvm.MethodName) jdk_43_method_13_code (3 : Nat) (Option.some Jvm.ClassFile.FieldType.boolean), Jvm.Cond.code ({ cls := "java/util/ImmutableCollections$List12", name := "<init>", desc := "(Ljava/lang/Object;)V" } : Jvm.MethodName) jdk_44_method_1_code (2 : Nat) (Option.none : Option Jvm.ClassFile.FieldType)]
set_option maxRecDepth 65536 in
theorem codes_eq : words1.filter isCode = codes1 := rfl
theorem w_codes : ∀ c ∈ words1.filter isCode, c.before args0 about1 = true := by
  rw [codes_eq]
  intro c hc
  simp only [codes1, List.mem_cons, List.not_mem_nil, or_false] at hc
  rcases hc with rfl | rfl | rfl | rfl | rfl | rfl | rfl | rfl | rfl | rfl | rfl | rfl | rfl | rfl | rfl | rfl | rfl | rfl | rfl | rfl | rfl | rfl | rfl | rfl | rfl | rfl | rfl | rfl | rfl | rfl | rfl | rfl | rfl | rfl | rfl | rfl | rfl | rfl | rfl | rfl | rfl | rfl | rfl | rfl | rfl | rfl | rfl | rfl
  · exact w_c0
  · exact w_c1
  · exact w_c2
  · exact w_c3
  · exact w_c4
  · exact w_c5
  · exact w_c6
  · exact w_c7
  · exact w_c8
  · exact w_c9
  · exact w_c10
  · exact w_c11
  · exact w_c12
  · exact w_c13
  · exact w_c14
  · exact w_c15
  · exact w_c16
  · exact w_c17
  · exact w_c18
  · exact w_c19
  · exact w_c20
  · exact w_c21
  · exact w_c22
  · exact w_c23
  · exact w_c24
  · exact w_c25
  · exact w_c26
  · exact w_c27
  · exact w_c28
  · exact w_c29
  · exact w_c30
  · exact w_c31
  · exact w_c32
  · exact w_c33
  · exact w_c34
  · exact w_c35
  · exact w_c36
  · exact w_c37
  · exact w_c38
  · exact w_c39
  · exact w_c40
  · exact w_c41
  · exact w_c42
  · exact w_c43
  · exact w_c44
  · exact w_c45
  · exact w_c46
  · exact w_c47
set_option maxRecDepth 65536 in
theorem w_t1 : (words1.take 24).all (fun c => isCode c || c.before args0 about1) = true := by decide +kernel
set_option maxRecDepth 65536 in
theorem w_t2 : ((words1.drop 24).take 24).all (fun c => isCode c || c.before args0 about1) = true := by decide +kernel
set_option maxRecDepth 65536 in
theorem w_t3 : (((words1.drop 24).drop 24).take 24).all (fun c => isCode c || c.before args0 about1) = true := by decide +kernel
set_option maxRecDepth 65536 in
theorem w_t4 : ((((words1.drop 24).drop 24).drop 24).take 24).all (fun c => isCode c || c.before args0 about1) = true := by decide +kernel
set_option maxRecDepth 65536 in
theorem w_t5 : (((((words1.drop 24).drop 24).drop 24).drop 24).take 24).all (fun c => isCode c || c.before args0 about1) = true := by decide +kernel
set_option maxRecDepth 65536 in
theorem w_t6 : ((((((words1.drop 24).drop 24).drop 24).drop 24).drop 24).take 24).all (fun c => isCode c || c.before args0 about1) = true := by decide +kernel
set_option maxRecDepth 65536 in
theorem w_t7 : (((((((words1.drop 24).drop 24).drop 24).drop 24).drop 24).drop 24).take 24).all (fun c => isCode c || c.before args0 about1) = true := by decide +kernel
set_option maxRecDepth 65536 in
theorem w_t8 : ((((((((words1.drop 24).drop 24).drop 24).drop 24).drop 24).drop 24).drop 24).take 24).all (fun c => isCode c || c.before args0 about1) = true := by decide +kernel
set_option maxRecDepth 65536 in
theorem w_t9 : (((((((((words1.drop 24).drop 24).drop 24).drop 24).drop 24).drop 24).drop 24).drop 24).take 24).all (fun c => isCode c || c.before args0 about1) = true := by decide +kernel
set_option maxRecDepth 65536 in
theorem w_t10 : ((((((((((words1.drop 24).drop 24).drop 24).drop 24).drop 24).drop 24).drop 24).drop 24).drop 24).take 24).all (fun c => isCode c || c.before args0 about1) = true := by decide +kernel
set_option maxRecDepth 65536 in
theorem w_t11 : (((((((((((words1.drop 24).drop 24).drop 24).drop 24).drop 24).drop 24).drop 24).drop 24).drop 24).drop 24).take 24).all (fun c => isCode c || c.before args0 about1) = true := by decide +kernel
set_option maxRecDepth 65536 in
theorem w_t12 : ((((((((((((words1.drop 24).drop 24).drop 24).drop 24).drop 24).drop 24).drop 24).drop 24).drop 24).drop 24).drop 24).take 24).all (fun c => isCode c || c.before args0 about1) = true := by decide +kernel
set_option maxRecDepth 65536 in
theorem w_t13 : ((((((((((((words1.drop 24).drop 24).drop 24).drop 24).drop 24).drop 24).drop 24).drop 24).drop 24).drop 24).drop 24).drop 24).all (fun c => isCode c || c.before args0 about1) = true := by decide +kernel
theorem w_tables : (allAtoms (Jvm.Cond.code x code maxLocals ret :: tables_1)).before args0 about1 = true := by
  rw [allAtoms_all]
  show words1.all (fun c => c.before args0 about1) = true
  refine all_split ?_ w_codes
  rw [← List.take_append_drop 24 words1, List.all_append, w_t1, ← List.take_append_drop 24 (words1.drop 24), List.all_append, w_t2, ← List.take_append_drop 24 ((words1.drop 24).drop 24), List.all_append, w_t3, ← List.take_append_drop 24 (((words1.drop 24).drop 24).drop 24), List.all_append, w_t4, ← List.take_append_drop 24 ((((words1.drop 24).drop 24).drop 24).drop 24), List.all_append, w_t5, ← List.take_append_drop 24 (((((words1.drop 24).drop 24).drop 24).drop 24).drop 24), List.all_append, w_t6, ← List.take_append_drop 24 ((((((words1.drop 24).drop 24).drop 24).drop 24).drop 24).drop 24), List.all_append, w_t7, ← List.take_append_drop 24 (((((((words1.drop 24).drop 24).drop 24).drop 24).drop 24).drop 24).drop 24), List.all_append, w_t8, ← List.take_append_drop 24 ((((((((words1.drop 24).drop 24).drop 24).drop 24).drop 24).drop 24).drop 24).drop 24), List.all_append, w_t9, ← List.take_append_drop 24 (((((((((words1.drop 24).drop 24).drop 24).drop 24).drop 24).drop 24).drop 24).drop 24).drop 24), List.all_append, w_t10, ← List.take_append_drop 24 ((((((((((words1.drop 24).drop 24).drop 24).drop 24).drop 24).drop 24).drop 24).drop 24).drop 24).drop 24), List.all_append, w_t11, ← List.take_append_drop 24 (((((((((((words1.drop 24).drop 24).drop 24).drop 24).drop 24).drop 24).drop 24).drop 24).drop 24).drop 24).drop 24), List.all_append, w_t12, w_t13]
  rfl
set_option maxRecDepth 65536 in
theorem w_rest : rest_1_c.before args0 about1 = true := by decide +kernel
set_option maxRecDepth 65536 in
theorem w_case : (Jvm.Cond.and given_1 narrow_1).before args0 about1 = true := by decide +kernel
set_option maxRecDepth 65536 in
theorem w_consts : constsHeld consts_1 about1 := Jvm.Lit.constsHeldB_iff.mp (by decide +kernel)
theorem w_applies : (headSpec (Jvm.Cond.code x code maxLocals ret :: tables_1) room_1).applies x e0.platform about1 = true :=
  (Spec.applies_iff w_frames).mpr ⟨w_running, w_runnable, w_alone, w_named, w_hears, w_ripe, w_room, w_tables⟩
theorem atStart : AtStart classFile x code maxLocals ret World_1 tables_1 room_1 Calls_1 rest_1 Pre_1 launch0 p0 e0 about1 theMethod args0 below0 :=
  ⟨lists_1, trivial, launch0.admits_env _ _ _, launch0.least_env, fairChoices_fair.cas, fairChoices_fair.clock, w_frames, w_args, w_heap, w_applies, ⟨⟨40, k40, 4, by decide +kernel, rfl, rfl, _, rfl, rfl⟩, ⟨w_consts, trivial⟩⟩, w_rest, w_case⟩
end start1
theorem witness_1 : WitnessClaimed_1 := ⟨start1.p0, start1.e0, start1.about1, start1.theMethod, start1.args0, start1.below0, start1.atStart⟩
end Jvm.Pilot.@@N@@
