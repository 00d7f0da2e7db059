import JvmDerived
import JvmDerived.Pilot.@@N@@Statement
import JvmDerived.Pilot.@@N@@Code
set_option linter.unusedVariables false
set_option linter.unusedSimpArgs false
set_option maxRecDepth 65536
set_option maxHeartbeats 40000000
namespace Jvm.Ow
open Jvm Jvm.ClassFile Sem Op Lib Jvm.Free Jvm.Stand Jvm.LawKit Jvm.RoadKit Bundle
theorem ltA {a b : Nat} (h : a < b) : a < b := h
theorem leA {a b : Nat} (h : a ≤ b) : a ≤ b := h
theorem neA {a b : Nat} (h : a ≠ b) : a ≠ b := h
abbrev vI (x : Int32) : Slot := .val (.int x)
abbrev vR (a : Addr) : Slot := .val (.ref a)
theorem mroom {x W : Nat} {rest : List Value} (hx : x = 0) (h : (rest.map fun v => v.category).sum = W) : 2 * x + (rest.map fun v => v.category).sum ≤ W := by subst hx; omega
theorem sz {n k x : Nat} (h : x = k) (q : n = k) : n = x := q.trans h.symm
theorem memI {α : Type} {l : List α} {i : Nat} {a : α} (h : l[i]? = some a) : a ∈ l := List.mem_of_getElem? h
section Base
variable {p : Program} {l : Launch} {e : Env} {R : Room} {s : State} {m : MethodId} {args : Array Value} {below : List Frame} {meth : Method} {c : Code} {own : String} {Z : State} {a0 : Array Value} {EL : List (String × Nat)} {h0 : Heap} {T : State} {h h' : Heap} {vm vm' : Vm} {cells slots : Nat} {P : Outcome → State → Prop} {g : JFrame}
/-- from t the invocation comes to an end at which P holds -/
def Gets (p : Program) (e : Env) (below : List Frame) (P : Outcome → State → Prop) (t : State) : Prop := ∃ u o, Steps p.tables e below t u ∧ u.status = .running ∧ Ended u below o ∧ P o u
theorem Gets.via {t t' : State} (h : ∀ u, Steps p.tables e below t' u → Steps p.tables e below t u) (k : Gets p e below P t') : Gets p e below P t := by
  obtain ⟨u, o, h1, h2⟩ := k
  exact ⟨u, o, h _ h1, h2⟩
theorem Gets.steps {t t' : State} (h : Steps p.tables e below t t') (k : Gets p e below P t') : Gets p e below P t := k.via fun _ q => h.trans q
/-- where a walk stands: over the start with the tables at hand; what it may have interned; what the literals hold; nothing of the law's start written -/
def Wk (p : Program) (l : Launch) (e : Env) (R : Room) (s : State) (m : MethodId) (args : Array Value) (below : List Frame) (meth : Method) (c : Code) (own : String) (Z : State) (a0 : Array Value) (EL : List (String × Nat)) (h0 : Heap) (T : State) (h : Heap) (vm : Vm) (cells slots : Nat) : Prop :=
  ∃ (locs : List Loc) (k : Nat), Stand p l e R (s.setVm vm) m args below meth c T locs cells slots ∧ T.heap = h ∧ s.Since vm k ∧ k ≤ h.size ∧ Z.Warmed39 vm ∧ vm.findClass own = some m.cls ∧ CHr Z EL s.vm h0 vm h ∧ Fr Z.heap.size locs ∧ Old Z Z.heap.size h ∧ p.tables.exec = Jvm.exec ∧ EW Z a0 EL ∧ s.heap = h0 ∧ meth.locks = false
/-- what an invocation leaves -/
def Out (s : State) (Z : State) (EL : List (String × Nat)) (rm : Room) (Q : Option Value → Vm → Heap → Prop) (o : Outcome) (u : State) : Prop :=
  ∃ (v : Option Value) (L : List Loc), o = .returned v ∧ (Q v u.vm u.heap ∧ Fr Z.heap.size L ∧ Old Z Z.heap.size u.heap) ∧ CHr Z EL s.vm s.heap u.vm u.heap ∧ ReturnedEndW s o u L rm.cells rm.slots
/-- a contract -/
def Met (l : Launch) (Z : State) (EL : List (String × Nat)) (y : MethodName) (bytes : ByteArray) (maxL : Nat) (ret : Option FieldType) (ws : List Jvm.Cond) (rm : Room) (sf : List Addr) (as : Array Value) (h : Heap) (Q : Option Value → Vm → Heap → Prop) : Prop :=
  MetFree l y (head1 (Jvm.Cond.code y bytes maxL ret :: ws) rm) (fun a U => a = as ∧ Z.Warmed39 U.vm ∧ U.heap = h ∧ CHv Z EL U.vm h ∧ ∀ x ∈ sf, Safe Z EL U.vm h x) (fun _ _ _ _ _ => True) (fun _ U o U' => Out U Z EL rm Q o U')
theorem Met.start {y : MethodName} {bytes : ByteArray} {maxL : Nat} {ret : Option FieldType} {ws : List Jvm.Cond} {rm : Room} {sf : List Addr} {as : Array Value} {Q : Option Value → Vm → Heap → Prop} (hp : plainFor y = true) (hEL : EW Z a0 EL) (hO : Old Z Z.heap.size h) {Ls : Array Slot} (hent : ∀ m, entryFrame m as maxL = mkF m 0 Ls [])
    (body : ∀ p e s m below meth c T vm, Wk p l e rm s m as below meth c y.cls Z a0 EL h T h vm 0 0 → (∀ x ∈ sf, Safe Z EL vm h x) → c.code = bytes → c.maxLocals = maxL → meth.sig.returnType = ret → meth.name = y.name → Gets p e below (Out s Z EL rm Q) (T.setTop (mkF m 0 Ls []))) :
    Met l Z EL y bytes maxL ret ws rm sf as h Q := by
  refine MetFree.of_bodySF hp hisR ?_
  intro p e s m args below meth c s₁ Bd hml0 hP hK
  obtain ⟨rfl, hZ, hh, hC, hsf⟩ := hP
  have e0 : s₁.heap = h := by rw [← hh, Bd.state]; rfl
  have X0 : Stand p l e rm s m args below meth c s₁ [] 0 0 := Stand.of_body Bd
  have hown : s.vm.findClass y.cls = some m.cls := findClass_of_methodNamed Bd.named
  have W0 : Wk p l e rm s m args below meth c y.cls Z a0 EL h s₁ h s.vm 0 0 :=
    ⟨[], 0, X0, e0, ⟨State.Warmed39.refl s, fun j q hj hq => absurd (Array.getElem?_eq_some_iff.mp hq).1 (Nat.not_lt.mpr hj)⟩, Nat.zero_le _, hZ, hown, CHr.refl hC, Fr.nil _, hO, Bd.exec, hEL, hh, Bd.notSynchronized⟩
  have k := body p e s m below meth c s₁ s.vm W0 hsf Bd.bytes hml0 Bd.returns (name_of_methodNamed Bd.named Bd.method).1
  obtain ⟨u, o, h1, h2, h3, h4⟩ := k
  exact ⟨u, o, castTop (hent m) h1, h2, h3, h4⟩
theorem Wk.at (X : Wk p l e R s m args below meth c own Z a0 EL h0 T h vm cells slots) : At T m c below := by obtain ⟨_, _, X, -⟩ := X; exact X.here
theorem Wk.hx (X : Wk p l e R s m args below meth c own Z a0 EL h0 T h vm cells slots) : p.tables.exec = Jvm.exec := by obtain ⟨_, _, -, -, -, -, -, -, -, -, -, q, -⟩ := X; exact q
theorem Wk.hZ (X : Wk p l e R s m args below meth c own Z a0 EL h0 T h vm cells slots) : Z.Warmed39 vm := by obtain ⟨_, _, -, -, -, -, q, -⟩ := X; exact q
theorem Wk.eT (X : Wk p l e R s m args below meth c own Z a0 EL h0 T h vm cells slots) : T.heap = h := by obtain ⟨_, _, -, q, -⟩ := X; exact q
theorem Wk.old (X : Wk p l e R s m args below meth c own Z a0 EL h0 T h vm cells slots) : Old Z Z.heap.size h := by obtain ⟨_, _, -, -, -, -, -, -, -, -, q, -⟩ := X; exact q
theorem Wk.chv (X : Wk p l e R s m args below meth c own Z a0 EL h0 T h vm cells slots) : CHv Z EL vm h := by obtain ⟨_, _, -, -, -, -, -, -, q, -⟩ := X; exact q.1
theorem Wk.ew (X : Wk p l e R s m args below meth c own Z a0 EL h0 T h vm cells slots) : EW Z a0 EL := by obtain ⟨_, _, -, -, -, -, -, -, -, -, -, -, q, -⟩ := X; exact q
theorem Wk.ge (X : Wk p l e R s m args below meth c own Z a0 EL h0 T h vm cells slots) : Z.heap.size ≤ h.size := X.old.2.1
theorem Wk.sta (X : Wk p l e R s m args below meth c own Z a0 EL h0 T h vm cells slots) {C n d : String} {v : Value} (F : Sta Z Z.heap C n d v) : Sta Z h C n d v := F.ext X.old.2
theorem Wk.more (X : Wk p l e R s m args below meth c own Z a0 EL h0 T h vm cells slots) {cells' slots' : Nat} (q1 : cells ≤ cells') (q2 : slots ≤ slots') : Wk p l e R s m args below meth c own Z a0 EL h0 T h vm cells' slots' := by
  obtain ⟨locs, k, Y, r⟩ := X; exact ⟨locs, k, Y.mono q1 q2, r⟩
/-- a step that leaves heap and base -/
theorem Wk.still (X : Wk p l e R s m args below meth c own Z a0 EL h0 T h vm cells slots) {T' : State} (hY : ∀ locs, Stand p l e R (s.setVm vm) m args below meth c T locs cells slots → Stand p l e R (s.setVm vm) m args below meth c T' locs cells slots) (hT : T'.heap = h) : Wk p l e R s m args below meth c own Z a0 EL h0 T' h vm cells slots := by
  obtain ⟨locs, k, Y, -, r⟩ := X; exact ⟨locs, k, hY _ Y, hT, r⟩
theorem Wk.getF (X : Wk p l e R s m args below meth c own Z a0 EL h0 T h vm cells slots) {R0 O n d host : String} {index : Nat} (w : (Jvm.Cond.fieldLink own index R0 n d).before a0 Z = true ∨ (Jvm.Cond.fieldLinkNest own index R0 n d host).before a0 Z = true) (via : Via Z R0 O n d) {a : Addr} {v : Value} (F : Fld Z h a O n d v)
    (hg : g.method = m) {rest : List Value} (hs : g.stack = .ref a :: rest) (hd : decode c.code g.pc = .ok (.getfield index, 3))
    (k : ∀ T', Wk p l e R s m args below meth c own Z a0 EL h0 T' h vm cells slots → Gets p e below P (T'.setTop { g with pc := g.pc + 3, stack := v :: rest })) : Gets p e below P (T.setTop g) := by
  obtain ⟨locs, j, Y, eT, hS, hk, hZ, hown, hC, N, hO, hx, r⟩ := X
  obtain ⟨T', Y', e', st⟩ := RoadKit.getF Y hx hZ hown w via eT F hg hs hd
  exact (k T' ⟨locs, j, Y', e', hS, hk, hZ, hown, hC, N, hO, hx, r⟩).via st
theorem Wk.getS (X : Wk p l e R s m args below meth c own Z a0 EL h0 T h vm cells slots) {R0 O n d host : String} {index : Nat} (w : (Jvm.Cond.fieldLink own index R0 n d).before a0 Z = true ∨ (Jvm.Cond.fieldLinkNest own index R0 n d host).before a0 Z = true) (via : Via Z R0 O n d) {v : Value} (F : Sta Z h O n d v)
    (hg : g.method = m) (hd : decode c.code g.pc = .ok (.getstatic index, 3))
    (k : ∀ T', Wk p l e R s m args below meth c own Z a0 EL h0 T' h vm cells slots → Gets p e below P (T'.setTop { g with pc := g.pc + 3, stack := v :: g.stack })) : Gets p e below P (T.setTop g) := by
  obtain ⟨locs, j, Y, eT, hS, hk, hZ, hown, hC, N, hO, hx, r⟩ := X
  obtain ⟨T', Y', e', st⟩ := RoadKit.getS2 Y hx hZ hown w via eT F hg hd
  exact (k T' ⟨locs, j, Y', e', hS, hk, hZ, hown, hC, N, hO, hx, r⟩).via st
theorem Wk.cast (X : Wk p l e R s m args below meth c own Z a0 EL h0 T h vm cells slots) {K : String} {index : Nat} (w : (Jvm.Cond.classLink own index K).before a0 Z = true) {a : Addr} (F : Ins Z h a K true)
    (hg : g.method = m) {rest : List Value} (hs : g.stack = .ref a :: rest) (hd : decode c.code g.pc = .ok (.checkcast index, 3))
    (k : ∀ T', Wk p l e R s m args below meth c own Z a0 EL h0 T' h vm cells slots → Gets p e below P (T'.setTop { g with pc := g.pc + 3 })) : Gets p e below P (T.setTop g) := by
  obtain ⟨locs, j, Y, eT, hS, hk, hZ, hown, hC, N, hO, hx, r⟩ := X
  obtain ⟨T', Y', e', st⟩ := RoadKit.castY Y hx hZ hown w eT F hg hs hd
  exact (k T' ⟨locs, j, Y', e', hS, hk, hZ, hown, hC, N, hO, hx, r⟩).via st
theorem Wk.inst (X : Wk p l e R s m args below meth c own Z a0 EL h0 T h vm cells slots) {K : String} {index : Nat} (w : (Jvm.Cond.classLink own index K).before a0 Z = true) {a : Addr} (F : Ins Z h a K true)
    (hg : g.method = m) {rest : List Value} (hs : g.stack = .ref a :: rest) (hd : decode c.code g.pc = .ok (.instanceof index, 3))
    (k : ∀ T', Wk p l e R s m args below meth c own Z a0 EL h0 T' h vm cells slots → Gets p e below P (T'.setTop { g with pc := g.pc + 3, stack := .int 1 :: rest })) : Gets p e below P (T.setTop g) := by
  obtain ⟨locs, j, Y, eT, hS, hk, hZ, hown, hC, N, hO, hx, r⟩ := X
  obtain ⟨T', Y', e', st⟩ := RoadKit.instY Y hx hZ hown w eT F hg hs hd
  exact (k T' ⟨locs, j, Y', e', hS, hk, hZ, hown, hC, N, hO, hx, r⟩).via st
theorem Wk.objInit (X : Wk p l e R s m args below meth c own Z a0 EL h0 T h vm cells slots) {idx : Nat} (w1 : (Jvm.Cond.methodLink own idx Lib.objectInit).before a0 Z = true) (w2 : (Jvm.Cond.instanceMethod Lib.objectInit).before a0 Z = true) (w3 : (Jvm.Cond.code Lib.objectInit ⟨#[0xb1]⟩ 1 none).before a0 Z = true)
    (hg : g.method = m) (hsize : g.locals.size = c.maxLocals) {a : Addr} {rest : List Value} (hs : g.stack = .ref a :: rest) (hd : decode c.code g.pc = .ok (.invokespecial idx, 3)) (hf : 1 ≤ R.frames) {W : Nat} (hW : 2 * g.monitorRoom + (rest.map fun v => v.category).sum ≤ W) (hl : W + 12 ≤ R.locals)
    (k : ∀ T', Wk p l e R s m args below meth c own Z a0 EL h0 T' h vm cells slots → Gets p e below P (T'.setTop { g with pc := g.pc + 3, stack := rest })) : Gets p e below P (T.setTop g) := by
  obtain ⟨locs, j, Y, eT, hS, hk, hZ, hown, hC, N, hO, hx, r⟩ := X
  obtain ⟨T', Y', e', st⟩ := RoadKit.initO Y hx hZ hown w1 w2 w3 eT hg hsize hs hd hf hW hl
  exact (k T' ⟨locs, j, Y', e', hS, hk, hZ, hown, hC, N, hO, hx, r⟩).via st
theorem Wk.new (X : Wk p l e R s m args below meth c own Z a0 EL h0 T h vm cells slots) {C : String} {index n : Nat} (w : (Jvm.Cond.classLink own index C).before a0 Z = true) (wi : (Jvm.Cond.instantiable C n).before a0 Z = true) (wz : (Jvm.Cond.initialized C).before a0 Z = true)
    (hg : g.method = m) (hd : decode c.code g.pc = .ok (.new index, 3)) (hc : cells + 1 ≤ R.cells) (hl : slots + n ≤ R.slots)
    (k : ∀ T' h' a, Wk p l e R s m args below meth c own Z a0 EL h0 T' h' vm (cells + 1) (slots + n) → CHr Z EL vm h vm h' → Ext h h' → a = h.size → Exa Z h' a C → Safe Z EL vm h' a → (∀ {O nm d : String} {ty : FieldType}, Laid Z a0 C O nm d → parseFieldDescriptor d = some ty → Fld Z h' a O nm d (defaultValue ty)) → Gets p e below P (T'.setTop { g with pc := g.pc + 3, stack := .ref a :: g.stack })) : Gets p e below P (T.setTop g) := by
  obtain ⟨locs, j, Y, eT, hS, hk, hZ, hown, hC, N, hO, hx, r⟩ := X
  obtain ⟨T', h', Y', e', E, A, D, -, st⟩ := RoadKit.newO Y hx hZ hown w wi wz eT hg hd hc hl
  have C1 : CHr Z EL vm h vm h' := CHr.ext E hC.1
  exact (k T' h' h.size ⟨locs, j, Y', e', hS, Nat.le_trans hk E.1, hZ, hown, hC.trans C1, N, hO.ext E, hx, r⟩ C1 E rfl A (Safe.ext E hC.1 (Safe.new (Nat.le_refl _))) D).via st
theorem Wk.newA (X : Wk p l e R s m args below meth c own Z a0 EL h0 T h vm cells slots) {aty : ArrayType} (w : (Jvm.Cond.arrayClass (newarray.typeOf aty)).before a0 Z = true) (hg : g.method = m) (hd : decode c.code g.pc = .ok (.newarray aty, 2)) {n : Int32} {rest : List Value} (hs : g.stack = .int n :: rest)
    (hn : ¬ n < 0) {cap : Nat} (hcap : n.toNatClampNeg ≤ cap) (hb : cap * 8 ≤ 536870912) (hc : cells + 1 ≤ R.cells) (hl : slots + cap ≤ R.slots)
    (k : ∀ T' h' a kc, Wk p l e R s m args below meth c own Z a0 EL h0 T' h' vm (cells + 1) (slots + cap) → CHr Z EL vm h vm h' → Ext h h' → a = h.size → Safe Z EL vm h' a → Arv Z h' a kc (newarray.typeOf aty) n [] (defaultValue (newarray.typeOf aty)) → Gets p e below P (T'.setTop { g with pc := g.pc + 2, stack := .ref a :: rest })) : Gets p e below P (T.setTop g) := by
  obtain ⟨locs, j, Y, eT, hS, hk, hZ, hown, hC, N, hO, hx, r⟩ := X
  obtain ⟨T', h', kc, Y', e', E, A, st⟩ := RoadKit.newP Y hx hZ w eT hg hd hs hn hcap hb hc hl
  have C1 : CHr Z EL vm h vm h' := CHr.ext E hC.1
  exact (k T' h' h.size kc ⟨locs, j, Y', e', hS, Nat.le_trans hk E.1, hZ, hown, hC.trans C1, N, hO.ext E, hx, r⟩ C1 E rfl (Safe.ext E hC.1 (Safe.new (Nat.le_refl _))) (Arv.new A hn)).via st
theorem Wk.putF (X : Wk p l e R s m args below meth c own Z a0 EL h0 T h vm cells slots) {R0 O n d host C : String} {index kk : Nat} {ty : FieldType} (w : (Jvm.Cond.fieldLink own index R0 n d).before a0 Z = true ∨ (Jvm.Cond.fieldLinkNest own index R0 n d host).before a0 Z = true) (via : Via Z R0 O n d)
    {a : Addr} {v old : Value} (F : Fld Z h a O n d old) (E : Exa Z h a C) (L : (Jvm.Cond.lays C O n d).before a0 Z = true ∨ ((Jvm.Cond.laysFinal C O n d).before a0 Z = true ∧ own = O ∧ meth.name = "<init>")) (wi : (Jvm.Cond.instantiable C kk).before a0 Z = true)
    (hty : parseFieldDescriptor d = some ty) (hn : narrow ty v = v) (hf : fits ty v = true) (hge : Z.heap.size ≤ a) (S : Safe Z EL vm h a) (hg : g.method = m) {rest : List Value} (hs : g.stack = v :: .ref a :: rest) (hd : decode c.code g.pc = .ok (.putfield index, 3))
    (k : ∀ T' h', Wk p l e R s m args below meth c own Z a0 EL h0 T' h' vm cells slots → CHr Z EL vm h vm h' → Wr h h' a (RoadKit.slotOf Z O n d) v → Fld Z h' a O n d v → Exa Z h' a C → Gets p e below P (T'.setTop { g with pc := g.pc + 3, stack := rest })) : Gets p e below P (T.setTop g) := by
  obtain ⟨locs, j, Y, eT, hS, hk, hZ, hown, hC, N, hO, hx, r⟩ := X
  obtain ⟨T', h', Y', e', W, st⟩ := RoadKit.putF Y hx hZ hown w via eT F E L wi hty hn hf hg hs hd
  have C1 : CHr Z EL vm h vm h' := CHr.wr W S hC.1
  exact (k T' h' ⟨_, j, Y', e', hS, Nat.le_trans hk (Nat.le_of_eq W.size.symm), hZ, hown, hC.trans C1, Fr.snoc Y' N hge, hO.wr W hge, hx, r⟩ C1 W (F.same W) (E.wr W)).via st
theorem padN {k : ClassId} {ty : FieldType} {z : Int32} {d : Value} {a : Addr} (F : Arv Z h a k ty z [] d) (n : Nat) : Arv Z h a k ty z (List.replicate n d) d := F.pad fun i => by
  rw [List.getD_eq_getElem?_getD, List.getElem?_replicate]; split <;> simp
theorem Wk.stC (X : Wk p l e R s m args below meth c own Z a0 EL h0 T h vm cells slots) {a : Addr} {kc : ClassId} {n : Int32} {vs : List Value} {dv : Value} (A : Arv Z h a kc .char n vs dv) {j x : Int32} {i : Nat} (hj0 : ¬ j < 0) (hj : j.toNatClampNeg = i) (hi : i < vs.length) (hin : i < n.toNatClampNeg) {v : Int32} (hv : nar .char x = v)
    (hge : Z.heap.size ≤ a) (hg : g.method = m) {rest : List Value} (hs : g.stack = .int x :: .int j :: .ref a :: rest) (hd : decode c.code g.pc = .ok (.castore, 1))
    (k : ∀ T' h', Wk p l e R s m args below meth c own Z a0 EL h0 T' h' vm cells slots → CHr Z EL vm h vm h' → Keep h h' [a] → Arv Z h' a kc .char n (vs.set i (.int v)) dv → Gets p e below P (T'.setTop { g with pc := g.pc + 1, stack := rest })) : Gets p e below P (T.setTop g) := by
  obtain ⟨locs, j', Y, eT, hS, hk, hZ, hown, hC, N, hO, hx, r⟩ := X
  obtain ⟨cl, A1, A2, A3, A4, A5, A6⟩ := A
  obtain ⟨T', h', Y', e', W, st⟩ := RoadKit.stC Y hx hZ eT A1 (j := j) (x := x) (fun q => q.elim hj0 (fun q => by rw [A3, hj] at q; omega)) hg hs hd
  have C1 : CHr Z EL vm h vm h' := CHr.wr W (Safe.arr hZ.alike A1 (by decide)) hC.1
  subst hv
  exact (k T' h' ⟨_, j', Y', e', hS, Nat.le_trans hk (Nat.le_of_eq W.size.symm), hZ, hown, hC.trans C1, Fr.snoc Y' N hge, hO.wr W hge, hx, r⟩ C1 (Keep.of_wr W) (Arv.set A1 A2 A3 A4 A5 A6 (fits_nar_char x) W i hj hi)).via st
theorem Wk.stB (X : Wk p l e R s m args below meth c own Z a0 EL h0 T h vm cells slots) {a : Addr} {kc : ClassId} {n : Int32} {vs : List Value} {dv : Value} (A : Arv Z h a kc .byte n vs dv) {j x : Int32} {i : Nat} (hj0 : ¬ j < 0) (hj : j.toNatClampNeg = i) (hi : i < vs.length) (hin : i < n.toNatClampNeg) {v : Int32} (hv : nar .byte x = v) (S : Safe Z EL vm h a)
    (hge : Z.heap.size ≤ a) (hg : g.method = m) {rest : List Value} (hs : g.stack = .int x :: .int j :: .ref a :: rest) (hd : decode c.code g.pc = .ok (.bastore, 1))
    (k : ∀ T' h', Wk p l e R s m args below meth c own Z a0 EL h0 T' h' vm cells slots → CHr Z EL vm h vm h' → Keep h h' [a] → Arv Z h' a kc .byte n (vs.set i (.int v)) dv → Gets p e below P (T'.setTop { g with pc := g.pc + 1, stack := rest })) : Gets p e below P (T.setTop g) := by
  obtain ⟨locs, j', Y, eT, hS, hk, hZ, hown, hC, N, hO, hx, r⟩ := X
  obtain ⟨cl, A1, A2, A3, A4, A5, A6⟩ := A
  obtain ⟨T', h', Y', e', W, st⟩ := RoadKit.stB Y hx hZ eT A1 (j := j) (x := x) (fun q => q.elim hj0 (fun q => by rw [A3, hj] at q; omega)) hg hs hd
  have C1 : CHr Z EL vm h vm h' := CHr.wr W S hC.1
  subst hv
  exact (k T' h' ⟨_, j', Y', e', hS, Nat.le_trans hk (Nat.le_of_eq W.size.symm), hZ, hown, hC.trans C1, Fr.snoc Y' N hge, hO.wr W hge, hx, r⟩ C1 (Keep.of_wr W) (Arv.set A1 A2 A3 A4 A5 A6 (fits_nar_byte x) W i hj hi)).via st
theorem Wk.alen (X : Wk p l e R s m args below meth c own Z a0 EL h0 T h vm cells slots) {a : Addr} {kc : ClassId} {ty : FieldType} {n : Int32} {vs : List Value} {dv : Value} (A : Arv Z h a kc ty n vs dv)
    (hg : g.method = m) {rest : List Value} (hs : g.stack = .ref a :: rest) (hd : decode c.code g.pc = .ok (.arraylength, 1))
    (k : Gets p e below P (T.setTop { g with pc := g.pc + 1, stack := .int n :: rest })) : Gets p e below P (T.setTop g) := by
  obtain ⟨locs, j', Y, eT, hS, hk, hZ, hown, hC, N, hO, hx, r⟩ := X
  obtain ⟨cl, A1, A2, A3, A4, A5, A6⟩ := A
  refine k.via fun u q => ?_
  refine Y.arraylength hx (by rw [eT]; exact A1.1) (State.isArrayOf_alike hZ.alike A1.2.1) hg hs hd _ ?_
  rw [A3, (back32 A4).1]; exact q
theorem Wk.ldC (X : Wk p l e R s m args below meth c own Z a0 EL h0 T h vm cells slots) {a : Addr} {kc : ClassId} {n : Int32} {vs : List Value} {dv v : Value} (A : Arv Z h a kc .char n vs dv) {j : Int32} {i : Nat} (hj0 : ¬ j < 0) (hj : j.toNatClampNeg = i) (hin : i < n.toNatClampNeg) (hv : vs.getD i dv = v)
    (hg : g.method = m) {rest : List Value} (hs : g.stack = .int j :: .ref a :: rest) (hd : decode c.code g.pc = .ok (.caload, 1))
    (k : Gets p e below P (T.setTop { g with pc := g.pc + 1, stack := v :: rest })) : Gets p e below P (T.setTop g) := by
  obtain ⟨locs, j', Y, eT, hS, hk, hZ, hown, hC, N, hO, hx, r⟩ := X
  obtain ⟨cl, A1, A2, A3, A4, A5, A6⟩ := A
  refine k.via fun u q => ?_
  exact Y.caload hx (j := j) (v := v) (by rw [eT]; exact A1.1) (State.isArrayOf_alike hZ.alike A1.2.1) A1.2.2 (fun q => q.elim hj0 (fun q => by rw [A3, hj] at q; omega)) (by rw [hj, A5 i (by rw [A3]; exact hin), hv]) hg hs hd _ q
theorem Wk.ldB (X : Wk p l e R s m args below meth c own Z a0 EL h0 T h vm cells slots) {a : Addr} {kc : ClassId} {n : Int32} {vs : List Value} {dv v : Value} (A : Arv Z h a kc .byte n vs dv) {j : Int32} {i : Nat} (hj0 : ¬ j < 0) (hj : j.toNatClampNeg = i) (hin : i < n.toNatClampNeg) (hv : vs.getD i dv = v)
    (hg : g.method = m) {rest : List Value} (hs : g.stack = .int j :: .ref a :: rest) (hd : decode c.code g.pc = .ok (.baload, 1))
    (k : Gets p e below P (T.setTop { g with pc := g.pc + 1, stack := v :: rest })) : Gets p e below P (T.setTop g) := by
  obtain ⟨locs, j', Y, eT, hS, hk, hZ, hown, hC, N, hO, hx, r⟩ := X
  obtain ⟨cl, A1, A2, A3, A4, A5, A6⟩ := A
  refine k.via fun u q => ?_
  exact Y.baloadBytes hx (j := j) (v := v) (by rw [eT]; exact A1.1) (State.isArrayOf_alike hZ.alike A1.2.1) A1.2.2 (fun q => q.elim hj0 (fun q => by rw [A3, hj] at q; omega)) (by rw [hj, A5 i (by rw [A3]; exact hin), hv]) hg hs hd _ q
theorem Wk.ldR (X : Wk p l e R s m args below meth c own Z a0 EL h0 T h vm cells slots) {a : Addr} {kc : ClassId} {ty : FieldType} {n : Int32} {vs : List Value} {dv v : Value} (A : Arv Z h a kc ty n vs dv) (hty : ty.isReference = true) {j : Int32} {i : Nat} (hj0 : ¬ j < 0) (hj : j.toNatClampNeg = i) (hin : i < n.toNatClampNeg) (hv : vs.getD i dv = v)
    (hg : g.method = m) {rest : List Value} (hs : g.stack = .int j :: .ref a :: rest) (hd : decode c.code g.pc = .ok (.aaload, 1))
    (k : Gets p e below P (T.setTop { g with pc := g.pc + 1, stack := v :: rest })) : Gets p e below P (T.setTop g) := by
  obtain ⟨locs, j', Y, eT, hS, hk, hZ, hown, hC, N, hO, hx, r⟩ := X
  obtain ⟨cl, A1, A2, A3, A4, A5, A6⟩ := A
  refine k.via fun u q => ?_
  exact Y.aaload hx (j := j) (v := v) (by rw [eT]; exact A1.1) (State.isArrayOf_alike hZ.alike A1.2.1) hty A1.2.2 (fun q => q.elim hj0 (fun q => by rw [A3, hj] at q; omega)) (by rw [hj, A5 i (by rw [A3]; exact hin), hv]) hg hs hd _ q
theorem Wk.ldcI (X : Wk p l e R s m args below meth c own Z a0 EL h0 T h vm cells slots) {index : Nat} {v : Int32} (w : (Jvm.Cond.constant own index v).before a0 Z = true) (hg : g.method = m) (hd : decode c.code g.pc = .ok (.ldc index, 2))
    (k : Gets p e below P (T.setTop { g with pc := g.pc + 2, stack := .int v :: g.stack })) : Gets p e below P (T.setTop g) := by
  obtain ⟨locs, j', Y, eT, hS, hk, hZ, hown, hC, N, hO, hx, r⟩ := X
  exact k.via fun u q => Y.ldcI hx hown (mv (s := s.setVm vm) hZ w) hg hd q
theorem Wk.ldcJ (X : Wk p l e R s m args below meth c own Z a0 EL h0 T h vm cells slots) {index : Nat} {v : Int64} (w : (Jvm.Cond.constantLong own index v).before a0 Z = true) (hg : g.method = m) (hd : decode c.code g.pc = .ok (.ldc2_w index, 3))
    (k : Gets p e below P (T.setTop { g with pc := g.pc + 3, stack := .long v :: g.stack })) : Gets p e below P (T.setTop g) := by
  obtain ⟨locs, j', Y, eT, hS, hk, hZ, hown, hC, N, hO, hx, r⟩ := X
  exact k.via fun u q => Y.ldc2J hx hown (mv (s := s.setVm vm) hZ w) hg hd q
theorem Wk.acmpW (X : Wk p l e R s m args below meth c own Z a0 EL h0 T h vm cells slots) (hx : p.tables.exec = Jvm.exec) (hg : g.method = m) {cd : ACond} {x y : Value} (h1 : x.isRef = true) (h2 : y.isRef = true) {rest : List Value} {o : Int} {pc0 pc' : Nat} {same : Bool} (hpc : g.pc = pc0)
    (hd : decode c.code g.pc = .ok (.if_acmp cd o, 3)) (hs : g.stack = y :: x :: rest) (hq : decide (x = y) = same) (ho : 0 ≤ (pc0 : Int) + o) (hp : pc' = if acV cd same = true then ((pc0 : Int) + o).toNat else pc0 + 3)
    (k : Gets p e below P (T.setTop { g with pc := pc', stack := rest })) : Gets p e below P (T.setTop g) := by
  obtain ⟨locs, j', Y, -⟩ := X
  exact k.via fun u q => RoadKit.acmp Y hx hg h1 h2 hpc hd hs hq ho hp q
theorem plainS {K : String} {x y : MethodName} (w : (Jvm.Cond.selects K x y).before a0 Z = true) (hy : y.cls = K) : ∃ t kt, Z.vm.findClass K = some t ∧ Z.vm.classes[t]? = some kt ∧ kt.isInterface = false := by
  obtain ⟨c2, r2, m2, q1, q2, q3, q4, kP, hkP, hkPi⟩ := Cond.selects_spec w
  exact ⟨m2.cls, kP, hy ▸ findClass_of_methodNamed q3, hkP, hkPi⟩
theorem plainI {K : String} {n : Nat} (w : (Jvm.Cond.instantiable K n).before a0 Z = true) : ∃ t kt, Z.vm.findClass K = some t ∧ Z.vm.classes[t]? = some kt ∧ kt.isInterface = false := by
  obtain ⟨c, k, h1, h2, -, h3, -⟩ := Cond.instantiable_spec w
  exact ⟨c, k, h1, h2, by simp at h3; exact h3.1⟩
theorem ns_root {O K : String} (w : (Jvm.Cond.noSuperclass O).before a0 Z = true) (hk : ∃ t kt, Z.vm.findClass K = some t ∧ Z.vm.classes[t]? = some kt ∧ kt.isInterface = false) (hn : O ≠ K) : NS Z O K := by
  obtain ⟨c, k, h1, h2, h3, -, -⟩ := Cond.noSuperclass_spec w
  obtain ⟨t, kt, g1, -⟩ := hk
  have ne := ids_ne h1 g1 hn
  refine ⟨c, t, h1, g1, fun fuel => ?_⟩
  cases fuel with
  | zero => rfl
  | succ f => simp [Vm.isSubclassAux, ne, h2, h3]
theorem ns_no {C S K : String} (w : (Jvm.Cond.superclass C S).before a0 Z = true) (hk : ∃ t kt, Z.vm.findClass K = some t ∧ Z.vm.classes[t]? = some kt ∧ kt.isInterface = false) (n : NS Z C K) (hn : C ≠ K) : ∃ c t, Z.vm.findClass C = some c ∧ Z.vm.findClass K = some t ∧ Z.vm.assignable c t = false := by
  obtain ⟨c, t, h0, g0, n3⟩ := n
  obtain ⟨p, k, kp, h1, h2, h3, h4, h5, -, h7⟩ := Cond.superclass_spec h0 w
  obtain ⟨t', kt, g1, g2, g3⟩ := hk
  cases g0.symm.trans g1
  have ne := ids_ne h0 g0 hn
  refine ⟨c, t, h0, g0, ?_⟩
  show Z.vm.assignableAux (255 + 1) c t = false
  cases hk : kt.kind <;> simp [Vm.assignableAux, ne, h2, g2, h5, hk, g3, Vm.isSubclass, n3]
theorem Wk.instNo (X : Wk p l e R s m args below meth c own Z a0 EL h0 T h vm cells slots) {K C : String} {index : Nat} (w : (Jvm.Cond.classLink own index K).before a0 Z = true) {a : Addr} (E : Exa Z h a C) (F : ∃ c t, Z.vm.findClass C = some c ∧ Z.vm.findClass K = some t ∧ Z.vm.assignable c t = false)
    (hg : g.method = m) {rest : List Value} (hs : g.stack = .ref a :: rest) (hd : decode c.code g.pc = .ok (.instanceof index, 3))
    (k : ∀ T', Wk p l e R s m args below meth c own Z a0 EL h0 T' h vm cells slots → Gets p e below P (T'.setTop { g with pc := g.pc + 3, stack := .int 0 :: rest })) : Gets p e below P (T.setTop g) := by
  obtain ⟨locs, j, Y, eT, hS, hk, hZ, hown, hC, N, hO, hx, r⟩ := X
  obtain ⟨T', Y', e', st⟩ := RoadKit.instNo Y hx hZ hown w eT E F hg hs hd
  exact (k T' ⟨locs, j, Y', e', hS, hk, hZ, hown, hC, N, hO, hx, r⟩).via st
theorem Wk.getC (X : Wk p l e R s m args below meth c own Z a0 EL h0 T h vm cells slots) {C : String} {index : Nat}
    (w1 : (Jvm.Cond.methodLink own index ⟨"java/lang/Object", "getClass", "()Ljava/lang/Class;"⟩).before a0 Z = true) (w2 : (Jvm.Cond.declares ⟨"java/lang/Object", "getClass", "()Ljava/lang/Class;"⟩).before a0 Z = true) (w3 : (Jvm.Cond.noSuperclass "java/lang/Object").before a0 Z = true) (w4 : (Jvm.Cond.selects C ⟨"java/lang/Object", "getClass", "()Ljava/lang/Class;"⟩ ⟨"java/lang/Object", "getClass", "()Ljava/lang/Class;"⟩).before a0 Z = true)
    (w5 : (Jvm.Cond.instanceMethod ⟨"java/lang/Object", "getClass", "()Ljava/lang/Class;"⟩).before a0 Z = true) (w6 : (Jvm.Cond.native ⟨"java/lang/Object", "getClass", "()Ljava/lang/Class;"⟩).before a0 Z = true) {a : Addr} (E : Exa Z h a C) {mr : Addr} (M : Mir Z C mr)
    (hg : g.method = m) (hsize : g.locals.size = c.maxLocals) {rest : List Value} (hs : g.stack = .ref a :: rest) (hd : decode c.code g.pc = .ok (.invokevirtual index, 3)) (hf : 1 ≤ R.frames) {W : Nat} (hW : 2 * g.monitorRoom + (rest.map fun v => v.category).sum ≤ W) (hl : W + (nativeFrameWords "java/lang/Object" "getClass" 1 + 11) ≤ R.locals)
    (k : ∀ T', Wk p l e R s m args below meth c own Z a0 EL h0 T' h vm cells slots → Gets p e below P (T'.setTop { g with pc := g.pc + 3, stack := .ref mr :: rest })) : Gets p e below P (T.setTop g) := by
  obtain ⟨locs, j, Y, eT, hS, hk, hZ, hown, hC, N, hO, hx, r⟩ := X
  obtain ⟨T', Y', e', st⟩ := RoadKit.gcls Y hx hZ hown w1 w2 w3 w4 w5 w6 eT E M hg hsize hs hd hf hW hl
  exact (k T' ⟨locs, j, Y', e', hS, hk, hZ, hown, hC, N, hO, hx, r⟩).via st
theorem mir_eval {C : String} {mr : Addr} (hal : Z.vm.Alike s.vm) (M : Mir Z C mr) : (Term.mirror C).eval args s none [] s = some (.ref mr) := by
  obtain ⟨cc, kc, m1, m2, m3, -⟩ := M
  obtain ⟨k', q1, q2⟩ := hal.2.2 _ _ m2
  have q3 : s.vm.findClass C = some cc := by rw [hal.findClass]; exact m1
  have q4 : k'.mirror = some mr := by rw [q2]; exact m3
  simp [Term.eval, q3, q1, q4]
theorem Wk.ldcM (X : Wk p l e R s m args below meth c own Z a0 EL h0 T h vm cells slots) {C : String} {index : Nat} (w : (Jvm.Cond.classLink own index C).before a0 Z = true) {mr : Addr} (M : Mir Z C mr) (hg : g.method = m) (hd : decode c.code g.pc = .ok (.ldc index, 2))
    (k : ∀ T', Wk p l e R s m args below meth c own Z a0 EL h0 T' h vm cells slots → Gets p e below P (T'.setTop { g with pc := g.pc + 2, stack := .ref mr :: g.stack })) : Gets p e below P (T.setTop g) := by
  obtain ⟨locs, j, Y, eT, hS, hk, hZ, hown, hC, N, hO, hx, r⟩ := X
  obtain ⟨vm', Y', st⟩ := Y.ldcMirror hx hown (mv (s := s.setVm vm) hZ w) (mir_eval (s := s.setVm vm) hZ.alike M) hg hd
  exact (k _ ⟨locs, j, Y', eT, hS, hk, hZ, hown, hC, N, hO, hx, r⟩).via st
theorem Wk.newR (X : Wk p l e R s m args below meth c own Z a0 EL h0 T h vm cells slots) {C : String} {index : Nat} (w1 : (Jvm.Cond.classLink own index C).before a0 Z = true) (w2 : (Jvm.Cond.arrayOver (.object C)).before a0 Z = true) (hg : g.method = m) (hd : decode c.code g.pc = .ok (.anewarray index, 3)) {n : Int32} {rest : List Value} (hs : g.stack = .int n :: rest)
    (hn : ¬ n < 0) {cap : Nat} (hcap : n.toNatClampNeg ≤ cap) (hb : cap * 8 ≤ 536870912) (hc : cells + 1 ≤ R.cells) (hl : slots + cap ≤ R.slots) {ad : String} (had : "[" ++ (FieldType.object C).toString = ad)
    (k : ∀ T' h' a kc, Wk p l e R s m args below meth c own Z a0 EL h0 T' h' vm (cells + 1) (slots + cap) → CHr Z EL vm h vm h' → Ext h h' → a = h.size → Exa Z h' a ad → Ovr Z kc C → Arv Z h' a kc (.object C) n [] .null → Gets p e below P (T'.setTop { g with pc := g.pc + 3, stack := .ref a :: rest })) : Gets p e below P (T.setTop g) := by
  obtain ⟨locs, j, Y, eT, hS, hk, hZ, hown, hC, N, hO, hx, r⟩ := X
  obtain ⟨T', h', kc, Y', e', E, A, Ea, Ov, st⟩ := RoadKit.newRE Y hx hZ hown w1 w2 eT hg hd hs hn hcap hb hc hl had
  have C1 : CHr Z EL vm h vm h' := CHr.ext E hC.1
  exact (k T' h' h.size kc ⟨locs, j, Y', e', hS, Nat.le_trans hk E.1, hZ, hown, hC.trans C1, N, hO.ext E, hx, r⟩ C1 E rfl Ea Ov (Arv.new A hn)).via st
theorem stoV {a y : Addr} {kc : ClassId} {ty : FieldType} {n : Int32} {vs : List Value} {dv : Value} {C : String} (A : Arv Z h a kc ty n vs dv) (O : Ovr Z kc C) (I : Ins Z h y C true) : Sto Z h a (.ref y) := by
  obtain ⟨cl, A1, A2, -⟩ := A; exact Sto.ofV A1 A2 O I
theorem Wk.stR (X : Wk p l e R s m args below meth c own Z a0 EL h0 T h vm cells slots) {a : Addr} {kc : ClassId} {C : String} {n : Int32} {vs : List Value} {dv : Value} (A : Arv Z h a kc (.object C) n vs dv) {v : Value} (F : Sto Z h a v) (hvr : fits (.object C) v = true) {j : Int32} {i : Nat} (hj0 : ¬ j < 0) (hj : j.toNatClampNeg = i) (hi : i < vs.length) (hin : i < n.toNatClampNeg)
    (hge : Z.heap.size ≤ a) (hg : g.method = m) {rest : List Value} (hs : g.stack = v :: .int j :: .ref a :: rest) (hd : decode c.code g.pc = .ok (.aastore, 1))
    (k : ∀ T' h', Wk p l e R s m args below meth c own Z a0 EL h0 T' h' vm cells slots → CHr Z EL vm h vm h' → Keep h h' [a] → Arv Z h' a kc (.object C) n (vs.set i v) dv → Gets p e below P (T'.setTop { g with pc := g.pc + 1, stack := rest })) : Gets p e below P (T.setTop g) := by
  obtain ⟨locs, j', Y, eT, hS, hk, hZ, hown, hC, N, hO, hx, r⟩ := X
  obtain ⟨cl, A1, A2, A3, A4, A5, A6⟩ := A
  obtain ⟨T', h', Y', e', W, st⟩ := RoadKit.stR Y hx hZ eT A1 (j := j) (fun q => q.elim hj0 (fun q => by rw [A3, hj] at q; omega)) rfl F hg hs hd
  have C1 : CHr Z EL vm h vm h' := CHr.wr W (Safe.arr hZ.alike A1 (by simp)) hC.1
  exact (k T' h' ⟨_, j', Y', e', hS, Nat.le_trans hk (Nat.le_of_eq W.size.symm), hZ, hown, hC.trans C1, Fr.snoc Y' N hge, hO.wr W hge, hx, r⟩ C1 (Keep.of_wr W) (Arv.set A1 A2 A3 A4 A5 A6 hvr W i hj hi)).via st
theorem Wk.copy (X : Wk p l e R s m args below meth c own Z a0 EL h0 T h vm cells slots) {index : Nat}
    (w1 : (Jvm.Cond.methodLink own index Jvm.Stand.acN).before a0 Z = true) (w2 : (Jvm.Cond.native Jvm.Stand.acN).before a0 Z = true) (w3 : (Jvm.Cond.static Jvm.Stand.acN).before a0 Z = true) (w4 : (Jvm.Cond.initialized "java/lang/System").before a0 Z = true)
    {a b : Addr} {k k' : ClassId} {ty ty' : FieldType} {z z' sp dp nn : Int32} {vs vd us : List Value} {dv dd : Value} (A : Arv Z h a k ty z vs dv) (B : Arv Z h b k' ty' z' vd dd) (hty : (ty = ty' ∧ refKind ty = false) ∨ (refKind ty = true ∧ refKind ty' = true ∧ StoL Z h b us))
    (h1 : ¬ sp < 0) (h2 : ¬ dp < 0) (h3 : ¬ nn < 0) (h4 : sp.toNatClampNeg + nn.toNatClampNeg ≤ z.toNatClampNeg) (h5 : dp.toNatClampNeg + nn.toNatClampNeg ≤ z'.toNatClampNeg)
    (hus : us = (List.range nn.toNatClampNeg).map fun i => vs.getD (sp.toNatClampNeg + i) dv) (hl : dp.toNatClampNeg + nn.toNatClampNeg ≤ vd.length) (ge : Z.heap.size ≤ b) (S : Safe Z EL vm h b)
    (hg : g.method = m) (hsize : g.locals.size = c.maxLocals) {rest : List Value} (hs : g.stack = .int nn :: .int dp :: .ref b :: .int sp :: .ref a :: rest) (hd : decode c.code g.pc = .ok (.invokestatic index, 3))
    (hf : 1 ≤ R.frames) {W : Nat} (hW : 2 * g.monitorRoom + (rest.map fun v => v.category).sum ≤ W) (hlo : W + (nativeFrameWords "java/lang/System" "arraycopy" 5 + 11) ≤ R.locals)
    (kk : ∀ T' h', Wk p l e R s m args below meth c own Z a0 EL h0 T' h' vm cells slots → CHr Z EL vm h vm h' → Keep h h' [b] → Arv Z h' b k' ty' z' (vd.take dp.toNatClampNeg ++ us ++ vd.drop (dp.toNatClampNeg + nn.toNatClampNeg)) dd → Gets p e below P (T'.setTop { g with pc := g.pc + 3, stack := rest })) : Gets p e below P (T.setTop g) := by
  obtain ⟨locs, j, Y, eT, hS, hk, hZ, hown, hC, N, hO, hx, r⟩ := X
  obtain ⟨T', h', L, Y', e', N', K, B', st⟩ := RoadKit.cpA Y hx hZ hown w1 w2 w3 w4 eT A B hty h1 h2 h3 h4 h5 hus hl N ge hg hsize hs hd hf hW hlo
  have C1 : CHr Z EL vm h vm h' := CHr.keep K (sfS S sf0) hC.1
  exact (kk T' h' ⟨L, j, Y', e', hS, Nat.le_trans hk K.1, hZ, hown, hC.trans C1, N', hO.keep K (allS ge all0), hx, r⟩ C1 K B').via st
/-- ldc of a String constant, what it holds not asked -/
theorem Wk.ldcO (X : Wk p l e R s m args below meth c own Z a0 EL h0 T h vm cells slots) {text : String} {index : Nat} (w : (Jvm.Cond.stringLink own index text).before a0 Z = true) (wS : ∀ a ∈ Bundle.stringAtoms, a.before a0 Z = true)
    (hg : g.method = m) (hd : decode c.code g.pc = .ok (.ldc index, 2)) {n : Nat} (hn : 4 * text.toList.length ≤ n) (hbig : n ≤ 536870912) (hc : cells + 2 ≤ R.cells) (hl : slots + (n + 4) ≤ R.slots)
    (k : ∀ T' h' vm' a, Wk p l e R s m args below meth c own Z a0 EL h0 T' h' vm' (cells + 2) (slots + (n + 4)) → CHr Z EL vm h vm' h' → Ext h h' → Gets p e below P (T'.setTop { g with pc := g.pc + 2, stack := .ref a :: g.stack })) : Gets p e below P (T.setTop g) := by
  obtain ⟨locs, j, Y, eT, hS, hk, hZ, hown, hC, N, hO, hx, hEL, r⟩ := X
  obtain ⟨a, T', h', k1, Y', e', E, hS', hk', hZ', hown', C1, -, st⟩ := RoadKit.ldcOH Y hx hZ hown w wS eT hS hk hEL hC.1 hg hd hn hbig hc hl
  exact (k T' h' T'.vm a ⟨locs, k1, Y', e', hS', hk', hZ', hown', hC.trans C1, N, hO.ext E, hx, hEL, r⟩ C1 E).via st
/-- ldc of a String constant that is read -/
theorem Wk.ldcC (X : Wk p l e R s m args below meth c own Z a0 EL h0 T h vm cells slots) {text : String} {index : Nat} (w : (Jvm.Cond.stringLink own index text).before a0 Z = true) (wS : ∀ a ∈ Bundle.stringAtoms, a.before a0 Z = true) (hmem : (own, index) ∈ EL)
    {vs : List Value} {z : Int32} (ht : (∀ c ∈ text.toList, c.toNat < 256) ∧ text.toList.map (fun c => Value.int (Jvm.Lit.byteI c.toNat.toUInt16)) = vs) (hz : ¬ z < 0) (hvl : z.toNatClampNeg = vs.length)
    (hg : g.method = m) (hd : decode c.code g.pc = .ok (.ldc index, 2)) {n : Nat} (hn : 4 * text.toList.length ≤ n) (hbig : n ≤ 536870912) (hc : cells + 2 ≤ R.cells) (hl : slots + (n + 4) ≤ R.slots)
    (k : ∀ T' h' vm' a b kb, Wk p l e R s m args below meth c own Z a0 EL h0 T' h' vm' (cells + 2) (slots + (n + 4)) → CHr Z EL vm h vm' h' → Ext h h' → Exa Z h' a "java/lang/String" → Fld Z h' a "java/lang/String" "coder" "B" (.int 0) → Fld Z h' a "java/lang/String" "value" "[B" (.ref b) → Arv Z h' b kb .byte z vs (.int 0) → (∀ x, Safe Z EL vm' h' x → x ≠ a ∧ x ≠ b) → Gets p e below P (T'.setTop { g with pc := g.pc + 2, stack := .ref a :: g.stack })) : Gets p e below P (T.setTop g) := by
  obtain ⟨locs, j, Y, eT, hS, hk, hZ, hown, hC, N, hO, hx, hEL, r⟩ := X
  obtain ⟨a, T', h', k1, b, kb, Y', e', E, hS', hk', hZ', hown', q1, q2, q3, q4, -, -, C1, -, q5, st⟩ := RoadKit.ldcCH Y hx hZ hown w wS eT hS hk hEL hmem hC.1 ht hz hvl hg hd hn hbig hc hl
  exact (k T' h' T'.vm a b kb ⟨locs, k1, Y', e', hS', hk', hZ', hown', hC.trans C1, N, hO.ext E, hx, hEL, r⟩ C1 E q1 q2 q3 q4 q5).via st
/-- who pays a call, in one shape -/
def Pay (l : Launch) (R : Room) (p : Program) (e : Env) (below : List Frame) (s : State) (args : Array Value) (y : MethodName) (len W : Nat) (Z : State) (EL : List (String × Nat)) (vm : Vm) (h : Heap) (as : Array Value) (rc rs : Nat) (Q : Option Value → Vm → Heap → Prop) : Prop :=
  BackS l R p e below (s.setVm vm) args y len W (fun A a => a = as ∧ A.U.heap = h ∧ A.cells + rc ≤ R.cells ∧ A.slots + rs ≤ R.slots)
    (fun A _ v B => ∃ L, (Q v B.U.vm B.U.heap ∧ Fr Z.heap.size L ∧ Old Z Z.heap.size B.U.heap) ∧ B.locs = A.locs ++ L ∧ B.cells = A.cells + rc ∧ B.slots = A.slots + rs ∧ CHr Z EL vm h B.U.vm B.U.heap)
theorem safe_later {x : Addr} (C : CHr Z EL vm h vm' h) (S : Safe Z EL vm h x) : Safe Z EL vm' h x := by
  by_cases q : x < h.size
  · exact C.safe q S
  · exact Safe.new (Nat.not_lt.mp q)
theorem Wk.payM (X : Wk p l e R s m args below meth c own Z a0 EL h0 T h vm cells slots) {y : MethodName} {bytes : ByteArray} {maxL : Nat} {ret : Option FieldType} {rm : Room} {sf : List Addr} {as : Array Value} {Q : Option Value → Vm → Heap → Prop} {len W : Nat} (M : Met l Z EL y bytes maxL ret [] rm sf as h Q) (hsf : ∀ x ∈ sf, Safe Z EL vm h x)
    (wc : (Jvm.Cond.code y bytes maxL ret).before a0 Z = true) (wz : (Jvm.Cond.initialized y.cls).before a0 Z = true) (hf : rm.frames + 1 ≤ R.frames := by decide) (hl : W + (maxL + 11) + rm.locals ≤ R.locals := by decide) : Pay l R p e below s args y len W Z EL vm h as rm.cells rm.slots Q := by
  have hZ := X.hZ
  have hEL := X.ew
  have H := X.chv
  exact BackS.of_freeW (bytes := bytes) (maxL := maxL) (ret := ret) (E := fun _ first o t L k n => k = rm.cells ∧ n = rm.slots ∧ (∃ v, o = .returned v ∧ (Q v t.vm t.heap ∧ Fr Z.heap.size L ∧ Old Z Z.heap.size t.heap)) ∧ CHr Z EL first.vm first.heap t.vm t.heap) M hf hl
    (fun m meth c A a Y hp => have hU : Z.Warmed39 A.U.vm := wtrans (s := s.setVm vm) hZ Y.warmed
      ⟨by show (Jvm.Cond.and _ .tt).before a A.U = true; rw [Cond.before_and, mv hU wc]; rfl, mv hU wc, mv hU wz, hp.2.2.1, hp.2.2.2⟩)
    (fun m meth c A a g mk Y hp => ⟨hp.1, wtrans (s := s.setVm vm) hZ Y.warmed, hp.2.1, (CHv.at Y hZ hEL H).1, fun x hx => safe_later (vm' := A.U.vm) (CHv.at Y hZ hEL H) (hsf x hx)⟩) (fun _ _ _ _ _ _ _ _ _ => trivial)
    (fun _ _ _ _ ⟨v, L, h1, h2, h3, h4⟩ => ⟨L, _, _, h4, rfl, rfl, ⟨v, h1, h2⟩, h3⟩)
    (fun m meth c A a g mk v t L k n Y hp _ _ ⟨e1, e2, ⟨v', e3, e4⟩, e5⟩ => by
      cases e3; subst e1 e2
      refine ⟨L, e4, rfl, rfl, rfl, (CHv.at Y hZ hEL H).trans ?_⟩
      rw [← hp.2.1]; exact e5)
/-- a narrow payer of the library's -/
theorem Wk.payN (X : Wk p l e R s m args below meth c own Z a0 EL h0 T h vm cells slots) {y : MethodName} {as : Array Value} {rc rs : Nat} {Qn : Option Value → Heap → List Loc → Prop} {Q : Option Value → Heap → Prop} {len W : Nat} {ws : List Addr}
    (hK : Back l R p e below (s.setVm vm) args y len W (fun A a => a = as ∧ A.U.heap = h ∧ A.cells + rc ≤ R.cells ∧ A.slots + rs ≤ R.slots) (fun A _ v B => ∃ L, Qn v B.U.heap L ∧ B.locs = A.locs ++ L ∧ B.cells = A.cells + rc ∧ B.slots = A.slots + rs))
    (hq : ∀ v u L, Qn v u L → Fr Z.heap.size L ∧ Keep h u ws ∧ Q v u) (hws : ∀ x ∈ ws, Z.heap.size ≤ x) (hsafe : ∀ x ∈ ws, Safe Z EL vm h x) : Pay l R p e below s args y len W Z EL vm h as rc rs (fun v _ u => Q v u) := by
  intro m' meth' c' A g' ig mk a Y hg hsize hd hW hn hpre
  obtain ⟨v, B, Y', ⟨L, q1, q2, q3, q4⟩, hsteps⟩ := hK m' meth' c' A g' ig mk a Y hg hsize hd hW hn hpre
  obtain ⟨N, K, q5⟩ := hq _ _ _ q1
  have C1 : CHr Z EL vm h vm B.U.heap := CHr.keep K hsafe X.chv
  have C2 := CHv.at Y' X.hZ X.ew C1.1
  exact ⟨v, B, Y'.retabled Y'.warmed.wide, Y'.warmed.since _, by rw [hpre.2.1]; exact K.1, ⟨L, ⟨q5, N, X.old.keep K hws⟩, q2, q3, q4, C1.trans C2⟩, hsteps⟩
theorem Wk.after (X : Wk p l e R s m args below meth c own Z a0 EL h0 T h vm cells slots) {locs : List Loc} {j : Nat} (hS : s.Since vm j) (hk : j ≤ h.size) (hC : CHr Z EL s.vm h0 vm h) (N : Fr Z.heap.size locs) (hO : Old Z Z.heap.size h) (hown : vm.findClass own = some m.cls)
    {B : Pt} {L : List Loc} {rc rs : Nat} (Y : Stand p l e R ((s.setVm vm).setVm B.U.vm) m args below meth c B.U B.locs B.cells B.slots) (S : (s.setVm vm).Since B.U.vm B.U.heap.size) (hgr : h.size ≤ B.U.heap.size) (q2 : B.locs = locs ++ L) (q3 : B.cells = cells + rc) (q4 : B.slots = slots + rs) (NL : Fr Z.heap.size L) (OL : Old Z Z.heap.size B.U.heap) (C1 : CHr Z EL vm h B.U.vm B.U.heap) :
    Wk p l e R s m args below meth c own Z a0 EL h0 B.U B.U.heap B.U.vm (cells + rc) (slots + rs) := by
  refine ⟨locs ++ L, B.U.heap.size, ?_, rfl, hS.trans S (Nat.le_trans hk hgr), Nat.le_refl _, State.Warmed39.trans (t := s.setVm vm) X.hZ S.1, ?_, hC.trans C1, N.app NL, OL, X.hx, X.ew, ?_⟩
  · rw [← q2, ← q3, ← q4]; exact Y
  · rw [S.1.alike.findClass]; exact hown
  · obtain ⟨_, _, -, -, -, -, -, -, -, -, -, -, -, r⟩ := X; exact r
theorem Wk.callS (X : Wk p l e R s m args below meth c own Z a0 EL h0 T h vm cells slots) {index : Nat} {y : MethodName} {bytes : ByteArray} {maxL : Nat} {ret : Option FieldType} (w1 : (Jvm.Cond.methodLink own index y).before a0 Z = true) (w2 : (Jvm.Cond.static y).before a0 Z = true) (w3 : (Jvm.Cond.initialized y.cls).before a0 Z = true) (w4 : (Jvm.Cond.code y bytes maxL ret).before a0 Z = true)
    (hy : y.cls ≠ "java/lang/invoke/MethodHandle" ∧ y.cls ≠ "java/lang/invoke/VarHandle") {W rc rs : Nat} {as : Array Value} {Q : Option Value → Vm → Heap → Prop} (hK : Pay l R p e below s args y 3 W Z EL vm h as rc rs Q)
    (hg : g.method = m) (hsize : g.locals.size = c.maxLocals) {argsL rest : List Value} (hlen : ∀ sig, parseMethodDescriptor y.desc = some sig → argsL.length = sig.parameters.length) (hstack : g.stack = argsL.reverse ++ rest) (has : argsL.toArray = as) (hW : 2 * g.monitorRoom + (rest.map fun v => v.category).sum ≤ W)
    (hdg : decode c.code g.pc = .ok (.invokestatic index, 3)) (hc : cells + rc ≤ R.cells) (hs : slots + rs ≤ R.slots)
    (k : ∀ T' h' vm' v, Wk p l e R s m args below meth c own Z a0 EL h0 T' h' vm' (cells + rc) (slots + rs) → CHr Z EL vm h vm' h' → h.size ≤ h'.size → Q v vm' h' → Gets p e below P (T'.setTop { g with pc := g.pc + 3, stack := v.toList ++ rest })) : Gets p e below P (T.setTop g) := by
  have X' := X
  obtain ⟨locs, j, Y, eT, hS, hk, hZ, hown, hC, N, hO, hx, r⟩ := X
  obtain ⟨v, vm₁, B, hW1, Y', S, hgr, ⟨L, ⟨q1, NL, OL⟩, q2, q3, q4, C1⟩, st⟩ := RoadKit.callSS Y hx hown (mv (s := s.setVm vm) hZ w1) (mv (s := s.setVm vm) hZ w2) (mv (s := s.setVm vm) hZ w3) (mv (s := s.setVm vm) hZ w4) hy hK hg hsize hlen hstack hW hdg (fun vm₁ _ => ⟨has, eT, hc, hs⟩)
  exact (k B.U B.U.heap B.U.vm v (X'.after hS hk hC N hO hown Y' S (eT ▸ hgr) q2 q3 q4 NL OL C1) C1 (eT ▸ hgr) q1).steps st
theorem Wk.callI (X : Wk p l e R s m args below meth c own Z a0 EL h0 T h vm cells slots) {index : Nat} {y : MethodName} {bytes : ByteArray} {maxL : Nat} (hy1 : y.name = "<init>") (w1 : (Jvm.Cond.methodLink own index y).before a0 Z = true) (w2 : (Jvm.Cond.instanceMethod y).before a0 Z = true) (w4 : (Jvm.Cond.code y bytes maxL none).before a0 Z = true)
    (hy : y.cls ≠ "java/lang/invoke/MethodHandle" ∧ y.cls ≠ "java/lang/invoke/VarHandle") {W rc rs : Nat} {as : Array Value} {Q : Option Value → Vm → Heap → Prop} (hK : Pay l R p e below s args y 3 W Z EL vm h as rc rs Q)
    (hg : g.method = m) (hsize : g.locals.size = c.maxLocals) {a : Addr} {argsL rest : List Value} (hlen : ∀ sig, parseMethodDescriptor y.desc = some sig → argsL.length = sig.parameters.length) (hstack : g.stack = argsL.reverse ++ .ref a :: rest) (has : (Value.ref a :: argsL).toArray = as) (hW : 2 * g.monitorRoom + (rest.map fun v => v.category).sum ≤ W)
    (hdg : decode c.code g.pc = .ok (.invokespecial index, 3)) (hc : cells + rc ≤ R.cells) (hs : slots + rs ≤ R.slots)
    (k : ∀ T' h' vm' v, Wk p l e R s m args below meth c own Z a0 EL h0 T' h' vm' (cells + rc) (slots + rs) → CHr Z EL vm h vm' h' → h.size ≤ h'.size → Q v vm' h' → Gets p e below P (T'.setTop { g with pc := g.pc + 3, stack := v.toList ++ rest })) : Gets p e below P (T.setTop g) := by
  have X' := X
  obtain ⟨locs, j, Y, eT, hS, hk, hZ, hown, hC, N, hO, hx, r⟩ := X
  obtain ⟨v, vm₁, B, hW1, Y', S, hgr, ⟨L, ⟨q1, NL, OL⟩, q2, q3, q4, C1⟩, st⟩ := Y.specialBackS hx hy1 hown (mv (s := s.setVm vm) hZ w1) (mv (s := s.setVm vm) hZ w2) (mv (s := s.setVm vm) hZ w4) hy hK hg hsize (Steps.refl _) hlen hstack hW hdg (fun vm₁ _ => ⟨has, eT, hc, hs⟩)
  exact (k B.U B.U.heap B.U.vm v (X'.after hS hk hC N hO hown Y' S (eT ▸ hgr) q2 q3 q4 NL OL C1) C1 (eT ▸ hgr) q1).steps st
theorem Wk.callIN (X : Wk p l e R s m args below meth c own Z a0 EL h0 T h vm cells slots) {index : Nat} {host : String} {y : MethodName} {bytes : ByteArray} {maxL : Nat} (hy1 : y.name = "<init>") (w1 : (Jvm.Cond.methodLinkNest own index y host).before a0 Z = true) (w2 : (Jvm.Cond.instanceMethod y).before a0 Z = true) (w4 : (Jvm.Cond.code y bytes maxL none).before a0 Z = true)
    (hy : y.cls ≠ "java/lang/invoke/MethodHandle" ∧ y.cls ≠ "java/lang/invoke/VarHandle") {W rc rs : Nat} {as : Array Value} {Q : Option Value → Vm → Heap → Prop} (hK : Pay l R p e below s args y 3 W Z EL vm h as rc rs Q)
    (hg : g.method = m) (hsize : g.locals.size = c.maxLocals) {a : Addr} {argsL rest : List Value} (hlen : ∀ sig, parseMethodDescriptor y.desc = some sig → argsL.length = sig.parameters.length) (hstack : g.stack = argsL.reverse ++ .ref a :: rest) (has : (Value.ref a :: argsL).toArray = as) (hW : 2 * g.monitorRoom + (rest.map fun v => v.category).sum ≤ W)
    (hdg : decode c.code g.pc = .ok (.invokespecial index, 3)) (hc : cells + rc ≤ R.cells) (hs : slots + rs ≤ R.slots)
    (k : ∀ T' h' vm' v, Wk p l e R s m args below meth c own Z a0 EL h0 T' h' vm' (cells + rc) (slots + rs) → CHr Z EL vm h vm' h' → h.size ≤ h'.size → Q v vm' h' → Gets p e below P (T'.setTop { g with pc := g.pc + 3, stack := v.toList ++ rest })) : Gets p e below P (T.setTop g) := by
  have X' := X
  obtain ⟨locs, j, Y, eT, hS, hk, hZ, hown, hC, N, hO, hx, r⟩ := X
  obtain ⟨v, vm₁, B, hW1, Y', S, hgr, ⟨L, ⟨q1, NL, OL⟩, q2, q3, q4, C1⟩, st⟩ := Y.specialBackNestS hx hy1 hown (Cond.methodLinkNest_wide (s := Z) hZ w1 :) (mv (s := s.setVm vm) hZ w2) (mv (s := s.setVm vm) hZ w4) hy hK hg hsize (Steps.refl _) hlen hstack hW hdg (fun vm₁ _ => ⟨has, eT, hc, hs⟩)
  exact (k B.U B.U.heap B.U.vm v (X'.after hS hk hC N hO hown Y' S (eT ▸ hgr) q2 q3 q4 NL OL C1) C1 (eT ▸ hgr) q1).steps st
theorem Wk.callV (X : Wk p l e R s m args below meth c own Z a0 EL h0 T h vm cells slots) {C : String} {index : Nat} {y z : MethodName} (w1 : (Jvm.Cond.methodLink own index y).before a0 Z = true) (w2 : (Jvm.Cond.declares y).before a0 Z = true) (w3 : (Jvm.Cond.selects C y z).before a0 Z = true) (w4 : (Jvm.Cond.instanceMethod z).before a0 Z = true)
    (hnf : ∀ s' : State, Z.Warmed39 s'.vm → NotFace s' y)
    (hy : y.cls ≠ "java/lang/invoke/MethodHandle" ∧ y.cls ≠ "java/lang/invoke/VarHandle") {W rc rs : Nat} {as : Array Value} {Q : Option Value → Vm → Heap → Prop} (hK : Pay l R p e below s args z 3 W Z EL vm h as rc rs Q) {b : Addr} (E : Exa Z h b C)
    (hg : g.method = m) (hsize : g.locals.size = c.maxLocals) {argsL rest : List Value} (hlen : ∀ sig, parseMethodDescriptor y.desc = some sig → argsL.length = sig.parameters.length) (hstack : g.stack = argsL.reverse ++ .ref b :: rest) (has : (Value.ref b :: argsL).toArray = as) (hW : 2 * g.monitorRoom + (rest.map fun v => v.category).sum ≤ W)
    (hdg : decode c.code g.pc = .ok (.invokevirtual index, 3)) (hc : cells + rc ≤ R.cells) (hs : slots + rs ≤ R.slots)
    (k : ∀ T' h' vm' v, Wk p l e R s m args below meth c own Z a0 EL h0 T' h' vm' (cells + rc) (slots + rs) → CHr Z EL vm h vm' h' → h.size ≤ h'.size → Q v vm' h' → Gets p e below P (T'.setTop { g with pc := g.pc + 3, stack := v.toList ++ rest })) : Gets p e below P (T.setTop g) := by
  have X' := X
  obtain ⟨locs, j, Y, eT, hS, hk, hZ, hown, hC, N, hO, hx, r⟩ := X
  obtain ⟨cq, kq, qa, qb, qc⟩ := RoadKit.isOf (s := s.setVm vm) hZ eT E
  obtain ⟨v, vm₁, B, hW1, Y', S, hgr, ⟨L, ⟨q1, NL, OL⟩, q2, q3, q4, C1⟩, st⟩ := Y.virtualBackS hx hown (mv (s := s.setVm vm) hZ w1) (mv (s := s.setVm vm) hZ w2) (hnf (s.setVm vm) hZ) (mv (s := s.setVm vm) hZ w3) (mv (s := s.setVm vm) hZ w4) hy hK qa qc hg hsize (Steps.refl _) hlen hstack hW hdg (fun vm₁ _ => ⟨has, eT, hc, hs⟩)
  exact (k B.U B.U.heap B.U.vm v (X'.after hS hk hC N hO hown Y' S (eT ▸ hgr) q2 q3 q4 NL OL C1) C1 (eT ▸ hgr) q1).steps st
theorem same_self {y y' : MethodName} {C : String} (w3 : (Jvm.Cond.instanceMethod y).before a0 Z = true) (ws : (Jvm.Cond.selects C y' y').before a0 Z = true) (hc : y.cls = y'.cls) (hy : y.cls ≠ "java/lang/invoke/MethodHandle" ∧ y.cls ≠ "java/lang/invoke/VarHandle") : (Jvm.Cond.sameMethod y.cls y.cls y.name y.desc).before a0 Z = true := by
  obtain ⟨mk, methM, hnamed, hmethM, -, -⟩ := Cond.instanceMethod_spec w3
  obtain ⟨c2, r2, m2, q1, q2, q3, q4, kP, hkP, hkPi⟩ := Cond.selects_spec ws
  have hcn := findClass_of_methodNamed hnamed
  have hf := State.methodFound?_of_named hnamed hy
  have e2 := findClass_of_methodNamed q3
  rw [← hc, hcn] at e2
  have e3 : mk.cls = m2.cls := Option.some.inj e2
  have hn' : Z.methodNamed? ⟨y.cls, y.name, y.desc⟩ = some mk := hnamed
  simp only [Cond.before, Cond.holds, Cond.value, hcn, hf, hn', e3, hkP]
  simp [hkPi]
theorem Wk.callU (X : Wk p l e R s m args below meth c own Z a0 EL h0 T h vm cells slots) {K : String} {index : Nat} {y : MethodName} {bytes : ByteArray} {maxL : Nat} {ret : Option FieldType} (hn : y.name ≠ "<init>") (w1 : (Jvm.Cond.methodLink own index y).before a0 Z = true) (w2 : (Jvm.Cond.sameMethod y.cls y.cls y.name y.desc).before a0 Z = true) (w3 : (Jvm.Cond.instanceMethod y).before a0 Z = true) (w4 : (Jvm.Cond.superclass own y.cls).before a0 Z = true) (wc : (Jvm.Cond.code y bytes maxL ret).before a0 Z = true)
    {W rc rs : Nat} {as : Array Value} {Q : Option Value → Vm → Heap → Prop} (hK : Pay l R p e below s args y 3 W Z EL vm h as rc rs Q) {b : Addr} (E : Exa Z h b K)
    (hg : g.method = m) (hsize : g.locals.size = c.maxLocals) {argsL rest : List Value} (hlen : ∀ sig, parseMethodDescriptor y.desc = some sig → argsL.length = sig.parameters.length) (hstack : g.stack = argsL.reverse ++ .ref b :: rest) (has : (Value.ref b :: argsL).toArray = as) (hW : 2 * g.monitorRoom + (rest.map fun v => v.category).sum ≤ W)
    (hdg : decode c.code g.pc = .ok (.invokespecial index, 3)) (hc : cells + rc ≤ R.cells) (hs : slots + rs ≤ R.slots)
    (k : ∀ T' h' vm' v, Wk p l e R s m args below meth c own Z a0 EL h0 T' h' vm' (cells + rc) (slots + rs) → CHr Z EL vm h vm' h' → h.size ≤ h'.size → Q v vm' h' → Gets p e below P (T'.setTop { g with pc := g.pc + 3, stack := v.toList ++ rest })) : Gets p e below P (T.setTop g) := by
  have X' := X
  obtain ⟨locs, j, Y, eT, hS, hk, hZ, hown, hC, N, hO, hx, r⟩ := X
  obtain ⟨v, vm₁, B, hW1, Y', S, hgr, ⟨L, ⟨q1, NL, OL⟩, q2, q3, q4, C1⟩, st⟩ := RoadKit.superBackS Y hx (s := s.setVm vm) hZ hown w1 w2 w3 w4 hn hK eT (Ins.self E) hg hsize wc hlen hstack hW hdg (fun vm₁ _ => ⟨has, eT, hc, hs⟩)
  exact (k B.U B.U.heap B.U.vm v (X'.after hS hk hC N hO hown Y' S (eT ▸ hgr) q2 q3 q4 NL OL C1) C1 (eT ▸ hgr) q1).steps st
theorem Wk.callP (X : Wk p l e R s m args below meth c own Z a0 EL h0 T h vm cells slots) {C C2 : String} {index : Nat} {y : MethodName} {bytes : ByteArray} {maxL : Nat} {ret : Option FieldType} (w1 : (Jvm.Cond.methodLink own index y).before a0 Z = true) (w2 : (Jvm.Cond.instanceMethod y).before a0 Z = true) (w3 : (Jvm.Cond.selects C2 y y).before a0 Z = true) (w4 : (Jvm.Cond.privateMethod y).before a0 Z = true) (w5 : (Jvm.Cond.code y bytes maxL ret).before a0 Z = true)
    (hy : y.cls ≠ "java/lang/invoke/MethodHandle" ∧ y.cls ≠ "java/lang/invoke/VarHandle") {W rc rs : Nat} {as : Array Value} {Q : Option Value → Vm → Heap → Prop} (hK : Pay l R p e below s args y 3 W Z EL vm h as rc rs Q) {b : Addr} (E : Exa Z h b C)
    (hg : g.method = m) (hsize : g.locals.size = c.maxLocals) {argsL rest : List Value} (hlen : ∀ sig, parseMethodDescriptor y.desc = some sig → argsL.length = sig.parameters.length) (hstack : g.stack = argsL.reverse ++ .ref b :: rest) (has : (Value.ref b :: argsL).toArray = as) (hW : 2 * g.monitorRoom + (rest.map fun v => v.category).sum ≤ W)
    (hdg : decode c.code g.pc = .ok (.invokevirtual index, 3)) (hc : cells + rc ≤ R.cells) (hs : slots + rs ≤ R.slots)
    (k : ∀ T' h' vm' v, Wk p l e R s m args below meth c own Z a0 EL h0 T' h' vm' (cells + rc) (slots + rs) → CHr Z EL vm h vm' h' → h.size ≤ h'.size → Q v vm' h' → Gets p e below P (T'.setTop { g with pc := g.pc + 3, stack := v.toList ++ rest })) : Gets p e below P (T.setTop g) := by
  have X' := X
  obtain ⟨locs, j, Y, eT, hS, hk, hZ, hown, hC, N, hO, hx, r⟩ := X
  obtain ⟨cell, hcell, hobj⟩ := Exa.cell E
  obtain ⟨c2, r2, m2, u1, u2, u3, u4, kP, hkP, hkPi⟩ := Cond.selects_spec (mv (s := s.setVm vm) (args := args) hZ w3)
  have hsel := Jvm.Stand.selects_self_of_private (findClass_of_methodNamed u3) hkP hkPi (Cond.privateMethod_at (mvP (s := s.setVm vm) hZ w4 (args := #[]))) (mv (s := s.setVm vm) (args := args) hZ w2) hy
  obtain ⟨v, vm₁, B, hW1, Y', S, hgr, ⟨L, ⟨q1, NL, OL⟩, q2, q3, q4, C1⟩, st⟩ := Y.privateBackS hx hown (mv (s := s.setVm vm) hZ w1) (mv (s := s.setVm vm) hZ w2) hsel (Cond.privateMethod_at (mvP (s := s.setVm vm) hZ w4 (args := #[]))) (mv (s := s.setVm vm) hZ w5) hy hK hg hsize (Steps.refl _) (a := b) (by rw [eT]; exact hcell) hobj hlen hstack hW hdg (fun vm₁ _ => ⟨has, eT, hc, hs⟩)
  exact (k B.U B.U.heap B.U.vm v (X'.after hS hk hC N hO hown Y' S (eT ▸ hgr) q2 q3 q4 NL OL C1) C1 (eT ▸ hgr) q1).steps st
theorem nfs {y z : MethodName} {C : String} (hc : y = z) (w : (Jvm.Cond.selects C y z).before a0 Z = true) : ∀ s' : State, Z.Warmed39 s'.vm → NotFace s' y := fun s' hZ => by
  subst hc; exact notFace_of_selects (args := #[]) (mv (s := s') hZ w)
theorem nfs2 {y y' : MethodName} {C : String} (w : (Jvm.Cond.selects C y' y').before a0 Z = true) (hc : y.cls = y'.cls) : ∀ s' : State, Z.Warmed39 s'.vm → NotFace s' y := fun s' hZ r0 h0 => by
  obtain ⟨c2, r2, m2, q1, q2, q3, q4, kP, hkP, hkPi⟩ := Cond.selects_spec (mv (s := s') (args := #[]) hZ w)
  have e1 := findClass_of_methodNamed h0
  have e2 := findClass_of_methodNamed q3
  rw [hc, e2] at e1
  exact ⟨kP, by rw [← Option.some.inj e1]; exact hkP, hkPi⟩
theorem Wk.callF (X : Wk p l e R s m args below meth c own Z a0 EL h0 T h vm cells slots) {C : String} {index count : Nat} {xi y : MethodName} (w1 : (Jvm.Cond.methodLink own index xi).before a0 Z = true) (w2 : (Jvm.Cond.declares xi).before a0 Z = true) (w3 : (Jvm.Cond.interfaceMethod xi.cls xi.cls xi.name xi.desc).before a0 Z = true) (e3 : ((Jvm.Cond.interfaceMethod xi.cls xi.cls xi.name xi.desc).onTables && (Jvm.Cond.interfaceMethod xi.cls xi.cls xi.name xi.desc).keepsFace) = true) (w4 : (Jvm.Cond.selects C xi y).before a0 Z = true) (w5 : (Jvm.Cond.instanceMethod y).before a0 Z = true)
    (w6 : (Jvm.Cond.publicMethod y).before a0 Z = true) (w7 : (Jvm.Cond.unhidden C xi.name xi.desc).before a0 Z = true) (w8 : (Jvm.Cond.castable C xi.cls).before a0 Z = true)
    (hy : xi.cls ≠ "java/lang/invoke/MethodHandle" ∧ xi.cls ≠ "java/lang/invoke/VarHandle") {W rc rs : Nat} {as : Array Value} {Q : Option Value → Vm → Heap → Prop} (hK : Pay l R p e below s args y 5 W Z EL vm h as rc rs Q) {b : Addr} (E : Exa Z h b C)
    (hg : g.method = m) (hsize : g.locals.size = c.maxLocals) {argsL rest : List Value} (hlen : ∀ sig, parseMethodDescriptor xi.desc = some sig → argsL.length = sig.parameters.length) (hstack : g.stack = argsL.reverse ++ .ref b :: rest) (has : (Value.ref b :: argsL).toArray = as) (hW : 2 * g.monitorRoom + (rest.map fun v => v.category).sum ≤ W)
    (hdg : decode c.code g.pc = .ok (.invokeinterface index count, 5)) (hc : cells + rc ≤ R.cells) (hs : slots + rs ≤ R.slots)
    (k : ∀ T' h' vm' v, Wk p l e R s m args below meth c own Z a0 EL h0 T' h' vm' (cells + rc) (slots + rs) → CHr Z EL vm h vm' h' → h.size ≤ h'.size → Q v vm' h' → Gets p e below P (T'.setTop { g with pc := g.pc + 5, stack := v.toList ++ rest })) : Gets p e below P (T.setTop g) := by
  have X' := X
  obtain ⟨locs, j, Y, eT, hS, hk, hZ, hown, hC, N, hO, hx, r⟩ := X
  obtain ⟨cq, kq, qa, qb, qc⟩ := RoadKit.isOf (s := s.setVm vm) hZ eT E
  obtain ⟨v, vm₁, B, hW1, Y', S, hgr, ⟨L, ⟨q1, NL, OL⟩, q2, q3, q4, C1⟩, st⟩ := Y.interfaceBackS hx hown (mv (s := s.setVm vm) hZ w1) (mv (s := s.setVm vm) hZ w2) (mv (s := s.setVm vm) hZ w3 e3) (mv (s := s.setVm vm) hZ w4) (mv (s := s.setVm vm) hZ w5) (mv (s := s.setVm vm) hZ w6) (mv (s := s.setVm vm) hZ w7) (mv (s := s.setVm vm) hZ w8) hy hK qa qb qc hg hsize (Steps.refl _) hlen hstack hW hdg (fun vm₁ _ => ⟨has, eT, hc, hs⟩)
  exact (k B.U B.U.heap B.U.vm v (X'.after hS hk hC N hO hown Y' S (eT ▸ hgr) q2 q3 q4 NL OL C1) C1 (eT ▸ hgr) q1).steps st
theorem Wk.done (X : Wk p l e R s m args below meth c own Z a0 EL h0 T h vm cells slots) {Q : Option Value → Vm → Heap → Prop} {rm : Room} {v : Option Value} (hv : meth.sig.returnType = none → v = none) (hc : cells ≤ rm.cells) (hs : slots ≤ rm.slots) (q : ∀ vm', CHr Z EL vm h vm' h → Q v vm' h)
    (st : ∀ fs, Stand p l e R (s.setVm vm) m args below meth c T [] cells slots ∨ True → (∀ (f : JFrame) (acts : List Action), f.method = m → f.locked = none → f.entered = [] → (doReturn e (T.setTop f) acts v).1 = T.setFrames fs) → Steps p.tables e below (T.setTop g) (T.setFrames fs)) : Gets p e below (Out s Z EL rm Q) (T.setTop g) := by
  obtain ⟨locs, j, Y, eT, hS, hk, hZ, hown, hC, N, hO, hx, hEL, hh, hlk⟩ := X
  obtain ⟨fs, hr, hrun, hended, hq⟩ := Y.leaveW hS (by rw [eT]; exact hk) (v := v) hv
  refine ⟨_, _, st fs (Or.inr trivial) hr, hrun, hended, v, locs, rfl, ⟨?_, N, ?_⟩, ?_, ?_⟩
  · show Q v T.vm T.heap; rw [eT]; exact q _ (CHv.at Y hZ hEL hC.1)
  · show Old Z Z.heap.size T.heap; rw [eT]; exact hO
  · show CHr Z EL s.vm s.heap T.vm T.heap
    rw [hh, eT]
    exact hC.trans (CHv.at Y hZ hEL hC.1)
  · obtain ⟨r1, r2, r3, r4⟩ := hq
    exact ⟨r1, r2, r3, r4.mono hc hs⟩
theorem Wk.retV (X : Wk p l e R s m args below meth c own Z a0 EL h0 T h vm cells slots) {Q : Option Value → Vm → Heap → Prop} {rm : Room} (hret : meth.sig.returnType = none) {pc : Nat} {Ls : Array Slot} (hd : decode c.code pc = .ok (.return_, 1)) (hc : cells ≤ rm.cells) (hs : slots ≤ rm.slots) (q : ∀ vm', CHr Z EL vm h vm' h → Q none vm' h) : Gets p e below (Out s Z EL rm Q) (T.setTop (mkF m pc Ls [])) := by
  have X' := X
  obtain ⟨locs, j, Y, -⟩ := X'
  exact X.done (fun _ => rfl) hc hs q fun fs _ hr => Y.returnOut X.hx hret hd hr
theorem Wk.ret (X : Wk p l e R s m args below meth c own Z a0 EL h0 T h vm cells slots) {Q : Option Value → Vm → Heap → Prop} {rm : Room} {t : FieldType} {w : Value} {i : Instr} (hret : meth.sig.returnType = some t) {pc : Nat} {Ls : Array Slot} {rest : List Value} (hn : narrow t w = w)
    (hi : (i = .ireturn ∧ (t = .int ∨ t = .boolean ∨ t = .byte ∨ t = .char ∨ t = .short) ∧ ∃ z, w = .int z) ∨ (i = .lreturn ∧ t = .long ∧ ∃ z, w = .long z) ∨ (i = .dreturn ∧ t = .double ∧ ∃ z, w = .double z) ∨ (i = .freturn ∧ t = .float ∧ ∃ z, w = .float z) ∨ (i = .areturn ∧ t.isReference = true ∧ w.isRef = true))
    (hd : decode c.code pc = .ok (i, 1)) (hc : cells ≤ rm.cells) (hs : slots ≤ rm.slots) (q : ∀ vm', CHr Z EL vm h vm' h → Q (some w) vm' h) : Gets p e below (Out s Z EL rm Q) (T.setTop (mkF m pc Ls (w :: rest))) := by
  have X' := X
  obtain ⟨locs, j, Y, -⟩ := X'
  exact X.done (fun z => by rw [hret] at z; cases z) hc hs q fun fs _ hr => RoadKit.retOut Y X.hx hret hn hi hd hr
theorem Wk.retA (X : Wk p l e R s m args below meth c own Z a0 EL h0 T h vm cells slots) {Q : Option Value → Vm → Heap → Prop} {rm : Room} {t : FieldType} {w : Value} (hret : meth.sig.returnType = some t) {pc : Nat} {Ls : Array Slot} {rest : List Value} (hn : narrow t w = w) (ht : t.isReference = true) (hw : w.isRef = true)
    (hd : decode c.code pc = .ok (.areturn, 1)) (hc : cells ≤ rm.cells) (hs : slots ≤ rm.slots) (q : ∀ vm', CHr Z EL vm h vm' h → Q (some w) vm' h) : Gets p e below (Out s Z EL rm Q) (T.setTop (mkF m pc Ls (w :: rest))) :=
  X.ret hret hn (Or.inr (Or.inr (Or.inr (Or.inr ⟨rfl, ht, hw⟩)))) hd hc hs q
theorem Wk.retI (X : Wk p l e R s m args below meth c own Z a0 EL h0 T h vm cells slots) {Q : Option Value → Vm → Heap → Prop} {rm : Room} {t : FieldType} {x : Int32} (hret : meth.sig.returnType = some t) {pc : Nat} {Ls : Array Slot} {rest : List Value} (hn : narrow t (.int x) = .int x) (ht : t = .int ∨ t = .boolean ∨ t = .byte ∨ t = .char ∨ t = .short)
    (hd : decode c.code pc = .ok (.ireturn, 1)) (hc : cells ≤ rm.cells) (hs : slots ≤ rm.slots) (q : ∀ vm', CHr Z EL vm h vm' h → Q (some (.int x)) vm' h) : Gets p e below (Out s Z EL rm Q) (T.setTop (mkF m pc Ls (.int x :: rest))) :=
  X.ret hret hn (Or.inl ⟨rfl, ht, x, rfl⟩) hd hc hs q
variable {a b : Addr} {k : ClassId} {cs : List Int32} {ws : List Addr}
/-- a Latin-1 String at a, its bytes at b, spelling cs -/
def Str (Z : State) (h : Heap) (a b : Addr) (k : ClassId) (cs : List Int32) : Prop := Exa Z h a "java/lang/String" ∧ Fld Z h a "java/lang/String" "coder" "B" (.int (0 : Int32)) ∧ Fld Z h a "java/lang/String" "value" "[B" (.ref b) ∧ Arv Z h b k .byte (Int32.ofNat cs.length) ((cs.map fun c => c.toInt8.toInt32).map Value.int) (.int (0 : Int32)) ∧ (∀ c ∈ cs, ¬ c < 0 ∧ ¬ (255 : Int32) < c) ∧ cs.length ≤ 4000
theorem Str.ext (F : Str Z h a b k cs) (E : Ext h h') : Str Z h' a b k cs := ⟨F.1.ext E, F.2.1.ext E, F.2.2.1.ext E, F.2.2.2.1.ext E, F.2.2.2.2⟩
theorem Str.keep (F : Str Z h a b k cs) (K : Keep h h' ws) (q : a ∉ ws) (r : b ∉ ws) : Str Z h' a b k cs := ⟨F.1.keep K, F.2.1.keep K q, F.2.2.1.keep K q, F.2.2.2.1.keep K r, F.2.2.2.2⟩
theorem Str.lt (F : Str Z h a b k cs) : a < h.size := F.1.lt
theorem Str.lb (F : Str Z h a b k cs) : b < h.size := F.2.2.2.1.lt
theorem Arv.nty {a b : Addr} {k k' : ClassId} {ty ty' : FieldType} {n n' : Int32} {vs vs' : List Value} {d d' : Value} (A : Arv Z h a k ty n vs d) (B : Arv Z h b k' ty' n' vs' d') (q : ty ≠ ty') : a ≠ b := fun z => by
  subst z
  obtain ⟨c, ⟨A1, ⟨-, kk, A2, cm, A3⟩, -⟩, -⟩ := A
  obtain ⟨c', ⟨B1, ⟨-, kk', B2, cm', B3⟩, -⟩, -⟩ := B
  rw [A1] at B1; cases B1
  rw [A2] at B2; cases B2
  rw [A3] at B3; cases B3
  exact q rfl
end Base
section Vals
variable {tb : Tables} [Ours tb] {e : Env} {below : List Frame} {T target : State} {m : MethodId} {c : Code} {g : JFrame}
theorem i2cV (h : At T m c below) (hx : tb.exec = Jvm.exec) (hg : g.method = m) {x v : Int32} {rest : List Value} (hd : decode c.code g.pc = .ok (.i2c, 1)) (hs : g.stack = .int x :: rest) (hv : x.toUInt32.toUInt16.toUInt32.toInt32 = v)
    (hr : Steps tb e below (T.setTop { g with pc := g.pc + 1, stack := .int v :: rest }) target) : Steps tb e below (T.setTop g) target := by subst hv; exact XS.i2c h hx hg hd hs hr
theorem iincV (h : At T m c below) (hx : tb.exec = Jvm.exec) (hg : g.method = m) {k : Nat} {cst : Int} {x v : Int32} {l' : Array Slot} (hd : decode c.code g.pc = .ok (.iinc k cst, 3)) (hl : g.locals[k]? = some (.val (.int x))) (hv : x + Int32.ofInt cst = v) (hl' : storeLocals g.locals k (.int v) = some l')
    (hr : Steps tb e below (T.setTop { g with pc := g.pc + 3, locals := l' }) target) : Steps tb e below (T.setTop g) target := by subst hv; exact XS.iinc h hx hg hd hl hl' hr
theorem iaddV (h : At T m c below) (hx : tb.exec = Jvm.exec) (hg : g.method = m) {x y v : Int32} {rest : List Value} (hd : decode c.code g.pc = .ok (.iadd, 1)) (hs : g.stack = .int y :: .int x :: rest) (hv : x + y = v)
    (hr : Steps tb e below (T.setTop { g with pc := g.pc + 1, stack := .int v :: rest }) target) : Steps tb e below (T.setTop g) target := by subst hv; exact XS.iadd h hx hg hd hs hr
theorem isubV (h : At T m c below) (hx : tb.exec = Jvm.exec) (hg : g.method = m) {x y v : Int32} {rest : List Value} (hd : decode c.code g.pc = .ok (.isub, 1)) (hs : g.stack = .int y :: .int x :: rest) (hv : x - y = v)
    (hr : Steps tb e below (T.setTop { g with pc := g.pc + 1, stack := .int v :: rest }) target) : Steps tb e below (T.setTop g) target := by subst hv; exact XS.isub h hx hg hd hs hr
theorem iushrV (h : At T m c below) (hx : tb.exec = Jvm.exec) (hg : g.method = m) {x y v : Int32} {rest : List Value} (hd : decode c.code g.pc = .ok (.iushr, 1)) (hs : g.stack = .int y :: .int x :: rest) (hv : Jvm.Free.XT.ushr x y = v)
    (hr : Steps tb e below (T.setTop { g with pc := g.pc + 1, stack := .int v :: rest }) target) : Steps tb e below (T.setTop g) target := by subst hv; exact Jvm.Free.XT.iushr h hx hg hd hs hr
theorem ishlV (h : At T m c below) (hx : tb.exec = Jvm.exec) (hg : g.method = m) {x y v : Int32} {rest : List Value} (hd : decode c.code g.pc = .ok (.ishl, 1)) (hs : g.stack = .int y :: .int x :: rest) (hv : x <<< (y &&& (31 : Int32)) = v)
    (hr : Steps tb e below (T.setTop { g with pc := g.pc + 1, stack := .int v :: rest }) target) : Steps tb e below (T.setTop g) target := by subst hv; exact Jvm.Free.XT.ishl h hx hg hd hs hr
theorem ishrV (h : At T m c below) (hx : tb.exec = Jvm.exec) (hg : g.method = m) {x y v : Int32} {rest : List Value} (hd : decode c.code g.pc = .ok (.ishr, 1)) (hs : g.stack = .int y :: .int x :: rest) (hv : x >>> (y &&& (31 : Int32)) = v)
    (hr : Steps tb e below (T.setTop { g with pc := g.pc + 1, stack := .int v :: rest }) target) : Steps tb e below (T.setTop g) target := by subst hv; exact Jvm.Free.XT.ishr h hx hg hd hs hr
theorem i2bV (h : At T m c below) (hx : tb.exec = Jvm.exec) (hg : g.method = m) {x v : Int32} {rest : List Value} (hd : decode c.code g.pc = .ok (.i2b, 1)) (hs : g.stack = .int x :: rest) (hv : x.toInt8.toInt32 = v)
    (hr : Steps tb e below (T.setTop { g with pc := g.pc + 1, stack := .int v :: rest }) target) : Steps tb e below (T.setTop g) target := by subst hv; exact XS.i2b h hx hg hd hs hr
theorem iremV (h : At T m c below) (hx : tb.exec = Jvm.exec) (hg : g.method = m) {x y : Int32} {rest : List Value} (hd : decode c.code g.pc = .ok (.irem, 1)) (hs : g.stack = .int y :: .int x :: rest) (hy : y ≠ 0)
    (hr : Steps tb e below (T.setTop { g with pc := g.pc + 1, stack := .int (x % y) :: rest }) target) : Steps tb e below (T.setTop g) target := by
  have q : x - x / y * y = x % y := irem_eq_mod x y
  exact XS.irem h hx hg hd hs hy (by rw [q]; exact hr)
/-- (char) of an int -/
def i2c (x : Int32) : Int32 := x.toUInt32.toUInt16.toUInt32.toInt32
theorem i2c_in {x : Int32} (h0 : ¬ x < 0) (h1 : ¬ (65535 : Int32) < x) : x.toUInt32.toUInt16.toUInt32.toInt32 = x := by
  have q := c_i2c x
  apply Int32.toInt_inj.mp
  have e0 : (0 : Int32).toInt = 0 := by decide
  have e1 : (65535 : Int32).toInt = 65535 := by decide
  rw [Int32.lt_iff_toInt_lt, e0] at h0
  rw [Int32.lt_iff_toInt_lt, e1] at h1
  omega
theorem m255 (x : Int32) : ¬ (x &&& (255 : Int32)) < 0 ∧ ¬ (255 : Int32) < (x &&& (255 : Int32)) := by
  have q := c_and x (255 : Int32) (by decide)
  have e0 : (0 : Int32).toInt = 0 := by decide
  have e1 : (255 : Int32).toInt = 255 := by decide
  constructor
  · rw [Int32.lt_iff_toInt_lt, e0]; omega
  · rw [Int32.lt_iff_toInt_lt, e1]; rw [e1] at q; omega
theorem lt_of {a b c : Int32} (h : ¬ a < b) (hb : b.toInt ≤ c.toInt) : True := trivial
theorem i2c_m255 (x : Int32) : (x &&& (255 : Int32)).toUInt32.toUInt16.toUInt32.toInt32 = x &&& (255 : Int32) := i2c_in (m255 x).1 fun q => (m255 x).2 (by
  have e1 : (255 : Int32).toInt = 255 := by decide
  have e2 : (65535 : Int32).toInt = 65535 := by decide
  rw [Int32.lt_iff_toInt_lt] at q ⊢; omega)
theorem i2c_i2c (x : Int32) : (i2c x).toUInt32.toUInt16.toUInt32.toInt32 = i2c x := by
  have q := c_i2c x
  have e0 : (0 : Int32).toInt = 0 := by decide
  have e1 : (65535 : Int32).toInt = 65535 := by decide
  refine i2c_in ?_ ?_
  · rw [Int32.lt_iff_toInt_lt, e0]; unfold i2c; omega
  · rw [Int32.lt_iff_toInt_lt, e1]; unfold i2c; omega
theorem m255L (x : Int64) : ¬ (x &&& (255 : Int64)).toInt32 < 0 ∧ ¬ (255 : Int32) < (x &&& (255 : Int64)).toInt32 := by
  have q := c_maskL x (255 : Int64) 8 (by decide) (by decide)
  have r := Jvm.Free.XT.narrowInt (x := x &&& (255 : Int64)) ⟨by omega, by omega⟩
  have e0 : (0 : Int32).toInt = 0 := by decide
  have e1 : (255 : Int32).toInt = 255 := by decide
  constructor
  · rw [Int32.lt_iff_toInt_lt, e0]; omega
  · rw [Int32.lt_iff_toInt_lt, e1]; omega
theorem i2c_small {x : Int32} (h : ¬ x < 0 ∧ ¬ (255 : Int32) < x) : x.toUInt32.toUInt16.toUInt32.toInt32 = x := i2c_in h.1 fun q => h.2 (by
  have e1 : (255 : Int32).toInt = 255 := by decide
  have e2 : (65535 : Int32).toInt = 65535 := by decide
  rw [Int32.lt_iff_toInt_lt] at q ⊢; omega)
theorem nar_small {x : Int32} (h : ¬ x < 0 ∧ ¬ (255 : Int32) < x) : narrow .char (.int x) = .int x := by
  show Value.int _ = _
  rw [i2c_small h]
theorem nar_b (x : Int32) : nar .byte x.toInt8.toInt32 = x.toInt8.toInt32 := by simp [nar]
theorem allI {P : Int32 → Prop} {y : Int32} {L : List Int32} (q : P y) (r : ∀ x ∈ L, P x) : ∀ x ∈ y :: L, P x := fun x z => (List.mem_cons.mp z).elim (fun u => u ▸ q) (r x)
theorem allN {P : Int32 → Prop} : ∀ x ∈ ([] : List Int32), P x := fun _ q => nomatch q
end Vals
end Jvm.Ow

/- laws to paste: Road.backV, pair_says, shr1, chr8_lo8, lo8_mask (cut by pick.py; bodies as the Statement names them) -/
namespace Jvm.Pilot.@@N@@
namespace StrChars
open Jvm Sem ClassFile Op Lib Jvm.Stand Jvm.Free.XT Jvm.Free.ALB Jvm.Free.JM Jvm.Free
open Jvm.Lib.Cold (StaticIs)
/-- a char array whose places are chars -/
def Ch (a : Addr) (A : Cell) (U : State) : Prop := Arr .char a A U ∧ Typed .char A
theorem Ch.mv {a : Addr} {A : Cell} {U U' : State} (h : Ch a A U) (hal : U.vm.Alike U'.vm) (hh : U'.heap = U.heap) : Ch a A U' := ⟨h.1.mv hal hh, h.2⟩
theorem Ch.keep {a : Addr} {A : Cell} {U U' : State} (h : Ch a A U) (hal : U.vm.Alike U'.vm) (hk : U'.heap[a]? = some A) : Ch a A U' := ⟨h.1.keep hal hk, h.2⟩
/-- what place i of a char[]'s cell holds -/
def cv (A : Cell) (i : Nat) : Int32 := match A.slots[i]? with | some (.int x) => x | _ => 0
theorem Ch.get {a : Addr} {A : Cell} {U : State} (h : Ch a A U) {i : Nat} (hi : i < A.slots.size) : A.slots[i]? = some (.int (cv A i)) := by
  have e := Array.getElem?_eq_getElem hi
  have f := h.2 i _ e
  unfold cv; rw [e]
  generalize A.slots[i] = v at f
  cases v <;> simp [fits] at f ⊢
/-- the byte that i2b leaves of a char -/
def lo8 (x : Int32) : Int32 := x.toInt8.toInt32
theorem fits_lo8 (y : Int32) : fits .byte (.int (lo8 y)) = true := by
  have h1 := y.toInt8.le_toInt
  have h2 := y.toInt8.toInt_lt
  simp only [lo8, fits, Bool.and_eq_true, decide_eq_true_eq, Int32.le_iff_toInt_le, Int8.toInt_toInt32, show (-128 : Int32).toInt = -128 from by decide, show (127 : Int32).toInt = 127 from by decide]
  omega
/-- A' is A but that each place j of lo .. hi - 1 holds f j -/
def Laid (A A' : Cell) (lo hi : Nat) (f : Nat → Value) : Prop := A'.cls = A.cls ∧ A'.vm = A.vm ∧ A'.slots.size = A.slots.size ∧ ∀ i, A'.slots[i]? = if lo ≤ i ∧ i < hi then some (f i) else A.slots[i]?
theorem Laid.zero (A : Cell) (lo : Nat) (f : Nat → Value) : Laid A A lo (lo + 0) f := ⟨rfl, rfl, rfl, fun i => by rw [if_neg (by omega)]⟩
theorem Laid.step {A Ak : Cell} {lo k : Nat} {f : Nat → Value} {v : Value} (h : Laid A Ak lo k f) (hlo : lo ≤ k) (hk : k < Ak.slots.size) (hv : v = f k) : Laid A (Ak.setSlot k v) lo (k + 1) f := by
  refine ⟨h.1, h.2.1, by simpa [Cell.setSlot] using h.2.2.1, fun i => ?_⟩
  by_cases e : k = i
  · subst e; rw [Cell.slots_setSlot_self v hk, if_pos (by omega), hv]
  · rw [Cell.slots_setSlot_ne v e, h.2.2.2 i]
    by_cases q : lo ≤ i ∧ i < k
    · rw [if_pos q, if_pos (by omega)]
    · rw [if_neg q, if_neg (by omega)]
def U16 : String := "java/lang/StringUTF16"
namespace Cmp5
def yN : MethodName := ⟨"java/lang/StringUTF16", "compress", "([CI[BII)I"⟩
abbrev yB : ByteArray := jdk_52_method_21_code
theorem d0 : decode yB 0 = .ok (.iconst 0, 1) := by decide +kernel
theorem d1 : decode yB 1 = .ok (.istore 5, 2) := by decide +kernel
theorem d3 : decode yB 3 = .ok (.iload 5, 2) := by decide +kernel
theorem d5 : decode yB 5 = .ok (.iload 4, 2) := by decide +kernel
theorem d7 : decode yB 7 = .ok (.if_icmp (.ge) 37, 3) := by decide +kernel
theorem d10 : decode yB 10 = .ok (.aload_n 0, 1) := by decide +kernel
theorem d11 : decode yB 11 = .ok (.iload_n 1, 1) := by decide +kernel
theorem d12 : decode yB 12 = .ok (.caload, 1) := by decide +kernel
theorem d13 : decode yB 13 = .ok (.istore 6, 2) := by decide +kernel
theorem d15 : decode yB 15 = .ok (.iload 6, 2) := by decide +kernel
theorem d17 : decode yB 17 = .ok (.sipush 255, 3) := by decide +kernel
theorem d20 : decode yB 20 = .ok (.if_icmp (.le) 6, 3) := by decide +kernel
theorem d26 : decode yB 26 = .ok (.aload_n 2, 1) := by decide +kernel
theorem d27 : decode yB 27 = .ok (.iload_n 3, 1) := by decide +kernel
theorem d28 : decode yB 28 = .ok (.iload 6, 2) := by decide +kernel
theorem d30 : decode yB 30 = .ok (.i2b, 1) := by decide +kernel
theorem d31 : decode yB 31 = .ok (.bastore, 1) := by decide +kernel
theorem d32 : decode yB 32 = .ok (.iinc 1 1, 3) := by decide +kernel
theorem d35 : decode yB 35 = .ok (.iinc 3 1, 3) := by decide +kernel
theorem d38 : decode yB 38 = .ok (.iinc 5 1, 3) := by decide +kernel
theorem d41 : decode yB 41 = .ok (.goto (-38), 3) := by decide +kernel
theorem d44 : decode yB 44 = .ok (.iload 4, 2) := by decide +kernel
theorem d46 : decode yB 46 = .ok (.ireturn, 1) := by decide +kernel
def site : List Cond := []
def tab : Cond := tabOf yN yB 7 (some .int) site
def P (b : Addr) (A : Cell) (d : Addr) (B : Cell) (o q len : Nat) (args : Array Value) (s : State) : Prop := args = #[.ref b, .int (Int32.ofNat o), .ref d, .int (Int32.ofNat q), .int (Int32.ofNat len)] ∧ Ch b A s ∧ Arr .byte d B s ∧ b ≠ d ∧ o + len ≤ A.slots.size ∧ q + len ≤ B.slots.size ∧ ∀ i, i < len → ¬ 255 < cv A (o + i)
def E (b : Addr) (A : Cell) (d : Addr) (B : Cell) (o q len : Nat) (r : Option Value) (s u : State) : Prop := r = some (.int (Int32.ofNat len)) ∧ ∃ B', Put d B' s u ∧ Laid B B' q (q + len) (fun j => Value.int (lo8 (cv A (o + (j - q)))))
/-- no char of the range above 255: len; the places written hold each char's low byte -/
theorem law (l : Launch) (b : Addr) (A : Cell) (d : Addr) (B : Cell) (o q len : Nat) : Law l yN 5 5 0 0 yB 7 (some .int) site (P b A d B o q len) (E b A d B o q len) (copyLocs d q len) 0 0 := by
  refine Law.of_walk (plainFor_of_name (by decide +kernel)) (by decide +kernel) (by decide +kernel) (by decide) (fun _ _ h => by rw [h.1]; rfl) (fun _ U U' hal hh h => ⟨h.1, h.2.1.mv hal hh, h.2.2.1.mv hal hh, h.2.2.2⟩) (fun r U U' V V' h1 hal h2 h => ⟨h.1, h.2.elim fun B' q => ⟨B', q.1.mv h1 h2, q.2⟩⟩) ?_
  intro p e s m args below meth c s₁ X0 hexec hbytes hml hret hlk hnm hown hh0 W hP
  obtain ⟨rfl, hA, hB, hne, l1, l2, hp⟩ := hP
  have c1 : Steps p.tables e below (s₁.setTop (entryFrame m #[.ref b, .int (Int32.ofNat o), .ref d, .int (Int32.ofNat q), .int (Int32.ofNat len)] 7)) (s₁.setTop (mkF m 0 #[.val (.ref b), .val (.int (Int32.ofNat o)), .val (.ref d), .val (.int (Int32.ofNat q)), .val (.int (Int32.ofNat len)), .unset, .unset] [])) := entry rfl
  have hA0 := hA.1.mv X0.warmed.alike hh0
  have hB0 := hB.mv X0.warmed.alike hh0
  have a31 := hA.1.2.2.2
  have c2 : Steps p.tables e below (s₁.setTop (entryFrame m #[.ref b, .int (Int32.ofNat o), .ref d, .int (Int32.ofNat q), .int (Int32.ofNat len)] 7)) (s₁.setTop (mkF m 3 #[.val (.ref b), .val (.int (Int32.ofNat o)), .val (.ref d), .val (.int (Int32.ofNat q)), .val (.int (Int32.ofNat len)), .val (.int 0), .unset] [])) := c1.trans (by
    refine iconstV X0.here hexec rfl 0 (hb hbytes d0) (by decide) ?_
    refine XS.istore X0.here hexec rfl (hb hbytes d1) rfl rfl ?_
    exact Steps.refl _)
  have loop : ∀ (r i : Nat), i + r = len → ∀ (z : Slot), (z = .unset ∨ ∃ w, z = .val w ∧ w.category = 1) → ∀ (Tl : State) (Bk : Cell), Stand p l e { frames := 0, locals := 0, cells := 0, slots := 0 } s m #[.ref b, .int (Int32.ofNat o), .ref d, .int (Int32.ofNat q), .int (Int32.ofNat len)] below meth c Tl ([] ++ copyLocs d q i) 0 0 → Put d Bk s₁ Tl → Laid B Bk q (q + i) (fun j => Value.int (lo8 (cv A (o + (j - q))))) →
      Steps p.tables e below (s₁.setTop (entryFrame m #[.ref b, .int (Int32.ofNat o), .ref d, .int (Int32.ofNat q), .int (Int32.ofNat len)] 7)) (Tl.setTop (mkF m 3 #[.val (.ref b), .val (.int (Int32.ofNat (o + i))), .val (.ref d), .val (.int (Int32.ofNat (q + i))), .val (.int (Int32.ofNat len)), .val (.int (Int32.ofNat i)), z] [])) → ∃ (T' : State) (B' : Cell) (z' : Slot), Stand p l e { frames := 0, locals := 0, cells := 0, slots := 0 } s m #[.ref b, .int (Int32.ofNat o), .ref d, .int (Int32.ofNat q), .int (Int32.ofNat len)] below meth c T' ([] ++ copyLocs d q len) 0 0 ∧ Put d B' s₁ T' ∧ Laid B B' q (q + len) (fun j => Value.int (lo8 (cv A (o + (j - q))))) ∧
      Steps p.tables e below (s₁.setTop (entryFrame m #[.ref b, .int (Int32.ofNat o), .ref d, .int (Int32.ofNat q), .int (Int32.ofNat len)] 7)) (T'.setTop (mkF m 3 #[.val (.ref b), .val (.int (Int32.ofNat (o + len))), .val (.ref d), .val (.int (Int32.ofNat (q + len))), .val (.int (Int32.ofNat len)), .val (.int (Int32.ofNat len)), z'] [])) := by
    intro r
    induction r with
    | zero =>
      intro i hi z hz Tl Bk Xl pl fl cl
      have hil : i = len := by omega
      rw [hil] at Xl fl cl
      exact ⟨Tl, Bk, z, Xl, pl, fl, cl⟩
    | succ r ih =>
      intro i hi z hz Tl Bk Xl pl fl cl
      have all := X0.warmed.alike.symm.trans Xl.warmed.alike
      have hAl := hA0.keep all (pl.other hne hA0.1)
      have hBk := hB0.like all pl.1 fl.1 fl.2.1 fl.2.2.1
      have hlt : q + i < Bk.slots.size := by rw [fl.2.2.1]; omega
      have c3 : Steps p.tables e below (s₁.setTop (entryFrame m #[.ref b, .int (Int32.ofNat o), .ref d, .int (Int32.ofNat q), .int (Int32.ofNat len)] 7)) (Tl.setTop (mkF m 12 #[.val (.ref b), .val (.int (Int32.ofNat (o + i))), .val (.ref d), .val (.int (Int32.ofNat (q + i))), .val (.int (Int32.ofNat len)), .val (.int (Int32.ofNat i)), z] [.int (Int32.ofNat (o + i)), .ref b])) := cl.trans (by
        refine XS.iload Xl.here hexec rfl (hb hbytes d3) rfl ?_
        refine XS.iload Xl.here hexec rfl (hb hbytes d5) rfl ?_
        refine XS.icmpNo Xl.here hexec rfl (hb hbytes d7) rfl (ii_ge_f (lt32 (by omega) (by omega))) ?_
        refine XS.aloadN Xl.here hexec rfl (hb hbytes d10) rfl rfl ?_
        refine XS.iloadN Xl.here hexec rfl (hb hbytes d11) rfl ?_
        exact Steps.refl _)
      have c4 : Steps p.tables e below (s₁.setTop (entryFrame m #[.ref b, .int (Int32.ofNat o), .ref d, .int (Int32.ofNat q), .int (Int32.ofNat len)] 7)) (Tl.setTop (mkF m 13 #[.val (.ref b), .val (.int (Int32.ofNat (o + i))), .val (.ref d), .val (.int (Int32.ofNat (q + i))), .val (.int (Int32.ofNat len)), .val (.int (Int32.ofNat i)), z] [.int (cv A (o + i))])) := c3.trans (by
        refine Xl.aget hexec hAl rfl (hA.get (i := o + i) (by omega)) rfl rfl (hb hbytes d12) ?_
        exact Steps.refl _)
      have c5 : Steps p.tables e below (s₁.setTop (entryFrame m #[.ref b, .int (Int32.ofNat o), .ref d, .int (Int32.ofNat q), .int (Int32.ofNat len)] 7)) (Tl.setTop (mkF m 15 #[.val (.ref b), .val (.int (Int32.ofNat (o + i))), .val (.ref d), .val (.int (Int32.ofNat (q + i))), .val (.int (Int32.ofNat len)), .val (.int (Int32.ofNat i)), .val (.int (cv A (o + i)))] [])) := c4.trans (by
        refine XS.istoreS Xl.here hexec rfl (hb hbytes d13) rfl rfl hz ?_
        exact Steps.refl _)
      have c6 : Steps p.tables e below (s₁.setTop (entryFrame m #[.ref b, .int (Int32.ofNat o), .ref d, .int (Int32.ofNat q), .int (Int32.ofNat len)] 7)) (Tl.setTop (mkF m 31 #[.val (.ref b), .val (.int (Int32.ofNat (o + i))), .val (.ref d), .val (.int (Int32.ofNat (q + i))), .val (.int (Int32.ofNat len)), .val (.int (Int32.ofNat i)), .val (.int (cv A (o + i)))] [.int (lo8 (cv A (o + i))), .int (Int32.ofNat (q + i)), .ref d])) := c5.trans (by
        refine XS.iload Xl.here hexec rfl (hb hbytes d15) rfl ?_
        refine sipushV Xl.here hexec rfl 255 (hb hbytes d17) (by decide) ?_
        refine XS.icmpYes Xl.here hexec rfl (pc0 := 20) rfl (hb hbytes d20) rfl (ii_le_t (hp i (by omega))) (by decide) rfl ?_
        refine XS.aloadN Xl.here hexec rfl (hb hbytes d26) rfl rfl ?_
        refine XS.iloadN Xl.here hexec rfl (hb hbytes d27) rfl ?_
        refine XS.iload Xl.here hexec rfl (hb hbytes d28) rfl ?_
        refine i2b Xl.here hexec rfl (hb hbytes d30) rfl ?_
        exact Steps.refl _)
      obtain ⟨T7, X7, p7, st7⟩ := Xl.aput hexec hBk rfl hlt rfl (fits_lo8 (cv A (o + i))) (g := (mkF m 31 #[.val (.ref b), .val (.int (Int32.ofNat (o + i))), .val (.ref d), .val (.int (Int32.ofNat (q + i))), .val (.int (Int32.ofNat len)), .val (.int (Int32.ofNat i)), .val (.int (cv A (o + i)))] [.int (lo8 (cv A (o + i))), .int (Int32.ofNat (q + i)), .ref d])) rfl (rest := []) rfl (hb hbytes d31)
      have c8 : Steps p.tables e below (s₁.setTop (entryFrame m #[.ref b, .int (Int32.ofNat o), .ref d, .int (Int32.ofNat q), .int (Int32.ofNat len)] 7)) (T7.setTop (mkF m 32 #[.val (.ref b), .val (.int (Int32.ofNat (o + i))), .val (.ref d), .val (.int (Int32.ofNat (q + i))), .val (.int (Int32.ofNat len)), .val (.int (Int32.ofNat i)), .val (.int (cv A (o + i)))] [])) := c6.trans (st7 _ (Steps.refl _))
      have c9 : Steps p.tables e below (s₁.setTop (entryFrame m #[.ref b, .int (Int32.ofNat o), .ref d, .int (Int32.ofNat q), .int (Int32.ofNat len)] 7)) (T7.setTop (mkF m 3 #[.val (.ref b), .val (.int (Int32.ofNat (o + i) + 1)), .val (.ref d), .val (.int (Int32.ofNat (q + i) + 1)), .val (.int (Int32.ofNat len)), .val (.int (Int32.ofNat i + 1)), .val (.int (cv A (o + i)))] [])) := c8.trans (by
        refine iincV X7.here hexec rfl 1 (hb hbytes d32) (by decide) rfl rfl ?_
        refine iincV X7.here hexec rfl 1 (hb hbytes d35) (by decide) rfl rfl ?_
        refine iincV X7.here hexec rfl 1 (hb hbytes d38) (by decide) rfl rfl ?_
        refine XS.goto X7.here hexec rfl (pc0 := 41) rfl (hb hbytes d41) (by decide) rfl ?_
        exact Steps.refl _)
      have c10 : Steps p.tables e below (s₁.setTop (entryFrame m #[.ref b, .int (Int32.ofNat o), .ref d, .int (Int32.ofNat q), .int (Int32.ofNat len)] 7)) (T7.setTop (mkF m 3 #[.val (.ref b), .val (.int (Int32.ofNat (o + (i + 1)))), .val (.ref d), .val (.int (Int32.ofNat (q + (i + 1)))), .val (.int (Int32.ofNat len)), .val (.int (Int32.ofNat (i + 1))), .val (.int (cv A (o + i)))] [])) := by
        have := c9
        rw [succ32, succ32, succ32] at this
        exact this
      exact ih (i + 1) (by omega) _ (Or.inr ⟨_, rfl, rfl⟩) T7 _ (by rw [copyLocs_step, ← List.append_assoc]; exact X7) (pl.trans p7) (fl.step (by omega) hlt (by simp)) c10
  obtain ⟨T9, B9, z9, X9, p9, f9, g9⟩ := loop len 0 (by omega) .unset (Or.inl rfl) s₁ B (by simpa [copyLocs] using X0) ⟨hB0.1, fun _ _ => rfl, rfl⟩ (Laid.zero _ _ _) c2
  have c11 : Steps p.tables e below (s₁.setTop (entryFrame m #[.ref b, .int (Int32.ofNat o), .ref d, .int (Int32.ofNat q), .int (Int32.ofNat len)] 7)) (T9.setTop (mkF m 46 #[.val (.ref b), .val (.int (Int32.ofNat (o + len))), .val (.ref d), .val (.int (Int32.ofNat (q + len))), .val (.int (Int32.ofNat len)), .val (.int (Int32.ofNat len)), z9] [.int (Int32.ofNat len)])) := g9.trans (by
    refine XS.iload X9.here hexec rfl (hb hbytes d3) rfl ?_
    refine XS.iload X9.here hexec rfl (hb hbytes d5) rfl ?_
    refine XS.icmpYes X9.here hexec rfl (pc0 := 7) rfl (hb hbytes d7) rfl (ii_ge_t (nlt32 (by omega) (Nat.le_refl _))) (by decide) rfl ?_
    refine XS.iload X9.here hexec rfl (hb hbytes d44) rfl ?_
    exact Steps.refl _)
  exact ⟨T9, some (.int (Int32.ofNat len)), _, _, _, X9, by simp, rfl, rfl, (fun h => by cases h), ⟨rfl, B9, p9.from hh0, f9⟩, fun fs hl => c11.trans (X9.ireturnOut hexec hret rfl (Or.inl rfl) (hb hbytes d46) hl)⟩
end Cmp5
namespace Cmp3
def yN : MethodName := ⟨"java/lang/StringUTF16", "compress", "([CII)[B"⟩
abbrev yB : ByteArray := jdk_52_method_16_code
theorem d0 : decode yB 0 = .ok (.iload_n 2, 1) := by decide +kernel
theorem d1 : decode yB 1 = .ok (.newarray .byte, 2) := by decide +kernel
theorem d3 : decode yB 3 = .ok (.astore_n 3, 1) := by decide +kernel
theorem d4 : decode yB 4 = .ok (.aload_n 0, 1) := by decide +kernel
theorem d5 : decode yB 5 = .ok (.iload_n 1, 1) := by decide +kernel
theorem d6 : decode yB 6 = .ok (.aload_n 3, 1) := by decide +kernel
theorem d7 : decode yB 7 = .ok (.iconst 0, 1) := by decide +kernel
theorem d8 : decode yB 8 = .ok (.iload_n 2, 1) := by decide +kernel
theorem d9 : decode yB 9 = .ok (.invokestatic 115, 3) := by decide +kernel
theorem d12 : decode yB 12 = .ok (.istore 4, 2) := by decide +kernel
theorem d14 : decode yB 14 = .ok (.iload 4, 2) := by decide +kernel
theorem d16 : decode yB 16 = .ok (.iload_n 2, 1) := by decide +kernel
theorem d17 : decode yB 17 = .ok (.if_icmp (.eq) 40, 3) := by decide +kernel
theorem d57 : decode yB 57 = .ok (.aload_n 3, 1) := by decide +kernel
theorem d58 : decode yB 58 = .ok (.areturn, 1) := by decide +kernel
def site : List Cond := [.arrayClass .byte, Cmp5.tab] ++ staticW U16 115 Cmp5.yN
def tab : Cond := tabOf yN yB 6 (some (.array .byte)) site
def P (b : Addr) (A : Cell) (o len : Nat) (args : Array Value) (s : State) : Prop := args = #[.ref b, .int (Int32.ofNat o), .int (Int32.ofNat len)] ∧ Ch b A s ∧ o + len ≤ A.slots.size ∧ len ≤ 536870912 ∧ ∀ i, i < len → ¬ 255 < cv A (o + i)
def E (b : Addr) (A : Cell) (o len : Nat) (r : Option Value) (s u : State) : Prop := NewArr .byte "[B" len (fun j => .int (lo8 (cv A (o + j)))) r s u ∧ u.heap.size = s.heap.size + 1
/-- no char of the range above 255: a new byte[] of their low bytes -/
theorem law (l : Launch) (b : Addr) (A : Cell) (o len : Nat) : Law l yN 3 3 1 18 yB 6 (some (.array .byte)) site (P b A o len) (E b A o len) [] 1 len := by
  refine Law.of_walk (plainFor_of_name (by decide +kernel)) (by decide +kernel) (by decide +kernel) (by decide) (fun _ _ h => by rw [h.1]; rfl) (fun _ U U' hal hh h => ⟨h.1, h.2.1.mv hal hh, h.2.2⟩) (fun r U U' V V' h1 hal h2 h => ⟨NewArr.mv r U U' V V' h1 hal h2 h.1, by rw [h1, h2]; exact h.2⟩) ?_
  intro p e s m args below meth c s₁ X0 hexec hbytes hml hret hlk hnm hown hh0 W hP
  obtain ⟨rfl, hA, l1, l2, hp⟩ := hP
  have a31 := hA.1.2.2.2
  have c1 : Steps p.tables e below (s₁.setTop (entryFrame m #[.ref b, .int (Int32.ofNat o), .int (Int32.ofNat len)] 6)) (s₁.setTop (mkF m 0 #[.val (.ref b), .val (.int (Int32.ofNat o)), .val (.int (Int32.ofNat len)), .unset, .unset, .unset] [])) := entry rfl
  have c2 : Steps p.tables e below (s₁.setTop (entryFrame m #[.ref b, .int (Int32.ofNat o), .int (Int32.ofNat len)] 6)) (s₁.setTop (mkF m 1 #[.val (.ref b), .val (.int (Int32.ofNat o)), .val (.int (Int32.ofNat len)), .unset, .unset, .unset] [.int (Int32.ofNat len)])) := c1.trans (by
    refine XS.iloadN X0.here hexec rfl (hb hbytes d0) rfl ?_
    exact Steps.refl _)
  obtain ⟨T3, B3, X3, ba3, bs3, bv3, bh3, bf3, st3⟩ := X0.anew hexec (atype := .byte) (wk W (.arrayClass .byte)) rfl (by show len * 1 ≤ _; omega) (by omega) (g := (mkF m 1 #[.val (.ref b), .val (.int (Int32.ofNat o)), .val (.int (Int32.ofNat len)), .unset, .unset, .unset] [.int (Int32.ofNat len)])) rfl (hb hbytes d1) (rest := []) rfl (Nat.le_refl _) (by show 0 + len ≤ len; omega)
  rw [hh0] at ba3 st3
  have kp3 : XT.Kept s T3 := (XT.Kept.of_eq hh0).push bh3
  have hA3 := hA.keep X3.warmed.alike (kp3 _ _ hA.1.1)
  have hne : b ≠ s.heap.size := hA.1.ne
  have c4 : Steps p.tables e below (s₁.setTop (entryFrame m #[.ref b, .int (Int32.ofNat o), .int (Int32.ofNat len)] 6)) (T3.setTop (mkF m 3 #[.val (.ref b), .val (.int (Int32.ofNat o)), .val (.int (Int32.ofNat len)), .unset, .unset, .unset] [.ref s.heap.size])) := c2.trans (st3 _ (Steps.refl _))
  have c5 : Steps p.tables e below (s₁.setTop (entryFrame m #[.ref b, .int (Int32.ofNat o), .int (Int32.ofNat len)] 6)) (T3.setTop (mkF m 9 #[.val (.ref b), .val (.int (Int32.ofNat o)), .val (.int (Int32.ofNat len)), .val (.ref s.heap.size), .unset, .unset] [.int (Int32.ofNat len), .int 0, .ref s.heap.size, .int (Int32.ofNat o), .ref b])) := c4.trans (by
    refine XS.astoreN X3.here hexec rfl (hb hbytes d3) rfl rfl rfl ?_
    refine XS.aloadN X3.here hexec rfl (hb hbytes d4) rfl rfl ?_
    refine XS.iloadN X3.here hexec rfl (hb hbytes d5) rfl ?_
    refine XS.aloadN X3.here hexec rfl (hb hbytes d6) rfl rfl ?_
    refine iconstV X3.here hexec rfl 0 (hb hbytes d7) (by decide) ?_
    refine XS.iloadN X3.here hexec rfl (hb hbytes d8) rfl ?_
    exact Steps.refl _)
  obtain ⟨v6, T6, X6, E6, g6⟩ := X3.callS hexec (Cmp5.law l b A s.heap.size B3 o 0 len) hown (wks W (staticW U16 115 Cmp5.yN)) (wk W Cmp5.tab) (W := 0) (Nat.le_of_ble_eq_true rfl) (Nat.le_of_ble_eq_true rfl) (Nat.le_refl _) (by show 0 + len + 0 ≤ len; omega) (g := (mkF m 9 #[.val (.ref b), .val (.int (Int32.ofNat o)), .val (.int (Int32.ofNat len)), .val (.ref s.heap.size), .unset, .unset] [.int (Int32.ofNat len), .int (Int32.ofNat 0), .ref s.heap.size, .int (Int32.ofNat o), .ref b])) rfl (by rw [hml]; rfl) c5 (argsL := [.ref b, .int (Int32.ofNat o), .ref s.heap.size, .int (Int32.ofNat 0), .int (Int32.ofNat len)]) (rest := []) rfl rfl (by show 2 * 0 + 0 ≤ _; decide) (hb hbytes d9) (⟨rfl, hA3, ba3, hne, l1, by rw [bs3]; simp, hp⟩)
  obtain ⟨rfl, B6, p6, f6⟩ := E6
  have c7 : Steps p.tables e below (s₁.setTop (entryFrame m #[.ref b, .int (Int32.ofNat o), .int (Int32.ofNat len)] 6)) (T6.setTop (mkF m 12 #[.val (.ref b), .val (.int (Int32.ofNat o)), .val (.int (Int32.ofNat len)), .val (.ref s.heap.size), .unset, .unset] [.int (Int32.ofNat len)])) := g6
  have c8 : Steps p.tables e below (s₁.setTop (entryFrame m #[.ref b, .int (Int32.ofNat o), .int (Int32.ofNat len)] 6)) (T6.setTop (mkF m 58 #[.val (.ref b), .val (.int (Int32.ofNat o)), .val (.int (Int32.ofNat len)), .val (.ref s.heap.size), .val (.int (Int32.ofNat len)), .unset] [.ref s.heap.size])) := c7.trans (by
    refine XS.istore X6.here hexec rfl (hb hbytes d12) rfl rfl ?_
    refine XS.iload X6.here hexec rfl (hb hbytes d14) rfl ?_
    refine XS.iloadN X6.here hexec rfl (hb hbytes d16) rfl ?_
    refine XS.icmpYes X6.here hexec rfl (pc0 := 17) rfl (hb hbytes d17) rfl (ii_eq_t rfl) (by decide) rfl ?_
    refine XS.aloadN X6.here hexec rfl (hb hbytes d57) rfl rfl ?_
    exact Steps.refl _)
  have X8 := X6.wide (L' := []) (cells' := 1) (slots' := len) (fun x hx hlt => by
    simp only [List.nil_append, copyLocs, List.mem_map, List.mem_range] at hx
    obtain ⟨i, -, rfl⟩ := hx
    exact absurd hlt (Nat.lt_irrefl _)) (Nat.le_refl _) (by omega)
  exact ⟨T6, some (.ref s.heap.size), _, _, _, X8, rfl, rfl, rfl, (fun h => by cases h), ⟨⟨rfl, B6, ba3.like (X3.warmed.alike.symm.trans X6.warmed.alike) p6.1 f6.1 f6.2.1 f6.2.2.1, f6.2.1.trans bv3, by rw [X6.warmed.alike.findClass, f6.1]; exact bf3, by rw [f6.2.2.1, bs3]; simp, fun j hj => by rw [f6.2.2.2 j, if_pos (by omega)]; rfl, kp3.put p6 (Nat.le_refl _)⟩, by rw [p6.2.2, bh3, hh0]; simp⟩, fun fs hl => c8.trans (X8.areturnOut hexec rfl hret rfl (hb hbytes d58) hl)⟩
end Cmp3
namespace CodL
def yN : MethodName := ⟨"java/lang/StringUTF16", "coderFromArrayLen", "([BI)B"⟩
abbrev yB : ByteArray := jdk_52_method_15_code
theorem d0 : decode yB 0 = .ok (.iload_n 1, 1) := by decide +kernel
theorem d1 : decode yB 1 = .ok (.aload_n 0, 1) := by decide +kernel
theorem d2 : decode yB 2 = .ok (.arraylength, 1) := by decide +kernel
theorem d3 : decode yB 3 = .ok (.isub, 1) := by decide +kernel
theorem d4 : decode yB 4 = .ok (.bipush 31, 2) := by decide +kernel
theorem d6 : decode yB 6 = .ok (.iushr, 1) := by decide +kernel
theorem d7 : decode yB 7 = .ok (.i2b, 1) := by decide +kernel
theorem d8 : decode yB 8 = .ok (.ireturn, 1) := by decide +kernel
def site : List Cond := []
def tab : Cond := tabOf yN yB 2 (some .byte) site
def P (d : Addr) (B : Cell) (args : Array Value) (s : State) : Prop := args = #[.ref d, .int (Int32.ofNat B.slots.size)] ∧ Arr .byte d B s
def E (r : Option Value) (s u : State) : Prop := XT.PureE (some (.int 0)) r s u
/-- an array as long as the number of chars: LATIN1 -/
theorem law (l : Launch) (d : Addr) (B : Cell) : Law l yN 2 2 0 0 yB 2 (some .byte) site (P d B) E [] 0 0 := by
  refine Law.of_walk (plainFor_of_name (by decide +kernel)) (by decide +kernel) (by decide +kernel) (by decide) (fun _ _ h => by rw [h.1]; rfl) (fun _ U U' hal hh h => ⟨h.1, h.2.mv hal hh⟩) (fun r U U' V V' h1 hal h2 h => XT.PureE.mv r U U' V V' h1 hal h2 h) ?_
  intro p e s m args below meth c s₁ X0 hexec hbytes hml hret hlk hnm hown hh0 W hP
  obtain ⟨rfl, hB⟩ := hP
  have hB0 := hB.mv X0.warmed.alike hh0
  have c1 : Steps p.tables e below (s₁.setTop (entryFrame m #[.ref d, .int (Int32.ofNat B.slots.size)] 2)) (s₁.setTop (mkF m 0 #[.val (.ref d), .val (.int (Int32.ofNat B.slots.size))] [])) := entry rfl
  have c2 : Steps p.tables e below (s₁.setTop (entryFrame m #[.ref d, .int (Int32.ofNat B.slots.size)] 2)) (s₁.setTop (mkF m 2 #[.val (.ref d), .val (.int (Int32.ofNat B.slots.size))] [.ref d, .int (Int32.ofNat B.slots.size)])) := c1.trans (by
    refine XS.iloadN X0.here hexec rfl (hb hbytes d0) rfl ?_
    refine XS.aloadN X0.here hexec rfl (hb hbytes d1) rfl rfl ?_
    exact Steps.refl _)
  have c3 : Steps p.tables e below (s₁.setTop (entryFrame m #[.ref d, .int (Int32.ofNat B.slots.size)] 2)) (s₁.setTop (mkF m 8 #[.val (.ref d), .val (.int (Int32.ofNat B.slots.size))] [.int (lo8 (ushr (Int32.ofNat B.slots.size - Int32.ofNat B.slots.size) 31))])) := c2.trans (by
    refine X0.alen hexec hB0 rfl rfl (hb hbytes d2) ?_
    refine XS.isub X0.here hexec rfl (hb hbytes d3) rfl ?_
    refine bipushV X0.here hexec rfl 31 (hb hbytes d4) (by decide) ?_
    refine iushr X0.here hexec rfl (hb hbytes d6) rfl ?_
    refine i2b X0.here hexec rfl (hb hbytes d7) rfl ?_
    exact Steps.refl _)
  have e0 : lo8 (ushr (Int32.ofNat B.slots.size - Int32.ofNat B.slots.size) 31) = 0 := by rw [Int32.sub_self]; decide
  rw [e0] at c3
  exact ⟨s₁, some (.int 0), _, _, _, X0, rfl, rfl, rfl, (fun h => by cases h), ⟨rfl, hh0⟩, fun fs hl => c3.trans (X0.ireturnOut hexec hret rfl (Or.inr (Or.inr (Or.inl rfl))) (hb hbytes d8) hl)⟩
end CodL
/-- the String at a is Latin-1 over a new byte[] (the heap's one new cell): the low bytes of the len chars of A from o on; every cell but a is kept -/
def Got (a : Addr) (D : Cell) (fV fC : Field) (A : Cell) (o len : Nat) (r : Option Value) (s u : State) : Prop := r = none ∧ ∃ D' V : Cell, Blank "java/lang/String" a D' u ∧ Same D D' [fV.slot, fC.slot] ∧ D'.slots[fV.slot]? = some (.ref s.heap.size) ∧ D'.slots[fC.slot]? = some (.int 0) ∧ Arr .byte s.heap.size V u ∧ V.vm = .none ∧ u.vm.findClass "[B" = some V.cls ∧ V.slots.size = len ∧ (∀ j, j < len → V.slots[j]? = some (.int (lo8 (cv A (o + j))))) ∧ (∀ (y : Addr) (c : Cell), y ≠ a → s.heap[y]? = some c → u.heap[y]? = some c) ∧ u.heap.size = s.heap.size + 1
theorem Got.mv {a : Addr} {D A : Cell} {fV fC : Field} {o len : Nat} : ∀ r (U U' V V' : State), U'.heap = U.heap → V.vm.Alike V'.vm → V'.heap = V.heap → Got a D fV fC A o len r U V → Got a D fV fC A o len r U' V' :=
  fun r U U' V V' h1 hal h2 ⟨e0, D', X, a1, a2, a3, a4, a5, a6, a7, a8, a9, a10, a11⟩ => ⟨e0, D', X, a1.mv hal h2, a2, by rw [h1]; exact a3, a4, by rw [h1]; exact a5.mv hal h2, a6, by rw [hal.findClass]; exact a7, a8, a9, by rw [h1, h2]; exact a10, by rw [h1, h2]; exact a11⟩
namespace New4
def yN : MethodName := ⟨"java/lang/String", "<init>", "([CIILjava/lang/Void;)V"⟩
abbrev yB : ByteArray := jdk_42_method_149_code
theorem d0 : decode yB 0 = .ok (.aload_n 0, 1) := by decide +kernel
theorem d1 : decode yB 1 = .ok (.invokespecial 1, 3) := by decide +kernel
theorem d4 : decode yB 4 = .ok (.iload_n 3, 1) := by decide +kernel
theorem d5 : decode yB 5 = .ok (.ifCond (.ne) 22, 3) := by decide +kernel
theorem d27 : decode yB 27 = .ok (.getstatic 38, 3) := by decide +kernel
theorem d30 : decode yB 30 = .ok (.ifCond (.eq) 28, 3) := by decide +kernel
theorem d33 : decode yB 33 = .ok (.aload_n 1, 1) := by decide +kernel
theorem d34 : decode yB 34 = .ok (.iload_n 2, 1) := by decide +kernel
theorem d35 : decode yB 35 = .ok (.iload_n 3, 1) := by decide +kernel
theorem d36 : decode yB 36 = .ok (.invokestatic 177, 3) := by decide +kernel
theorem d39 : decode yB 39 = .ok (.astore 5, 2) := by decide +kernel
theorem d41 : decode yB 41 = .ok (.aload_n 0, 1) := by decide +kernel
theorem d42 : decode yB 42 = .ok (.aload 5, 2) := by decide +kernel
theorem d44 : decode yB 44 = .ok (.iload_n 3, 1) := by decide +kernel
theorem d45 : decode yB 45 = .ok (.invokestatic 47, 3) := by decide +kernel
theorem d48 : decode yB 48 = .ok (.putfield 15, 3) := by decide +kernel
theorem d51 : decode yB 51 = .ok (.aload_n 0, 1) := by decide +kernel
theorem d52 : decode yB 52 = .ok (.aload 5, 2) := by decide +kernel
theorem d54 : decode yB 54 = .ok (.putfield 9, 3) := by decide +kernel
theorem d57 : decode yB 57 = .ok (.return_, 1) := by decide +kernel
def site : List Cond := [.fieldLink "java/lang/String" 38 "java/lang/String" "COMPACT_STRINGS" "Z", Cmp3.tab, CodL.tab, .laysFinal "java/lang/String" "java/lang/String" "value" "[B", .fieldLink "java/lang/String" 9 "java/lang/String" "value" "[B", .laysFinal "java/lang/String" "java/lang/String" "coder" "B", .fieldLink "java/lang/String" 15 "java/lang/String" "coder" "B"] ++ objW "java/lang/String" 1 ++ staticW "java/lang/String" 177 Cmp3.yN ++ staticW "java/lang/String" 47 CodL.yN
def tab : Cond := tabOf yN yB 6 none site
def P (a : Addr) (D : Cell) (fV fC : Field) (b : Addr) (A : Cell) (z : Int32) (o len : Nat) (args : Array Value) (s : State) : Prop := args = #[.ref a, .ref b, .int (Int32.ofNat o), .int (Int32.ofNat len), .null] ∧ Blank "java/lang/String" a D s ∧ Found "java/lang/String" "value" "[B" fV s ∧ Found "java/lang/String" "coder" "B" fC s ∧ Ch b A s ∧ StaticIs s "java/lang/String" "COMPACT_STRINGS" "Z" (.int z) ∧ ¬ z = 0 ∧ 0 < len ∧ o + len ≤ A.slots.size ∧ len ≤ 536870912 ∧ ∀ i, i < len → ¬ 255 < cv A (o + i)
def E (a : Addr) (D : Cell) (fV fC : Field) (A : Cell) (o len : Nat) (r : Option Value) (s u : State) : Prop := Got a D fV fC A o len r s u
/-- len > 0, no char of the range above 255: a Latin-1 String of their low bytes -/
theorem law (l : Launch) (a : Addr) (D : Cell) (fV fC : Field) (b : Addr) (A : Cell) (z : Int32) (o len : Nat) : Law l yN 5 4 2 35 yB 6 none site (P a D fV fC b A z o len) (E a D fV fC A o len) [⟨a, fC.slot⟩, ⟨a, fV.slot⟩] 1 len := by
  refine Law.of_walk (plainFor_of_name (by decide +kernel)) (by decide +kernel) (by decide +kernel) (by decide) (fun _ _ h => by rw [h.1]; rfl) (fun _ U U' hal hh h => ⟨h.1, h.2.1.mv hal hh, h.2.2.1.al hal, h.2.2.2.1.al hal, h.2.2.2.2.1.mv hal hh, h.2.2.2.2.2.1.there hal hh, h.2.2.2.2.2.2⟩) (fun r U U' V V' h1 hal h2 h => Got.mv r U U' V V' h1 hal h2 h) ?_
  intro p e s m args below meth c s₁ X0 hexec hbytes hml hret hlk hnm hown hh0 W hP
  obtain ⟨rfl, hB, f1, f2, hA, s1, hz, l0, l1, l2, hp⟩ := hP
  have a31 := hA.1.2.2.2
  have c1 : Steps p.tables e below (s₁.setTop (entryFrame m #[.ref a, .ref b, .int (Int32.ofNat o), .int (Int32.ofNat len), .null] 6)) (s₁.setTop (mkF m 0 #[.val (.ref a), .val (.ref b), .val (.int (Int32.ofNat o)), .val (.int (Int32.ofNat len)), .val .null, .unset] [])) := entry rfl
  have c2 : Steps p.tables e below (s₁.setTop (entryFrame m #[.ref a, .ref b, .int (Int32.ofNat o), .int (Int32.ofNat len), .null] 6)) (s₁.setTop (mkF m 1 #[.val (.ref a), .val (.ref b), .val (.int (Int32.ofNat o)), .val (.int (Int32.ofNat len)), .val .null, .unset] [.ref a])) := c1.trans (by
    refine XS.aloadN X0.here hexec rfl (hb hbytes d0) rfl rfl ?_
    exact Steps.refl _)
  obtain ⟨T3, X3, q3, st3⟩ := X0.oinit hexec hown (wks W (objW "java/lang/String" 1)) (g := (mkF m 1 #[.val (.ref a), .val (.ref b), .val (.int (Int32.ofNat o)), .val (.int (Int32.ofNat len)), .val .null, .unset] [.ref a])) rfl (by rw [hml]; rfl) (rest := []) rfl (hb hbytes d1) (W := 0) (by show 2 * 0 + 0 ≤ _; decide) (Nat.le_of_ble_eq_true rfl) (Nat.le_of_ble_eq_true rfl)
  have hh3 := q3.trans hh0
  have c4 : Steps p.tables e below (s₁.setTop (entryFrame m #[.ref a, .ref b, .int (Int32.ofNat o), .int (Int32.ofNat len), .null] 6)) (T3.setTop (mkF m 27 #[.val (.ref a), .val (.ref b), .val (.int (Int32.ofNat o)), .val (.int (Int32.ofNat len)), .val .null, .unset] [])) := (c2.trans (st3 _ (Steps.refl _))).trans (by
    refine XS.iloadN X3.here hexec rfl (hb hbytes d4) rfl ?_
    refine XS.ifYes X3.here hexec rfl (pc0 := 5) rfl (hb hbytes d5) rfl (i0_ne_t (nz32 (by omega) l0)) (by decide) rfl ?_
    exact Steps.refl _)
  obtain ⟨T5, X5, q5, st5⟩ := X3.sget hexec hown (wk W (.fieldLink "java/lang/String" 38 "java/lang/String" "COMPACT_STRINGS" "Z")) s1 (fun _ _ h => by rw [hh3]; exact h) (g := (mkF m 27 #[.val (.ref a), .val (.ref b), .val (.int (Int32.ofNat o)), .val (.int (Int32.ofNat len)), .val .null, .unset] [])) rfl (hb hbytes d27)
  have hh5 := q5.trans hh3
  have c6 : Steps p.tables e below (s₁.setTop (entryFrame m #[.ref a, .ref b, .int (Int32.ofNat o), .int (Int32.ofNat len), .null] 6)) (T5.setTop (mkF m 30 #[.val (.ref a), .val (.ref b), .val (.int (Int32.ofNat o)), .val (.int (Int32.ofNat len)), .val .null, .unset] [.int z])) := c4.trans (st5 _ (Steps.refl _))
  have c7 : Steps p.tables e below (s₁.setTop (entryFrame m #[.ref a, .ref b, .int (Int32.ofNat o), .int (Int32.ofNat len), .null] 6)) (T5.setTop (mkF m 36 #[.val (.ref a), .val (.ref b), .val (.int (Int32.ofNat o)), .val (.int (Int32.ofNat len)), .val .null, .unset] [.int (Int32.ofNat len), .int (Int32.ofNat o), .ref b])) := c6.trans (by
    refine XS.ifNo X5.here hexec rfl (hb hbytes d30) rfl (i0_eq_f hz) ?_
    refine XS.aloadN X5.here hexec rfl (hb hbytes d33) rfl rfl ?_
    refine XS.iloadN X5.here hexec rfl (hb hbytes d34) rfl ?_
    refine XS.iloadN X5.here hexec rfl (hb hbytes d35) rfl ?_
    exact Steps.refl _)
  obtain ⟨v8, T8, X8, E8, g8⟩ := X5.callS hexec (Cmp3.law l b A o len) hown (wks W (staticW "java/lang/String" 177 Cmp3.yN)) (wk W Cmp3.tab) (W := 0) (Nat.le_of_ble_eq_true rfl) (Nat.le_of_ble_eq_true rfl) (Nat.le_refl _) (by show 0 + len ≤ len; omega) (g := (mkF m 36 #[.val (.ref a), .val (.ref b), .val (.int (Int32.ofNat o)), .val (.int (Int32.ofNat len)), .val .null, .unset] [.int (Int32.ofNat len), .int (Int32.ofNat o), .ref b])) rfl (by rw [hml]; rfl) c7 (argsL := [.ref b, .int (Int32.ofNat o), .int (Int32.ofNat len)]) (rest := []) rfl rfl (by show 2 * 0 + 0 ≤ _; decide) (hb hbytes d36) (⟨rfl, hA.mv X5.warmed.alike hh5, l1, l2, hp⟩)
  obtain ⟨e8, z8⟩ := E8
  obtain ⟨rfl, N, n1, n2, n3, n4, n5, n6⟩ := NewArr.mv _ T5 s _ _ hh5.symm (Vm.Alike.refl _) rfl e8
  rw [hh5] at z8
  have hB1 := hB.keep X8.warmed.alike (n6 _ _ hB.1)
  have hne : s.heap.size ≠ a := (Nat.ne_of_lt (Array.getElem?_eq_some_iff.mp hB.1).1).symm
  have c9 : Steps p.tables e below (s₁.setTop (entryFrame m #[.ref a, .ref b, .int (Int32.ofNat o), .int (Int32.ofNat len), .null] 6)) (T8.setTop (mkF m 39 #[.val (.ref a), .val (.ref b), .val (.int (Int32.ofNat o)), .val (.int (Int32.ofNat len)), .val .null, .unset] [.ref s.heap.size])) := g8
  have c10 : Steps p.tables e below (s₁.setTop (entryFrame m #[.ref a, .ref b, .int (Int32.ofNat o), .int (Int32.ofNat len), .null] 6)) (T8.setTop (mkF m 45 #[.val (.ref a), .val (.ref b), .val (.int (Int32.ofNat o)), .val (.int (Int32.ofNat len)), .val .null, .val (.ref s.heap.size)] [.int (Int32.ofNat N.slots.size), .ref s.heap.size, .ref a])) := by
    have hc : Steps p.tables e below (s₁.setTop (entryFrame m #[.ref a, .ref b, .int (Int32.ofNat o), .int (Int32.ofNat len), .null] 6)) (T8.setTop (mkF m 45 #[.val (.ref a), .val (.ref b), .val (.int (Int32.ofNat o)), .val (.int (Int32.ofNat len)), .val .null, .val (.ref s.heap.size)] [.int (Int32.ofNat len), .ref s.heap.size, .ref a])) := c9.trans (by
      refine XS.astore X8.here hexec rfl (hb hbytes d39) rfl rfl rfl ?_
      refine XS.aloadN X8.here hexec rfl (hb hbytes d41) rfl rfl ?_
      refine XS.aload X8.here hexec rfl (hb hbytes d42) rfl rfl ?_
      refine XS.iloadN X8.here hexec rfl (hb hbytes d44) rfl ?_
      exact Steps.refl _)
    rw [n4]; exact hc
  obtain ⟨v11, T11, X11, E11, g11⟩ := X8.callS hexec (CodL.law l s.heap.size N) hown (wks W (staticW "java/lang/String" 47 CodL.yN)) (wk W CodL.tab) (W := 1) (Nat.le_of_ble_eq_true rfl) (Nat.le_of_ble_eq_true rfl) (Nat.le_refl _) (by show 0 + len + 0 ≤ len; omega) (g := (mkF m 45 #[.val (.ref a), .val (.ref b), .val (.int (Int32.ofNat o)), .val (.int (Int32.ofNat len)), .val .null, .val (.ref s.heap.size)] [.int (Int32.ofNat N.slots.size), .ref s.heap.size, .ref a])) rfl (by rw [hml]; rfl) c10 (argsL := [.ref s.heap.size, .int (Int32.ofNat N.slots.size)]) (rest := [.ref a]) rfl rfl (by show 2 * 0 + (1 + 0) ≤ _; decide) (hb hbytes d45) (⟨rfl, n1⟩)
  obtain ⟨rfl, q11⟩ := E11
  have hB11 := hB1.mv (X8.warmed.alike.symm.trans X11.warmed.alike) q11
  have c12 : Steps p.tables e below (s₁.setTop (entryFrame m #[.ref a, .ref b, .int (Int32.ofNat o), .int (Int32.ofNat len), .null] 6)) (T11.setTop (mkF m 48 #[.val (.ref a), .val (.ref b), .val (.int (Int32.ofNat o)), .val (.int (Int32.ofNat len)), .val .null, .val (.ref s.heap.size)] [.int 0, .ref a])) := g11
  obtain ⟨T13, X13, p13, bl13, sl13, st13⟩ := X11.finit hexec hown (wk W (.fieldLink "java/lang/String" 15 "java/lang/String" "coder" "B")) (Or.inr ⟨_, (wk W (.laysFinal "java/lang/String" "java/lang/String" "coder" "B"))⟩) (Or.inl ⟨rfl, hnm⟩) f2 (Or.inl rfl) hB11 (t := .byte) (by decide +kernel) rfl (g := (mkF m 48 #[.val (.ref a), .val (.ref b), .val (.int (Int32.ofNat o)), .val (.int (Int32.ofNat len)), .val .null, .val (.ref s.heap.size)] [.int 0, .ref a])) rfl (rest := []) rfl (hb hbytes d48)
  have c14 : Steps p.tables e below (s₁.setTop (entryFrame m #[.ref a, .ref b, .int (Int32.ofNat o), .int (Int32.ofNat len), .null] 6)) (T13.setTop (mkF m 54 #[.val (.ref a), .val (.ref b), .val (.int (Int32.ofNat o)), .val (.int (Int32.ofNat len)), .val .null, .val (.ref s.heap.size)] [.ref s.heap.size, .ref a])) := (c12.trans (st13 _ (Steps.refl _))).trans (by
    refine XS.aloadN X13.here hexec rfl (hb hbytes d51) rfl rfl ?_
    refine XS.aload X13.here hexec rfl (hb hbytes d52) rfl rfl ?_
    exact Steps.refl _)
  obtain ⟨T15, X15, p15, bl15, sl15, st15⟩ := X13.finit hexec hown (wk W (.fieldLink "java/lang/String" 9 "java/lang/String" "value" "[B")) (Or.inr ⟨_, (wk W (.laysFinal "java/lang/String" "java/lang/String" "value" "[B"))⟩) (Or.inl ⟨rfl, hnm⟩) f1 (Or.inl rfl) bl13 (t := (.array .byte)) (by decide +kernel) rfl (g := (mkF m 54 #[.val (.ref a), .val (.ref b), .val (.int (Int32.ofNat o)), .val (.int (Int32.ofNat len)), .val .null, .val (.ref s.heap.size)] [.ref s.heap.size, .ref a])) rfl (rest := []) rfl (hb hbytes d54)
  have c16 : Steps p.tables e below (s₁.setTop (entryFrame m #[.ref a, .ref b, .int (Int32.ofNat o), .int (Int32.ofNat len), .null] 6)) (T15.setTop (mkF m 57 #[.val (.ref a), .val (.ref b), .val (.int (Int32.ofNat o)), .val (.int (Int32.ofNat len)), .val .null, .val (.ref s.heap.size)] [])) := c14.trans (st15 _ (Steps.refl _))
  have ap := apart (Or.inr ⟨_, (wk W (.laysFinal "java/lang/String" "java/lang/String" "value" "[B"))⟩) (Or.inr ⟨_, (wk W (.laysFinal "java/lang/String" "java/lang/String" "coder" "B"))⟩) f1 f2 (t₁ := .array .byte) (t₂ := .byte) (by decide +kernel) (by decide +kernel) (by decide)
  have al := X8.warmed.alike.symm.trans X15.warmed.alike
  have n7 : T11.heap[s.heap.size]? = some N := by rw [q11]; exact n1.1
  exact ⟨T15, none, _, _, _, X15, by simp, rfl, by omega, (fun _ => rfl), ⟨rfl, _, N, bl15, ((Same.refl D _).set _ (by simp)).set _ (by simp), sl15, (Cell.slots_setSlot_ne _ ap).trans sl13, n1.keep al (p15.other hne (p13.other hne n7)), n2, by rw [al.findClass]; exact n3, n4, n5, fun y c h1 h2 => p15.other h1 (p13.other h1 (by rw [q11]; exact n6 y c h2)), by rw [p15.2.2, p13.2.2, q11]; exact z8⟩, fun fs hl => c16.trans (X15.returnOut hexec hret (hb hbytes d57) hl)⟩
end New4
namespace New1
def yN : MethodName := ⟨"java/lang/String", "<init>", "([C)V"⟩
abbrev yB : ByteArray := jdk_42_method_3_code
theorem d0 : decode yB 0 = .ok (.aload_n 0, 1) := by decide +kernel
theorem d1 : decode yB 1 = .ok (.aload_n 1, 1) := by decide +kernel
theorem d2 : decode yB 2 = .ok (.iconst 0, 1) := by decide +kernel
theorem d3 : decode yB 3 = .ok (.aload_n 1, 1) := by decide +kernel
theorem d4 : decode yB 4 = .ok (.arraylength, 1) := by decide +kernel
theorem d5 : decode yB 5 = .ok (.aconst_null, 1) := by decide +kernel
theorem d6 : decode yB 6 = .ok (.invokespecial 27, 3) := by decide +kernel
theorem d9 : decode yB 9 = .ok (.return_, 1) := by decide +kernel
def site : List Cond := [New4.tab] ++ initW "java/lang/String" 27 New4.yN
def tab : Cond := tabOf yN yB 2 none site
def P (a : Addr) (D : Cell) (fV fC : Field) (b : Addr) (A : Cell) (z : Int32) (args : Array Value) (s : State) : Prop := args = #[.ref a, .ref b] ∧ Blank "java/lang/String" a D s ∧ Found "java/lang/String" "value" "[B" fV s ∧ Found "java/lang/String" "coder" "B" fC s ∧ Ch b A s ∧ StaticIs s "java/lang/String" "COMPACT_STRINGS" "Z" (.int z) ∧ ¬ z = 0 ∧ 0 < A.slots.size ∧ A.slots.size ≤ 536870912 ∧ ∀ i, i < A.slots.size → ¬ 255 < cv A i
def E (a : Addr) (D : Cell) (fV fC : Field) (A : Cell) (r : Option Value) (s u : State) : Prop := Got a D fV fC A 0 A.slots.size r s u
/-- new String(chars), not empty, no char above 255: a Latin-1 String of their low bytes -/
theorem law (l : Launch) (a : Addr) (D : Cell) (fV fC : Field) (b : Addr) (A : Cell) (z : Int32) : Law l yN 2 1 3 52 yB 2 none site (P a D fV fC b A z) (E a D fV fC A) [⟨a, fC.slot⟩, ⟨a, fV.slot⟩] 1 A.slots.size := by
  refine Law.of_walk (plainFor_of_name (by decide +kernel)) (by decide +kernel) (by decide +kernel) (by decide) (fun _ _ h => by rw [h.1]; rfl) (fun _ U U' hal hh h => ⟨h.1, h.2.1.mv hal hh, h.2.2.1.al hal, h.2.2.2.1.al hal, h.2.2.2.2.1.mv hal hh, h.2.2.2.2.2.1.there hal hh, h.2.2.2.2.2.2⟩) (fun r U U' V V' h1 hal h2 h => Got.mv r U U' V V' h1 hal h2 h) ?_
  intro p e s m args below meth c s₁ X0 hexec hbytes hml hret hlk hnm hown hh0 W hP
  obtain ⟨rfl, hB, f1, f2, hA, s1, hz, l0, l2, hp⟩ := hP
  have c1 : Steps p.tables e below (s₁.setTop (entryFrame m #[.ref a, .ref b] 2)) (s₁.setTop (mkF m 0 #[.val (.ref a), .val (.ref b)] [])) := entry rfl
  have c2 : Steps p.tables e below (s₁.setTop (entryFrame m #[.ref a, .ref b] 2)) (s₁.setTop (mkF m 6 #[.val (.ref a), .val (.ref b)] [.null, .int (Int32.ofNat A.slots.size), .int 0, .ref b, .ref a])) := c1.trans (by
    refine XS.aloadN X0.here hexec rfl (hb hbytes d0) rfl rfl ?_
    refine XS.aloadN X0.here hexec rfl (hb hbytes d1) rfl rfl ?_
    refine iconstV X0.here hexec rfl 0 (hb hbytes d2) (by decide) ?_
    refine XS.aloadN X0.here hexec rfl (hb hbytes d3) rfl rfl ?_
    refine X0.alen hexec (hA.1.mv X0.warmed.alike hh0) rfl rfl (hb hbytes d4) ?_
    refine XS.aconstNull X0.here hexec rfl (hb hbytes d5) ?_
    exact Steps.refl _)
  obtain ⟨v3, T3, X3, E3, g3⟩ := X0.callN hexec (New4.law l a D fV fC b A z 0 A.slots.size) rfl hown (wks W (initW "java/lang/String" 27 New4.yN)) (W New4.tab (by simp only [site, List.mem_cons, List.mem_append, true_or, or_true])) (W := 0) (Nat.le_of_ble_eq_true rfl) (Nat.le_of_ble_eq_true rfl) (Nat.le_refl _) (by show 0 + A.slots.size ≤ A.slots.size; omega) (g := (mkF m 6 #[.val (.ref a), .val (.ref b)] [.null, .int (Int32.ofNat A.slots.size), .int (Int32.ofNat 0), .ref b, .ref a])) rfl (by rw [hml]; rfl) c2 (argsL := [.ref b, .int (Int32.ofNat 0), .int (Int32.ofNat A.slots.size), .null]) (rest := []) rfl rfl (by show 2 * 0 + 0 ≤ _; decide) (hb hbytes d6) (⟨rfl, hB.mv X0.warmed.alike hh0, f1.al X0.warmed.alike, f2.al X0.warmed.alike, hA.mv X0.warmed.alike hh0, s1.there X0.warmed.alike hh0, hz, l0, by omega, l2, fun i hi => by rw [Nat.zero_add]; exact hp i hi⟩)
  have e0 := Got.mv _ s₁ s _ _ hh0.symm (Vm.Alike.refl _) rfl E3
  obtain rfl := e0.1
  have c4 : Steps p.tables e below (s₁.setTop (entryFrame m #[.ref a, .ref b] 2)) (T3.setTop (mkF m 9 #[.val (.ref a), .val (.ref b)] [])) := g3
  exact ⟨T3, none, _, _, _, X3, by simp, rfl, by omega, (fun _ => rfl), e0, fun fs hl => c4.trans (X3.returnOut hexec hret (hb hbytes d9) hl)⟩
theorem pays {l : Launch} {R : Room} {p : Program} {e : Env} {below : List Frame} {s : State} {sargs : Array Value} {len W : Nat} (a : Addr) (D : Cell) (fV fC : Field) (b : Addr) (A : Cell) (z : Int32) (htab : tab.before sargs s = true) (hfr : 4 ≤ R.frames) (hlo : W + 65 ≤ R.locals) :
    Back l R p e below s sargs yN len W (fun A₁ a₁ => A₁.cells + 1 ≤ R.cells ∧ A₁.slots + A.slots.size ≤ R.slots ∧ P a D fV fC b A z a₁ A₁.U) (fun A₁ _ v₁ B₁ => E a D fV fC A v₁ A₁.U B₁.U ∧ B₁.locs = A₁.locs ++ [⟨a, fC.slot⟩, ⟨a, fV.slot⟩] ∧ B₁.cells = A₁.cells + 1 ∧ B₁.slots = A₁.slots + A.slots.size) :=
  (law l a D fV fC b A z).pays htab hfr (by omega)
end New1
/-- the byte, read back as charAt reads it, is the char -/
theorem lo8_mask {x : Int32} (h0 : ¬ x < 0) (h1 : ¬ 255 < x) : lo8 x &&& 255 = x := by
  have t : ∀ k : Fin 256, lo8 (Int32.ofNat k.val) &&& 255 = Int32.ofNat k.val := by decide +kernel
  rw [Int32.lt_iff_toInt_lt] at h0 h1
  have e0 : (0 : Int32).toInt = 0 := rfl
  have e1 : (255 : Int32).toInt = 255 := rfl
  obtain ⟨k, hk⟩ : ∃ k : Nat, x.toInt = k := ⟨x.toInt.toNat, by omega⟩
  have hx : x = Int32.ofNat k := Int32.toInt_inj.mp (by rw [hk, Int32.toInt_ofNat_small (by omega)])
  rw [hx]
  exact t ⟨k, by omega⟩
end StrChars
namespace StrChars.Road
open Jvm Sem ClassFile Op Lib Jvm.Stand Jvm.Free Jvm.Free.XT
open Jvm.Lib.Cold (StaticIs)
abbrev ST : String := "java/lang/String"
/-- every table word that New1's law asks, flat -/
abbrev words : List Jvm.Cond := [.code New1.yN New1.yB 2 none, .initialized ST, .methodLink ST 27 New4.yN, .instanceMethod New4.yN,
  .code New4.yN New4.yB 6 none, .fieldLink ST 38 ST "COMPACT_STRINGS" "Z", .laysFinal ST ST "value" "[B", .fieldLink ST 9 ST "value" "[B", .laysFinal ST ST "coder" "B", .fieldLink ST 15 ST "coder" "B",
  .methodLink ST 1 Lib.objectInit, .instanceMethod Lib.objectInit, .code Lib.objectInit ⟨#[0xb1]⟩ 1 none, .methodLink ST 177 Cmp3.yN, .static Cmp3.yN, .methodLink ST 47 CodL.yN, .static CodL.yN,
  .code Cmp3.yN Cmp3.yB 6 (some (.array .byte)), .initialized U16, .arrayClass .byte, .methodLink U16 115 Cmp5.yN, .static Cmp5.yN, .code Cmp5.yN Cmp5.yB 7 (some .int), .code CodL.yN CodL.yB 2 (some .byte)]
theorem tab_of {a : Array Value} {s : State} (h : ∀ w ∈ words, w.before a s = true) : New1.tab.before a s = true := by
  have h5 : Cmp5.tab.before a s = true := unparts (wk h (.code Cmp5.yN Cmp5.yB 7 (some .int))) (wks h (.initialized Cmp5.yN.cls :: Cmp5.site))
  have hc : CodL.tab.before a s = true := unparts (wk h (.code CodL.yN CodL.yB 2 (some .byte))) (wks h (.initialized CodL.yN.cls :: CodL.site))
  have q5 : ∀ w ∈ Cmp5.tab :: words, w.before a s = true := fun w hw => (List.mem_cons.mp hw).elim (fun e => e ▸ h5) (h w)
  have h3 : Cmp3.tab.before a s = true := unparts (wk q5 (.code Cmp3.yN Cmp3.yB 6 (some (.array .byte)))) (wks q5 (.initialized Cmp3.yN.cls :: Cmp3.site))
  have q3 : ∀ w ∈ Cmp3.tab :: CodL.tab :: words, w.before a s = true := fun w hw => (List.mem_cons.mp hw).elim (fun e => e ▸ h3) fun hw => (List.mem_cons.mp hw).elim (fun e => e ▸ hc) (h w)
  have h4 : New4.tab.before a s = true := unparts (wk q3 (.code New4.yN New4.yB 6 none)) (wks q3 (.initialized New4.yN.cls :: New4.site))
  have q4 : ∀ w ∈ New4.tab :: words, w.before a s = true := fun w hw => (List.mem_cons.mp hw).elim (fun e => e ▸ h4) (h w)
  exact unparts (wk q4 (.code New1.yN New1.yB 2 none)) (wks q4 (.initialized New1.yN.cls :: New1.site))
/-- the words ride from the start Z to the walk's own state -/
theorem moved {Z s : State} {a0 args : Array Value} (hZ : Z.Warmed39 s.vm) (hw : ∀ d ∈ words, d.before a0 Z = true) : ∀ d ∈ words, d.before args s = true := fun d hd => by
  have q := hw d hd
  have t : ∀ d ∈ words, d = .arrayClass .byte ∨ (d.onTables && d.keepsFace) = true := by decide +kernel
  rcases t d hd with rfl | t
  · exact RoadKit.mvA hZ q
  · exact RoadKit.mv hZ q t
/-- WHAT COMES BACK, over the tables of the start Z: h the heap at the call, h' behind it -/
def Q (Z : State) (x : Addr) (A : Cell) (h : Heap) (v : Option Value) (h' : Heap) (L : List Loc) : Prop := v = none ∧ (∀ y ∈ L, y.base = x) ∧ RoadKit.Keep h h' [x] ∧ h'.size = h.size + 1 ∧ RoadKit.Exa Z h' x ST ∧ RoadKit.Fld Z h' x ST "value" "[B" (.ref h.size) ∧ RoadKit.Fld Z h' x ST "coder" "B" (.int 0) ∧
  (∃ V : Cell, RoadKit.Arr Z h' h.size V .byte ∧ V.vm = .none ∧ Z.vm.findClass "[B" = some V.cls ∧ V.slots.size = A.slots.size ∧ ∀ j, j < A.slots.size → V.slots[j]? = some (.int (lo8 (cv A j)))) ∧
  ∀ (O n d : String) (w : Value), RoadKit.Fld Z h x O n d w → RoadKit.slotOf Z O n d ≠ RoadKit.slotOf Z ST "value" "[B" → RoadKit.slotOf Z O n d ≠ RoadKit.slotOf Z ST "coder" "B" → RoadKit.Fld Z h' x O n d w
/-- **new String(chars) AT A CALL, IN THE ROAD'S FORM**: for specialBack behind newO: x the fresh String, b the char[] with the cell A -/
theorem back {p : Program} {l : Launch} {e : Env} {R : Room} {s : State} {args : Array Value} {below : List Frame} {len W : Nat} {Z : State} {a0 : Array Value} {h : Heap} (hZ : Z.Warmed39 s.vm) (hw : ∀ d ∈ words, d.before a0 Z = true) {kI : Nat} (wi : (Jvm.Cond.instantiable ST kI).before a0 Z = true)
    {x b : Addr} {A : Cell} {z : Int32} {v0 c0 : Value} (E : RoadKit.Exa Z h x ST) (V : RoadKit.Fld Z h x ST "value" "[B" v0) (C : RoadKit.Fld Z h x ST "coder" "B" c0) (K : RoadKit.Arr Z h b A .char) (hty : Typed .char A) (S : RoadKit.Sta Z h ST "COMPACT_STRINGS" "Z" (.int z)) (hz : ¬ z = 0)
    (l0 : 0 < A.slots.size) (l2 : A.slots.size ≤ 536870912) (hp : ∀ i, i < A.slots.size → ¬ 255 < cv A i) (hfr : 4 ≤ R.frames) (hlo : W + 65 ≤ R.locals) :
    Back l R p e below s args New1.yN len W (fun P a => a = #[.ref x, .ref b] ∧ P.U.heap = h ∧ P.cells + 1 ≤ R.cells ∧ P.slots + A.slots.size ≤ R.slots)
      (fun P _ v B => ∃ L, Q Z x A h v B.U.heap L ∧ B.locs = P.locs ++ L ∧ B.cells = P.cells + 1 ∧ B.slots = P.slots + A.slots.size) := by
  intro m meth c P g ig mk a X hg hsize hdg hW hn hp'
  obtain ⟨rfl, rfl, r1, r2⟩ := hp'
  have al : Z.vm.Alike P.U.vm := hZ.alike.trans X.warmed.alike
  obtain ⟨D, cfV, kV, iV, fV, hD, gV, stV, knV, obV, asV, slV⟩ := id V
  obtain ⟨D', cfC, kC, iC, fC, hD', gC, stC, -, -, asC, slC⟩ := id C
  cases hD.symm.trans hD'
  obtain ⟨D2, kD, e1, e2, e3, e4, e5⟩ := id E
  cases hD.symm.trans e1
  obtain ⟨c2, k2, i1, i2, i3, -⟩ := Cond.instantiable_spec wi
  cases e2.symm.trans i1
  cases e3.symm.trans i2
  obtain ⟨kU, u1, u2⟩ := al.2.2 _ _ e3
  have hB : Blank ST x D P.U := ⟨hD, ⟨knV, fun q hq => by rw [hq] at obV; cases obV⟩, by rw [al.findClass]; exact e2, kU, u1, by rw [u2]; exact i3, by rw [u2]; exact e5 i3⟩
  have F1 : Found ST "value" "[B" fV P.U := ⟨SBG.found_only al ⟨cfV, kV, iV, gV⟩, stV⟩
  have F2 : Found ST "coder" "B" fC P.U := ⟨SBG.found_only al ⟨cfC, kC, iC, gC⟩, stC⟩
  have hA : Ch b A P.U := ⟨⟨K.1, State.isArrayOf_alike al K.2.1, K.2.2, by omega⟩, hty⟩
  have hS : StaticIs P.U ST "COMPACT_STRINGS" "Z" (.int z) := by
    obtain ⟨cfS, iS, kS, fS, st, cS, t1, t2, t3, t4, t5, t6, t7⟩ := S
    exact StaticIs.there (s := { Z with heap := P.U.heap }) ⟨cfS, iS, kS, fS, st, cS, t1, t2, t3, t4, t5, (fun q => by rw [q] at t6; cases t6), t7⟩ al rfl
  obtain ⟨v, B, X', ⟨⟨hv, E', V', q1, q2, q3, q4, q5, q6, q7, q8, q9, q10, q11⟩, hl, hc, hs⟩, st⟩ := New1.pays x D fV fC b A z (tab_of (moved hZ hw)) hfr hlo m meth c P g ig mk _ X hg hsize hdg hW hn ⟨r1, r2, rfl, hB, F1, F2, hA, hS, hz, l0, l2, hp⟩
  have al' : Z.vm.Alike B.U.vm := hZ.alike.trans X'.warmed.alike
  have hsz : E'.slots.size = D.slots.size := by
    obtain ⟨-, -, -, kB, w1, w2, w3⟩ := q1
    obtain ⟨kB', y1, y2⟩ := al'.2.2 _ _ e3
    rw [q2.2.1] at w1
    cases w1.symm.trans y1
    rw [w3, e5 i3, y2]
  refine ⟨v, B, X', ⟨_, ⟨hv, ?_, ⟨by omega, fun y cy hy hn' => q10 y cy (by simpa using hn') hy, fun y cy hy => ?_⟩, q11, ⟨E', _, q1.1, by rw [q2.2.1]; exact e2, by rw [q2.2.1]; exact e3, by rw [q2.1]; exact obV, fun _ => by rw [hsz]; exact e5 i3⟩,
    ⟨E', cfV, kV, iV, fV, q1.1, gV, stV, by rw [q2.1]; exact knV, by rw [q2.1]; exact obV, by rw [q2.2.1]; exact asV, q3⟩, ⟨E', cfC, kC, iC, fC, q1.1, gC, stC, by rw [q2.1]; exact knV, by rw [q2.1]; exact obV, by rw [q2.2.1]; exact asC, q4⟩,
    ⟨V', ⟨q5.1, State.isArrayOf_alike al'.symm q5.2.1, q5.2.2.1⟩, q6, by rw [← al'.findClass]; exact q7, q8, fun j hj => by have := q9 j hj; rwa [Nat.zero_add] at this⟩, fun O n d w F n1 n2 => ?_⟩, hl, hc, hs⟩, st⟩
  · intro y hy
    simp only [List.mem_cons, List.not_mem_nil, or_false] at hy
    rcases hy with rfl | rfl <;> rfl
  · by_cases q : y = x
    · subst q
      cases hD.symm.trans hy
      exact ⟨E', q1.1, q2.2.1, q2.1, hsz⟩
    · exact ⟨cy, q10 y cy q hy, rfl, rfl, rfl⟩
  · obtain ⟨D3, cf, k, i, f, g1, g2, g3, g4, g5, g6, g7⟩ := F
    cases hD.symm.trans g1
    simp only [RoadKit.slotOf, g2, gV, gC, Option.map_some, Option.getD_some] at n1 n2
    exact ⟨E', cf, k, i, f, q1.1, g2, g3, by rw [q2.1]; exact g4, by rw [q2.1]; exact g5, by rw [q2.2.1]; exact g6, by rw [q2.2.2 f.slot (by simp [n1, n2])]; exact g7⟩
end StrChars.Road
namespace StrChars.Road
open Jvm Sem ClassFile Op Lib Jvm.Stand Jvm.Free Jvm.Free.XT
/-- WHAT COMES BACK, the byte[] as a list of values -/
def QA (Z : State) (x : Addr) (zn : Int32) (cs : List Int32) (h : Heap) (v : Option Value) (h' : Heap) (L : List Loc) : Prop := v = none ∧ (∀ y ∈ L, y.base = x) ∧ RoadKit.Keep h h' [x] ∧ h'.size = h.size + 1 ∧ RoadKit.Exa Z h' x ST ∧ RoadKit.Fld Z h' x ST "value" "[B" (.ref h.size) ∧ RoadKit.Fld Z h' x ST "coder" "B" (.int 0) ∧
  (∃ kb, Z.vm.findClass "[B" = some kb ∧ RoadKit.Arv Z h' h.size kb .byte zn (cs.map fun c => .int (lo8 c)) (.int 0)) ∧
  ∀ (O n d : String) (w : Value), RoadKit.Fld Z h x O n d w → RoadKit.slotOf Z O n d ≠ RoadKit.slotOf Z ST "value" "[B" → RoadKit.slotOf Z O n d ≠ RoadKit.slotOf Z ST "coder" "B" → RoadKit.Fld Z h' x O n d w
/-- **new String(chars) AT A CALL, THE ARRAYS AS LISTS**: the char[] at b holds cs, not empty, no char above 255 -/
theorem backArv {p : Program} {l : Launch} {e : Env} {R : Room} {s : State} {args : Array Value} {below : List Frame} {len W : Nat} {Z : State} {a0 : Array Value} {h : Heap} (hZ : Z.Warmed39 s.vm) (hw : ∀ d ∈ words, d.before a0 Z = true) {kI : Nat} (wi : (Jvm.Cond.instantiable ST kI).before a0 Z = true)
    {x b : Addr} {k : ClassId} {zn z : Int32} {cs : List Int32} {dv v0 c0 : Value} (E : RoadKit.Exa Z h x ST) (V : RoadKit.Fld Z h x ST "value" "[B" v0) (C : RoadKit.Fld Z h x ST "coder" "B" c0) (K : RoadKit.Arv Z h b k .char zn (cs.map Value.int) dv) (S : RoadKit.Sta Z h ST "COMPACT_STRINGS" "Z" (.int z)) (hz : ¬ z = 0)
    (hlen : zn.toNatClampNeg = cs.length) (h0 : 0 < cs.length) (hbig : cs.length ≤ 536870912) (hall : ∀ c ∈ cs, ¬ 255 < c) (hfr : 4 ≤ R.frames) (hlo : W + 65 ≤ R.locals) :
    Back l R p e below s args New1.yN len W (fun P a => a = #[.ref x, .ref b] ∧ P.U.heap = h ∧ P.cells + 1 ≤ R.cells ∧ P.slots + cs.length ≤ R.slots)
      (fun P _ v B => ∃ L, QA Z x zn cs h v B.U.heap L ∧ B.locs = P.locs ++ L ∧ B.cells = P.cells + 1 ∧ B.slots = P.slots + cs.length) := by
  obtain ⟨A, K1, K2, K3, K4, K5, K6⟩ := K
  have e : A.slots.size = cs.length := K3.trans hlen
  have hat : ∀ (i : Nat) (hi : i < cs.length), A.slots[i]? = some (.int cs[i]) := fun i hi => by rw [K5 i (by omega)]; simp [List.getD_eq_getElem?_getD, hi]
  have hcv : ∀ (i : Nat) (hi : i < cs.length), cv A i = cs[i] := fun i hi => by unfold cv; rw [hat i hi]
  have hty : Typed .char A := fun i v hv => by
    have hi : i < A.slots.size := (Array.getElem?_eq_some_iff.mp hv).1
    have q := K5 i hi
    rw [hv] at q
    rw [Option.some.inj q]
    exact K6 i hi
  refine Back.mono (back hZ hw wi E V C K1 hty S hz (by omega) (by omega) (fun i hi => by rw [hcv i (by omega)]; exact hall _ (List.getElem_mem _)) hfr hlo) (fun P a hp => ⟨hp.1, hp.2.1, hp.2.2.1, by rw [e]; exact hp.2.2.2⟩) (fun P a v B hp hq => ?_)
  obtain ⟨L, ⟨q1, q2, q3, q4, q5, q6, q7, ⟨V', v1, v2, v3, v4, v5⟩, q9⟩, hl, hc, hs⟩ := hq
  refine ⟨L, ⟨q1, q2, q3, q4, q5, q6, q7, ⟨V'.cls, v3, V', v1, rfl, by rw [v4, e, hlen], K4, fun i hi => ?_, fun i hi => ?_⟩, q9⟩, hl, hc, by rw [hs, e]⟩
  · have hi' : i < cs.length := by omega
    rw [v5 i (by omega), hcv i hi']; simp [List.getD_eq_getElem?_getD, hi']
  · have hi' : i < cs.length := by omega
    simp only [List.getD_eq_getElem?_getD, List.getElem?_map, List.getElem?_eq_getElem hi', Option.map_some, Option.getD_some]
    exact fits_lo8 _
end StrChars.Road
namespace StrChars.Road
open Jvm Sem ClassFile Op Lib Jvm.Stand Jvm.Free Jvm.Free.XT
/-- WHAT COMES BACK, in the writer's own shape -/
def QV (Z : State) (x : Addr) (N : Int32) (bs : List Int32) (h : Heap) (n0 : Nat) (v : Option Value) (h' : Heap) (L : List Loc) : Prop := v = none ∧ RoadKit.Fr n0 L ∧ RoadKit.Keep h h' [x] ∧ RoadKit.Exa Z h' x ST ∧ RoadKit.Fld Z h' x ST "coder" "B" (.int 0) ∧
  ∃ (t : Addr) (kb : ClassId), n0 ≤ t ∧ h.size ≤ t ∧ ¬ t = x ∧ RoadKit.Fld Z h' x ST "value" "[B" (.ref t) ∧ RoadKit.Arv Z h' t kb .byte N (bs.map Value.int) (.int 0)
/-- **new String(chars) AT A CALL, FOR THE WRITER**: a char[] of n known ints, each 0 to 255 -/
theorem backV {p : Program} {l : Launch} {e : Env} {R : Room} {s : State} {args : Array Value} {below : List Frame} {len W : Nat} {Z : State} {a0 : Array Value} {h : Heap} (hZ : Z.Warmed39 s.vm) (hw : ∀ d ∈ words, d.before a0 Z = true) {kI : Nat} (wi : (Jvm.Cond.instantiable ST kI).before a0 Z = true)
    {x b : Addr} {kC : ClassId} {cs bs : List Int32} {d v0 c0 : Value} {z N : Int32} {n n0 : Nat} (hx0 : n0 ≤ x) (hh0 : n0 ≤ h.size) (E : RoadKit.Exa Z h x ST) (V : RoadKit.Fld Z h x ST "value" "[B" v0) (C : RoadKit.Fld Z h x ST "coder" "B" c0) (K : RoadKit.Arv Z h b kC .char N (cs.map Value.int) d) (S : RoadKit.Sta Z h ST "COMPACT_STRINGS" "Z" (.int z)) (hz : ¬ z = 0)
    (hn : cs.length = n) (hN : N = Int32.ofNat n) (l0 : 0 < n) (l2 : n ≤ 4000) (hp : ∀ c ∈ cs, ¬ c < 0 ∧ ¬ (255 : Int32) < c) (hb : bs = cs.map (fun c => c.toInt8.toInt32)) (hfr : 4 ≤ R.frames) (hlo : W + 65 ≤ R.locals) :
    Back l R p e below s args (⟨"java/lang/String", "<init>", "([C)V"⟩ : MethodName) len W (fun P a => a = #[.ref x, .ref b] ∧ P.U.heap = h ∧ P.cells + 1 ≤ R.cells ∧ P.slots + n ≤ R.slots)
      (fun P _ v B => ∃ L, QV Z x N bs h n0 v B.U.heap L ∧ B.locs = P.locs ++ L ∧ B.cells = P.cells + 1 ∧ B.slots = P.slots + n) := by
  subst hn hN hb
  refine Back.mono (backArv hZ hw wi E V C K S hz (n32 (by omega)) l0 (by omega) (fun c hc => (hp c hc).2) hfr hlo) (fun P a hp => hp) (fun P a v B hp hq => ?_)
  obtain ⟨L, ⟨q1, q2, q3, q4, q5, q6, q7, ⟨kb, v1, v2⟩, q9⟩, hl, hc, hs⟩ := hq
  exact ⟨L, ⟨q1, fun y hy => by rw [q2 y hy]; exact hx0, q3, q5, q7, h.size, kb, hh0, Nat.le_refl _, Nat.ne_of_gt E.lt, q6, by rw [List.map_map]; exact v2⟩, hl, hc, hs⟩
end StrChars.Road
namespace StrChars
open Jvm Sem ClassFile Op Lib Jvm.Stand Jvm.Free.XT Jvm.Free.ALB Jvm.Free.JM Jvm.Free
open Jvm.Lib.Cold (StaticIs)
def hi8 (x : Int32) : Int32 := lo8 (x >>> ((8 : Int32) &&& 31))
/-- what StringUTF16.getChar makes of two bytes -/
def pairCh (u v : Int32) : Int32 := (((u &&& 255) <<< ((0 : Int32) &&& 31)) ||| ((v &&& 255) <<< ((8 : Int32) &&& 31))).toUInt32.toUInt16.toUInt32.toInt32
theorem lo8_and (x : Int32) : (lo8 x &&& 255).toBitVec.toNat = x.toBitVec.toNat % 256 := by
  have h : (lo8 x).toBitVec = (x.toBitVec.signExtend 8).signExtend 32 := by rw [lo8, Int8.toBitVec_toInt32, Int32.toBitVec_toInt8]
  rw [Int32.toBitVec_and, BitVec.toNat_and, h]
  have e : ((x.toBitVec.signExtend 8).signExtend 32).toNat % 256 = x.toBitVec.toNat % 256 := by
    rw [BitVec.toNat_signExtend]
    have hlt := x.toBitVec.isLt
    simp only [BitVec.toNat_setWidth, BitVec.toNat_signExtend]
    split <;> split <;> omega
  rw [← e]
  exact Nat.and_two_pow_sub_one_eq_mod _ 8
theorem pair_says {c : Int32} (h0 : ¬ c < 0) (h1 : ¬ 65535 < c) : pairCh (lo8 c) (hi8 c) = c := by
  rw [Int32.lt_iff_toInt_lt] at h0 h1
  have e0 : (0 : Int32).toInt = 0 := rfl
  have e1 : (65535 : Int32).toInt = 65535 := rfl
  have hc : c.toInt = c.toBitVec.toNat := by
    have := c.toBitVec.isLt
    have e : c.toInt = c.toBitVec.toInt := rfl
    rw [e] at h0 h1
    rw [e]
    rw [BitVec.toInt_eq_toNat_cond] at h0 h1 ⊢
    split at h0 <;> split <;> omega
  have hn : c.toBitVec.toNat < 65536 := by omega
  have a1 := lo8_and c
  have a2 : (hi8 c &&& 255).toBitVec.toNat = c.toBitVec.toNat / 256 := by
    rw [hi8, lo8_and]
    have e : ((8 : Int32) &&& 31) = 8 := by decide
    rw [e, Int32.toBitVec_shiftRight]
    have e2 : ((8 : Int32).toBitVec.smod 32) = 8#32 := by decide
    rw [e2, BitVec.sshiftRight_eq', BitVec.toNat_sshiftRight_of_msb_false (by rw [BitVec.msb_eq_false_iff_two_mul_lt]; omega)]
    show c.toBitVec.toNat >>> 8 % 256 = _
    rw [Nat.shiftRight_eq_div_pow]
    omega
  unfold pairCh
  apply Int32.toBitVec_inj.mp
  apply BitVec.eq_of_toNat_eq
  have f0 : ((0 : Int32) &&& 31) = 0 := by decide
  have f8 : ((8 : Int32) &&& 31) = 8 := by decide
  rw [f0, f8]
  have g : (((lo8 c &&& 255) <<< (0 : Int32)) ||| ((hi8 c &&& 255) <<< (8 : Int32))).toBitVec.toNat = c.toBitVec.toNat := by
    rw [Int32.toBitVec_or, Int32.toBitVec_shiftLeft, Int32.toBitVec_shiftLeft]
    have s0 : ((0 : Int32).toBitVec.smod 32) = 0#32 := by decide
    have s8 : ((8 : Int32).toBitVec.smod 32) = 8#32 := by decide
    rw [s0, s8, BitVec.toNat_or]
    simp only [BitVec.shiftLeft_eq', BitVec.toNat_shiftLeft, a1, a2]
    show (c.toBitVec.toNat % 256) <<< 0 % 2 ^ 32 ||| (c.toBitVec.toNat / 256) <<< 8 % 2 ^ 32 = _
    rw [Nat.shiftLeft_zero, Nat.mod_eq_of_lt (show c.toBitVec.toNat % 256 < 2 ^ 32 by omega), Nat.mod_eq_of_lt (show (c.toBitVec.toNat / 256) <<< 8 < 2 ^ 32 by rw [Nat.shiftLeft_eq]; omega), Nat.or_comm, ← Nat.shiftLeft_add_eq_or_of_lt (by omega), Nat.shiftLeft_eq]
    omega
  show BitVec.toNat (((((lo8 c &&& 255) <<< (0 : Int32)) ||| ((hi8 c &&& 255) <<< (8 : Int32))).toBitVec.setWidth 16).setWidth 32) = _
  rw [BitVec.toNat_setWidth, BitVec.toNat_setWidth, g]
  omega
end StrChars
namespace StrChars
open Jvm Sem ClassFile Op Lib Jvm.Stand Jvm.Free.XT Jvm.Free.ALB Jvm.Free.JM Jvm.Free
open Jvm.Lib.Cold (StaticIs)
theorem shr1 {n : Nat} (h : 2 * n < 2 ^ 31) : Int32.ofNat (2 * n) >>> ((1 : Int32) &&& 31) = Int32.ofNat n := by
  have e : ((1 : Int32) &&& 31) = 1 := by decide
  rw [e]
  apply Int32.toBitVec_inj.mp
  rw [Int32.toBitVec_shiftRight]
  have e1 : ((1 : Int32).toBitVec.smod 32) = 1#32 := by decide
  have hm : (BitVec.ofNat 32 (2 * n)).toNat = 2 * n := by rw [BitVec.toNat_ofNat, Nat.mod_eq_of_lt (by omega)]
  rw [e1, BitVec.sshiftRight_eq']
  apply BitVec.eq_of_toNat_eq
  show ((BitVec.ofNat 32 (2 * n)).sshiftRight 1).toNat = (BitVec.ofNat 32 n).toNat
  rw [BitVec.toNat_sshiftRight_of_msb_false (by rw [BitVec.msb_eq_false_iff_two_mul_lt, hm]; omega), hm, BitVec.toNat_ofNat, Nat.shiftRight_eq_div_pow]
  omega
/-- charAt's cast of a byte read back -/
def chr8 (u : Int32) : Int32 := (u &&& 255).toUInt32.toUInt16.toUInt32.toInt32
theorem chr8_lo8 {c : Int32} (h0 : ¬ c < 0) (h1 : ¬ 255 < c) : chr8 (lo8 c) = c := by
  have t : ∀ k : Fin 256, (Int32.ofNat k.val).toUInt32.toUInt16.toUInt32.toInt32 = Int32.ofNat k.val := by decide +kernel
  unfold chr8
  rw [lo8_mask h0 h1]
  rw [Int32.lt_iff_toInt_lt] at h0 h1
  have e0 : (0 : Int32).toInt = 0 := rfl
  have e1 : (255 : Int32).toInt = 255 := rfl
  obtain ⟨k, hk⟩ : ∃ k : Nat, c.toInt = k := ⟨c.toInt.toNat, by omega⟩
  have hx : c = Int32.ofNat k := Int32.toInt_inj.mp (by rw [hk, Int32.toInt_ofNat_small (by omega)])
  rw [hx]
  exact t ⟨k, by omega⟩
end StrChars
end Jvm.Pilot.@@N@@

namespace Jvm.Pilot.@@N@@
open Jvm Jvm.ClassFile Sem Op Lib Jvm.Free Jvm.Stand Jvm.LawKit Jvm.RoadKit Bundle Jvm.Ow Jvm.Pilot.@@N@@.Jvm.D
theorem wSt {a0 : Array Value} {Z : State} (hw : ∀ d ∈ tables_1, d.before a0 Z = true) : ∀ d ∈ Bundle.stringAtoms, d.before a0 Z = true := fun d hd => hw d ((by decide +kernel : ∀ d ∈ Bundle.stringAtoms, d ∈ tables_1) d hd)
theorem nref {t : FieldType} {w : Value} (h : w.isRef = true) : narrow t w = w := by cases w <;> first | (cases t <;> rfl) | cases h
theorem fref {C : String} {w : Value} (h : w.isRef = true) : fits (.object C) w = true := by cases w <;> first | rfl | cases h

theorem wCh {a0 : Array Value} {Z : State} (hw : ∀ d ∈ tables_1, d.before a0 Z = true) : ∀ d ∈ StrChars.Road.words, d.before a0 Z = true := fun d hd => hw d ((by decide +kernel : ∀ d ∈ StrChars.Road.words, d ∈ tables_1) d hd)
/-- what new String(chars) leaves -/
def QStr (Z : State) (x : Addr) (N : Int32) (cs : List Int32) (h : Heap) (v : Option Value) (u : Heap) : Prop := ∃ (t : Addr) (kb : ClassId), v = none ∧ Keep h u [x] ∧ Exa Z u x "java/lang/String" ∧ Fld Z u x "java/lang/String" "coder" "B" (.int (0 : Int32)) ∧ Fld Z u x "java/lang/String" "value" "[B" (.ref t) ∧ Arv Z u t kb .byte N ((cs.map fun c => c.toInt8.toInt32).map Value.int) (.int (0 : Int32)) ∧ h.size ≤ t
theorem payStr {p : Program} {l : Launch} {e : Env} {R : Room} {s : State} {m : MethodId} {args : Array Value} {below : List Frame} {meth : Method} {c : Code} {own : String} {Z : State} {a0 : Array Value} {EL : List (String × Nat)} {h0 : Heap} {T : State} {h : Heap} {vm : Vm} {cells slots : Nat} (X : Wk p l e R s m args below meth c own Z a0 EL h0 T h vm cells slots) {len W : Nat} (hw : ∀ d ∈ tables_1, d.before a0 Z = true) (wi : (Jvm.Cond.instantiable "java/lang/String" 4).before a0 Z = true)
    {x b : Addr} {kC : ClassId} (cs : List Int32) {d v0 c0 : Value} {z N : Int32} (n : Nat) (hx0 : Z.heap.size ≤ x) (E : Exa Z h x "java/lang/String") (V : Fld Z h x "java/lang/String" "value" "[B" v0) (C : Fld Z h x "java/lang/String" "coder" "B" c0) (K : Arv Z h b kC .char N (cs.map Value.int) d) (S : Sta Z Z.heap "java/lang/String" "COMPACT_STRINGS" "Z" (.int z)) (hz : ¬ z = 0)
    (hn : cs.length = n) (hN : N = Int32.ofNat n) (l0 : 0 < n) (l2 : n ≤ 4000) (hp : ∀ c ∈ cs, ¬ c < 0 ∧ ¬ (255 : Int32) < c) (hfr : 4 ≤ R.frames) (hlo : W + 65 ≤ R.locals) (sf : Safe Z EL vm h x) :
    Pay l R p e below s args (⟨"java/lang/String", "<init>", "([C)V"⟩ : MethodName) len W Z EL vm h #[.ref x, .ref b] 1 n (fun v _ u => QStr Z x N cs h v u) :=
  X.payN (ws := [x]) (StrChars.Road.backV (s := s.setVm vm) (n0 := Z.heap.size) X.hZ (wCh hw) wi hx0 X.ge E V C K (X.sta S) hz hn hN l0 l2 hp rfl hfr hlo)
    (fun v u L q => by obtain ⟨q1, q2, q3, q4, q5, t, kb, q6, q7, q8, q9, q10⟩ := q; exact ⟨q2, q3, t, kb, q1, q3, q4, q5, q9, q10, q7⟩) (allS hx0 all0) (sfS sf sf0)

theorem allA {P : Int32 → Prop} {a b : List Int32} (h : ∀ x ∈ a, P x) (k : ∀ x ∈ b, P x) : ∀ x ∈ a ++ b, P x := fun x q => (List.mem_append.mp q).elim (h x) (k x)

theorem toN {n : Nat} (h : n ≤ 4000) : (Int32.ofNat n).toNatClampNeg = n := by
  have e1 := Int32.toInt_ofNat_small (n := n) (by omega)
  show (Int32.ofNat n).toInt.toNat = n
  rw [show (Int32.ofNat n).toInt = (n : Int) from e1]; rfl
theorem toI {n : Nat} (h : n ≤ 4000) : (Int32.ofNat n).toInt = (n : Int) := Int32.toInt_ofNat_small (n := n) (by omega)
theorem of_nlt {a b : Nat} (ha : a ≤ 4000) (hb : b ≤ 4000) (h : a ≤ b) : ¬ Int32.ofNat b < Int32.ofNat a := by
  rw [Int32.lt_iff_toInt_lt, toI ha, toI hb]; omega
theorem of_pos {a : Nat} (ha : a ≤ 4000) : ¬ Int32.ofNat a < (0 : Int32) := of_nlt (a := 0) (by omega) ha (Nat.zero_le _)
theorem of_inj {a b : Nat} (ha : a ≤ 4000) (hb : b ≤ 4000) (h : Int32.ofNat a = Int32.ofNat b) : a = b := by
  have := congrArg Int32.toInt h
  rw [toI ha, toI hb] at this; omega
theorem of_add (i k : Nat) : Int32.ofNat i + Int32.ofNat k = Int32.ofNat (i + k) := (Int32.ofNat_add i k).symm
theorem of_sub {i j : Nat} (h : i ≤ j) (hj : j ≤ 4000) : Int32.ofNat j - Int32.ofNat i = Int32.ofNat (j - i) := by
  apply Int32.toInt_inj.mp
  rw [Int32.toInt_sub, toI hj, toI (by omega), toI (by omega)]
  exact (Int.bmod_eq_of_le (by omega) (by omega)).trans (by omega)
theorem of_subl {i k n : Nat} (h : i + k ≤ n) (hn : n ≤ 4000) : ¬ (Int32.ofNat n - Int32.ofNat i) < Int32.ofNat k := by
  rw [Int32.lt_iff_toInt_lt, Int32.toInt_sub, toI hn, toI (by omega), toI (by omega), Int.bmod_eq_of_le (by omega) (by omega)]; omega
def slcV (vs : List Value) (i k : Nat) : List Value := (List.range k).map fun q => vs.getD (i + q) (Value.int (0 : Int32))
theorem copied {vs : List Value} {i k : Nat} (hi : i ≤ 4000) (hk : k ≤ 4000) : (List.replicate k (Value.int (0 : Int32))).take (0 : Int32).toNatClampNeg ++ (List.range (Int32.ofNat k).toNatClampNeg).map (fun q => vs.getD ((Int32.ofNat i).toNatClampNeg + q) (Value.int (0 : Int32))) ++ (List.replicate k (Value.int (0 : Int32))).drop ((0 : Int32).toNatClampNeg + (Int32.ofNat k).toNatClampNeg) = slcV vs i k := by
  rw [toN hk, toN hi, show (0 : Int32).toNatClampNeg = 0 from rfl]
  simp only [List.take_zero, List.nil_append, Nat.zero_add]
  rw [List.drop_of_length_le (by simp), List.append_nil]; rfl
theorem slc_by {cs : List Int32} {i k : Nat} (h : i + k ≤ cs.length) : slcV ((cs.map fun c => c.toInt8.toInt32).map Value.int) i k = ((((cs.drop i).take k).map fun c => c.toInt8.toInt32).map Value.int) := by
  unfold slcV
  apply List.ext_getElem
  · simp; omega
  · intro n h1 h2
    simp at h1
    simp [List.getD_eq_getElem?_getD, show i + n < cs.length by omega]
theorem slc_len {cs : List Int32} {i k : Nat} (h : i + k ≤ cs.length) : ((cs.drop i).take k).length = k := by simp; omega
theorem eq_of_le {a b : Int32} (h : ¬ b < a) (k : ¬ a < b) : a = b := by
  apply Int32.toInt_inj.mp
  rw [Int32.lt_iff_toInt_lt] at h k; omega

def enc16 (cs : List Int32) : List Value := cs.flatMap fun c => [Value.int c.toInt8.toInt32, Value.int ((c >>> ((8 : Int32) &&& (31 : Int32))).toInt8.toInt32)]
theorem enc16_len (cs : List Int32) : (enc16 cs).length = 2 * cs.length := by
  induction cs with
  | nil => rfl
  | cons c cs ih => show (enc16 cs).length + 2 = _; rw [ih, List.length_cons]; omega
theorem by_len (cs : List Int32) : ((cs.map fun c => c.toInt8.toInt32).map Value.int).length = cs.length := by simp
theorem enc16_app (cs ds : List Int32) : enc16 cs ++ enc16 ds = enc16 (cs ++ ds) := by simp [enc16]
theorem by_app (cs ds : List Int32) : ((cs.map fun c => c.toInt8.toInt32).map Value.int) ++ ((ds.map fun c => c.toInt8.toInt32).map Value.int) = (((cs ++ ds).map fun c => c.toInt8.toInt32).map Value.int) := by simp
theorem shl0 (x : Int32) : x <<< ((0 : Int32) &&& (31 : Int32)) = x := by
  apply Int32.toBitVec_inj.mp
  simp
theorem shr0 (x : Int32) : x >>> ((0 : Int32) &&& (31 : Int32)) = x := by
  apply Int32.toBitVec_inj.mp
  simp
theorem shl1 (n : Nat) : Int32.ofNat n <<< ((1 : Int32) &&& (31 : Int32)) = Int32.ofNat (2 * n) := by
  apply Int32.toBitVec_inj.mp
  rw [Int32.toBitVec_shiftLeft]
  apply BitVec.eq_of_toNat_eq
  simp [BitVec.toNat_shiftLeft, Nat.shiftLeft_eq, Nat.mul_comm]
theorem shr1 {n : Nat} (h : n ≤ 2000) : Int32.ofNat (2 * n) >>> ((1 : Int32) &&& (31 : Int32)) = Int32.ofNat n := StrChars.shr1 (by omega)
theorem range_getD {us : List Value} {dv : Value} : (List.range us.length).map (fun i => us.getD (0 + i) dv) = us := by
  apply List.ext_getElem
  · simp
  · intro n h1 h2; simp [List.getD_eq_getElem?_getD, h2]
theorem slc_all0 (vs : List Value) : slcV vs 0 vs.length = vs := range_getD
theorem sub_np {n k : Nat} (h : n ≤ k) (hk : k ≤ 4000) : ¬ (0 : Int32) < Int32.ofNat n - Int32.ofNat k := by
  have e0 : (0 : Int32).toInt = 0 := by decide
  rw [Int32.lt_iff_toInt_lt, Int32.toInt_sub, toI (by omega), toI hk, Int.bmod_eq_of_le (by omega) (by omega), e0]; omega
theorem of_lt {a b : Nat} (hb : b ≤ 4000) (h : a < b) : Int32.ofNat a < Int32.ofNat b := by
  rw [Int32.lt_iff_toInt_lt, toI (by omega), toI hb]; omega
section Arrs
variable {Z : State} {h : Heap} {a d : Addr} {kd : ClassId} {ty : FieldType} {z : Int32} {dv : Value}
theorem catA {vs us : List Value} {k : Nat} {sp dp nn : Int32} (F : Arv Z h d kd ty z ((vs ++ List.replicate k dv).take dp.toNatClampNeg ++ (List.range nn.toNatClampNeg).map (fun i => us.getD (sp.toNatClampNeg + i) dv) ++ (vs ++ List.replicate k dv).drop (dp.toNatClampNeg + nn.toNatClampNeg)) dv) (hs : sp.toNatClampNeg = 0) (h1 : dp.toNatClampNeg = vs.length) (h2 : nn.toNatClampNeg = us.length) : Arv Z h d kd ty z (vs ++ us) dv := by
  rw [hs, h1, h2, range_getD] at F
  refine F.pad fun i => ?_
  rw [List.take_left, List.drop_append, List.drop_of_length_le (by omega), List.nil_append, List.drop_replicate]
  exact (pad_rep _ _ _ i).symm
theorem setA {vs : List Value} {v : Value} {i : Nat} (F : Arv Z h d kd ty z ((vs ++ List.replicate 1 dv).set i v) dv) (hi : i = vs.length) : Arv Z h d kd ty z (vs ++ [v]) dv := by
  subst hi
  have e : (vs ++ List.replicate 1 dv).set vs.length v = vs ++ [v] := by simp [List.set_append]
  rw [e] at F; exact F
/-- a UTF-16 String -/
def StrU (Z : State) (h : Heap) (a b : Addr) (k : ClassId) (cs : List Int32) : Prop := Exa Z h a "java/lang/String" ∧ Fld Z h a "java/lang/String" "coder" "B" (.int (1 : Int32)) ∧ Fld Z h a "java/lang/String" "value" "[B" (.ref b) ∧ Arv Z h b k .byte (Int32.ofNat (2 * cs.length)) (enc16 cs) (.int (0 : Int32)) ∧ (∀ c ∈ cs, ¬ c < 0 ∧ ¬ (65535 : Int32) < c) ∧ cs.length ≤ 2000
variable {b : Addr} {k : ClassId} {cs : List Int32} {ws : List Addr} {h' : Heap}
theorem StrU.ext (F : StrU Z h a b k cs) (E : Ext h h') : StrU Z h' a b k cs := ⟨F.1.ext E, F.2.1.ext E, F.2.2.1.ext E, F.2.2.2.1.ext E, F.2.2.2.2⟩
theorem StrU.keep (F : StrU Z h a b k cs) (K : Keep h h' ws) (q : a ∉ ws) (r : b ∉ ws) : StrU Z h' a b k cs := ⟨F.1.keep K, F.2.1.keep K q, F.2.2.1.keep K q, F.2.2.2.1.keep K r, F.2.2.2.2⟩
theorem StrU.lt (F : StrU Z h a b k cs) : a < h.size := F.1.lt
theorem StrU.lb (F : StrU Z h a b k cs) : b < h.size := F.2.2.2.1.lt
/-- either -/
def Any (Z : State) (h : Heap) (a : Addr) (cs : List Int32) : Prop := (∃ b k, Str Z h a b k cs) ∨ ∃ b k, StrU Z h a b k cs
theorem Any.exa (F : Any Z h a cs) : Exa Z h a "java/lang/String" := F.elim (fun ⟨_, _, q⟩ => q.1) fun ⟨_, _, q⟩ => q.1
theorem Any.lt (F : Any Z h a cs) : a < h.size := F.exa.lt
theorem Any.len (F : Any Z h a cs) : cs.length ≤ 4000 := F.elim (fun ⟨_, _, q⟩ => q.2.2.2.2.2) fun ⟨_, _, q⟩ => Nat.le_trans q.2.2.2.2.2 (by decide)
theorem Any.ext (F : Any Z h a cs) (E : Ext h h') : Any Z h' a cs := F.imp (fun ⟨b, k, q⟩ => ⟨b, k, q.ext E⟩) fun ⟨b, k, q⟩ => ⟨b, k, q.ext E⟩
theorem Any.keep (F : Any Z h a cs) (K : Keep h h' []) : Any Z h' a cs := F.imp (fun ⟨b, k, q⟩ => ⟨b, k, q.keep K nin0 nin0⟩) fun ⟨b, k, q⟩ => ⟨b, k, q.keep K nin0 nin0⟩
end Arrs
theorem e16_lo {cs : List Int32} {i : Nat} (h : i < cs.length) : (enc16 cs).getD (2 * i) (.int 0) = .int ((cs.getD i 0).toInt8.toInt32) := by
  induction cs generalizing i with
  | nil => simp at h
  | cons c cs ih =>
    cases i with
    | zero => rfl
    | succ i => exact ih (by simpa using h)
theorem e16_hi {cs : List Int32} {i : Nat} (h : i < cs.length) : (enc16 cs).getD (2 * i + 1) (.int 0) = .int (((cs.getD i 0) >>> ((8 : Int32) &&& (31 : Int32))).toInt8.toInt32) := by
  induction cs generalizing i with
  | nil => simp at h
  | cons c cs ih =>
    cases i with
    | zero => rfl
    | succ i => exact ih (by simpa using h)
theorem by_get {cs : List Int32} {i : Nat} (h : i < cs.length) : ((cs.map fun c => c.toInt8.toInt32).map Value.int).getD i (.int 0) = .int ((cs.getD i 0).toInt8.toInt32) := by
  simp [List.getD_eq_getElem?_getD, h]
theorem mem_getD {cs : List Int32} {i : Nat} {P : Int32 → Prop} (h : i < cs.length) (H : ∀ c ∈ cs, P c) : P (cs.getD i 0) := by
  rw [List.getD_eq_getElem?_getD, List.getElem?_eq_getElem h]; exact H _ (List.getElem_mem h)
theorem nar16 {x : Int32} (h : ¬ x < 0 ∧ ¬ (65535 : Int32) < x) : narrow .char (.int x) = .int x := by
  show Value.int _ = _
  rw [i2c_in h.1 h.2]

theorem fst1 {A : Prop} (h : A) : A := h
theorem fst2 {A B : Prop} (h : A ∨ B) : A ∨ ¬ A ∧ B := by by_cases q : A; exact Or.inl q; exact Or.inr ⟨q, h.resolve_left q⟩
theorem fst3 {A B C : Prop} (h : A ∨ B ∨ C) : A ∨ (¬ A ∧ B) ∨ ¬ A ∧ ¬ B ∧ C := by
  by_cases q : A
  · exact Or.inl q
  · by_cases r : B
    · exact Or.inr (Or.inl ⟨q, r⟩)
    · exact Or.inr (Or.inr ⟨q, r, (h.resolve_left q).resolve_left r⟩)

theorem encL1 (c0 : Int32) : ((([] ++ [(.int (c0.toInt8.toInt32))]) ++ [(.int ((c0 >>> ((8 : Int32) &&& (31 : Int32))).toInt8.toInt32))]) : List Value) = enc16 [c0] := by simp [enc16]
theorem encL2 (c0 c1 : Int32) : ((((([] ++ [(.int (c0.toInt8.toInt32))]) ++ [(.int ((c0 >>> ((8 : Int32) &&& (31 : Int32))).toInt8.toInt32))]) ++ [(.int (c1.toInt8.toInt32))]) ++ [(.int ((c1 >>> ((8 : Int32) &&& (31 : Int32))).toInt8.toInt32))]) : List Value) = enc16 [c0, c1] := by simp [enc16]
theorem encL3 (c0 c1 c2 : Int32) : ((((((([] ++ [(.int (c0.toInt8.toInt32))]) ++ [(.int ((c0 >>> ((8 : Int32) &&& (31 : Int32))).toInt8.toInt32))]) ++ [(.int (c1.toInt8.toInt32))]) ++ [(.int ((c1 >>> ((8 : Int32) &&& (31 : Int32))).toInt8.toInt32))]) ++ [(.int (c2.toInt8.toInt32))]) ++ [(.int ((c2 >>> ((8 : Int32) &&& (31 : Int32))).toInt8.toInt32))]) : List Value) = enc16 [c0, c1, c2] := by simp [enc16]
theorem encL4 (c0 c1 c2 c3 : Int32) : ((((((((([] ++ [(.int (c0.toInt8.toInt32))]) ++ [(.int ((c0 >>> ((8 : Int32) &&& (31 : Int32))).toInt8.toInt32))]) ++ [(.int (c1.toInt8.toInt32))]) ++ [(.int ((c1 >>> ((8 : Int32) &&& (31 : Int32))).toInt8.toInt32))]) ++ [(.int (c2.toInt8.toInt32))]) ++ [(.int ((c2 >>> ((8 : Int32) &&& (31 : Int32))).toInt8.toInt32))]) ++ [(.int (c3.toInt8.toInt32))]) ++ [(.int ((c3 >>> ((8 : Int32) &&& (31 : Int32))).toInt8.toInt32))]) : List Value) = enc16 [c0, c1, c2, c3] := by simp [enc16]
theorem enc16_snoc (cs : List Int32) (u : Int32) : (enc16 cs ++ [Value.int u.toInt8.toInt32]) ++ [Value.int ((u >>> ((8 : Int32) &&& (31 : Int32))).toInt8.toInt32)] = enc16 (cs ++ [u]) := by simp [enc16]
theorem wd16 {x : Int32} (h : ¬ x < 0 ∧ ¬ (255 : Int32) < x) : ¬ x < 0 ∧ ¬ (65535 : Int32) < x := ⟨h.1, fun q => h.2 (by
  have e1 : (255 : Int32).toInt = 255 := by decide
  have e2 : (65535 : Int32).toInt = 65535 := by decide
  rw [Int32.lt_iff_toInt_lt] at q ⊢; omega)⟩
theorem i2c_rng (x : Int32) : ¬ i2c x < 0 ∧ ¬ (65535 : Int32) < i2c x := by
  have q := c_i2c x
  have e0 : (0 : Int32).toInt = 0 := by decide
  have e1 : (65535 : Int32).toInt = 65535 := by decide
  constructor
  · rw [Int32.lt_iff_toInt_lt, e0]; unfold i2c; omega
  · rw [Int32.lt_iff_toInt_lt, e1]; unfold i2c; omega

def clo (N1 N2 c0 c1 t0 t1 t2 : Int32) : List Int32 := [c0, c1].take N1.toNatClampNeg ++ [(60 : Int32), (47 : Int32)] ++ [t0, t1, t2].take N2.toNatClampNeg ++ [(62 : Int32)]
def Ix (ds : List Int32) (j v : Int32) : Prop := j = Int32.ofNat j.toNatClampNeg ∧ j.toNatClampNeg < (ds).length ∧ (ds.getD j.toNatClampNeg 0) = v
theorem sz3 (x : Int32) : ((x &&& (3 : Int32)) % (3 : Int32)) = 0 ∨ ((x &&& (3 : Int32)) % (3 : Int32)) = 1 ∨ ((x &&& (3 : Int32)) % (3 : Int32)) = 2 := by
  have q := c_and x (3 : Int32) (by decide)
  have r := (c_irem (x &&& (3 : Int32)) (3 : Int32) 3 (by decide)).1 q.1
  have e0 : (0 : Int32).toInt = 0 := by decide
  have e1 : (1 : Int32).toInt = 1 := by decide
  have e2 : (2 : Int32).toInt = 2 := by decide
  simp only [← Int32.toInt_inj, e0, e1, e2]; omega
theorem sz4 (x : Int32) : (Jvm.Free.XT.ushr x (2 : Int32) &&& (3 : Int32)) = 0 ∨ (Jvm.Free.XT.ushr x (2 : Int32) &&& (3 : Int32)) = 1 ∨ (Jvm.Free.XT.ushr x (2 : Int32) &&& (3 : Int32)) = 2 ∨ (Jvm.Free.XT.ushr x (2 : Int32) &&& (3 : Int32)) = 3 := by
  have q := c_and (Jvm.Free.XT.ushr x (2 : Int32)) (3 : Int32) (by decide)
  have e0 : (0 : Int32).toInt = 0 := by decide
  have e1 : (1 : Int32).toInt = 1 := by decide
  have e2 : (2 : Int32).toInt = 2 := by decide
  have e3 : (3 : Int32).toInt = 3 := by decide
  simp only [← Int32.toInt_inj, e0, e1, e2, e3]; omega
theorem cloG {N1 N2 c0 c1 t0 t1 t2 : Int32} {ds : List Int32} (h1 : N1 = 0 ∨ N1 = 1 ∨ N1 = 2) (h2 : N2 = 0 ∨ N2 = 1 ∨ N2 = 2 ∨ N2 = 3) (hd : ds = clo N1 N2 c0 c1 t0 t1 t2) : Int32.ofNat (ds).length = ((N1 + N2) + (3 : Int32)) ∧ ((0 : Int32) < N1 → Ix ds (0 : Int32) c0) ∧ ((1 : Int32) < N1 → Ix ds (1 : Int32) c1) ∧ Ix ds N1 (60 : Int32) ∧ Ix ds (N1 + (1 : Int32)) (47 : Int32) ∧ ((0 : Int32) < N2 → Ix ds (N1 + (2 : Int32)) t0) ∧ ((1 : Int32) < N2 → Ix ds (N1 + (3 : Int32)) t1) ∧ ((2 : Int32) < N2 → Ix ds (N1 + (4 : Int32)) t2) ∧ Ix ds ((N1 + (2 : Int32)) + N2) (62 : Int32) := by
  subst hd
  rcases h1 with rfl | rfl | rfl <;> rcases h2 with rfl | rfl | rfl | rfl
  · exact ⟨by show Int32.ofNat 3 = _; decide, fun q => absurd q (by decide), fun q => absurd q (by decide), ⟨by decide, Nat.le_of_ble_eq_true rfl, rfl⟩, ⟨by decide, Nat.le_of_ble_eq_true rfl, rfl⟩, fun q => absurd q (by decide), fun q => absurd q (by decide), fun q => absurd q (by decide), ⟨by decide, Nat.le_of_ble_eq_true rfl, rfl⟩⟩
  · exact ⟨by show Int32.ofNat 4 = _; decide, fun q => absurd q (by decide), fun q => absurd q (by decide), ⟨by decide, Nat.le_of_ble_eq_true rfl, rfl⟩, ⟨by decide, Nat.le_of_ble_eq_true rfl, rfl⟩, fun _ => ⟨by decide, Nat.le_of_ble_eq_true rfl, rfl⟩, fun q => absurd q (by decide), fun q => absurd q (by decide), ⟨by decide, Nat.le_of_ble_eq_true rfl, rfl⟩⟩
  · exact ⟨by show Int32.ofNat 5 = _; decide, fun q => absurd q (by decide), fun q => absurd q (by decide), ⟨by decide, Nat.le_of_ble_eq_true rfl, rfl⟩, ⟨by decide, Nat.le_of_ble_eq_true rfl, rfl⟩, fun _ => ⟨by decide, Nat.le_of_ble_eq_true rfl, rfl⟩, fun _ => ⟨by decide, Nat.le_of_ble_eq_true rfl, rfl⟩, fun q => absurd q (by decide), ⟨by decide, Nat.le_of_ble_eq_true rfl, rfl⟩⟩
  · exact ⟨by show Int32.ofNat 6 = _; decide, fun q => absurd q (by decide), fun q => absurd q (by decide), ⟨by decide, Nat.le_of_ble_eq_true rfl, rfl⟩, ⟨by decide, Nat.le_of_ble_eq_true rfl, rfl⟩, fun _ => ⟨by decide, Nat.le_of_ble_eq_true rfl, rfl⟩, fun _ => ⟨by decide, Nat.le_of_ble_eq_true rfl, rfl⟩, fun _ => ⟨by decide, Nat.le_of_ble_eq_true rfl, rfl⟩, ⟨by decide, Nat.le_of_ble_eq_true rfl, rfl⟩⟩
  · exact ⟨by show Int32.ofNat 4 = _; decide, fun _ => ⟨by decide, Nat.le_of_ble_eq_true rfl, rfl⟩, fun q => absurd q (by decide), ⟨by decide, Nat.le_of_ble_eq_true rfl, rfl⟩, ⟨by decide, Nat.le_of_ble_eq_true rfl, rfl⟩, fun q => absurd q (by decide), fun q => absurd q (by decide), fun q => absurd q (by decide), ⟨by decide, Nat.le_of_ble_eq_true rfl, rfl⟩⟩
  · exact ⟨by show Int32.ofNat 5 = _; decide, fun _ => ⟨by decide, Nat.le_of_ble_eq_true rfl, rfl⟩, fun q => absurd q (by decide), ⟨by decide, Nat.le_of_ble_eq_true rfl, rfl⟩, ⟨by decide, Nat.le_of_ble_eq_true rfl, rfl⟩, fun _ => ⟨by decide, Nat.le_of_ble_eq_true rfl, rfl⟩, fun q => absurd q (by decide), fun q => absurd q (by decide), ⟨by decide, Nat.le_of_ble_eq_true rfl, rfl⟩⟩
  · exact ⟨by show Int32.ofNat 6 = _; decide, fun _ => ⟨by decide, Nat.le_of_ble_eq_true rfl, rfl⟩, fun q => absurd q (by decide), ⟨by decide, Nat.le_of_ble_eq_true rfl, rfl⟩, ⟨by decide, Nat.le_of_ble_eq_true rfl, rfl⟩, fun _ => ⟨by decide, Nat.le_of_ble_eq_true rfl, rfl⟩, fun _ => ⟨by decide, Nat.le_of_ble_eq_true rfl, rfl⟩, fun q => absurd q (by decide), ⟨by decide, Nat.le_of_ble_eq_true rfl, rfl⟩⟩
  · exact ⟨by show Int32.ofNat 7 = _; decide, fun _ => ⟨by decide, Nat.le_of_ble_eq_true rfl, rfl⟩, fun q => absurd q (by decide), ⟨by decide, Nat.le_of_ble_eq_true rfl, rfl⟩, ⟨by decide, Nat.le_of_ble_eq_true rfl, rfl⟩, fun _ => ⟨by decide, Nat.le_of_ble_eq_true rfl, rfl⟩, fun _ => ⟨by decide, Nat.le_of_ble_eq_true rfl, rfl⟩, fun _ => ⟨by decide, Nat.le_of_ble_eq_true rfl, rfl⟩, ⟨by decide, Nat.le_of_ble_eq_true rfl, rfl⟩⟩
  · exact ⟨by show Int32.ofNat 5 = _; decide, fun _ => ⟨by decide, Nat.le_of_ble_eq_true rfl, rfl⟩, fun _ => ⟨by decide, Nat.le_of_ble_eq_true rfl, rfl⟩, ⟨by decide, Nat.le_of_ble_eq_true rfl, rfl⟩, ⟨by decide, Nat.le_of_ble_eq_true rfl, rfl⟩, fun q => absurd q (by decide), fun q => absurd q (by decide), fun q => absurd q (by decide), ⟨by decide, Nat.le_of_ble_eq_true rfl, rfl⟩⟩
  · exact ⟨by show Int32.ofNat 6 = _; decide, fun _ => ⟨by decide, Nat.le_of_ble_eq_true rfl, rfl⟩, fun _ => ⟨by decide, Nat.le_of_ble_eq_true rfl, rfl⟩, ⟨by decide, Nat.le_of_ble_eq_true rfl, rfl⟩, ⟨by decide, Nat.le_of_ble_eq_true rfl, rfl⟩, fun _ => ⟨by decide, Nat.le_of_ble_eq_true rfl, rfl⟩, fun q => absurd q (by decide), fun q => absurd q (by decide), ⟨by decide, Nat.le_of_ble_eq_true rfl, rfl⟩⟩
  · exact ⟨by show Int32.ofNat 7 = _; decide, fun _ => ⟨by decide, Nat.le_of_ble_eq_true rfl, rfl⟩, fun _ => ⟨by decide, Nat.le_of_ble_eq_true rfl, rfl⟩, ⟨by decide, Nat.le_of_ble_eq_true rfl, rfl⟩, ⟨by decide, Nat.le_of_ble_eq_true rfl, rfl⟩, fun _ => ⟨by decide, Nat.le_of_ble_eq_true rfl, rfl⟩, fun _ => ⟨by decide, Nat.le_of_ble_eq_true rfl, rfl⟩, fun q => absurd q (by decide), ⟨by decide, Nat.le_of_ble_eq_true rfl, rfl⟩⟩
  · exact ⟨by show Int32.ofNat 8 = _; decide, fun _ => ⟨by decide, Nat.le_of_ble_eq_true rfl, rfl⟩, fun _ => ⟨by decide, Nat.le_of_ble_eq_true rfl, rfl⟩, ⟨by decide, Nat.le_of_ble_eq_true rfl, rfl⟩, ⟨by decide, Nat.le_of_ble_eq_true rfl, rfl⟩, fun _ => ⟨by decide, Nat.le_of_ble_eq_true rfl, rfl⟩, fun _ => ⟨by decide, Nat.le_of_ble_eq_true rfl, rfl⟩, fun _ => ⟨by decide, Nat.le_of_ble_eq_true rfl, rfl⟩, ⟨by decide, Nat.le_of_ble_eq_true rfl, rfl⟩⟩

abbrev HW (a0 : Array Value) (Z : State) : Prop := ∀ d ∈ tables_1, d.before a0 Z = true
theorem hw_at {a0 : Array Value} {Z : State} (hw : HW a0 Z) (i : Nat) {d : Jvm.Cond} (h : tables_1[i]? = some d) : d.before a0 Z = true := hw _ (List.mem_of_getElem? h)
abbrev Cx (Z : State) (a0 : Array Value) (zc : Int32) (fm : Value) : Prop := HW a0 Z ∧ (EW Z a0 consts_1) ∧ (Sta Z Z.heap "java/lang/String" "COMPACT_STRINGS" "Z" (.int zc)) ∧ (¬ zc = 0) ∧ (Sta Z Z.heap "jdk/internal/util/Preconditions" "SIOOBE_FORMATTER" "Ljava/util/function/BiFunction;" fm) ∧ (fm.isRef = true) ∧ (Sta Z Z.heap "java/lang/StringUTF16" "$assertionsDisabled" "Z" (.int (1 : Int32))) ∧ (Sta Z Z.heap "java/lang/StringUTF16" "HI_BYTE_SHIFT" "I" (.int (0 : Int32))) ∧ (Sta Z Z.heap "java/lang/StringUTF16" "LO_BYTE_SHIFT" "I" (.int (8 : Int32)))
variable {l : Launch} {Z : State} {a0 : Array Value} {zc : Int32} {fm : Value}
theorem w0 (hw : HW a0 Z) : (Jvm.Cond.methodLink "com/example/carve/carve/http/HtmlClosePinLaw" (12 : Nat) ({ cls := "com/example/carve/carve/http/HtmlClosePinLaw", name := "str", desc := "(ICCC)Ljava/lang/String;" } : Jvm.MethodName)).before a0 Z = true := hw_at hw 0 rfl
theorem w1 (hw : HW a0 Z) : (Jvm.Cond.static ({ cls := "com/example/carve/carve/http/HtmlClosePinLaw", name := "str", desc := "(ICCC)Ljava/lang/String;" } : Jvm.MethodName)).before a0 Z = true := hw_at hw 1 rfl
theorem w2 (hw : HW a0 Z) : (Jvm.Cond.initialized "com/example/carve/carve/http/HtmlClosePinLaw").before a0 Z = true := hw_at hw 2 rfl
theorem w3 (hw : HW a0 Z) : (Jvm.Cond.code ({ cls := "com/example/carve/carve/http/HtmlClosePinLaw", name := "str", desc := "(ICCC)Ljava/lang/String;" } : Jvm.MethodName) method_2_code (4 : Nat) (Option.some (Jvm.ClassFile.FieldType.object "java/lang/String"))).before a0 Z = true := hw_at hw 3 rfl
theorem w4 (hw : HW a0 Z) : (Jvm.Cond.classLink "com/example/carve/carve/http/HtmlClosePinLaw" (7 : Nat) "java/lang/String").before a0 Z = true := hw_at hw 4 rfl
theorem w5 (hw : HW a0 Z) : (Jvm.Cond.instantiable "java/lang/String" (4 : Nat)).before a0 Z = true := hw_at hw 5 rfl
theorem w6 (hw : HW a0 Z) : (Jvm.Cond.initialized "java/lang/String").before a0 Z = true := hw_at hw 6 rfl
theorem w7 (hw : HW a0 Z) : (Jvm.Cond.arrayClass Jvm.ClassFile.FieldType.char).before a0 Z = true := hw_at hw 7 rfl
theorem w8 (hw : HW a0 Z) : (Jvm.Cond.methodLink "com/example/carve/carve/http/HtmlClosePinLaw" (9 : Nat) ({ cls := "java/lang/String", name := "<init>", desc := "([C)V" } : Jvm.MethodName)).before a0 Z = true := hw_at hw 8 rfl
theorem w9 (hw : HW a0 Z) : (Jvm.Cond.instanceMethod ({ cls := "java/lang/String", name := "<init>", desc := "([C)V" } : Jvm.MethodName)).before a0 Z = true := hw_at hw 9 rfl
theorem w10 (hw : HW a0 Z) : (Jvm.Cond.code ({ cls := "java/lang/String", name := "<init>", desc := "([C)V" } : Jvm.MethodName) jdk_42_method_3_code (2 : Nat) (Option.none : Option Jvm.ClassFile.FieldType)).before a0 Z = true := hw_at hw 10 rfl
theorem w11 (hw : HW a0 Z) : (Jvm.Cond.methodLink "java/lang/String" (27 : Nat) ({ cls := "java/lang/String", name := "<init>", desc := "([CIILjava/lang/Void;)V" } : Jvm.MethodName)).before a0 Z = true := hw_at hw 11 rfl
theorem w12 (hw : HW a0 Z) : (Jvm.Cond.instanceMethod ({ cls := "java/lang/String", name := "<init>", desc := "([CIILjava/lang/Void;)V" } : Jvm.MethodName)).before a0 Z = true := hw_at hw 12 rfl
theorem w14 (hw : HW a0 Z) : (Jvm.Cond.code ({ cls := "java/lang/String", name := "<init>", desc := "([CIILjava/lang/Void;)V" } : Jvm.MethodName) jdk_42_method_149_code (6 : Nat) (Option.none : Option Jvm.ClassFile.FieldType)).before a0 Z = true := hw_at hw 14 rfl
theorem w15 (hw : HW a0 Z) : (Jvm.Cond.methodLink "java/lang/String" (1 : Nat) ({ cls := "java/lang/Object", name := "<init>", desc := "()V" } : Jvm.MethodName)).before a0 Z = true := hw_at hw 15 rfl
theorem w16 (hw : HW a0 Z) : (Jvm.Cond.instanceMethod ({ cls := "java/lang/Object", name := "<init>", desc := "()V" } : Jvm.MethodName)).before a0 Z = true := hw_at hw 16 rfl
theorem w17 (hw : HW a0 Z) : (Jvm.Cond.code ({ cls := "java/lang/Object", name := "<init>", desc := "()V" } : Jvm.MethodName) object_method_1_code (1 : Nat) (Option.none : Option Jvm.ClassFile.FieldType)).before a0 Z = true := hw_at hw 17 rfl
theorem w18 (hw : HW a0 Z) : (Jvm.Cond.fieldLink "java/lang/String" (38 : Nat) "java/lang/String" "COMPACT_STRINGS" "Z").before a0 Z = true := hw_at hw 18 rfl
theorem w19 (hw : HW a0 Z) : (Jvm.Cond.methodLink "java/lang/String" (177 : Nat) ({ cls := "java/lang/StringUTF16", name := "compress", desc := "([CII)[B" } : Jvm.MethodName)).before a0 Z = true := hw_at hw 19 rfl
theorem w20 (hw : HW a0 Z) : (Jvm.Cond.static ({ cls := "java/lang/StringUTF16", name := "compress", desc := "([CII)[B" } : Jvm.MethodName)).before a0 Z = true := hw_at hw 20 rfl
theorem w21 (hw : HW a0 Z) : (Jvm.Cond.initialized "java/lang/StringUTF16").before a0 Z = true := hw_at hw 21 rfl
theorem w22 (hw : HW a0 Z) : (Jvm.Cond.code ({ cls := "java/lang/StringUTF16", name := "compress", desc := "([CII)[B" } : Jvm.MethodName) jdk_52_method_16_code (6 : Nat) (Option.some (Jvm.ClassFile.FieldType.array Jvm.ClassFile.FieldType.byte))).before a0 Z = true := hw_at hw 22 rfl
theorem w23 (hw : HW a0 Z) : (Jvm.Cond.arrayClass Jvm.ClassFile.FieldType.byte).before a0 Z = true := hw_at hw 23 rfl
theorem w24 (hw : HW a0 Z) : (Jvm.Cond.methodLink "java/lang/StringUTF16" (115 : Nat) ({ cls := "java/lang/StringUTF16", name := "compress", desc := "([CI[BII)I" } : Jvm.MethodName)).before a0 Z = true := hw_at hw 24 rfl
theorem w25 (hw : HW a0 Z) : (Jvm.Cond.static ({ cls := "java/lang/StringUTF16", name := "compress", desc := "([CI[BII)I" } : Jvm.MethodName)).before a0 Z = true := hw_at hw 25 rfl
theorem w26 (hw : HW a0 Z) : (Jvm.Cond.code ({ cls := "java/lang/StringUTF16", name := "compress", desc := "([CI[BII)I" } : Jvm.MethodName) jdk_52_method_21_code (7 : Nat) (Option.some Jvm.ClassFile.FieldType.int)).before a0 Z = true := hw_at hw 26 rfl
theorem w27 (hw : HW a0 Z) : (Jvm.Cond.methodLink "java/lang/String" (47 : Nat) ({ cls := "java/lang/StringUTF16", name := "coderFromArrayLen", desc := "([BI)B" } : Jvm.MethodName)).before a0 Z = true := hw_at hw 27 rfl
theorem w28 (hw : HW a0 Z) : (Jvm.Cond.static ({ cls := "java/lang/StringUTF16", name := "coderFromArrayLen", desc := "([BI)B" } : Jvm.MethodName)).before a0 Z = true := hw_at hw 28 rfl
theorem w29 (hw : HW a0 Z) : (Jvm.Cond.code ({ cls := "java/lang/StringUTF16", name := "coderFromArrayLen", desc := "([BI)B" } : Jvm.MethodName) jdk_52_method_15_code (2 : Nat) (Option.some Jvm.ClassFile.FieldType.byte)).before a0 Z = true := hw_at hw 29 rfl
theorem w30 (hw : HW a0 Z) : (Jvm.Cond.fieldLink "java/lang/String" (15 : Nat) "java/lang/String" "coder" "B").before a0 Z = true := hw_at hw 30 rfl
theorem w31 (hw : HW a0 Z) : (Jvm.Cond.laysFinal "java/lang/String" "java/lang/String" "coder" "B").before a0 Z = true := hw_at hw 31 rfl
theorem w32 (hw : HW a0 Z) : (Jvm.Cond.fieldLink "java/lang/String" (9 : Nat) "java/lang/String" "value" "[B").before a0 Z = true := hw_at hw 32 rfl
theorem w33 (hw : HW a0 Z) : (Jvm.Cond.laysFinal "java/lang/String" "java/lang/String" "value" "[B").before a0 Z = true := hw_at hw 33 rfl
theorem w34 (hw : HW a0 Z) : (Jvm.Cond.stringLink "java/lang/String" (7 : Nat) "").before a0 Z = true := hw_at hw 34 rfl
theorem w37 (hw : HW a0 Z) : (Jvm.Cond.classLink "com/example/carve/carve/http/HtmlClosePinLaw" (18 : Nat) "com/example/carve/carve/http/Html").before a0 Z = true := hw_at hw 37 rfl
theorem w38 (hw : HW a0 Z) : (Jvm.Cond.instantiable "com/example/carve/carve/http/Html" (1 : Nat)).before a0 Z = true := hw_at hw 38 rfl
theorem w39 (hw : HW a0 Z) : (Jvm.Cond.initialized "com/example/carve/carve/http/Html").before a0 Z = true := hw_at hw 39 rfl
theorem w40 (hw : HW a0 Z) : (Jvm.Cond.methodLink "com/example/carve/carve/http/HtmlClosePinLaw" (20 : Nat) ({ cls := "com/example/carve/carve/http/Html", name := "<init>", desc := "()V" } : Jvm.MethodName)).before a0 Z = true := hw_at hw 40 rfl
theorem w41 (hw : HW a0 Z) : (Jvm.Cond.instanceMethod ({ cls := "com/example/carve/carve/http/Html", name := "<init>", desc := "()V" } : Jvm.MethodName)).before a0 Z = true := hw_at hw 41 rfl
theorem w42 (hw : HW a0 Z) : (Jvm.Cond.code ({ cls := "com/example/carve/carve/http/Html", name := "<init>", desc := "()V" } : Jvm.MethodName) prog_24_method_1_code (1 : Nat) (Option.none : Option Jvm.ClassFile.FieldType)).before a0 Z = true := hw_at hw 42 rfl
theorem w43 (hw : HW a0 Z) : (Jvm.Cond.methodLink "com/example/carve/carve/http/Html" (1 : Nat) ({ cls := "java/lang/Object", name := "<init>", desc := "()V" } : Jvm.MethodName)).before a0 Z = true := hw_at hw 43 rfl
theorem w44 (hw : HW a0 Z) : (Jvm.Cond.classLink "com/example/carve/carve/http/Html" (7 : Nat) "java/lang/StringBuilder").before a0 Z = true := hw_at hw 44 rfl
theorem w45 (hw : HW a0 Z) : (Jvm.Cond.instantiable "java/lang/StringBuilder" (4 : Nat)).before a0 Z = true := hw_at hw 45 rfl
theorem w46 (hw : HW a0 Z) : (Jvm.Cond.initialized "java/lang/StringBuilder").before a0 Z = true := hw_at hw 46 rfl
theorem w47 (hw : HW a0 Z) : (Jvm.Cond.methodLink "com/example/carve/carve/http/Html" (9 : Nat) ({ cls := "java/lang/StringBuilder", name := "<init>", desc := "()V" } : Jvm.MethodName)).before a0 Z = true := hw_at hw 47 rfl
theorem w48 (hw : HW a0 Z) : (Jvm.Cond.instanceMethod ({ cls := "java/lang/StringBuilder", name := "<init>", desc := "()V" } : Jvm.MethodName)).before a0 Z = true := hw_at hw 48 rfl
theorem w49 (hw : HW a0 Z) : (Jvm.Cond.code ({ cls := "java/lang/StringBuilder", name := "<init>", desc := "()V" } : Jvm.MethodName) jdk_67_method_1_code (1 : Nat) (Option.none : Option Jvm.ClassFile.FieldType)).before a0 Z = true := hw_at hw 49 rfl
theorem w50 (hw : HW a0 Z) : (Jvm.Cond.methodLink "java/lang/StringBuilder" (1 : Nat) ({ cls := "java/lang/AbstractStringBuilder", name := "<init>", desc := "(I)V" } : Jvm.MethodName)).before a0 Z = true := hw_at hw 50 rfl
theorem w51 (hw : HW a0 Z) : (Jvm.Cond.instanceMethod ({ cls := "java/lang/AbstractStringBuilder", name := "<init>", desc := "(I)V" } : Jvm.MethodName)).before a0 Z = true := hw_at hw 51 rfl
theorem w54 (hw : HW a0 Z) : (Jvm.Cond.initialized "java/lang/AbstractStringBuilder").before a0 Z = true := hw_at hw 54 rfl
theorem w55 (hw : HW a0 Z) : (Jvm.Cond.code ({ cls := "java/lang/AbstractStringBuilder", name := "<init>", desc := "(I)V" } : Jvm.MethodName) jdk_68_method_2_code (2 : Nat) (Option.none : Option Jvm.ClassFile.FieldType)).before a0 Z = true := hw_at hw 55 rfl
theorem w56 (hw : HW a0 Z) : (Jvm.Cond.methodLink "java/lang/AbstractStringBuilder" (3 : Nat) ({ cls := "java/lang/Object", name := "<init>", desc := "()V" } : Jvm.MethodName)).before a0 Z = true := hw_at hw 56 rfl
theorem w57 (hw : HW a0 Z) : (Jvm.Cond.fieldLink "java/lang/AbstractStringBuilder" (18 : Nat) "java/lang/String" "COMPACT_STRINGS" "Z").before a0 Z = true := hw_at hw 57 rfl
theorem w58 (hw : HW a0 Z) : (Jvm.Cond.fieldLink "java/lang/AbstractStringBuilder" (15 : Nat) "java/lang/AbstractStringBuilder" "value" "[B").before a0 Z = true := hw_at hw 58 rfl
theorem w59 (hw : HW a0 Z) : (Jvm.Cond.lays "java/lang/StringBuilder" "java/lang/AbstractStringBuilder" "value" "[B").before a0 Z = true := hw_at hw 59 rfl
theorem w60 (hw : HW a0 Z) : (Jvm.Cond.fieldLink "java/lang/AbstractStringBuilder" (22 : Nat) "java/lang/AbstractStringBuilder" "coder" "B").before a0 Z = true := hw_at hw 60 rfl
theorem w61 (hw : HW a0 Z) : (Jvm.Cond.lays "java/lang/StringBuilder" "java/lang/AbstractStringBuilder" "coder" "B").before a0 Z = true := hw_at hw 61 rfl
theorem w62 (hw : HW a0 Z) : (Jvm.Cond.fieldLink "com/example/carve/carve/http/Html" (10 : Nat) "com/example/carve/carve/http/Html" "out" "Ljava/lang/StringBuilder;").before a0 Z = true := hw_at hw 62 rfl
theorem w63 (hw : HW a0 Z) : (Jvm.Cond.laysFinal "com/example/carve/carve/http/Html" "com/example/carve/carve/http/Html" "out" "Ljava/lang/StringBuilder;").before a0 Z = true := hw_at hw 63 rfl
theorem w64 (hw : HW a0 Z) : (Jvm.Cond.methodLink "com/example/carve/carve/http/HtmlClosePinLaw" (21 : Nat) ({ cls := "com/example/carve/carve/http/Html", name := "markup", desc := "(Ljava/lang/String;)Lcom/example/carve/carve/http/Html;" } : Jvm.MethodName)).before a0 Z = true := hw_at hw 64 rfl
theorem w65 (hw : HW a0 Z) : (Jvm.Cond.declares ({ cls := "com/example/carve/carve/http/Html", name := "markup", desc := "(Ljava/lang/String;)Lcom/example/carve/carve/http/Html;" } : Jvm.MethodName)).before a0 Z = true := hw_at hw 65 rfl
theorem w66 (hw : HW a0 Z) : (Jvm.Cond.instanceMethod ({ cls := "com/example/carve/carve/http/Html", name := "markup", desc := "(Ljava/lang/String;)Lcom/example/carve/carve/http/Html;" } : Jvm.MethodName)).before a0 Z = true := hw_at hw 66 rfl
theorem w67 (hw : HW a0 Z) : (Jvm.Cond.selects "com/example/carve/carve/http/Html" ({ cls := "com/example/carve/carve/http/Html", name := "markup", desc := "(Ljava/lang/String;)Lcom/example/carve/carve/http/Html;" } : Jvm.MethodName) ({ cls := "com/example/carve/carve/http/Html", name := "markup", desc := "(Ljava/lang/String;)Lcom/example/carve/carve/http/Html;" } : Jvm.MethodName)).before a0 Z = true := hw_at hw 67 rfl
theorem w68 (hw : HW a0 Z) : (Jvm.Cond.code ({ cls := "com/example/carve/carve/http/Html", name := "markup", desc := "(Ljava/lang/String;)Lcom/example/carve/carve/http/Html;" } : Jvm.MethodName) prog_24_method_6_code (2 : Nat) (Option.some (Jvm.ClassFile.FieldType.object "com/example/carve/carve/http/Html"))).before a0 Z = true := hw_at hw 68 rfl
theorem w69 (hw : HW a0 Z) : (Jvm.Cond.methodLink "com/example/carve/carve/http/Html" (20 : Nat) ({ cls := "java/lang/StringBuilder", name := "append", desc := "(Ljava/lang/String;)Ljava/lang/StringBuilder;" } : Jvm.MethodName)).before a0 Z = true := hw_at hw 69 rfl
theorem w70 (hw : HW a0 Z) : (Jvm.Cond.declares ({ cls := "java/lang/StringBuilder", name := "append", desc := "(Ljava/lang/String;)Ljava/lang/StringBuilder;" } : Jvm.MethodName)).before a0 Z = true := hw_at hw 70 rfl
theorem w71 (hw : HW a0 Z) : (Jvm.Cond.instanceMethod ({ cls := "java/lang/StringBuilder", name := "append", desc := "(Ljava/lang/String;)Ljava/lang/StringBuilder;" } : Jvm.MethodName)).before a0 Z = true := hw_at hw 71 rfl
theorem w72 (hw : HW a0 Z) : (Jvm.Cond.selects "java/lang/StringBuilder" ({ cls := "java/lang/StringBuilder", name := "append", desc := "(Ljava/lang/String;)Ljava/lang/StringBuilder;" } : Jvm.MethodName) ({ cls := "java/lang/StringBuilder", name := "append", desc := "(Ljava/lang/String;)Ljava/lang/StringBuilder;" } : Jvm.MethodName)).before a0 Z = true := hw_at hw 72 rfl
theorem w73 (hw : HW a0 Z) : (Jvm.Cond.code ({ cls := "java/lang/StringBuilder", name := "append", desc := "(Ljava/lang/String;)Ljava/lang/StringBuilder;" } : Jvm.MethodName) jdk_67_method_7_code (2 : Nat) (Option.some (Jvm.ClassFile.FieldType.object "java/lang/StringBuilder"))).before a0 Z = true := hw_at hw 73 rfl
theorem w74 (hw : HW a0 Z) : (Jvm.Cond.methodLink "java/lang/StringBuilder" (29 : Nat) ({ cls := "java/lang/AbstractStringBuilder", name := "append", desc := "(Ljava/lang/String;)Ljava/lang/AbstractStringBuilder;" } : Jvm.MethodName)).before a0 Z = true := hw_at hw 74 rfl
theorem w75 (hw : HW a0 Z) : (Jvm.Cond.instanceMethod ({ cls := "java/lang/AbstractStringBuilder", name := "append", desc := "(Ljava/lang/String;)Ljava/lang/AbstractStringBuilder;" } : Jvm.MethodName)).before a0 Z = true := hw_at hw 75 rfl
theorem w76 (hw : HW a0 Z) : (Jvm.Cond.superclass "java/lang/StringBuilder" "java/lang/AbstractStringBuilder").before a0 Z = true := hw_at hw 76 rfl
theorem w78 (hw : HW a0 Z) : (Jvm.Cond.code ({ cls := "java/lang/AbstractStringBuilder", name := "append", desc := "(Ljava/lang/String;)Ljava/lang/AbstractStringBuilder;" } : Jvm.MethodName) jdk_68_method_22_code (3 : Nat) (Option.some (Jvm.ClassFile.FieldType.object "java/lang/AbstractStringBuilder"))).before a0 Z = true := hw_at hw 78 rfl
theorem w79 (hw : HW a0 Z) : (Jvm.Cond.methodLink "java/lang/AbstractStringBuilder" (32 : Nat) ({ cls := "java/lang/String", name := "length", desc := "()I" } : Jvm.MethodName)).before a0 Z = true := hw_at hw 79 rfl
theorem w80 (hw : HW a0 Z) : (Jvm.Cond.declares ({ cls := "java/lang/String", name := "length", desc := "()I" } : Jvm.MethodName)).before a0 Z = true := hw_at hw 80 rfl
theorem w81 (hw : HW a0 Z) : (Jvm.Cond.instanceMethod ({ cls := "java/lang/String", name := "length", desc := "()I" } : Jvm.MethodName)).before a0 Z = true := hw_at hw 81 rfl
theorem w82 (hw : HW a0 Z) : (Jvm.Cond.selects "java/lang/String" ({ cls := "java/lang/String", name := "length", desc := "()I" } : Jvm.MethodName) ({ cls := "java/lang/String", name := "length", desc := "()I" } : Jvm.MethodName)).before a0 Z = true := hw_at hw 82 rfl
theorem w83 (hw : HW a0 Z) : (Jvm.Cond.code ({ cls := "java/lang/String", name := "length", desc := "()I" } : Jvm.MethodName) jdk_42_method_54_code (1 : Nat) (Option.some Jvm.ClassFile.FieldType.int)).before a0 Z = true := hw_at hw 83 rfl
theorem w84 (hw : HW a0 Z) : (Jvm.Cond.methodLink "java/lang/String" (335 : Nat) ({ cls := "java/lang/String", name := "coder", desc := "()B" } : Jvm.MethodName)).before a0 Z = true := hw_at hw 84 rfl
theorem w85 (hw : HW a0 Z) : (Jvm.Cond.declares ({ cls := "java/lang/String", name := "coder", desc := "()B" } : Jvm.MethodName)).before a0 Z = true := hw_at hw 85 rfl
theorem w86 (hw : HW a0 Z) : (Jvm.Cond.instanceMethod ({ cls := "java/lang/String", name := "coder", desc := "()B" } : Jvm.MethodName)).before a0 Z = true := hw_at hw 86 rfl
theorem w87 (hw : HW a0 Z) : (Jvm.Cond.selects "java/lang/String" ({ cls := "java/lang/String", name := "coder", desc := "()B" } : Jvm.MethodName) ({ cls := "java/lang/String", name := "coder", desc := "()B" } : Jvm.MethodName)).before a0 Z = true := hw_at hw 87 rfl
theorem w88 (hw : HW a0 Z) : (Jvm.Cond.code ({ cls := "java/lang/String", name := "coder", desc := "()B" } : Jvm.MethodName) jdk_42_method_152_code (1 : Nat) (Option.some Jvm.ClassFile.FieldType.byte)).before a0 Z = true := hw_at hw 88 rfl
theorem w89 (hw : HW a0 Z) : (Jvm.Cond.fieldLink "java/lang/AbstractStringBuilder" (79 : Nat) "java/lang/AbstractStringBuilder" "count" "I").before a0 Z = true := hw_at hw 89 rfl
theorem w90 (hw : HW a0 Z) : (Jvm.Cond.lays "java/lang/StringBuilder" "java/lang/AbstractStringBuilder" "count" "I").before a0 Z = true := hw_at hw 90 rfl
theorem w91 (hw : HW a0 Z) : (Jvm.Cond.methodLink "java/lang/AbstractStringBuilder" (100 : Nat) ({ cls := "java/lang/AbstractStringBuilder", name := "ensureCapacityInternal", desc := "(I)V" } : Jvm.MethodName)).before a0 Z = true := hw_at hw 91 rfl
theorem w92 (hw : HW a0 Z) : (Jvm.Cond.instanceMethod ({ cls := "java/lang/AbstractStringBuilder", name := "ensureCapacityInternal", desc := "(I)V" } : Jvm.MethodName)).before a0 Z = true := hw_at hw 92 rfl
theorem w93 (hw : HW a0 Z) : (Jvm.Cond.privateMethod ({ cls := "java/lang/AbstractStringBuilder", name := "ensureCapacityInternal", desc := "(I)V" } : Jvm.MethodName)).before a0 Z = true := hw_at hw 93 rfl
theorem w94 (hw : HW a0 Z) : (Jvm.Cond.selects "java/lang/StringBuilder" ({ cls := "java/lang/AbstractStringBuilder", name := "ensureCapacityInternal", desc := "(I)V" } : Jvm.MethodName) ({ cls := "java/lang/AbstractStringBuilder", name := "ensureCapacityInternal", desc := "(I)V" } : Jvm.MethodName)).before a0 Z = true := hw_at hw 94 rfl
theorem w95 (hw : HW a0 Z) : (Jvm.Cond.code ({ cls := "java/lang/AbstractStringBuilder", name := "ensureCapacityInternal", desc := "(I)V" } : Jvm.MethodName) jdk_68_method_9_code (3 : Nat) (Option.none : Option Jvm.ClassFile.FieldType)).before a0 Z = true := hw_at hw 95 rfl
theorem w96 (hw : HW a0 Z) : (Jvm.Cond.methodLink "java/lang/AbstractStringBuilder" (208 : Nat) ({ cls := "java/lang/AbstractStringBuilder", name := "putStringAt", desc := "(ILjava/lang/String;)V" } : Jvm.MethodName)).before a0 Z = true := hw_at hw 96 rfl
theorem w97 (hw : HW a0 Z) : (Jvm.Cond.instanceMethod ({ cls := "java/lang/AbstractStringBuilder", name := "putStringAt", desc := "(ILjava/lang/String;)V" } : Jvm.MethodName)).before a0 Z = true := hw_at hw 97 rfl
theorem w98 (hw : HW a0 Z) : (Jvm.Cond.privateMethod ({ cls := "java/lang/AbstractStringBuilder", name := "putStringAt", desc := "(ILjava/lang/String;)V" } : Jvm.MethodName)).before a0 Z = true := hw_at hw 98 rfl
theorem w99 (hw : HW a0 Z) : (Jvm.Cond.selects "java/lang/StringBuilder" ({ cls := "java/lang/AbstractStringBuilder", name := "putStringAt", desc := "(ILjava/lang/String;)V" } : Jvm.MethodName) ({ cls := "java/lang/AbstractStringBuilder", name := "putStringAt", desc := "(ILjava/lang/String;)V" } : Jvm.MethodName)).before a0 Z = true := hw_at hw 99 rfl
theorem w100 (hw : HW a0 Z) : (Jvm.Cond.code ({ cls := "java/lang/AbstractStringBuilder", name := "putStringAt", desc := "(ILjava/lang/String;)V" } : Jvm.MethodName) jdk_68_method_73_code (3 : Nat) (Option.none : Option Jvm.ClassFile.FieldType)).before a0 Z = true := hw_at hw 100 rfl
theorem w101 (hw : HW a0 Z) : (Jvm.Cond.methodLink "java/lang/AbstractStringBuilder" (397 : Nat) ({ cls := "java/lang/AbstractStringBuilder", name := "inflateIfNeededFor", desc := "(Ljava/lang/String;)V" } : Jvm.MethodName)).before a0 Z = true := hw_at hw 101 rfl
theorem w102 (hw : HW a0 Z) : (Jvm.Cond.instanceMethod ({ cls := "java/lang/AbstractStringBuilder", name := "inflateIfNeededFor", desc := "(Ljava/lang/String;)V" } : Jvm.MethodName)).before a0 Z = true := hw_at hw 102 rfl
theorem w103 (hw : HW a0 Z) : (Jvm.Cond.privateMethod ({ cls := "java/lang/AbstractStringBuilder", name := "inflateIfNeededFor", desc := "(Ljava/lang/String;)V" } : Jvm.MethodName)).before a0 Z = true := hw_at hw 103 rfl
theorem w104 (hw : HW a0 Z) : (Jvm.Cond.selects "java/lang/StringBuilder" ({ cls := "java/lang/AbstractStringBuilder", name := "inflateIfNeededFor", desc := "(Ljava/lang/String;)V" } : Jvm.MethodName) ({ cls := "java/lang/AbstractStringBuilder", name := "inflateIfNeededFor", desc := "(Ljava/lang/String;)V" } : Jvm.MethodName)).before a0 Z = true := hw_at hw 104 rfl
theorem w105 (hw : HW a0 Z) : (Jvm.Cond.code ({ cls := "java/lang/AbstractStringBuilder", name := "inflateIfNeededFor", desc := "(Ljava/lang/String;)V" } : Jvm.MethodName) jdk_68_method_71_code (2 : Nat) (Option.none : Option Jvm.ClassFile.FieldType)).before a0 Z = true := hw_at hw 105 rfl
theorem w106 (hw : HW a0 Z) : (Jvm.Cond.methodLink "java/lang/AbstractStringBuilder" (40 : Nat) ({ cls := "java/lang/String", name := "coder", desc := "()B" } : Jvm.MethodName)).before a0 Z = true := hw_at hw 106 rfl
theorem w107 (hw : HW a0 Z) : (Jvm.Cond.methodLink "java/lang/AbstractStringBuilder" (399 : Nat) ({ cls := "java/lang/String", name := "getBytes", desc := "([BIB)V" } : Jvm.MethodName)).before a0 Z = true := hw_at hw 107 rfl
theorem w108 (hw : HW a0 Z) : (Jvm.Cond.declares ({ cls := "java/lang/String", name := "getBytes", desc := "([BIB)V" } : Jvm.MethodName)).before a0 Z = true := hw_at hw 108 rfl
theorem w109 (hw : HW a0 Z) : (Jvm.Cond.instanceMethod ({ cls := "java/lang/String", name := "getBytes", desc := "([BIB)V" } : Jvm.MethodName)).before a0 Z = true := hw_at hw 109 rfl
theorem w110 (hw : HW a0 Z) : (Jvm.Cond.selects "java/lang/String" ({ cls := "java/lang/String", name := "getBytes", desc := "([BIB)V" } : Jvm.MethodName) ({ cls := "java/lang/String", name := "getBytes", desc := "([BIB)V" } : Jvm.MethodName)).before a0 Z = true := hw_at hw 110 rfl
theorem w111 (hw : HW a0 Z) : (Jvm.Cond.code ({ cls := "java/lang/String", name := "getBytes", desc := "([BIB)V" } : Jvm.MethodName) jdk_42_method_147_code (4 : Nat) (Option.none : Option Jvm.ClassFile.FieldType)).before a0 Z = true := hw_at hw 111 rfl
theorem w112 (hw : HW a0 Z) : (Jvm.Cond.methodLink "java/lang/String" (212 : Nat) ({ cls := "java/lang/System", name := "arraycopy", desc := "(Ljava/lang/Object;ILjava/lang/Object;II)V" } : Jvm.MethodName)).before a0 Z = true := hw_at hw 112 rfl
theorem w113 (hw : HW a0 Z) : (Jvm.Cond.static ({ cls := "java/lang/System", name := "arraycopy", desc := "(Ljava/lang/Object;ILjava/lang/Object;II)V" } : Jvm.MethodName)).before a0 Z = true := hw_at hw 113 rfl
theorem w114 (hw : HW a0 Z) : (Jvm.Cond.initialized "java/lang/System").before a0 Z = true := hw_at hw 114 rfl
theorem w115 (hw : HW a0 Z) : (Jvm.Cond.native ({ cls := "java/lang/System", name := "arraycopy", desc := "(Ljava/lang/Object;ILjava/lang/Object;II)V" } : Jvm.MethodName)).before a0 Z = true := hw_at hw 115 rfl
theorem w116 (hw : HW a0 Z) : (Jvm.Cond.methodLink "com/example/carve/carve/http/HtmlClosePinLaw" (25 : Nat) ({ cls := "com/example/carve/carve/http/Html", name := "close", desc := "(Ljava/lang/String;)Lcom/example/carve/carve/http/Html;" } : Jvm.MethodName)).before a0 Z = true := hw_at hw 116 rfl
theorem w117 (hw : HW a0 Z) : (Jvm.Cond.declares ({ cls := "com/example/carve/carve/http/Html", name := "close", desc := "(Ljava/lang/String;)Lcom/example/carve/carve/http/Html;" } : Jvm.MethodName)).before a0 Z = true := hw_at hw 117 rfl
theorem w118 (hw : HW a0 Z) : (Jvm.Cond.instanceMethod ({ cls := "com/example/carve/carve/http/Html", name := "close", desc := "(Ljava/lang/String;)Lcom/example/carve/carve/http/Html;" } : Jvm.MethodName)).before a0 Z = true := hw_at hw 118 rfl
theorem w119 (hw : HW a0 Z) : (Jvm.Cond.selects "com/example/carve/carve/http/Html" ({ cls := "com/example/carve/carve/http/Html", name := "close", desc := "(Ljava/lang/String;)Lcom/example/carve/carve/http/Html;" } : Jvm.MethodName) ({ cls := "com/example/carve/carve/http/Html", name := "close", desc := "(Ljava/lang/String;)Lcom/example/carve/carve/http/Html;" } : Jvm.MethodName)).before a0 Z = true := hw_at hw 119 rfl
theorem w120 (hw : HW a0 Z) : (Jvm.Cond.code ({ cls := "com/example/carve/carve/http/Html", name := "close", desc := "(Ljava/lang/String;)Lcom/example/carve/carve/http/Html;" } : Jvm.MethodName) prog_24_method_3_code (2 : Nat) (Option.some (Jvm.ClassFile.FieldType.object "com/example/carve/carve/http/Html"))).before a0 Z = true := hw_at hw 120 rfl
theorem w121 (hw : HW a0 Z) : (Jvm.Cond.stringLink "com/example/carve/carve/http/Html" (29 : Nat) "</").before a0 Z = true := hw_at hw 121 rfl
theorem w122 (hw : HW a0 Z) : (Jvm.Cond.methodLink "com/example/carve/carve/http/Html" (16 : Nat) ({ cls := "java/lang/StringBuilder", name := "append", desc := "(C)Ljava/lang/StringBuilder;" } : Jvm.MethodName)).before a0 Z = true := hw_at hw 122 rfl
theorem w123 (hw : HW a0 Z) : (Jvm.Cond.declares ({ cls := "java/lang/StringBuilder", name := "append", desc := "(C)Ljava/lang/StringBuilder;" } : Jvm.MethodName)).before a0 Z = true := hw_at hw 123 rfl
theorem w124 (hw : HW a0 Z) : (Jvm.Cond.instanceMethod ({ cls := "java/lang/StringBuilder", name := "append", desc := "(C)Ljava/lang/StringBuilder;" } : Jvm.MethodName)).before a0 Z = true := hw_at hw 124 rfl
theorem w125 (hw : HW a0 Z) : (Jvm.Cond.selects "java/lang/StringBuilder" ({ cls := "java/lang/StringBuilder", name := "append", desc := "(C)Ljava/lang/StringBuilder;" } : Jvm.MethodName) ({ cls := "java/lang/StringBuilder", name := "append", desc := "(C)Ljava/lang/StringBuilder;" } : Jvm.MethodName)).before a0 Z = true := hw_at hw 125 rfl
theorem w126 (hw : HW a0 Z) : (Jvm.Cond.code ({ cls := "java/lang/StringBuilder", name := "append", desc := "(C)Ljava/lang/StringBuilder;" } : Jvm.MethodName) jdk_67_method_14_code (2 : Nat) (Option.some (Jvm.ClassFile.FieldType.object "java/lang/StringBuilder"))).before a0 Z = true := hw_at hw 126 rfl
theorem w127 (hw : HW a0 Z) : (Jvm.Cond.methodLink "java/lang/StringBuilder" (50 : Nat) ({ cls := "java/lang/AbstractStringBuilder", name := "append", desc := "(C)Ljava/lang/AbstractStringBuilder;" } : Jvm.MethodName)).before a0 Z = true := hw_at hw 127 rfl
theorem w128 (hw : HW a0 Z) : (Jvm.Cond.instanceMethod ({ cls := "java/lang/AbstractStringBuilder", name := "append", desc := "(C)Ljava/lang/AbstractStringBuilder;" } : Jvm.MethodName)).before a0 Z = true := hw_at hw 128 rfl
theorem w130 (hw : HW a0 Z) : (Jvm.Cond.code ({ cls := "java/lang/AbstractStringBuilder", name := "append", desc := "(C)Ljava/lang/AbstractStringBuilder;" } : Jvm.MethodName) jdk_68_method_31_code (2 : Nat) (Option.some (Jvm.ClassFile.FieldType.object "java/lang/AbstractStringBuilder"))).before a0 Z = true := hw_at hw 130 rfl
theorem w131 (hw : HW a0 Z) : (Jvm.Cond.methodLink "java/lang/AbstractStringBuilder" (83 : Nat) ({ cls := "java/lang/AbstractStringBuilder", name := "isLatin1", desc := "()Z" } : Jvm.MethodName)).before a0 Z = true := hw_at hw 131 rfl
theorem w132 (hw : HW a0 Z) : (Jvm.Cond.declares ({ cls := "java/lang/AbstractStringBuilder", name := "isLatin1", desc := "()Z" } : Jvm.MethodName)).before a0 Z = true := hw_at hw 132 rfl
theorem w133 (hw : HW a0 Z) : (Jvm.Cond.instanceMethod ({ cls := "java/lang/AbstractStringBuilder", name := "isLatin1", desc := "()Z" } : Jvm.MethodName)).before a0 Z = true := hw_at hw 133 rfl
theorem w134 (hw : HW a0 Z) : (Jvm.Cond.selects "java/lang/StringBuilder" ({ cls := "java/lang/AbstractStringBuilder", name := "isLatin1", desc := "()Z" } : Jvm.MethodName) ({ cls := "java/lang/AbstractStringBuilder", name := "isLatin1", desc := "()Z" } : Jvm.MethodName)).before a0 Z = true := hw_at hw 134 rfl
theorem w135 (hw : HW a0 Z) : (Jvm.Cond.code ({ cls := "java/lang/AbstractStringBuilder", name := "isLatin1", desc := "()Z" } : Jvm.MethodName) jdk_68_method_68_code (1 : Nat) (Option.some Jvm.ClassFile.FieldType.boolean)).before a0 Z = true := hw_at hw 135 rfl
theorem w136 (hw : HW a0 Z) : (Jvm.Cond.methodLink "java/lang/AbstractStringBuilder" (191 : Nat) ({ cls := "java/lang/StringLatin1", name := "canEncode", desc := "(C)Z" } : Jvm.MethodName)).before a0 Z = true := hw_at hw 136 rfl
theorem w137 (hw : HW a0 Z) : (Jvm.Cond.static ({ cls := "java/lang/StringLatin1", name := "canEncode", desc := "(C)Z" } : Jvm.MethodName)).before a0 Z = true := hw_at hw 137 rfl
theorem w138 (hw : HW a0 Z) : (Jvm.Cond.initialized "java/lang/StringLatin1").before a0 Z = true := hw_at hw 138 rfl
theorem w139 (hw : HW a0 Z) : (Jvm.Cond.code ({ cls := "java/lang/StringLatin1", name := "canEncode", desc := "(C)Z" } : Jvm.MethodName) jdk_43_method_3_code (1 : Nat) (Option.some Jvm.ClassFile.FieldType.boolean)).before a0 Z = true := hw_at hw 139 rfl
theorem w140 (hw : HW a0 Z) : (Jvm.Cond.methodLink "com/example/carve/carve/http/HtmlClosePinLaw" (28 : Nat) ({ cls := "com/example/carve/carve/http/Html", name := "toString", desc := "()Ljava/lang/String;" } : Jvm.MethodName)).before a0 Z = true := hw_at hw 140 rfl
theorem w141 (hw : HW a0 Z) : (Jvm.Cond.declares ({ cls := "com/example/carve/carve/http/Html", name := "toString", desc := "()Ljava/lang/String;" } : Jvm.MethodName)).before a0 Z = true := hw_at hw 141 rfl
theorem w142 (hw : HW a0 Z) : (Jvm.Cond.instanceMethod ({ cls := "com/example/carve/carve/http/Html", name := "toString", desc := "()Ljava/lang/String;" } : Jvm.MethodName)).before a0 Z = true := hw_at hw 142 rfl
theorem w143 (hw : HW a0 Z) : (Jvm.Cond.selects "com/example/carve/carve/http/Html" ({ cls := "com/example/carve/carve/http/Html", name := "toString", desc := "()Ljava/lang/String;" } : Jvm.MethodName) ({ cls := "com/example/carve/carve/http/Html", name := "toString", desc := "()Ljava/lang/String;" } : Jvm.MethodName)).before a0 Z = true := hw_at hw 143 rfl
theorem w144 (hw : HW a0 Z) : (Jvm.Cond.code ({ cls := "com/example/carve/carve/http/Html", name := "toString", desc := "()Ljava/lang/String;" } : Jvm.MethodName) prog_24_method_9_code (1 : Nat) (Option.some (Jvm.ClassFile.FieldType.object "java/lang/String"))).before a0 Z = true := hw_at hw 144 rfl
theorem w145 (hw : HW a0 Z) : (Jvm.Cond.methodLink "com/example/carve/carve/http/Html" (65 : Nat) ({ cls := "java/lang/StringBuilder", name := "toString", desc := "()Ljava/lang/String;" } : Jvm.MethodName)).before a0 Z = true := hw_at hw 145 rfl
theorem w146 (hw : HW a0 Z) : (Jvm.Cond.declares ({ cls := "java/lang/StringBuilder", name := "toString", desc := "()Ljava/lang/String;" } : Jvm.MethodName)).before a0 Z = true := hw_at hw 146 rfl
theorem w147 (hw : HW a0 Z) : (Jvm.Cond.instanceMethod ({ cls := "java/lang/StringBuilder", name := "toString", desc := "()Ljava/lang/String;" } : Jvm.MethodName)).before a0 Z = true := hw_at hw 147 rfl
theorem w148 (hw : HW a0 Z) : (Jvm.Cond.selects "java/lang/StringBuilder" ({ cls := "java/lang/StringBuilder", name := "toString", desc := "()Ljava/lang/String;" } : Jvm.MethodName) ({ cls := "java/lang/StringBuilder", name := "toString", desc := "()Ljava/lang/String;" } : Jvm.MethodName)).before a0 Z = true := hw_at hw 148 rfl
theorem w149 (hw : HW a0 Z) : (Jvm.Cond.code ({ cls := "java/lang/StringBuilder", name := "toString", desc := "()Ljava/lang/String;" } : Jvm.MethodName) jdk_67_method_42_code (1 : Nat) (Option.some (Jvm.ClassFile.FieldType.object "java/lang/String"))).before a0 Z = true := hw_at hw 149 rfl
theorem w150 (hw : HW a0 Z) : (Jvm.Cond.classLink "java/lang/StringBuilder" (18 : Nat) "java/lang/String").before a0 Z = true := hw_at hw 150 rfl
theorem w151 (hw : HW a0 Z) : (Jvm.Cond.methodLink "java/lang/StringBuilder" (137 : Nat) ({ cls := "java/lang/String", name := "<init>", desc := "(Ljava/lang/StringBuilder;)V" } : Jvm.MethodName)).before a0 Z = true := hw_at hw 151 rfl
theorem w152 (hw : HW a0 Z) : (Jvm.Cond.instanceMethod ({ cls := "java/lang/String", name := "<init>", desc := "(Ljava/lang/StringBuilder;)V" } : Jvm.MethodName)).before a0 Z = true := hw_at hw 152 rfl
theorem w153 (hw : HW a0 Z) : (Jvm.Cond.code ({ cls := "java/lang/String", name := "<init>", desc := "(Ljava/lang/StringBuilder;)V" } : Jvm.MethodName) jdk_42_method_53_code (2 : Nat) (Option.none : Option Jvm.ClassFile.FieldType)).before a0 Z = true := hw_at hw 153 rfl
theorem w154 (hw : HW a0 Z) : (Jvm.Cond.methodLink "java/lang/String" (489 : Nat) ({ cls := "java/lang/String", name := "<init>", desc := "(Ljava/lang/AbstractStringBuilder;Ljava/lang/Void;)V" } : Jvm.MethodName)).before a0 Z = true := hw_at hw 154 rfl
theorem w155 (hw : HW a0 Z) : (Jvm.Cond.instanceMethod ({ cls := "java/lang/String", name := "<init>", desc := "(Ljava/lang/AbstractStringBuilder;Ljava/lang/Void;)V" } : Jvm.MethodName)).before a0 Z = true := hw_at hw 155 rfl
theorem w156 (hw : HW a0 Z) : (Jvm.Cond.code ({ cls := "java/lang/String", name := "<init>", desc := "(Ljava/lang/AbstractStringBuilder;Ljava/lang/Void;)V" } : Jvm.MethodName) jdk_42_method_150_code (5 : Nat) (Option.none : Option Jvm.ClassFile.FieldType)).before a0 Z = true := hw_at hw 156 rfl
theorem w157 (hw : HW a0 Z) : (Jvm.Cond.methodLink "java/lang/String" (552 : Nat) ({ cls := "java/lang/AbstractStringBuilder", name := "getValue", desc := "()[B" } : Jvm.MethodName)).before a0 Z = true := hw_at hw 157 rfl
theorem w158 (hw : HW a0 Z) : (Jvm.Cond.declares ({ cls := "java/lang/AbstractStringBuilder", name := "getValue", desc := "()[B" } : Jvm.MethodName)).before a0 Z = true := hw_at hw 158 rfl
theorem w159 (hw : HW a0 Z) : (Jvm.Cond.instanceMethod ({ cls := "java/lang/AbstractStringBuilder", name := "getValue", desc := "()[B" } : Jvm.MethodName)).before a0 Z = true := hw_at hw 159 rfl
theorem w160 (hw : HW a0 Z) : (Jvm.Cond.selects "java/lang/StringBuilder" ({ cls := "java/lang/AbstractStringBuilder", name := "getValue", desc := "()[B" } : Jvm.MethodName) ({ cls := "java/lang/AbstractStringBuilder", name := "getValue", desc := "()[B" } : Jvm.MethodName)).before a0 Z = true := hw_at hw 160 rfl
theorem w161 (hw : HW a0 Z) : (Jvm.Cond.code ({ cls := "java/lang/AbstractStringBuilder", name := "getValue", desc := "()[B" } : Jvm.MethodName) jdk_68_method_64_code (1 : Nat) (Option.some (Jvm.ClassFile.FieldType.array Jvm.ClassFile.FieldType.byte))).before a0 Z = true := hw_at hw 161 rfl
theorem w162 (hw : HW a0 Z) : (Jvm.Cond.methodLink "java/lang/String" (549 : Nat) ({ cls := "java/lang/AbstractStringBuilder", name := "length", desc := "()I" } : Jvm.MethodName)).before a0 Z = true := hw_at hw 162 rfl
theorem w163 (hw : HW a0 Z) : (Jvm.Cond.declares ({ cls := "java/lang/AbstractStringBuilder", name := "length", desc := "()I" } : Jvm.MethodName)).before a0 Z = true := hw_at hw 163 rfl
theorem w164 (hw : HW a0 Z) : (Jvm.Cond.instanceMethod ({ cls := "java/lang/AbstractStringBuilder", name := "length", desc := "()I" } : Jvm.MethodName)).before a0 Z = true := hw_at hw 164 rfl
theorem w165 (hw : HW a0 Z) : (Jvm.Cond.selects "java/lang/StringBuilder" ({ cls := "java/lang/AbstractStringBuilder", name := "length", desc := "()I" } : Jvm.MethodName) ({ cls := "java/lang/StringBuilder", name := "length", desc := "()I" } : Jvm.MethodName)).before a0 Z = true := hw_at hw 165 rfl
theorem w166 (hw : HW a0 Z) : (Jvm.Cond.instanceMethod ({ cls := "java/lang/StringBuilder", name := "length", desc := "()I" } : Jvm.MethodName)).before a0 Z = true := hw_at hw 166 rfl
theorem w167 (hw : HW a0 Z) : (Jvm.Cond.code ({ cls := "java/lang/StringBuilder", name := "length", desc := "()I" } : Jvm.MethodName) jdk_67_method_93_code (1 : Nat) (Option.some Jvm.ClassFile.FieldType.int)).before a0 Z = true := hw_at hw 167 rfl
theorem w168 (hw : HW a0 Z) : (Jvm.Cond.methodLink "java/lang/StringBuilder" (343 : Nat) ({ cls := "java/lang/AbstractStringBuilder", name := "length", desc := "()I" } : Jvm.MethodName)).before a0 Z = true := hw_at hw 168 rfl
theorem w169 (hw : HW a0 Z) : (Jvm.Cond.code ({ cls := "java/lang/AbstractStringBuilder", name := "length", desc := "()I" } : Jvm.MethodName) jdk_68_method_6_code (1 : Nat) (Option.some Jvm.ClassFile.FieldType.int)).before a0 Z = true := hw_at hw 169 rfl
theorem w170 (hw : HW a0 Z) : (Jvm.Cond.methodLink "java/lang/String" (1047 : Nat) ({ cls := "java/lang/AbstractStringBuilder", name := "isLatin1", desc := "()Z" } : Jvm.MethodName)).before a0 Z = true := hw_at hw 170 rfl
theorem w171 (hw : HW a0 Z) : (Jvm.Cond.methodLink "java/lang/String" (54 : Nat) ({ cls := "java/util/Arrays", name := "copyOfRange", desc := "([BII)[B" } : Jvm.MethodName)).before a0 Z = true := hw_at hw 171 rfl
theorem w172 (hw : HW a0 Z) : (Jvm.Cond.static ({ cls := "java/util/Arrays", name := "copyOfRange", desc := "([BII)[B" } : Jvm.MethodName)).before a0 Z = true := hw_at hw 172 rfl
theorem w173 (hw : HW a0 Z) : (Jvm.Cond.initialized "java/util/Arrays").before a0 Z = true := hw_at hw 173 rfl
theorem w174 (hw : HW a0 Z) : (Jvm.Cond.code ({ cls := "java/util/Arrays", name := "copyOfRange", desc := "([BII)[B" } : Jvm.MethodName) jdk_65_method_132_code (3 : Nat) (Option.some (Jvm.ClassFile.FieldType.array Jvm.ClassFile.FieldType.byte))).before a0 Z = true := hw_at hw 174 rfl
theorem w175 (hw : HW a0 Z) : (Jvm.Cond.methodLink "java/util/Arrays" (339 : Nat) ({ cls := "java/util/Arrays", name := "copyOfRangeByte", desc := "([BII)[B" } : Jvm.MethodName)).before a0 Z = true := hw_at hw 175 rfl
theorem w176 (hw : HW a0 Z) : (Jvm.Cond.static ({ cls := "java/util/Arrays", name := "copyOfRangeByte", desc := "([BII)[B" } : Jvm.MethodName)).before a0 Z = true := hw_at hw 176 rfl
theorem w177 (hw : HW a0 Z) : (Jvm.Cond.code ({ cls := "java/util/Arrays", name := "copyOfRangeByte", desc := "([BII)[B" } : Jvm.MethodName) jdk_65_method_133_code (5 : Nat) (Option.some (Jvm.ClassFile.FieldType.array Jvm.ClassFile.FieldType.byte))).before a0 Z = true := hw_at hw 177 rfl
theorem w178 (hw : HW a0 Z) : (Jvm.Cond.methodLink "java/util/Arrays" (343 : Nat) ({ cls := "java/util/Arrays", name := "checkLength", desc := "(II)V" } : Jvm.MethodName)).before a0 Z = true := hw_at hw 178 rfl
theorem w179 (hw : HW a0 Z) : (Jvm.Cond.static ({ cls := "java/util/Arrays", name := "checkLength", desc := "(II)V" } : Jvm.MethodName)).before a0 Z = true := hw_at hw 179 rfl
theorem w180 (hw : HW a0 Z) : (Jvm.Cond.code ({ cls := "java/util/Arrays", name := "checkLength", desc := "(II)V" } : Jvm.MethodName) jdk_65_method_131_code (2 : Nat) (Option.none : Option Jvm.ClassFile.FieldType)).before a0 Z = true := hw_at hw 180 rfl
theorem w181 (hw : HW a0 Z) : (Jvm.Cond.methodLink "java/util/Arrays" (304 : Nat) ({ cls := "java/lang/Math", name := "min", desc := "(II)I" } : Jvm.MethodName)).before a0 Z = true := hw_at hw 181 rfl
theorem w182 (hw : HW a0 Z) : (Jvm.Cond.static ({ cls := "java/lang/Math", name := "min", desc := "(II)I" } : Jvm.MethodName)).before a0 Z = true := hw_at hw 182 rfl
theorem w183 (hw : HW a0 Z) : (Jvm.Cond.initialized "java/lang/Math").before a0 Z = true := hw_at hw 183 rfl
theorem w184 (hw : HW a0 Z) : (Jvm.Cond.code ({ cls := "java/lang/Math", name := "min", desc := "(II)I" } : Jvm.MethodName) jdk_29_method_69_code (2 : Nat) (Option.some Jvm.ClassFile.FieldType.int)).before a0 Z = true := hw_at hw 184 rfl
theorem w185 (hw : HW a0 Z) : (Jvm.Cond.methodLink "java/util/Arrays" (150 : Nat) ({ cls := "java/lang/System", name := "arraycopy", desc := "(Ljava/lang/Object;ILjava/lang/Object;II)V" } : Jvm.MethodName)).before a0 Z = true := hw_at hw 185 rfl
theorem w186 (hw : HW a0 Z) : (Jvm.Cond.methodLink "com/example/carve/carve/http/HtmlClosePinLaw" (32 : Nat) ({ cls := "java/lang/String", name := "length", desc := "()I" } : Jvm.MethodName)).before a0 Z = true := hw_at hw 186 rfl
theorem w187 (hw : HW a0 Z) : (Jvm.Cond.methodLink "com/example/carve/carve/http/HtmlClosePinLaw" (36 : Nat) ({ cls := "java/lang/String", name := "charAt", desc := "(I)C" } : Jvm.MethodName)).before a0 Z = true := hw_at hw 187 rfl
theorem w188 (hw : HW a0 Z) : (Jvm.Cond.declares ({ cls := "java/lang/String", name := "charAt", desc := "(I)C" } : Jvm.MethodName)).before a0 Z = true := hw_at hw 188 rfl
theorem w189 (hw : HW a0 Z) : (Jvm.Cond.instanceMethod ({ cls := "java/lang/String", name := "charAt", desc := "(I)C" } : Jvm.MethodName)).before a0 Z = true := hw_at hw 189 rfl
theorem w190 (hw : HW a0 Z) : (Jvm.Cond.selects "java/lang/String" ({ cls := "java/lang/String", name := "charAt", desc := "(I)C" } : Jvm.MethodName) ({ cls := "java/lang/String", name := "charAt", desc := "(I)C" } : Jvm.MethodName)).before a0 Z = true := hw_at hw 190 rfl
theorem w191 (hw : HW a0 Z) : (Jvm.Cond.code ({ cls := "java/lang/String", name := "charAt", desc := "(I)C" } : Jvm.MethodName) jdk_42_method_56_code (2 : Nat) (Option.some Jvm.ClassFile.FieldType.char)).before a0 Z = true := hw_at hw 191 rfl
theorem w192 (hw : HW a0 Z) : (Jvm.Cond.methodLink "java/lang/String" (492 : Nat) ({ cls := "java/lang/String", name := "isLatin1", desc := "()Z" } : Jvm.MethodName)).before a0 Z = true := hw_at hw 192 rfl
theorem w193 (hw : HW a0 Z) : (Jvm.Cond.declares ({ cls := "java/lang/String", name := "isLatin1", desc := "()Z" } : Jvm.MethodName)).before a0 Z = true := hw_at hw 193 rfl
theorem w194 (hw : HW a0 Z) : (Jvm.Cond.instanceMethod ({ cls := "java/lang/String", name := "isLatin1", desc := "()Z" } : Jvm.MethodName)).before a0 Z = true := hw_at hw 194 rfl
theorem w195 (hw : HW a0 Z) : (Jvm.Cond.selects "java/lang/String" ({ cls := "java/lang/String", name := "isLatin1", desc := "()Z" } : Jvm.MethodName) ({ cls := "java/lang/String", name := "isLatin1", desc := "()Z" } : Jvm.MethodName)).before a0 Z = true := hw_at hw 195 rfl
theorem w196 (hw : HW a0 Z) : (Jvm.Cond.code ({ cls := "java/lang/String", name := "isLatin1", desc := "()Z" } : Jvm.MethodName) jdk_42_method_154_code (1 : Nat) (Option.some Jvm.ClassFile.FieldType.boolean)).before a0 Z = true := hw_at hw 196 rfl
theorem w197 (hw : HW a0 Z) : (Jvm.Cond.methodLink "java/lang/String" (495 : Nat) ({ cls := "java/lang/StringLatin1", name := "charAt", desc := "([BI)C" } : Jvm.MethodName)).before a0 Z = true := hw_at hw 197 rfl
theorem w198 (hw : HW a0 Z) : (Jvm.Cond.static ({ cls := "java/lang/StringLatin1", name := "charAt", desc := "([BI)C" } : Jvm.MethodName)).before a0 Z = true := hw_at hw 198 rfl
theorem w199 (hw : HW a0 Z) : (Jvm.Cond.code ({ cls := "java/lang/StringLatin1", name := "charAt", desc := "([BI)C" } : Jvm.MethodName) jdk_43_method_2_code (2 : Nat) (Option.some Jvm.ClassFile.FieldType.char)).before a0 Z = true := hw_at hw 199 rfl
theorem w200 (hw : HW a0 Z) : (Jvm.Cond.methodLink "java/lang/StringLatin1" (9 : Nat) ({ cls := "java/lang/String", name := "checkIndex", desc := "(II)V" } : Jvm.MethodName)).before a0 Z = true := hw_at hw 200 rfl
theorem w201 (hw : HW a0 Z) : (Jvm.Cond.static ({ cls := "java/lang/String", name := "checkIndex", desc := "(II)V" } : Jvm.MethodName)).before a0 Z = true := hw_at hw 201 rfl
theorem w202 (hw : HW a0 Z) : (Jvm.Cond.code ({ cls := "java/lang/String", name := "checkIndex", desc := "(II)V" } : Jvm.MethodName) jdk_42_method_155_code (2 : Nat) (Option.none : Option Jvm.ClassFile.FieldType)).before a0 Z = true := hw_at hw 202 rfl
theorem w203 (hw : HW a0 Z) : (Jvm.Cond.fieldLink "java/lang/String" (1053 : Nat) "jdk/internal/util/Preconditions" "SIOOBE_FORMATTER" "Ljava/util/function/BiFunction;").before a0 Z = true := hw_at hw 203 rfl
theorem w204 (hw : HW a0 Z) : (Jvm.Cond.initialized "jdk/internal/util/Preconditions").before a0 Z = true := hw_at hw 204 rfl
theorem w205 (hw : HW a0 Z) : (Jvm.Cond.methodLink "java/lang/String" (1059 : Nat) ({ cls := "jdk/internal/util/Preconditions", name := "checkIndex", desc := "(IILjava/util/function/BiFunction;)I" } : Jvm.MethodName)).before a0 Z = true := hw_at hw 205 rfl
theorem w206 (hw : HW a0 Z) : (Jvm.Cond.static ({ cls := "jdk/internal/util/Preconditions", name := "checkIndex", desc := "(IILjava/util/function/BiFunction;)I" } : Jvm.MethodName)).before a0 Z = true := hw_at hw 206 rfl
theorem w207 (hw : HW a0 Z) : (Jvm.Cond.code ({ cls := "jdk/internal/util/Preconditions", name := "checkIndex", desc := "(IILjava/util/function/BiFunction;)I" } : Jvm.MethodName) jdk_41_method_11_code (3 : Nat) (Option.some Jvm.ClassFile.FieldType.int)).before a0 Z = true := hw_at hw 207 rfl
theorem w208 (hw : HW a0 Z) : (Jvm.Cond.methodLink "java/lang/StringUTF16" (119 : Nat) ({ cls := "java/lang/StringUTF16", name := "toBytes", desc := "([CII)[B" } : Jvm.MethodName)).before a0 Z = true := hw_at hw 208 rfl
theorem w209 (hw : HW a0 Z) : (Jvm.Cond.static ({ cls := "java/lang/StringUTF16", name := "toBytes", desc := "([CII)[B" } : Jvm.MethodName)).before a0 Z = true := hw_at hw 209 rfl
theorem w210 (hw : HW a0 Z) : (Jvm.Cond.code ({ cls := "java/lang/StringUTF16", name := "toBytes", desc := "([CII)[B" } : Jvm.MethodName) jdk_52_method_14_code (5 : Nat) (Option.some (Jvm.ClassFile.FieldType.array Jvm.ClassFile.FieldType.byte))).before a0 Z = true := hw_at hw 210 rfl
theorem w211 (hw : HW a0 Z) : (Jvm.Cond.methodLink "java/lang/StringUTF16" (107 : Nat) ({ cls := "java/lang/StringUTF16", name := "newBytesFor", desc := "(I)[B" } : Jvm.MethodName)).before a0 Z = true := hw_at hw 211 rfl
theorem w212 (hw : HW a0 Z) : (Jvm.Cond.static ({ cls := "java/lang/StringUTF16", name := "newBytesFor", desc := "(I)[B" } : Jvm.MethodName)).before a0 Z = true := hw_at hw 212 rfl
theorem w213 (hw : HW a0 Z) : (Jvm.Cond.code ({ cls := "java/lang/StringUTF16", name := "newBytesFor", desc := "(I)[B" } : Jvm.MethodName) jdk_52_method_2_code (1 : Nat) (Option.some (Jvm.ClassFile.FieldType.array Jvm.ClassFile.FieldType.byte))).before a0 Z = true := hw_at hw 213 rfl
theorem w214 (hw : HW a0 Z) : (Jvm.Cond.methodLink "java/lang/StringUTF16" (11 : Nat) ({ cls := "java/lang/StringUTF16", name := "newBytesLength", desc := "(I)I" } : Jvm.MethodName)).before a0 Z = true := hw_at hw 214 rfl
theorem w215 (hw : HW a0 Z) : (Jvm.Cond.static ({ cls := "java/lang/StringUTF16", name := "newBytesLength", desc := "(I)I" } : Jvm.MethodName)).before a0 Z = true := hw_at hw 215 rfl
theorem w216 (hw : HW a0 Z) : (Jvm.Cond.code ({ cls := "java/lang/StringUTF16", name := "newBytesLength", desc := "(I)I" } : Jvm.MethodName) jdk_52_method_3_code (1 : Nat) (Option.some Jvm.ClassFile.FieldType.int)).before a0 Z = true := hw_at hw 216 rfl
theorem w217 (hw : HW a0 Z) : (Jvm.Cond.constant "java/lang/StringUTF16" (20 : Nat) (1073741823 : Int32)).before a0 Z = true := hw_at hw 217 rfl
theorem w218 (hw : HW a0 Z) : (Jvm.Cond.methodLink "java/lang/StringUTF16" (111 : Nat) ({ cls := "java/lang/StringUTF16", name := "putChar", desc := "([BII)V" } : Jvm.MethodName)).before a0 Z = true := hw_at hw 218 rfl
theorem w219 (hw : HW a0 Z) : (Jvm.Cond.static ({ cls := "java/lang/StringUTF16", name := "putChar", desc := "([BII)V" } : Jvm.MethodName)).before a0 Z = true := hw_at hw 219 rfl
theorem w220 (hw : HW a0 Z) : (Jvm.Cond.code ({ cls := "java/lang/StringUTF16", name := "putChar", desc := "([BII)V" } : Jvm.MethodName) jdk_52_method_4_code (3 : Nat) (Option.none : Option Jvm.ClassFile.FieldType)).before a0 Z = true := hw_at hw 220 rfl
theorem w221 (hw : HW a0 Z) : (Jvm.Cond.fieldLink "java/lang/StringUTF16" (44 : Nat) "java/lang/StringUTF16" "$assertionsDisabled" "Z").before a0 Z = true := hw_at hw 221 rfl
theorem w222 (hw : HW a0 Z) : (Jvm.Cond.fieldLink "java/lang/StringUTF16" (59 : Nat) "java/lang/StringUTF16" "HI_BYTE_SHIFT" "I").before a0 Z = true := hw_at hw 222 rfl
theorem w223 (hw : HW a0 Z) : (Jvm.Cond.fieldLink "java/lang/StringUTF16" (63 : Nat) "java/lang/StringUTF16" "LO_BYTE_SHIFT" "I").before a0 Z = true := hw_at hw 223 rfl
theorem w224 (hw : HW a0 Z) : (Jvm.Cond.methodLink "java/lang/StringUTF16" (71 : Nat) ({ cls := "java/lang/StringUTF16", name := "getChar", desc := "([BI)C" } : Jvm.MethodName)).before a0 Z = true := hw_at hw 224 rfl
theorem w225 (hw : HW a0 Z) : (Jvm.Cond.static ({ cls := "java/lang/StringUTF16", name := "getChar", desc := "([BI)C" } : Jvm.MethodName)).before a0 Z = true := hw_at hw 225 rfl
theorem w226 (hw : HW a0 Z) : (Jvm.Cond.code ({ cls := "java/lang/StringUTF16", name := "getChar", desc := "([BI)C" } : Jvm.MethodName) jdk_52_method_5_code (2 : Nat) (Option.some Jvm.ClassFile.FieldType.char)).before a0 Z = true := hw_at hw 226 rfl
theorem w227 (hw : HW a0 Z) : (Jvm.Cond.methodLink "java/lang/AbstractStringBuilder" (195 : Nat) ({ cls := "java/lang/AbstractStringBuilder", name := "inflate", desc := "()V" } : Jvm.MethodName)).before a0 Z = true := hw_at hw 227 rfl
theorem w228 (hw : HW a0 Z) : (Jvm.Cond.instanceMethod ({ cls := "java/lang/AbstractStringBuilder", name := "inflate", desc := "()V" } : Jvm.MethodName)).before a0 Z = true := hw_at hw 228 rfl
theorem w229 (hw : HW a0 Z) : (Jvm.Cond.privateMethod ({ cls := "java/lang/AbstractStringBuilder", name := "inflate", desc := "()V" } : Jvm.MethodName)).before a0 Z = true := hw_at hw 229 rfl
theorem w230 (hw : HW a0 Z) : (Jvm.Cond.selects "java/lang/StringBuilder" ({ cls := "java/lang/AbstractStringBuilder", name := "inflate", desc := "()V" } : Jvm.MethodName) ({ cls := "java/lang/AbstractStringBuilder", name := "inflate", desc := "()V" } : Jvm.MethodName)).before a0 Z = true := hw_at hw 230 rfl
theorem w231 (hw : HW a0 Z) : (Jvm.Cond.code ({ cls := "java/lang/AbstractStringBuilder", name := "inflate", desc := "()V" } : Jvm.MethodName) jdk_68_method_11_code (2 : Nat) (Option.none : Option Jvm.ClassFile.FieldType)).before a0 Z = true := hw_at hw 231 rfl
theorem w232 (hw : HW a0 Z) : (Jvm.Cond.methodLink "java/lang/AbstractStringBuilder" (26 : Nat) ({ cls := "java/lang/StringUTF16", name := "newBytesFor", desc := "(I)[B" } : Jvm.MethodName)).before a0 Z = true := hw_at hw 232 rfl
theorem w233 (hw : HW a0 Z) : (Jvm.Cond.methodLink "java/lang/AbstractStringBuilder" (125 : Nat) ({ cls := "java/lang/StringLatin1", name := "inflate", desc := "([BI[BII)V" } : Jvm.MethodName)).before a0 Z = true := hw_at hw 233 rfl
theorem w234 (hw : HW a0 Z) : (Jvm.Cond.static ({ cls := "java/lang/StringLatin1", name := "inflate", desc := "([BI[BII)V" } : Jvm.MethodName)).before a0 Z = true := hw_at hw 234 rfl
theorem w235 (hw : HW a0 Z) : (Jvm.Cond.code ({ cls := "java/lang/StringLatin1", name := "inflate", desc := "([BI[BII)V" } : Jvm.MethodName) jdk_43_method_50_code (5 : Nat) (Option.none : Option Jvm.ClassFile.FieldType)).before a0 Z = true := hw_at hw 235 rfl
theorem w236 (hw : HW a0 Z) : (Jvm.Cond.methodLink "java/lang/StringLatin1" (240 : Nat) ({ cls := "java/lang/StringUTF16", name := "inflate", desc := "([BI[BII)V" } : Jvm.MethodName)).before a0 Z = true := hw_at hw 236 rfl
theorem w237 (hw : HW a0 Z) : (Jvm.Cond.static ({ cls := "java/lang/StringUTF16", name := "inflate", desc := "([BI[BII)V" } : Jvm.MethodName)).before a0 Z = true := hw_at hw 237 rfl
theorem w238 (hw : HW a0 Z) : (Jvm.Cond.code ({ cls := "java/lang/StringUTF16", name := "inflate", desc := "([BI[BII)V" } : Jvm.MethodName) jdk_52_method_86_code (6 : Nat) (Option.none : Option Jvm.ClassFile.FieldType)).before a0 Z = true := hw_at hw 238 rfl
theorem w239 (hw : HW a0 Z) : (Jvm.Cond.methodLink "java/lang/StringUTF16" (173 : Nat) ({ cls := "java/lang/StringUTF16", name := "checkBoundsOffCount", desc := "(II[B)V" } : Jvm.MethodName)).before a0 Z = true := hw_at hw 239 rfl
theorem w240 (hw : HW a0 Z) : (Jvm.Cond.static ({ cls := "java/lang/StringUTF16", name := "checkBoundsOffCount", desc := "(II[B)V" } : Jvm.MethodName)).before a0 Z = true := hw_at hw 240 rfl
theorem w241 (hw : HW a0 Z) : (Jvm.Cond.code ({ cls := "java/lang/StringUTF16", name := "checkBoundsOffCount", desc := "(II[B)V" } : Jvm.MethodName) jdk_52_method_94_code (3 : Nat) (Option.none : Option Jvm.ClassFile.FieldType)).before a0 Z = true := hw_at hw 241 rfl
theorem w242 (hw : HW a0 Z) : (Jvm.Cond.methodLink "java/lang/StringUTF16" (48 : Nat) ({ cls := "java/lang/StringUTF16", name := "length", desc := "([B)I" } : Jvm.MethodName)).before a0 Z = true := hw_at hw 242 rfl
theorem w243 (hw : HW a0 Z) : (Jvm.Cond.static ({ cls := "java/lang/StringUTF16", name := "length", desc := "([B)I" } : Jvm.MethodName)).before a0 Z = true := hw_at hw 243 rfl
theorem w244 (hw : HW a0 Z) : (Jvm.Cond.code ({ cls := "java/lang/StringUTF16", name := "length", desc := "([B)I" } : Jvm.MethodName) jdk_52_method_6_code (1 : Nat) (Option.some Jvm.ClassFile.FieldType.int)).before a0 Z = true := hw_at hw 244 rfl
theorem w245 (hw : HW a0 Z) : (Jvm.Cond.methodLink "java/lang/StringUTF16" (419 : Nat) ({ cls := "java/lang/String", name := "checkBoundsOffCount", desc := "(III)I" } : Jvm.MethodName)).before a0 Z = true := hw_at hw 245 rfl
theorem w246 (hw : HW a0 Z) : (Jvm.Cond.static ({ cls := "java/lang/String", name := "checkBoundsOffCount", desc := "(III)I" } : Jvm.MethodName)).before a0 Z = true := hw_at hw 246 rfl
theorem w247 (hw : HW a0 Z) : (Jvm.Cond.code ({ cls := "java/lang/String", name := "checkBoundsOffCount", desc := "(III)I" } : Jvm.MethodName) jdk_42_method_157_code (3 : Nat) (Option.some Jvm.ClassFile.FieldType.int)).before a0 Z = true := hw_at hw 247 rfl
theorem w248 (hw : HW a0 Z) : (Jvm.Cond.methodLink "java/lang/String" (1065 : Nat) ({ cls := "jdk/internal/util/Preconditions", name := "checkFromIndexSize", desc := "(IIILjava/util/function/BiFunction;)I" } : Jvm.MethodName)).before a0 Z = true := hw_at hw 248 rfl
theorem w249 (hw : HW a0 Z) : (Jvm.Cond.static ({ cls := "jdk/internal/util/Preconditions", name := "checkFromIndexSize", desc := "(IIILjava/util/function/BiFunction;)I" } : Jvm.MethodName)).before a0 Z = true := hw_at hw 249 rfl
theorem w250 (hw : HW a0 Z) : (Jvm.Cond.code ({ cls := "jdk/internal/util/Preconditions", name := "checkFromIndexSize", desc := "(IIILjava/util/function/BiFunction;)I" } : Jvm.MethodName) jdk_41_method_13_code (4 : Nat) (Option.some Jvm.ClassFile.FieldType.int)).before a0 Z = true := hw_at hw 250 rfl
theorem w251 (hw : HW a0 Z) : (Jvm.Cond.methodLink "java/lang/AbstractStringBuilder" (197 : Nat) ({ cls := "java/lang/StringUTF16", name := "putCharSB", desc := "([BII)V" } : Jvm.MethodName)).before a0 Z = true := hw_at hw 251 rfl
theorem w252 (hw : HW a0 Z) : (Jvm.Cond.static ({ cls := "java/lang/StringUTF16", name := "putCharSB", desc := "([BII)V" } : Jvm.MethodName)).before a0 Z = true := hw_at hw 252 rfl
theorem w253 (hw : HW a0 Z) : (Jvm.Cond.code ({ cls := "java/lang/StringUTF16", name := "putCharSB", desc := "([BII)V" } : Jvm.MethodName) jdk_52_method_71_code (3 : Nat) (Option.none : Option Jvm.ClassFile.FieldType)).before a0 Z = true := hw_at hw 253 rfl
theorem w254 (hw : HW a0 Z) : (Jvm.Cond.methodLink "java/lang/StringUTF16" (67 : Nat) ({ cls := "java/lang/StringUTF16", name := "checkIndex", desc := "(I[B)V" } : Jvm.MethodName)).before a0 Z = true := hw_at hw 254 rfl
theorem w255 (hw : HW a0 Z) : (Jvm.Cond.static ({ cls := "java/lang/StringUTF16", name := "checkIndex", desc := "(I[B)V" } : Jvm.MethodName)).before a0 Z = true := hw_at hw 255 rfl
theorem w256 (hw : HW a0 Z) : (Jvm.Cond.code ({ cls := "java/lang/StringUTF16", name := "checkIndex", desc := "(I[B)V" } : Jvm.MethodName) jdk_52_method_91_code (2 : Nat) (Option.none : Option Jvm.ClassFile.FieldType)).before a0 Z = true := hw_at hw 256 rfl
theorem w257 (hw : HW a0 Z) : (Jvm.Cond.methodLink "java/lang/StringUTF16" (414 : Nat) ({ cls := "java/lang/String", name := "checkIndex", desc := "(II)V" } : Jvm.MethodName)).before a0 Z = true := hw_at hw 257 rfl
theorem w258 (hw : HW a0 Z) : (Jvm.Cond.fieldLink "java/lang/String" (1048 : Nat) "java/lang/AbstractStringBuilder" "maybeLatin1" "Z").before a0 Z = true := hw_at hw 258 rfl
theorem w259 (hw : HW a0 Z) : (Jvm.Cond.lays "java/lang/StringBuilder" "java/lang/AbstractStringBuilder" "maybeLatin1" "Z").before a0 Z = true := hw_at hw 259 rfl
theorem w260 (hw : HW a0 Z) : (Jvm.Cond.methodLink "java/lang/String" (498 : Nat) ({ cls := "java/lang/StringUTF16", name := "charAt", desc := "([BI)C" } : Jvm.MethodName)).before a0 Z = true := hw_at hw 260 rfl
theorem w261 (hw : HW a0 Z) : (Jvm.Cond.static ({ cls := "java/lang/StringUTF16", name := "charAt", desc := "([BI)C" } : Jvm.MethodName)).before a0 Z = true := hw_at hw 261 rfl
theorem w262 (hw : HW a0 Z) : (Jvm.Cond.code ({ cls := "java/lang/StringUTF16", name := "charAt", desc := "([BI)C" } : Jvm.MethodName) jdk_52_method_83_code (2 : Nat) (Option.some Jvm.ClassFile.FieldType.char)).before a0 Z = true := hw_at hw 262 rfl
abbrev B0 : ByteArray := method_2_code
abbrev B1 : ByteArray := jdk_42_method_3_code
abbrev B2 : ByteArray := jdk_42_method_149_code
abbrev B4 : ByteArray := jdk_52_method_16_code
abbrev B5 : ByteArray := jdk_52_method_21_code
abbrev B6 : ByteArray := jdk_52_method_15_code
abbrev B7 : ByteArray := prog_24_method_1_code
abbrev B8 : ByteArray := jdk_67_method_1_code
abbrev B9 : ByteArray := jdk_68_method_2_code
abbrev B10 : ByteArray := prog_24_method_6_code
abbrev B11 : ByteArray := jdk_67_method_7_code
abbrev B12 : ByteArray := jdk_68_method_22_code
abbrev B13 : ByteArray := jdk_42_method_54_code
abbrev B14 : ByteArray := jdk_42_method_152_code
abbrev B15 : ByteArray := jdk_68_method_9_code
abbrev B16 : ByteArray := jdk_68_method_73_code
abbrev B17 : ByteArray := jdk_68_method_71_code
abbrev B18 : ByteArray := jdk_42_method_147_code
abbrev B19 : ByteArray := prog_24_method_3_code
abbrev B20 : ByteArray := jdk_67_method_14_code
abbrev B21 : ByteArray := jdk_68_method_31_code
abbrev B22 : ByteArray := jdk_68_method_68_code
abbrev B23 : ByteArray := jdk_43_method_3_code
abbrev B24 : ByteArray := prog_24_method_9_code
abbrev B25 : ByteArray := jdk_67_method_42_code
abbrev B26 : ByteArray := jdk_42_method_53_code
abbrev B27 : ByteArray := jdk_42_method_150_code
abbrev B28 : ByteArray := jdk_68_method_64_code
abbrev B29 : ByteArray := jdk_67_method_93_code
abbrev B30 : ByteArray := jdk_68_method_6_code
abbrev B31 : ByteArray := jdk_65_method_132_code
abbrev B32 : ByteArray := jdk_65_method_133_code
abbrev B33 : ByteArray := jdk_65_method_131_code
abbrev B34 : ByteArray := jdk_29_method_69_code
abbrev B35 : ByteArray := jdk_42_method_56_code
abbrev B36 : ByteArray := jdk_42_method_154_code
abbrev B37 : ByteArray := jdk_43_method_2_code
abbrev B38 : ByteArray := jdk_42_method_155_code
abbrev B39 : ByteArray := jdk_41_method_11_code
abbrev B40 : ByteArray := jdk_52_method_14_code
abbrev B41 : ByteArray := jdk_52_method_2_code
abbrev B42 : ByteArray := jdk_52_method_3_code
abbrev B43 : ByteArray := jdk_52_method_4_code
abbrev B44 : ByteArray := jdk_52_method_5_code
abbrev B45 : ByteArray := jdk_68_method_11_code
abbrev B46 : ByteArray := jdk_43_method_50_code
abbrev B47 : ByteArray := jdk_52_method_86_code
abbrev B48 : ByteArray := jdk_52_method_94_code
abbrev B49 : ByteArray := jdk_52_method_6_code
abbrev B50 : ByteArray := jdk_42_method_157_code
abbrev B51 : ByteArray := jdk_41_method_13_code
abbrev B52 : ByteArray := jdk_52_method_71_code
abbrev B53 : ByteArray := jdk_52_method_91_code
abbrev B54 : ByteArray := jdk_52_method_83_code
theorem d0_0 : decode B0 0 = .ok (.iload_n 0, 1) := by decide +kernel
theorem d0_1 : decode B0 1 = .ok (.ifCond .ne 14, 3) := by decide +kernel
theorem d0_4 : decode B0 4 = .ok (.new 7, 3) := by decide +kernel
theorem d0_7 : decode B0 7 = .ok (.dup, 1) := by decide +kernel
theorem d0_8 : decode B0 8 = .ok (.iconst 0, 1) := by decide +kernel
theorem d0_9 : decode B0 9 = .ok (.newarray .char, 2) := by decide +kernel
theorem d0_11 : decode B0 11 = .ok (.invokespecial 9, 3) := by decide +kernel
theorem d0_14 : decode B0 14 = .ok (.areturn, 1) := by decide +kernel
theorem d0_15 : decode B0 15 = .ok (.iload_n 0, 1) := by decide +kernel
theorem d0_16 : decode B0 16 = .ok (.iconst 1, 1) := by decide +kernel
theorem d0_17 : decode B0 17 = .ok (.if_icmp .ne 18, 3) := by decide +kernel
theorem d0_20 : decode B0 20 = .ok (.new 7, 3) := by decide +kernel
theorem d0_23 : decode B0 23 = .ok (.dup, 1) := by decide +kernel
theorem d0_24 : decode B0 24 = .ok (.iconst 1, 1) := by decide +kernel
theorem d0_25 : decode B0 25 = .ok (.newarray .char, 2) := by decide +kernel
theorem d0_27 : decode B0 27 = .ok (.dup, 1) := by decide +kernel
theorem d0_28 : decode B0 28 = .ok (.iconst 0, 1) := by decide +kernel
theorem d0_29 : decode B0 29 = .ok (.iload_n 1, 1) := by decide +kernel
theorem d0_30 : decode B0 30 = .ok (.castore, 1) := by decide +kernel
theorem d0_31 : decode B0 31 = .ok (.invokespecial 9, 3) := by decide +kernel
theorem d0_34 : decode B0 34 = .ok (.areturn, 1) := by decide +kernel
theorem d0_35 : decode B0 35 = .ok (.iload_n 0, 1) := by decide +kernel
theorem d0_36 : decode B0 36 = .ok (.iconst 2, 1) := by decide +kernel
theorem d0_37 : decode B0 37 = .ok (.if_icmp .ne 22, 3) := by decide +kernel
theorem d0_40 : decode B0 40 = .ok (.new 7, 3) := by decide +kernel
theorem d0_43 : decode B0 43 = .ok (.dup, 1) := by decide +kernel
theorem d0_44 : decode B0 44 = .ok (.iconst 2, 1) := by decide +kernel
theorem d0_45 : decode B0 45 = .ok (.newarray .char, 2) := by decide +kernel
theorem d0_47 : decode B0 47 = .ok (.dup, 1) := by decide +kernel
theorem d0_48 : decode B0 48 = .ok (.iconst 0, 1) := by decide +kernel
theorem d0_49 : decode B0 49 = .ok (.iload_n 1, 1) := by decide +kernel
theorem d0_50 : decode B0 50 = .ok (.castore, 1) := by decide +kernel
theorem d0_51 : decode B0 51 = .ok (.dup, 1) := by decide +kernel
theorem d0_52 : decode B0 52 = .ok (.iconst 1, 1) := by decide +kernel
theorem d0_53 : decode B0 53 = .ok (.iload_n 2, 1) := by decide +kernel
theorem d0_54 : decode B0 54 = .ok (.castore, 1) := by decide +kernel
theorem d0_55 : decode B0 55 = .ok (.invokespecial 9, 3) := by decide +kernel
theorem d0_58 : decode B0 58 = .ok (.areturn, 1) := by decide +kernel
theorem d0_59 : decode B0 59 = .ok (.new 7, 3) := by decide +kernel
theorem d0_62 : decode B0 62 = .ok (.dup, 1) := by decide +kernel
theorem d0_63 : decode B0 63 = .ok (.iconst 3, 1) := by decide +kernel
theorem d0_64 : decode B0 64 = .ok (.newarray .char, 2) := by decide +kernel
theorem d0_66 : decode B0 66 = .ok (.dup, 1) := by decide +kernel
theorem d0_67 : decode B0 67 = .ok (.iconst 0, 1) := by decide +kernel
theorem d0_68 : decode B0 68 = .ok (.iload_n 1, 1) := by decide +kernel
theorem d0_69 : decode B0 69 = .ok (.castore, 1) := by decide +kernel
theorem d0_70 : decode B0 70 = .ok (.dup, 1) := by decide +kernel
theorem d0_71 : decode B0 71 = .ok (.iconst 1, 1) := by decide +kernel
theorem d0_72 : decode B0 72 = .ok (.iload_n 2, 1) := by decide +kernel
theorem d0_73 : decode B0 73 = .ok (.castore, 1) := by decide +kernel
theorem d0_74 : decode B0 74 = .ok (.dup, 1) := by decide +kernel
theorem d0_75 : decode B0 75 = .ok (.iconst 2, 1) := by decide +kernel
theorem d0_76 : decode B0 76 = .ok (.iload_n 3, 1) := by decide +kernel
theorem d0_77 : decode B0 77 = .ok (.castore, 1) := by decide +kernel
theorem d0_78 : decode B0 78 = .ok (.invokespecial 9, 3) := by decide +kernel
theorem d0_81 : decode B0 81 = .ok (.areturn, 1) := by decide +kernel
theorem d1_0 : decode B1 0 = .ok (.aload_n 0, 1) := by decide +kernel
theorem d1_1 : decode B1 1 = .ok (.aload_n 1, 1) := by decide +kernel
theorem d1_2 : decode B1 2 = .ok (.iconst 0, 1) := by decide +kernel
theorem d1_3 : decode B1 3 = .ok (.aload_n 1, 1) := by decide +kernel
theorem d1_4 : decode B1 4 = .ok (.arraylength, 1) := by decide +kernel
theorem d1_5 : decode B1 5 = .ok (.aconst_null, 1) := by decide +kernel
theorem d1_6 : decode B1 6 = .ok (.invokespecial 27, 3) := by decide +kernel
theorem d1_9 : decode B1 9 = .ok (.return_, 1) := by decide +kernel
theorem d2_0 : decode B2 0 = .ok (.aload_n 0, 1) := by decide +kernel
theorem d2_1 : decode B2 1 = .ok (.invokespecial 1, 3) := by decide +kernel
theorem d2_4 : decode B2 4 = .ok (.iload_n 3, 1) := by decide +kernel
theorem d2_5 : decode B2 5 = .ok (.ifCond .ne 22, 3) := by decide +kernel
theorem d2_8 : decode B2 8 = .ok (.aload_n 0, 1) := by decide +kernel
theorem d2_9 : decode B2 9 = .ok (.ldc 7, 2) := by decide +kernel
theorem d2_11 : decode B2 11 = .ok (.getfield 9, 3) := by decide +kernel
theorem d2_14 : decode B2 14 = .ok (.putfield 9, 3) := by decide +kernel
theorem d2_17 : decode B2 17 = .ok (.aload_n 0, 1) := by decide +kernel
theorem d2_18 : decode B2 18 = .ok (.ldc 7, 2) := by decide +kernel
theorem d2_20 : decode B2 20 = .ok (.getfield 15, 3) := by decide +kernel
theorem d2_23 : decode B2 23 = .ok (.putfield 15, 3) := by decide +kernel
theorem d2_26 : decode B2 26 = .ok (.return_, 1) := by decide +kernel
theorem d2_27 : decode B2 27 = .ok (.getstatic 38, 3) := by decide +kernel
theorem d2_30 : decode B2 30 = .ok (.ifCond .eq 28, 3) := by decide +kernel
theorem d2_33 : decode B2 33 = .ok (.aload_n 1, 1) := by decide +kernel
theorem d2_34 : decode B2 34 = .ok (.iload_n 2, 1) := by decide +kernel
theorem d2_35 : decode B2 35 = .ok (.iload_n 3, 1) := by decide +kernel
theorem d2_36 : decode B2 36 = .ok (.invokestatic 177, 3) := by decide +kernel
theorem d2_39 : decode B2 39 = .ok (.astore 5, 2) := by decide +kernel
theorem d2_41 : decode B2 41 = .ok (.aload_n 0, 1) := by decide +kernel
theorem d2_42 : decode B2 42 = .ok (.aload 5, 2) := by decide +kernel
theorem d2_44 : decode B2 44 = .ok (.iload_n 3, 1) := by decide +kernel
theorem d2_45 : decode B2 45 = .ok (.invokestatic 47, 3) := by decide +kernel
theorem d2_48 : decode B2 48 = .ok (.putfield 15, 3) := by decide +kernel
theorem d2_51 : decode B2 51 = .ok (.aload_n 0, 1) := by decide +kernel
theorem d2_52 : decode B2 52 = .ok (.aload 5, 2) := by decide +kernel
theorem d2_54 : decode B2 54 = .ok (.putfield 9, 3) := by decide +kernel
theorem d2_57 : decode B2 57 = .ok (.return_, 1) := by decide +kernel
theorem d4_0 : decode B4 0 = .ok (.iload_n 2, 1) := by decide +kernel
theorem d4_1 : decode B4 1 = .ok (.newarray .byte, 2) := by decide +kernel
theorem d4_3 : decode B4 3 = .ok (.astore_n 3, 1) := by decide +kernel
theorem d4_4 : decode B4 4 = .ok (.aload_n 0, 1) := by decide +kernel
theorem d4_5 : decode B4 5 = .ok (.iload_n 1, 1) := by decide +kernel
theorem d4_6 : decode B4 6 = .ok (.aload_n 3, 1) := by decide +kernel
theorem d4_7 : decode B4 7 = .ok (.iconst 0, 1) := by decide +kernel
theorem d4_8 : decode B4 8 = .ok (.iload_n 2, 1) := by decide +kernel
theorem d4_9 : decode B4 9 = .ok (.invokestatic 115, 3) := by decide +kernel
theorem d4_12 : decode B4 12 = .ok (.istore 4, 2) := by decide +kernel
theorem d4_14 : decode B4 14 = .ok (.iload 4, 2) := by decide +kernel
theorem d4_16 : decode B4 16 = .ok (.iload_n 2, 1) := by decide +kernel
theorem d4_17 : decode B4 17 = .ok (.if_icmp .eq 40, 3) := by decide +kernel
theorem d4_20 : decode B4 20 = .ok (.aload_n 0, 1) := by decide +kernel
theorem d4_21 : decode B4 21 = .ok (.iload_n 1, 1) := by decide +kernel
theorem d4_22 : decode B4 22 = .ok (.iload_n 2, 1) := by decide +kernel
theorem d4_23 : decode B4 23 = .ok (.invokestatic 119, 3) := by decide +kernel
theorem d4_26 : decode B4 26 = .ok (.astore 5, 2) := by decide +kernel
theorem d4_28 : decode B4 28 = .ok (.aload 5, 2) := by decide +kernel
theorem d4_30 : decode B4 30 = .ok (.iload 4, 2) := by decide +kernel
theorem d4_32 : decode B4 32 = .ok (.invokestatic 71, 3) := by decide +kernel
theorem d4_35 : decode B4 35 = .ok (.sipush 255, 3) := by decide +kernel
theorem d4_38 : decode B4 38 = .ok (.if_icmp .gt 16, 3) := by decide +kernel
theorem d4_54 : decode B4 54 = .ok (.aload 5, 2) := by decide +kernel
theorem d4_56 : decode B4 56 = .ok (.areturn, 1) := by decide +kernel
theorem d5_0 : decode B5 0 = .ok (.iconst 0, 1) := by decide +kernel
theorem d5_1 : decode B5 1 = .ok (.istore 5, 2) := by decide +kernel
theorem d5_3 : decode B5 3 = .ok (.iload 5, 2) := by decide +kernel
theorem d5_5 : decode B5 5 = .ok (.iload 4, 2) := by decide +kernel
theorem d5_7 : decode B5 7 = .ok (.if_icmp .ge 37, 3) := by decide +kernel
theorem d5_10 : decode B5 10 = .ok (.aload_n 0, 1) := by decide +kernel
theorem d5_11 : decode B5 11 = .ok (.iload_n 1, 1) := by decide +kernel
theorem d5_12 : decode B5 12 = .ok (.caload, 1) := by decide +kernel
theorem d5_13 : decode B5 13 = .ok (.istore 6, 2) := by decide +kernel
theorem d5_15 : decode B5 15 = .ok (.iload 6, 2) := by decide +kernel
theorem d5_17 : decode B5 17 = .ok (.sipush 255, 3) := by decide +kernel
theorem d5_20 : decode B5 20 = .ok (.if_icmp .le 6, 3) := by decide +kernel
theorem d5_23 : decode B5 23 = .ok (.iload 5, 2) := by decide +kernel
theorem d5_25 : decode B5 25 = .ok (.ireturn, 1) := by decide +kernel
theorem d5_26 : decode B5 26 = .ok (.aload_n 2, 1) := by decide +kernel
theorem d5_27 : decode B5 27 = .ok (.iload_n 3, 1) := by decide +kernel
theorem d5_28 : decode B5 28 = .ok (.iload 6, 2) := by decide +kernel
theorem d5_30 : decode B5 30 = .ok (.i2b, 1) := by decide +kernel
theorem d5_31 : decode B5 31 = .ok (.bastore, 1) := by decide +kernel
theorem d5_32 : decode B5 32 = .ok (.iinc 1 1, 3) := by decide +kernel
theorem d5_35 : decode B5 35 = .ok (.iinc 3 1, 3) := by decide +kernel
theorem d5_38 : decode B5 38 = .ok (.iinc 5 1, 3) := by decide +kernel
theorem d5_41 : decode B5 41 = .ok (.goto (-38), 3) := by decide +kernel
theorem d6_0 : decode B6 0 = .ok (.iload_n 1, 1) := by decide +kernel
theorem d6_1 : decode B6 1 = .ok (.aload_n 0, 1) := by decide +kernel
theorem d6_2 : decode B6 2 = .ok (.arraylength, 1) := by decide +kernel
theorem d6_3 : decode B6 3 = .ok (.isub, 1) := by decide +kernel
theorem d6_4 : decode B6 4 = .ok (.bipush 31, 2) := by decide +kernel
theorem d6_6 : decode B6 6 = .ok (.iushr, 1) := by decide +kernel
theorem d6_7 : decode B6 7 = .ok (.i2b, 1) := by decide +kernel
theorem d6_8 : decode B6 8 = .ok (.ireturn, 1) := by decide +kernel
theorem d7_0 : decode B7 0 = .ok (.aload_n 0, 1) := by decide +kernel
theorem d7_1 : decode B7 1 = .ok (.invokespecial 1, 3) := by decide +kernel
theorem d7_4 : decode B7 4 = .ok (.aload_n 0, 1) := by decide +kernel
theorem d7_5 : decode B7 5 = .ok (.new 7, 3) := by decide +kernel
theorem d7_8 : decode B7 8 = .ok (.dup, 1) := by decide +kernel
theorem d7_9 : decode B7 9 = .ok (.invokespecial 9, 3) := by decide +kernel
theorem d7_12 : decode B7 12 = .ok (.putfield 10, 3) := by decide +kernel
theorem d7_15 : decode B7 15 = .ok (.return_, 1) := by decide +kernel
theorem d8_0 : decode B8 0 = .ok (.aload_n 0, 1) := by decide +kernel
theorem d8_1 : decode B8 1 = .ok (.bipush 16, 2) := by decide +kernel
theorem d8_3 : decode B8 3 = .ok (.invokespecial 1, 3) := by decide +kernel
theorem d8_6 : decode B8 6 = .ok (.return_, 1) := by decide +kernel
theorem d9_0 : decode B9 0 = .ok (.aload_n 0, 1) := by decide +kernel
theorem d9_1 : decode B9 1 = .ok (.invokespecial 3, 3) := by decide +kernel
theorem d9_4 : decode B9 4 = .ok (.getstatic 18, 3) := by decide +kernel
theorem d9_7 : decode B9 7 = .ok (.ifCond .eq 18, 3) := by decide +kernel
theorem d9_10 : decode B9 10 = .ok (.aload_n 0, 1) := by decide +kernel
theorem d9_11 : decode B9 11 = .ok (.iload_n 1, 1) := by decide +kernel
theorem d9_12 : decode B9 12 = .ok (.newarray .byte, 2) := by decide +kernel
theorem d9_14 : decode B9 14 = .ok (.putfield 15, 3) := by decide +kernel
theorem d9_17 : decode B9 17 = .ok (.aload_n 0, 1) := by decide +kernel
theorem d9_18 : decode B9 18 = .ok (.iconst 0, 1) := by decide +kernel
theorem d9_19 : decode B9 19 = .ok (.putfield 22, 3) := by decide +kernel
theorem d9_22 : decode B9 22 = .ok (.goto 16, 3) := by decide +kernel
theorem d9_38 : decode B9 38 = .ok (.return_, 1) := by decide +kernel
theorem d10_0 : decode B10 0 = .ok (.aload_n 0, 1) := by decide +kernel
theorem d10_1 : decode B10 1 = .ok (.getfield 10, 3) := by decide +kernel
theorem d10_4 : decode B10 4 = .ok (.aload_n 1, 1) := by decide +kernel
theorem d10_5 : decode B10 5 = .ok (.invokevirtual 20, 3) := by decide +kernel
theorem d10_8 : decode B10 8 = .ok (.pop, 1) := by decide +kernel
theorem d10_9 : decode B10 9 = .ok (.aload_n 0, 1) := by decide +kernel
theorem d10_10 : decode B10 10 = .ok (.areturn, 1) := by decide +kernel
theorem d11_0 : decode B11 0 = .ok (.aload_n 0, 1) := by decide +kernel
theorem d11_1 : decode B11 1 = .ok (.aload_n 1, 1) := by decide +kernel
theorem d11_2 : decode B11 2 = .ok (.invokespecial 29, 3) := by decide +kernel
theorem d11_5 : decode B11 5 = .ok (.pop, 1) := by decide +kernel
theorem d11_6 : decode B11 6 = .ok (.aload_n 0, 1) := by decide +kernel
theorem d11_7 : decode B11 7 = .ok (.areturn, 1) := by decide +kernel
theorem d12_0 : decode B12 0 = .ok (.aload_n 1, 1) := by decide +kernel
theorem d12_1 : decode B12 1 = .ok (.ifnonnull 8, 3) := by decide +kernel
theorem d12_9 : decode B12 9 = .ok (.aload_n 1, 1) := by decide +kernel
theorem d12_10 : decode B12 10 = .ok (.invokevirtual 32, 3) := by decide +kernel
theorem d12_13 : decode B12 13 = .ok (.istore_n 2, 1) := by decide +kernel
theorem d12_14 : decode B12 14 = .ok (.aload_n 0, 1) := by decide +kernel
theorem d12_15 : decode B12 15 = .ok (.aload_n 0, 1) := by decide +kernel
theorem d12_16 : decode B12 16 = .ok (.getfield 79, 3) := by decide +kernel
theorem d12_19 : decode B12 19 = .ok (.iload_n 2, 1) := by decide +kernel
theorem d12_20 : decode B12 20 = .ok (.iadd, 1) := by decide +kernel
theorem d12_21 : decode B12 21 = .ok (.invokevirtual 100, 3) := by decide +kernel
theorem d12_24 : decode B12 24 = .ok (.aload_n 0, 1) := by decide +kernel
theorem d12_25 : decode B12 25 = .ok (.aload_n 0, 1) := by decide +kernel
theorem d12_26 : decode B12 26 = .ok (.getfield 79, 3) := by decide +kernel
theorem d12_29 : decode B12 29 = .ok (.aload_n 1, 1) := by decide +kernel
theorem d12_30 : decode B12 30 = .ok (.invokevirtual 208, 3) := by decide +kernel
theorem d12_33 : decode B12 33 = .ok (.aload_n 0, 1) := by decide +kernel
theorem d12_34 : decode B12 34 = .ok (.dup, 1) := by decide +kernel
theorem d12_35 : decode B12 35 = .ok (.getfield 79, 3) := by decide +kernel
theorem d12_38 : decode B12 38 = .ok (.iload_n 2, 1) := by decide +kernel
theorem d12_39 : decode B12 39 = .ok (.iadd, 1) := by decide +kernel
theorem d12_40 : decode B12 40 = .ok (.putfield 79, 3) := by decide +kernel
theorem d12_43 : decode B12 43 = .ok (.aload_n 0, 1) := by decide +kernel
theorem d12_44 : decode B12 44 = .ok (.areturn, 1) := by decide +kernel
theorem d13_0 : decode B13 0 = .ok (.aload_n 0, 1) := by decide +kernel
theorem d13_1 : decode B13 1 = .ok (.getfield 9, 3) := by decide +kernel
theorem d13_4 : decode B13 4 = .ok (.arraylength, 1) := by decide +kernel
theorem d13_5 : decode B13 5 = .ok (.aload_n 0, 1) := by decide +kernel
theorem d13_6 : decode B13 6 = .ok (.invokevirtual 335, 3) := by decide +kernel
theorem d13_9 : decode B13 9 = .ok (.ishr, 1) := by decide +kernel
theorem d13_10 : decode B13 10 = .ok (.ireturn, 1) := by decide +kernel
theorem d14_0 : decode B14 0 = .ok (.getstatic 38, 3) := by decide +kernel
theorem d14_3 : decode B14 3 = .ok (.ifCond .eq 10, 3) := by decide +kernel
theorem d14_6 : decode B14 6 = .ok (.aload_n 0, 1) := by decide +kernel
theorem d14_7 : decode B14 7 = .ok (.getfield 15, 3) := by decide +kernel
theorem d14_10 : decode B14 10 = .ok (.goto 4, 3) := by decide +kernel
theorem d14_14 : decode B14 14 = .ok (.ireturn, 1) := by decide +kernel
theorem d15_0 : decode B15 0 = .ok (.aload_n 0, 1) := by decide +kernel
theorem d15_1 : decode B15 1 = .ok (.getfield 15, 3) := by decide +kernel
theorem d15_4 : decode B15 4 = .ok (.arraylength, 1) := by decide +kernel
theorem d15_5 : decode B15 5 = .ok (.aload_n 0, 1) := by decide +kernel
theorem d15_6 : decode B15 6 = .ok (.getfield 22, 3) := by decide +kernel
theorem d15_9 : decode B15 9 = .ok (.ishr, 1) := by decide +kernel
theorem d15_10 : decode B15 10 = .ok (.istore_n 2, 1) := by decide +kernel
theorem d15_11 : decode B15 11 = .ok (.iload_n 1, 1) := by decide +kernel
theorem d15_12 : decode B15 12 = .ok (.iload_n 2, 1) := by decide +kernel
theorem d15_13 : decode B15 13 = .ok (.isub, 1) := by decide +kernel
theorem d15_14 : decode B15 14 = .ok (.ifCond .le 24, 3) := by decide +kernel
theorem d15_38 : decode B15 38 = .ok (.return_, 1) := by decide +kernel
theorem d16_0 : decode B16 0 = .ok (.aload_n 0, 1) := by decide +kernel
theorem d16_1 : decode B16 1 = .ok (.aload_n 2, 1) := by decide +kernel
theorem d16_2 : decode B16 2 = .ok (.invokevirtual 397, 3) := by decide +kernel
theorem d16_5 : decode B16 5 = .ok (.aload_n 2, 1) := by decide +kernel
theorem d16_6 : decode B16 6 = .ok (.aload_n 0, 1) := by decide +kernel
theorem d16_7 : decode B16 7 = .ok (.getfield 15, 3) := by decide +kernel
theorem d16_10 : decode B16 10 = .ok (.iload_n 1, 1) := by decide +kernel
theorem d16_11 : decode B16 11 = .ok (.aload_n 0, 1) := by decide +kernel
theorem d16_12 : decode B16 12 = .ok (.getfield 22, 3) := by decide +kernel
theorem d16_15 : decode B16 15 = .ok (.invokevirtual 399, 3) := by decide +kernel
theorem d16_18 : decode B16 18 = .ok (.return_, 1) := by decide +kernel
theorem d17_0 : decode B17 0 = .ok (.getstatic 18, 3) := by decide +kernel
theorem d17_3 : decode B17 3 = .ok (.ifCond .eq 18, 3) := by decide +kernel
theorem d17_6 : decode B17 6 = .ok (.aload_n 0, 1) := by decide +kernel
theorem d17_7 : decode B17 7 = .ok (.getfield 22, 3) := by decide +kernel
theorem d17_10 : decode B17 10 = .ok (.aload_n 1, 1) := by decide +kernel
theorem d17_11 : decode B17 11 = .ok (.invokevirtual 40, 3) := by decide +kernel
theorem d17_14 : decode B17 14 = .ok (.if_icmp .eq 7, 3) := by decide +kernel
theorem d17_17 : decode B17 17 = .ok (.aload_n 0, 1) := by decide +kernel
theorem d17_18 : decode B17 18 = .ok (.invokevirtual 195, 3) := by decide +kernel
theorem d17_21 : decode B17 21 = .ok (.return_, 1) := by decide +kernel
theorem d18_0 : decode B18 0 = .ok (.aload_n 0, 1) := by decide +kernel
theorem d18_1 : decode B18 1 = .ok (.invokevirtual 335, 3) := by decide +kernel
theorem d18_4 : decode B18 4 = .ok (.iload_n 3, 1) := by decide +kernel
theorem d18_5 : decode B18 5 = .ok (.if_icmp .ne 23, 3) := by decide +kernel
theorem d18_8 : decode B18 8 = .ok (.aload_n 0, 1) := by decide +kernel
theorem d18_9 : decode B18 9 = .ok (.getfield 9, 3) := by decide +kernel
theorem d18_12 : decode B18 12 = .ok (.iconst 0, 1) := by decide +kernel
theorem d18_13 : decode B18 13 = .ok (.aload_n 1, 1) := by decide +kernel
theorem d18_14 : decode B18 14 = .ok (.iload_n 2, 1) := by decide +kernel
theorem d18_15 : decode B18 15 = .ok (.iload_n 3, 1) := by decide +kernel
theorem d18_16 : decode B18 16 = .ok (.ishl, 1) := by decide +kernel
theorem d18_17 : decode B18 17 = .ok (.aload_n 0, 1) := by decide +kernel
theorem d18_18 : decode B18 18 = .ok (.getfield 9, 3) := by decide +kernel
theorem d18_21 : decode B18 21 = .ok (.arraylength, 1) := by decide +kernel
theorem d18_22 : decode B18 22 = .ok (.invokestatic 212, 3) := by decide +kernel
theorem d18_25 : decode B18 25 = .ok (.goto 18, 3) := by decide +kernel
theorem d18_43 : decode B18 43 = .ok (.return_, 1) := by decide +kernel
theorem d19_0 : decode B19 0 = .ok (.aload_n 0, 1) := by decide +kernel
theorem d19_1 : decode B19 1 = .ok (.getfield 10, 3) := by decide +kernel
theorem d19_4 : decode B19 4 = .ok (.ldc 29, 2) := by decide +kernel
theorem d19_6 : decode B19 6 = .ok (.invokevirtual 20, 3) := by decide +kernel
theorem d19_9 : decode B19 9 = .ok (.aload_n 1, 1) := by decide +kernel
theorem d19_10 : decode B19 10 = .ok (.invokevirtual 20, 3) := by decide +kernel
theorem d19_13 : decode B19 13 = .ok (.bipush 62, 2) := by decide +kernel
theorem d19_15 : decode B19 15 = .ok (.invokevirtual 16, 3) := by decide +kernel
theorem d19_18 : decode B19 18 = .ok (.pop, 1) := by decide +kernel
theorem d19_19 : decode B19 19 = .ok (.aload_n 0, 1) := by decide +kernel
theorem d19_20 : decode B19 20 = .ok (.areturn, 1) := by decide +kernel
theorem d20_0 : decode B20 0 = .ok (.aload_n 0, 1) := by decide +kernel
theorem d20_1 : decode B20 1 = .ok (.iload_n 1, 1) := by decide +kernel
theorem d20_2 : decode B20 2 = .ok (.invokespecial 50, 3) := by decide +kernel
theorem d20_5 : decode B20 5 = .ok (.pop, 1) := by decide +kernel
theorem d20_6 : decode B20 6 = .ok (.aload_n 0, 1) := by decide +kernel
theorem d20_7 : decode B20 7 = .ok (.areturn, 1) := by decide +kernel
theorem d21_0 : decode B21 0 = .ok (.aload_n 0, 1) := by decide +kernel
theorem d21_1 : decode B21 1 = .ok (.aload_n 0, 1) := by decide +kernel
theorem d21_2 : decode B21 2 = .ok (.getfield 79, 3) := by decide +kernel
theorem d21_5 : decode B21 5 = .ok (.iconst 1, 1) := by decide +kernel
theorem d21_6 : decode B21 6 = .ok (.iadd, 1) := by decide +kernel
theorem d21_7 : decode B21 7 = .ok (.invokevirtual 100, 3) := by decide +kernel
theorem d21_10 : decode B21 10 = .ok (.aload_n 0, 1) := by decide +kernel
theorem d21_11 : decode B21 11 = .ok (.invokevirtual 83, 3) := by decide +kernel
theorem d21_14 : decode B21 14 = .ok (.ifCond .eq 31, 3) := by decide +kernel
theorem d21_17 : decode B21 17 = .ok (.iload_n 1, 1) := by decide +kernel
theorem d21_18 : decode B21 18 = .ok (.invokestatic 191, 3) := by decide +kernel
theorem d21_21 : decode B21 21 = .ok (.ifCond .eq 24, 3) := by decide +kernel
theorem d21_24 : decode B21 24 = .ok (.aload_n 0, 1) := by decide +kernel
theorem d21_25 : decode B21 25 = .ok (.getfield 15, 3) := by decide +kernel
theorem d21_28 : decode B21 28 = .ok (.aload_n 0, 1) := by decide +kernel
theorem d21_29 : decode B21 29 = .ok (.dup, 1) := by decide +kernel
theorem d21_30 : decode B21 30 = .ok (.getfield 79, 3) := by decide +kernel
theorem d21_33 : decode B21 33 = .ok (.dup_x1, 1) := by decide +kernel
theorem d21_34 : decode B21 34 = .ok (.iconst 1, 1) := by decide +kernel
theorem d21_35 : decode B21 35 = .ok (.iadd, 1) := by decide +kernel
theorem d21_36 : decode B21 36 = .ok (.putfield 79, 3) := by decide +kernel
theorem d21_39 : decode B21 39 = .ok (.iload_n 1, 1) := by decide +kernel
theorem d21_40 : decode B21 40 = .ok (.i2b, 1) := by decide +kernel
theorem d21_41 : decode B21 41 = .ok (.bastore, 1) := by decide +kernel
theorem d21_42 : decode B21 42 = .ok (.goto 33, 3) := by decide +kernel
theorem d21_45 : decode B21 45 = .ok (.aload_n 0, 1) := by decide +kernel
theorem d21_46 : decode B21 46 = .ok (.invokevirtual 83, 3) := by decide +kernel
theorem d21_49 : decode B21 49 = .ok (.ifCond .eq 7, 3) := by decide +kernel
theorem d21_56 : decode B21 56 = .ok (.aload_n 0, 1) := by decide +kernel
theorem d21_57 : decode B21 57 = .ok (.getfield 15, 3) := by decide +kernel
theorem d21_60 : decode B21 60 = .ok (.aload_n 0, 1) := by decide +kernel
theorem d21_61 : decode B21 61 = .ok (.dup, 1) := by decide +kernel
theorem d21_62 : decode B21 62 = .ok (.getfield 79, 3) := by decide +kernel
theorem d21_65 : decode B21 65 = .ok (.dup_x1, 1) := by decide +kernel
theorem d21_66 : decode B21 66 = .ok (.iconst 1, 1) := by decide +kernel
theorem d21_67 : decode B21 67 = .ok (.iadd, 1) := by decide +kernel
theorem d21_68 : decode B21 68 = .ok (.putfield 79, 3) := by decide +kernel
theorem d21_71 : decode B21 71 = .ok (.iload_n 1, 1) := by decide +kernel
theorem d21_72 : decode B21 72 = .ok (.invokestatic 197, 3) := by decide +kernel
theorem d21_75 : decode B21 75 = .ok (.aload_n 0, 1) := by decide +kernel
theorem d21_76 : decode B21 76 = .ok (.areturn, 1) := by decide +kernel
theorem d22_0 : decode B22 0 = .ok (.getstatic 18, 3) := by decide +kernel
theorem d22_3 : decode B22 3 = .ok (.ifCond .eq 14, 3) := by decide +kernel
theorem d22_6 : decode B22 6 = .ok (.aload_n 0, 1) := by decide +kernel
theorem d22_7 : decode B22 7 = .ok (.getfield 22, 3) := by decide +kernel
theorem d22_10 : decode B22 10 = .ok (.ifCond .ne 7, 3) := by decide +kernel
theorem d22_13 : decode B22 13 = .ok (.iconst 1, 1) := by decide +kernel
theorem d22_14 : decode B22 14 = .ok (.goto 4, 3) := by decide +kernel
theorem d22_17 : decode B22 17 = .ok (.iconst 0, 1) := by decide +kernel
theorem d22_18 : decode B22 18 = .ok (.ireturn, 1) := by decide +kernel
theorem d23_0 : decode B23 0 = .ok (.iload_n 0, 1) := by decide +kernel
theorem d23_1 : decode B23 1 = .ok (.sipush 255, 3) := by decide +kernel
theorem d23_4 : decode B23 4 = .ok (.if_icmp .gt 7, 3) := by decide +kernel
theorem d23_7 : decode B23 7 = .ok (.iconst 1, 1) := by decide +kernel
theorem d23_8 : decode B23 8 = .ok (.goto 4, 3) := by decide +kernel
theorem d23_12 : decode B23 12 = .ok (.ireturn, 1) := by decide +kernel
theorem d24_0 : decode B24 0 = .ok (.aload_n 0, 1) := by decide +kernel
theorem d24_1 : decode B24 1 = .ok (.getfield 10, 3) := by decide +kernel
theorem d24_4 : decode B24 4 = .ok (.invokevirtual 65, 3) := by decide +kernel
theorem d24_7 : decode B24 7 = .ok (.areturn, 1) := by decide +kernel
theorem d25_0 : decode B25 0 = .ok (.new 18, 3) := by decide +kernel
theorem d25_3 : decode B25 3 = .ok (.dup, 1) := by decide +kernel
theorem d25_4 : decode B25 4 = .ok (.aload_n 0, 1) := by decide +kernel
theorem d25_5 : decode B25 5 = .ok (.invokespecial 137, 3) := by decide +kernel
theorem d25_8 : decode B25 8 = .ok (.areturn, 1) := by decide +kernel
theorem d26_0 : decode B26 0 = .ok (.aload_n 0, 1) := by decide +kernel
theorem d26_1 : decode B26 1 = .ok (.aload_n 1, 1) := by decide +kernel
theorem d26_2 : decode B26 2 = .ok (.aconst_null, 1) := by decide +kernel
theorem d26_3 : decode B26 3 = .ok (.invokespecial 489, 3) := by decide +kernel
theorem d26_6 : decode B26 6 = .ok (.return_, 1) := by decide +kernel
theorem d27_0 : decode B27 0 = .ok (.aload_n 0, 1) := by decide +kernel
theorem d27_1 : decode B27 1 = .ok (.invokespecial 1, 3) := by decide +kernel
theorem d27_4 : decode B27 4 = .ok (.aload_n 1, 1) := by decide +kernel
theorem d27_5 : decode B27 5 = .ok (.invokevirtual 552, 3) := by decide +kernel
theorem d27_8 : decode B27 8 = .ok (.astore_n 3, 1) := by decide +kernel
theorem d27_9 : decode B27 9 = .ok (.aload_n 1, 1) := by decide +kernel
theorem d27_10 : decode B27 10 = .ok (.invokevirtual 549, 3) := by decide +kernel
theorem d27_13 : decode B27 13 = .ok (.istore 4, 2) := by decide +kernel
theorem d27_15 : decode B27 15 = .ok (.aload_n 1, 1) := by decide +kernel
theorem d27_16 : decode B27 16 = .ok (.invokevirtual 1047, 3) := by decide +kernel
theorem d27_19 : decode B27 19 = .ok (.ifCond .eq 22, 3) := by decide +kernel
theorem d27_22 : decode B27 22 = .ok (.aload_n 0, 1) := by decide +kernel
theorem d27_23 : decode B27 23 = .ok (.iconst 0, 1) := by decide +kernel
theorem d27_24 : decode B27 24 = .ok (.putfield 15, 3) := by decide +kernel
theorem d27_27 : decode B27 27 = .ok (.aload_n 0, 1) := by decide +kernel
theorem d27_28 : decode B27 28 = .ok (.aload_n 3, 1) := by decide +kernel
theorem d27_29 : decode B27 29 = .ok (.iconst 0, 1) := by decide +kernel
theorem d27_30 : decode B27 30 = .ok (.iload 4, 2) := by decide +kernel
theorem d27_32 : decode B27 32 = .ok (.invokestatic 54, 3) := by decide +kernel
theorem d27_35 : decode B27 35 = .ok (.putfield 9, 3) := by decide +kernel
theorem d27_38 : decode B27 38 = .ok (.goto 59, 3) := by decide +kernel
theorem d27_41 : decode B27 41 = .ok (.getstatic 38, 3) := by decide +kernel
theorem d27_44 : decode B27 44 = .ok (.ifCond .eq 35, 3) := by decide +kernel
theorem d27_47 : decode B27 47 = .ok (.aload_n 1, 1) := by decide +kernel
theorem d27_48 : decode B27 48 = .ok (.getfield 1048, 3) := by decide +kernel
theorem d27_51 : decode B27 51 = .ok (.ifCond .eq 28, 3) := by decide +kernel
theorem d27_79 : decode B27 79 = .ok (.aload_n 0, 1) := by decide +kernel
theorem d27_80 : decode B27 80 = .ok (.iconst 1, 1) := by decide +kernel
theorem d27_81 : decode B27 81 = .ok (.putfield 15, 3) := by decide +kernel
theorem d27_84 : decode B27 84 = .ok (.aload_n 0, 1) := by decide +kernel
theorem d27_85 : decode B27 85 = .ok (.aload_n 3, 1) := by decide +kernel
theorem d27_86 : decode B27 86 = .ok (.iconst 0, 1) := by decide +kernel
theorem d27_87 : decode B27 87 = .ok (.iload 4, 2) := by decide +kernel
theorem d27_89 : decode B27 89 = .ok (.iconst 1, 1) := by decide +kernel
theorem d27_90 : decode B27 90 = .ok (.ishl, 1) := by decide +kernel
theorem d27_91 : decode B27 91 = .ok (.invokestatic 54, 3) := by decide +kernel
theorem d27_94 : decode B27 94 = .ok (.putfield 9, 3) := by decide +kernel
theorem d27_97 : decode B27 97 = .ok (.return_, 1) := by decide +kernel
theorem d28_0 : decode B28 0 = .ok (.aload_n 0, 1) := by decide +kernel
theorem d28_1 : decode B28 1 = .ok (.getfield 15, 3) := by decide +kernel
theorem d28_4 : decode B28 4 = .ok (.areturn, 1) := by decide +kernel
theorem d29_0 : decode B29 0 = .ok (.aload_n 0, 1) := by decide +kernel
theorem d29_1 : decode B29 1 = .ok (.invokespecial 343, 3) := by decide +kernel
theorem d29_4 : decode B29 4 = .ok (.ireturn, 1) := by decide +kernel
theorem d30_0 : decode B30 0 = .ok (.aload_n 0, 1) := by decide +kernel
theorem d30_1 : decode B30 1 = .ok (.getfield 79, 3) := by decide +kernel
theorem d30_4 : decode B30 4 = .ok (.ireturn, 1) := by decide +kernel
theorem d31_0 : decode B31 0 = .ok (.iload_n 1, 1) := by decide +kernel
theorem d31_1 : decode B31 1 = .ok (.ifCond .ne 9, 3) := by decide +kernel
theorem d31_4 : decode B31 4 = .ok (.iload_n 2, 1) := by decide +kernel
theorem d31_5 : decode B31 5 = .ok (.aload_n 0, 1) := by decide +kernel
theorem d31_6 : decode B31 6 = .ok (.arraylength, 1) := by decide +kernel
theorem d31_7 : decode B31 7 = .ok (.if_icmp .eq 10, 3) := by decide +kernel
theorem d31_10 : decode B31 10 = .ok (.aload_n 0, 1) := by decide +kernel
theorem d31_11 : decode B31 11 = .ok (.iload_n 1, 1) := by decide +kernel
theorem d31_12 : decode B31 12 = .ok (.iload_n 2, 1) := by decide +kernel
theorem d31_13 : decode B31 13 = .ok (.invokestatic 339, 3) := by decide +kernel
theorem d31_16 : decode B31 16 = .ok (.areturn, 1) := by decide +kernel
theorem d32_0 : decode B32 0 = .ok (.iload_n 1, 1) := by decide +kernel
theorem d32_1 : decode B32 1 = .ok (.iload_n 2, 1) := by decide +kernel
theorem d32_2 : decode B32 2 = .ok (.invokestatic 343, 3) := by decide +kernel
theorem d32_5 : decode B32 5 = .ok (.iload_n 2, 1) := by decide +kernel
theorem d32_6 : decode B32 6 = .ok (.iload_n 1, 1) := by decide +kernel
theorem d32_7 : decode B32 7 = .ok (.isub, 1) := by decide +kernel
theorem d32_8 : decode B32 8 = .ok (.istore_n 3, 1) := by decide +kernel
theorem d32_9 : decode B32 9 = .ok (.iload_n 3, 1) := by decide +kernel
theorem d32_10 : decode B32 10 = .ok (.newarray .byte, 2) := by decide +kernel
theorem d32_12 : decode B32 12 = .ok (.astore 4, 2) := by decide +kernel
theorem d32_14 : decode B32 14 = .ok (.aload_n 0, 1) := by decide +kernel
theorem d32_15 : decode B32 15 = .ok (.iload_n 1, 1) := by decide +kernel
theorem d32_16 : decode B32 16 = .ok (.aload 4, 2) := by decide +kernel
theorem d32_18 : decode B32 18 = .ok (.iconst 0, 1) := by decide +kernel
theorem d32_19 : decode B32 19 = .ok (.aload_n 0, 1) := by decide +kernel
theorem d32_20 : decode B32 20 = .ok (.arraylength, 1) := by decide +kernel
theorem d32_21 : decode B32 21 = .ok (.iload_n 1, 1) := by decide +kernel
theorem d32_22 : decode B32 22 = .ok (.isub, 1) := by decide +kernel
theorem d32_23 : decode B32 23 = .ok (.iload_n 3, 1) := by decide +kernel
theorem d32_24 : decode B32 24 = .ok (.invokestatic 304, 3) := by decide +kernel
theorem d32_27 : decode B32 27 = .ok (.invokestatic 150, 3) := by decide +kernel
theorem d32_30 : decode B32 30 = .ok (.aload 4, 2) := by decide +kernel
theorem d32_32 : decode B32 32 = .ok (.areturn, 1) := by decide +kernel
theorem d33_0 : decode B33 0 = .ok (.iload_n 1, 1) := by decide +kernel
theorem d33_1 : decode B33 1 = .ok (.iload_n 0, 1) := by decide +kernel
theorem d33_2 : decode B33 2 = .ok (.if_icmp .ge 35, 3) := by decide +kernel
theorem d33_37 : decode B33 37 = .ok (.return_, 1) := by decide +kernel
theorem d34_0 : decode B34 0 = .ok (.iload_n 0, 1) := by decide +kernel
theorem d34_1 : decode B34 1 = .ok (.iload_n 1, 1) := by decide +kernel
theorem d34_2 : decode B34 2 = .ok (.if_icmp .gt 7, 3) := by decide +kernel
theorem d34_5 : decode B34 5 = .ok (.iload_n 0, 1) := by decide +kernel
theorem d34_6 : decode B34 6 = .ok (.goto 4, 3) := by decide +kernel
theorem d34_9 : decode B34 9 = .ok (.iload_n 1, 1) := by decide +kernel
theorem d34_10 : decode B34 10 = .ok (.ireturn, 1) := by decide +kernel
theorem d35_0 : decode B35 0 = .ok (.aload_n 0, 1) := by decide +kernel
theorem d35_1 : decode B35 1 = .ok (.invokevirtual 492, 3) := by decide +kernel
theorem d35_4 : decode B35 4 = .ok (.ifCond .eq 12, 3) := by decide +kernel
theorem d35_7 : decode B35 7 = .ok (.aload_n 0, 1) := by decide +kernel
theorem d35_8 : decode B35 8 = .ok (.getfield 9, 3) := by decide +kernel
theorem d35_11 : decode B35 11 = .ok (.iload_n 1, 1) := by decide +kernel
theorem d35_12 : decode B35 12 = .ok (.invokestatic 495, 3) := by decide +kernel
theorem d35_15 : decode B35 15 = .ok (.ireturn, 1) := by decide +kernel
theorem d35_16 : decode B35 16 = .ok (.aload_n 0, 1) := by decide +kernel
theorem d35_17 : decode B35 17 = .ok (.getfield 9, 3) := by decide +kernel
theorem d35_20 : decode B35 20 = .ok (.iload_n 1, 1) := by decide +kernel
theorem d35_21 : decode B35 21 = .ok (.invokestatic 498, 3) := by decide +kernel
theorem d35_24 : decode B35 24 = .ok (.ireturn, 1) := by decide +kernel
theorem d36_0 : decode B36 0 = .ok (.getstatic 38, 3) := by decide +kernel
theorem d36_3 : decode B36 3 = .ok (.ifCond .eq 14, 3) := by decide +kernel
theorem d36_6 : decode B36 6 = .ok (.aload_n 0, 1) := by decide +kernel
theorem d36_7 : decode B36 7 = .ok (.getfield 15, 3) := by decide +kernel
theorem d36_10 : decode B36 10 = .ok (.ifCond .ne 7, 3) := by decide +kernel
theorem d36_13 : decode B36 13 = .ok (.iconst 1, 1) := by decide +kernel
theorem d36_14 : decode B36 14 = .ok (.goto 4, 3) := by decide +kernel
theorem d36_17 : decode B36 17 = .ok (.iconst 0, 1) := by decide +kernel
theorem d36_18 : decode B36 18 = .ok (.ireturn, 1) := by decide +kernel
theorem d37_0 : decode B37 0 = .ok (.iload_n 1, 1) := by decide +kernel
theorem d37_1 : decode B37 1 = .ok (.aload_n 0, 1) := by decide +kernel
theorem d37_2 : decode B37 2 = .ok (.arraylength, 1) := by decide +kernel
theorem d37_3 : decode B37 3 = .ok (.invokestatic 9, 3) := by decide +kernel
theorem d37_6 : decode B37 6 = .ok (.aload_n 0, 1) := by decide +kernel
theorem d37_7 : decode B37 7 = .ok (.iload_n 1, 1) := by decide +kernel
theorem d37_8 : decode B37 8 = .ok (.baload, 1) := by decide +kernel
theorem d37_9 : decode B37 9 = .ok (.sipush 255, 3) := by decide +kernel
theorem d37_12 : decode B37 12 = .ok (.iand, 1) := by decide +kernel
theorem d37_13 : decode B37 13 = .ok (.i2c, 1) := by decide +kernel
theorem d37_14 : decode B37 14 = .ok (.ireturn, 1) := by decide +kernel
theorem d38_0 : decode B38 0 = .ok (.iload_n 0, 1) := by decide +kernel
theorem d38_1 : decode B38 1 = .ok (.iload_n 1, 1) := by decide +kernel
theorem d38_2 : decode B38 2 = .ok (.getstatic 1053, 3) := by decide +kernel
theorem d38_5 : decode B38 5 = .ok (.invokestatic 1059, 3) := by decide +kernel
theorem d38_8 : decode B38 8 = .ok (.pop, 1) := by decide +kernel
theorem d38_9 : decode B38 9 = .ok (.return_, 1) := by decide +kernel
theorem d39_0 : decode B39 0 = .ok (.iload_n 0, 1) := by decide +kernel
theorem d39_1 : decode B39 1 = .ok (.ifCond .lt 8, 3) := by decide +kernel
theorem d39_4 : decode B39 4 = .ok (.iload_n 0, 1) := by decide +kernel
theorem d39_5 : decode B39 5 = .ok (.iload_n 1, 1) := by decide +kernel
theorem d39_6 : decode B39 6 = .ok (.if_icmp .lt 10, 3) := by decide +kernel
theorem d39_16 : decode B39 16 = .ok (.iload_n 0, 1) := by decide +kernel
theorem d39_17 : decode B39 17 = .ok (.ireturn, 1) := by decide +kernel
theorem d40_0 : decode B40 0 = .ok (.iload_n 2, 1) := by decide +kernel
theorem d40_1 : decode B40 1 = .ok (.invokestatic 107, 3) := by decide +kernel
theorem d40_4 : decode B40 4 = .ok (.astore_n 3, 1) := by decide +kernel
theorem d40_5 : decode B40 5 = .ok (.iconst 0, 1) := by decide +kernel
theorem d40_6 : decode B40 6 = .ok (.istore 4, 2) := by decide +kernel
theorem d40_8 : decode B40 8 = .ok (.iload 4, 2) := by decide +kernel
theorem d40_10 : decode B40 10 = .ok (.iload_n 2, 1) := by decide +kernel
theorem d40_11 : decode B40 11 = .ok (.if_icmp .ge 21, 3) := by decide +kernel
theorem d40_14 : decode B40 14 = .ok (.aload_n 3, 1) := by decide +kernel
theorem d40_15 : decode B40 15 = .ok (.iload 4, 2) := by decide +kernel
theorem d40_17 : decode B40 17 = .ok (.aload_n 0, 1) := by decide +kernel
theorem d40_18 : decode B40 18 = .ok (.iload_n 1, 1) := by decide +kernel
theorem d40_19 : decode B40 19 = .ok (.caload, 1) := by decide +kernel
theorem d40_20 : decode B40 20 = .ok (.invokestatic 111, 3) := by decide +kernel
theorem d40_23 : decode B40 23 = .ok (.iinc 1 1, 3) := by decide +kernel
theorem d40_26 : decode B40 26 = .ok (.iinc 4 1, 3) := by decide +kernel
theorem d40_29 : decode B40 29 = .ok (.goto (-21), 3) := by decide +kernel
theorem d40_32 : decode B40 32 = .ok (.aload_n 3, 1) := by decide +kernel
theorem d40_33 : decode B40 33 = .ok (.areturn, 1) := by decide +kernel
theorem d41_0 : decode B41 0 = .ok (.iload_n 0, 1) := by decide +kernel
theorem d41_1 : decode B41 1 = .ok (.invokestatic 11, 3) := by decide +kernel
theorem d41_4 : decode B41 4 = .ok (.newarray .byte, 2) := by decide +kernel
theorem d41_6 : decode B41 6 = .ok (.areturn, 1) := by decide +kernel
theorem d42_0 : decode B42 0 = .ok (.iload_n 0, 1) := by decide +kernel
theorem d42_1 : decode B42 1 = .ok (.ifCond .ge 11, 3) := by decide +kernel
theorem d42_12 : decode B42 12 = .ok (.iload_n 0, 1) := by decide +kernel
theorem d42_13 : decode B42 13 = .ok (.ldc 20, 2) := by decide +kernel
theorem d42_15 : decode B42 15 = .ok (.if_icmp .lt 40, 3) := by decide +kernel
theorem d42_55 : decode B42 55 = .ok (.iload_n 0, 1) := by decide +kernel
theorem d42_56 : decode B42 56 = .ok (.iconst 1, 1) := by decide +kernel
theorem d42_57 : decode B42 57 = .ok (.ishl, 1) := by decide +kernel
theorem d42_58 : decode B42 58 = .ok (.ireturn, 1) := by decide +kernel
theorem d43_0 : decode B43 0 = .ok (.getstatic 44, 3) := by decide +kernel
theorem d43_3 : decode B43 3 = .ok (.ifCond .ne 25, 3) := by decide +kernel
theorem d43_28 : decode B43 28 = .ok (.iload_n 1, 1) := by decide +kernel
theorem d43_29 : decode B43 29 = .ok (.iconst 1, 1) := by decide +kernel
theorem d43_30 : decode B43 30 = .ok (.ishl, 1) := by decide +kernel
theorem d43_31 : decode B43 31 = .ok (.istore_n 1, 1) := by decide +kernel
theorem d43_32 : decode B43 32 = .ok (.aload_n 0, 1) := by decide +kernel
theorem d43_33 : decode B43 33 = .ok (.iload_n 1, 1) := by decide +kernel
theorem d43_34 : decode B43 34 = .ok (.iinc 1 1, 3) := by decide +kernel
theorem d43_37 : decode B43 37 = .ok (.iload_n 2, 1) := by decide +kernel
theorem d43_38 : decode B43 38 = .ok (.getstatic 59, 3) := by decide +kernel
theorem d43_41 : decode B43 41 = .ok (.ishr, 1) := by decide +kernel
theorem d43_42 : decode B43 42 = .ok (.i2b, 1) := by decide +kernel
theorem d43_43 : decode B43 43 = .ok (.bastore, 1) := by decide +kernel
theorem d43_44 : decode B43 44 = .ok (.aload_n 0, 1) := by decide +kernel
theorem d43_45 : decode B43 45 = .ok (.iload_n 1, 1) := by decide +kernel
theorem d43_46 : decode B43 46 = .ok (.iload_n 2, 1) := by decide +kernel
theorem d43_47 : decode B43 47 = .ok (.getstatic 63, 3) := by decide +kernel
theorem d43_50 : decode B43 50 = .ok (.ishr, 1) := by decide +kernel
theorem d43_51 : decode B43 51 = .ok (.i2b, 1) := by decide +kernel
theorem d43_52 : decode B43 52 = .ok (.bastore, 1) := by decide +kernel
theorem d43_53 : decode B43 53 = .ok (.return_, 1) := by decide +kernel
theorem d44_0 : decode B44 0 = .ok (.getstatic 44, 3) := by decide +kernel
theorem d44_3 : decode B44 3 = .ok (.ifCond .ne 25, 3) := by decide +kernel
theorem d44_28 : decode B44 28 = .ok (.iload_n 1, 1) := by decide +kernel
theorem d44_29 : decode B44 29 = .ok (.iconst 1, 1) := by decide +kernel
theorem d44_30 : decode B44 30 = .ok (.ishl, 1) := by decide +kernel
theorem d44_31 : decode B44 31 = .ok (.istore_n 1, 1) := by decide +kernel
theorem d44_32 : decode B44 32 = .ok (.aload_n 0, 1) := by decide +kernel
theorem d44_33 : decode B44 33 = .ok (.iload_n 1, 1) := by decide +kernel
theorem d44_34 : decode B44 34 = .ok (.iinc 1 1, 3) := by decide +kernel
theorem d44_37 : decode B44 37 = .ok (.baload, 1) := by decide +kernel
theorem d44_38 : decode B44 38 = .ok (.sipush 255, 3) := by decide +kernel
theorem d44_41 : decode B44 41 = .ok (.iand, 1) := by decide +kernel
theorem d44_42 : decode B44 42 = .ok (.getstatic 59, 3) := by decide +kernel
theorem d44_45 : decode B44 45 = .ok (.ishl, 1) := by decide +kernel
theorem d44_46 : decode B44 46 = .ok (.aload_n 0, 1) := by decide +kernel
theorem d44_47 : decode B44 47 = .ok (.iload_n 1, 1) := by decide +kernel
theorem d44_48 : decode B44 48 = .ok (.baload, 1) := by decide +kernel
theorem d44_49 : decode B44 49 = .ok (.sipush 255, 3) := by decide +kernel
theorem d44_52 : decode B44 52 = .ok (.iand, 1) := by decide +kernel
theorem d44_53 : decode B44 53 = .ok (.getstatic 63, 3) := by decide +kernel
theorem d44_56 : decode B44 56 = .ok (.ishl, 1) := by decide +kernel
theorem d44_57 : decode B44 57 = .ok (.ior, 1) := by decide +kernel
theorem d44_58 : decode B44 58 = .ok (.i2c, 1) := by decide +kernel
theorem d44_59 : decode B44 59 = .ok (.ireturn, 1) := by decide +kernel
theorem d45_0 : decode B45 0 = .ok (.aload_n 0, 1) := by decide +kernel
theorem d45_1 : decode B45 1 = .ok (.invokevirtual 83, 3) := by decide +kernel
theorem d45_4 : decode B45 4 = .ok (.ifCond .ne 4, 3) := by decide +kernel
theorem d45_8 : decode B45 8 = .ok (.aload_n 0, 1) := by decide +kernel
theorem d45_9 : decode B45 9 = .ok (.getfield 15, 3) := by decide +kernel
theorem d45_12 : decode B45 12 = .ok (.arraylength, 1) := by decide +kernel
theorem d45_13 : decode B45 13 = .ok (.invokestatic 26, 3) := by decide +kernel
theorem d45_16 : decode B45 16 = .ok (.astore_n 1, 1) := by decide +kernel
theorem d45_17 : decode B45 17 = .ok (.aload_n 0, 1) := by decide +kernel
theorem d45_18 : decode B45 18 = .ok (.getfield 15, 3) := by decide +kernel
theorem d45_21 : decode B45 21 = .ok (.iconst 0, 1) := by decide +kernel
theorem d45_22 : decode B45 22 = .ok (.aload_n 1, 1) := by decide +kernel
theorem d45_23 : decode B45 23 = .ok (.iconst 0, 1) := by decide +kernel
theorem d45_24 : decode B45 24 = .ok (.aload_n 0, 1) := by decide +kernel
theorem d45_25 : decode B45 25 = .ok (.getfield 79, 3) := by decide +kernel
theorem d45_28 : decode B45 28 = .ok (.invokestatic 125, 3) := by decide +kernel
theorem d45_31 : decode B45 31 = .ok (.aload_n 0, 1) := by decide +kernel
theorem d45_32 : decode B45 32 = .ok (.aload_n 1, 1) := by decide +kernel
theorem d45_33 : decode B45 33 = .ok (.putfield 15, 3) := by decide +kernel
theorem d45_36 : decode B45 36 = .ok (.aload_n 0, 1) := by decide +kernel
theorem d45_37 : decode B45 37 = .ok (.iconst 1, 1) := by decide +kernel
theorem d45_38 : decode B45 38 = .ok (.putfield 22, 3) := by decide +kernel
theorem d45_41 : decode B45 41 = .ok (.return_, 1) := by decide +kernel
theorem d46_0 : decode B46 0 = .ok (.aload_n 0, 1) := by decide +kernel
theorem d46_1 : decode B46 1 = .ok (.iload_n 1, 1) := by decide +kernel
theorem d46_2 : decode B46 2 = .ok (.aload_n 2, 1) := by decide +kernel
theorem d46_3 : decode B46 3 = .ok (.iload_n 3, 1) := by decide +kernel
theorem d46_4 : decode B46 4 = .ok (.iload 4, 2) := by decide +kernel
theorem d46_6 : decode B46 6 = .ok (.invokestatic 240, 3) := by decide +kernel
theorem d46_9 : decode B46 9 = .ok (.return_, 1) := by decide +kernel
theorem d47_0 : decode B47 0 = .ok (.iload_n 3, 1) := by decide +kernel
theorem d47_1 : decode B47 1 = .ok (.iload 4, 2) := by decide +kernel
theorem d47_3 : decode B47 3 = .ok (.aload_n 2, 1) := by decide +kernel
theorem d47_4 : decode B47 4 = .ok (.invokestatic 173, 3) := by decide +kernel
theorem d47_7 : decode B47 7 = .ok (.iconst 0, 1) := by decide +kernel
theorem d47_8 : decode B47 8 = .ok (.istore 5, 2) := by decide +kernel
theorem d47_10 : decode B47 10 = .ok (.iload 5, 2) := by decide +kernel
theorem d47_12 : decode B47 12 = .ok (.iload 4, 2) := by decide +kernel
theorem d47_14 : decode B47 14 = .ok (.if_icmp .ge 27, 3) := by decide +kernel
theorem d47_17 : decode B47 17 = .ok (.aload_n 2, 1) := by decide +kernel
theorem d47_18 : decode B47 18 = .ok (.iload_n 3, 1) := by decide +kernel
theorem d47_19 : decode B47 19 = .ok (.iinc 3 1, 3) := by decide +kernel
theorem d47_22 : decode B47 22 = .ok (.aload_n 0, 1) := by decide +kernel
theorem d47_23 : decode B47 23 = .ok (.iload_n 1, 1) := by decide +kernel
theorem d47_24 : decode B47 24 = .ok (.iinc 1 1, 3) := by decide +kernel
theorem d47_27 : decode B47 27 = .ok (.baload, 1) := by decide +kernel
theorem d47_28 : decode B47 28 = .ok (.sipush 255, 3) := by decide +kernel
theorem d47_31 : decode B47 31 = .ok (.iand, 1) := by decide +kernel
theorem d47_32 : decode B47 32 = .ok (.invokestatic 111, 3) := by decide +kernel
theorem d47_35 : decode B47 35 = .ok (.iinc 5 1, 3) := by decide +kernel
theorem d47_38 : decode B47 38 = .ok (.goto (-28), 3) := by decide +kernel
theorem d47_41 : decode B47 41 = .ok (.return_, 1) := by decide +kernel
theorem d48_0 : decode B48 0 = .ok (.iload_n 0, 1) := by decide +kernel
theorem d48_1 : decode B48 1 = .ok (.iload_n 1, 1) := by decide +kernel
theorem d48_2 : decode B48 2 = .ok (.aload_n 2, 1) := by decide +kernel
theorem d48_3 : decode B48 3 = .ok (.invokestatic 48, 3) := by decide +kernel
theorem d48_6 : decode B48 6 = .ok (.invokestatic 419, 3) := by decide +kernel
theorem d48_9 : decode B48 9 = .ok (.pop, 1) := by decide +kernel
theorem d48_10 : decode B48 10 = .ok (.return_, 1) := by decide +kernel
theorem d49_0 : decode B49 0 = .ok (.aload_n 0, 1) := by decide +kernel
theorem d49_1 : decode B49 1 = .ok (.arraylength, 1) := by decide +kernel
theorem d49_2 : decode B49 2 = .ok (.iconst 1, 1) := by decide +kernel
theorem d49_3 : decode B49 3 = .ok (.ishr, 1) := by decide +kernel
theorem d49_4 : decode B49 4 = .ok (.ireturn, 1) := by decide +kernel
theorem d50_0 : decode B50 0 = .ok (.iload_n 0, 1) := by decide +kernel
theorem d50_1 : decode B50 1 = .ok (.iload_n 1, 1) := by decide +kernel
theorem d50_2 : decode B50 2 = .ok (.iload_n 2, 1) := by decide +kernel
theorem d50_3 : decode B50 3 = .ok (.getstatic 1053, 3) := by decide +kernel
theorem d50_6 : decode B50 6 = .ok (.invokestatic 1065, 3) := by decide +kernel
theorem d50_9 : decode B50 9 = .ok (.ireturn, 1) := by decide +kernel
theorem d51_0 : decode B51 0 = .ok (.iload_n 2, 1) := by decide +kernel
theorem d51_1 : decode B51 1 = .ok (.iload_n 0, 1) := by decide +kernel
theorem d51_2 : decode B51 2 = .ok (.ior, 1) := by decide +kernel
theorem d51_3 : decode B51 3 = .ok (.iload_n 1, 1) := by decide +kernel
theorem d51_4 : decode B51 4 = .ok (.ior, 1) := by decide +kernel
theorem d51_5 : decode B51 5 = .ok (.ifCond .lt 10, 3) := by decide +kernel
theorem d51_8 : decode B51 8 = .ok (.iload_n 1, 1) := by decide +kernel
theorem d51_9 : decode B51 9 = .ok (.iload_n 2, 1) := by decide +kernel
theorem d51_10 : decode B51 10 = .ok (.iload_n 0, 1) := by decide +kernel
theorem d51_11 : decode B51 11 = .ok (.isub, 1) := by decide +kernel
theorem d51_12 : decode B51 12 = .ok (.if_icmp .le 11, 3) := by decide +kernel
theorem d51_23 : decode B51 23 = .ok (.iload_n 0, 1) := by decide +kernel
theorem d51_24 : decode B51 24 = .ok (.ireturn, 1) := by decide +kernel
theorem d52_0 : decode B52 0 = .ok (.iload_n 1, 1) := by decide +kernel
theorem d52_1 : decode B52 1 = .ok (.aload_n 0, 1) := by decide +kernel
theorem d52_2 : decode B52 2 = .ok (.invokestatic 67, 3) := by decide +kernel
theorem d52_5 : decode B52 5 = .ok (.aload_n 0, 1) := by decide +kernel
theorem d52_6 : decode B52 6 = .ok (.iload_n 1, 1) := by decide +kernel
theorem d52_7 : decode B52 7 = .ok (.iload_n 2, 1) := by decide +kernel
theorem d52_8 : decode B52 8 = .ok (.invokestatic 111, 3) := by decide +kernel
theorem d52_11 : decode B52 11 = .ok (.return_, 1) := by decide +kernel
theorem d53_0 : decode B53 0 = .ok (.iload_n 0, 1) := by decide +kernel
theorem d53_1 : decode B53 1 = .ok (.aload_n 1, 1) := by decide +kernel
theorem d53_2 : decode B53 2 = .ok (.invokestatic 48, 3) := by decide +kernel
theorem d53_5 : decode B53 5 = .ok (.invokestatic 414, 3) := by decide +kernel
theorem d53_8 : decode B53 8 = .ok (.return_, 1) := by decide +kernel
theorem d54_0 : decode B54 0 = .ok (.iload_n 1, 1) := by decide +kernel
theorem d54_1 : decode B54 1 = .ok (.aload_n 0, 1) := by decide +kernel
theorem d54_2 : decode B54 2 = .ok (.invokestatic 67, 3) := by decide +kernel
theorem d54_5 : decode B54 5 = .ok (.aload_n 0, 1) := by decide +kernel
theorem d54_6 : decode B54 6 = .ok (.iload_n 1, 1) := by decide +kernel
theorem d54_7 : decode B54 7 = .ok (.invokestatic 71, 3) := by decide +kernel
theorem d54_10 : decode B54 10 = .ok (.ireturn, 1) := by decide +kernel
theorem pn0 : plainFor (⟨"com/example/carve/carve/http/HtmlClosePinLaw", "str", "(ICCC)Ljava/lang/String;"⟩ : MethodName) = true := by first | exact plainFor_of_name (by first | (simp [plainName, overriddenIn]; done) | decide +kernel) | decide +kernel
theorem pn1 : plainFor (⟨"java/lang/String", "<init>", "([C)V"⟩ : MethodName) = true := by first | exact plainFor_of_name (by first | (simp [plainName, overriddenIn]; done) | decide +kernel) | decide +kernel
theorem pn2 : plainFor (⟨"java/lang/String", "<init>", "([CIILjava/lang/Void;)V"⟩ : MethodName) = true := by first | exact plainFor_of_name (by first | (simp [plainName, overriddenIn]; done) | decide +kernel) | decide +kernel
theorem pn4 : plainFor (⟨"java/lang/StringUTF16", "compress", "([CII)[B"⟩ : MethodName) = true := by first | exact plainFor_of_name (by first | (simp [plainName, overriddenIn]; done) | decide +kernel) | decide +kernel
theorem pn5 : plainFor (⟨"java/lang/StringUTF16", "compress", "([CI[BII)I"⟩ : MethodName) = true := by first | exact plainFor_of_name (by first | (simp [plainName, overriddenIn]; done) | decide +kernel) | decide +kernel
theorem pn6 : plainFor (⟨"java/lang/StringUTF16", "coderFromArrayLen", "([BI)B"⟩ : MethodName) = true := by first | exact plainFor_of_name (by first | (simp [plainName, overriddenIn]; done) | decide +kernel) | decide +kernel
theorem pn7 : plainFor (⟨"com/example/carve/carve/http/Html", "<init>", "()V"⟩ : MethodName) = true := by first | exact plainFor_of_name (by first | (simp [plainName, overriddenIn]; done) | decide +kernel) | decide +kernel
theorem pn8 : plainFor (⟨"java/lang/StringBuilder", "<init>", "()V"⟩ : MethodName) = true := by first | exact plainFor_of_name (by first | (simp [plainName, overriddenIn]; done) | decide +kernel) | decide +kernel
theorem pn9 : plainFor (⟨"java/lang/AbstractStringBuilder", "<init>", "(I)V"⟩ : MethodName) = true := by first | exact plainFor_of_name (by first | (simp [plainName, overriddenIn]; done) | decide +kernel) | decide +kernel
theorem pn10 : plainFor (⟨"com/example/carve/carve/http/Html", "markup", "(Ljava/lang/String;)Lcom/example/carve/carve/http/Html;"⟩ : MethodName) = true := by first | exact plainFor_of_name (by first | (simp [plainName, overriddenIn]; done) | decide +kernel) | decide +kernel
theorem pn11 : plainFor (⟨"java/lang/StringBuilder", "append", "(Ljava/lang/String;)Ljava/lang/StringBuilder;"⟩ : MethodName) = true := by first | exact plainFor_of_name (by first | (simp [plainName, overriddenIn]; done) | decide +kernel) | decide +kernel
theorem pn12 : plainFor (⟨"java/lang/AbstractStringBuilder", "append", "(Ljava/lang/String;)Ljava/lang/AbstractStringBuilder;"⟩ : MethodName) = true := by first | exact plainFor_of_name (by first | (simp [plainName, overriddenIn]; done) | decide +kernel) | decide +kernel
theorem pn13 : plainFor (⟨"java/lang/String", "length", "()I"⟩ : MethodName) = true := by first | exact plainFor_of_name (by first | (simp [plainName, overriddenIn]; done) | decide +kernel) | decide +kernel
theorem pn14 : plainFor (⟨"java/lang/String", "coder", "()B"⟩ : MethodName) = true := by first | exact plainFor_of_name (by first | (simp [plainName, overriddenIn]; done) | decide +kernel) | decide +kernel
theorem pn15 : plainFor (⟨"java/lang/AbstractStringBuilder", "ensureCapacityInternal", "(I)V"⟩ : MethodName) = true := by first | exact plainFor_of_name (by first | (simp [plainName, overriddenIn]; done) | decide +kernel) | decide +kernel
theorem pn16 : plainFor (⟨"java/lang/AbstractStringBuilder", "putStringAt", "(ILjava/lang/String;)V"⟩ : MethodName) = true := by first | exact plainFor_of_name (by first | (simp [plainName, overriddenIn]; done) | decide +kernel) | decide +kernel
theorem pn17 : plainFor (⟨"java/lang/AbstractStringBuilder", "inflateIfNeededFor", "(Ljava/lang/String;)V"⟩ : MethodName) = true := by first | exact plainFor_of_name (by first | (simp [plainName, overriddenIn]; done) | decide +kernel) | decide +kernel
theorem pn18 : plainFor (⟨"java/lang/String", "getBytes", "([BIB)V"⟩ : MethodName) = true := by first | exact plainFor_of_name (by first | (simp [plainName, overriddenIn]; done) | decide +kernel) | decide +kernel
theorem pn19 : plainFor (⟨"com/example/carve/carve/http/Html", "close", "(Ljava/lang/String;)Lcom/example/carve/carve/http/Html;"⟩ : MethodName) = true := by first | exact plainFor_of_name (by first | (simp [plainName, overriddenIn]; done) | decide +kernel) | decide +kernel
theorem pn20 : plainFor (⟨"java/lang/StringBuilder", "append", "(C)Ljava/lang/StringBuilder;"⟩ : MethodName) = true := by first | exact plainFor_of_name (by first | (simp [plainName, overriddenIn]; done) | decide +kernel) | decide +kernel
theorem pn21 : plainFor (⟨"java/lang/AbstractStringBuilder", "append", "(C)Ljava/lang/AbstractStringBuilder;"⟩ : MethodName) = true := by first | exact plainFor_of_name (by first | (simp [plainName, overriddenIn]; done) | decide +kernel) | decide +kernel
theorem pn22 : plainFor (⟨"java/lang/AbstractStringBuilder", "isLatin1", "()Z"⟩ : MethodName) = true := by first | exact plainFor_of_name (by first | (simp [plainName, overriddenIn]; done) | decide +kernel) | decide +kernel
theorem pn23 : plainFor (⟨"java/lang/StringLatin1", "canEncode", "(C)Z"⟩ : MethodName) = true := by first | exact plainFor_of_name (by first | (simp [plainName, overriddenIn]; done) | decide +kernel) | decide +kernel
theorem pn24 : plainFor (⟨"com/example/carve/carve/http/Html", "toString", "()Ljava/lang/String;"⟩ : MethodName) = true := by first | exact plainFor_of_name (by first | (simp [plainName, overriddenIn]; done) | decide +kernel) | decide +kernel
theorem pn25 : plainFor (⟨"java/lang/StringBuilder", "toString", "()Ljava/lang/String;"⟩ : MethodName) = true := by first | exact plainFor_of_name (by first | (simp [plainName, overriddenIn]; done) | decide +kernel) | decide +kernel
theorem pn26 : plainFor (⟨"java/lang/String", "<init>", "(Ljava/lang/StringBuilder;)V"⟩ : MethodName) = true := by first | exact plainFor_of_name (by first | (simp [plainName, overriddenIn]; done) | decide +kernel) | decide +kernel
theorem pn27 : plainFor (⟨"java/lang/String", "<init>", "(Ljava/lang/AbstractStringBuilder;Ljava/lang/Void;)V"⟩ : MethodName) = true := by first | exact plainFor_of_name (by first | (simp [plainName, overriddenIn]; done) | decide +kernel) | decide +kernel
theorem pn28 : plainFor (⟨"java/lang/AbstractStringBuilder", "getValue", "()[B"⟩ : MethodName) = true := by first | exact plainFor_of_name (by first | (simp [plainName, overriddenIn]; done) | decide +kernel) | decide +kernel
theorem pn29 : plainFor (⟨"java/lang/StringBuilder", "length", "()I"⟩ : MethodName) = true := by first | exact plainFor_of_name (by first | (simp [plainName, overriddenIn]; done) | decide +kernel) | decide +kernel
theorem pn30 : plainFor (⟨"java/lang/AbstractStringBuilder", "length", "()I"⟩ : MethodName) = true := by first | exact plainFor_of_name (by first | (simp [plainName, overriddenIn]; done) | decide +kernel) | decide +kernel
theorem pn31 : plainFor (⟨"java/util/Arrays", "copyOfRange", "([BII)[B"⟩ : MethodName) = true := by first | exact plainFor_of_name (by first | (simp [plainName, overriddenIn]; done) | decide +kernel) | decide +kernel
theorem pn32 : plainFor (⟨"java/util/Arrays", "copyOfRangeByte", "([BII)[B"⟩ : MethodName) = true := by first | exact plainFor_of_name (by first | (simp [plainName, overriddenIn]; done) | decide +kernel) | decide +kernel
theorem pn33 : plainFor (⟨"java/util/Arrays", "checkLength", "(II)V"⟩ : MethodName) = true := by first | exact plainFor_of_name (by first | (simp [plainName, overriddenIn]; done) | decide +kernel) | decide +kernel
theorem pn34 : plainFor (⟨"java/lang/Math", "min", "(II)I"⟩ : MethodName) = true := by first | exact plainFor_of_name (by first | (simp [plainName, overriddenIn]; done) | decide +kernel) | decide +kernel
theorem pn35 : plainFor (⟨"java/lang/String", "charAt", "(I)C"⟩ : MethodName) = true := by first | exact plainFor_of_name (by first | (simp [plainName, overriddenIn]; done) | decide +kernel) | decide +kernel
theorem pn36 : plainFor (⟨"java/lang/String", "isLatin1", "()Z"⟩ : MethodName) = true := by first | exact plainFor_of_name (by first | (simp [plainName, overriddenIn]; done) | decide +kernel) | decide +kernel
theorem pn37 : plainFor (⟨"java/lang/StringLatin1", "charAt", "([BI)C"⟩ : MethodName) = true := by first | exact plainFor_of_name (by first | (simp [plainName, overriddenIn]; done) | decide +kernel) | decide +kernel
theorem pn38 : plainFor (⟨"java/lang/String", "checkIndex", "(II)V"⟩ : MethodName) = true := by first | exact plainFor_of_name (by first | (simp [plainName, overriddenIn]; done) | decide +kernel) | decide +kernel
theorem pn39 : plainFor (⟨"jdk/internal/util/Preconditions", "checkIndex", "(IILjava/util/function/BiFunction;)I"⟩ : MethodName) = true := by first | exact plainFor_of_name (by first | (simp [plainName, overriddenIn]; done) | decide +kernel) | decide +kernel
theorem pn40 : plainFor (⟨"java/lang/StringUTF16", "toBytes", "([CII)[B"⟩ : MethodName) = true := by first | exact plainFor_of_name (by first | (simp [plainName, overriddenIn]; done) | decide +kernel) | decide +kernel
theorem pn41 : plainFor (⟨"java/lang/StringUTF16", "newBytesFor", "(I)[B"⟩ : MethodName) = true := by first | exact plainFor_of_name (by first | (simp [plainName, overriddenIn]; done) | decide +kernel) | decide +kernel
theorem pn42 : plainFor (⟨"java/lang/StringUTF16", "newBytesLength", "(I)I"⟩ : MethodName) = true := by first | exact plainFor_of_name (by first | (simp [plainName, overriddenIn]; done) | decide +kernel) | decide +kernel
theorem pn43 : plainFor (⟨"java/lang/StringUTF16", "putChar", "([BII)V"⟩ : MethodName) = true := by first | exact plainFor_of_name (by first | (simp [plainName, overriddenIn]; done) | decide +kernel) | decide +kernel
theorem pn44 : plainFor (⟨"java/lang/StringUTF16", "getChar", "([BI)C"⟩ : MethodName) = true := by first | exact plainFor_of_name (by first | (simp [plainName, overriddenIn]; done) | decide +kernel) | decide +kernel
theorem pn45 : plainFor (⟨"java/lang/AbstractStringBuilder", "inflate", "()V"⟩ : MethodName) = true := by first | exact plainFor_of_name (by first | (simp [plainName, overriddenIn]; done) | decide +kernel) | decide +kernel
theorem pn46 : plainFor (⟨"java/lang/StringLatin1", "inflate", "([BI[BII)V"⟩ : MethodName) = true := by first | exact plainFor_of_name (by first | (simp [plainName, overriddenIn]; done) | decide +kernel) | decide +kernel
theorem pn47 : plainFor (⟨"java/lang/StringUTF16", "inflate", "([BI[BII)V"⟩ : MethodName) = true := by first | exact plainFor_of_name (by first | (simp [plainName, overriddenIn]; done) | decide +kernel) | decide +kernel
theorem pn48 : plainFor (⟨"java/lang/StringUTF16", "checkBoundsOffCount", "(II[B)V"⟩ : MethodName) = true := by first | exact plainFor_of_name (by first | (simp [plainName, overriddenIn]; done) | decide +kernel) | decide +kernel
theorem pn49 : plainFor (⟨"java/lang/StringUTF16", "length", "([B)I"⟩ : MethodName) = true := by first | exact plainFor_of_name (by first | (simp [plainName, overriddenIn]; done) | decide +kernel) | decide +kernel
theorem pn50 : plainFor (⟨"java/lang/String", "checkBoundsOffCount", "(III)I"⟩ : MethodName) = true := by first | exact plainFor_of_name (by first | (simp [plainName, overriddenIn]; done) | decide +kernel) | decide +kernel
theorem pn51 : plainFor (⟨"jdk/internal/util/Preconditions", "checkFromIndexSize", "(IIILjava/util/function/BiFunction;)I"⟩ : MethodName) = true := by first | exact plainFor_of_name (by first | (simp [plainName, overriddenIn]; done) | decide +kernel) | decide +kernel
theorem pn52 : plainFor (⟨"java/lang/StringUTF16", "putCharSB", "([BII)V"⟩ : MethodName) = true := by first | exact plainFor_of_name (by first | (simp [plainName, overriddenIn]; done) | decide +kernel) | decide +kernel
theorem pn53 : plainFor (⟨"java/lang/StringUTF16", "checkIndex", "(I[B)V"⟩ : MethodName) = true := by first | exact plainFor_of_name (by first | (simp [plainName, overriddenIn]; done) | decide +kernel) | decide +kernel
theorem pn54 : plainFor (⟨"java/lang/StringUTF16", "charAt", "([BI)C"⟩ : MethodName) = true := by first | exact plainFor_of_name (by first | (simp [plainName, overriddenIn]; done) | decide +kernel) | decide +kernel
theorem pn55 : plainFor x = true := by first | exact plainFor_of_name (by first | (simp [plainName, overriddenIn]; done) | decide +kernel) | decide +kernel
theorem pd0 : parseMethodDescriptor "([CIILjava/lang/Void;)V" = some ⟨[(.array .char), .int, .int, (.object "java/lang/Void")], none⟩ := by decide +kernel
theorem pd1 : parseMethodDescriptor "()B" = some ⟨[], some .byte⟩ := by decide +kernel
theorem pd2 : parseMethodDescriptor "(IILjava/util/function/BiFunction;)I" = some ⟨[.int, .int, (.object "java/util/function/BiFunction")], some .int⟩ := by decide +kernel
theorem pd3 : parseMethodDescriptor "([B)I" = some ⟨[(.array .byte)], some .int⟩ := by decide +kernel
theorem pd4 : parseMethodDescriptor "(II)V" = some ⟨[.int, .int], none⟩ := by decide +kernel
theorem pd5 : parseMethodDescriptor "(II)I" = some ⟨[.int, .int], some .int⟩ := by decide +kernel
theorem pd6 : parseMethodDescriptor "([BII)[B" = some ⟨[(.array .byte), .int, .int], some (.array .byte)⟩ := by decide +kernel
theorem pd7 : parseMethodDescriptor "([CI[BII)I" = some ⟨[(.array .char), .int, (.array .byte), .int, .int], some .int⟩ := by decide +kernel
theorem pd8 : parseMethodDescriptor "(I)I" = some ⟨[.int], some .int⟩ := by decide +kernel
theorem pd9 : parseMethodDescriptor "(I)[B" = some ⟨[.int], some (.array .byte)⟩ := by decide +kernel
theorem pd10 : parseMethodDescriptor "([BII)V" = some ⟨[(.array .byte), .int, .int], none⟩ := by decide +kernel
theorem pd11 : parseMethodDescriptor "([CII)[B" = some ⟨[(.array .char), .int, .int], some (.array .byte)⟩ := by decide +kernel
theorem pd12 : parseMethodDescriptor "([BI)C" = some ⟨[(.array .byte), .int], some .char⟩ := by decide +kernel
theorem pd13 : parseMethodDescriptor "([BI)B" = some ⟨[(.array .byte), .int], some .byte⟩ := by decide +kernel
theorem pd14 : parseMethodDescriptor "(I)V" = some ⟨[.int], none⟩ := by decide +kernel
theorem pd15 : parseMethodDescriptor "(Ljava/lang/String;)V" = some ⟨[(.object "java/lang/String")], none⟩ := by decide +kernel
theorem pd16 : parseMethodDescriptor "([BIB)V" = some ⟨[(.array .byte), .int, .byte], none⟩ := by decide +kernel
theorem pd17 : parseMethodDescriptor "()I" = some ⟨[], some .int⟩ := by decide +kernel
theorem pd18 : parseMethodDescriptor "(ILjava/lang/String;)V" = some ⟨[.int, (.object "java/lang/String")], none⟩ := by decide +kernel
theorem pd19 : parseMethodDescriptor "(Ljava/lang/String;)Ljava/lang/AbstractStringBuilder;" = some ⟨[(.object "java/lang/String")], some (.object "java/lang/AbstractStringBuilder")⟩ := by decide +kernel
theorem pd20 : parseMethodDescriptor "()[B" = some ⟨[], some (.array .byte)⟩ := by decide +kernel
theorem pd21 : parseMethodDescriptor "()Z" = some ⟨[], some .boolean⟩ := by decide +kernel
theorem pd22 : parseMethodDescriptor "(Ljava/lang/AbstractStringBuilder;Ljava/lang/Void;)V" = some ⟨[(.object "java/lang/AbstractStringBuilder"), (.object "java/lang/Void")], none⟩ := by decide +kernel
theorem pd23 : parseMethodDescriptor "(Ljava/lang/StringBuilder;)V" = some ⟨[(.object "java/lang/StringBuilder")], none⟩ := by decide +kernel
theorem pd24 : parseMethodDescriptor "(IIILjava/util/function/BiFunction;)I" = some ⟨[.int, .int, .int, (.object "java/util/function/BiFunction")], some .int⟩ := by decide +kernel
theorem pd25 : parseMethodDescriptor "(III)I" = some ⟨[.int, .int, .int], some .int⟩ := by decide +kernel
theorem pd26 : parseMethodDescriptor "(II[B)V" = some ⟨[.int, .int, (.array .byte)], none⟩ := by decide +kernel
theorem pd27 : parseMethodDescriptor "([BI[BII)V" = some ⟨[(.array .byte), .int, (.array .byte), .int, .int], none⟩ := by decide +kernel
theorem pd28 : parseMethodDescriptor "()V" = some ⟨[], none⟩ := by decide +kernel
theorem pd29 : parseMethodDescriptor "(I[B)V" = some ⟨[.int, (.array .byte)], none⟩ := by decide +kernel
theorem pd30 : parseMethodDescriptor "(C)Z" = some ⟨[.char], some .boolean⟩ := by decide +kernel
theorem pd31 : parseMethodDescriptor "(C)Ljava/lang/AbstractStringBuilder;" = some ⟨[.char], some (.object "java/lang/AbstractStringBuilder")⟩ := by decide +kernel
theorem pd32 : parseMethodDescriptor "([C)V" = some ⟨[(.array .char)], none⟩ := by decide +kernel
theorem pd33 : parseMethodDescriptor "(Ljava/lang/String;)Ljava/lang/StringBuilder;" = some ⟨[(.object "java/lang/String")], some (.object "java/lang/StringBuilder")⟩ := by decide +kernel
theorem pd34 : parseMethodDescriptor "(C)Ljava/lang/StringBuilder;" = some ⟨[.char], some (.object "java/lang/StringBuilder")⟩ := by decide +kernel
theorem pd35 : parseMethodDescriptor "()Ljava/lang/String;" = some ⟨[], some (.object "java/lang/String")⟩ := by decide +kernel
theorem pd36 : parseMethodDescriptor "(I)C" = some ⟨[.int], some .char⟩ := by decide +kernel
theorem pd37 : parseMethodDescriptor "(Ljava/lang/String;)Lcom/example/carve/carve/http/Html;" = some ⟨[(.object "java/lang/String")], some (.object "com/example/carve/carve/http/Html")⟩ := by decide +kernel
theorem pd38 : parseMethodDescriptor "(ICCC)Ljava/lang/String;" = some ⟨[.int, .char, .char, .char], some (.object "java/lang/String")⟩ := by decide +kernel
abbrev RrmE4 : Room := { frames := 1, cells := 4, slots := 10, locals := 12 }
def QrmE4 (Z : State) (x : Addr) (b : Addr) (h0 : Heap) (v : Option Value) (vm : Vm) (h : Heap) : Prop := ∃ (t : Addr) (kb : ClassId), v = none ∧ Keep h0 h [x] ∧ Str Z h x t kb []
theorem rmE4 (hcx : Cx Z a0 zc fm) (x : Addr) (b : Addr) (h0 : Heap) (O0 : Old Z Z.heap.size h0) (Pr0 : Exa Z h0 x "java/lang/String") (Pr1 : Fld Z h0 x "java/lang/String" "coder" "B" (.int (0 : Int32))) (Pr2 : Fld Z h0 x "java/lang/String" "value" "[B" .null) (Pr3 : Z.heap.size ≤ x) : Met l Z consts_1 (⟨"java/lang/String", "<init>", "([CIILjava/lang/Void;)V"⟩ : MethodName) jdk_42_method_149_code 6 (none) [] RrmE4 [x] #[(.ref x), (.ref b), (.int (0 : Int32)), (.int (0 : Int32)), .null] h0 (QrmE4 Z x b h0) := by
  have ⟨hw, hEL, O2, P5, O4, P6, OA, OH, OB⟩ := hcx
  refine Met.start (a0 := a0) (Ls := #[vR x, vR b, vI (0 : Int32), vI (0 : Int32), .val .null, .unset]) pn2 hEL O0 (fun m => by first | (simp [entryFrame, mkF, argsToLocals, Value.category]; done) | rfl) ?_
  intro p e s m below meth cc T0 vm0 X0 sf0_ hby hml hret hnm
  have hx := X0.hx
  have D : ∀ {n r}, decode B2 n = r → decode cc.code n = r := fun d => hb hby d
  have zz := X0.ge
  have A0 := X0.at
  have l1 := ltA Pr0.lt
  have s2 := sf0_ x (memI (i := 0) rfl)
  refine Gets.via (fun _ k => (XS.aloadN A0 hx rfl (D d2_0) rfl rfl k)) ?_
  refine X0.objInit (w15 hw) (w16 hw) (w17 hw) rfl (sz hml rfl) rfl (D d2_1) (by decide) (W := 0) (mroom rfl rfl) (by decide) fun T3 X3 => ?_
  have A4 := X3.at
  refine Gets.via (fun _ k => (XS.iloadN A4 hx rfl (D d2_4) rfl (XS.ifNo A4 hx rfl (D d2_5) rfl (Jvm.Free.XT.i0_ne_f (by decide)) k))) ?_
  refine Gets.via (fun _ k => (XS.aloadN A4 hx rfl (D d2_8) rfl rfl k)) ?_
  refine X3.ldcC (w34 hw) (wSt hw) (by decide) (vs := []) (z := (0 : Int32)) ⟨by decide, by decide⟩ (by decide) (by decide) rfl (D d2_9) (n := 1) (by decide) (by decide) (by decide) (by decide) fun T5 h5 vm5 a5 yb5 k5 X5 C5 E5 Z5 Fc5 Fv5 V5 q5 => ?_
  have z5 := E5.1
  have l5 := ltA Z5.lt
  have lb5 := ltA V5.lt
  have f6 := C5.safe (x := x) (ltA (by omega)) s2
  have ne7 := neA (q5 x f6).1
  have nf7 := neA (q5 x f6).2
  show Gets p e below _ (T5.setTop (mkF m 11 #[vR x, vR b, vI (0 : Int32), vI (0 : Int32), .val .null, .unset] [(.ref a5), (.ref x)]))
  refine X5.getF (host := "") (Or.inl (w32 hw)) Via.refl Fv5 rfl rfl (D d2_11) fun T8 X8 => ?_
  have f10 := Pr2.ext E5
  have f11 := Pr0.ext E5
  refine X8.putF (host := "") (Or.inl (w32 hw)) Via.refl f10 f11 (Or.inr ⟨(w33 hw), rfl, hnm⟩) (w5 hw) (ty := (.array .byte)) (by decide) rfl rfl (leA (by omega)) f6 rfl rfl (D d2_14) fun T9 h9 X9 C9 W9 F9 Z9 => ?_
  have z9 := W9.size
  have A12 := X9.at
  refine Gets.via (fun _ k => (XS.aloadN A12 hx rfl (D d2_17) rfl rfl k)) ?_
  refine X9.ldcC (w34 hw) (wSt hw) (by decide) (vs := []) (z := (0 : Int32)) ⟨by decide, by decide⟩ (by decide) (by decide) rfl (D d2_18) (n := 1) (by decide) (by decide) (by decide) (by decide) fun T13 h13 vm13 a13 yb13 k13 X13 C13 E13 Z13 Fc13 Fv13 V13 q13 => ?_
  have z13 := E13.1
  have l13 := ltA Z13.lt
  have lb13 := ltA V13.lt
  have f14 := C9.safe (x := x) (ltA (by omega)) f6
  have f15 := C13.safe (x := x) (ltA (by omega)) f14
  have ne16 := neA (q13 x f15).1
  have nf16 := neA (q13 x f15).2
  refine X13.getF (host := "") (Or.inl (w30 hw)) Via.refl Fc13 rfl rfl (D d2_20) fun T17 X17 => ?_
  show Gets p e below _ (T17.setTop (mkF m 23 #[vR x, vR b, vI (0 : Int32), vI (0 : Int32), .val .null, .unset] [(.int (0 : Int32)), (.ref x)]))
  have f19 := Pr1.ext E5
  have f20 := f19.other W9 (Or.inr (slot_ne (t := .byte) (t' := (.array .byte)) (Or.inr (w31 hw)) (Or.inr (w33 hw)) (by decide) (by decide) (by decide)))
  have f21 := f20.ext E13
  have f22 := Z9.ext E13
  refine X17.putF (host := "") (Or.inl (w30 hw)) Via.refl f21 f22 (Or.inr ⟨(w31 hw), rfl, hnm⟩) (w5 hw) (ty := .byte) (by decide) (by decide) (by decide) (leA (by omega)) f15 rfl rfl (D d2_23) fun T18 h18 X18 C18 W18 F18 Z18 => ?_
  have z18 := W18.size
  have f23 := F9.ext E13
  have f24 := f23.other W18 (Or.inr (slot_ne (t := (.array .byte)) (t' := .byte) (Or.inr (w33 hw)) (Or.inr (w31 hw)) (by decide) (by decide) (by decide)))
  have f25 := V5.other W9 (neA (by omega))
  have f26 := f25.ext E13
  have f27 := f26.other W18 (neA (by omega))
  have f28 : Str Z h18 x yb5 k5 [] := ⟨Z18, F18, f24, f27, allN, Nat.le_of_ble_eq_true rfl⟩
  exact X18.retV hret (D d2_26) (by decide) (by decide) (fun vmE CE => ⟨yb5, k5, rfl, (((((Keep.refl h0 [x]).ext E5).wr W9 (Or.inl (memI (i := 0) rfl))).ext E13).wr W18 (Or.inl (memI (i := 0) rfl))), f28⟩)
abbrev RrmE1 : Room := { frames := 2, cells := 4, slots := 10, locals := 29 }
def QrmE1 (Z : State) (x : Addr) (b : Addr) (kc : ClassId) (h0 : Heap) (v : Option Value) (vm : Vm) (h : Heap) : Prop := ∃ (t : Addr) (kb : ClassId), v = none ∧ Keep h0 h [x] ∧ Str Z h x t kb []
theorem rmE1 (hcx : Cx Z a0 zc fm) (x : Addr) (b : Addr) (kc : ClassId) (h0 : Heap) (O0 : Old Z Z.heap.size h0) (Pr0 : Exa Z h0 x "java/lang/String") (Pr1 : Fld Z h0 x "java/lang/String" "coder" "B" (.int (0 : Int32))) (Pr2 : Fld Z h0 x "java/lang/String" "value" "[B" .null) (Pr3 : Z.heap.size ≤ x) (Pr4 : Arv Z h0 b kc .char (0 : Int32) [] (.int (0 : Int32))) : Met l Z consts_1 (⟨"java/lang/String", "<init>", "([C)V"⟩ : MethodName) jdk_42_method_3_code 2 (none) [] RrmE1 [x] #[(.ref x), (.ref b)] h0 (QrmE1 Z x b kc h0) := by
  have ⟨hw, hEL, O2, P5, O4, P6, OA, OH, OB⟩ := hcx
  refine Met.start (a0 := a0) (Ls := #[vR x, vR b]) pn1 hEL O0 (fun m => by first | (simp [entryFrame, mkF, argsToLocals, Value.category]; done) | rfl) ?_
  intro p e s m below meth cc T0 vm0 X0 sf0_ hby hml hret hnm
  have hx := X0.hx
  have D : ∀ {n r}, decode B1 n = r → decode cc.code n = r := fun d => hb hby d
  have zz := X0.ge
  have A0 := X0.at
  have l1 := ltA Pr0.lt
  have l2 := ltA Pr4.lt
  have s3 := sf0_ x (memI (i := 0) rfl)
  refine Gets.via (fun _ k => (XS.aloadN A0 hx rfl (D d1_0) rfl rfl (XS.aloadN A0 hx rfl (D d1_1) rfl rfl (XS.iconst A0 hx rfl (D d1_2) (XS.aloadN A0 hx rfl (D d1_3) rfl rfl k))))) ?_
  refine X0.alen Pr4 rfl rfl (D d1_4) ?_
  refine Gets.via (fun _ k => (XS.aconstNull A0 hx rfl (D d1_5) k)) ?_
  refine X0.callI (y := (⟨"java/lang/String", "<init>", "([CIILjava/lang/Void;)V"⟩ : MethodName)) (W := 0) rfl (w11 hw) (w12 hw) (w14 hw) (by decide) (X0.payM (sf := [x]) (rmE4 hcx x b h0 X0.old Pr0 Pr1 Pr2 Pr3) (sfS s3 sf0) (w14 hw) (w6 hw)) rfl (sz hml rfl) (a := x) (argsL := [(.ref b), (.int (0 : Int32)), (.int (0 : Int32)), .null]) (rest := []) (lenOf pd0 rfl) rfl rfl (mroom rfl rfl) (D d1_6) (by decide) (by decide) fun T4 h4 vm4 v4 X4 C4 z4 q4 => ?_
  obtain ⟨t4, kb4, rfl, K4, g4_0⟩ := q4
  have l5 := ltA g4_0.lt
  have l6 := ltA g4_0.lb
  show Gets p e below _ (T4.setTop (mkF m 9 #[vR x, vR b] []))
  exact X4.retV hret (D d1_9) (by decide) (by decide) (fun vmE CE => ⟨t4, kb4, rfl, ((Keep.refl h0 [x]).trans K4 (allS (Or.inl (memI (i := 0) rfl)) all0)), g4_0⟩)
abbrev RrmCoder0 : Room := { frames := 0, cells := 0, slots := 0, locals := 0 }
def QrmCoder0 (Z : State) (x : Addr) (h0 : Heap) (v : Option Value) (vm : Vm) (h : Heap) : Prop := v = some (.int (0 : Int32)) ∧ h = h0
theorem rmCoder0 (hcx : Cx Z a0 zc fm) (x : Addr) (h0 : Heap) (O0 : Old Z Z.heap.size h0) (Pr0 : Exa Z h0 x "java/lang/String") (Pr1 : Fld Z h0 x "java/lang/String" "coder" "B" (.int (0 : Int32))) : Met l Z consts_1 (⟨"java/lang/String", "coder", "()B"⟩ : MethodName) jdk_42_method_152_code 1 (some .byte) [] RrmCoder0 [] #[(.ref x)] h0 (QrmCoder0 Z x h0) := by
  have ⟨hw, hEL, O2, P5, O4, P6, OA, OH, OB⟩ := hcx
  refine Met.start (a0 := a0) (Ls := #[vR x]) pn14 hEL O0 (fun m => by first | (simp [entryFrame, mkF, argsToLocals, Value.category]; done) | rfl) ?_
  intro p e s m below meth cc T0 vm0 X0 sf0_ hby hml hret hnm
  have hx := X0.hx
  have D : ∀ {n r}, decode B14 n = r → decode cc.code n = r := fun d => hb hby d
  have zz := X0.ge
  have A0 := X0.at
  have l1 := ltA Pr0.lt
  refine X0.getS (host := "") (Or.inl (w18 hw)) Via.refl (X0.sta O2) rfl (D d14_0) fun T2 X2 => ?_
  have A3 := X2.at
  refine Gets.via (fun _ k => (XS.ifNo A3 hx rfl (D d14_3) rfl (Jvm.Free.XT.i0_eq_f P5) k)) ?_
  refine Gets.via (fun _ k => (XS.aloadN A3 hx rfl (D d14_6) rfl rfl k)) ?_
  refine X2.getF (host := "") (Or.inl (w30 hw)) Via.refl Pr1 rfl rfl (D d14_7) fun T4 X4 => ?_
  have A5 := X4.at
  refine Gets.via (fun _ k => (XS.goto A5 hx rfl (pc0 := 10) (pc' := 14) rfl (D d14_10) (by decide) (by decide) k)) ?_
  show Gets p e below _ (T4.setTop (mkF m 14 #[vR x] [(.int (0 : Int32))]))
  exact X4.retI hret (by decide) (by simp) (D d14_14) (by decide) (by decide) (fun vmE CE => ⟨rfl, rfl⟩)
abbrev RrmCoder1 : Room := { frames := 0, cells := 0, slots := 0, locals := 0 }
def QrmCoder1 (Z : State) (x : Addr) (h0 : Heap) (v : Option Value) (vm : Vm) (h : Heap) : Prop := v = some (.int (1 : Int32)) ∧ h = h0
theorem rmCoder1 (hcx : Cx Z a0 zc fm) (x : Addr) (h0 : Heap) (O0 : Old Z Z.heap.size h0) (Pr0 : Exa Z h0 x "java/lang/String") (Pr1 : Fld Z h0 x "java/lang/String" "coder" "B" (.int (1 : Int32))) : Met l Z consts_1 (⟨"java/lang/String", "coder", "()B"⟩ : MethodName) jdk_42_method_152_code 1 (some .byte) [] RrmCoder1 [] #[(.ref x)] h0 (QrmCoder1 Z x h0) := by
  have ⟨hw, hEL, O2, P5, O4, P6, OA, OH, OB⟩ := hcx
  refine Met.start (a0 := a0) (Ls := #[vR x]) pn14 hEL O0 (fun m => by first | (simp [entryFrame, mkF, argsToLocals, Value.category]; done) | rfl) ?_
  intro p e s m below meth cc T0 vm0 X0 sf0_ hby hml hret hnm
  have hx := X0.hx
  have D : ∀ {n r}, decode B14 n = r → decode cc.code n = r := fun d => hb hby d
  have zz := X0.ge
  have A0 := X0.at
  have l1 := ltA Pr0.lt
  refine X0.getS (host := "") (Or.inl (w18 hw)) Via.refl (X0.sta O2) rfl (D d14_0) fun T2 X2 => ?_
  have A3 := X2.at
  refine Gets.via (fun _ k => (XS.ifNo A3 hx rfl (D d14_3) rfl (Jvm.Free.XT.i0_eq_f P5) k)) ?_
  refine Gets.via (fun _ k => (XS.aloadN A3 hx rfl (D d14_6) rfl rfl k)) ?_
  refine X2.getF (host := "") (Or.inl (w30 hw)) Via.refl Pr1 rfl rfl (D d14_7) fun T4 X4 => ?_
  have A5 := X4.at
  refine Gets.via (fun _ k => (XS.goto A5 hx rfl (pc0 := 10) (pc' := 14) rfl (D d14_10) (by decide) (by decide) k)) ?_
  show Gets p e below _ (T4.setTop (mkF m 14 #[vR x] [(.int (1 : Int32))]))
  exact X4.retI hret (by decide) (by simp) (D d14_14) (by decide) (by decide) (fun vmE CE => ⟨rfl, rfl⟩)
abbrev RrmLen0 : Room := { frames := 1, cells := 0, slots := 0, locals := 13 }
def QrmLen0 (Z : State) (x : Addr) (b : Addr) (kb : ClassId) (cs : List Int32) (h0 : Heap) (v : Option Value) (vm : Vm) (h : Heap) : Prop := v = some (.int (Int32.ofNat (cs).length)) ∧ h = h0
theorem rmLen0 (hcx : Cx Z a0 zc fm) (x : Addr) (b : Addr) (kb : ClassId) (cs : List Int32) (h0 : Heap) (O0 : Old Z Z.heap.size h0) (Pr0 : Str Z h0 x b kb cs) : Met l Z consts_1 (⟨"java/lang/String", "length", "()I"⟩ : MethodName) jdk_42_method_54_code 1 (some .int) [] RrmLen0 [] #[(.ref x)] h0 (QrmLen0 Z x b kb cs h0) := by
  have ⟨hw, hEL, O2, P5, O4, P6, OA, OH, OB⟩ := hcx
  refine Met.start (a0 := a0) (Ls := #[vR x]) pn13 hEL O0 (fun m => by first | (simp [entryFrame, mkF, argsToLocals, Value.category]; done) | rfl) ?_
  intro p e s m below meth cc T0 vm0 X0 sf0_ hby hml hret hnm
  have hx := X0.hx
  have D : ∀ {n r}, decode B13 n = r → decode cc.code n = r := fun d => hb hby d
  have zz := X0.ge
  have A0 := X0.at
  have l1 := ltA Pr0.lt
  have l2 := ltA Pr0.lb
  have l4 := Pr0.2.2.2.2.2
  refine Gets.via (fun _ k => (XS.aloadN A0 hx rfl (D d13_0) rfl rfl k)) ?_
  refine X0.getF (host := "") (Or.inl (w32 hw)) Via.refl Pr0.2.2.1 rfl rfl (D d13_1) fun T3 X3 => ?_
  refine X3.alen Pr0.2.2.2.1 rfl rfl (D d13_4) ?_
  have A4 := X3.at
  refine Gets.via (fun _ k => (XS.aloadN A4 hx rfl (D d13_5) rfl rfl k)) ?_
  refine X3.callV (W := 1) (w84 hw) (w85 hw) (w87 hw) (w86 hw) (nfs rfl (w87 hw)) (by decide) (X3.payM (sf := []) (rmCoder0 hcx x h0 X3.old Pr0.1 Pr0.2.1) sf0 (w88 hw) (w6 hw)) Pr0.1 rfl (sz hml rfl) (argsL := []) (rest := [(.int (Int32.ofNat (cs).length))]) (lenOf pd1 rfl) rfl rfl (mroom rfl rfl) (D d13_6) (by decide) (by decide) fun T5 h5 vm5 v5 X5 C5 z5 q5 => ?_
  obtain ⟨rfl, K5⟩ := q5
  rw [K5] at X5 C5
  show Gets p e below _ (T5.setTop (mkF m 9 #[vR x] [(.int (0 : Int32)), (.int (Int32.ofNat (cs).length))]))
  have A6 := X5.at
  refine Gets.via (fun _ k => (ishrV A6 hx rfl (D d13_9) rfl (v := (Int32.ofNat (cs).length)) (shr0 _) k)) ?_
  exact X5.retI hret rfl (by simp) (D d13_10) (by decide) (by decide) (fun vmE CE => ⟨rfl, rfl⟩)
abbrev RrmLen1 : Room := { frames := 1, cells := 0, slots := 0, locals := 13 }
def QrmLen1 (Z : State) (x : Addr) (b : Addr) (kb : ClassId) (cs : List Int32) (h0 : Heap) (v : Option Value) (vm : Vm) (h : Heap) : Prop := v = some (.int (Int32.ofNat (cs).length)) ∧ h = h0
theorem rmLen1 (hcx : Cx Z a0 zc fm) (x : Addr) (b : Addr) (kb : ClassId) (cs : List Int32) (h0 : Heap) (O0 : Old Z Z.heap.size h0) (Pr0 : StrU Z h0 x b kb cs) : Met l Z consts_1 (⟨"java/lang/String", "length", "()I"⟩ : MethodName) jdk_42_method_54_code 1 (some .int) [] RrmLen1 [] #[(.ref x)] h0 (QrmLen1 Z x b kb cs h0) := by
  have ⟨hw, hEL, O2, P5, O4, P6, OA, OH, OB⟩ := hcx
  refine Met.start (a0 := a0) (Ls := #[vR x]) pn13 hEL O0 (fun m => by first | (simp [entryFrame, mkF, argsToLocals, Value.category]; done) | rfl) ?_
  intro p e s m below meth cc T0 vm0 X0 sf0_ hby hml hret hnm
  have hx := X0.hx
  have D : ∀ {n r}, decode B13 n = r → decode cc.code n = r := fun d => hb hby d
  have zz := X0.ge
  have A0 := X0.at
  have l1 := ltA Pr0.lt
  have l2 := ltA Pr0.lb
  have l4 := Pr0.2.2.2.2.2
  refine Gets.via (fun _ k => (XS.aloadN A0 hx rfl (D d13_0) rfl rfl k)) ?_
  refine X0.getF (host := "") (Or.inl (w32 hw)) Via.refl Pr0.2.2.1 rfl rfl (D d13_1) fun T3 X3 => ?_
  refine X3.alen Pr0.2.2.2.1 rfl rfl (D d13_4) ?_
  have A4 := X3.at
  refine Gets.via (fun _ k => (XS.aloadN A4 hx rfl (D d13_5) rfl rfl k)) ?_
  refine X3.callV (W := 1) (w84 hw) (w85 hw) (w87 hw) (w86 hw) (nfs rfl (w87 hw)) (by decide) (X3.payM (sf := []) (rmCoder1 hcx x h0 X3.old Pr0.1 Pr0.2.1) sf0 (w88 hw) (w6 hw)) Pr0.1 rfl (sz hml rfl) (argsL := []) (rest := [(.int (Int32.ofNat (2 * (cs).length)))]) (lenOf pd1 rfl) rfl rfl (mroom rfl rfl) (D d13_6) (by decide) (by decide) fun T5 h5 vm5 v5 X5 C5 z5 q5 => ?_
  obtain ⟨rfl, K5⟩ := q5
  rw [K5] at X5 C5
  show Gets p e below _ (T5.setTop (mkF m 9 #[vR x] [(.int (1 : Int32)), (.int (Int32.ofNat (2 * (cs).length)))]))
  have A6 := X5.at
  refine Gets.via (fun _ k => (ishrV A6 hx rfl (D d13_9) rfl (v := (Int32.ofNat (cs).length)) (shr1 (by omega)) k)) ?_
  exact X5.retI hret rfl (by simp) (D d13_10) (by decide) (by decide) (fun vmE CE => ⟨rfl, rfl⟩)
abbrev Rrm39 : Room := { frames := 0, cells := 0, slots := 0, locals := 0 }
def Qrm39 (Z : State) (u : Int32) (w : Int32) (fq : Value) (h0 : Heap) (v : Option Value) (vm : Vm) (h : Heap) : Prop := v = some (.int u) ∧ h = h0
theorem rm39 (hcx : Cx Z a0 zc fm) (u : Int32) (w : Int32) (fq : Value) (h0 : Heap) (O0 : Old Z Z.heap.size h0) (Pr0 : ¬ u < (0 : Int32)) (Pr1 : u < w) (Pr2 : fq.isRef = true) : Met l Z consts_1 (⟨"jdk/internal/util/Preconditions", "checkIndex", "(IILjava/util/function/BiFunction;)I"⟩ : MethodName) jdk_41_method_11_code 3 (some .int) [] Rrm39 [] #[(.int u), (.int w), fq] h0 (Qrm39 Z u w fq h0) := by
  have ⟨hw, hEL, O2, P5, O4, P6, OA, OH, OB⟩ := hcx
  refine Met.start (a0 := a0) (Ls := #[vI u, vI w, .val fq]) pn39 hEL O0 (fun m => by revert Pr2; cases fq <;> intro Pr2 <;> first | exact nomatch (show false = true from Pr2) | (first | (simp [entryFrame, mkF, argsToLocals, Value.category]; done) | rfl)) ?_
  intro p e s m below meth cc T0 vm0 X0 sf0_ hby hml hret hnm
  have hx := X0.hx
  have D : ∀ {n r}, decode B39 n = r → decode cc.code n = r := fun d => hb hby d
  have zz := X0.ge
  have A0 := X0.at
  refine Gets.via (fun _ k => (XS.iloadN A0 hx rfl (D d39_0) rfl (XS.ifNo A0 hx rfl (D d39_1) rfl (Jvm.Free.XT.i0_lt_f Pr0) k))) ?_
  refine Gets.via (fun _ k => (XS.iloadN A0 hx rfl (D d39_4) rfl (XS.iloadN A0 hx rfl (D d39_5) rfl (XS.icmpYes A0 hx rfl (pc0 := 6) (pc' := 16) rfl (D d39_6) rfl (Jvm.Free.XT.ii_lt_t Pr1) (by decide) (by decide) k)))) ?_
  refine Gets.via (fun _ k => (XS.iloadN A0 hx rfl (D d39_16) rfl k)) ?_
  exact X0.retI hret rfl (by simp) (D d39_17) (by decide) (by decide) (fun vmE CE => ⟨rfl, rfl⟩)
abbrev Rrm38 : Room := { frames := 1, cells := 0, slots := 0, locals := 14 }
def Qrm38 (Z : State) (u : Int32) (w : Int32) (h0 : Heap) (v : Option Value) (vm : Vm) (h : Heap) : Prop := v = none ∧ h = h0
theorem rm38 (hcx : Cx Z a0 zc fm) (u : Int32) (w : Int32) (h0 : Heap) (O0 : Old Z Z.heap.size h0) (Pr0 : ¬ u < (0 : Int32)) (Pr1 : u < w) : Met l Z consts_1 (⟨"java/lang/String", "checkIndex", "(II)V"⟩ : MethodName) jdk_42_method_155_code 2 (none) [] Rrm38 [] #[(.int u), (.int w)] h0 (Qrm38 Z u w h0) := by
  have ⟨hw, hEL, O2, P5, O4, P6, OA, OH, OB⟩ := hcx
  refine Met.start (a0 := a0) (Ls := #[vI u, vI w]) pn38 hEL O0 (fun m => by first | (simp [entryFrame, mkF, argsToLocals, Value.category]; done) | rfl) ?_
  intro p e s m below meth cc T0 vm0 X0 sf0_ hby hml hret hnm
  have hx := X0.hx
  have D : ∀ {n r}, decode B38 n = r → decode cc.code n = r := fun d => hb hby d
  have zz := X0.ge
  have A0 := X0.at
  refine Gets.via (fun _ k => (XS.iloadN A0 hx rfl (D d38_0) rfl (XS.iloadN A0 hx rfl (D d38_1) rfl k))) ?_
  refine X0.getS (host := "") (Or.inl (w203 hw)) Via.refl (X0.sta O4) rfl (D d38_2) fun T1 X1 => ?_
  refine X1.callS (W := 0) (w205 hw) (w206 hw) (w204 hw) (w207 hw) (by decide) (X1.payM (sf := []) (rm39 hcx u w fm h0 X1.old Pr0 Pr1 P6) sf0 (w207 hw) (w204 hw)) rfl (sz hml rfl) (argsL := [(.int u), (.int w), fm]) (rest := []) (lenOf pd2 rfl) rfl rfl (mroom rfl rfl) (D d38_5) (by decide) (by decide) fun T2 h2 vm2 v2 X2 C2 z2 q2 => ?_
  obtain ⟨rfl, K2⟩ := q2
  rw [K2] at X2 C2
  have A3 := X2.at
  refine Gets.via (fun _ k => (XS.pop A3 hx rfl (D d38_8) rfl rfl k)) ?_
  show Gets p e below _ (T2.setTop (mkF m 9 #[vI u, vI w] []))
  exact X2.retV hret (D d38_9) (by decide) (by decide) (fun vmE CE => ⟨rfl, rfl⟩)
abbrev RrmULen : Room := { frames := 0, cells := 0, slots := 0, locals := 0 }
def QrmULen (Z : State) (d : Addr) (kd : ClassId) (n : Nat) (vs : List Value) (h0 : Heap) (v : Option Value) (vm : Vm) (h : Heap) : Prop := v = some (.int (Int32.ofNat n)) ∧ h = h0
theorem rmULen (hcx : Cx Z a0 zc fm) (d : Addr) (kd : ClassId) (n : Nat) (vs : List Value) (h0 : Heap) (O0 : Old Z Z.heap.size h0) (Pr0 : Arv Z h0 d kd .byte (Int32.ofNat (2 * n)) vs (.int (0 : Int32))) (Pr1 : n ≤ 2000) : Met l Z consts_1 (⟨"java/lang/StringUTF16", "length", "([B)I"⟩ : MethodName) jdk_52_method_6_code 1 (some .int) [] RrmULen [] #[(.ref d)] h0 (QrmULen Z d kd n vs h0) := by
  have ⟨hw, hEL, O2, P5, O4, P6, OA, OH, OB⟩ := hcx
  refine Met.start (a0 := a0) (Ls := #[vR d]) pn49 hEL O0 (fun m => by first | (simp [entryFrame, mkF, argsToLocals, Value.category]; done) | rfl) ?_
  intro p e s m below meth cc T0 vm0 X0 sf0_ hby hml hret hnm
  have hx := X0.hx
  have D : ∀ {n r}, decode B49 n = r → decode cc.code n = r := fun d => hb hby d
  have zz := X0.ge
  have A0 := X0.at
  have l1 := ltA Pr0.lt
  refine Gets.via (fun _ k => (XS.aloadN A0 hx rfl (D d49_0) rfl rfl k)) ?_
  refine X0.alen Pr0 rfl rfl (D d49_1) ?_
  refine Gets.via (fun _ k => (XS.iconst A0 hx rfl (D d49_2) (ishrV A0 hx rfl (D d49_3) rfl (v := (Int32.ofNat n)) (shr1 (by omega)) k))) ?_
  exact X0.retI hret rfl (by simp) (D d49_4) (by decide) (by decide) (fun vmE CE => ⟨rfl, rfl⟩)
abbrev RrmUChk : Room := { frames := 2, cells := 0, slots := 0, locals := 27 }
def QrmUChk (Z : State) (i : Nat) (d : Addr) (kd : ClassId) (n : Nat) (vs : List Value) (h0 : Heap) (v : Option Value) (vm : Vm) (h : Heap) : Prop := v = none ∧ h = h0
theorem rmUChk (hcx : Cx Z a0 zc fm) (i : Nat) (d : Addr) (kd : ClassId) (n : Nat) (vs : List Value) (h0 : Heap) (O0 : Old Z Z.heap.size h0) (Pr0 : Arv Z h0 d kd .byte (Int32.ofNat (2 * n)) vs (.int (0 : Int32))) (Pr1 : n ≤ 2000) (Pr2 : i < n) : Met l Z consts_1 (⟨"java/lang/StringUTF16", "checkIndex", "(I[B)V"⟩ : MethodName) jdk_52_method_91_code 2 (none) [] RrmUChk [] #[(.int (Int32.ofNat i)), (.ref d)] h0 (QrmUChk Z i d kd n vs h0) := by
  have ⟨hw, hEL, O2, P5, O4, P6, OA, OH, OB⟩ := hcx
  refine Met.start (a0 := a0) (Ls := #[vI (Int32.ofNat i), vR d]) pn53 hEL O0 (fun m => by first | (simp [entryFrame, mkF, argsToLocals, Value.category]; done) | rfl) ?_
  intro p e s m below meth cc T0 vm0 X0 sf0_ hby hml hret hnm
  have hx := X0.hx
  have D : ∀ {n r}, decode B53 n = r → decode cc.code n = r := fun d => hb hby d
  have zz := X0.ge
  have A0 := X0.at
  have l1 := ltA Pr0.lt
  have u2 : ¬ (Int32.ofNat i) < (0 : Int32) := of_pos (by omega)
  have u3 : (Int32.ofNat i) < (Int32.ofNat n) := of_lt (by omega) (by omega)
  refine Gets.via (fun _ k => (XS.iloadN A0 hx rfl (D d53_0) rfl (XS.aloadN A0 hx rfl (D d53_1) rfl rfl k))) ?_
  refine X0.callS (W := 1) (w242 hw) (w243 hw) (w21 hw) (w244 hw) (by decide) (X0.payM (sf := []) (rmULen hcx d kd n vs h0 X0.old Pr0 Pr1) sf0 (w244 hw) (w21 hw)) rfl (sz hml rfl) (argsL := [(.ref d)]) (rest := [(.int (Int32.ofNat i))]) (lenOf pd3 rfl) rfl rfl (mroom rfl rfl) (D d53_2) (by decide) (by decide) fun T4 h4 vm4 v4 X4 C4 z4 q4 => ?_
  obtain ⟨rfl, K4⟩ := q4
  rw [K4] at X4 C4
  refine X4.callS (W := 0) (w257 hw) (w201 hw) (w6 hw) (w202 hw) (by decide) (X4.payM (sf := []) (rm38 hcx (Int32.ofNat i) (Int32.ofNat n) h0 X4.old u2 u3) sf0 (w202 hw) (w6 hw)) rfl (sz hml rfl) (argsL := [(.int (Int32.ofNat i)), (.int (Int32.ofNat n))]) (rest := []) (lenOf pd4 rfl) rfl rfl (mroom rfl rfl) (D d53_5) (by decide) (by decide) fun T5 h5 vm5 v5 X5 C5 z5 q5 => ?_
  obtain ⟨rfl, K5⟩ := q5
  rw [K5] at X5 C5
  exact X5.retV hret (D d53_8) (by decide) (by decide) (fun vmE CE => ⟨rfl, rfl⟩)
abbrev RrmGetC : Room := { frames := 0, cells := 0, slots := 0, locals := 0 }
def QrmGetC (Z : State) (d : Addr) (i : Nat) (kd : ClassId) (z : Int32) (M : Nat) (cs : List Int32) (h0 : Heap) (v : Option Value) (vm : Vm) (h : Heap) : Prop := v = some (.int (cs.getD i 0)) ∧ h = h0
theorem rmGetC (hcx : Cx Z a0 zc fm) (d : Addr) (i : Nat) (kd : ClassId) (z : Int32) (M : Nat) (cs : List Int32) (h0 : Heap) (O0 : Old Z Z.heap.size h0) (Pr0 : Arv Z h0 d kd .byte z (enc16 cs) (.int (0 : Int32))) (Pr1 : z.toNatClampNeg = M) (Pr2 : M ≤ 4000) (Pr3 : 2 * (cs).length ≤ M) (Pr4 : i < (cs).length) (Pr5 : ∀ z_ ∈ cs, ¬ z_ < 0 ∧ ¬ (65535 : Int32) < z_) : Met l Z consts_1 (⟨"java/lang/StringUTF16", "getChar", "([BI)C"⟩ : MethodName) jdk_52_method_5_code 2 (some .char) [] RrmGetC [] #[(.ref d), (.int (Int32.ofNat i))] h0 (QrmGetC Z d i kd z M cs h0) := by
  have ⟨hw, hEL, O2, P5, O4, P6, OA, OH, OB⟩ := hcx
  refine Met.start (a0 := a0) (Ls := #[vR d, vI (Int32.ofNat i)]) pn44 hEL O0 (fun m => by first | (simp [entryFrame, mkF, argsToLocals, Value.category]; done) | rfl) ?_
  intro p e s m below meth cc T0 vm0 X0 sf0_ hby hml hret hnm
  have hx := X0.hx
  have D : ∀ {n r}, decode B44 n = r → decode cc.code n = r := fun d => hb hby d
  have zz := X0.ge
  have A0 := X0.at
  have l1 := ltA Pr0.lt
  have hr := mem_getD Pr4 Pr5
  refine X0.getS (host := "") (Or.inl (w221 hw)) Via.refl (X0.sta OA) rfl (D d44_0) fun T2 X2 => ?_
  have A3 := X2.at
  refine Gets.via (fun _ k => (XS.ifYes A3 hx rfl (pc0 := 3) (pc' := 28) rfl (D d44_3) rfl (Jvm.Free.XT.i0_ne_t (by decide)) (by decide) (by decide) k)) ?_
  refine Gets.via (fun _ k => (XS.iloadN A3 hx rfl (D d44_28) rfl (XS.iconst A3 hx rfl (D d44_29) (ishlV A3 hx rfl (D d44_30) rfl (v := (Int32.ofNat (2 * i))) (shl1 _) (XS.istoreN A3 hx rfl (D d44_31) rfl (l' := #[vR d, vI (Int32.ofNat (2 * i))]) rfl (XS.aloadN A3 hx rfl (D d44_32) rfl rfl (XS.iloadN A3 hx rfl (D d44_33) rfl k))))))) ?_
  show Gets p e below _ (T2.setTop (mkF m 34 #[vR d, vI (Int32.ofNat (2 * i))] [(.int (Int32.ofNat (2 * i))), (.ref d)]))
  refine Gets.via (fun _ k => (XS.iinc A3 hx rfl (D d44_34) rfl (l' := #[vR d, vI ((Int32.ofNat (2 * i)) + (1 : Int32))]) rfl k)) ?_
  show Gets p e below _ (T2.setTop (mkF m 37 #[vR d, vI ((Int32.ofNat (2 * i)) + (1 : Int32))] [(.int (Int32.ofNat (2 * i))), (.ref d)]))
  rw [show Int32.ofNat (2 * i) + (1 : Int32) = Int32.ofNat (2 * i + 1) from of_add (2 * i) 1]
  refine X2.ldB Pr0 (j := (Int32.ofNat (2 * i))) (i := 2 * i) (of_pos (by omega)) (toN (by omega)) (by rw [Pr1]; omega) (v := (.int ((cs.getD i 0).toInt8.toInt32))) (e16_lo Pr4) rfl rfl (D d44_37) ?_
  refine Gets.via (fun _ k => (XS.sipush A3 hx rfl (D d44_38) (XS.iand A3 hx rfl (D d44_41) rfl k))) ?_
  refine X2.getS (host := "") (Or.inl (w222 hw)) Via.refl (X2.sta OH) rfl (D d44_42) fun T4 X4 => ?_
  have A5 := X4.at
  refine Gets.via (fun _ k => (ishlV A5 hx rfl (D d44_45) rfl (v := ((((cs.getD i 0).toInt8.toInt32) &&& (255 : Int32)) <<< ((0 : Int32) &&& (31 : Int32)))) rfl (XS.aloadN A5 hx rfl (D d44_46) rfl rfl (XS.iloadN A5 hx rfl (D d44_47) rfl k)))) ?_
  show Gets p e below _ (T4.setTop (mkF m 48 #[vR d, vI (Int32.ofNat (2 * i + 1))] [(.int (Int32.ofNat (2 * i + 1))), (.ref d), (.int ((((cs.getD i 0).toInt8.toInt32) &&& (255 : Int32)) <<< ((0 : Int32) &&& (31 : Int32))))]))
  refine X4.ldB Pr0 (j := (Int32.ofNat (2 * i + 1))) (i := 2 * i + 1) (of_pos (by omega)) (toN (by omega)) (by rw [Pr1]; omega) (v := (.int (((cs.getD i 0) >>> ((8 : Int32) &&& (31 : Int32))).toInt8.toInt32))) (e16_hi Pr4) rfl rfl (D d44_48) ?_
  refine Gets.via (fun _ k => (XS.sipush A5 hx rfl (D d44_49) (XS.iand A5 hx rfl (D d44_52) rfl k))) ?_
  refine X4.getS (host := "") (Or.inl (w223 hw)) Via.refl (X4.sta OB) rfl (D d44_53) fun T6 X6 => ?_
  have A7 := X6.at
  refine Gets.via (fun _ k => (ishlV A7 hx rfl (D d44_56) rfl (v := (((((cs.getD i 0) >>> ((8 : Int32) &&& (31 : Int32))).toInt8.toInt32) &&& (255 : Int32)) <<< ((8 : Int32) &&& (31 : Int32)))) rfl (XS.ior A7 hx rfl (D d44_57) rfl (i2cV A7 hx rfl (D d44_58) rfl (v := (cs.getD i 0)) (StrChars.pair_says hr.1 hr.2) k)))) ?_
  exact X6.retI hret (nar16 hr) (by simp) (D d44_59) (by decide) (by decide) (fun vmE CE => ⟨rfl, rfl⟩)
abbrev RrmPutC : Room := { frames := 0, cells := 0, slots := 0, locals := 0 }
def QrmPutC (Z : State) (d : Addr) (n : Nat) (u : Int32) (kd : ClassId) (z : Int32) (M : Nat) (vs : List Value) (h0 : Heap) (v : Option Value) (vm : Vm) (h : Heap) : Prop := v = none ∧ Keep h0 h [d] ∧ Arv Z h d kd .byte z ((vs ++ [(.int (u.toInt8.toInt32))]) ++ [(.int ((u >>> ((8 : Int32) &&& (31 : Int32))).toInt8.toInt32))]) (.int (0 : Int32))
theorem rmPutC (hcx : Cx Z a0 zc fm) (d : Addr) (n : Nat) (u : Int32) (kd : ClassId) (z : Int32) (M : Nat) (vs : List Value) (h0 : Heap) (O0 : Old Z Z.heap.size h0) (Pr0 : Arv Z h0 d kd .byte z vs (.int (0 : Int32))) (Pr1 : z.toNatClampNeg = M) (Pr2 : M ≤ 4000) (Pr3 : vs.length = 2 * n) (Pr4 : 2 * n + 2 ≤ M) (Pr5 : Z.heap.size ≤ d) : Met l Z consts_1 (⟨"java/lang/StringUTF16", "putChar", "([BII)V"⟩ : MethodName) jdk_52_method_4_code 3 (none) [] RrmPutC [d] #[(.ref d), (.int (Int32.ofNat n)), (.int u)] h0 (QrmPutC Z d n u kd z M vs h0) := by
  have ⟨hw, hEL, O2, P5, O4, P6, OA, OH, OB⟩ := hcx
  refine Met.start (a0 := a0) (Ls := #[vR d, vI (Int32.ofNat n), vI u]) pn43 hEL O0 (fun m => by first | (simp [entryFrame, mkF, argsToLocals, Value.category]; done) | rfl) ?_
  intro p e s m below meth cc T0 vm0 X0 sf0_ hby hml hret hnm
  have hx := X0.hx
  have D : ∀ {n r}, decode B43 n = r → decode cc.code n = r := fun d => hb hby d
  have zz := X0.ge
  have A0 := X0.at
  have l1 := ltA Pr0.lt
  have s2 := sf0_ d (memI (i := 0) rfl)
  refine X0.getS (host := "") (Or.inl (w221 hw)) Via.refl (X0.sta OA) rfl (D d43_0) fun T3 X3 => ?_
  have A4 := X3.at
  refine Gets.via (fun _ k => (XS.ifYes A4 hx rfl (pc0 := 3) (pc' := 28) rfl (D d43_3) rfl (Jvm.Free.XT.i0_ne_t (by decide)) (by decide) (by decide) k)) ?_
  refine Gets.via (fun _ k => (XS.iloadN A4 hx rfl (D d43_28) rfl (XS.iconst A4 hx rfl (D d43_29) (ishlV A4 hx rfl (D d43_30) rfl (v := (Int32.ofNat (2 * n))) (shl1 _) (XS.istoreN A4 hx rfl (D d43_31) rfl (l' := #[vR d, vI (Int32.ofNat (2 * n)), vI u]) rfl (XS.aloadN A4 hx rfl (D d43_32) rfl rfl (XS.iloadN A4 hx rfl (D d43_33) rfl k))))))) ?_
  show Gets p e below _ (T3.setTop (mkF m 34 #[vR d, vI (Int32.ofNat (2 * n)), vI u] [(.int (Int32.ofNat (2 * n))), (.ref d)]))
  refine Gets.via (fun _ k => (XS.iinc A4 hx rfl (D d43_34) rfl (l' := #[vR d, vI ((Int32.ofNat (2 * n)) + (1 : Int32)), vI u]) rfl (XS.iloadN A4 hx rfl (D d43_37) rfl k))) ?_
  show Gets p e below _ (T3.setTop (mkF m 38 #[vR d, vI ((Int32.ofNat (2 * n)) + (1 : Int32)), vI u] [(.int u), (.int (Int32.ofNat (2 * n))), (.ref d)]))
  rw [show Int32.ofNat (2 * n) + (1 : Int32) = Int32.ofNat (2 * n + 1) from of_add (2 * n) 1]
  refine X3.getS (host := "") (Or.inl (w222 hw)) Via.refl (X3.sta OH) rfl (D d43_38) fun T5 X5 => ?_
  have A6 := X5.at
  refine Gets.via (fun _ k => (ishrV A6 hx rfl (D d43_41) rfl (v := u) (shr0 _) (XS.i2b A6 hx rfl (D d43_42) rfl k))) ?_
  refine X5.stB (Pr0.pad (pad_rep _ _ 1)) (i := 2 * n) (of_pos (by omega)) (toN (by omega)) (by rw [List.length_append, Pr3]; simp) (by rw [Pr1]; omega) (v := (u.toInt8.toInt32)) (nar_b _) s2 (leA (by omega)) rfl rfl (D d43_43) fun T7 h7 X7 C7 K7 V7 => ?_
  have z7 := K7.1
  have V7_ : Arv Z h7 d kd .byte z (vs ++ [(.int (u.toInt8.toInt32))]) (.int (0 : Int32)) := setA V7 Pr3.symm
  have A8 := X7.at
  refine Gets.via (fun _ k => (XS.aloadN A8 hx rfl (D d43_44) rfl rfl (XS.iloadN A8 hx rfl (D d43_45) rfl (XS.iloadN A8 hx rfl (D d43_46) rfl k)))) ?_
  show Gets p e below _ (T7.setTop (mkF m 47 #[vR d, vI (Int32.ofNat (2 * n + 1)), vI u] [(.int u), (.int (Int32.ofNat (2 * n + 1))), (.ref d)]))
  refine X7.getS (host := "") (Or.inl (w223 hw)) Via.refl (X7.sta OB) rfl (D d43_47) fun T9 X9 => ?_
  have A10 := X9.at
  refine Gets.via (fun _ k => (ishrV A10 hx rfl (D d43_50) rfl (v := (u >>> ((8 : Int32) &&& (31 : Int32)))) rfl (XS.i2b A10 hx rfl (D d43_51) rfl k))) ?_
  have f12 := C7.safe (x := d) (ltA (by omega)) s2
  refine X9.stB (V7_.pad (pad_rep _ _ 1)) (i := 2 * n + 1) (of_pos (by omega)) (toN (by omega)) (by rw [List.length_append, List.length_append, Pr3]; simp) (by rw [Pr1]; omega) (v := ((u >>> ((8 : Int32) &&& (31 : Int32))).toInt8.toInt32)) (nar_b _) f12 (leA (by omega)) rfl rfl (D d43_52) fun T11 h11 X11 C11 K11 V11 => ?_
  have z11 := K11.1
  have V11_ : Arv Z h11 d kd .byte z ((vs ++ [(.int (u.toInt8.toInt32))]) ++ [(.int ((u >>> ((8 : Int32) &&& (31 : Int32))).toInt8.toInt32))]) (.int (0 : Int32)) := setA V11 (by rw [List.length_append, Pr3]; rfl)
  exact X11.retV hret (D d43_53) (by decide) (by decide) (fun vmE CE => ⟨rfl, (((Keep.refl h0 [d]).trans K7 (allS (Or.inl (memI (i := 0) rfl)) all0)).trans K11 (allS (Or.inl (memI (i := 0) rfl)) all0)), V11_⟩)
abbrev Rrm36 : Room := { frames := 0, cells := 0, slots := 0, locals := 0 }
def Qrm36 (Z : State) (x : Addr) (h0 : Heap) (v : Option Value) (vm : Vm) (h : Heap) : Prop := v = some (.int (1 : Int32)) ∧ h = h0
theorem rm36 (hcx : Cx Z a0 zc fm) (x : Addr) (h0 : Heap) (O0 : Old Z Z.heap.size h0) (Pr0 : Exa Z h0 x "java/lang/String") (Pr1 : Fld Z h0 x "java/lang/String" "coder" "B" (.int (0 : Int32))) : Met l Z consts_1 (⟨"java/lang/String", "isLatin1", "()Z"⟩ : MethodName) jdk_42_method_154_code 1 (some .boolean) [] Rrm36 [] #[(.ref x)] h0 (Qrm36 Z x h0) := by
  have ⟨hw, hEL, O2, P5, O4, P6, OA, OH, OB⟩ := hcx
  refine Met.start (a0 := a0) (Ls := #[vR x]) pn36 hEL O0 (fun m => by first | (simp [entryFrame, mkF, argsToLocals, Value.category]; done) | rfl) ?_
  intro p e s m below meth cc T0 vm0 X0 sf0_ hby hml hret hnm
  have hx := X0.hx
  have D : ∀ {n r}, decode B36 n = r → decode cc.code n = r := fun d => hb hby d
  have zz := X0.ge
  have A0 := X0.at
  have l1 := ltA Pr0.lt
  refine X0.getS (host := "") (Or.inl (w18 hw)) Via.refl (X0.sta O2) rfl (D d36_0) fun T2 X2 => ?_
  have A3 := X2.at
  refine Gets.via (fun _ k => (XS.ifNo A3 hx rfl (D d36_3) rfl (Jvm.Free.XT.i0_eq_f P5) k)) ?_
  refine Gets.via (fun _ k => (XS.aloadN A3 hx rfl (D d36_6) rfl rfl k)) ?_
  refine X2.getF (host := "") (Or.inl (w30 hw)) Via.refl Pr1 rfl rfl (D d36_7) fun T4 X4 => ?_
  have A5 := X4.at
  refine Gets.via (fun _ k => (XS.ifNo A5 hx rfl (D d36_10) rfl (Jvm.Free.XT.i0_ne_f (by decide)) k)) ?_
  show Gets p e below _ (T4.setTop (mkF m 13 #[vR x] []))
  refine Gets.via (fun _ k => (XS.iconst A5 hx rfl (D d36_13) (XS.goto A5 hx rfl (pc0 := 14) (pc' := 18) rfl (D d36_14) (by decide) (by decide) k))) ?_
  exact X4.retI hret (by decide) (by simp) (D d36_18) (by decide) (by decide) (fun vmE CE => ⟨rfl, rfl⟩)
abbrev Rrm33 : Room := { frames := 0, cells := 0, slots := 0, locals := 0 }
def Qrm33 (Z : State) (u : Int32) (w : Int32) (h0 : Heap) (v : Option Value) (vm : Vm) (h : Heap) : Prop := v = none ∧ h = h0
theorem rm33 (hcx : Cx Z a0 zc fm) (u : Int32) (w : Int32) (h0 : Heap) (O0 : Old Z Z.heap.size h0) (Pr0 : ¬ w < u) : Met l Z consts_1 (⟨"java/util/Arrays", "checkLength", "(II)V"⟩ : MethodName) jdk_65_method_131_code 2 (none) [] Rrm33 [] #[(.int u), (.int w)] h0 (Qrm33 Z u w h0) := by
  have ⟨hw, hEL, O2, P5, O4, P6, OA, OH, OB⟩ := hcx
  refine Met.start (a0 := a0) (Ls := #[vI u, vI w]) pn33 hEL O0 (fun m => by first | (simp [entryFrame, mkF, argsToLocals, Value.category]; done) | rfl) ?_
  intro p e s m below meth cc T0 vm0 X0 sf0_ hby hml hret hnm
  have hx := X0.hx
  have D : ∀ {n r}, decode B33 n = r → decode cc.code n = r := fun d => hb hby d
  have zz := X0.ge
  have A0 := X0.at
  refine Gets.via (fun _ k => (XS.iloadN A0 hx rfl (D d33_0) rfl (XS.iloadN A0 hx rfl (D d33_1) rfl (XS.icmpYes A0 hx rfl (pc0 := 2) (pc' := 37) rfl (D d33_2) rfl (Jvm.Free.XT.ii_ge_t Pr0) (by decide) (by decide) k)))) ?_
  exact X0.retV hret (D d33_37) (by decide) (by decide) (fun vmE CE => ⟨rfl, rfl⟩)
abbrev RrmMin : Room := { frames := 0, cells := 0, slots := 0, locals := 0 }
def QrmMin (Z : State) (u : Int32) (w : Int32) (h0 : Heap) (v : Option Value) (vm : Vm) (h : Heap) : Prop := ∃ (r : Int32), v = some (.int r) ∧ h = h0 ∧ r = w
theorem rmMin (hcx : Cx Z a0 zc fm) (u : Int32) (w : Int32) (h0 : Heap) (O0 : Old Z Z.heap.size h0) (Pr0 : ¬ u < w) : Met l Z consts_1 (⟨"java/lang/Math", "min", "(II)I"⟩ : MethodName) jdk_29_method_69_code 2 (some .int) [] RrmMin [] #[(.int u), (.int w)] h0 (QrmMin Z u w h0) := by
  have ⟨hw, hEL, O2, P5, O4, P6, OA, OH, OB⟩ := hcx
  refine Met.start (a0 := a0) (Ls := #[vI u, vI w]) pn34 hEL O0 (fun m => by first | (simp [entryFrame, mkF, argsToLocals, Value.category]; done) | rfl) ?_
  intro p e s m below meth cc T0 vm0 X0 sf0_ hby hml hret hnm
  have hx := X0.hx
  have D : ∀ {n r}, decode B34 n = r → decode cc.code n = r := fun d => hb hby d
  have zz := X0.ge
  have A0 := X0.at
  refine Gets.via (fun _ k => (XS.iloadN A0 hx rfl (D d34_0) rfl (XS.iloadN A0 hx rfl (D d34_1) rfl k))) ?_
  by_cases b2 : w < u
  · refine Gets.via (fun _ k => (XS.icmpYes A0 hx rfl (pc0 := 2) (pc' := 9) rfl (D d34_2) rfl (Jvm.Free.XT.ii_gt_t b2) (by decide) (by decide) k)) ?_
    refine Gets.via (fun _ k => (XS.iloadN A0 hx rfl (D d34_9) rfl k)) ?_
    exact X0.retI hret rfl (by simp) (D d34_10) (by decide) (by decide) (fun vmE CE => ⟨w, rfl, rfl, rfl⟩)
  · refine Gets.via (fun _ k => (XS.icmpNo A0 hx rfl (D d34_2) rfl (Jvm.Free.XT.ii_gt_f b2) k)) ?_
    refine Gets.via (fun _ k => (XS.iloadN A0 hx rfl (D d34_5) rfl (XS.goto A0 hx rfl (pc0 := 6) (pc' := 10) rfl (D d34_6) (by decide) (by decide) k))) ?_
    exact X0.retI hret rfl (by simp) (D d34_10) (by decide) (by decide) (fun vmE CE => ⟨u, rfl, rfl, (eq_of_le b2 Pr0)⟩)
abbrev RrmCrB : Room := { frames := 1, cells := 1, slots := 16, locals := 22 }
def QrmCrB (Z : State) (b : Addr) (kb : ClassId) (M : Nat) (vs : List Value) (i : Nat) (j : Nat) (h0 : Heap) (v : Option Value) (vm : Vm) (h : Heap) : Prop := ∃ (t : Addr) (kt : ClassId), v = some (.ref t) ∧ Keep h0 h [] ∧ Arv Z h t kt .byte (Int32.ofNat (j - i)) (slcV vs i (j - i)) (.int (0 : Int32)) ∧ h0.size ≤ t
theorem rmCrB (hcx : Cx Z a0 zc fm) (b : Addr) (kb : ClassId) (M : Nat) (vs : List Value) (i : Nat) (j : Nat) (h0 : Heap) (O0 : Old Z Z.heap.size h0) (Pr0 : Arv Z h0 b kb .byte (Int32.ofNat M) vs (.int (0 : Int32))) (Pr1 : i ≤ j) (Pr2 : j ≤ M) (Pr3 : M ≤ 4000) (Pr4 : j - i ≤ 16) : Met l Z consts_1 (⟨"java/util/Arrays", "copyOfRangeByte", "([BII)[B"⟩ : MethodName) jdk_65_method_133_code 5 (some (.array .byte)) [] RrmCrB [] #[(.ref b), (.int (Int32.ofNat i)), (.int (Int32.ofNat j))] h0 (QrmCrB Z b kb M vs i j h0) := by
  have ⟨hw, hEL, O2, P5, O4, P6, OA, OH, OB⟩ := hcx
  refine Met.start (a0 := a0) (Ls := #[vR b, vI (Int32.ofNat i), vI (Int32.ofNat j), .unset, .unset]) pn32 hEL O0 (fun m => by first | (simp [entryFrame, mkF, argsToLocals, Value.category]; done) | rfl) ?_
  intro p e s m below meth cc T0 vm0 X0 sf0_ hby hml hret hnm
  have hx := X0.hx
  have D : ∀ {n r}, decode B32 n = r → decode cc.code n = r := fun d => hb hby d
  have zz := X0.ge
  have A0 := X0.at
  have l1 := ltA Pr0.lt
  have hnl : ¬ (Int32.ofNat j) < (Int32.ofNat i) := of_nlt (by omega) (by omega) (by omega)
  have hmn : ¬ ((Int32.ofNat M) - (Int32.ofNat i)) < (Int32.ofNat (j - i)) := of_subl (by omega) (by omega)
  refine Gets.via (fun _ k => (XS.iloadN A0 hx rfl (D d32_0) rfl (XS.iloadN A0 hx rfl (D d32_1) rfl k))) ?_
  refine X0.callS (W := 0) (w178 hw) (w179 hw) (w173 hw) (w180 hw) (by decide) (X0.payM (sf := []) (rm33 hcx (Int32.ofNat i) (Int32.ofNat j) h0 X0.old hnl) sf0 (w180 hw) (w173 hw)) rfl (sz hml rfl) (argsL := [(.int (Int32.ofNat i)), (.int (Int32.ofNat j))]) (rest := []) (lenOf pd4 rfl) rfl rfl (mroom rfl rfl) (D d32_2) (by decide) (by decide) fun T2 h2 vm2 v2 X2 C2 z2 q2 => ?_
  obtain ⟨rfl, K2⟩ := q2
  rw [K2] at X2 C2
  have A3 := X2.at
  refine Gets.via (fun _ k => (XS.iloadN A3 hx rfl (D d32_5) rfl (XS.iloadN A3 hx rfl (D d32_6) rfl (XS.isub A3 hx rfl (D d32_7) rfl k)))) ?_
  show Gets p e below _ (T2.setTop (mkF m 8 #[vR b, vI (Int32.ofNat i), vI (Int32.ofNat j), .unset, .unset] [(.int ((Int32.ofNat j) - (Int32.ofNat i)))]))
  rw [of_sub (by omega) (by omega)]
  refine Gets.via (fun _ k => (XS.istoreN A3 hx rfl (D d32_8) rfl (l' := #[vR b, vI (Int32.ofNat i), vI (Int32.ofNat j), vI (Int32.ofNat (j - i)), .unset]) rfl (XS.iloadN A3 hx rfl (D d32_9) rfl k))) ?_
  refine X2.newA (aty := .byte) (w23 hw) rfl (D d32_10) rfl (of_pos (by omega)) (cap := 16) (by rw [toN (by omega)]; omega) (by decide) (by decide) (by decide) fun T4 h4 a4 k4 X4 C4 E4 g4 S4 V4 => ?_
  have z4 := E4.1
  have l4 := ltA V4.lt
  have V4_ : Arv Z h4 a4 k4 .byte (Int32.ofNat (j - i)) (List.replicate (j - i) (.int (0 : Int32))) (.int (0 : Int32)) := padN V4 (j - i)
  have A5 := X4.at
  refine Gets.via (fun _ k => (XS.astore A5 hx rfl (D d32_12) rfl rfl (l' := #[vR b, vI (Int32.ofNat i), vI (Int32.ofNat j), vI (Int32.ofNat (j - i)), vR a4]) rfl (XS.aloadN A5 hx rfl (D d32_14) rfl rfl (XS.iloadN A5 hx rfl (D d32_15) rfl (XS.aload A5 hx rfl (D d32_16) rfl rfl (XS.iconst A5 hx rfl (D d32_18) (XS.aloadN A5 hx rfl (D d32_19) rfl rfl k))))))) ?_
  show Gets p e below _ (T4.setTop (mkF m 20 #[vR b, vI (Int32.ofNat i), vI (Int32.ofNat j), vI (Int32.ofNat (j - i)), vR a4] [(.ref b), (.int (0 : Int32)), (.ref a4), (.int (Int32.ofNat i)), (.ref b)]))
  have f6 := Pr0.ext E4
  refine X4.alen f6 rfl rfl (D d32_20) ?_
  refine Gets.via (fun _ k => (XS.iloadN A5 hx rfl (D d32_21) rfl (XS.isub A5 hx rfl (D d32_22) rfl (XS.iloadN A5 hx rfl (D d32_23) rfl k)))) ?_
  refine X4.callS (W := 4) (w181 hw) (w182 hw) (w183 hw) (w184 hw) (by decide) (X4.payM (sf := []) (rmMin hcx ((Int32.ofNat M) - (Int32.ofNat i)) (Int32.ofNat (j - i)) h4 X4.old hmn) sf0 (w184 hw) (w183 hw)) rfl (sz hml rfl) (argsL := [(.int ((Int32.ofNat M) - (Int32.ofNat i))), (.int (Int32.ofNat (j - i)))]) (rest := [(.int (0 : Int32)), (.ref a4), (.int (Int32.ofNat i)), (.ref b)]) (lenOf pd5 rfl) rfl rfl (mroom rfl rfl) (D d32_24) (by decide) (by decide) fun T7 h7 vm7 v7 X7 C7 z7 q7 => ?_
  obtain ⟨r7, rfl, K7, rfl⟩ := q7
  rw [K7] at X7 C7
  have f9 := C7.safe (x := a4) (ltA (by omega)) S4
  refine X7.copy (w185 hw) (w115 hw) (w113 hw) (w114 hw) f6 V4_ (Or.inl ⟨rfl, rfl⟩) (of_pos (by omega)) (by decide) (of_pos (by omega)) (by rw [toN (by omega), toN (by omega), toN (by omega)]; omega) (by rw [toN (by omega), show (0 : Int32).toNatClampNeg = 0 from rfl]; omega) rfl (by rw [toN (by omega), List.length_replicate, show (0 : Int32).toNatClampNeg = 0 from rfl]; omega) (leA (by omega)) f9 rfl (sz hml rfl) rfl (D d32_27) (by decide) (W := 0) (mroom rfl rfl) (by decide) fun T8 h8 X8 C8 K8 V8 => ?_
  have z8 := K8.1
  have V8_ : Arv Z h8 a4 k4 .byte (Int32.ofNat (j - i)) (slcV vs i (j - i)) (.int (0 : Int32)) := (copied (vs := vs) (i := i) (k := j - i) (by omega) (by omega)) ▸ V8
  show Gets p e below _ (T8.setTop (mkF m 30 #[vR b, vI (Int32.ofNat i), vI (Int32.ofNat j), vI (Int32.ofNat (j - i)), vR a4] []))
  have A10 := X8.at
  refine Gets.via (fun _ k => (XS.aload A10 hx rfl (D d32_30) rfl rfl k)) ?_
  exact X8.retA hret rfl rfl rfl (D d32_32) (by decide) (by decide) (fun vmE CE => ⟨a4, k4, rfl, (((Keep.refl h0 []).ext E4).trans K8 (allS (Or.inr (leA (by omega))) all0)), V8_, (leA (by omega))⟩)
abbrev RrmCr : Room := { frames := 2, cells := 1, slots := 16, locals := 38 }
def QrmCr (Z : State) (b : Addr) (kb : ClassId) (M : Nat) (vs : List Value) (i : Nat) (j : Nat) (h0 : Heap) (v : Option Value) (vm : Vm) (h : Heap) : Prop := ∃ (t : Addr) (kt : ClassId), v = some (.ref t) ∧ Keep h0 h [] ∧ Arv Z h t kt .byte (Int32.ofNat (j - i)) (slcV vs i (j - i)) (.int (0 : Int32)) ∧ h0.size ≤ t
theorem rmCr (hcx : Cx Z a0 zc fm) (b : Addr) (kb : ClassId) (M : Nat) (vs : List Value) (i : Nat) (j : Nat) (h0 : Heap) (O0 : Old Z Z.heap.size h0) (Pr0 : Arv Z h0 b kb .byte (Int32.ofNat M) vs (.int (0 : Int32))) (Pr1 : i ≤ j) (Pr2 : j ≤ M) (Pr3 : M ≤ 4000) (Pr4 : j - i ≤ 16) (Pr5 : ¬ (i = 0 ∧ j = M)) : Met l Z consts_1 (⟨"java/util/Arrays", "copyOfRange", "([BII)[B"⟩ : MethodName) jdk_65_method_132_code 3 (some (.array .byte)) [] RrmCr [] #[(.ref b), (.int (Int32.ofNat i)), (.int (Int32.ofNat j))] h0 (QrmCr Z b kb M vs i j h0) := by
  have ⟨hw, hEL, O2, P5, O4, P6, OA, OH, OB⟩ := hcx
  refine Met.start (a0 := a0) (Ls := #[vR b, vI (Int32.ofNat i), vI (Int32.ofNat j)]) pn31 hEL O0 (fun m => by first | (simp [entryFrame, mkF, argsToLocals, Value.category]; done) | rfl) ?_
  intro p e s m below meth cc T0 vm0 X0 sf0_ hby hml hret hnm
  have hx := X0.hx
  have D : ∀ {n r}, decode B31 n = r → decode cc.code n = r := fun d => hb hby d
  have zz := X0.ge
  have A0 := X0.at
  have l1 := ltA Pr0.lt
  refine Gets.via (fun _ k => (XS.iloadN A0 hx rfl (D d31_0) rfl k)) ?_
  by_cases b1 : (Int32.ofNat i) = (0 : Int32)
  · refine Gets.via (fun _ k => (XS.ifNo A0 hx rfl (D d31_1) rfl (Jvm.Free.XT.i0_ne_f b1) k)) ?_
    refine Gets.via (fun _ k => (XS.iloadN A0 hx rfl (D d31_4) rfl (XS.aloadN A0 hx rfl (D d31_5) rfl rfl k))) ?_
    refine X0.alen Pr0 rfl rfl (D d31_6) ?_
    refine Gets.via (fun _ k => (XS.icmpNo A0 hx rfl (D d31_7) rfl (Jvm.Free.XT.ii_eq_f (fun q => Pr5 ⟨of_inj (by omega) (by omega) b1, of_inj (by omega) (by omega) q⟩)) k)) ?_
    refine Gets.via (fun _ k => (XS.aloadN A0 hx rfl (D d31_10) rfl rfl (XS.iloadN A0 hx rfl (D d31_11) rfl (XS.iloadN A0 hx rfl (D d31_12) rfl k)))) ?_
    show Gets p e below _ (T0.setTop (mkF m 13 #[vR b, vI (Int32.ofNat i), vI (Int32.ofNat j)] [(.int (Int32.ofNat j)), (.int (Int32.ofNat i)), (.ref b)]))
    refine X0.callS (W := 0) (w175 hw) (w176 hw) (w173 hw) (w177 hw) (by decide) (X0.payM (sf := []) (rmCrB hcx b kb M vs i j h0 X0.old Pr0 Pr1 Pr2 Pr3 Pr4) sf0 (w177 hw) (w173 hw)) rfl (sz hml rfl) (argsL := [(.ref b), (.int (Int32.ofNat i)), (.int (Int32.ofNat j))]) (rest := []) (lenOf pd6 rfl) rfl rfl (mroom rfl rfl) (D d31_13) (by decide) (by decide) fun T2 h2 vm2 v2 X2 C2 z2 q2 => ?_
    obtain ⟨t2, kt2, rfl, K2, g2_0, g2_1⟩ := q2
    have l3 := ltA g2_0.lt
    exact X2.retA hret rfl rfl rfl (D d31_16) (by decide) (by decide) (fun vmE CE => ⟨t2, kt2, rfl, ((Keep.refl h0 []).trans K2 all0), g2_0, g2_1⟩)
  · refine Gets.via (fun _ k => (XS.ifYes A0 hx rfl (pc0 := 1) (pc' := 10) rfl (D d31_1) rfl (Jvm.Free.XT.i0_ne_t b1) (by decide) (by decide) k)) ?_
    refine Gets.via (fun _ k => (XS.aloadN A0 hx rfl (D d31_10) rfl rfl (XS.iloadN A0 hx rfl (D d31_11) rfl (XS.iloadN A0 hx rfl (D d31_12) rfl k)))) ?_
    refine X0.callS (W := 0) (w175 hw) (w176 hw) (w173 hw) (w177 hw) (by decide) (X0.payM (sf := []) (rmCrB hcx b kb M vs i j h0 X0.old Pr0 Pr1 Pr2 Pr3 Pr4) sf0 (w177 hw) (w173 hw)) rfl (sz hml rfl) (argsL := [(.ref b), (.int (Int32.ofNat i)), (.int (Int32.ofNat j))]) (rest := []) (lenOf pd6 rfl) rfl rfl (mroom rfl rfl) (D d31_13) (by decide) (by decide) fun T4 h4 vm4 v4 X4 C4 z4 q4 => ?_
    obtain ⟨t4, kt4, rfl, K4, g4_0, g4_1⟩ := q4
    have l5 := ltA g4_0.lt
    exact X4.retA hret rfl rfl rfl (D d31_16) (by decide) (by decide) (fun vmE CE => ⟨t4, kt4, rfl, ((Keep.refl h0 []).trans K4 all0), g4_0, g4_1⟩)
abbrev RrmCmp1_0 : Room := { frames := 0, cells := 0, slots := 0, locals := 0 }
def QrmCmp1_0 (Z : State) (y : Addr) (d : Addr) (ky : ClassId) (kd : ClassId) (c0 : Int32) (h0 : Heap) (v : Option Value) (vm : Vm) (h : Heap) : Prop := v = some (.int (0 : Int32)) ∧ Keep h0 h [d]
theorem rmCmp1_0 (hcx : Cx Z a0 zc fm) (y : Addr) (d : Addr) (ky : ClassId) (kd : ClassId) (c0 : Int32) (h0 : Heap) (O0 : Old Z Z.heap.size h0) (Pr0 : Arv Z h0 y ky .char (1 : Int32) [(.int c0)] (.int (0 : Int32))) (Pr1 : Arv Z h0 d kd .byte (1 : Int32) [(.int (0 : Int32))] (.int (0 : Int32))) (Pr2 : Z.heap.size ≤ d) (Pr3 : y ≠ d) (Pr4 : (255 : Int32) < c0) : Met l Z consts_1 (⟨"java/lang/StringUTF16", "compress", "([CI[BII)I"⟩ : MethodName) jdk_52_method_21_code 7 (some .int) [] RrmCmp1_0 [d] #[(.ref y), (.int (0 : Int32)), (.ref d), (.int (0 : Int32)), (.int (1 : Int32))] h0 (QrmCmp1_0 Z y d ky kd c0 h0) := by
  have ⟨hw, hEL, O2, P5, O4, P6, OA, OH, OB⟩ := hcx
  refine Met.start (a0 := a0) (Ls := #[vR y, vI (0 : Int32), vR d, vI (0 : Int32), vI (1 : Int32), .unset, .unset]) pn5 hEL O0 (fun m => by first | (simp [entryFrame, mkF, argsToLocals, Value.category]; done) | rfl) ?_
  intro p e s m below meth cc T0 vm0 X0 sf0_ hby hml hret hnm
  have hx := X0.hx
  have D : ∀ {n r}, decode B5 n = r → decode cc.code n = r := fun d => hb hby d
  have zz := X0.ge
  have A0 := X0.at
  have l1 := ltA Pr0.lt
  have l2 := ltA Pr1.lt
  have l3 := neA Pr3
  have s4 := sf0_ d (memI (i := 0) rfl)
  refine Gets.via (fun _ k => (XS.iconst A0 hx rfl (D d5_0) (XS.istore A0 hx rfl (D d5_1) rfl (l' := #[vR y, vI (0 : Int32), vR d, vI (0 : Int32), vI (1 : Int32), vI (0 : Int32), .unset]) rfl (XS.iload A0 hx rfl (D d5_3) rfl (XS.iload A0 hx rfl (D d5_5) rfl (XS.icmpNo A0 hx rfl (D d5_7) rfl (Jvm.Free.XT.ii_ge_f (by decide)) k)))))) ?_
  refine Gets.via (fun _ k => (XS.aloadN A0 hx rfl (D d5_10) rfl rfl (XS.iloadN A0 hx rfl (D d5_11) rfl k))) ?_
  refine X0.ldC Pr0 (i := 0) (by decide) (by decide) (by decide) rfl rfl rfl (D d5_12) ?_
  show Gets p e below _ (T0.setTop (mkF m 13 #[vR y, vI (0 : Int32), vR d, vI (0 : Int32), vI (1 : Int32), vI (0 : Int32), .unset] [(.int c0)]))
  refine Gets.via (fun _ k => (XS.istore A0 hx rfl (D d5_13) rfl (l' := #[vR y, vI (0 : Int32), vR d, vI (0 : Int32), vI (1 : Int32), vI (0 : Int32), vI c0]) rfl (XS.iload A0 hx rfl (D d5_15) rfl (XS.sipush A0 hx rfl (D d5_17) (XS.icmpNo A0 hx rfl (D d5_20) rfl (Jvm.Free.XT.ii_le_f Pr4) k))))) ?_
  refine Gets.via (fun _ k => (XS.iload A0 hx rfl (D d5_23) rfl k)) ?_
  exact X0.retI hret rfl (by simp) (D d5_25) (by decide) (by decide) (fun vmE CE => ⟨rfl, (Keep.refl h0 [d])⟩)
abbrev RrmNbl1 : Room := { frames := 0, cells := 0, slots := 0, locals := 0 }
def QrmNbl1 (Z : State)  (h0 : Heap) (v : Option Value) (vm : Vm) (h : Heap) : Prop := v = some (.int (2 : Int32)) ∧ h = h0
theorem rmNbl1 (hcx : Cx Z a0 zc fm)  (h0 : Heap) (O0 : Old Z Z.heap.size h0)  : Met l Z consts_1 (⟨"java/lang/StringUTF16", "newBytesLength", "(I)I"⟩ : MethodName) jdk_52_method_3_code 1 (some .int) [] RrmNbl1 [] #[(.int (1 : Int32))] h0 (QrmNbl1 Z  h0) := by
  have ⟨hw, hEL, O2, P5, O4, P6, OA, OH, OB⟩ := hcx
  refine Met.start (a0 := a0) (Ls := #[vI (1 : Int32)]) pn42 hEL O0 (fun m => by first | (simp [entryFrame, mkF, argsToLocals, Value.category]; done) | rfl) ?_
  intro p e s m below meth cc T0 vm0 X0 sf0_ hby hml hret hnm
  have hx := X0.hx
  have D : ∀ {n r}, decode B42 n = r → decode cc.code n = r := fun d => hb hby d
  have zz := X0.ge
  have A0 := X0.at
  refine Gets.via (fun _ k => (XS.iloadN A0 hx rfl (D d42_0) rfl (XS.ifYes A0 hx rfl (pc0 := 1) (pc' := 12) rfl (D d42_1) rfl (Jvm.Free.XT.i0_ge_t (by decide)) (by decide) (by decide) k))) ?_
  refine Gets.via (fun _ k => (XS.iloadN A0 hx rfl (D d42_12) rfl k)) ?_
  refine X0.ldcI (w217 hw) rfl (D d42_13) ?_
  refine Gets.via (fun _ k => (XS.icmpYes A0 hx rfl (pc0 := 15) (pc' := 55) rfl (D d42_15) rfl (Jvm.Free.XT.ii_lt_t (by decide)) (by decide) (by decide) k)) ?_
  refine Gets.via (fun _ k => (XS.iloadN A0 hx rfl (D d42_55) rfl (XS.iconst A0 hx rfl (D d42_56) (ishlV A0 hx rfl (D d42_57) rfl (v := (2 : Int32)) (by decide) k)))) ?_
  show Gets p e below _ (T0.setTop (mkF m 58 #[vI (1 : Int32)] [(.int (2 : Int32))]))
  exact X0.retI hret rfl (by simp) (D d42_58) (by decide) (by decide) (fun vmE CE => ⟨rfl, rfl⟩)
abbrev RrmNbf1 : Room := { frames := 1, cells := 1, slots := 2, locals := 12 }
def QrmNbf1 (Z : State)  (h0 : Heap) (v : Option Value) (vm : Vm) (h : Heap) : Prop := ∃ (t : Addr) (kt : ClassId), v = some (.ref t) ∧ Keep h0 h [] ∧ Arv Z h t kt .byte (2 : Int32) [] (.int (0 : Int32)) ∧ Safe Z consts_1 vm h t ∧ h0.size ≤ t
theorem rmNbf1 (hcx : Cx Z a0 zc fm)  (h0 : Heap) (O0 : Old Z Z.heap.size h0)  : Met l Z consts_1 (⟨"java/lang/StringUTF16", "newBytesFor", "(I)[B"⟩ : MethodName) jdk_52_method_2_code 1 (some (.array .byte)) [] RrmNbf1 [] #[(.int (1 : Int32))] h0 (QrmNbf1 Z  h0) := by
  have ⟨hw, hEL, O2, P5, O4, P6, OA, OH, OB⟩ := hcx
  refine Met.start (a0 := a0) (Ls := #[vI (1 : Int32)]) pn41 hEL O0 (fun m => by first | (simp [entryFrame, mkF, argsToLocals, Value.category]; done) | rfl) ?_
  intro p e s m below meth cc T0 vm0 X0 sf0_ hby hml hret hnm
  have hx := X0.hx
  have D : ∀ {n r}, decode B41 n = r → decode cc.code n = r := fun d => hb hby d
  have zz := X0.ge
  have A0 := X0.at
  refine Gets.via (fun _ k => (XS.iloadN A0 hx rfl (D d41_0) rfl k)) ?_
  refine X0.callS (W := 0) (w214 hw) (w215 hw) (w21 hw) (w216 hw) (by decide) (X0.payM (sf := []) (rmNbl1 hcx  h0 X0.old ) sf0 (w216 hw) (w21 hw)) rfl (sz hml rfl) (argsL := [(.int (1 : Int32))]) (rest := []) (lenOf pd8 rfl) rfl rfl (mroom rfl rfl) (D d41_1) (by decide) (by decide) fun T1 h1 vm1 v1 X1 C1 z1 q1 => ?_
  obtain ⟨rfl, K1⟩ := q1
  rw [K1] at X1 C1
  refine X1.newA (aty := .byte) (w23 hw) rfl (D d41_4) rfl (by decide) (cap := 2) (by decide) (by decide) (by decide) (by decide) fun T2 h2 a2 k2 X2 C2 E2 g2 S2 V2 => ?_
  have z2 := E2.1
  have l2 := ltA V2.lt
  exact X2.retA hret rfl rfl rfl (D d41_6) (by decide) (by decide) (fun vmE CE => ⟨a2, k2, rfl, ((Keep.refl h0 []).ext E2), V2, CE.safe (x := a2) (ltA (by omega)) S2, (leA (by omega))⟩)
abbrev RrmTb1 : Room := { frames := 2, cells := 1, slots := 2, locals := 24 }
def QrmTb1 (Z : State) (y : Addr) (ky : ClassId) (c0 : Int32) (h0 : Heap) (v : Option Value) (vm : Vm) (h : Heap) : Prop := ∃ (t : Addr) (kt : ClassId), v = some (.ref t) ∧ Keep h0 h [] ∧ Arv Z h t kt .byte (2 : Int32) (enc16 [c0]) (.int (0 : Int32)) ∧ h0.size ≤ t
theorem rmTb1 (hcx : Cx Z a0 zc fm) (y : Addr) (ky : ClassId) (c0 : Int32) (h0 : Heap) (O0 : Old Z Z.heap.size h0) (Pr0 : Arv Z h0 y ky .char (1 : Int32) [(.int c0)] (.int (0 : Int32))) : Met l Z consts_1 (⟨"java/lang/StringUTF16", "toBytes", "([CII)[B"⟩ : MethodName) jdk_52_method_14_code 5 (some (.array .byte)) [] RrmTb1 [] #[(.ref y), (.int (0 : Int32)), (.int (1 : Int32))] h0 (QrmTb1 Z y ky c0 h0) := by
  have ⟨hw, hEL, O2, P5, O4, P6, OA, OH, OB⟩ := hcx
  refine Met.start (a0 := a0) (Ls := #[vR y, vI (0 : Int32), vI (1 : Int32), .unset, .unset]) pn40 hEL O0 (fun m => by first | (simp [entryFrame, mkF, argsToLocals, Value.category]; done) | rfl) ?_
  intro p e s m below meth cc T0 vm0 X0 sf0_ hby hml hret hnm
  have hx := X0.hx
  have D : ∀ {n r}, decode B40 n = r → decode cc.code n = r := fun d => hb hby d
  have zz := X0.ge
  have A0 := X0.at
  have l1 := ltA Pr0.lt
  refine Gets.via (fun _ k => (XS.iloadN A0 hx rfl (D d40_0) rfl k)) ?_
  refine X0.callS (W := 0) (w211 hw) (w212 hw) (w21 hw) (w213 hw) (by decide) (X0.payM (sf := []) (rmNbf1 hcx  h0 X0.old ) sf0 (w213 hw) (w21 hw)) rfl (sz hml rfl) (argsL := [(.int (1 : Int32))]) (rest := []) (lenOf pd9 rfl) rfl rfl (mroom rfl rfl) (D d40_1) (by decide) (by decide) fun T2 h2 vm2 v2 X2 C2 z2 q2 => ?_
  obtain ⟨t2, kt2, rfl, K2, g2_0, g2_1, g2_2⟩ := q2
  have l3 := ltA g2_0.lt
  have A4 := X2.at
  refine Gets.via (fun _ k => (XS.astoreN A4 hx rfl (D d40_4) rfl rfl (l' := #[vR y, vI (0 : Int32), vI (1 : Int32), vR t2, .unset]) rfl (XS.iconst A4 hx rfl (D d40_5) (XS.istore A4 hx rfl (D d40_6) rfl (l' := #[vR y, vI (0 : Int32), vI (1 : Int32), vR t2, vI (0 : Int32)]) rfl (XS.iload A4 hx rfl (D d40_8) rfl (XS.iloadN A4 hx rfl (D d40_10) rfl (XS.icmpNo A4 hx rfl (D d40_11) rfl (Jvm.Free.XT.ii_ge_f (by decide)) k))))))) ?_
  show Gets p e below _ (T2.setTop (mkF m 14 #[vR y, vI (0 : Int32), vI (1 : Int32), vR t2, vI (0 : Int32)] []))
  refine Gets.via (fun _ k => (XS.aloadN A4 hx rfl (D d40_14) rfl rfl (XS.iload A4 hx rfl (D d40_15) rfl (XS.aloadN A4 hx rfl (D d40_17) rfl rfl (XS.iloadN A4 hx rfl (D d40_18) rfl k))))) ?_
  have f5 := Pr0.keep K2 nin0
  refine X2.ldC f5 (i := 0) (by decide) (by decide) (by decide) rfl rfl rfl (D d40_19) ?_
  refine X2.callS (W := 0) (w218 hw) (w219 hw) (w21 hw) (w220 hw) (by decide) (X2.payM (sf := [t2]) (rmPutC hcx t2 0 c0 kt2 (2 : Int32) 2 [] h2 X2.old g2_0 rfl (by decide) rfl (by decide) (leA (by omega))) (sfS g2_1 sf0) (w220 hw) (w21 hw)) rfl (sz hml rfl) (argsL := [(.ref t2), (.int (0 : Int32)), (.int c0)]) (rest := []) (lenOf pd10 rfl) rfl rfl (mroom rfl rfl) (D d40_20) (by decide) (by decide) fun T6 h6 vm6 v6 X6 C6 z6 q6 => ?_
  obtain ⟨rfl, K6, g6_0⟩ := q6
  have l7 := ltA g6_0.lt
  have A8 := X6.at
  refine Gets.via (fun _ k => (iincV A8 hx rfl (D d40_23) rfl (v := (1 : Int32)) (by decide) (l' := #[vR y, vI (1 : Int32), vI (1 : Int32), vR t2, vI (0 : Int32)]) rfl (iincV A8 hx rfl (D d40_26) rfl (v := (1 : Int32)) (by decide) (l' := #[vR y, vI (1 : Int32), vI (1 : Int32), vR t2, vI (1 : Int32)]) rfl (XS.goto A8 hx rfl (pc0 := 29) (pc' := 8) rfl (D d40_29) (by decide) (by decide) k)))) ?_
  show Gets p e below _ (T6.setTop (mkF m 8 #[vR y, vI (1 : Int32), vI (1 : Int32), vR t2, vI (1 : Int32)] []))
  refine Gets.via (fun _ k => (XS.iload A8 hx rfl (D d40_8) rfl (XS.iloadN A8 hx rfl (D d40_10) rfl (XS.icmpYes A8 hx rfl (pc0 := 11) (pc' := 32) rfl (D d40_11) rfl (Jvm.Free.XT.ii_ge_t (by decide)) (by decide) (by decide) k)))) ?_
  have f9 : Arv Z h6 t2 kt2 .byte (2 : Int32) (enc16 [c0]) (.int (0 : Int32)) := encL1 c0 ▸ g6_0
  refine Gets.via (fun _ k => (XS.aloadN A8 hx rfl (D d40_32) rfl rfl k)) ?_
  exact X6.retA hret rfl rfl rfl (D d40_33) (by decide) (by decide) (fun vmE CE => ⟨t2, kt2, rfl, (((Keep.refl h0 []).trans K2 all0).trans K6 (allS (Or.inr (leA (by omega))) all0)), f9, g2_2⟩)
abbrev RrmCps1 : Room := { frames := 3, cells := 2, slots := 3, locals := 40 }
def QrmCps1 (Z : State) (y : Addr) (ky : ClassId) (c0 : Int32) (h0 : Heap) (v : Option Value) (vm : Vm) (h : Heap) : Prop := ∃ (t : Addr) (kt : ClassId), v = some (.ref t) ∧ Keep h0 h [] ∧ Arv Z h t kt .byte (2 : Int32) (enc16 [c0]) (.int (0 : Int32)) ∧ h0.size ≤ t
theorem rmCps1 (hcx : Cx Z a0 zc fm) (y : Addr) (ky : ClassId) (c0 : Int32) (h0 : Heap) (O0 : Old Z Z.heap.size h0) (Pr0 : Arv Z h0 y ky .char (1 : Int32) [(.int c0)] (.int (0 : Int32))) (Pr1 : (255 : Int32) < c0) (Pr2 : ¬ c0 < 0 ∧ ¬ (65535 : Int32) < c0) : Met l Z consts_1 (⟨"java/lang/StringUTF16", "compress", "([CII)[B"⟩ : MethodName) jdk_52_method_16_code 6 (some (.array .byte)) [] RrmCps1 [] #[(.ref y), (.int (0 : Int32)), (.int (1 : Int32))] h0 (QrmCps1 Z y ky c0 h0) := by
  have ⟨hw, hEL, O2, P5, O4, P6, OA, OH, OB⟩ := hcx
  refine Met.start (a0 := a0) (Ls := #[vR y, vI (0 : Int32), vI (1 : Int32), .unset, .unset, .unset]) pn4 hEL O0 (fun m => by first | (simp [entryFrame, mkF, argsToLocals, Value.category]; done) | rfl) ?_
  intro p e s m below meth cc T0 vm0 X0 sf0_ hby hml hret hnm
  have hx := X0.hx
  have D : ∀ {n r}, decode B4 n = r → decode cc.code n = r := fun d => hb hby d
  have zz := X0.ge
  have A0 := X0.at
  have l1 := ltA Pr0.lt
  have hR : ∀ z_ ∈ [c0], ¬ z_ < 0 ∧ ¬ (65535 : Int32) < z_ := allI Pr2 (allN)
  rcases fst1 Pr1 with w0
  · skip
    refine Gets.via (fun _ k => (XS.iloadN A0 hx rfl (D d4_0) rfl k)) ?_
    refine X0.newA (aty := .byte) (w23 hw) rfl (D d4_1) rfl (by decide) (cap := 1) (by decide) (by decide) (by decide) (by decide) fun T2 h2 a2 k2 X2 C2 E2 g2 S2 V2 => ?_
    have z2 := E2.1
    have l2 := ltA V2.lt
    have V2_ : Arv Z h2 a2 k2 .byte (1 : Int32) [(.int (0 : Int32))] (.int (0 : Int32)) := padN V2 1
    have A3 := X2.at
    refine Gets.via (fun _ k => (XS.astoreN A3 hx rfl (D d4_3) rfl rfl (l' := #[vR y, vI (0 : Int32), vI (1 : Int32), vR a2, .unset, .unset]) rfl (XS.aloadN A3 hx rfl (D d4_4) rfl rfl (XS.iloadN A3 hx rfl (D d4_5) rfl (XS.aloadN A3 hx rfl (D d4_6) rfl rfl (XS.iconst A3 hx rfl (D d4_7) (XS.iloadN A3 hx rfl (D d4_8) rfl k))))))) ?_
    show Gets p e below _ (T2.setTop (mkF m 9 #[vR y, vI (0 : Int32), vI (1 : Int32), vR a2, .unset, .unset] [(.int (1 : Int32)), (.int (0 : Int32)), (.ref a2), (.int (0 : Int32)), (.ref y)]))
    have f4 := Pr0.ext E2
    refine X2.callS (W := 0) (w24 hw) (w25 hw) (w21 hw) (w26 hw) (by decide) (X2.payM (sf := [a2]) (rmCmp1_0 hcx y a2 ky k2 c0 h2 X2.old f4 V2_ (leA (by omega)) (neA (by omega)) w0) (sfS S2 sf0) (w26 hw) (w21 hw)) rfl (sz hml rfl) (argsL := [(.ref y), (.int (0 : Int32)), (.ref a2), (.int (0 : Int32)), (.int (1 : Int32))]) (rest := []) (lenOf pd7 rfl) rfl rfl (mroom rfl rfl) (D d4_9) (by decide) (by decide) fun T5 h5 vm5 v5 X5 C5 z5 q5 => ?_
    obtain ⟨rfl, K5⟩ := q5
    have A6 := X5.at
    refine Gets.via (fun _ k => (XS.istore A6 hx rfl (D d4_12) rfl (l' := #[vR y, vI (0 : Int32), vI (1 : Int32), vR a2, vI (0 : Int32), .unset]) rfl (XS.iload A6 hx rfl (D d4_14) rfl (XS.iloadN A6 hx rfl (D d4_16) rfl (XS.icmpNo A6 hx rfl (D d4_17) rfl (Jvm.Free.XT.ii_eq_f (by decide)) k))))) ?_
    refine Gets.via (fun _ k => (XS.aloadN A6 hx rfl (D d4_20) rfl rfl (XS.iloadN A6 hx rfl (D d4_21) rfl (XS.iloadN A6 hx rfl (D d4_22) rfl k)))) ?_
    have f7 := f4.keep K5 (ninS (neA (by omega)) nin0)
    refine X5.callS (W := 0) (w208 hw) (w209 hw) (w21 hw) (w210 hw) (by decide) (X5.payM (sf := []) (rmTb1 hcx y ky c0 h5 X5.old f7) sf0 (w210 hw) (w21 hw)) rfl (sz hml rfl) (argsL := [(.ref y), (.int (0 : Int32)), (.int (1 : Int32))]) (rest := []) (lenOf pd11 rfl) rfl rfl (mroom rfl rfl) (D d4_23) (by decide) (by decide) fun T8 h8 vm8 v8 X8 C8 z8 q8 => ?_
    obtain ⟨t8, kt8, rfl, K8, g8_0, g8_1⟩ := q8
    have l9 := ltA g8_0.lt
    show Gets p e below _ (T8.setTop (mkF m 26 #[vR y, vI (0 : Int32), vI (1 : Int32), vR a2, vI (0 : Int32), .unset] [(.ref t8)]))
    have A10 := X8.at
    refine Gets.via (fun _ k => (XS.astore A10 hx rfl (D d4_26) rfl rfl (l' := #[vR y, vI (0 : Int32), vI (1 : Int32), vR a2, vI (0 : Int32), vR t8]) rfl (XS.aload A10 hx rfl (D d4_28) rfl rfl (XS.iload A10 hx rfl (D d4_30) rfl k)))) ?_
    refine X8.callS (W := 0) (w224 hw) (w225 hw) (w21 hw) (w226 hw) (by decide) (X8.payM (sf := []) (rmGetC hcx t8 0 kt8 (2 : Int32) 2 [c0] h8 X8.old g8_0 rfl (by decide) (by first | exact Nat.le_of_ble_eq_true rfl | omega) (by first | exact Nat.le_of_ble_eq_true rfl | omega) hR) sf0 (w226 hw) (w21 hw)) rfl (sz hml rfl) (argsL := [(.ref t8), (.int (0 : Int32))]) (rest := []) (lenOf pd12 rfl) rfl rfl (mroom rfl rfl) (D d4_32) (by decide) (by decide) fun T11 h11 vm11 v11 X11 C11 z11 q11 => ?_
    obtain ⟨rfl, K11⟩ := q11
    rw [K11] at X11 C11
    have A12 := X11.at
    refine Gets.via (fun _ k => (XS.sipush A12 hx rfl (D d4_35) (XS.icmpYes A12 hx rfl (pc0 := 38) (pc' := 54) rfl (D d4_38) rfl (Jvm.Free.XT.ii_gt_t w0) (by decide) (by decide) k))) ?_
    refine Gets.via (fun _ k => (XS.aload A12 hx rfl (D d4_54) rfl rfl k)) ?_
    exact X11.retA hret rfl rfl rfl (D d4_56) (by decide) (by decide) (fun vmE CE => ⟨t8, kt8, rfl, ((((Keep.refl h0 []).ext E2).trans K5 (allS (Or.inr (leA (by omega))) all0)).trans K8 all0), g8_0, (leA (by omega))⟩)
abbrev RrmCfl1 : Room := { frames := 0, cells := 0, slots := 0, locals := 0 }
def QrmCfl1 (Z : State) (t : Addr) (kt : ClassId) (vs : List Value) (h0 : Heap) (v : Option Value) (vm : Vm) (h : Heap) : Prop := v = some (.int (1 : Int32)) ∧ h = h0
theorem rmCfl1 (hcx : Cx Z a0 zc fm) (t : Addr) (kt : ClassId) (vs : List Value) (h0 : Heap) (O0 : Old Z Z.heap.size h0) (Pr0 : Arv Z h0 t kt .byte (2 : Int32) vs (.int (0 : Int32))) : Met l Z consts_1 (⟨"java/lang/StringUTF16", "coderFromArrayLen", "([BI)B"⟩ : MethodName) jdk_52_method_15_code 2 (some .byte) [] RrmCfl1 [] #[(.ref t), (.int (1 : Int32))] h0 (QrmCfl1 Z t kt vs h0) := by
  have ⟨hw, hEL, O2, P5, O4, P6, OA, OH, OB⟩ := hcx
  refine Met.start (a0 := a0) (Ls := #[vR t, vI (1 : Int32)]) pn6 hEL O0 (fun m => by first | (simp [entryFrame, mkF, argsToLocals, Value.category]; done) | rfl) ?_
  intro p e s m below meth cc T0 vm0 X0 sf0_ hby hml hret hnm
  have hx := X0.hx
  have D : ∀ {n r}, decode B6 n = r → decode cc.code n = r := fun d => hb hby d
  have zz := X0.ge
  have A0 := X0.at
  have l1 := ltA Pr0.lt
  refine Gets.via (fun _ k => (XS.iloadN A0 hx rfl (D d6_0) rfl (XS.aloadN A0 hx rfl (D d6_1) rfl rfl k))) ?_
  refine X0.alen Pr0 rfl rfl (D d6_2) ?_
  refine Gets.via (fun _ k => (isubV A0 hx rfl (D d6_3) rfl (v := (-1 : Int32)) (by decide) (XS.bipush A0 hx rfl (D d6_4) (iushrV A0 hx rfl (D d6_6) rfl (v := (1 : Int32)) (by decide) (i2bV A0 hx rfl (D d6_7) rfl (v := (1 : Int32)) (by decide) k))))) ?_
  show Gets p e below _ (T0.setTop (mkF m 8 #[vR t, vI (1 : Int32)] [(.int (1 : Int32))]))
  exact X0.retI hret (by decide) (by simp) (D d6_8) (by decide) (by decide) (fun vmE CE => ⟨rfl, rfl⟩)
abbrev RrmU4_1 : Room := { frames := 4, cells := 2, slots := 3, locals := 57 }
def QrmU4_1 (Z : State) (x : Addr) (y : Addr) (ky : ClassId) (c0 : Int32) (h0 : Heap) (v : Option Value) (vm : Vm) (h : Heap) : Prop := ∃ (t : Addr) (kt : ClassId), v = none ∧ Keep h0 h [x] ∧ StrU Z h x t kt [c0]
theorem rmU4_1 (hcx : Cx Z a0 zc fm) (x : Addr) (y : Addr) (ky : ClassId) (c0 : Int32) (h0 : Heap) (O0 : Old Z Z.heap.size h0) (Pr0 : Exa Z h0 x "java/lang/String") (Pr1 : Fld Z h0 x "java/lang/String" "coder" "B" (.int (0 : Int32))) (Pr2 : Fld Z h0 x "java/lang/String" "value" "[B" .null) (Pr3 : Z.heap.size ≤ x) (Pr4 : Arv Z h0 y ky .char (1 : Int32) [(.int c0)] (.int (0 : Int32))) (Pr5 : (255 : Int32) < c0) (Pr6 : ¬ c0 < 0 ∧ ¬ (65535 : Int32) < c0) : Met l Z consts_1 (⟨"java/lang/String", "<init>", "([CIILjava/lang/Void;)V"⟩ : MethodName) jdk_42_method_149_code 6 (none) [] RrmU4_1 [x] #[(.ref x), (.ref y), (.int (0 : Int32)), (.int (1 : Int32)), .null] h0 (QrmU4_1 Z x y ky c0 h0) := by
  have ⟨hw, hEL, O2, P5, O4, P6, OA, OH, OB⟩ := hcx
  refine Met.start (a0 := a0) (Ls := #[vR x, vR y, vI (0 : Int32), vI (1 : Int32), .val .null, .unset]) pn2 hEL O0 (fun m => by first | (simp [entryFrame, mkF, argsToLocals, Value.category]; done) | rfl) ?_
  intro p e s m below meth cc T0 vm0 X0 sf0_ hby hml hret hnm
  have hx := X0.hx
  have D : ∀ {n r}, decode B2 n = r → decode cc.code n = r := fun d => hb hby d
  have zz := X0.ge
  have A0 := X0.at
  have l1 := ltA Pr0.lt
  have l2 := ltA Pr4.lt
  have s3 := sf0_ x (memI (i := 0) rfl)
  refine Gets.via (fun _ k => (XS.aloadN A0 hx rfl (D d2_0) rfl rfl k)) ?_
  refine X0.objInit (w15 hw) (w16 hw) (w17 hw) rfl (sz hml rfl) rfl (D d2_1) (by decide) (W := 0) (mroom rfl rfl) (by decide) fun T4 X4 => ?_
  have A5 := X4.at
  refine Gets.via (fun _ k => (XS.iloadN A5 hx rfl (D d2_4) rfl (XS.ifYes A5 hx rfl (pc0 := 5) (pc' := 27) rfl (D d2_5) rfl (Jvm.Free.XT.i0_ne_t (by decide)) (by decide) (by decide) k))) ?_
  refine X4.getS (host := "") (Or.inl (w18 hw)) Via.refl (X4.sta O2) rfl (D d2_27) fun T6 X6 => ?_
  show Gets p e below _ (T6.setTop (mkF m 30 #[vR x, vR y, vI (0 : Int32), vI (1 : Int32), .val .null, .unset] [(.int zc)]))
  have A7 := X6.at
  refine Gets.via (fun _ k => (XS.ifNo A7 hx rfl (D d2_30) rfl (Jvm.Free.XT.i0_eq_f P5) k)) ?_
  refine Gets.via (fun _ k => (XS.aloadN A7 hx rfl (D d2_33) rfl rfl (XS.iloadN A7 hx rfl (D d2_34) rfl (XS.iloadN A7 hx rfl (D d2_35) rfl k)))) ?_
  refine X6.callS (W := 0) (w19 hw) (w20 hw) (w21 hw) (w22 hw) (by decide) (X6.payM (sf := []) (rmCps1 hcx y ky c0 h0 X6.old Pr4 Pr5 Pr6) sf0 (w22 hw) (w21 hw)) rfl (sz hml rfl) (argsL := [(.ref y), (.int (0 : Int32)), (.int (1 : Int32))]) (rest := []) (lenOf pd11 rfl) rfl rfl (mroom rfl rfl) (D d2_36) (by decide) (by decide) fun T8 h8 vm8 v8 X8 C8 z8 q8 => ?_
  obtain ⟨t8, kt8, rfl, K8, g8_0, g8_1⟩ := q8
  have l9 := ltA g8_0.lt
  have A10 := X8.at
  refine Gets.via (fun _ k => (XS.astore A10 hx rfl (D d2_39) rfl rfl (l' := #[vR x, vR y, vI (0 : Int32), vI (1 : Int32), .val .null, vR t8]) rfl (XS.aloadN A10 hx rfl (D d2_41) rfl rfl (XS.aload A10 hx rfl (D d2_42) rfl rfl (XS.iloadN A10 hx rfl (D d2_44) rfl k))))) ?_
  refine X8.callS (W := 1) (w27 hw) (w28 hw) (w21 hw) (w29 hw) (by decide) (X8.payM (sf := []) (rmCfl1 hcx t8 kt8 (enc16 [c0]) h8 X8.old g8_0) sf0 (w29 hw) (w21 hw)) rfl (sz hml rfl) (argsL := [(.ref t8), (.int (1 : Int32))]) (rest := [(.ref x)]) (lenOf pd13 rfl) rfl rfl (mroom rfl rfl) (D d2_45) (by decide) (by decide) fun T11 h11 vm11 v11 X11 C11 z11 q11 => ?_
  obtain ⟨rfl, K11⟩ := q11
  rw [K11] at X11 C11
  show Gets p e below _ (T11.setTop (mkF m 48 #[vR x, vR y, vI (0 : Int32), vI (1 : Int32), .val .null, vR t8] [(.int (1 : Int32)), (.ref x)]))
  have f13 := Pr1.keep K8 nin0
  have f14 := Pr0.keep K8
  have f15 := C8.safe (x := x) (ltA (by omega)) s3
  have f16 := C11.safe (x := x) (ltA (by omega)) f15
  refine X11.putF (host := "") (Or.inl (w30 hw)) Via.refl f13 f14 (Or.inr ⟨(w31 hw), rfl, hnm⟩) (w5 hw) (ty := .byte) (by decide) (by decide) (by decide) (leA (by omega)) f16 rfl rfl (D d2_48) fun T12 h12 X12 C12 W12 F12 Z12 => ?_
  have z12 := W12.size
  have A17 := X12.at
  refine Gets.via (fun _ k => (XS.aloadN A17 hx rfl (D d2_51) rfl rfl (XS.aload A17 hx rfl (D d2_52) rfl rfl k))) ?_
  have f19 := Pr2.keep K8 nin0
  have f20 := f19.other W12 (Or.inr (slot_ne (t := (.array .byte)) (t' := .byte) (Or.inr (w33 hw)) (Or.inr (w31 hw)) (by decide) (by decide) (by decide)))
  have f21 := C12.safe (x := x) (ltA (by omega)) f16
  refine X12.putF (host := "") (Or.inl (w32 hw)) Via.refl f20 Z12 (Or.inr ⟨(w33 hw), rfl, hnm⟩) (w5 hw) (ty := (.array .byte)) (by decide) rfl rfl (leA (by omega)) f21 rfl rfl (D d2_54) fun T18 h18 X18 C18 W18 F18 Z18 => ?_
  have z18 := W18.size
  have f22 := F12.other W18 (Or.inr (slot_ne (t := .byte) (t' := (.array .byte)) (Or.inr (w31 hw)) (Or.inr (w33 hw)) (by decide) (by decide) (by decide)))
  have f23 := g8_0.other W12 (neA (by omega))
  have f24 := f23.other W18 (neA (by omega))
  have SU : StrU Z h18 x t8 kt8 [c0] := ⟨Z18, f22, F18, f24, allI Pr6 (allN), Nat.le_of_ble_eq_true rfl⟩
  exact X18.retV hret (D d2_57) (by decide) (by decide) (fun vmE CE => ⟨t8, kt8, rfl, ((((Keep.refl h0 [x]).trans K8 all0).wr W12 (Or.inl (memI (i := 0) rfl))).wr W18 (Or.inl (memI (i := 0) rfl))), SU⟩)
abbrev RrmU1_1 : Room := { frames := 5, cells := 2, slots := 3, locals := 74 }
def QrmU1_1 (Z : State) (x : Addr) (y : Addr) (ky : ClassId) (c0 : Int32) (h0 : Heap) (v : Option Value) (vm : Vm) (h : Heap) : Prop := ∃ (t : Addr) (kt : ClassId), v = none ∧ Keep h0 h [x] ∧ StrU Z h x t kt [c0]
theorem rmU1_1 (hcx : Cx Z a0 zc fm) (x : Addr) (y : Addr) (ky : ClassId) (c0 : Int32) (h0 : Heap) (O0 : Old Z Z.heap.size h0) (Pr0 : Exa Z h0 x "java/lang/String") (Pr1 : Fld Z h0 x "java/lang/String" "coder" "B" (.int (0 : Int32))) (Pr2 : Fld Z h0 x "java/lang/String" "value" "[B" .null) (Pr3 : Z.heap.size ≤ x) (Pr4 : Arv Z h0 y ky .char (1 : Int32) [(.int c0)] (.int (0 : Int32))) (Pr5 : (255 : Int32) < c0) (Pr6 : ¬ c0 < 0 ∧ ¬ (65535 : Int32) < c0) : Met l Z consts_1 (⟨"java/lang/String", "<init>", "([C)V"⟩ : MethodName) jdk_42_method_3_code 2 (none) [] RrmU1_1 [x] #[(.ref x), (.ref y)] h0 (QrmU1_1 Z x y ky c0 h0) := by
  have ⟨hw, hEL, O2, P5, O4, P6, OA, OH, OB⟩ := hcx
  refine Met.start (a0 := a0) (Ls := #[vR x, vR y]) pn1 hEL O0 (fun m => by first | (simp [entryFrame, mkF, argsToLocals, Value.category]; done) | rfl) ?_
  intro p e s m below meth cc T0 vm0 X0 sf0_ hby hml hret hnm
  have hx := X0.hx
  have D : ∀ {n r}, decode B1 n = r → decode cc.code n = r := fun d => hb hby d
  have zz := X0.ge
  have A0 := X0.at
  have l1 := ltA Pr0.lt
  have l2 := ltA Pr4.lt
  have s3 := sf0_ x (memI (i := 0) rfl)
  refine Gets.via (fun _ k => (XS.aloadN A0 hx rfl (D d1_0) rfl rfl (XS.aloadN A0 hx rfl (D d1_1) rfl rfl (XS.iconst A0 hx rfl (D d1_2) (XS.aloadN A0 hx rfl (D d1_3) rfl rfl k))))) ?_
  refine X0.alen Pr4 rfl rfl (D d1_4) ?_
  refine Gets.via (fun _ k => (XS.aconstNull A0 hx rfl (D d1_5) k)) ?_
  refine X0.callI (y := (⟨"java/lang/String", "<init>", "([CIILjava/lang/Void;)V"⟩ : MethodName)) (W := 0) rfl (w11 hw) (w12 hw) (w14 hw) (by decide) (X0.payM (sf := [x]) (rmU4_1 hcx x y ky c0 h0 X0.old Pr0 Pr1 Pr2 Pr3 Pr4 Pr5 Pr6) (sfS s3 sf0) (w14 hw) (w6 hw)) rfl (sz hml rfl) (a := x) (argsL := [(.ref y), (.int (0 : Int32)), (.int (1 : Int32)), .null]) (rest := []) (lenOf pd0 rfl) rfl rfl (mroom rfl rfl) (D d1_6) (by decide) (by decide) fun T4 h4 vm4 v4 X4 C4 z4 q4 => ?_
  obtain ⟨t4, kt4, rfl, K4, g4_0⟩ := q4
  have l5 := ltA g4_0.lt
  have l6 := ltA g4_0.lb
  show Gets p e below _ (T4.setTop (mkF m 9 #[vR x, vR y] []))
  exact X4.retV hret (D d1_9) (by decide) (by decide) (fun vmE CE => ⟨t4, kt4, rfl, ((Keep.refl h0 [x]).trans K4 (allS (Or.inl (memI (i := 0) rfl)) all0)), g4_0⟩)
abbrev RrmCmp2_0 : Room := { frames := 0, cells := 0, slots := 0, locals := 0 }
def QrmCmp2_0 (Z : State) (y : Addr) (d : Addr) (ky : ClassId) (kd : ClassId) (c0 : Int32) (c1 : Int32) (h0 : Heap) (v : Option Value) (vm : Vm) (h : Heap) : Prop := v = some (.int (0 : Int32)) ∧ Keep h0 h [d]
theorem rmCmp2_0 (hcx : Cx Z a0 zc fm) (y : Addr) (d : Addr) (ky : ClassId) (kd : ClassId) (c0 : Int32) (c1 : Int32) (h0 : Heap) (O0 : Old Z Z.heap.size h0) (Pr0 : Arv Z h0 y ky .char (2 : Int32) [(.int c0), (.int c1)] (.int (0 : Int32))) (Pr1 : Arv Z h0 d kd .byte (2 : Int32) [(.int (0 : Int32)), (.int (0 : Int32))] (.int (0 : Int32))) (Pr2 : Z.heap.size ≤ d) (Pr3 : y ≠ d) (Pr4 : (255 : Int32) < c0) : Met l Z consts_1 (⟨"java/lang/StringUTF16", "compress", "([CI[BII)I"⟩ : MethodName) jdk_52_method_21_code 7 (some .int) [] RrmCmp2_0 [d] #[(.ref y), (.int (0 : Int32)), (.ref d), (.int (0 : Int32)), (.int (2 : Int32))] h0 (QrmCmp2_0 Z y d ky kd c0 c1 h0) := by
  have ⟨hw, hEL, O2, P5, O4, P6, OA, OH, OB⟩ := hcx
  refine Met.start (a0 := a0) (Ls := #[vR y, vI (0 : Int32), vR d, vI (0 : Int32), vI (2 : Int32), .unset, .unset]) pn5 hEL O0 (fun m => by first | (simp [entryFrame, mkF, argsToLocals, Value.category]; done) | rfl) ?_
  intro p e s m below meth cc T0 vm0 X0 sf0_ hby hml hret hnm
  have hx := X0.hx
  have D : ∀ {n r}, decode B5 n = r → decode cc.code n = r := fun d => hb hby d
  have zz := X0.ge
  have A0 := X0.at
  have l1 := ltA Pr0.lt
  have l2 := ltA Pr1.lt
  have l3 := neA Pr3
  have s4 := sf0_ d (memI (i := 0) rfl)
  refine Gets.via (fun _ k => (XS.iconst A0 hx rfl (D d5_0) (XS.istore A0 hx rfl (D d5_1) rfl (l' := #[vR y, vI (0 : Int32), vR d, vI (0 : Int32), vI (2 : Int32), vI (0 : Int32), .unset]) rfl (XS.iload A0 hx rfl (D d5_3) rfl (XS.iload A0 hx rfl (D d5_5) rfl (XS.icmpNo A0 hx rfl (D d5_7) rfl (Jvm.Free.XT.ii_ge_f (by decide)) k)))))) ?_
  refine Gets.via (fun _ k => (XS.aloadN A0 hx rfl (D d5_10) rfl rfl (XS.iloadN A0 hx rfl (D d5_11) rfl k))) ?_
  refine X0.ldC Pr0 (i := 0) (by decide) (by decide) (by decide) rfl rfl rfl (D d5_12) ?_
  show Gets p e below _ (T0.setTop (mkF m 13 #[vR y, vI (0 : Int32), vR d, vI (0 : Int32), vI (2 : Int32), vI (0 : Int32), .unset] [(.int c0)]))
  refine Gets.via (fun _ k => (XS.istore A0 hx rfl (D d5_13) rfl (l' := #[vR y, vI (0 : Int32), vR d, vI (0 : Int32), vI (2 : Int32), vI (0 : Int32), vI c0]) rfl (XS.iload A0 hx rfl (D d5_15) rfl (XS.sipush A0 hx rfl (D d5_17) (XS.icmpNo A0 hx rfl (D d5_20) rfl (Jvm.Free.XT.ii_le_f Pr4) k))))) ?_
  refine Gets.via (fun _ k => (XS.iload A0 hx rfl (D d5_23) rfl k)) ?_
  exact X0.retI hret rfl (by simp) (D d5_25) (by decide) (by decide) (fun vmE CE => ⟨rfl, (Keep.refl h0 [d])⟩)
abbrev RrmCmp2_1 : Room := { frames := 0, cells := 0, slots := 0, locals := 0 }
def QrmCmp2_1 (Z : State) (y : Addr) (d : Addr) (ky : ClassId) (kd : ClassId) (c0 : Int32) (c1 : Int32) (h0 : Heap) (v : Option Value) (vm : Vm) (h : Heap) : Prop := v = some (.int (1 : Int32)) ∧ Keep h0 h [d]
theorem rmCmp2_1 (hcx : Cx Z a0 zc fm) (y : Addr) (d : Addr) (ky : ClassId) (kd : ClassId) (c0 : Int32) (c1 : Int32) (h0 : Heap) (O0 : Old Z Z.heap.size h0) (Pr0 : Arv Z h0 y ky .char (2 : Int32) [(.int c0), (.int c1)] (.int (0 : Int32))) (Pr1 : Arv Z h0 d kd .byte (2 : Int32) [(.int (0 : Int32)), (.int (0 : Int32))] (.int (0 : Int32))) (Pr2 : Z.heap.size ≤ d) (Pr3 : y ≠ d) (Pr4 : (255 : Int32) < c1) (Pr5 : ¬ (255 : Int32) < c0) : Met l Z consts_1 (⟨"java/lang/StringUTF16", "compress", "([CI[BII)I"⟩ : MethodName) jdk_52_method_21_code 7 (some .int) [] RrmCmp2_1 [d] #[(.ref y), (.int (0 : Int32)), (.ref d), (.int (0 : Int32)), (.int (2 : Int32))] h0 (QrmCmp2_1 Z y d ky kd c0 c1 h0) := by
  have ⟨hw, hEL, O2, P5, O4, P6, OA, OH, OB⟩ := hcx
  refine Met.start (a0 := a0) (Ls := #[vR y, vI (0 : Int32), vR d, vI (0 : Int32), vI (2 : Int32), .unset, .unset]) pn5 hEL O0 (fun m => by first | (simp [entryFrame, mkF, argsToLocals, Value.category]; done) | rfl) ?_
  intro p e s m below meth cc T0 vm0 X0 sf0_ hby hml hret hnm
  have hx := X0.hx
  have D : ∀ {n r}, decode B5 n = r → decode cc.code n = r := fun d => hb hby d
  have zz := X0.ge
  have A0 := X0.at
  have l1 := ltA Pr0.lt
  have l2 := ltA Pr1.lt
  have l3 := neA Pr3
  have s4 := sf0_ d (memI (i := 0) rfl)
  refine Gets.via (fun _ k => (XS.iconst A0 hx rfl (D d5_0) (XS.istore A0 hx rfl (D d5_1) rfl (l' := #[vR y, vI (0 : Int32), vR d, vI (0 : Int32), vI (2 : Int32), vI (0 : Int32), .unset]) rfl (XS.iload A0 hx rfl (D d5_3) rfl (XS.iload A0 hx rfl (D d5_5) rfl (XS.icmpNo A0 hx rfl (D d5_7) rfl (Jvm.Free.XT.ii_ge_f (by decide)) k)))))) ?_
  refine Gets.via (fun _ k => (XS.aloadN A0 hx rfl (D d5_10) rfl rfl (XS.iloadN A0 hx rfl (D d5_11) rfl k))) ?_
  refine X0.ldC Pr0 (i := 0) (by decide) (by decide) (by decide) rfl rfl rfl (D d5_12) ?_
  show Gets p e below _ (T0.setTop (mkF m 13 #[vR y, vI (0 : Int32), vR d, vI (0 : Int32), vI (2 : Int32), vI (0 : Int32), .unset] [(.int c0)]))
  refine Gets.via (fun _ k => (XS.istore A0 hx rfl (D d5_13) rfl (l' := #[vR y, vI (0 : Int32), vR d, vI (0 : Int32), vI (2 : Int32), vI (0 : Int32), vI c0]) rfl (XS.iload A0 hx rfl (D d5_15) rfl (XS.sipush A0 hx rfl (D d5_17) (XS.icmpYes A0 hx rfl (pc0 := 20) (pc' := 26) rfl (D d5_20) rfl (Jvm.Free.XT.ii_le_t Pr5) (by decide) (by decide) k))))) ?_
  refine Gets.via (fun _ k => (XS.aloadN A0 hx rfl (D d5_26) rfl rfl (XS.iloadN A0 hx rfl (D d5_27) rfl (XS.iload A0 hx rfl (D d5_28) rfl (XS.i2b A0 hx rfl (D d5_30) rfl k))))) ?_
  refine X0.stB Pr1 (i := 0) (by decide) (by decide) (Nat.le_of_ble_eq_true rfl) (by decide) (v := (nar .byte (c0.toInt8.toInt32))) rfl s4 (leA (by omega)) rfl rfl (D d5_31) fun T5 h5 X5 C5 K5 V5 => ?_
  have z5 := K5.1
  have V5_ : Arv Z h5 d kd .byte (2 : Int32) [(.int (nar .byte (c0.toInt8.toInt32))), (.int (0 : Int32))] (.int (0 : Int32)) := V5
  have A6 := X5.at
  refine Gets.via (fun _ k => (iincV A6 hx rfl (D d5_32) rfl (v := (1 : Int32)) (by decide) (l' := #[vR y, vI (1 : Int32), vR d, vI (0 : Int32), vI (2 : Int32), vI (0 : Int32), vI c0]) rfl (iincV A6 hx rfl (D d5_35) rfl (v := (1 : Int32)) (by decide) (l' := #[vR y, vI (1 : Int32), vR d, vI (1 : Int32), vI (2 : Int32), vI (0 : Int32), vI c0]) rfl (iincV A6 hx rfl (D d5_38) rfl (v := (1 : Int32)) (by decide) (l' := #[vR y, vI (1 : Int32), vR d, vI (1 : Int32), vI (2 : Int32), vI (1 : Int32), vI c0]) rfl (XS.goto A6 hx rfl (pc0 := 41) (pc' := 3) rfl (D d5_41) (by decide) (by decide) k))))) ?_
  show Gets p e below _ (T5.setTop (mkF m 3 #[vR y, vI (1 : Int32), vR d, vI (1 : Int32), vI (2 : Int32), vI (1 : Int32), vI c0] []))
  refine Gets.via (fun _ k => (XS.iload A6 hx rfl (D d5_3) rfl (XS.iload A6 hx rfl (D d5_5) rfl (XS.icmpNo A6 hx rfl (D d5_7) rfl (Jvm.Free.XT.ii_ge_f (by decide)) k)))) ?_
  refine Gets.via (fun _ k => (XS.aloadN A6 hx rfl (D d5_10) rfl rfl (XS.iloadN A6 hx rfl (D d5_11) rfl k))) ?_
  have f7 := Pr0.keep K5 (ninS (neA (by omega)) nin0)
  refine X5.ldC f7 (i := 1) (by decide) (by decide) (by decide) rfl rfl rfl (D d5_12) ?_
  refine Gets.via (fun _ k => (XS.istore A6 hx rfl (D d5_13) rfl (l' := #[vR y, vI (1 : Int32), vR d, vI (1 : Int32), vI (2 : Int32), vI (1 : Int32), vI c1]) rfl (XS.iload A6 hx rfl (D d5_15) rfl (XS.sipush A6 hx rfl (D d5_17) (XS.icmpNo A6 hx rfl (D d5_20) rfl (Jvm.Free.XT.ii_le_f Pr4) k))))) ?_
  show Gets p e below _ (T5.setTop (mkF m 23 #[vR y, vI (1 : Int32), vR d, vI (1 : Int32), vI (2 : Int32), vI (1 : Int32), vI c1] []))
  refine Gets.via (fun _ k => (XS.iload A6 hx rfl (D d5_23) rfl k)) ?_
  exact X5.retI hret rfl (by simp) (D d5_25) (by decide) (by decide) (fun vmE CE => ⟨rfl, ((Keep.refl h0 [d]).trans K5 (allS (Or.inl (memI (i := 0) rfl)) all0))⟩)
abbrev RrmNbl2 : Room := { frames := 0, cells := 0, slots := 0, locals := 0 }
def QrmNbl2 (Z : State)  (h0 : Heap) (v : Option Value) (vm : Vm) (h : Heap) : Prop := v = some (.int (4 : Int32)) ∧ h = h0
theorem rmNbl2 (hcx : Cx Z a0 zc fm)  (h0 : Heap) (O0 : Old Z Z.heap.size h0)  : Met l Z consts_1 (⟨"java/lang/StringUTF16", "newBytesLength", "(I)I"⟩ : MethodName) jdk_52_method_3_code 1 (some .int) [] RrmNbl2 [] #[(.int (2 : Int32))] h0 (QrmNbl2 Z  h0) := by
  have ⟨hw, hEL, O2, P5, O4, P6, OA, OH, OB⟩ := hcx
  refine Met.start (a0 := a0) (Ls := #[vI (2 : Int32)]) pn42 hEL O0 (fun m => by first | (simp [entryFrame, mkF, argsToLocals, Value.category]; done) | rfl) ?_
  intro p e s m below meth cc T0 vm0 X0 sf0_ hby hml hret hnm
  have hx := X0.hx
  have D : ∀ {n r}, decode B42 n = r → decode cc.code n = r := fun d => hb hby d
  have zz := X0.ge
  have A0 := X0.at
  refine Gets.via (fun _ k => (XS.iloadN A0 hx rfl (D d42_0) rfl (XS.ifYes A0 hx rfl (pc0 := 1) (pc' := 12) rfl (D d42_1) rfl (Jvm.Free.XT.i0_ge_t (by decide)) (by decide) (by decide) k))) ?_
  refine Gets.via (fun _ k => (XS.iloadN A0 hx rfl (D d42_12) rfl k)) ?_
  refine X0.ldcI (w217 hw) rfl (D d42_13) ?_
  refine Gets.via (fun _ k => (XS.icmpYes A0 hx rfl (pc0 := 15) (pc' := 55) rfl (D d42_15) rfl (Jvm.Free.XT.ii_lt_t (by decide)) (by decide) (by decide) k)) ?_
  refine Gets.via (fun _ k => (XS.iloadN A0 hx rfl (D d42_55) rfl (XS.iconst A0 hx rfl (D d42_56) (ishlV A0 hx rfl (D d42_57) rfl (v := (4 : Int32)) (by decide) k)))) ?_
  show Gets p e below _ (T0.setTop (mkF m 58 #[vI (2 : Int32)] [(.int (4 : Int32))]))
  exact X0.retI hret rfl (by simp) (D d42_58) (by decide) (by decide) (fun vmE CE => ⟨rfl, rfl⟩)
abbrev RrmNbf2 : Room := { frames := 1, cells := 1, slots := 4, locals := 12 }
def QrmNbf2 (Z : State)  (h0 : Heap) (v : Option Value) (vm : Vm) (h : Heap) : Prop := ∃ (t : Addr) (kt : ClassId), v = some (.ref t) ∧ Keep h0 h [] ∧ Arv Z h t kt .byte (4 : Int32) [] (.int (0 : Int32)) ∧ Safe Z consts_1 vm h t ∧ h0.size ≤ t
theorem rmNbf2 (hcx : Cx Z a0 zc fm)  (h0 : Heap) (O0 : Old Z Z.heap.size h0)  : Met l Z consts_1 (⟨"java/lang/StringUTF16", "newBytesFor", "(I)[B"⟩ : MethodName) jdk_52_method_2_code 1 (some (.array .byte)) [] RrmNbf2 [] #[(.int (2 : Int32))] h0 (QrmNbf2 Z  h0) := by
  have ⟨hw, hEL, O2, P5, O4, P6, OA, OH, OB⟩ := hcx
  refine Met.start (a0 := a0) (Ls := #[vI (2 : Int32)]) pn41 hEL O0 (fun m => by first | (simp [entryFrame, mkF, argsToLocals, Value.category]; done) | rfl) ?_
  intro p e s m below meth cc T0 vm0 X0 sf0_ hby hml hret hnm
  have hx := X0.hx
  have D : ∀ {n r}, decode B41 n = r → decode cc.code n = r := fun d => hb hby d
  have zz := X0.ge
  have A0 := X0.at
  refine Gets.via (fun _ k => (XS.iloadN A0 hx rfl (D d41_0) rfl k)) ?_
  refine X0.callS (W := 0) (w214 hw) (w215 hw) (w21 hw) (w216 hw) (by decide) (X0.payM (sf := []) (rmNbl2 hcx  h0 X0.old ) sf0 (w216 hw) (w21 hw)) rfl (sz hml rfl) (argsL := [(.int (2 : Int32))]) (rest := []) (lenOf pd8 rfl) rfl rfl (mroom rfl rfl) (D d41_1) (by decide) (by decide) fun T1 h1 vm1 v1 X1 C1 z1 q1 => ?_
  obtain ⟨rfl, K1⟩ := q1
  rw [K1] at X1 C1
  refine X1.newA (aty := .byte) (w23 hw) rfl (D d41_4) rfl (by decide) (cap := 4) (by decide) (by decide) (by decide) (by decide) fun T2 h2 a2 k2 X2 C2 E2 g2 S2 V2 => ?_
  have z2 := E2.1
  have l2 := ltA V2.lt
  exact X2.retA hret rfl rfl rfl (D d41_6) (by decide) (by decide) (fun vmE CE => ⟨a2, k2, rfl, ((Keep.refl h0 []).ext E2), V2, CE.safe (x := a2) (ltA (by omega)) S2, (leA (by omega))⟩)
abbrev RrmTb2 : Room := { frames := 2, cells := 1, slots := 4, locals := 24 }
def QrmTb2 (Z : State) (y : Addr) (ky : ClassId) (c0 : Int32) (c1 : Int32) (h0 : Heap) (v : Option Value) (vm : Vm) (h : Heap) : Prop := ∃ (t : Addr) (kt : ClassId), v = some (.ref t) ∧ Keep h0 h [] ∧ Arv Z h t kt .byte (4 : Int32) (enc16 [c0, c1]) (.int (0 : Int32)) ∧ h0.size ≤ t
theorem rmTb2 (hcx : Cx Z a0 zc fm) (y : Addr) (ky : ClassId) (c0 : Int32) (c1 : Int32) (h0 : Heap) (O0 : Old Z Z.heap.size h0) (Pr0 : Arv Z h0 y ky .char (2 : Int32) [(.int c0), (.int c1)] (.int (0 : Int32))) : Met l Z consts_1 (⟨"java/lang/StringUTF16", "toBytes", "([CII)[B"⟩ : MethodName) jdk_52_method_14_code 5 (some (.array .byte)) [] RrmTb2 [] #[(.ref y), (.int (0 : Int32)), (.int (2 : Int32))] h0 (QrmTb2 Z y ky c0 c1 h0) := by
  have ⟨hw, hEL, O2, P5, O4, P6, OA, OH, OB⟩ := hcx
  refine Met.start (a0 := a0) (Ls := #[vR y, vI (0 : Int32), vI (2 : Int32), .unset, .unset]) pn40 hEL O0 (fun m => by first | (simp [entryFrame, mkF, argsToLocals, Value.category]; done) | rfl) ?_
  intro p e s m below meth cc T0 vm0 X0 sf0_ hby hml hret hnm
  have hx := X0.hx
  have D : ∀ {n r}, decode B40 n = r → decode cc.code n = r := fun d => hb hby d
  have zz := X0.ge
  have A0 := X0.at
  have l1 := ltA Pr0.lt
  refine Gets.via (fun _ k => (XS.iloadN A0 hx rfl (D d40_0) rfl k)) ?_
  refine X0.callS (W := 0) (w211 hw) (w212 hw) (w21 hw) (w213 hw) (by decide) (X0.payM (sf := []) (rmNbf2 hcx  h0 X0.old ) sf0 (w213 hw) (w21 hw)) rfl (sz hml rfl) (argsL := [(.int (2 : Int32))]) (rest := []) (lenOf pd9 rfl) rfl rfl (mroom rfl rfl) (D d40_1) (by decide) (by decide) fun T2 h2 vm2 v2 X2 C2 z2 q2 => ?_
  obtain ⟨t2, kt2, rfl, K2, g2_0, g2_1, g2_2⟩ := q2
  have l3 := ltA g2_0.lt
  have A4 := X2.at
  refine Gets.via (fun _ k => (XS.astoreN A4 hx rfl (D d40_4) rfl rfl (l' := #[vR y, vI (0 : Int32), vI (2 : Int32), vR t2, .unset]) rfl (XS.iconst A4 hx rfl (D d40_5) (XS.istore A4 hx rfl (D d40_6) rfl (l' := #[vR y, vI (0 : Int32), vI (2 : Int32), vR t2, vI (0 : Int32)]) rfl (XS.iload A4 hx rfl (D d40_8) rfl (XS.iloadN A4 hx rfl (D d40_10) rfl (XS.icmpNo A4 hx rfl (D d40_11) rfl (Jvm.Free.XT.ii_ge_f (by decide)) k))))))) ?_
  show Gets p e below _ (T2.setTop (mkF m 14 #[vR y, vI (0 : Int32), vI (2 : Int32), vR t2, vI (0 : Int32)] []))
  refine Gets.via (fun _ k => (XS.aloadN A4 hx rfl (D d40_14) rfl rfl (XS.iload A4 hx rfl (D d40_15) rfl (XS.aloadN A4 hx rfl (D d40_17) rfl rfl (XS.iloadN A4 hx rfl (D d40_18) rfl k))))) ?_
  have f5 := Pr0.keep K2 nin0
  refine X2.ldC f5 (i := 0) (by decide) (by decide) (by decide) rfl rfl rfl (D d40_19) ?_
  refine X2.callS (W := 0) (w218 hw) (w219 hw) (w21 hw) (w220 hw) (by decide) (X2.payM (sf := [t2]) (rmPutC hcx t2 0 c0 kt2 (4 : Int32) 4 [] h2 X2.old g2_0 rfl (by decide) rfl (by decide) (leA (by omega))) (sfS g2_1 sf0) (w220 hw) (w21 hw)) rfl (sz hml rfl) (argsL := [(.ref t2), (.int (0 : Int32)), (.int c0)]) (rest := []) (lenOf pd10 rfl) rfl rfl (mroom rfl rfl) (D d40_20) (by decide) (by decide) fun T6 h6 vm6 v6 X6 C6 z6 q6 => ?_
  obtain ⟨rfl, K6, g6_0⟩ := q6
  have l7 := ltA g6_0.lt
  have A8 := X6.at
  refine Gets.via (fun _ k => (iincV A8 hx rfl (D d40_23) rfl (v := (1 : Int32)) (by decide) (l' := #[vR y, vI (1 : Int32), vI (2 : Int32), vR t2, vI (0 : Int32)]) rfl (iincV A8 hx rfl (D d40_26) rfl (v := (1 : Int32)) (by decide) (l' := #[vR y, vI (1 : Int32), vI (2 : Int32), vR t2, vI (1 : Int32)]) rfl (XS.goto A8 hx rfl (pc0 := 29) (pc' := 8) rfl (D d40_29) (by decide) (by decide) k)))) ?_
  show Gets p e below _ (T6.setTop (mkF m 8 #[vR y, vI (1 : Int32), vI (2 : Int32), vR t2, vI (1 : Int32)] []))
  refine Gets.via (fun _ k => (XS.iload A8 hx rfl (D d40_8) rfl (XS.iloadN A8 hx rfl (D d40_10) rfl (XS.icmpNo A8 hx rfl (D d40_11) rfl (Jvm.Free.XT.ii_ge_f (by decide)) k)))) ?_
  refine Gets.via (fun _ k => (XS.aloadN A8 hx rfl (D d40_14) rfl rfl (XS.iload A8 hx rfl (D d40_15) rfl (XS.aloadN A8 hx rfl (D d40_17) rfl rfl (XS.iloadN A8 hx rfl (D d40_18) rfl k))))) ?_
  have f9 := f5.keep K6 (ninS (neA (by omega)) nin0)
  refine X6.ldC f9 (i := 1) (by decide) (by decide) (by decide) rfl rfl rfl (D d40_19) ?_
  have f10 := C6.safe (x := t2) (ltA (by omega)) g2_1
  refine X6.callS (W := 0) (w218 hw) (w219 hw) (w21 hw) (w220 hw) (by decide) (X6.payM (sf := [t2]) (rmPutC hcx t2 1 c1 kt2 (4 : Int32) 4 (([] ++ [(.int (c0.toInt8.toInt32))]) ++ [(.int ((c0 >>> ((8 : Int32) &&& (31 : Int32))).toInt8.toInt32))]) h6 X6.old g6_0 rfl (by decide) rfl (by decide) (leA (by omega))) (sfS f10 sf0) (w220 hw) (w21 hw)) rfl (sz hml rfl) (argsL := [(.ref t2), (.int (1 : Int32)), (.int c1)]) (rest := []) (lenOf pd10 rfl) rfl rfl (mroom rfl rfl) (D d40_20) (by decide) (by decide) fun T11 h11 vm11 v11 X11 C11 z11 q11 => ?_
  obtain ⟨rfl, K11, g11_0⟩ := q11
  have l12 := ltA g11_0.lt
  show Gets p e below _ (T11.setTop (mkF m 23 #[vR y, vI (1 : Int32), vI (2 : Int32), vR t2, vI (1 : Int32)] []))
  have A13 := X11.at
  refine Gets.via (fun _ k => (iincV A13 hx rfl (D d40_23) rfl (v := (2 : Int32)) (by decide) (l' := #[vR y, vI (2 : Int32), vI (2 : Int32), vR t2, vI (1 : Int32)]) rfl (iincV A13 hx rfl (D d40_26) rfl (v := (2 : Int32)) (by decide) (l' := #[vR y, vI (2 : Int32), vI (2 : Int32), vR t2, vI (2 : Int32)]) rfl (XS.goto A13 hx rfl (pc0 := 29) (pc' := 8) rfl (D d40_29) (by decide) (by decide) k)))) ?_
  refine Gets.via (fun _ k => (XS.iload A13 hx rfl (D d40_8) rfl (XS.iloadN A13 hx rfl (D d40_10) rfl (XS.icmpYes A13 hx rfl (pc0 := 11) (pc' := 32) rfl (D d40_11) rfl (Jvm.Free.XT.ii_ge_t (by decide)) (by decide) (by decide) k)))) ?_
  have f14 : Arv Z h11 t2 kt2 .byte (4 : Int32) (enc16 [c0, c1]) (.int (0 : Int32)) := encL2 c0 c1 ▸ g11_0
  refine Gets.via (fun _ k => (XS.aloadN A13 hx rfl (D d40_32) rfl rfl k)) ?_
  exact X11.retA hret rfl rfl rfl (D d40_33) (by decide) (by decide) (fun vmE CE => ⟨t2, kt2, rfl, ((((Keep.refl h0 []).trans K2 all0).trans K6 (allS (Or.inr (leA (by omega))) all0)).trans K11 (allS (Or.inr (leA (by omega))) all0)), f14, g2_2⟩)
abbrev RrmCps2 : Room := { frames := 3, cells := 2, slots := 6, locals := 40 }
def QrmCps2 (Z : State) (y : Addr) (ky : ClassId) (c0 : Int32) (c1 : Int32) (h0 : Heap) (v : Option Value) (vm : Vm) (h : Heap) : Prop := ∃ (t : Addr) (kt : ClassId), v = some (.ref t) ∧ Keep h0 h [] ∧ Arv Z h t kt .byte (4 : Int32) (enc16 [c0, c1]) (.int (0 : Int32)) ∧ h0.size ≤ t
theorem rmCps2 (hcx : Cx Z a0 zc fm) (y : Addr) (ky : ClassId) (c0 : Int32) (c1 : Int32) (h0 : Heap) (O0 : Old Z Z.heap.size h0) (Pr0 : Arv Z h0 y ky .char (2 : Int32) [(.int c0), (.int c1)] (.int (0 : Int32))) (Pr1 : (255 : Int32) < c0 ∨ (255 : Int32) < c1) (Pr2 : ¬ c0 < 0 ∧ ¬ (65535 : Int32) < c0) (Pr3 : ¬ c1 < 0 ∧ ¬ (65535 : Int32) < c1) : Met l Z consts_1 (⟨"java/lang/StringUTF16", "compress", "([CII)[B"⟩ : MethodName) jdk_52_method_16_code 6 (some (.array .byte)) [] RrmCps2 [] #[(.ref y), (.int (0 : Int32)), (.int (2 : Int32))] h0 (QrmCps2 Z y ky c0 c1 h0) := by
  have ⟨hw, hEL, O2, P5, O4, P6, OA, OH, OB⟩ := hcx
  refine Met.start (a0 := a0) (Ls := #[vR y, vI (0 : Int32), vI (2 : Int32), .unset, .unset, .unset]) pn4 hEL O0 (fun m => by first | (simp [entryFrame, mkF, argsToLocals, Value.category]; done) | rfl) ?_
  intro p e s m below meth cc T0 vm0 X0 sf0_ hby hml hret hnm
  have hx := X0.hx
  have D : ∀ {n r}, decode B4 n = r → decode cc.code n = r := fun d => hb hby d
  have zz := X0.ge
  have A0 := X0.at
  have l1 := ltA Pr0.lt
  have hR : ∀ z_ ∈ [c0, c1], ¬ z_ < 0 ∧ ¬ (65535 : Int32) < z_ := allI Pr2 (allI Pr3 (allN))
  rcases fst2 Pr1 with w0 | ⟨n0, w1⟩
  · skip
    refine Gets.via (fun _ k => (XS.iloadN A0 hx rfl (D d4_0) rfl k)) ?_
    refine X0.newA (aty := .byte) (w23 hw) rfl (D d4_1) rfl (by decide) (cap := 2) (by decide) (by decide) (by decide) (by decide) fun T2 h2 a2 k2 X2 C2 E2 g2 S2 V2 => ?_
    have z2 := E2.1
    have l2 := ltA V2.lt
    have V2_ : Arv Z h2 a2 k2 .byte (2 : Int32) [(.int (0 : Int32)), (.int (0 : Int32))] (.int (0 : Int32)) := padN V2 2
    have A3 := X2.at
    refine Gets.via (fun _ k => (XS.astoreN A3 hx rfl (D d4_3) rfl rfl (l' := #[vR y, vI (0 : Int32), vI (2 : Int32), vR a2, .unset, .unset]) rfl (XS.aloadN A3 hx rfl (D d4_4) rfl rfl (XS.iloadN A3 hx rfl (D d4_5) rfl (XS.aloadN A3 hx rfl (D d4_6) rfl rfl (XS.iconst A3 hx rfl (D d4_7) (XS.iloadN A3 hx rfl (D d4_8) rfl k))))))) ?_
    show Gets p e below _ (T2.setTop (mkF m 9 #[vR y, vI (0 : Int32), vI (2 : Int32), vR a2, .unset, .unset] [(.int (2 : Int32)), (.int (0 : Int32)), (.ref a2), (.int (0 : Int32)), (.ref y)]))
    have f4 := Pr0.ext E2
    refine X2.callS (W := 0) (w24 hw) (w25 hw) (w21 hw) (w26 hw) (by decide) (X2.payM (sf := [a2]) (rmCmp2_0 hcx y a2 ky k2 c0 c1 h2 X2.old f4 V2_ (leA (by omega)) (neA (by omega)) w0) (sfS S2 sf0) (w26 hw) (w21 hw)) rfl (sz hml rfl) (argsL := [(.ref y), (.int (0 : Int32)), (.ref a2), (.int (0 : Int32)), (.int (2 : Int32))]) (rest := []) (lenOf pd7 rfl) rfl rfl (mroom rfl rfl) (D d4_9) (by decide) (by decide) fun T5 h5 vm5 v5 X5 C5 z5 q5 => ?_
    obtain ⟨rfl, K5⟩ := q5
    have A6 := X5.at
    refine Gets.via (fun _ k => (XS.istore A6 hx rfl (D d4_12) rfl (l' := #[vR y, vI (0 : Int32), vI (2 : Int32), vR a2, vI (0 : Int32), .unset]) rfl (XS.iload A6 hx rfl (D d4_14) rfl (XS.iloadN A6 hx rfl (D d4_16) rfl (XS.icmpNo A6 hx rfl (D d4_17) rfl (Jvm.Free.XT.ii_eq_f (by decide)) k))))) ?_
    refine Gets.via (fun _ k => (XS.aloadN A6 hx rfl (D d4_20) rfl rfl (XS.iloadN A6 hx rfl (D d4_21) rfl (XS.iloadN A6 hx rfl (D d4_22) rfl k)))) ?_
    have f7 := f4.keep K5 (ninS (neA (by omega)) nin0)
    refine X5.callS (W := 0) (w208 hw) (w209 hw) (w21 hw) (w210 hw) (by decide) (X5.payM (sf := []) (rmTb2 hcx y ky c0 c1 h5 X5.old f7) sf0 (w210 hw) (w21 hw)) rfl (sz hml rfl) (argsL := [(.ref y), (.int (0 : Int32)), (.int (2 : Int32))]) (rest := []) (lenOf pd11 rfl) rfl rfl (mroom rfl rfl) (D d4_23) (by decide) (by decide) fun T8 h8 vm8 v8 X8 C8 z8 q8 => ?_
    obtain ⟨t8, kt8, rfl, K8, g8_0, g8_1⟩ := q8
    have l9 := ltA g8_0.lt
    show Gets p e below _ (T8.setTop (mkF m 26 #[vR y, vI (0 : Int32), vI (2 : Int32), vR a2, vI (0 : Int32), .unset] [(.ref t8)]))
    have A10 := X8.at
    refine Gets.via (fun _ k => (XS.astore A10 hx rfl (D d4_26) rfl rfl (l' := #[vR y, vI (0 : Int32), vI (2 : Int32), vR a2, vI (0 : Int32), vR t8]) rfl (XS.aload A10 hx rfl (D d4_28) rfl rfl (XS.iload A10 hx rfl (D d4_30) rfl k)))) ?_
    refine X8.callS (W := 0) (w224 hw) (w225 hw) (w21 hw) (w226 hw) (by decide) (X8.payM (sf := []) (rmGetC hcx t8 0 kt8 (4 : Int32) 4 [c0, c1] h8 X8.old g8_0 rfl (by decide) (by first | exact Nat.le_of_ble_eq_true rfl | omega) (by first | exact Nat.le_of_ble_eq_true rfl | omega) hR) sf0 (w226 hw) (w21 hw)) rfl (sz hml rfl) (argsL := [(.ref t8), (.int (0 : Int32))]) (rest := []) (lenOf pd12 rfl) rfl rfl (mroom rfl rfl) (D d4_32) (by decide) (by decide) fun T11 h11 vm11 v11 X11 C11 z11 q11 => ?_
    obtain ⟨rfl, K11⟩ := q11
    rw [K11] at X11 C11
    have A12 := X11.at
    refine Gets.via (fun _ k => (XS.sipush A12 hx rfl (D d4_35) (XS.icmpYes A12 hx rfl (pc0 := 38) (pc' := 54) rfl (D d4_38) rfl (Jvm.Free.XT.ii_gt_t w0) (by decide) (by decide) k))) ?_
    refine Gets.via (fun _ k => (XS.aload A12 hx rfl (D d4_54) rfl rfl k)) ?_
    exact X11.retA hret rfl rfl rfl (D d4_56) (by decide) (by decide) (fun vmE CE => ⟨t8, kt8, rfl, ((((Keep.refl h0 []).ext E2).trans K5 (allS (Or.inr (leA (by omega))) all0)).trans K8 all0), g8_0, (leA (by omega))⟩)
  · skip
    refine Gets.via (fun _ k => (XS.iloadN A0 hx rfl (D d4_0) rfl k)) ?_
    refine X0.newA (aty := .byte) (w23 hw) rfl (D d4_1) rfl (by decide) (cap := 2) (by decide) (by decide) (by decide) (by decide) fun T13 h13 a13 k13 X13 C13 E13 g13 S13 V13 => ?_
    have z13 := E13.1
    have l13 := ltA V13.lt
    have V13_ : Arv Z h13 a13 k13 .byte (2 : Int32) [(.int (0 : Int32)), (.int (0 : Int32))] (.int (0 : Int32)) := padN V13 2
    show Gets p e below _ (T13.setTop (mkF m 3 #[vR y, vI (0 : Int32), vI (2 : Int32), .unset, .unset, .unset] [(.ref a13)]))
    have A14 := X13.at
    refine Gets.via (fun _ k => (XS.astoreN A14 hx rfl (D d4_3) rfl rfl (l' := #[vR y, vI (0 : Int32), vI (2 : Int32), vR a13, .unset, .unset]) rfl (XS.aloadN A14 hx rfl (D d4_4) rfl rfl (XS.iloadN A14 hx rfl (D d4_5) rfl (XS.aloadN A14 hx rfl (D d4_6) rfl rfl (XS.iconst A14 hx rfl (D d4_7) (XS.iloadN A14 hx rfl (D d4_8) rfl k))))))) ?_
    have f15 := Pr0.ext E13
    refine X13.callS (W := 0) (w24 hw) (w25 hw) (w21 hw) (w26 hw) (by decide) (X13.payM (sf := [a13]) (rmCmp2_1 hcx y a13 ky k13 c0 c1 h13 X13.old f15 V13_ (leA (by omega)) (neA (by omega)) w1 n0) (sfS S13 sf0) (w26 hw) (w21 hw)) rfl (sz hml rfl) (argsL := [(.ref y), (.int (0 : Int32)), (.ref a13), (.int (0 : Int32)), (.int (2 : Int32))]) (rest := []) (lenOf pd7 rfl) rfl rfl (mroom rfl rfl) (D d4_9) (by decide) (by decide) fun T16 h16 vm16 v16 X16 C16 z16 q16 => ?_
    obtain ⟨rfl, K16⟩ := q16
    have A17 := X16.at
    refine Gets.via (fun _ k => (XS.istore A17 hx rfl (D d4_12) rfl (l' := #[vR y, vI (0 : Int32), vI (2 : Int32), vR a13, vI (1 : Int32), .unset]) rfl (XS.iload A17 hx rfl (D d4_14) rfl (XS.iloadN A17 hx rfl (D d4_16) rfl (XS.icmpNo A17 hx rfl (D d4_17) rfl (Jvm.Free.XT.ii_eq_f (by decide)) k))))) ?_
    show Gets p e below _ (T16.setTop (mkF m 20 #[vR y, vI (0 : Int32), vI (2 : Int32), vR a13, vI (1 : Int32), .unset] []))
    refine Gets.via (fun _ k => (XS.aloadN A17 hx rfl (D d4_20) rfl rfl (XS.iloadN A17 hx rfl (D d4_21) rfl (XS.iloadN A17 hx rfl (D d4_22) rfl k)))) ?_
    have f18 := f15.keep K16 (ninS (neA (by omega)) nin0)
    refine X16.callS (W := 0) (w208 hw) (w209 hw) (w21 hw) (w210 hw) (by decide) (X16.payM (sf := []) (rmTb2 hcx y ky c0 c1 h16 X16.old f18) sf0 (w210 hw) (w21 hw)) rfl (sz hml rfl) (argsL := [(.ref y), (.int (0 : Int32)), (.int (2 : Int32))]) (rest := []) (lenOf pd11 rfl) rfl rfl (mroom rfl rfl) (D d4_23) (by decide) (by decide) fun T19 h19 vm19 v19 X19 C19 z19 q19 => ?_
    obtain ⟨t19, kt19, rfl, K19, g19_0, g19_1⟩ := q19
    have l20 := ltA g19_0.lt
    have A21 := X19.at
    refine Gets.via (fun _ k => (XS.astore A21 hx rfl (D d4_26) rfl rfl (l' := #[vR y, vI (0 : Int32), vI (2 : Int32), vR a13, vI (1 : Int32), vR t19]) rfl (XS.aload A21 hx rfl (D d4_28) rfl rfl (XS.iload A21 hx rfl (D d4_30) rfl k)))) ?_
    refine X19.callS (W := 0) (w224 hw) (w225 hw) (w21 hw) (w226 hw) (by decide) (X19.payM (sf := []) (rmGetC hcx t19 1 kt19 (4 : Int32) 4 [c0, c1] h19 X19.old g19_0 rfl (by decide) (by first | exact Nat.le_of_ble_eq_true rfl | omega) (by first | exact Nat.le_of_ble_eq_true rfl | omega) hR) sf0 (w226 hw) (w21 hw)) rfl (sz hml rfl) (argsL := [(.ref t19), (.int (1 : Int32))]) (rest := []) (lenOf pd12 rfl) rfl rfl (mroom rfl rfl) (D d4_32) (by decide) (by decide) fun T22 h22 vm22 v22 X22 C22 z22 q22 => ?_
    obtain ⟨rfl, K22⟩ := q22
    rw [K22] at X22 C22
    show Gets p e below _ (T22.setTop (mkF m 35 #[vR y, vI (0 : Int32), vI (2 : Int32), vR a13, vI (1 : Int32), vR t19] [(.int ([c0, c1].getD 1 0))]))
    have A23 := X22.at
    refine Gets.via (fun _ k => (XS.sipush A23 hx rfl (D d4_35) (XS.icmpYes A23 hx rfl (pc0 := 38) (pc' := 54) rfl (D d4_38) rfl (Jvm.Free.XT.ii_gt_t w1) (by decide) (by decide) k))) ?_
    refine Gets.via (fun _ k => (XS.aload A23 hx rfl (D d4_54) rfl rfl k)) ?_
    exact X22.retA hret rfl rfl rfl (D d4_56) (by decide) (by decide) (fun vmE CE => ⟨t19, kt19, rfl, ((((Keep.refl h0 []).ext E13).trans K16 (allS (Or.inr (leA (by omega))) all0)).trans K19 all0), g19_0, (leA (by omega))⟩)
abbrev RrmCfl2 : Room := { frames := 0, cells := 0, slots := 0, locals := 0 }
def QrmCfl2 (Z : State) (t : Addr) (kt : ClassId) (vs : List Value) (h0 : Heap) (v : Option Value) (vm : Vm) (h : Heap) : Prop := v = some (.int (1 : Int32)) ∧ h = h0
theorem rmCfl2 (hcx : Cx Z a0 zc fm) (t : Addr) (kt : ClassId) (vs : List Value) (h0 : Heap) (O0 : Old Z Z.heap.size h0) (Pr0 : Arv Z h0 t kt .byte (4 : Int32) vs (.int (0 : Int32))) : Met l Z consts_1 (⟨"java/lang/StringUTF16", "coderFromArrayLen", "([BI)B"⟩ : MethodName) jdk_52_method_15_code 2 (some .byte) [] RrmCfl2 [] #[(.ref t), (.int (2 : Int32))] h0 (QrmCfl2 Z t kt vs h0) := by
  have ⟨hw, hEL, O2, P5, O4, P6, OA, OH, OB⟩ := hcx
  refine Met.start (a0 := a0) (Ls := #[vR t, vI (2 : Int32)]) pn6 hEL O0 (fun m => by first | (simp [entryFrame, mkF, argsToLocals, Value.category]; done) | rfl) ?_
  intro p e s m below meth cc T0 vm0 X0 sf0_ hby hml hret hnm
  have hx := X0.hx
  have D : ∀ {n r}, decode B6 n = r → decode cc.code n = r := fun d => hb hby d
  have zz := X0.ge
  have A0 := X0.at
  have l1 := ltA Pr0.lt
  refine Gets.via (fun _ k => (XS.iloadN A0 hx rfl (D d6_0) rfl (XS.aloadN A0 hx rfl (D d6_1) rfl rfl k))) ?_
  refine X0.alen Pr0 rfl rfl (D d6_2) ?_
  refine Gets.via (fun _ k => (isubV A0 hx rfl (D d6_3) rfl (v := (-2 : Int32)) (by decide) (XS.bipush A0 hx rfl (D d6_4) (iushrV A0 hx rfl (D d6_6) rfl (v := (1 : Int32)) (by decide) (i2bV A0 hx rfl (D d6_7) rfl (v := (1 : Int32)) (by decide) k))))) ?_
  show Gets p e below _ (T0.setTop (mkF m 8 #[vR t, vI (2 : Int32)] [(.int (1 : Int32))]))
  exact X0.retI hret (by decide) (by simp) (D d6_8) (by decide) (by decide) (fun vmE CE => ⟨rfl, rfl⟩)
abbrev RrmU4_2 : Room := { frames := 4, cells := 2, slots := 6, locals := 57 }
def QrmU4_2 (Z : State) (x : Addr) (y : Addr) (ky : ClassId) (c0 : Int32) (c1 : Int32) (h0 : Heap) (v : Option Value) (vm : Vm) (h : Heap) : Prop := ∃ (t : Addr) (kt : ClassId), v = none ∧ Keep h0 h [x] ∧ StrU Z h x t kt [c0, c1]
theorem rmU4_2 (hcx : Cx Z a0 zc fm) (x : Addr) (y : Addr) (ky : ClassId) (c0 : Int32) (c1 : Int32) (h0 : Heap) (O0 : Old Z Z.heap.size h0) (Pr0 : Exa Z h0 x "java/lang/String") (Pr1 : Fld Z h0 x "java/lang/String" "coder" "B" (.int (0 : Int32))) (Pr2 : Fld Z h0 x "java/lang/String" "value" "[B" .null) (Pr3 : Z.heap.size ≤ x) (Pr4 : Arv Z h0 y ky .char (2 : Int32) [(.int c0), (.int c1)] (.int (0 : Int32))) (Pr5 : (255 : Int32) < c0 ∨ (255 : Int32) < c1) (Pr6 : ¬ c0 < 0 ∧ ¬ (65535 : Int32) < c0) (Pr7 : ¬ c1 < 0 ∧ ¬ (65535 : Int32) < c1) : Met l Z consts_1 (⟨"java/lang/String", "<init>", "([CIILjava/lang/Void;)V"⟩ : MethodName) jdk_42_method_149_code 6 (none) [] RrmU4_2 [x] #[(.ref x), (.ref y), (.int (0 : Int32)), (.int (2 : Int32)), .null] h0 (QrmU4_2 Z x y ky c0 c1 h0) := by
  have ⟨hw, hEL, O2, P5, O4, P6, OA, OH, OB⟩ := hcx
  refine Met.start (a0 := a0) (Ls := #[vR x, vR y, vI (0 : Int32), vI (2 : Int32), .val .null, .unset]) pn2 hEL O0 (fun m => by first | (simp [entryFrame, mkF, argsToLocals, Value.category]; done) | rfl) ?_
  intro p e s m below meth cc T0 vm0 X0 sf0_ hby hml hret hnm
  have hx := X0.hx
  have D : ∀ {n r}, decode B2 n = r → decode cc.code n = r := fun d => hb hby d
  have zz := X0.ge
  have A0 := X0.at
  have l1 := ltA Pr0.lt
  have l2 := ltA Pr4.lt
  have s3 := sf0_ x (memI (i := 0) rfl)
  refine Gets.via (fun _ k => (XS.aloadN A0 hx rfl (D d2_0) rfl rfl k)) ?_
  refine X0.objInit (w15 hw) (w16 hw) (w17 hw) rfl (sz hml rfl) rfl (D d2_1) (by decide) (W := 0) (mroom rfl rfl) (by decide) fun T4 X4 => ?_
  have A5 := X4.at
  refine Gets.via (fun _ k => (XS.iloadN A5 hx rfl (D d2_4) rfl (XS.ifYes A5 hx rfl (pc0 := 5) (pc' := 27) rfl (D d2_5) rfl (Jvm.Free.XT.i0_ne_t (by decide)) (by decide) (by decide) k))) ?_
  refine X4.getS (host := "") (Or.inl (w18 hw)) Via.refl (X4.sta O2) rfl (D d2_27) fun T6 X6 => ?_
  show Gets p e below _ (T6.setTop (mkF m 30 #[vR x, vR y, vI (0 : Int32), vI (2 : Int32), .val .null, .unset] [(.int zc)]))
  have A7 := X6.at
  refine Gets.via (fun _ k => (XS.ifNo A7 hx rfl (D d2_30) rfl (Jvm.Free.XT.i0_eq_f P5) k)) ?_
  refine Gets.via (fun _ k => (XS.aloadN A7 hx rfl (D d2_33) rfl rfl (XS.iloadN A7 hx rfl (D d2_34) rfl (XS.iloadN A7 hx rfl (D d2_35) rfl k)))) ?_
  refine X6.callS (W := 0) (w19 hw) (w20 hw) (w21 hw) (w22 hw) (by decide) (X6.payM (sf := []) (rmCps2 hcx y ky c0 c1 h0 X6.old Pr4 Pr5 Pr6 Pr7) sf0 (w22 hw) (w21 hw)) rfl (sz hml rfl) (argsL := [(.ref y), (.int (0 : Int32)), (.int (2 : Int32))]) (rest := []) (lenOf pd11 rfl) rfl rfl (mroom rfl rfl) (D d2_36) (by decide) (by decide) fun T8 h8 vm8 v8 X8 C8 z8 q8 => ?_
  obtain ⟨t8, kt8, rfl, K8, g8_0, g8_1⟩ := q8
  have l9 := ltA g8_0.lt
  have A10 := X8.at
  refine Gets.via (fun _ k => (XS.astore A10 hx rfl (D d2_39) rfl rfl (l' := #[vR x, vR y, vI (0 : Int32), vI (2 : Int32), .val .null, vR t8]) rfl (XS.aloadN A10 hx rfl (D d2_41) rfl rfl (XS.aload A10 hx rfl (D d2_42) rfl rfl (XS.iloadN A10 hx rfl (D d2_44) rfl k))))) ?_
  refine X8.callS (W := 1) (w27 hw) (w28 hw) (w21 hw) (w29 hw) (by decide) (X8.payM (sf := []) (rmCfl2 hcx t8 kt8 (enc16 [c0, c1]) h8 X8.old g8_0) sf0 (w29 hw) (w21 hw)) rfl (sz hml rfl) (argsL := [(.ref t8), (.int (2 : Int32))]) (rest := [(.ref x)]) (lenOf pd13 rfl) rfl rfl (mroom rfl rfl) (D d2_45) (by decide) (by decide) fun T11 h11 vm11 v11 X11 C11 z11 q11 => ?_
  obtain ⟨rfl, K11⟩ := q11
  rw [K11] at X11 C11
  show Gets p e below _ (T11.setTop (mkF m 48 #[vR x, vR y, vI (0 : Int32), vI (2 : Int32), .val .null, vR t8] [(.int (1 : Int32)), (.ref x)]))
  have f13 := Pr1.keep K8 nin0
  have f14 := Pr0.keep K8
  have f15 := C8.safe (x := x) (ltA (by omega)) s3
  have f16 := C11.safe (x := x) (ltA (by omega)) f15
  refine X11.putF (host := "") (Or.inl (w30 hw)) Via.refl f13 f14 (Or.inr ⟨(w31 hw), rfl, hnm⟩) (w5 hw) (ty := .byte) (by decide) (by decide) (by decide) (leA (by omega)) f16 rfl rfl (D d2_48) fun T12 h12 X12 C12 W12 F12 Z12 => ?_
  have z12 := W12.size
  have A17 := X12.at
  refine Gets.via (fun _ k => (XS.aloadN A17 hx rfl (D d2_51) rfl rfl (XS.aload A17 hx rfl (D d2_52) rfl rfl k))) ?_
  have f19 := Pr2.keep K8 nin0
  have f20 := f19.other W12 (Or.inr (slot_ne (t := (.array .byte)) (t' := .byte) (Or.inr (w33 hw)) (Or.inr (w31 hw)) (by decide) (by decide) (by decide)))
  have f21 := C12.safe (x := x) (ltA (by omega)) f16
  refine X12.putF (host := "") (Or.inl (w32 hw)) Via.refl f20 Z12 (Or.inr ⟨(w33 hw), rfl, hnm⟩) (w5 hw) (ty := (.array .byte)) (by decide) rfl rfl (leA (by omega)) f21 rfl rfl (D d2_54) fun T18 h18 X18 C18 W18 F18 Z18 => ?_
  have z18 := W18.size
  have f22 := F12.other W18 (Or.inr (slot_ne (t := .byte) (t' := (.array .byte)) (Or.inr (w31 hw)) (Or.inr (w33 hw)) (by decide) (by decide) (by decide)))
  have f23 := g8_0.other W12 (neA (by omega))
  have f24 := f23.other W18 (neA (by omega))
  have SU : StrU Z h18 x t8 kt8 [c0, c1] := ⟨Z18, f22, F18, f24, allI Pr6 (allI Pr7 (allN)), Nat.le_of_ble_eq_true rfl⟩
  exact X18.retV hret (D d2_57) (by decide) (by decide) (fun vmE CE => ⟨t8, kt8, rfl, ((((Keep.refl h0 [x]).trans K8 all0).wr W12 (Or.inl (memI (i := 0) rfl))).wr W18 (Or.inl (memI (i := 0) rfl))), SU⟩)
abbrev RrmU1_2 : Room := { frames := 5, cells := 2, slots := 6, locals := 74 }
def QrmU1_2 (Z : State) (x : Addr) (y : Addr) (ky : ClassId) (c0 : Int32) (c1 : Int32) (h0 : Heap) (v : Option Value) (vm : Vm) (h : Heap) : Prop := ∃ (t : Addr) (kt : ClassId), v = none ∧ Keep h0 h [x] ∧ StrU Z h x t kt [c0, c1]
theorem rmU1_2 (hcx : Cx Z a0 zc fm) (x : Addr) (y : Addr) (ky : ClassId) (c0 : Int32) (c1 : Int32) (h0 : Heap) (O0 : Old Z Z.heap.size h0) (Pr0 : Exa Z h0 x "java/lang/String") (Pr1 : Fld Z h0 x "java/lang/String" "coder" "B" (.int (0 : Int32))) (Pr2 : Fld Z h0 x "java/lang/String" "value" "[B" .null) (Pr3 : Z.heap.size ≤ x) (Pr4 : Arv Z h0 y ky .char (2 : Int32) [(.int c0), (.int c1)] (.int (0 : Int32))) (Pr5 : (255 : Int32) < c0 ∨ (255 : Int32) < c1) (Pr6 : ¬ c0 < 0 ∧ ¬ (65535 : Int32) < c0) (Pr7 : ¬ c1 < 0 ∧ ¬ (65535 : Int32) < c1) : Met l Z consts_1 (⟨"java/lang/String", "<init>", "([C)V"⟩ : MethodName) jdk_42_method_3_code 2 (none) [] RrmU1_2 [x] #[(.ref x), (.ref y)] h0 (QrmU1_2 Z x y ky c0 c1 h0) := by
  have ⟨hw, hEL, O2, P5, O4, P6, OA, OH, OB⟩ := hcx
  refine Met.start (a0 := a0) (Ls := #[vR x, vR y]) pn1 hEL O0 (fun m => by first | (simp [entryFrame, mkF, argsToLocals, Value.category]; done) | rfl) ?_
  intro p e s m below meth cc T0 vm0 X0 sf0_ hby hml hret hnm
  have hx := X0.hx
  have D : ∀ {n r}, decode B1 n = r → decode cc.code n = r := fun d => hb hby d
  have zz := X0.ge
  have A0 := X0.at
  have l1 := ltA Pr0.lt
  have l2 := ltA Pr4.lt
  have s3 := sf0_ x (memI (i := 0) rfl)
  refine Gets.via (fun _ k => (XS.aloadN A0 hx rfl (D d1_0) rfl rfl (XS.aloadN A0 hx rfl (D d1_1) rfl rfl (XS.iconst A0 hx rfl (D d1_2) (XS.aloadN A0 hx rfl (D d1_3) rfl rfl k))))) ?_
  refine X0.alen Pr4 rfl rfl (D d1_4) ?_
  refine Gets.via (fun _ k => (XS.aconstNull A0 hx rfl (D d1_5) k)) ?_
  refine X0.callI (y := (⟨"java/lang/String", "<init>", "([CIILjava/lang/Void;)V"⟩ : MethodName)) (W := 0) rfl (w11 hw) (w12 hw) (w14 hw) (by decide) (X0.payM (sf := [x]) (rmU4_2 hcx x y ky c0 c1 h0 X0.old Pr0 Pr1 Pr2 Pr3 Pr4 Pr5 Pr6 Pr7) (sfS s3 sf0) (w14 hw) (w6 hw)) rfl (sz hml rfl) (a := x) (argsL := [(.ref y), (.int (0 : Int32)), (.int (2 : Int32)), .null]) (rest := []) (lenOf pd0 rfl) rfl rfl (mroom rfl rfl) (D d1_6) (by decide) (by decide) fun T4 h4 vm4 v4 X4 C4 z4 q4 => ?_
  obtain ⟨t4, kt4, rfl, K4, g4_0⟩ := q4
  have l5 := ltA g4_0.lt
  have l6 := ltA g4_0.lb
  show Gets p e below _ (T4.setTop (mkF m 9 #[vR x, vR y] []))
  exact X4.retV hret (D d1_9) (by decide) (by decide) (fun vmE CE => ⟨t4, kt4, rfl, ((Keep.refl h0 [x]).trans K4 (allS (Or.inl (memI (i := 0) rfl)) all0)), g4_0⟩)
abbrev RrmCmp3_0 : Room := { frames := 0, cells := 0, slots := 0, locals := 0 }
def QrmCmp3_0 (Z : State) (y : Addr) (d : Addr) (ky : ClassId) (kd : ClassId) (c0 : Int32) (c1 : Int32) (c2 : Int32) (h0 : Heap) (v : Option Value) (vm : Vm) (h : Heap) : Prop := v = some (.int (0 : Int32)) ∧ Keep h0 h [d]
theorem rmCmp3_0 (hcx : Cx Z a0 zc fm) (y : Addr) (d : Addr) (ky : ClassId) (kd : ClassId) (c0 : Int32) (c1 : Int32) (c2 : Int32) (h0 : Heap) (O0 : Old Z Z.heap.size h0) (Pr0 : Arv Z h0 y ky .char (3 : Int32) [(.int c0), (.int c1), (.int c2)] (.int (0 : Int32))) (Pr1 : Arv Z h0 d kd .byte (3 : Int32) [(.int (0 : Int32)), (.int (0 : Int32)), (.int (0 : Int32))] (.int (0 : Int32))) (Pr2 : Z.heap.size ≤ d) (Pr3 : y ≠ d) (Pr4 : (255 : Int32) < c0) : Met l Z consts_1 (⟨"java/lang/StringUTF16", "compress", "([CI[BII)I"⟩ : MethodName) jdk_52_method_21_code 7 (some .int) [] RrmCmp3_0 [d] #[(.ref y), (.int (0 : Int32)), (.ref d), (.int (0 : Int32)), (.int (3 : Int32))] h0 (QrmCmp3_0 Z y d ky kd c0 c1 c2 h0) := by
  have ⟨hw, hEL, O2, P5, O4, P6, OA, OH, OB⟩ := hcx
  refine Met.start (a0 := a0) (Ls := #[vR y, vI (0 : Int32), vR d, vI (0 : Int32), vI (3 : Int32), .unset, .unset]) pn5 hEL O0 (fun m => by first | (simp [entryFrame, mkF, argsToLocals, Value.category]; done) | rfl) ?_
  intro p e s m below meth cc T0 vm0 X0 sf0_ hby hml hret hnm
  have hx := X0.hx
  have D : ∀ {n r}, decode B5 n = r → decode cc.code n = r := fun d => hb hby d
  have zz := X0.ge
  have A0 := X0.at
  have l1 := ltA Pr0.lt
  have l2 := ltA Pr1.lt
  have l3 := neA Pr3
  have s4 := sf0_ d (memI (i := 0) rfl)
  refine Gets.via (fun _ k => (XS.iconst A0 hx rfl (D d5_0) (XS.istore A0 hx rfl (D d5_1) rfl (l' := #[vR y, vI (0 : Int32), vR d, vI (0 : Int32), vI (3 : Int32), vI (0 : Int32), .unset]) rfl (XS.iload A0 hx rfl (D d5_3) rfl (XS.iload A0 hx rfl (D d5_5) rfl (XS.icmpNo A0 hx rfl (D d5_7) rfl (Jvm.Free.XT.ii_ge_f (by decide)) k)))))) ?_
  refine Gets.via (fun _ k => (XS.aloadN A0 hx rfl (D d5_10) rfl rfl (XS.iloadN A0 hx rfl (D d5_11) rfl k))) ?_
  refine X0.ldC Pr0 (i := 0) (by decide) (by decide) (by decide) rfl rfl rfl (D d5_12) ?_
  show Gets p e below _ (T0.setTop (mkF m 13 #[vR y, vI (0 : Int32), vR d, vI (0 : Int32), vI (3 : Int32), vI (0 : Int32), .unset] [(.int c0)]))
  refine Gets.via (fun _ k => (XS.istore A0 hx rfl (D d5_13) rfl (l' := #[vR y, vI (0 : Int32), vR d, vI (0 : Int32), vI (3 : Int32), vI (0 : Int32), vI c0]) rfl (XS.iload A0 hx rfl (D d5_15) rfl (XS.sipush A0 hx rfl (D d5_17) (XS.icmpNo A0 hx rfl (D d5_20) rfl (Jvm.Free.XT.ii_le_f Pr4) k))))) ?_
  refine Gets.via (fun _ k => (XS.iload A0 hx rfl (D d5_23) rfl k)) ?_
  exact X0.retI hret rfl (by simp) (D d5_25) (by decide) (by decide) (fun vmE CE => ⟨rfl, (Keep.refl h0 [d])⟩)
abbrev RrmCmp3_1 : Room := { frames := 0, cells := 0, slots := 0, locals := 0 }
def QrmCmp3_1 (Z : State) (y : Addr) (d : Addr) (ky : ClassId) (kd : ClassId) (c0 : Int32) (c1 : Int32) (c2 : Int32) (h0 : Heap) (v : Option Value) (vm : Vm) (h : Heap) : Prop := v = some (.int (1 : Int32)) ∧ Keep h0 h [d]
theorem rmCmp3_1 (hcx : Cx Z a0 zc fm) (y : Addr) (d : Addr) (ky : ClassId) (kd : ClassId) (c0 : Int32) (c1 : Int32) (c2 : Int32) (h0 : Heap) (O0 : Old Z Z.heap.size h0) (Pr0 : Arv Z h0 y ky .char (3 : Int32) [(.int c0), (.int c1), (.int c2)] (.int (0 : Int32))) (Pr1 : Arv Z h0 d kd .byte (3 : Int32) [(.int (0 : Int32)), (.int (0 : Int32)), (.int (0 : Int32))] (.int (0 : Int32))) (Pr2 : Z.heap.size ≤ d) (Pr3 : y ≠ d) (Pr4 : (255 : Int32) < c1) (Pr5 : ¬ (255 : Int32) < c0) : Met l Z consts_1 (⟨"java/lang/StringUTF16", "compress", "([CI[BII)I"⟩ : MethodName) jdk_52_method_21_code 7 (some .int) [] RrmCmp3_1 [d] #[(.ref y), (.int (0 : Int32)), (.ref d), (.int (0 : Int32)), (.int (3 : Int32))] h0 (QrmCmp3_1 Z y d ky kd c0 c1 c2 h0) := by
  have ⟨hw, hEL, O2, P5, O4, P6, OA, OH, OB⟩ := hcx
  refine Met.start (a0 := a0) (Ls := #[vR y, vI (0 : Int32), vR d, vI (0 : Int32), vI (3 : Int32), .unset, .unset]) pn5 hEL O0 (fun m => by first | (simp [entryFrame, mkF, argsToLocals, Value.category]; done) | rfl) ?_
  intro p e s m below meth cc T0 vm0 X0 sf0_ hby hml hret hnm
  have hx := X0.hx
  have D : ∀ {n r}, decode B5 n = r → decode cc.code n = r := fun d => hb hby d
  have zz := X0.ge
  have A0 := X0.at
  have l1 := ltA Pr0.lt
  have l2 := ltA Pr1.lt
  have l3 := neA Pr3
  have s4 := sf0_ d (memI (i := 0) rfl)
  refine Gets.via (fun _ k => (XS.iconst A0 hx rfl (D d5_0) (XS.istore A0 hx rfl (D d5_1) rfl (l' := #[vR y, vI (0 : Int32), vR d, vI (0 : Int32), vI (3 : Int32), vI (0 : Int32), .unset]) rfl (XS.iload A0 hx rfl (D d5_3) rfl (XS.iload A0 hx rfl (D d5_5) rfl (XS.icmpNo A0 hx rfl (D d5_7) rfl (Jvm.Free.XT.ii_ge_f (by decide)) k)))))) ?_
  refine Gets.via (fun _ k => (XS.aloadN A0 hx rfl (D d5_10) rfl rfl (XS.iloadN A0 hx rfl (D d5_11) rfl k))) ?_
  refine X0.ldC Pr0 (i := 0) (by decide) (by decide) (by decide) rfl rfl rfl (D d5_12) ?_
  show Gets p e below _ (T0.setTop (mkF m 13 #[vR y, vI (0 : Int32), vR d, vI (0 : Int32), vI (3 : Int32), vI (0 : Int32), .unset] [(.int c0)]))
  refine Gets.via (fun _ k => (XS.istore A0 hx rfl (D d5_13) rfl (l' := #[vR y, vI (0 : Int32), vR d, vI (0 : Int32), vI (3 : Int32), vI (0 : Int32), vI c0]) rfl (XS.iload A0 hx rfl (D d5_15) rfl (XS.sipush A0 hx rfl (D d5_17) (XS.icmpYes A0 hx rfl (pc0 := 20) (pc' := 26) rfl (D d5_20) rfl (Jvm.Free.XT.ii_le_t Pr5) (by decide) (by decide) k))))) ?_
  refine Gets.via (fun _ k => (XS.aloadN A0 hx rfl (D d5_26) rfl rfl (XS.iloadN A0 hx rfl (D d5_27) rfl (XS.iload A0 hx rfl (D d5_28) rfl (XS.i2b A0 hx rfl (D d5_30) rfl k))))) ?_
  refine X0.stB Pr1 (i := 0) (by decide) (by decide) (Nat.le_of_ble_eq_true rfl) (by decide) (v := (nar .byte (c0.toInt8.toInt32))) rfl s4 (leA (by omega)) rfl rfl (D d5_31) fun T5 h5 X5 C5 K5 V5 => ?_
  have z5 := K5.1
  have V5_ : Arv Z h5 d kd .byte (3 : Int32) [(.int (nar .byte (c0.toInt8.toInt32))), (.int (0 : Int32)), (.int (0 : Int32))] (.int (0 : Int32)) := V5
  have A6 := X5.at
  refine Gets.via (fun _ k => (iincV A6 hx rfl (D d5_32) rfl (v := (1 : Int32)) (by decide) (l' := #[vR y, vI (1 : Int32), vR d, vI (0 : Int32), vI (3 : Int32), vI (0 : Int32), vI c0]) rfl (iincV A6 hx rfl (D d5_35) rfl (v := (1 : Int32)) (by decide) (l' := #[vR y, vI (1 : Int32), vR d, vI (1 : Int32), vI (3 : Int32), vI (0 : Int32), vI c0]) rfl (iincV A6 hx rfl (D d5_38) rfl (v := (1 : Int32)) (by decide) (l' := #[vR y, vI (1 : Int32), vR d, vI (1 : Int32), vI (3 : Int32), vI (1 : Int32), vI c0]) rfl (XS.goto A6 hx rfl (pc0 := 41) (pc' := 3) rfl (D d5_41) (by decide) (by decide) k))))) ?_
  show Gets p e below _ (T5.setTop (mkF m 3 #[vR y, vI (1 : Int32), vR d, vI (1 : Int32), vI (3 : Int32), vI (1 : Int32), vI c0] []))
  refine Gets.via (fun _ k => (XS.iload A6 hx rfl (D d5_3) rfl (XS.iload A6 hx rfl (D d5_5) rfl (XS.icmpNo A6 hx rfl (D d5_7) rfl (Jvm.Free.XT.ii_ge_f (by decide)) k)))) ?_
  refine Gets.via (fun _ k => (XS.aloadN A6 hx rfl (D d5_10) rfl rfl (XS.iloadN A6 hx rfl (D d5_11) rfl k))) ?_
  have f7 := Pr0.keep K5 (ninS (neA (by omega)) nin0)
  refine X5.ldC f7 (i := 1) (by decide) (by decide) (by decide) rfl rfl rfl (D d5_12) ?_
  refine Gets.via (fun _ k => (XS.istore A6 hx rfl (D d5_13) rfl (l' := #[vR y, vI (1 : Int32), vR d, vI (1 : Int32), vI (3 : Int32), vI (1 : Int32), vI c1]) rfl (XS.iload A6 hx rfl (D d5_15) rfl (XS.sipush A6 hx rfl (D d5_17) (XS.icmpNo A6 hx rfl (D d5_20) rfl (Jvm.Free.XT.ii_le_f Pr4) k))))) ?_
  show Gets p e below _ (T5.setTop (mkF m 23 #[vR y, vI (1 : Int32), vR d, vI (1 : Int32), vI (3 : Int32), vI (1 : Int32), vI c1] []))
  refine Gets.via (fun _ k => (XS.iload A6 hx rfl (D d5_23) rfl k)) ?_
  exact X5.retI hret rfl (by simp) (D d5_25) (by decide) (by decide) (fun vmE CE => ⟨rfl, ((Keep.refl h0 [d]).trans K5 (allS (Or.inl (memI (i := 0) rfl)) all0))⟩)
abbrev RrmCmp3_2 : Room := { frames := 0, cells := 0, slots := 0, locals := 0 }
def QrmCmp3_2 (Z : State) (y : Addr) (d : Addr) (ky : ClassId) (kd : ClassId) (c0 : Int32) (c1 : Int32) (c2 : Int32) (h0 : Heap) (v : Option Value) (vm : Vm) (h : Heap) : Prop := v = some (.int (2 : Int32)) ∧ Keep h0 h [d]
theorem rmCmp3_2 (hcx : Cx Z a0 zc fm) (y : Addr) (d : Addr) (ky : ClassId) (kd : ClassId) (c0 : Int32) (c1 : Int32) (c2 : Int32) (h0 : Heap) (O0 : Old Z Z.heap.size h0) (Pr0 : Arv Z h0 y ky .char (3 : Int32) [(.int c0), (.int c1), (.int c2)] (.int (0 : Int32))) (Pr1 : Arv Z h0 d kd .byte (3 : Int32) [(.int (0 : Int32)), (.int (0 : Int32)), (.int (0 : Int32))] (.int (0 : Int32))) (Pr2 : Z.heap.size ≤ d) (Pr3 : y ≠ d) (Pr4 : (255 : Int32) < c2) (Pr5 : ¬ (255 : Int32) < c0) (Pr6 : ¬ (255 : Int32) < c1) : Met l Z consts_1 (⟨"java/lang/StringUTF16", "compress", "([CI[BII)I"⟩ : MethodName) jdk_52_method_21_code 7 (some .int) [] RrmCmp3_2 [d] #[(.ref y), (.int (0 : Int32)), (.ref d), (.int (0 : Int32)), (.int (3 : Int32))] h0 (QrmCmp3_2 Z y d ky kd c0 c1 c2 h0) := by
  have ⟨hw, hEL, O2, P5, O4, P6, OA, OH, OB⟩ := hcx
  refine Met.start (a0 := a0) (Ls := #[vR y, vI (0 : Int32), vR d, vI (0 : Int32), vI (3 : Int32), .unset, .unset]) pn5 hEL O0 (fun m => by first | (simp [entryFrame, mkF, argsToLocals, Value.category]; done) | rfl) ?_
  intro p e s m below meth cc T0 vm0 X0 sf0_ hby hml hret hnm
  have hx := X0.hx
  have D : ∀ {n r}, decode B5 n = r → decode cc.code n = r := fun d => hb hby d
  have zz := X0.ge
  have A0 := X0.at
  have l1 := ltA Pr0.lt
  have l2 := ltA Pr1.lt
  have l3 := neA Pr3
  have s4 := sf0_ d (memI (i := 0) rfl)
  refine Gets.via (fun _ k => (XS.iconst A0 hx rfl (D d5_0) (XS.istore A0 hx rfl (D d5_1) rfl (l' := #[vR y, vI (0 : Int32), vR d, vI (0 : Int32), vI (3 : Int32), vI (0 : Int32), .unset]) rfl (XS.iload A0 hx rfl (D d5_3) rfl (XS.iload A0 hx rfl (D d5_5) rfl (XS.icmpNo A0 hx rfl (D d5_7) rfl (Jvm.Free.XT.ii_ge_f (by decide)) k)))))) ?_
  refine Gets.via (fun _ k => (XS.aloadN A0 hx rfl (D d5_10) rfl rfl (XS.iloadN A0 hx rfl (D d5_11) rfl k))) ?_
  refine X0.ldC Pr0 (i := 0) (by decide) (by decide) (by decide) rfl rfl rfl (D d5_12) ?_
  show Gets p e below _ (T0.setTop (mkF m 13 #[vR y, vI (0 : Int32), vR d, vI (0 : Int32), vI (3 : Int32), vI (0 : Int32), .unset] [(.int c0)]))
  refine Gets.via (fun _ k => (XS.istore A0 hx rfl (D d5_13) rfl (l' := #[vR y, vI (0 : Int32), vR d, vI (0 : Int32), vI (3 : Int32), vI (0 : Int32), vI c0]) rfl (XS.iload A0 hx rfl (D d5_15) rfl (XS.sipush A0 hx rfl (D d5_17) (XS.icmpYes A0 hx rfl (pc0 := 20) (pc' := 26) rfl (D d5_20) rfl (Jvm.Free.XT.ii_le_t Pr5) (by decide) (by decide) k))))) ?_
  refine Gets.via (fun _ k => (XS.aloadN A0 hx rfl (D d5_26) rfl rfl (XS.iloadN A0 hx rfl (D d5_27) rfl (XS.iload A0 hx rfl (D d5_28) rfl (XS.i2b A0 hx rfl (D d5_30) rfl k))))) ?_
  refine X0.stB Pr1 (i := 0) (by decide) (by decide) (Nat.le_of_ble_eq_true rfl) (by decide) (v := (nar .byte (c0.toInt8.toInt32))) rfl s4 (leA (by omega)) rfl rfl (D d5_31) fun T5 h5 X5 C5 K5 V5 => ?_
  have z5 := K5.1
  have V5_ : Arv Z h5 d kd .byte (3 : Int32) [(.int (nar .byte (c0.toInt8.toInt32))), (.int (0 : Int32)), (.int (0 : Int32))] (.int (0 : Int32)) := V5
  have A6 := X5.at
  refine Gets.via (fun _ k => (iincV A6 hx rfl (D d5_32) rfl (v := (1 : Int32)) (by decide) (l' := #[vR y, vI (1 : Int32), vR d, vI (0 : Int32), vI (3 : Int32), vI (0 : Int32), vI c0]) rfl (iincV A6 hx rfl (D d5_35) rfl (v := (1 : Int32)) (by decide) (l' := #[vR y, vI (1 : Int32), vR d, vI (1 : Int32), vI (3 : Int32), vI (0 : Int32), vI c0]) rfl (iincV A6 hx rfl (D d5_38) rfl (v := (1 : Int32)) (by decide) (l' := #[vR y, vI (1 : Int32), vR d, vI (1 : Int32), vI (3 : Int32), vI (1 : Int32), vI c0]) rfl (XS.goto A6 hx rfl (pc0 := 41) (pc' := 3) rfl (D d5_41) (by decide) (by decide) k))))) ?_
  show Gets p e below _ (T5.setTop (mkF m 3 #[vR y, vI (1 : Int32), vR d, vI (1 : Int32), vI (3 : Int32), vI (1 : Int32), vI c0] []))
  refine Gets.via (fun _ k => (XS.iload A6 hx rfl (D d5_3) rfl (XS.iload A6 hx rfl (D d5_5) rfl (XS.icmpNo A6 hx rfl (D d5_7) rfl (Jvm.Free.XT.ii_ge_f (by decide)) k)))) ?_
  refine Gets.via (fun _ k => (XS.aloadN A6 hx rfl (D d5_10) rfl rfl (XS.iloadN A6 hx rfl (D d5_11) rfl k))) ?_
  have f7 := Pr0.keep K5 (ninS (neA (by omega)) nin0)
  refine X5.ldC f7 (i := 1) (by decide) (by decide) (by decide) rfl rfl rfl (D d5_12) ?_
  refine Gets.via (fun _ k => (XS.istore A6 hx rfl (D d5_13) rfl (l' := #[vR y, vI (1 : Int32), vR d, vI (1 : Int32), vI (3 : Int32), vI (1 : Int32), vI c1]) rfl (XS.iload A6 hx rfl (D d5_15) rfl (XS.sipush A6 hx rfl (D d5_17) (XS.icmpYes A6 hx rfl (pc0 := 20) (pc' := 26) rfl (D d5_20) rfl (Jvm.Free.XT.ii_le_t Pr6) (by decide) (by decide) k))))) ?_
  show Gets p e below _ (T5.setTop (mkF m 26 #[vR y, vI (1 : Int32), vR d, vI (1 : Int32), vI (3 : Int32), vI (1 : Int32), vI c1] []))
  refine Gets.via (fun _ k => (XS.aloadN A6 hx rfl (D d5_26) rfl rfl (XS.iloadN A6 hx rfl (D d5_27) rfl (XS.iload A6 hx rfl (D d5_28) rfl (XS.i2b A6 hx rfl (D d5_30) rfl k))))) ?_
  have f9 := C5.safe (x := d) (ltA (by omega)) s4
  refine X5.stB V5_ (i := 1) (by decide) (by decide) (Nat.le_of_ble_eq_true rfl) (by decide) (v := (nar .byte (c1.toInt8.toInt32))) rfl f9 (leA (by omega)) rfl rfl (D d5_31) fun T8 h8 X8 C8 K8 V8 => ?_
  have z8 := K8.1
  have V8_ : Arv Z h8 d kd .byte (3 : Int32) [(.int (nar .byte (c0.toInt8.toInt32))), (.int (nar .byte (c1.toInt8.toInt32))), (.int (0 : Int32))] (.int (0 : Int32)) := V8
  have A10 := X8.at
  refine Gets.via (fun _ k => (iincV A10 hx rfl (D d5_32) rfl (v := (2 : Int32)) (by decide) (l' := #[vR y, vI (2 : Int32), vR d, vI (1 : Int32), vI (3 : Int32), vI (1 : Int32), vI c1]) rfl (iincV A10 hx rfl (D d5_35) rfl (v := (2 : Int32)) (by decide) (l' := #[vR y, vI (2 : Int32), vR d, vI (2 : Int32), vI (3 : Int32), vI (1 : Int32), vI c1]) rfl (iincV A10 hx rfl (D d5_38) rfl (v := (2 : Int32)) (by decide) (l' := #[vR y, vI (2 : Int32), vR d, vI (2 : Int32), vI (3 : Int32), vI (2 : Int32), vI c1]) rfl (XS.goto A10 hx rfl (pc0 := 41) (pc' := 3) rfl (D d5_41) (by decide) (by decide) k))))) ?_
  refine Gets.via (fun _ k => (XS.iload A10 hx rfl (D d5_3) rfl (XS.iload A10 hx rfl (D d5_5) rfl (XS.icmpNo A10 hx rfl (D d5_7) rfl (Jvm.Free.XT.ii_ge_f (by decide)) k)))) ?_
  show Gets p e below _ (T8.setTop (mkF m 10 #[vR y, vI (2 : Int32), vR d, vI (2 : Int32), vI (3 : Int32), vI (2 : Int32), vI c1] []))
  refine Gets.via (fun _ k => (XS.aloadN A10 hx rfl (D d5_10) rfl rfl (XS.iloadN A10 hx rfl (D d5_11) rfl k))) ?_
  have f11 := f7.keep K8 (ninS (neA (by omega)) nin0)
  refine X8.ldC f11 (i := 2) (by decide) (by decide) (by decide) rfl rfl rfl (D d5_12) ?_
  refine Gets.via (fun _ k => (XS.istore A10 hx rfl (D d5_13) rfl (l' := #[vR y, vI (2 : Int32), vR d, vI (2 : Int32), vI (3 : Int32), vI (2 : Int32), vI c2]) rfl (XS.iload A10 hx rfl (D d5_15) rfl (XS.sipush A10 hx rfl (D d5_17) (XS.icmpNo A10 hx rfl (D d5_20) rfl (Jvm.Free.XT.ii_le_f Pr4) k))))) ?_
  refine Gets.via (fun _ k => (XS.iload A10 hx rfl (D d5_23) rfl k)) ?_
  exact X8.retI hret rfl (by simp) (D d5_25) (by decide) (by decide) (fun vmE CE => ⟨rfl, (((Keep.refl h0 [d]).trans K5 (allS (Or.inl (memI (i := 0) rfl)) all0)).trans K8 (allS (Or.inl (memI (i := 0) rfl)) all0))⟩)
abbrev RrmNbl3 : Room := { frames := 0, cells := 0, slots := 0, locals := 0 }
def QrmNbl3 (Z : State)  (h0 : Heap) (v : Option Value) (vm : Vm) (h : Heap) : Prop := v = some (.int (6 : Int32)) ∧ h = h0
theorem rmNbl3 (hcx : Cx Z a0 zc fm)  (h0 : Heap) (O0 : Old Z Z.heap.size h0)  : Met l Z consts_1 (⟨"java/lang/StringUTF16", "newBytesLength", "(I)I"⟩ : MethodName) jdk_52_method_3_code 1 (some .int) [] RrmNbl3 [] #[(.int (3 : Int32))] h0 (QrmNbl3 Z  h0) := by
  have ⟨hw, hEL, O2, P5, O4, P6, OA, OH, OB⟩ := hcx
  refine Met.start (a0 := a0) (Ls := #[vI (3 : Int32)]) pn42 hEL O0 (fun m => by first | (simp [entryFrame, mkF, argsToLocals, Value.category]; done) | rfl) ?_
  intro p e s m below meth cc T0 vm0 X0 sf0_ hby hml hret hnm
  have hx := X0.hx
  have D : ∀ {n r}, decode B42 n = r → decode cc.code n = r := fun d => hb hby d
  have zz := X0.ge
  have A0 := X0.at
  refine Gets.via (fun _ k => (XS.iloadN A0 hx rfl (D d42_0) rfl (XS.ifYes A0 hx rfl (pc0 := 1) (pc' := 12) rfl (D d42_1) rfl (Jvm.Free.XT.i0_ge_t (by decide)) (by decide) (by decide) k))) ?_
  refine Gets.via (fun _ k => (XS.iloadN A0 hx rfl (D d42_12) rfl k)) ?_
  refine X0.ldcI (w217 hw) rfl (D d42_13) ?_
  refine Gets.via (fun _ k => (XS.icmpYes A0 hx rfl (pc0 := 15) (pc' := 55) rfl (D d42_15) rfl (Jvm.Free.XT.ii_lt_t (by decide)) (by decide) (by decide) k)) ?_
  refine Gets.via (fun _ k => (XS.iloadN A0 hx rfl (D d42_55) rfl (XS.iconst A0 hx rfl (D d42_56) (ishlV A0 hx rfl (D d42_57) rfl (v := (6 : Int32)) (by decide) k)))) ?_
  show Gets p e below _ (T0.setTop (mkF m 58 #[vI (3 : Int32)] [(.int (6 : Int32))]))
  exact X0.retI hret rfl (by simp) (D d42_58) (by decide) (by decide) (fun vmE CE => ⟨rfl, rfl⟩)
abbrev RrmNbf3 : Room := { frames := 1, cells := 1, slots := 6, locals := 12 }
def QrmNbf3 (Z : State)  (h0 : Heap) (v : Option Value) (vm : Vm) (h : Heap) : Prop := ∃ (t : Addr) (kt : ClassId), v = some (.ref t) ∧ Keep h0 h [] ∧ Arv Z h t kt .byte (6 : Int32) [] (.int (0 : Int32)) ∧ Safe Z consts_1 vm h t ∧ h0.size ≤ t
theorem rmNbf3 (hcx : Cx Z a0 zc fm)  (h0 : Heap) (O0 : Old Z Z.heap.size h0)  : Met l Z consts_1 (⟨"java/lang/StringUTF16", "newBytesFor", "(I)[B"⟩ : MethodName) jdk_52_method_2_code 1 (some (.array .byte)) [] RrmNbf3 [] #[(.int (3 : Int32))] h0 (QrmNbf3 Z  h0) := by
  have ⟨hw, hEL, O2, P5, O4, P6, OA, OH, OB⟩ := hcx
  refine Met.start (a0 := a0) (Ls := #[vI (3 : Int32)]) pn41 hEL O0 (fun m => by first | (simp [entryFrame, mkF, argsToLocals, Value.category]; done) | rfl) ?_
  intro p e s m below meth cc T0 vm0 X0 sf0_ hby hml hret hnm
  have hx := X0.hx
  have D : ∀ {n r}, decode B41 n = r → decode cc.code n = r := fun d => hb hby d
  have zz := X0.ge
  have A0 := X0.at
  refine Gets.via (fun _ k => (XS.iloadN A0 hx rfl (D d41_0) rfl k)) ?_
  refine X0.callS (W := 0) (w214 hw) (w215 hw) (w21 hw) (w216 hw) (by decide) (X0.payM (sf := []) (rmNbl3 hcx  h0 X0.old ) sf0 (w216 hw) (w21 hw)) rfl (sz hml rfl) (argsL := [(.int (3 : Int32))]) (rest := []) (lenOf pd8 rfl) rfl rfl (mroom rfl rfl) (D d41_1) (by decide) (by decide) fun T1 h1 vm1 v1 X1 C1 z1 q1 => ?_
  obtain ⟨rfl, K1⟩ := q1
  rw [K1] at X1 C1
  refine X1.newA (aty := .byte) (w23 hw) rfl (D d41_4) rfl (by decide) (cap := 6) (by decide) (by decide) (by decide) (by decide) fun T2 h2 a2 k2 X2 C2 E2 g2 S2 V2 => ?_
  have z2 := E2.1
  have l2 := ltA V2.lt
  exact X2.retA hret rfl rfl rfl (D d41_6) (by decide) (by decide) (fun vmE CE => ⟨a2, k2, rfl, ((Keep.refl h0 []).ext E2), V2, CE.safe (x := a2) (ltA (by omega)) S2, (leA (by omega))⟩)
abbrev RrmTb3 : Room := { frames := 2, cells := 1, slots := 6, locals := 24 }
def QrmTb3 (Z : State) (y : Addr) (ky : ClassId) (c0 : Int32) (c1 : Int32) (c2 : Int32) (h0 : Heap) (v : Option Value) (vm : Vm) (h : Heap) : Prop := ∃ (t : Addr) (kt : ClassId), v = some (.ref t) ∧ Keep h0 h [] ∧ Arv Z h t kt .byte (6 : Int32) (enc16 [c0, c1, c2]) (.int (0 : Int32)) ∧ h0.size ≤ t
theorem rmTb3 (hcx : Cx Z a0 zc fm) (y : Addr) (ky : ClassId) (c0 : Int32) (c1 : Int32) (c2 : Int32) (h0 : Heap) (O0 : Old Z Z.heap.size h0) (Pr0 : Arv Z h0 y ky .char (3 : Int32) [(.int c0), (.int c1), (.int c2)] (.int (0 : Int32))) : Met l Z consts_1 (⟨"java/lang/StringUTF16", "toBytes", "([CII)[B"⟩ : MethodName) jdk_52_method_14_code 5 (some (.array .byte)) [] RrmTb3 [] #[(.ref y), (.int (0 : Int32)), (.int (3 : Int32))] h0 (QrmTb3 Z y ky c0 c1 c2 h0) := by
  have ⟨hw, hEL, O2, P5, O4, P6, OA, OH, OB⟩ := hcx
  refine Met.start (a0 := a0) (Ls := #[vR y, vI (0 : Int32), vI (3 : Int32), .unset, .unset]) pn40 hEL O0 (fun m => by first | (simp [entryFrame, mkF, argsToLocals, Value.category]; done) | rfl) ?_
  intro p e s m below meth cc T0 vm0 X0 sf0_ hby hml hret hnm
  have hx := X0.hx
  have D : ∀ {n r}, decode B40 n = r → decode cc.code n = r := fun d => hb hby d
  have zz := X0.ge
  have A0 := X0.at
  have l1 := ltA Pr0.lt
  refine Gets.via (fun _ k => (XS.iloadN A0 hx rfl (D d40_0) rfl k)) ?_
  refine X0.callS (W := 0) (w211 hw) (w212 hw) (w21 hw) (w213 hw) (by decide) (X0.payM (sf := []) (rmNbf3 hcx  h0 X0.old ) sf0 (w213 hw) (w21 hw)) rfl (sz hml rfl) (argsL := [(.int (3 : Int32))]) (rest := []) (lenOf pd9 rfl) rfl rfl (mroom rfl rfl) (D d40_1) (by decide) (by decide) fun T2 h2 vm2 v2 X2 C2 z2 q2 => ?_
  obtain ⟨t2, kt2, rfl, K2, g2_0, g2_1, g2_2⟩ := q2
  have l3 := ltA g2_0.lt
  have A4 := X2.at
  refine Gets.via (fun _ k => (XS.astoreN A4 hx rfl (D d40_4) rfl rfl (l' := #[vR y, vI (0 : Int32), vI (3 : Int32), vR t2, .unset]) rfl (XS.iconst A4 hx rfl (D d40_5) (XS.istore A4 hx rfl (D d40_6) rfl (l' := #[vR y, vI (0 : Int32), vI (3 : Int32), vR t2, vI (0 : Int32)]) rfl (XS.iload A4 hx rfl (D d40_8) rfl (XS.iloadN A4 hx rfl (D d40_10) rfl (XS.icmpNo A4 hx rfl (D d40_11) rfl (Jvm.Free.XT.ii_ge_f (by decide)) k))))))) ?_
  show Gets p e below _ (T2.setTop (mkF m 14 #[vR y, vI (0 : Int32), vI (3 : Int32), vR t2, vI (0 : Int32)] []))
  refine Gets.via (fun _ k => (XS.aloadN A4 hx rfl (D d40_14) rfl rfl (XS.iload A4 hx rfl (D d40_15) rfl (XS.aloadN A4 hx rfl (D d40_17) rfl rfl (XS.iloadN A4 hx rfl (D d40_18) rfl k))))) ?_
  have f5 := Pr0.keep K2 nin0
  refine X2.ldC f5 (i := 0) (by decide) (by decide) (by decide) rfl rfl rfl (D d40_19) ?_
  refine X2.callS (W := 0) (w218 hw) (w219 hw) (w21 hw) (w220 hw) (by decide) (X2.payM (sf := [t2]) (rmPutC hcx t2 0 c0 kt2 (6 : Int32) 6 [] h2 X2.old g2_0 rfl (by decide) rfl (by decide) (leA (by omega))) (sfS g2_1 sf0) (w220 hw) (w21 hw)) rfl (sz hml rfl) (argsL := [(.ref t2), (.int (0 : Int32)), (.int c0)]) (rest := []) (lenOf pd10 rfl) rfl rfl (mroom rfl rfl) (D d40_20) (by decide) (by decide) fun T6 h6 vm6 v6 X6 C6 z6 q6 => ?_
  obtain ⟨rfl, K6, g6_0⟩ := q6
  have l7 := ltA g6_0.lt
  have A8 := X6.at
  refine Gets.via (fun _ k => (iincV A8 hx rfl (D d40_23) rfl (v := (1 : Int32)) (by decide) (l' := #[vR y, vI (1 : Int32), vI (3 : Int32), vR t2, vI (0 : Int32)]) rfl (iincV A8 hx rfl (D d40_26) rfl (v := (1 : Int32)) (by decide) (l' := #[vR y, vI (1 : Int32), vI (3 : Int32), vR t2, vI (1 : Int32)]) rfl (XS.goto A8 hx rfl (pc0 := 29) (pc' := 8) rfl (D d40_29) (by decide) (by decide) k)))) ?_
  show Gets p e below _ (T6.setTop (mkF m 8 #[vR y, vI (1 : Int32), vI (3 : Int32), vR t2, vI (1 : Int32)] []))
  refine Gets.via (fun _ k => (XS.iload A8 hx rfl (D d40_8) rfl (XS.iloadN A8 hx rfl (D d40_10) rfl (XS.icmpNo A8 hx rfl (D d40_11) rfl (Jvm.Free.XT.ii_ge_f (by decide)) k)))) ?_
  refine Gets.via (fun _ k => (XS.aloadN A8 hx rfl (D d40_14) rfl rfl (XS.iload A8 hx rfl (D d40_15) rfl (XS.aloadN A8 hx rfl (D d40_17) rfl rfl (XS.iloadN A8 hx rfl (D d40_18) rfl k))))) ?_
  have f9 := f5.keep K6 (ninS (neA (by omega)) nin0)
  refine X6.ldC f9 (i := 1) (by decide) (by decide) (by decide) rfl rfl rfl (D d40_19) ?_
  have f10 := C6.safe (x := t2) (ltA (by omega)) g2_1
  refine X6.callS (W := 0) (w218 hw) (w219 hw) (w21 hw) (w220 hw) (by decide) (X6.payM (sf := [t2]) (rmPutC hcx t2 1 c1 kt2 (6 : Int32) 6 (([] ++ [(.int (c0.toInt8.toInt32))]) ++ [(.int ((c0 >>> ((8 : Int32) &&& (31 : Int32))).toInt8.toInt32))]) h6 X6.old g6_0 rfl (by decide) rfl (by decide) (leA (by omega))) (sfS f10 sf0) (w220 hw) (w21 hw)) rfl (sz hml rfl) (argsL := [(.ref t2), (.int (1 : Int32)), (.int c1)]) (rest := []) (lenOf pd10 rfl) rfl rfl (mroom rfl rfl) (D d40_20) (by decide) (by decide) fun T11 h11 vm11 v11 X11 C11 z11 q11 => ?_
  obtain ⟨rfl, K11, g11_0⟩ := q11
  have l12 := ltA g11_0.lt
  show Gets p e below _ (T11.setTop (mkF m 23 #[vR y, vI (1 : Int32), vI (3 : Int32), vR t2, vI (1 : Int32)] []))
  have A13 := X11.at
  refine Gets.via (fun _ k => (iincV A13 hx rfl (D d40_23) rfl (v := (2 : Int32)) (by decide) (l' := #[vR y, vI (2 : Int32), vI (3 : Int32), vR t2, vI (1 : Int32)]) rfl (iincV A13 hx rfl (D d40_26) rfl (v := (2 : Int32)) (by decide) (l' := #[vR y, vI (2 : Int32), vI (3 : Int32), vR t2, vI (2 : Int32)]) rfl (XS.goto A13 hx rfl (pc0 := 29) (pc' := 8) rfl (D d40_29) (by decide) (by decide) k)))) ?_
  refine Gets.via (fun _ k => (XS.iload A13 hx rfl (D d40_8) rfl (XS.iloadN A13 hx rfl (D d40_10) rfl (XS.icmpNo A13 hx rfl (D d40_11) rfl (Jvm.Free.XT.ii_ge_f (by decide)) k)))) ?_
  refine Gets.via (fun _ k => (XS.aloadN A13 hx rfl (D d40_14) rfl rfl (XS.iload A13 hx rfl (D d40_15) rfl (XS.aloadN A13 hx rfl (D d40_17) rfl rfl (XS.iloadN A13 hx rfl (D d40_18) rfl k))))) ?_
  have f14 := f9.keep K11 (ninS (neA (by omega)) nin0)
  refine X11.ldC f14 (i := 2) (by decide) (by decide) (by decide) rfl rfl rfl (D d40_19) ?_
  show Gets p e below _ (T11.setTop (mkF m 20 #[vR y, vI (2 : Int32), vI (3 : Int32), vR t2, vI (2 : Int32)] [(.int c2), (.int (2 : Int32)), (.ref t2)]))
  have f15 := C11.safe (x := t2) (ltA (by omega)) f10
  refine X11.callS (W := 0) (w218 hw) (w219 hw) (w21 hw) (w220 hw) (by decide) (X11.payM (sf := [t2]) (rmPutC hcx t2 2 c2 kt2 (6 : Int32) 6 (((([] ++ [(.int (c0.toInt8.toInt32))]) ++ [(.int ((c0 >>> ((8 : Int32) &&& (31 : Int32))).toInt8.toInt32))]) ++ [(.int (c1.toInt8.toInt32))]) ++ [(.int ((c1 >>> ((8 : Int32) &&& (31 : Int32))).toInt8.toInt32))]) h11 X11.old g11_0 rfl (by decide) rfl (by decide) (leA (by omega))) (sfS f15 sf0) (w220 hw) (w21 hw)) rfl (sz hml rfl) (argsL := [(.ref t2), (.int (2 : Int32)), (.int c2)]) (rest := []) (lenOf pd10 rfl) rfl rfl (mroom rfl rfl) (D d40_20) (by decide) (by decide) fun T16 h16 vm16 v16 X16 C16 z16 q16 => ?_
  obtain ⟨rfl, K16, g16_0⟩ := q16
  have l17 := ltA g16_0.lt
  have A18 := X16.at
  refine Gets.via (fun _ k => (iincV A18 hx rfl (D d40_23) rfl (v := (3 : Int32)) (by decide) (l' := #[vR y, vI (3 : Int32), vI (3 : Int32), vR t2, vI (2 : Int32)]) rfl (iincV A18 hx rfl (D d40_26) rfl (v := (3 : Int32)) (by decide) (l' := #[vR y, vI (3 : Int32), vI (3 : Int32), vR t2, vI (3 : Int32)]) rfl (XS.goto A18 hx rfl (pc0 := 29) (pc' := 8) rfl (D d40_29) (by decide) (by decide) k)))) ?_
  refine Gets.via (fun _ k => (XS.iload A18 hx rfl (D d40_8) rfl (XS.iloadN A18 hx rfl (D d40_10) rfl (XS.icmpYes A18 hx rfl (pc0 := 11) (pc' := 32) rfl (D d40_11) rfl (Jvm.Free.XT.ii_ge_t (by decide)) (by decide) (by decide) k)))) ?_
  have f19 : Arv Z h16 t2 kt2 .byte (6 : Int32) (enc16 [c0, c1, c2]) (.int (0 : Int32)) := encL3 c0 c1 c2 ▸ g16_0
  refine Gets.via (fun _ k => (XS.aloadN A18 hx rfl (D d40_32) rfl rfl k)) ?_
  exact X16.retA hret rfl rfl rfl (D d40_33) (by decide) (by decide) (fun vmE CE => ⟨t2, kt2, rfl, (((((Keep.refl h0 []).trans K2 all0).trans K6 (allS (Or.inr (leA (by omega))) all0)).trans K11 (allS (Or.inr (leA (by omega))) all0)).trans K16 (allS (Or.inr (leA (by omega))) all0)), f19, g2_2⟩)
abbrev RrmCps3 : Room := { frames := 3, cells := 2, slots := 9, locals := 40 }
def QrmCps3 (Z : State) (y : Addr) (ky : ClassId) (c0 : Int32) (c1 : Int32) (c2 : Int32) (h0 : Heap) (v : Option Value) (vm : Vm) (h : Heap) : Prop := ∃ (t : Addr) (kt : ClassId), v = some (.ref t) ∧ Keep h0 h [] ∧ Arv Z h t kt .byte (6 : Int32) (enc16 [c0, c1, c2]) (.int (0 : Int32)) ∧ h0.size ≤ t
theorem rmCps3 (hcx : Cx Z a0 zc fm) (y : Addr) (ky : ClassId) (c0 : Int32) (c1 : Int32) (c2 : Int32) (h0 : Heap) (O0 : Old Z Z.heap.size h0) (Pr0 : Arv Z h0 y ky .char (3 : Int32) [(.int c0), (.int c1), (.int c2)] (.int (0 : Int32))) (Pr1 : (255 : Int32) < c0 ∨ (255 : Int32) < c1 ∨ (255 : Int32) < c2) (Pr2 : ¬ c0 < 0 ∧ ¬ (65535 : Int32) < c0) (Pr3 : ¬ c1 < 0 ∧ ¬ (65535 : Int32) < c1) (Pr4 : ¬ c2 < 0 ∧ ¬ (65535 : Int32) < c2) : Met l Z consts_1 (⟨"java/lang/StringUTF16", "compress", "([CII)[B"⟩ : MethodName) jdk_52_method_16_code 6 (some (.array .byte)) [] RrmCps3 [] #[(.ref y), (.int (0 : Int32)), (.int (3 : Int32))] h0 (QrmCps3 Z y ky c0 c1 c2 h0) := by
  have ⟨hw, hEL, O2, P5, O4, P6, OA, OH, OB⟩ := hcx
  refine Met.start (a0 := a0) (Ls := #[vR y, vI (0 : Int32), vI (3 : Int32), .unset, .unset, .unset]) pn4 hEL O0 (fun m => by first | (simp [entryFrame, mkF, argsToLocals, Value.category]; done) | rfl) ?_
  intro p e s m below meth cc T0 vm0 X0 sf0_ hby hml hret hnm
  have hx := X0.hx
  have D : ∀ {n r}, decode B4 n = r → decode cc.code n = r := fun d => hb hby d
  have zz := X0.ge
  have A0 := X0.at
  have l1 := ltA Pr0.lt
  have hR : ∀ z_ ∈ [c0, c1, c2], ¬ z_ < 0 ∧ ¬ (65535 : Int32) < z_ := allI Pr2 (allI Pr3 (allI Pr4 (allN)))
  rcases fst3 Pr1 with w0 | ⟨n0, w1⟩ | ⟨n0, n1, w2⟩
  · skip
    refine Gets.via (fun _ k => (XS.iloadN A0 hx rfl (D d4_0) rfl k)) ?_
    refine X0.newA (aty := .byte) (w23 hw) rfl (D d4_1) rfl (by decide) (cap := 3) (by decide) (by decide) (by decide) (by decide) fun T2 h2 a2 k2 X2 C2 E2 g2 S2 V2 => ?_
    have z2 := E2.1
    have l2 := ltA V2.lt
    have V2_ : Arv Z h2 a2 k2 .byte (3 : Int32) [(.int (0 : Int32)), (.int (0 : Int32)), (.int (0 : Int32))] (.int (0 : Int32)) := padN V2 3
    have A3 := X2.at
    refine Gets.via (fun _ k => (XS.astoreN A3 hx rfl (D d4_3) rfl rfl (l' := #[vR y, vI (0 : Int32), vI (3 : Int32), vR a2, .unset, .unset]) rfl (XS.aloadN A3 hx rfl (D d4_4) rfl rfl (XS.iloadN A3 hx rfl (D d4_5) rfl (XS.aloadN A3 hx rfl (D d4_6) rfl rfl (XS.iconst A3 hx rfl (D d4_7) (XS.iloadN A3 hx rfl (D d4_8) rfl k))))))) ?_
    show Gets p e below _ (T2.setTop (mkF m 9 #[vR y, vI (0 : Int32), vI (3 : Int32), vR a2, .unset, .unset] [(.int (3 : Int32)), (.int (0 : Int32)), (.ref a2), (.int (0 : Int32)), (.ref y)]))
    have f4 := Pr0.ext E2
    refine X2.callS (W := 0) (w24 hw) (w25 hw) (w21 hw) (w26 hw) (by decide) (X2.payM (sf := [a2]) (rmCmp3_0 hcx y a2 ky k2 c0 c1 c2 h2 X2.old f4 V2_ (leA (by omega)) (neA (by omega)) w0) (sfS S2 sf0) (w26 hw) (w21 hw)) rfl (sz hml rfl) (argsL := [(.ref y), (.int (0 : Int32)), (.ref a2), (.int (0 : Int32)), (.int (3 : Int32))]) (rest := []) (lenOf pd7 rfl) rfl rfl (mroom rfl rfl) (D d4_9) (by decide) (by decide) fun T5 h5 vm5 v5 X5 C5 z5 q5 => ?_
    obtain ⟨rfl, K5⟩ := q5
    have A6 := X5.at
    refine Gets.via (fun _ k => (XS.istore A6 hx rfl (D d4_12) rfl (l' := #[vR y, vI (0 : Int32), vI (3 : Int32), vR a2, vI (0 : Int32), .unset]) rfl (XS.iload A6 hx rfl (D d4_14) rfl (XS.iloadN A6 hx rfl (D d4_16) rfl (XS.icmpNo A6 hx rfl (D d4_17) rfl (Jvm.Free.XT.ii_eq_f (by decide)) k))))) ?_
    refine Gets.via (fun _ k => (XS.aloadN A6 hx rfl (D d4_20) rfl rfl (XS.iloadN A6 hx rfl (D d4_21) rfl (XS.iloadN A6 hx rfl (D d4_22) rfl k)))) ?_
    have f7 := f4.keep K5 (ninS (neA (by omega)) nin0)
    refine X5.callS (W := 0) (w208 hw) (w209 hw) (w21 hw) (w210 hw) (by decide) (X5.payM (sf := []) (rmTb3 hcx y ky c0 c1 c2 h5 X5.old f7) sf0 (w210 hw) (w21 hw)) rfl (sz hml rfl) (argsL := [(.ref y), (.int (0 : Int32)), (.int (3 : Int32))]) (rest := []) (lenOf pd11 rfl) rfl rfl (mroom rfl rfl) (D d4_23) (by decide) (by decide) fun T8 h8 vm8 v8 X8 C8 z8 q8 => ?_
    obtain ⟨t8, kt8, rfl, K8, g8_0, g8_1⟩ := q8
    have l9 := ltA g8_0.lt
    show Gets p e below _ (T8.setTop (mkF m 26 #[vR y, vI (0 : Int32), vI (3 : Int32), vR a2, vI (0 : Int32), .unset] [(.ref t8)]))
    have A10 := X8.at
    refine Gets.via (fun _ k => (XS.astore A10 hx rfl (D d4_26) rfl rfl (l' := #[vR y, vI (0 : Int32), vI (3 : Int32), vR a2, vI (0 : Int32), vR t8]) rfl (XS.aload A10 hx rfl (D d4_28) rfl rfl (XS.iload A10 hx rfl (D d4_30) rfl k)))) ?_
    refine X8.callS (W := 0) (w224 hw) (w225 hw) (w21 hw) (w226 hw) (by decide) (X8.payM (sf := []) (rmGetC hcx t8 0 kt8 (6 : Int32) 6 [c0, c1, c2] h8 X8.old g8_0 rfl (by decide) (by first | exact Nat.le_of_ble_eq_true rfl | omega) (by first | exact Nat.le_of_ble_eq_true rfl | omega) hR) sf0 (w226 hw) (w21 hw)) rfl (sz hml rfl) (argsL := [(.ref t8), (.int (0 : Int32))]) (rest := []) (lenOf pd12 rfl) rfl rfl (mroom rfl rfl) (D d4_32) (by decide) (by decide) fun T11 h11 vm11 v11 X11 C11 z11 q11 => ?_
    obtain ⟨rfl, K11⟩ := q11
    rw [K11] at X11 C11
    have A12 := X11.at
    refine Gets.via (fun _ k => (XS.sipush A12 hx rfl (D d4_35) (XS.icmpYes A12 hx rfl (pc0 := 38) (pc' := 54) rfl (D d4_38) rfl (Jvm.Free.XT.ii_gt_t w0) (by decide) (by decide) k))) ?_
    refine Gets.via (fun _ k => (XS.aload A12 hx rfl (D d4_54) rfl rfl k)) ?_
    exact X11.retA hret rfl rfl rfl (D d4_56) (by decide) (by decide) (fun vmE CE => ⟨t8, kt8, rfl, ((((Keep.refl h0 []).ext E2).trans K5 (allS (Or.inr (leA (by omega))) all0)).trans K8 all0), g8_0, (leA (by omega))⟩)
  · skip
    refine Gets.via (fun _ k => (XS.iloadN A0 hx rfl (D d4_0) rfl k)) ?_
    refine X0.newA (aty := .byte) (w23 hw) rfl (D d4_1) rfl (by decide) (cap := 3) (by decide) (by decide) (by decide) (by decide) fun T13 h13 a13 k13 X13 C13 E13 g13 S13 V13 => ?_
    have z13 := E13.1
    have l13 := ltA V13.lt
    have V13_ : Arv Z h13 a13 k13 .byte (3 : Int32) [(.int (0 : Int32)), (.int (0 : Int32)), (.int (0 : Int32))] (.int (0 : Int32)) := padN V13 3
    show Gets p e below _ (T13.setTop (mkF m 3 #[vR y, vI (0 : Int32), vI (3 : Int32), .unset, .unset, .unset] [(.ref a13)]))
    have A14 := X13.at
    refine Gets.via (fun _ k => (XS.astoreN A14 hx rfl (D d4_3) rfl rfl (l' := #[vR y, vI (0 : Int32), vI (3 : Int32), vR a13, .unset, .unset]) rfl (XS.aloadN A14 hx rfl (D d4_4) rfl rfl (XS.iloadN A14 hx rfl (D d4_5) rfl (XS.aloadN A14 hx rfl (D d4_6) rfl rfl (XS.iconst A14 hx rfl (D d4_7) (XS.iloadN A14 hx rfl (D d4_8) rfl k))))))) ?_
    have f15 := Pr0.ext E13
    refine X13.callS (W := 0) (w24 hw) (w25 hw) (w21 hw) (w26 hw) (by decide) (X13.payM (sf := [a13]) (rmCmp3_1 hcx y a13 ky k13 c0 c1 c2 h13 X13.old f15 V13_ (leA (by omega)) (neA (by omega)) w1 n0) (sfS S13 sf0) (w26 hw) (w21 hw)) rfl (sz hml rfl) (argsL := [(.ref y), (.int (0 : Int32)), (.ref a13), (.int (0 : Int32)), (.int (3 : Int32))]) (rest := []) (lenOf pd7 rfl) rfl rfl (mroom rfl rfl) (D d4_9) (by decide) (by decide) fun T16 h16 vm16 v16 X16 C16 z16 q16 => ?_
    obtain ⟨rfl, K16⟩ := q16
    have A17 := X16.at
    refine Gets.via (fun _ k => (XS.istore A17 hx rfl (D d4_12) rfl (l' := #[vR y, vI (0 : Int32), vI (3 : Int32), vR a13, vI (1 : Int32), .unset]) rfl (XS.iload A17 hx rfl (D d4_14) rfl (XS.iloadN A17 hx rfl (D d4_16) rfl (XS.icmpNo A17 hx rfl (D d4_17) rfl (Jvm.Free.XT.ii_eq_f (by decide)) k))))) ?_
    show Gets p e below _ (T16.setTop (mkF m 20 #[vR y, vI (0 : Int32), vI (3 : Int32), vR a13, vI (1 : Int32), .unset] []))
    refine Gets.via (fun _ k => (XS.aloadN A17 hx rfl (D d4_20) rfl rfl (XS.iloadN A17 hx rfl (D d4_21) rfl (XS.iloadN A17 hx rfl (D d4_22) rfl k)))) ?_
    have f18 := f15.keep K16 (ninS (neA (by omega)) nin0)
    refine X16.callS (W := 0) (w208 hw) (w209 hw) (w21 hw) (w210 hw) (by decide) (X16.payM (sf := []) (rmTb3 hcx y ky c0 c1 c2 h16 X16.old f18) sf0 (w210 hw) (w21 hw)) rfl (sz hml rfl) (argsL := [(.ref y), (.int (0 : Int32)), (.int (3 : Int32))]) (rest := []) (lenOf pd11 rfl) rfl rfl (mroom rfl rfl) (D d4_23) (by decide) (by decide) fun T19 h19 vm19 v19 X19 C19 z19 q19 => ?_
    obtain ⟨t19, kt19, rfl, K19, g19_0, g19_1⟩ := q19
    have l20 := ltA g19_0.lt
    have A21 := X19.at
    refine Gets.via (fun _ k => (XS.astore A21 hx rfl (D d4_26) rfl rfl (l' := #[vR y, vI (0 : Int32), vI (3 : Int32), vR a13, vI (1 : Int32), vR t19]) rfl (XS.aload A21 hx rfl (D d4_28) rfl rfl (XS.iload A21 hx rfl (D d4_30) rfl k)))) ?_
    refine X19.callS (W := 0) (w224 hw) (w225 hw) (w21 hw) (w226 hw) (by decide) (X19.payM (sf := []) (rmGetC hcx t19 1 kt19 (6 : Int32) 6 [c0, c1, c2] h19 X19.old g19_0 rfl (by decide) (by first | exact Nat.le_of_ble_eq_true rfl | omega) (by first | exact Nat.le_of_ble_eq_true rfl | omega) hR) sf0 (w226 hw) (w21 hw)) rfl (sz hml rfl) (argsL := [(.ref t19), (.int (1 : Int32))]) (rest := []) (lenOf pd12 rfl) rfl rfl (mroom rfl rfl) (D d4_32) (by decide) (by decide) fun T22 h22 vm22 v22 X22 C22 z22 q22 => ?_
    obtain ⟨rfl, K22⟩ := q22
    rw [K22] at X22 C22
    show Gets p e below _ (T22.setTop (mkF m 35 #[vR y, vI (0 : Int32), vI (3 : Int32), vR a13, vI (1 : Int32), vR t19] [(.int ([c0, c1, c2].getD 1 0))]))
    have A23 := X22.at
    refine Gets.via (fun _ k => (XS.sipush A23 hx rfl (D d4_35) (XS.icmpYes A23 hx rfl (pc0 := 38) (pc' := 54) rfl (D d4_38) rfl (Jvm.Free.XT.ii_gt_t w1) (by decide) (by decide) k))) ?_
    refine Gets.via (fun _ k => (XS.aload A23 hx rfl (D d4_54) rfl rfl k)) ?_
    exact X22.retA hret rfl rfl rfl (D d4_56) (by decide) (by decide) (fun vmE CE => ⟨t19, kt19, rfl, ((((Keep.refl h0 []).ext E13).trans K16 (allS (Or.inr (leA (by omega))) all0)).trans K19 all0), g19_0, (leA (by omega))⟩)
  · skip
    refine Gets.via (fun _ k => (XS.iloadN A0 hx rfl (D d4_0) rfl k)) ?_
    refine X0.newA (aty := .byte) (w23 hw) rfl (D d4_1) rfl (by decide) (cap := 3) (by decide) (by decide) (by decide) (by decide) fun T24 h24 a24 k24 X24 C24 E24 g24 S24 V24 => ?_
    have z24 := E24.1
    have l24 := ltA V24.lt
    have V24_ : Arv Z h24 a24 k24 .byte (3 : Int32) [(.int (0 : Int32)), (.int (0 : Int32)), (.int (0 : Int32))] (.int (0 : Int32)) := padN V24 3
    have A25 := X24.at
    refine Gets.via (fun _ k => (XS.astoreN A25 hx rfl (D d4_3) rfl rfl (l' := #[vR y, vI (0 : Int32), vI (3 : Int32), vR a24, .unset, .unset]) rfl (XS.aloadN A25 hx rfl (D d4_4) rfl rfl (XS.iloadN A25 hx rfl (D d4_5) rfl (XS.aloadN A25 hx rfl (D d4_6) rfl rfl (XS.iconst A25 hx rfl (D d4_7) (XS.iloadN A25 hx rfl (D d4_8) rfl k))))))) ?_
    show Gets p e below _ (T24.setTop (mkF m 9 #[vR y, vI (0 : Int32), vI (3 : Int32), vR a24, .unset, .unset] [(.int (3 : Int32)), (.int (0 : Int32)), (.ref a24), (.int (0 : Int32)), (.ref y)]))
    have f26 := Pr0.ext E24
    refine X24.callS (W := 0) (w24 hw) (w25 hw) (w21 hw) (w26 hw) (by decide) (X24.payM (sf := [a24]) (rmCmp3_2 hcx y a24 ky k24 c0 c1 c2 h24 X24.old f26 V24_ (leA (by omega)) (neA (by omega)) w2 n0 n1) (sfS S24 sf0) (w26 hw) (w21 hw)) rfl (sz hml rfl) (argsL := [(.ref y), (.int (0 : Int32)), (.ref a24), (.int (0 : Int32)), (.int (3 : Int32))]) (rest := []) (lenOf pd7 rfl) rfl rfl (mroom rfl rfl) (D d4_9) (by decide) (by decide) fun T27 h27 vm27 v27 X27 C27 z27 q27 => ?_
    obtain ⟨rfl, K27⟩ := q27
    have A28 := X27.at
    refine Gets.via (fun _ k => (XS.istore A28 hx rfl (D d4_12) rfl (l' := #[vR y, vI (0 : Int32), vI (3 : Int32), vR a24, vI (2 : Int32), .unset]) rfl (XS.iload A28 hx rfl (D d4_14) rfl (XS.iloadN A28 hx rfl (D d4_16) rfl (XS.icmpNo A28 hx rfl (D d4_17) rfl (Jvm.Free.XT.ii_eq_f (by decide)) k))))) ?_
    refine Gets.via (fun _ k => (XS.aloadN A28 hx rfl (D d4_20) rfl rfl (XS.iloadN A28 hx rfl (D d4_21) rfl (XS.iloadN A28 hx rfl (D d4_22) rfl k)))) ?_
    have f29 := f26.keep K27 (ninS (neA (by omega)) nin0)
    refine X27.callS (W := 0) (w208 hw) (w209 hw) (w21 hw) (w210 hw) (by decide) (X27.payM (sf := []) (rmTb3 hcx y ky c0 c1 c2 h27 X27.old f29) sf0 (w210 hw) (w21 hw)) rfl (sz hml rfl) (argsL := [(.ref y), (.int (0 : Int32)), (.int (3 : Int32))]) (rest := []) (lenOf pd11 rfl) rfl rfl (mroom rfl rfl) (D d4_23) (by decide) (by decide) fun T30 h30 vm30 v30 X30 C30 z30 q30 => ?_
    obtain ⟨t30, kt30, rfl, K30, g30_0, g30_1⟩ := q30
    have l31 := ltA g30_0.lt
    show Gets p e below _ (T30.setTop (mkF m 26 #[vR y, vI (0 : Int32), vI (3 : Int32), vR a24, vI (2 : Int32), .unset] [(.ref t30)]))
    have A32 := X30.at
    refine Gets.via (fun _ k => (XS.astore A32 hx rfl (D d4_26) rfl rfl (l' := #[vR y, vI (0 : Int32), vI (3 : Int32), vR a24, vI (2 : Int32), vR t30]) rfl (XS.aload A32 hx rfl (D d4_28) rfl rfl (XS.iload A32 hx rfl (D d4_30) rfl k)))) ?_
    refine X30.callS (W := 0) (w224 hw) (w225 hw) (w21 hw) (w226 hw) (by decide) (X30.payM (sf := []) (rmGetC hcx t30 2 kt30 (6 : Int32) 6 [c0, c1, c2] h30 X30.old g30_0 rfl (by decide) (by first | exact Nat.le_of_ble_eq_true rfl | omega) (by first | exact Nat.le_of_ble_eq_true rfl | omega) hR) sf0 (w226 hw) (w21 hw)) rfl (sz hml rfl) (argsL := [(.ref t30), (.int (2 : Int32))]) (rest := []) (lenOf pd12 rfl) rfl rfl (mroom rfl rfl) (D d4_32) (by decide) (by decide) fun T33 h33 vm33 v33 X33 C33 z33 q33 => ?_
    obtain ⟨rfl, K33⟩ := q33
    rw [K33] at X33 C33
    have A34 := X33.at
    refine Gets.via (fun _ k => (XS.sipush A34 hx rfl (D d4_35) (XS.icmpYes A34 hx rfl (pc0 := 38) (pc' := 54) rfl (D d4_38) rfl (Jvm.Free.XT.ii_gt_t w2) (by decide) (by decide) k))) ?_
    refine Gets.via (fun _ k => (XS.aload A34 hx rfl (D d4_54) rfl rfl k)) ?_
    exact X33.retA hret rfl rfl rfl (D d4_56) (by decide) (by decide) (fun vmE CE => ⟨t30, kt30, rfl, ((((Keep.refl h0 []).ext E24).trans K27 (allS (Or.inr (leA (by omega))) all0)).trans K30 all0), g30_0, (leA (by omega))⟩)
abbrev RrmCfl3 : Room := { frames := 0, cells := 0, slots := 0, locals := 0 }
def QrmCfl3 (Z : State) (t : Addr) (kt : ClassId) (vs : List Value) (h0 : Heap) (v : Option Value) (vm : Vm) (h : Heap) : Prop := v = some (.int (1 : Int32)) ∧ h = h0
theorem rmCfl3 (hcx : Cx Z a0 zc fm) (t : Addr) (kt : ClassId) (vs : List Value) (h0 : Heap) (O0 : Old Z Z.heap.size h0) (Pr0 : Arv Z h0 t kt .byte (6 : Int32) vs (.int (0 : Int32))) : Met l Z consts_1 (⟨"java/lang/StringUTF16", "coderFromArrayLen", "([BI)B"⟩ : MethodName) jdk_52_method_15_code 2 (some .byte) [] RrmCfl3 [] #[(.ref t), (.int (3 : Int32))] h0 (QrmCfl3 Z t kt vs h0) := by
  have ⟨hw, hEL, O2, P5, O4, P6, OA, OH, OB⟩ := hcx
  refine Met.start (a0 := a0) (Ls := #[vR t, vI (3 : Int32)]) pn6 hEL O0 (fun m => by first | (simp [entryFrame, mkF, argsToLocals, Value.category]; done) | rfl) ?_
  intro p e s m below meth cc T0 vm0 X0 sf0_ hby hml hret hnm
  have hx := X0.hx
  have D : ∀ {n r}, decode B6 n = r → decode cc.code n = r := fun d => hb hby d
  have zz := X0.ge
  have A0 := X0.at
  have l1 := ltA Pr0.lt
  refine Gets.via (fun _ k => (XS.iloadN A0 hx rfl (D d6_0) rfl (XS.aloadN A0 hx rfl (D d6_1) rfl rfl k))) ?_
  refine X0.alen Pr0 rfl rfl (D d6_2) ?_
  refine Gets.via (fun _ k => (isubV A0 hx rfl (D d6_3) rfl (v := (-3 : Int32)) (by decide) (XS.bipush A0 hx rfl (D d6_4) (iushrV A0 hx rfl (D d6_6) rfl (v := (1 : Int32)) (by decide) (i2bV A0 hx rfl (D d6_7) rfl (v := (1 : Int32)) (by decide) k))))) ?_
  show Gets p e below _ (T0.setTop (mkF m 8 #[vR t, vI (3 : Int32)] [(.int (1 : Int32))]))
  exact X0.retI hret (by decide) (by simp) (D d6_8) (by decide) (by decide) (fun vmE CE => ⟨rfl, rfl⟩)
abbrev RrmU4_3 : Room := { frames := 4, cells := 2, slots := 9, locals := 57 }
def QrmU4_3 (Z : State) (x : Addr) (y : Addr) (ky : ClassId) (c0 : Int32) (c1 : Int32) (c2 : Int32) (h0 : Heap) (v : Option Value) (vm : Vm) (h : Heap) : Prop := ∃ (t : Addr) (kt : ClassId), v = none ∧ Keep h0 h [x] ∧ StrU Z h x t kt [c0, c1, c2]
theorem rmU4_3 (hcx : Cx Z a0 zc fm) (x : Addr) (y : Addr) (ky : ClassId) (c0 : Int32) (c1 : Int32) (c2 : Int32) (h0 : Heap) (O0 : Old Z Z.heap.size h0) (Pr0 : Exa Z h0 x "java/lang/String") (Pr1 : Fld Z h0 x "java/lang/String" "coder" "B" (.int (0 : Int32))) (Pr2 : Fld Z h0 x "java/lang/String" "value" "[B" .null) (Pr3 : Z.heap.size ≤ x) (Pr4 : Arv Z h0 y ky .char (3 : Int32) [(.int c0), (.int c1), (.int c2)] (.int (0 : Int32))) (Pr5 : (255 : Int32) < c0 ∨ (255 : Int32) < c1 ∨ (255 : Int32) < c2) (Pr6 : ¬ c0 < 0 ∧ ¬ (65535 : Int32) < c0) (Pr7 : ¬ c1 < 0 ∧ ¬ (65535 : Int32) < c1) (Pr8 : ¬ c2 < 0 ∧ ¬ (65535 : Int32) < c2) : Met l Z consts_1 (⟨"java/lang/String", "<init>", "([CIILjava/lang/Void;)V"⟩ : MethodName) jdk_42_method_149_code 6 (none) [] RrmU4_3 [x] #[(.ref x), (.ref y), (.int (0 : Int32)), (.int (3 : Int32)), .null] h0 (QrmU4_3 Z x y ky c0 c1 c2 h0) := by
  have ⟨hw, hEL, O2, P5, O4, P6, OA, OH, OB⟩ := hcx
  refine Met.start (a0 := a0) (Ls := #[vR x, vR y, vI (0 : Int32), vI (3 : Int32), .val .null, .unset]) pn2 hEL O0 (fun m => by first | (simp [entryFrame, mkF, argsToLocals, Value.category]; done) | rfl) ?_
  intro p e s m below meth cc T0 vm0 X0 sf0_ hby hml hret hnm
  have hx := X0.hx
  have D : ∀ {n r}, decode B2 n = r → decode cc.code n = r := fun d => hb hby d
  have zz := X0.ge
  have A0 := X0.at
  have l1 := ltA Pr0.lt
  have l2 := ltA Pr4.lt
  have s3 := sf0_ x (memI (i := 0) rfl)
  refine Gets.via (fun _ k => (XS.aloadN A0 hx rfl (D d2_0) rfl rfl k)) ?_
  refine X0.objInit (w15 hw) (w16 hw) (w17 hw) rfl (sz hml rfl) rfl (D d2_1) (by decide) (W := 0) (mroom rfl rfl) (by decide) fun T4 X4 => ?_
  have A5 := X4.at
  refine Gets.via (fun _ k => (XS.iloadN A5 hx rfl (D d2_4) rfl (XS.ifYes A5 hx rfl (pc0 := 5) (pc' := 27) rfl (D d2_5) rfl (Jvm.Free.XT.i0_ne_t (by decide)) (by decide) (by decide) k))) ?_
  refine X4.getS (host := "") (Or.inl (w18 hw)) Via.refl (X4.sta O2) rfl (D d2_27) fun T6 X6 => ?_
  show Gets p e below _ (T6.setTop (mkF m 30 #[vR x, vR y, vI (0 : Int32), vI (3 : Int32), .val .null, .unset] [(.int zc)]))
  have A7 := X6.at
  refine Gets.via (fun _ k => (XS.ifNo A7 hx rfl (D d2_30) rfl (Jvm.Free.XT.i0_eq_f P5) k)) ?_
  refine Gets.via (fun _ k => (XS.aloadN A7 hx rfl (D d2_33) rfl rfl (XS.iloadN A7 hx rfl (D d2_34) rfl (XS.iloadN A7 hx rfl (D d2_35) rfl k)))) ?_
  refine X6.callS (W := 0) (w19 hw) (w20 hw) (w21 hw) (w22 hw) (by decide) (X6.payM (sf := []) (rmCps3 hcx y ky c0 c1 c2 h0 X6.old Pr4 Pr5 Pr6 Pr7 Pr8) sf0 (w22 hw) (w21 hw)) rfl (sz hml rfl) (argsL := [(.ref y), (.int (0 : Int32)), (.int (3 : Int32))]) (rest := []) (lenOf pd11 rfl) rfl rfl (mroom rfl rfl) (D d2_36) (by decide) (by decide) fun T8 h8 vm8 v8 X8 C8 z8 q8 => ?_
  obtain ⟨t8, kt8, rfl, K8, g8_0, g8_1⟩ := q8
  have l9 := ltA g8_0.lt
  have A10 := X8.at
  refine Gets.via (fun _ k => (XS.astore A10 hx rfl (D d2_39) rfl rfl (l' := #[vR x, vR y, vI (0 : Int32), vI (3 : Int32), .val .null, vR t8]) rfl (XS.aloadN A10 hx rfl (D d2_41) rfl rfl (XS.aload A10 hx rfl (D d2_42) rfl rfl (XS.iloadN A10 hx rfl (D d2_44) rfl k))))) ?_
  refine X8.callS (W := 1) (w27 hw) (w28 hw) (w21 hw) (w29 hw) (by decide) (X8.payM (sf := []) (rmCfl3 hcx t8 kt8 (enc16 [c0, c1, c2]) h8 X8.old g8_0) sf0 (w29 hw) (w21 hw)) rfl (sz hml rfl) (argsL := [(.ref t8), (.int (3 : Int32))]) (rest := [(.ref x)]) (lenOf pd13 rfl) rfl rfl (mroom rfl rfl) (D d2_45) (by decide) (by decide) fun T11 h11 vm11 v11 X11 C11 z11 q11 => ?_
  obtain ⟨rfl, K11⟩ := q11
  rw [K11] at X11 C11
  show Gets p e below _ (T11.setTop (mkF m 48 #[vR x, vR y, vI (0 : Int32), vI (3 : Int32), .val .null, vR t8] [(.int (1 : Int32)), (.ref x)]))
  have f13 := Pr1.keep K8 nin0
  have f14 := Pr0.keep K8
  have f15 := C8.safe (x := x) (ltA (by omega)) s3
  have f16 := C11.safe (x := x) (ltA (by omega)) f15
  refine X11.putF (host := "") (Or.inl (w30 hw)) Via.refl f13 f14 (Or.inr ⟨(w31 hw), rfl, hnm⟩) (w5 hw) (ty := .byte) (by decide) (by decide) (by decide) (leA (by omega)) f16 rfl rfl (D d2_48) fun T12 h12 X12 C12 W12 F12 Z12 => ?_
  have z12 := W12.size
  have A17 := X12.at
  refine Gets.via (fun _ k => (XS.aloadN A17 hx rfl (D d2_51) rfl rfl (XS.aload A17 hx rfl (D d2_52) rfl rfl k))) ?_
  have f19 := Pr2.keep K8 nin0
  have f20 := f19.other W12 (Or.inr (slot_ne (t := (.array .byte)) (t' := .byte) (Or.inr (w33 hw)) (Or.inr (w31 hw)) (by decide) (by decide) (by decide)))
  have f21 := C12.safe (x := x) (ltA (by omega)) f16
  refine X12.putF (host := "") (Or.inl (w32 hw)) Via.refl f20 Z12 (Or.inr ⟨(w33 hw), rfl, hnm⟩) (w5 hw) (ty := (.array .byte)) (by decide) rfl rfl (leA (by omega)) f21 rfl rfl (D d2_54) fun T18 h18 X18 C18 W18 F18 Z18 => ?_
  have z18 := W18.size
  have f22 := F12.other W18 (Or.inr (slot_ne (t := .byte) (t' := (.array .byte)) (Or.inr (w31 hw)) (Or.inr (w33 hw)) (by decide) (by decide) (by decide)))
  have f23 := g8_0.other W12 (neA (by omega))
  have f24 := f23.other W18 (neA (by omega))
  have SU : StrU Z h18 x t8 kt8 [c0, c1, c2] := ⟨Z18, f22, F18, f24, allI Pr6 (allI Pr7 (allI Pr8 (allN))), Nat.le_of_ble_eq_true rfl⟩
  exact X18.retV hret (D d2_57) (by decide) (by decide) (fun vmE CE => ⟨t8, kt8, rfl, ((((Keep.refl h0 [x]).trans K8 all0).wr W12 (Or.inl (memI (i := 0) rfl))).wr W18 (Or.inl (memI (i := 0) rfl))), SU⟩)
abbrev RrmU1_3 : Room := { frames := 5, cells := 2, slots := 9, locals := 74 }
def QrmU1_3 (Z : State) (x : Addr) (y : Addr) (ky : ClassId) (c0 : Int32) (c1 : Int32) (c2 : Int32) (h0 : Heap) (v : Option Value) (vm : Vm) (h : Heap) : Prop := ∃ (t : Addr) (kt : ClassId), v = none ∧ Keep h0 h [x] ∧ StrU Z h x t kt [c0, c1, c2]
theorem rmU1_3 (hcx : Cx Z a0 zc fm) (x : Addr) (y : Addr) (ky : ClassId) (c0 : Int32) (c1 : Int32) (c2 : Int32) (h0 : Heap) (O0 : Old Z Z.heap.size h0) (Pr0 : Exa Z h0 x "java/lang/String") (Pr1 : Fld Z h0 x "java/lang/String" "coder" "B" (.int (0 : Int32))) (Pr2 : Fld Z h0 x "java/lang/String" "value" "[B" .null) (Pr3 : Z.heap.size ≤ x) (Pr4 : Arv Z h0 y ky .char (3 : Int32) [(.int c0), (.int c1), (.int c2)] (.int (0 : Int32))) (Pr5 : (255 : Int32) < c0 ∨ (255 : Int32) < c1 ∨ (255 : Int32) < c2) (Pr6 : ¬ c0 < 0 ∧ ¬ (65535 : Int32) < c0) (Pr7 : ¬ c1 < 0 ∧ ¬ (65535 : Int32) < c1) (Pr8 : ¬ c2 < 0 ∧ ¬ (65535 : Int32) < c2) : Met l Z consts_1 (⟨"java/lang/String", "<init>", "([C)V"⟩ : MethodName) jdk_42_method_3_code 2 (none) [] RrmU1_3 [x] #[(.ref x), (.ref y)] h0 (QrmU1_3 Z x y ky c0 c1 c2 h0) := by
  have ⟨hw, hEL, O2, P5, O4, P6, OA, OH, OB⟩ := hcx
  refine Met.start (a0 := a0) (Ls := #[vR x, vR y]) pn1 hEL O0 (fun m => by first | (simp [entryFrame, mkF, argsToLocals, Value.category]; done) | rfl) ?_
  intro p e s m below meth cc T0 vm0 X0 sf0_ hby hml hret hnm
  have hx := X0.hx
  have D : ∀ {n r}, decode B1 n = r → decode cc.code n = r := fun d => hb hby d
  have zz := X0.ge
  have A0 := X0.at
  have l1 := ltA Pr0.lt
  have l2 := ltA Pr4.lt
  have s3 := sf0_ x (memI (i := 0) rfl)
  refine Gets.via (fun _ k => (XS.aloadN A0 hx rfl (D d1_0) rfl rfl (XS.aloadN A0 hx rfl (D d1_1) rfl rfl (XS.iconst A0 hx rfl (D d1_2) (XS.aloadN A0 hx rfl (D d1_3) rfl rfl k))))) ?_
  refine X0.alen Pr4 rfl rfl (D d1_4) ?_
  refine Gets.via (fun _ k => (XS.aconstNull A0 hx rfl (D d1_5) k)) ?_
  refine X0.callI (y := (⟨"java/lang/String", "<init>", "([CIILjava/lang/Void;)V"⟩ : MethodName)) (W := 0) rfl (w11 hw) (w12 hw) (w14 hw) (by decide) (X0.payM (sf := [x]) (rmU4_3 hcx x y ky c0 c1 c2 h0 X0.old Pr0 Pr1 Pr2 Pr3 Pr4 Pr5 Pr6 Pr7 Pr8) (sfS s3 sf0) (w14 hw) (w6 hw)) rfl (sz hml rfl) (a := x) (argsL := [(.ref y), (.int (0 : Int32)), (.int (3 : Int32)), .null]) (rest := []) (lenOf pd0 rfl) rfl rfl (mroom rfl rfl) (D d1_6) (by decide) (by decide) fun T4 h4 vm4 v4 X4 C4 z4 q4 => ?_
  obtain ⟨t4, kt4, rfl, K4, g4_0⟩ := q4
  have l5 := ltA g4_0.lt
  have l6 := ltA g4_0.lb
  show Gets p e below _ (T4.setTop (mkF m 9 #[vR x, vR y] []))
  exact X4.retV hret (D d1_9) (by decide) (by decide) (fun vmE CE => ⟨t4, kt4, rfl, ((Keep.refl h0 [x]).trans K4 (allS (Or.inl (memI (i := 0) rfl)) all0)), g4_0⟩)
abbrev RrmAsb : Room := { frames := 1, cells := 1, slots := 16, locals := 12 }
def QrmAsb (Z : State) (x : Addr) (h0 : Heap) (v : Option Value) (vm : Vm) (h : Heap) : Prop := ∃ (d : Addr) (kd : ClassId), v = none ∧ Keep h0 h [x] ∧ Exa Z h x "java/lang/StringBuilder" ∧ Fld Z h x "java/lang/AbstractStringBuilder" "value" "[B" (.ref d) ∧ Fld Z h x "java/lang/AbstractStringBuilder" "coder" "B" (.int (0 : Int32)) ∧ Fld Z h x "java/lang/AbstractStringBuilder" "count" "I" (.int (Int32.ofNat (([] : List Int32)).length)) ∧ Fld Z h x "java/lang/AbstractStringBuilder" "maybeLatin1" "Z" (.int (0 : Int32)) ∧ Arv Z h d kd .byte (16 : Int32) ((([] : List Int32).map fun c => c.toInt8.toInt32).map Value.int) (.int (0 : Int32)) ∧ Safe Z consts_1 vm h d ∧ h0.size ≤ d
theorem rmAsb (hcx : Cx Z a0 zc fm) (x : Addr) (h0 : Heap) (O0 : Old Z Z.heap.size h0) (Pr0 : Exa Z h0 x "java/lang/StringBuilder") (Pr1 : Fld Z h0 x "java/lang/AbstractStringBuilder" "value" "[B" .null) (Pr2 : Fld Z h0 x "java/lang/AbstractStringBuilder" "coder" "B" (.int (0 : Int32))) (Pr3 : Fld Z h0 x "java/lang/AbstractStringBuilder" "count" "I" (.int (0 : Int32))) (Pr4 : Fld Z h0 x "java/lang/AbstractStringBuilder" "maybeLatin1" "Z" (.int (0 : Int32))) (Pr5 : Z.heap.size ≤ x) : Met l Z consts_1 (⟨"java/lang/AbstractStringBuilder", "<init>", "(I)V"⟩ : MethodName) jdk_68_method_2_code 2 (none) [] RrmAsb [] #[(.ref x), (.int (16 : Int32))] h0 (QrmAsb Z x h0) := by
  have ⟨hw, hEL, O2, P5, O4, P6, OA, OH, OB⟩ := hcx
  refine Met.start (a0 := a0) (Ls := #[vR x, vI (16 : Int32)]) pn9 hEL O0 (fun m => by first | (simp [entryFrame, mkF, argsToLocals, Value.category]; done) | rfl) ?_
  intro p e s m below meth cc T0 vm0 X0 sf0_ hby hml hret hnm
  have hx := X0.hx
  have D : ∀ {n r}, decode B9 n = r → decode cc.code n = r := fun d => hb hby d
  have zz := X0.ge
  have A0 := X0.at
  have l1 := ltA Pr0.lt
  refine Gets.via (fun _ k => (XS.aloadN A0 hx rfl (D d9_0) rfl rfl k)) ?_
  refine X0.objInit (w56 hw) (w16 hw) (w17 hw) rfl (sz hml rfl) rfl (D d9_1) (by decide) (W := 0) (mroom rfl rfl) (by decide) fun T2 X2 => ?_
  refine X2.getS (host := "") (Or.inl (w57 hw)) Via.refl (X2.sta O2) rfl (D d9_4) fun T3 X3 => ?_
  have A4 := X3.at
  refine Gets.via (fun _ k => (XS.ifNo A4 hx rfl (D d9_7) rfl (Jvm.Free.XT.i0_eq_f P5) k)) ?_
  refine Gets.via (fun _ k => (XS.aloadN A4 hx rfl (D d9_10) rfl rfl (XS.iloadN A4 hx rfl (D d9_11) rfl k))) ?_
  show Gets p e below _ (T3.setTop (mkF m 12 #[vR x, vI (16 : Int32)] [(.int (16 : Int32)), (.ref x)]))
  refine X3.newA (aty := .byte) (w23 hw) rfl (D d9_12) rfl (by decide) (cap := 16) (by decide) (by decide) (by decide) (by decide) fun T5 h5 a5 k5 X5 C5 E5 g5 S5 V5 => ?_
  have z5 := E5.1
  have l5 := ltA V5.lt
  have f7 := Pr1.ext E5
  have f8 := Pr0.ext E5
  refine X5.putF (host := "") (Or.inl (w58 hw)) Via.refl f7 f8 (Or.inl (w59 hw)) (w45 hw) (ty := (.array .byte)) (by decide) rfl rfl (leA (by omega)) (Safe.exa X5.hZ.alike f8 (by decide) (by decide)) rfl rfl (D d9_14) fun T6 h6 X6 C6 W6 F6 Z6 => ?_
  have z6 := W6.size
  have A9 := X6.at
  refine Gets.via (fun _ k => (XS.aloadN A9 hx rfl (D d9_17) rfl rfl (XS.iconst A9 hx rfl (D d9_18) k))) ?_
  have f11 := Pr2.ext E5
  have f12 := f11.other W6 (Or.inr (slot_ne (t := .byte) (t' := (.array .byte)) (Or.inl (w61 hw)) (Or.inl (w59 hw)) (by decide) (by decide) (by decide)))
  refine X6.putF (host := "") (Or.inl (w60 hw)) Via.refl f12 Z6 (Or.inl (w61 hw)) (w45 hw) (ty := .byte) (by decide) (by decide) (by decide) (leA (by omega)) (Safe.exa X6.hZ.alike Z6 (by decide) (by decide)) rfl rfl (D d9_19) fun T10 h10 X10 C10 W10 F10 Z10 => ?_
  have z10 := W10.size
  have A13 := X10.at
  refine Gets.via (fun _ k => (XS.goto A13 hx rfl (pc0 := 22) (pc' := 38) rfl (D d9_22) (by decide) (by decide) k)) ?_
  show Gets p e below _ (T10.setTop (mkF m 38 #[vR x, vI (16 : Int32)] []))
  have f14 := F6.other W10 (Or.inr (slot_ne (t := (.array .byte)) (t' := .byte) (Or.inl (w59 hw)) (Or.inl (w61 hw)) (by decide) (by decide) (by decide)))
  have f15 := Pr3.ext E5
  have f16 := f15.other W6 (Or.inr (slot_ne (t := .int) (t' := (.array .byte)) (Or.inl (w90 hw)) (Or.inl (w59 hw)) (by decide) (by decide) (by decide)))
  have f17 := f16.other W10 (Or.inr (slot_ne (t := .int) (t' := .byte) (Or.inl (w90 hw)) (Or.inl (w61 hw)) (by decide) (by decide) (by decide)))
  have f18 := Pr4.ext E5
  have f19 := f18.other W6 (Or.inr (slot_ne (t := .boolean) (t' := (.array .byte)) (Or.inl (w259 hw)) (Or.inl (w59 hw)) (by decide) (by decide) (by decide)))
  have f20 := f19.other W10 (Or.inr (slot_ne (t := .boolean) (t' := .byte) (Or.inl (w259 hw)) (Or.inl (w61 hw)) (by decide) (by decide) (by decide)))
  have f21 := V5.other W6 (neA (by omega))
  have f22 := f21.other W10 (neA (by omega))
  have f23 := C6.safe (x := a5) (ltA (by omega)) S5
  have f24 := C10.safe (x := a5) (ltA (by omega)) f23
  exact X10.retV hret (D d9_38) (by decide) (by decide) (fun vmE CE => ⟨a5, k5, rfl, ((((Keep.refl h0 [x]).ext E5).wr W6 (Or.inl (memI (i := 0) rfl))).wr W10 (Or.inl (memI (i := 0) rfl))), Z10, f14, F10, f17, f20, f22, CE.safe (x := a5) (ltA (by omega)) f24, (leA (by omega))⟩)
abbrev RrmSbI : Room := { frames := 2, cells := 1, slots := 16, locals := 25 }
def QrmSbI (Z : State) (x : Addr) (h0 : Heap) (v : Option Value) (vm : Vm) (h : Heap) : Prop := ∃ (d : Addr) (kd : ClassId), v = none ∧ Keep h0 h [x] ∧ Exa Z h x "java/lang/StringBuilder" ∧ Fld Z h x "java/lang/AbstractStringBuilder" "value" "[B" (.ref d) ∧ Fld Z h x "java/lang/AbstractStringBuilder" "coder" "B" (.int (0 : Int32)) ∧ Fld Z h x "java/lang/AbstractStringBuilder" "count" "I" (.int (Int32.ofNat (([] : List Int32)).length)) ∧ Fld Z h x "java/lang/AbstractStringBuilder" "maybeLatin1" "Z" (.int (0 : Int32)) ∧ Arv Z h d kd .byte (16 : Int32) ((([] : List Int32).map fun c => c.toInt8.toInt32).map Value.int) (.int (0 : Int32)) ∧ Safe Z consts_1 vm h d ∧ h0.size ≤ d
theorem rmSbI (hcx : Cx Z a0 zc fm) (x : Addr) (h0 : Heap) (O0 : Old Z Z.heap.size h0) (Pr0 : Exa Z h0 x "java/lang/StringBuilder") (Pr1 : Fld Z h0 x "java/lang/AbstractStringBuilder" "value" "[B" .null) (Pr2 : Fld Z h0 x "java/lang/AbstractStringBuilder" "coder" "B" (.int (0 : Int32))) (Pr3 : Fld Z h0 x "java/lang/AbstractStringBuilder" "count" "I" (.int (0 : Int32))) (Pr4 : Fld Z h0 x "java/lang/AbstractStringBuilder" "maybeLatin1" "Z" (.int (0 : Int32))) (Pr5 : Z.heap.size ≤ x) : Met l Z consts_1 (⟨"java/lang/StringBuilder", "<init>", "()V"⟩ : MethodName) jdk_67_method_1_code 1 (none) [] RrmSbI [] #[(.ref x)] h0 (QrmSbI Z x h0) := by
  have ⟨hw, hEL, O2, P5, O4, P6, OA, OH, OB⟩ := hcx
  refine Met.start (a0 := a0) (Ls := #[vR x]) pn8 hEL O0 (fun m => by first | (simp [entryFrame, mkF, argsToLocals, Value.category]; done) | rfl) ?_
  intro p e s m below meth cc T0 vm0 X0 sf0_ hby hml hret hnm
  have hx := X0.hx
  have D : ∀ {n r}, decode B8 n = r → decode cc.code n = r := fun d => hb hby d
  have zz := X0.ge
  have A0 := X0.at
  have l1 := ltA Pr0.lt
  refine Gets.via (fun _ k => (XS.aloadN A0 hx rfl (D d8_0) rfl rfl (XS.bipush A0 hx rfl (D d8_1) k))) ?_
  refine X0.callI (y := (⟨"java/lang/AbstractStringBuilder", "<init>", "(I)V"⟩ : MethodName)) (W := 0) rfl (w50 hw) (w51 hw) (w55 hw) (by decide) (X0.payM (sf := []) (rmAsb hcx x h0 X0.old Pr0 Pr1 Pr2 Pr3 Pr4 Pr5) sf0 (w55 hw) (w54 hw)) rfl (sz hml rfl) (a := x) (argsL := [(.int (16 : Int32))]) (rest := []) (lenOf pd14 rfl) rfl rfl (mroom rfl rfl) (D d8_3) (by decide) (by decide) fun T2 h2 vm2 v2 X2 C2 z2 q2 => ?_
  obtain ⟨d2, kd2, rfl, K2, g2_0, g2_1, g2_2, g2_3, g2_4, g2_5, g2_6, g2_7⟩ := q2
  have l3 := ltA g2_0.lt
  have l4 := ltA g2_5.lt
  exact X2.retV hret (D d8_6) (by decide) (by decide) (fun vmE CE => ⟨d2, kd2, rfl, ((Keep.refl h0 [x]).trans K2 (allS (Or.inl (memI (i := 0) rfl)) all0)), g2_0, g2_1, g2_2, g2_3, g2_4, g2_5, CE.safe (x := d2) (ltA (by omega)) g2_6, g2_7⟩)
abbrev RrmEns0 : Room := { frames := 0, cells := 0, slots := 0, locals := 0 }
def QrmEns0 (Z : State) (x : Addr) (n : Nat) (d : Addr) (kd : ClassId) (vs : List Value) (h0 : Heap) (v : Option Value) (vm : Vm) (h : Heap) : Prop := v = none ∧ h = h0
theorem rmEns0 (hcx : Cx Z a0 zc fm) (x : Addr) (n : Nat) (d : Addr) (kd : ClassId) (vs : List Value) (h0 : Heap) (O0 : Old Z Z.heap.size h0) (Pr0 : Exa Z h0 x "java/lang/StringBuilder") (Pr1 : Fld Z h0 x "java/lang/AbstractStringBuilder" "value" "[B" (.ref d)) (Pr2 : Fld Z h0 x "java/lang/AbstractStringBuilder" "coder" "B" (.int (0 : Int32))) (Pr3 : Arv Z h0 d kd .byte (16 : Int32) vs (.int (0 : Int32))) (Pr4 : n ≤ 16) : Met l Z consts_1 (⟨"java/lang/AbstractStringBuilder", "ensureCapacityInternal", "(I)V"⟩ : MethodName) jdk_68_method_9_code 3 (none) [] RrmEns0 [] #[(.ref x), (.int (Int32.ofNat n))] h0 (QrmEns0 Z x n d kd vs h0) := by
  have ⟨hw, hEL, O2, P5, O4, P6, OA, OH, OB⟩ := hcx
  refine Met.start (a0 := a0) (Ls := #[vR x, vI (Int32.ofNat n), .unset]) pn15 hEL O0 (fun m => by first | (simp [entryFrame, mkF, argsToLocals, Value.category]; done) | rfl) ?_
  intro p e s m below meth cc T0 vm0 X0 sf0_ hby hml hret hnm
  have hx := X0.hx
  have D : ∀ {n r}, decode B15 n = r → decode cc.code n = r := fun d => hb hby d
  have zz := X0.ge
  have A0 := X0.at
  have l1 := ltA Pr0.lt
  have l2 := ltA Pr3.lt
  refine Gets.via (fun _ k => (XS.aloadN A0 hx rfl (D d15_0) rfl rfl k)) ?_
  refine X0.getF (host := "") (Or.inl (w58 hw)) Via.refl Pr1 rfl rfl (D d15_1) fun T3 X3 => ?_
  refine X3.alen Pr3 rfl rfl (D d15_4) ?_
  have A4 := X3.at
  refine Gets.via (fun _ k => (XS.aloadN A4 hx rfl (D d15_5) rfl rfl k)) ?_
  refine X3.getF (host := "") (Or.inl (w60 hw)) Via.refl Pr2 rfl rfl (D d15_6) fun T5 X5 => ?_
  show Gets p e below _ (T5.setTop (mkF m 9 #[vR x, vI (Int32.ofNat n), .unset] [(.int (0 : Int32)), (.int (16 : Int32))]))
  have A6 := X5.at
  refine Gets.via (fun _ k => (ishrV A6 hx rfl (D d15_9) rfl (v := (16 : Int32)) (by decide) (XS.istoreN A6 hx rfl (D d15_10) rfl (l' := #[vR x, vI (Int32.ofNat n), vI (16 : Int32)]) rfl (XS.iloadN A6 hx rfl (D d15_11) rfl (XS.iloadN A6 hx rfl (D d15_12) rfl (XS.isub A6 hx rfl (D d15_13) rfl (XS.ifYes A6 hx rfl (pc0 := 14) (pc' := 38) rfl (D d15_14) rfl (Jvm.Free.XT.i0_le_t (sub_np (k := 16) (by omega) (by omega))) (by decide) (by decide) k))))))) ?_
  exact X5.retV hret (D d15_38) (by decide) (by decide) (fun vmE CE => ⟨rfl, rfl⟩)
abbrev RrmSbL0 : Room := { frames := 0, cells := 0, slots := 0, locals := 0 }
def QrmSbL0 (Z : State) (x : Addr) (h0 : Heap) (v : Option Value) (vm : Vm) (h : Heap) : Prop := v = some (.int (1 : Int32)) ∧ h = h0
theorem rmSbL0 (hcx : Cx Z a0 zc fm) (x : Addr) (h0 : Heap) (O0 : Old Z Z.heap.size h0) (Pr0 : Exa Z h0 x "java/lang/StringBuilder") (Pr1 : Fld Z h0 x "java/lang/AbstractStringBuilder" "coder" "B" (.int (0 : Int32))) : Met l Z consts_1 (⟨"java/lang/AbstractStringBuilder", "isLatin1", "()Z"⟩ : MethodName) jdk_68_method_68_code 1 (some .boolean) [] RrmSbL0 [] #[(.ref x)] h0 (QrmSbL0 Z x h0) := by
  have ⟨hw, hEL, O2, P5, O4, P6, OA, OH, OB⟩ := hcx
  refine Met.start (a0 := a0) (Ls := #[vR x]) pn22 hEL O0 (fun m => by first | (simp [entryFrame, mkF, argsToLocals, Value.category]; done) | rfl) ?_
  intro p e s m below meth cc T0 vm0 X0 sf0_ hby hml hret hnm
  have hx := X0.hx
  have D : ∀ {n r}, decode B22 n = r → decode cc.code n = r := fun d => hb hby d
  have zz := X0.ge
  have A0 := X0.at
  have l1 := ltA Pr0.lt
  refine X0.getS (host := "") (Or.inl (w57 hw)) Via.refl (X0.sta O2) rfl (D d22_0) fun T2 X2 => ?_
  have A3 := X2.at
  refine Gets.via (fun _ k => (XS.ifNo A3 hx rfl (D d22_3) rfl (Jvm.Free.XT.i0_eq_f P5) k)) ?_
  refine Gets.via (fun _ k => (XS.aloadN A3 hx rfl (D d22_6) rfl rfl k)) ?_
  refine X2.getF (host := "") (Or.inl (w60 hw)) Via.refl Pr1 rfl rfl (D d22_7) fun T4 X4 => ?_
  have A5 := X4.at
  refine Gets.via (fun _ k => (XS.ifNo A5 hx rfl (D d22_10) rfl (Jvm.Free.XT.i0_ne_f (by decide)) k)) ?_
  show Gets p e below _ (T4.setTop (mkF m 13 #[vR x] []))
  refine Gets.via (fun _ k => (XS.iconst A5 hx rfl (D d22_13) (XS.goto A5 hx rfl (pc0 := 14) (pc' := 18) rfl (D d22_14) (by decide) (by decide) k))) ?_
  exact X4.retI hret (by decide) (by simp) (D d22_18) (by decide) (by decide) (fun vmE CE => ⟨rfl, rfl⟩)
abbrev RrmEns1 : Room := { frames := 0, cells := 0, slots := 0, locals := 0 }
def QrmEns1 (Z : State) (x : Addr) (n : Nat) (d : Addr) (kd : ClassId) (vs : List Value) (h0 : Heap) (v : Option Value) (vm : Vm) (h : Heap) : Prop := v = none ∧ h = h0
theorem rmEns1 (hcx : Cx Z a0 zc fm) (x : Addr) (n : Nat) (d : Addr) (kd : ClassId) (vs : List Value) (h0 : Heap) (O0 : Old Z Z.heap.size h0) (Pr0 : Exa Z h0 x "java/lang/StringBuilder") (Pr1 : Fld Z h0 x "java/lang/AbstractStringBuilder" "value" "[B" (.ref d)) (Pr2 : Fld Z h0 x "java/lang/AbstractStringBuilder" "coder" "B" (.int (1 : Int32))) (Pr3 : Arv Z h0 d kd .byte (32 : Int32) vs (.int (0 : Int32))) (Pr4 : n ≤ 16) : Met l Z consts_1 (⟨"java/lang/AbstractStringBuilder", "ensureCapacityInternal", "(I)V"⟩ : MethodName) jdk_68_method_9_code 3 (none) [] RrmEns1 [] #[(.ref x), (.int (Int32.ofNat n))] h0 (QrmEns1 Z x n d kd vs h0) := by
  have ⟨hw, hEL, O2, P5, O4, P6, OA, OH, OB⟩ := hcx
  refine Met.start (a0 := a0) (Ls := #[vR x, vI (Int32.ofNat n), .unset]) pn15 hEL O0 (fun m => by first | (simp [entryFrame, mkF, argsToLocals, Value.category]; done) | rfl) ?_
  intro p e s m below meth cc T0 vm0 X0 sf0_ hby hml hret hnm
  have hx := X0.hx
  have D : ∀ {n r}, decode B15 n = r → decode cc.code n = r := fun d => hb hby d
  have zz := X0.ge
  have A0 := X0.at
  have l1 := ltA Pr0.lt
  have l2 := ltA Pr3.lt
  refine Gets.via (fun _ k => (XS.aloadN A0 hx rfl (D d15_0) rfl rfl k)) ?_
  refine X0.getF (host := "") (Or.inl (w58 hw)) Via.refl Pr1 rfl rfl (D d15_1) fun T3 X3 => ?_
  refine X3.alen Pr3 rfl rfl (D d15_4) ?_
  have A4 := X3.at
  refine Gets.via (fun _ k => (XS.aloadN A4 hx rfl (D d15_5) rfl rfl k)) ?_
  refine X3.getF (host := "") (Or.inl (w60 hw)) Via.refl Pr2 rfl rfl (D d15_6) fun T5 X5 => ?_
  show Gets p e below _ (T5.setTop (mkF m 9 #[vR x, vI (Int32.ofNat n), .unset] [(.int (1 : Int32)), (.int (32 : Int32))]))
  have A6 := X5.at
  refine Gets.via (fun _ k => (ishrV A6 hx rfl (D d15_9) rfl (v := (16 : Int32)) (by decide) (XS.istoreN A6 hx rfl (D d15_10) rfl (l' := #[vR x, vI (Int32.ofNat n), vI (16 : Int32)]) rfl (XS.iloadN A6 hx rfl (D d15_11) rfl (XS.iloadN A6 hx rfl (D d15_12) rfl (XS.isub A6 hx rfl (D d15_13) rfl (XS.ifYes A6 hx rfl (pc0 := 14) (pc' := 38) rfl (D d15_14) rfl (Jvm.Free.XT.i0_le_t (sub_np (k := 16) (by omega) (by omega))) (by decide) (by decide) k))))))) ?_
  exact X5.retV hret (D d15_38) (by decide) (by decide) (fun vmE CE => ⟨rfl, rfl⟩)
abbrev RrmSbL1 : Room := { frames := 0, cells := 0, slots := 0, locals := 0 }
def QrmSbL1 (Z : State) (x : Addr) (h0 : Heap) (v : Option Value) (vm : Vm) (h : Heap) : Prop := v = some (.int (0 : Int32)) ∧ h = h0
theorem rmSbL1 (hcx : Cx Z a0 zc fm) (x : Addr) (h0 : Heap) (O0 : Old Z Z.heap.size h0) (Pr0 : Exa Z h0 x "java/lang/StringBuilder") (Pr1 : Fld Z h0 x "java/lang/AbstractStringBuilder" "coder" "B" (.int (1 : Int32))) : Met l Z consts_1 (⟨"java/lang/AbstractStringBuilder", "isLatin1", "()Z"⟩ : MethodName) jdk_68_method_68_code 1 (some .boolean) [] RrmSbL1 [] #[(.ref x)] h0 (QrmSbL1 Z x h0) := by
  have ⟨hw, hEL, O2, P5, O4, P6, OA, OH, OB⟩ := hcx
  refine Met.start (a0 := a0) (Ls := #[vR x]) pn22 hEL O0 (fun m => by first | (simp [entryFrame, mkF, argsToLocals, Value.category]; done) | rfl) ?_
  intro p e s m below meth cc T0 vm0 X0 sf0_ hby hml hret hnm
  have hx := X0.hx
  have D : ∀ {n r}, decode B22 n = r → decode cc.code n = r := fun d => hb hby d
  have zz := X0.ge
  have A0 := X0.at
  have l1 := ltA Pr0.lt
  refine X0.getS (host := "") (Or.inl (w57 hw)) Via.refl (X0.sta O2) rfl (D d22_0) fun T2 X2 => ?_
  have A3 := X2.at
  refine Gets.via (fun _ k => (XS.ifNo A3 hx rfl (D d22_3) rfl (Jvm.Free.XT.i0_eq_f P5) k)) ?_
  refine Gets.via (fun _ k => (XS.aloadN A3 hx rfl (D d22_6) rfl rfl k)) ?_
  refine X2.getF (host := "") (Or.inl (w60 hw)) Via.refl Pr1 rfl rfl (D d22_7) fun T4 X4 => ?_
  have A5 := X4.at
  refine Gets.via (fun _ k => (XS.ifYes A5 hx rfl (pc0 := 10) (pc' := 17) rfl (D d22_10) rfl (Jvm.Free.XT.i0_ne_t (by decide)) (by decide) (by decide) k)) ?_
  show Gets p e below _ (T4.setTop (mkF m 17 #[vR x] []))
  refine Gets.via (fun _ k => (XS.iconst A5 hx rfl (D d22_17) k)) ?_
  exact X4.retI hret (by decide) (by simp) (D d22_18) (by decide) (by decide) (fun vmE CE => ⟨rfl, rfl⟩)
abbrev RrmGb0 : Room := { frames := 1, cells := 0, slots := 0, locals := 22 }
def QrmGb0 (Z : State) (s1 : Addr) (d : Addr) (cs : List Int32) (b : Addr) (kb : ClassId) (ds : List Int32) (kd : ClassId) (h0 : Heap) (v : Option Value) (vm : Vm) (h : Heap) : Prop := v = none ∧ Keep h0 h [d] ∧ Arv Z h d kd .byte (16 : Int32) (((cs ++ ds).map fun c => c.toInt8.toInt32).map Value.int) (.int (0 : Int32))
theorem rmGb0 (hcx : Cx Z a0 zc fm) (s1 : Addr) (d : Addr) (cs : List Int32) (b : Addr) (kb : ClassId) (ds : List Int32) (kd : ClassId) (h0 : Heap) (O0 : Old Z Z.heap.size h0) (Pr0 : Str Z h0 s1 b kb ds) (Pr1 : Arv Z h0 d kd .byte (16 : Int32) ((cs.map fun c => c.toInt8.toInt32).map Value.int) (.int (0 : Int32))) (Pr2 : (cs).length + (ds).length ≤ 16) (Pr3 : Z.heap.size ≤ d) : Met l Z consts_1 (⟨"java/lang/String", "getBytes", "([BIB)V"⟩ : MethodName) jdk_42_method_147_code 4 (none) [] RrmGb0 [d] #[(.ref s1), (.ref d), (.int (Int32.ofNat (cs).length)), (.int (0 : Int32))] h0 (QrmGb0 Z s1 d cs b kb ds kd h0) := by
  have ⟨hw, hEL, O2, P5, O4, P6, OA, OH, OB⟩ := hcx
  refine Met.start (a0 := a0) (Ls := #[vR s1, vR d, vI (Int32.ofNat (cs).length), vI (0 : Int32)]) pn18 hEL O0 (fun m => by first | (simp [entryFrame, mkF, argsToLocals, Value.category]; done) | rfl) ?_
  intro p e s m below meth cc T0 vm0 X0 sf0_ hby hml hret hnm
  have hx := X0.hx
  have D : ∀ {n r}, decode B18 n = r → decode cc.code n = r := fun d => hb hby d
  have zz := X0.ge
  have A0 := X0.at
  have l1 := ltA Pr0.lt
  have l2 := ltA Pr0.lb
  have l3 := ltA Pr1.lt
  have s4 := sf0_ d (memI (i := 0) rfl)
  have l4 := Pr0.2.2.2.2.2
  refine Gets.via (fun _ k => (XS.aloadN A0 hx rfl (D d18_0) rfl rfl k)) ?_
  refine X0.callV (W := 0) (w84 hw) (w85 hw) (w87 hw) (w86 hw) (nfs rfl (w87 hw)) (by decide) (X0.payM (sf := []) (rmCoder0 hcx s1 h0 X0.old Pr0.1 Pr0.2.1) sf0 (w88 hw) (w6 hw)) Pr0.1 rfl (sz hml rfl) (argsL := []) (rest := []) (lenOf pd1 rfl) rfl rfl (mroom rfl rfl) (D d18_1) (by decide) (by decide) fun T5 h5 vm5 v5 X5 C5 z5 q5 => ?_
  obtain ⟨rfl, K5⟩ := q5
  rw [K5] at X5 C5
  have A6 := X5.at
  refine Gets.via (fun _ k => (XS.iloadN A6 hx rfl (D d18_4) rfl (XS.icmpNo A6 hx rfl (D d18_5) rfl (Jvm.Free.XT.ii_ne_f (by decide)) k))) ?_
  refine Gets.via (fun _ k => (XS.aloadN A6 hx rfl (D d18_8) rfl rfl k)) ?_
  refine X5.getF (host := "") (Or.inl (w32 hw)) Via.refl Pr0.2.2.1 rfl rfl (D d18_9) fun T7 X7 => ?_
  show Gets p e below _ (T7.setTop (mkF m 12 #[vR s1, vR d, vI (Int32.ofNat (cs).length), vI (0 : Int32)] [(.ref b)]))
  have A8 := X7.at
  refine Gets.via (fun _ k => (XS.iconst A8 hx rfl (D d18_12) (XS.aloadN A8 hx rfl (D d18_13) rfl rfl (XS.iloadN A8 hx rfl (D d18_14) rfl (XS.iloadN A8 hx rfl (D d18_15) rfl (ishlV A8 hx rfl (D d18_16) rfl (v := (Int32.ofNat (cs).length)) (shl0 _) (XS.aloadN A8 hx rfl (D d18_17) rfl rfl k))))))) ?_
  refine X7.getF (host := "") (Or.inl (w32 hw)) Via.refl Pr0.2.2.1 rfl rfl (D d18_18) fun T9 X9 => ?_
  refine X9.alen Pr0.2.2.2.1 rfl rfl (D d18_21) ?_
  show Gets p e below _ (T9.setTop (mkF m 22 #[vR s1, vR d, vI (Int32.ofNat (cs).length), vI (0 : Int32)] [(.int (Int32.ofNat (ds).length)), (.int (Int32.ofNat (cs).length)), (.ref d), (.int (0 : Int32)), (.ref b)]))
  have f11 := C5.safe (x := d) (ltA (by omega)) s4
  refine X9.copy (w112 hw) (w115 hw) (w113 hw) (w114 hw) Pr0.2.2.2.1 (Pr1.pad (pad_rep _ _ 16)) (Or.inl ⟨rfl, rfl⟩) (by decide) (of_pos (by omega)) (of_pos (by omega)) (by rw [toN (by omega)]; exact Nat.le_of_eq (Nat.zero_add _)) (by rw [toN (by omega), toN (by omega), show (16 : Int32).toNatClampNeg = 16 from rfl]; omega) rfl (by rw [toN (by omega), toN (by omega), List.length_append, by_len, List.length_replicate]; omega) (leA (by omega)) f11 rfl (sz hml rfl) rfl (D d18_22) (by decide) (W := 0) (mroom rfl rfl) (by decide) fun T10 h10 X10 C10 K10 V10 => ?_
  have z10 := K10.1
  have V10_ : Arv Z h10 d kd .byte (16 : Int32) (((cs ++ ds).map fun c => c.toInt8.toInt32).map Value.int) (.int (0 : Int32)) := (by_app cs ds) ▸ catA V10 rfl (by rw [toN (by omega), by_len]) (by rw [toN (by omega), by_len])
  have A12 := X10.at
  refine Gets.via (fun _ k => (XS.goto A12 hx rfl (pc0 := 25) (pc' := 43) rfl (D d18_25) (by decide) (by decide) k)) ?_
  exact X10.retV hret (D d18_43) (by decide) (by decide) (fun vmE CE => ⟨rfl, ((Keep.refl h0 [d]).trans K10 (allS (Or.inl (memI (i := 0) rfl)) all0)), V10_⟩)
abbrev RrmGb1 : Room := { frames := 1, cells := 0, slots := 0, locals := 22 }
def QrmGb1 (Z : State) (s1 : Addr) (d : Addr) (cs : List Int32) (b : Addr) (kb : ClassId) (ds : List Int32) (kd : ClassId) (h0 : Heap) (v : Option Value) (vm : Vm) (h : Heap) : Prop := v = none ∧ Keep h0 h [d] ∧ Arv Z h d kd .byte (32 : Int32) (enc16 (cs ++ ds)) (.int (0 : Int32))
theorem rmGb1 (hcx : Cx Z a0 zc fm) (s1 : Addr) (d : Addr) (cs : List Int32) (b : Addr) (kb : ClassId) (ds : List Int32) (kd : ClassId) (h0 : Heap) (O0 : Old Z Z.heap.size h0) (Pr0 : StrU Z h0 s1 b kb ds) (Pr1 : Arv Z h0 d kd .byte (32 : Int32) (enc16 cs) (.int (0 : Int32))) (Pr2 : (cs).length + (ds).length ≤ 16) (Pr3 : Z.heap.size ≤ d) : Met l Z consts_1 (⟨"java/lang/String", "getBytes", "([BIB)V"⟩ : MethodName) jdk_42_method_147_code 4 (none) [] RrmGb1 [d] #[(.ref s1), (.ref d), (.int (Int32.ofNat (cs).length)), (.int (1 : Int32))] h0 (QrmGb1 Z s1 d cs b kb ds kd h0) := by
  have ⟨hw, hEL, O2, P5, O4, P6, OA, OH, OB⟩ := hcx
  refine Met.start (a0 := a0) (Ls := #[vR s1, vR d, vI (Int32.ofNat (cs).length), vI (1 : Int32)]) pn18 hEL O0 (fun m => by first | (simp [entryFrame, mkF, argsToLocals, Value.category]; done) | rfl) ?_
  intro p e s m below meth cc T0 vm0 X0 sf0_ hby hml hret hnm
  have hx := X0.hx
  have D : ∀ {n r}, decode B18 n = r → decode cc.code n = r := fun d => hb hby d
  have zz := X0.ge
  have A0 := X0.at
  have l1 := ltA Pr0.lt
  have l2 := ltA Pr0.lb
  have l3 := ltA Pr1.lt
  have s4 := sf0_ d (memI (i := 0) rfl)
  have l4 := Pr0.2.2.2.2.2
  refine Gets.via (fun _ k => (XS.aloadN A0 hx rfl (D d18_0) rfl rfl k)) ?_
  refine X0.callV (W := 0) (w84 hw) (w85 hw) (w87 hw) (w86 hw) (nfs rfl (w87 hw)) (by decide) (X0.payM (sf := []) (rmCoder1 hcx s1 h0 X0.old Pr0.1 Pr0.2.1) sf0 (w88 hw) (w6 hw)) Pr0.1 rfl (sz hml rfl) (argsL := []) (rest := []) (lenOf pd1 rfl) rfl rfl (mroom rfl rfl) (D d18_1) (by decide) (by decide) fun T5 h5 vm5 v5 X5 C5 z5 q5 => ?_
  obtain ⟨rfl, K5⟩ := q5
  rw [K5] at X5 C5
  have A6 := X5.at
  refine Gets.via (fun _ k => (XS.iloadN A6 hx rfl (D d18_4) rfl (XS.icmpNo A6 hx rfl (D d18_5) rfl (Jvm.Free.XT.ii_ne_f (by decide)) k))) ?_
  refine Gets.via (fun _ k => (XS.aloadN A6 hx rfl (D d18_8) rfl rfl k)) ?_
  refine X5.getF (host := "") (Or.inl (w32 hw)) Via.refl Pr0.2.2.1 rfl rfl (D d18_9) fun T7 X7 => ?_
  show Gets p e below _ (T7.setTop (mkF m 12 #[vR s1, vR d, vI (Int32.ofNat (cs).length), vI (1 : Int32)] [(.ref b)]))
  have A8 := X7.at
  refine Gets.via (fun _ k => (XS.iconst A8 hx rfl (D d18_12) (XS.aloadN A8 hx rfl (D d18_13) rfl rfl (XS.iloadN A8 hx rfl (D d18_14) rfl (XS.iloadN A8 hx rfl (D d18_15) rfl (ishlV A8 hx rfl (D d18_16) rfl (v := (Int32.ofNat (2 * (cs).length))) (shl1 _) (XS.aloadN A8 hx rfl (D d18_17) rfl rfl k))))))) ?_
  refine X7.getF (host := "") (Or.inl (w32 hw)) Via.refl Pr0.2.2.1 rfl rfl (D d18_18) fun T9 X9 => ?_
  refine X9.alen Pr0.2.2.2.1 rfl rfl (D d18_21) ?_
  show Gets p e below _ (T9.setTop (mkF m 22 #[vR s1, vR d, vI (Int32.ofNat (cs).length), vI (1 : Int32)] [(.int (Int32.ofNat (2 * (ds).length))), (.int (Int32.ofNat (2 * (cs).length))), (.ref d), (.int (0 : Int32)), (.ref b)]))
  have f11 := C5.safe (x := d) (ltA (by omega)) s4
  refine X9.copy (w112 hw) (w115 hw) (w113 hw) (w114 hw) Pr0.2.2.2.1 (Pr1.pad (pad_rep _ _ 32)) (Or.inl ⟨rfl, rfl⟩) (by decide) (of_pos (by omega)) (of_pos (by omega)) (by rw [toN (by omega)]; exact Nat.le_of_eq (Nat.zero_add _)) (by rw [toN (by omega), toN (by omega), show (32 : Int32).toNatClampNeg = 32 from rfl]; omega) rfl (by rw [toN (by omega), toN (by omega), List.length_append, enc16_len, List.length_replicate]; omega) (leA (by omega)) f11 rfl (sz hml rfl) rfl (D d18_22) (by decide) (W := 0) (mroom rfl rfl) (by decide) fun T10 h10 X10 C10 K10 V10 => ?_
  have z10 := K10.1
  have V10_ : Arv Z h10 d kd .byte (32 : Int32) (enc16 (cs ++ ds)) (.int (0 : Int32)) := (enc16_app cs ds) ▸ catA V10 rfl (by rw [toN (by omega), enc16_len]) (by rw [toN (by omega), enc16_len])
  have A12 := X10.at
  refine Gets.via (fun _ k => (XS.goto A12 hx rfl (pc0 := 25) (pc' := 43) rfl (D d18_25) (by decide) (by decide) k)) ?_
  exact X10.retV hret (D d18_43) (by decide) (by decide) (fun vmE CE => ⟨rfl, ((Keep.refl h0 [d]).trans K10 (allS (Or.inl (memI (i := 0) rfl)) all0)), V10_⟩)
abbrev RrmInf0 : Room := { frames := 1, cells := 0, slots := 0, locals := 13 }
def QrmInf0 (Z : State) (x : Addr) (s1 : Addr) (h0 : Heap) (v : Option Value) (vm : Vm) (h : Heap) : Prop := v = none ∧ h = h0
theorem rmInf0 (hcx : Cx Z a0 zc fm) (x : Addr) (s1 : Addr) (h0 : Heap) (O0 : Old Z Z.heap.size h0) (Pr0 : Exa Z h0 x "java/lang/StringBuilder") (Pr1 : Fld Z h0 x "java/lang/AbstractStringBuilder" "coder" "B" (.int (0 : Int32))) (Pr2 : Exa Z h0 s1 "java/lang/String") (Pr3 : Fld Z h0 s1 "java/lang/String" "coder" "B" (.int (0 : Int32))) : Met l Z consts_1 (⟨"java/lang/AbstractStringBuilder", "inflateIfNeededFor", "(Ljava/lang/String;)V"⟩ : MethodName) jdk_68_method_71_code 2 (none) [] RrmInf0 [] #[(.ref x), (.ref s1)] h0 (QrmInf0 Z x s1 h0) := by
  have ⟨hw, hEL, O2, P5, O4, P6, OA, OH, OB⟩ := hcx
  refine Met.start (a0 := a0) (Ls := #[vR x, vR s1]) pn17 hEL O0 (fun m => by first | (simp [entryFrame, mkF, argsToLocals, Value.category]; done) | rfl) ?_
  intro p e s m below meth cc T0 vm0 X0 sf0_ hby hml hret hnm
  have hx := X0.hx
  have D : ∀ {n r}, decode B17 n = r → decode cc.code n = r := fun d => hb hby d
  have zz := X0.ge
  have A0 := X0.at
  have l1 := ltA Pr0.lt
  have l2 := ltA Pr2.lt
  refine X0.getS (host := "") (Or.inl (w57 hw)) Via.refl (X0.sta O2) rfl (D d17_0) fun T3 X3 => ?_
  have A4 := X3.at
  refine Gets.via (fun _ k => (XS.ifNo A4 hx rfl (D d17_3) rfl (Jvm.Free.XT.i0_eq_f P5) k)) ?_
  refine Gets.via (fun _ k => (XS.aloadN A4 hx rfl (D d17_6) rfl rfl k)) ?_
  refine X3.getF (host := "") (Or.inl (w60 hw)) Via.refl Pr1 rfl rfl (D d17_7) fun T5 X5 => ?_
  have A6 := X5.at
  refine Gets.via (fun _ k => (XS.aloadN A6 hx rfl (D d17_10) rfl rfl k)) ?_
  show Gets p e below _ (T5.setTop (mkF m 11 #[vR x, vR s1] [(.ref s1), (.int (0 : Int32))]))
  refine X5.callV (W := 1) (w106 hw) (w85 hw) (w87 hw) (w86 hw) (nfs rfl (w87 hw)) (by decide) (X5.payM (sf := []) (rmCoder0 hcx s1 h0 X5.old Pr2 Pr3) sf0 (w88 hw) (w6 hw)) Pr2 rfl (sz hml rfl) (argsL := []) (rest := [(.int (0 : Int32))]) (lenOf pd1 rfl) rfl rfl (mroom rfl rfl) (D d17_11) (by decide) (by decide) fun T7 h7 vm7 v7 X7 C7 z7 q7 => ?_
  obtain ⟨rfl, K7⟩ := q7
  rw [K7] at X7 C7
  have A8 := X7.at
  refine Gets.via (fun _ k => (XS.icmpYes A8 hx rfl (pc0 := 14) (pc' := 21) rfl (D d17_14) rfl (Jvm.Free.XT.ii_eq_t (by decide)) (by decide) (by decide) k)) ?_
  exact X7.retV hret (D d17_21) (by decide) (by decide) (fun vmE CE => ⟨rfl, rfl⟩)
abbrev RrmPsaL : Room := { frames := 2, cells := 0, slots := 0, locals := 37 }
def QrmPsaL (Z : State) (x : Addr) (s1 : Addr) (d : Addr) (kd : ClassId) (cs : List Int32) (b : Addr) (kb : ClassId) (ds : List Int32) (h0 : Heap) (v : Option Value) (vm : Vm) (h : Heap) : Prop := v = none ∧ Keep h0 h [d] ∧ Arv Z h d kd .byte (16 : Int32) (((cs ++ ds).map fun c => c.toInt8.toInt32).map Value.int) (.int (0 : Int32))
theorem rmPsaL (hcx : Cx Z a0 zc fm) (x : Addr) (s1 : Addr) (d : Addr) (kd : ClassId) (cs : List Int32) (b : Addr) (kb : ClassId) (ds : List Int32) (h0 : Heap) (O0 : Old Z Z.heap.size h0) (Pr0 : Exa Z h0 x "java/lang/StringBuilder") (Pr1 : Fld Z h0 x "java/lang/AbstractStringBuilder" "value" "[B" (.ref d)) (Pr2 : Fld Z h0 x "java/lang/AbstractStringBuilder" "coder" "B" (.int (0 : Int32))) (Pr3 : Fld Z h0 x "java/lang/AbstractStringBuilder" "count" "I" (.int (Int32.ofNat (cs).length))) (Pr4 : Fld Z h0 x "java/lang/AbstractStringBuilder" "maybeLatin1" "Z" (.int (0 : Int32))) (Pr5 : Arv Z h0 d kd .byte (16 : Int32) ((cs.map fun c => c.toInt8.toInt32).map Value.int) (.int (0 : Int32))) (Pr6 : Str Z h0 s1 b kb ds) (Pr7 : (cs).length + (ds).length ≤ 16) (Pr8 : Z.heap.size ≤ x) (Pr9 : Z.heap.size ≤ d) (Pr10 : x ≠ d) : Met l Z consts_1 (⟨"java/lang/AbstractStringBuilder", "putStringAt", "(ILjava/lang/String;)V"⟩ : MethodName) jdk_68_method_73_code 3 (none) [] RrmPsaL [d] #[(.ref x), (.int (Int32.ofNat (cs).length)), (.ref s1)] h0 (QrmPsaL Z x s1 d kd cs b kb ds h0) := by
  have ⟨hw, hEL, O2, P5, O4, P6, OA, OH, OB⟩ := hcx
  refine Met.start (a0 := a0) (Ls := #[vR x, vI (Int32.ofNat (cs).length), vR s1]) pn16 hEL O0 (fun m => by first | (simp [entryFrame, mkF, argsToLocals, Value.category]; done) | rfl) ?_
  intro p e s m below meth cc T0 vm0 X0 sf0_ hby hml hret hnm
  have hx := X0.hx
  have D : ∀ {n r}, decode B16 n = r → decode cc.code n = r := fun d => hb hby d
  have zz := X0.ge
  have A0 := X0.at
  have l1 := ltA Pr0.lt
  have l2 := ltA Pr5.lt
  have l3 := ltA Pr6.lt
  have l4 := ltA Pr6.lb
  have l5 := neA Pr10
  have s6 := sf0_ d (memI (i := 0) rfl)
  refine Gets.via (fun _ k => (XS.aloadN A0 hx rfl (D d16_0) rfl rfl (XS.aloadN A0 hx rfl (D d16_1) rfl rfl k))) ?_
  refine X0.callP (W := 0) (w101 hw) (w102 hw) (w104 hw) (w103 hw) (w105 hw) (by decide) (X0.payM (sf := []) (rmInf0 hcx x s1 h0 X0.old Pr0 Pr2 Pr6.1 Pr6.2.1) sf0 (w105 hw) (w54 hw)) Pr0 rfl (sz hml rfl) (argsL := [(.ref s1)]) (rest := []) (lenOf pd15 rfl) rfl rfl (mroom rfl rfl) (D d16_2) (by decide) (by decide) fun T7 h7 vm7 v7 X7 C7 z7 q7 => ?_
  obtain ⟨rfl, K7⟩ := q7
  rw [K7] at X7 C7
  have A8 := X7.at
  refine Gets.via (fun _ k => (XS.aloadN A8 hx rfl (D d16_5) rfl rfl (XS.aloadN A8 hx rfl (D d16_6) rfl rfl k))) ?_
  refine X7.getF (host := "") (Or.inl (w58 hw)) Via.refl Pr1 rfl rfl (D d16_7) fun T9 X9 => ?_
  show Gets p e below _ (T9.setTop (mkF m 10 #[vR x, vI (Int32.ofNat (cs).length), vR s1] [(.ref d), (.ref s1)]))
  have A10 := X9.at
  refine Gets.via (fun _ k => (XS.iloadN A10 hx rfl (D d16_10) rfl (XS.aloadN A10 hx rfl (D d16_11) rfl rfl k))) ?_
  refine X9.getF (host := "") (Or.inl (w60 hw)) Via.refl Pr2 rfl rfl (D d16_12) fun T11 X11 => ?_
  have f12 := C7.safe (x := d) (ltA (by omega)) s6
  refine X11.callV (W := 0) (w107 hw) (w108 hw) (w110 hw) (w109 hw) (nfs rfl (w110 hw)) (by decide) (X11.payM (sf := [d]) (rmGb0 hcx s1 d cs b kb ds kd h0 X11.old Pr6 Pr5 Pr7 Pr9) (sfS f12 sf0) (w111 hw) (w6 hw)) Pr6.1 rfl (sz hml rfl) (argsL := [(.ref d), (.int (Int32.ofNat (cs).length)), (.int (0 : Int32))]) (rest := []) (lenOf pd16 rfl) rfl rfl (mroom rfl rfl) (D d16_15) (by decide) (by decide) fun T13 h13 vm13 v13 X13 C13 z13 q13 => ?_
  obtain ⟨rfl, K13, g13_0⟩ := q13
  have l14 := ltA g13_0.lt
  exact X13.retV hret (D d16_18) (by decide) (by decide) (fun vmE CE => ⟨rfl, ((Keep.refl h0 [d]).trans K13 (allS (Or.inl (memI (i := 0) rfl)) all0)), g13_0⟩)
abbrev RrmAapL : Room := { frames := 3, cells := 0, slots := 0, locals := 51 }
def QrmAapL (Z : State) (x : Addr) (s1 : Addr) (d : Addr) (kd : ClassId) (cs : List Int32) (b : Addr) (kb : ClassId) (ds : List Int32) (h0 : Heap) (v : Option Value) (vm : Vm) (h : Heap) : Prop := v = some (.ref x) ∧ Keep h0 h [x, d] ∧ Exa Z h x "java/lang/StringBuilder" ∧ Fld Z h x "java/lang/AbstractStringBuilder" "value" "[B" (.ref d) ∧ Fld Z h x "java/lang/AbstractStringBuilder" "coder" "B" (.int (0 : Int32)) ∧ Fld Z h x "java/lang/AbstractStringBuilder" "count" "I" (.int (Int32.ofNat ((cs ++ ds)).length)) ∧ Fld Z h x "java/lang/AbstractStringBuilder" "maybeLatin1" "Z" (.int (0 : Int32)) ∧ Arv Z h d kd .byte (16 : Int32) (((cs ++ ds).map fun c => c.toInt8.toInt32).map Value.int) (.int (0 : Int32))
theorem rmAapL (hcx : Cx Z a0 zc fm) (x : Addr) (s1 : Addr) (d : Addr) (kd : ClassId) (cs : List Int32) (b : Addr) (kb : ClassId) (ds : List Int32) (h0 : Heap) (O0 : Old Z Z.heap.size h0) (Pr0 : Exa Z h0 x "java/lang/StringBuilder") (Pr1 : Fld Z h0 x "java/lang/AbstractStringBuilder" "value" "[B" (.ref d)) (Pr2 : Fld Z h0 x "java/lang/AbstractStringBuilder" "coder" "B" (.int (0 : Int32))) (Pr3 : Fld Z h0 x "java/lang/AbstractStringBuilder" "count" "I" (.int (Int32.ofNat (cs).length))) (Pr4 : Fld Z h0 x "java/lang/AbstractStringBuilder" "maybeLatin1" "Z" (.int (0 : Int32))) (Pr5 : Arv Z h0 d kd .byte (16 : Int32) ((cs.map fun c => c.toInt8.toInt32).map Value.int) (.int (0 : Int32))) (Pr6 : Str Z h0 s1 b kb ds) (Pr7 : (cs).length + (ds).length ≤ 16) (Pr8 : Z.heap.size ≤ x) (Pr9 : Z.heap.size ≤ d) (Pr10 : x ≠ d) : Met l Z consts_1 (⟨"java/lang/AbstractStringBuilder", "append", "(Ljava/lang/String;)Ljava/lang/AbstractStringBuilder;"⟩ : MethodName) jdk_68_method_22_code 3 (some (.object "java/lang/AbstractStringBuilder")) [] RrmAapL [d] #[(.ref x), (.ref s1)] h0 (QrmAapL Z x s1 d kd cs b kb ds h0) := by
  have ⟨hw, hEL, O2, P5, O4, P6, OA, OH, OB⟩ := hcx
  refine Met.start (a0 := a0) (Ls := #[vR x, vR s1, .unset]) pn12 hEL O0 (fun m => by first | (simp [entryFrame, mkF, argsToLocals, Value.category]; done) | rfl) ?_
  intro p e s m below meth cc T0 vm0 X0 sf0_ hby hml hret hnm
  have hx := X0.hx
  have D : ∀ {n r}, decode B12 n = r → decode cc.code n = r := fun d => hb hby d
  have zz := X0.ge
  have A0 := X0.at
  have l1 := ltA Pr0.lt
  have l2 := ltA Pr5.lt
  have l3 := ltA Pr6.lt
  have l4 := ltA Pr6.lb
  have l5 := neA Pr10
  have s6 := sf0_ d (memI (i := 0) rfl)
  have l4 := Pr6.2.2.2.2.2
  refine Gets.via (fun _ k => (XS.aloadN A0 hx rfl (D d12_0) rfl rfl (XS.ifnonnullYes A0 hx rfl (pc0 := 1) (pc' := 9) rfl (D d12_1) rfl (by decide) (by decide) k))) ?_
  refine Gets.via (fun _ k => (XS.aloadN A0 hx rfl (D d12_9) rfl rfl k)) ?_
  refine X0.callV (W := 0) (w79 hw) (w80 hw) (w82 hw) (w81 hw) (nfs rfl (w82 hw)) (by decide) (X0.payM (sf := []) (rmLen0 hcx s1 b kb ds h0 X0.old Pr6) sf0 (w83 hw) (w6 hw)) Pr6.1 rfl (sz hml rfl) (argsL := []) (rest := []) (lenOf pd17 rfl) rfl rfl (mroom rfl rfl) (D d12_10) (by decide) (by decide) fun T7 h7 vm7 v7 X7 C7 z7 q7 => ?_
  obtain ⟨rfl, K7⟩ := q7
  rw [K7] at X7 C7
  have A8 := X7.at
  refine Gets.via (fun _ k => (XS.istoreN A8 hx rfl (D d12_13) rfl (l' := #[vR x, vR s1, vI (Int32.ofNat (ds).length)]) rfl (XS.aloadN A8 hx rfl (D d12_14) rfl rfl (XS.aloadN A8 hx rfl (D d12_15) rfl rfl k)))) ?_
  show Gets p e below _ (T7.setTop (mkF m 16 #[vR x, vR s1, vI (Int32.ofNat (ds).length)] [(.ref x), (.ref x)]))
  refine X7.getF (host := "") (Or.inl (w89 hw)) Via.refl Pr3 rfl rfl (D d12_16) fun T9 X9 => ?_
  have A10 := X9.at
  refine Gets.via (fun _ k => (XS.iloadN A10 hx rfl (D d12_19) rfl (XS.iadd A10 hx rfl (D d12_20) rfl k))) ?_
  show Gets p e below _ (T9.setTop (mkF m 21 #[vR x, vR s1, vI (Int32.ofNat (ds).length)] [(.int ((Int32.ofNat (cs).length) + (Int32.ofNat (ds).length))), (.ref x)]))
  rw [of_add]
  refine X9.callP (W := 0) (w91 hw) (w92 hw) (w94 hw) (w93 hw) (w95 hw) (by decide) (X9.payM (sf := []) (rmEns0 hcx x ((cs).length + (ds).length) d kd ((cs.map fun c => c.toInt8.toInt32).map Value.int) h0 X9.old Pr0 Pr1 Pr2 Pr5 (by omega)) sf0 (w95 hw) (w54 hw)) Pr0 rfl (sz hml rfl) (argsL := [(.int (Int32.ofNat ((cs).length + (ds).length)))]) (rest := []) (lenOf pd14 rfl) rfl rfl (mroom rfl rfl) (D d12_21) (by decide) (by decide) fun T11 h11 vm11 v11 X11 C11 z11 q11 => ?_
  obtain ⟨rfl, K11⟩ := q11
  rw [K11] at X11 C11
  have A12 := X11.at
  refine Gets.via (fun _ k => (XS.aloadN A12 hx rfl (D d12_24) rfl rfl (XS.aloadN A12 hx rfl (D d12_25) rfl rfl k))) ?_
  refine X11.getF (host := "") (Or.inl (w89 hw)) Via.refl Pr3 rfl rfl (D d12_26) fun T13 X13 => ?_
  have A14 := X13.at
  refine Gets.via (fun _ k => (XS.aloadN A14 hx rfl (D d12_29) rfl rfl k)) ?_
  show Gets p e below _ (T13.setTop (mkF m 30 #[vR x, vR s1, vI (Int32.ofNat (ds).length)] [(.ref s1), (.int (Int32.ofNat (cs).length)), (.ref x)]))
  have f15 := C7.safe (x := d) (ltA (by omega)) s6
  have f16 := C11.safe (x := d) (ltA (by omega)) f15
  refine X13.callP (W := 0) (w96 hw) (w97 hw) (w99 hw) (w98 hw) (w100 hw) (by decide) (X13.payM (sf := [d]) (rmPsaL hcx x s1 d kd cs b kb ds h0 X13.old Pr0 Pr1 Pr2 Pr3 Pr4 Pr5 Pr6 Pr7 Pr8 Pr9 Pr10) (sfS f16 sf0) (w100 hw) (w54 hw)) Pr0 rfl (sz hml rfl) (argsL := [(.int (Int32.ofNat (cs).length)), (.ref s1)]) (rest := []) (lenOf pd18 rfl) rfl rfl (mroom rfl rfl) (D d12_30) (by decide) (by decide) fun T17 h17 vm17 v17 X17 C17 z17 q17 => ?_
  obtain ⟨rfl, K17, g17_0⟩ := q17
  have l18 := ltA g17_0.lt
  have A19 := X17.at
  refine Gets.via (fun _ k => (XS.aloadN A19 hx rfl (D d12_33) rfl rfl (XS.dup A19 hx rfl (D d12_34) rfl rfl k))) ?_
  have f21 := Pr3.keep K17 (ninS (neA (by omega)) nin0)
  refine X17.getF (host := "") (Or.inl (w89 hw)) Via.refl f21 rfl rfl (D d12_35) fun T20 X20 => ?_
  have A22 := X20.at
  refine Gets.via (fun _ k => (XS.iloadN A22 hx rfl (D d12_38) rfl (XS.iadd A22 hx rfl (D d12_39) rfl k))) ?_
  show Gets p e below _ (T20.setTop (mkF m 40 #[vR x, vR s1, vI (Int32.ofNat (ds).length)] [(.int ((Int32.ofNat (cs).length) + (Int32.ofNat (ds).length))), (.ref x)]))
  rw [of_add, ← List.length_append]
  have f24 := Pr0.keep K17
  refine X20.putF (host := "") (Or.inl (w89 hw)) Via.refl f21 f24 (Or.inl (w90 hw)) (w45 hw) (ty := .int) (by decide) rfl rfl (leA (by omega)) (Safe.exa X20.hZ.alike f24 (by decide) (by decide)) rfl rfl (D d12_40) fun T23 h23 X23 C23 W23 F23 Z23 => ?_
  have z23 := W23.size
  have A25 := X23.at
  refine Gets.via (fun _ k => (XS.aloadN A25 hx rfl (D d12_43) rfl rfl k)) ?_
  have f26 := Pr1.keep K17 (ninS (neA (by omega)) nin0)
  have f27 := f26.other W23 (Or.inr (slot_ne (t := (.array .byte)) (t' := .int) (Or.inl (w59 hw)) (Or.inl (w90 hw)) (by decide) (by decide) (by decide)))
  have f28 := Pr2.keep K17 (ninS (neA (by omega)) nin0)
  have f29 := f28.other W23 (Or.inr (slot_ne (t := .byte) (t' := .int) (Or.inl (w61 hw)) (Or.inl (w90 hw)) (by decide) (by decide) (by decide)))
  have f30 := Pr4.keep K17 (ninS (neA (by omega)) nin0)
  have f31 := f30.other W23 (Or.inr (slot_ne (t := .boolean) (t' := .int) (Or.inl (w259 hw)) (Or.inl (w90 hw)) (by decide) (by decide) (by decide)))
  have f32 := g17_0.other W23 (neA (by omega))
  exact X23.retA hret rfl rfl rfl (D d12_44) (by decide) (by decide) (fun vmE CE => ⟨rfl, (((Keep.refl h0 [x, d]).trans K17 (allS (Or.inl (memI (i := 1) rfl)) all0)).wr W23 (Or.inl (memI (i := 0) rfl))), Z23, f27, f29, F23, f31, f32⟩)
abbrev RrmAppL : Room := { frames := 4, cells := 0, slots := 0, locals := 65 }
def QrmAppL (Z : State) (x : Addr) (s1 : Addr) (d : Addr) (kd : ClassId) (cs : List Int32) (b : Addr) (kb : ClassId) (ds : List Int32) (h0 : Heap) (v : Option Value) (vm : Vm) (h : Heap) : Prop := v = some (.ref x) ∧ Keep h0 h [x, d] ∧ Exa Z h x "java/lang/StringBuilder" ∧ Fld Z h x "java/lang/AbstractStringBuilder" "value" "[B" (.ref d) ∧ Fld Z h x "java/lang/AbstractStringBuilder" "coder" "B" (.int (0 : Int32)) ∧ Fld Z h x "java/lang/AbstractStringBuilder" "count" "I" (.int (Int32.ofNat ((cs ++ ds)).length)) ∧ Fld Z h x "java/lang/AbstractStringBuilder" "maybeLatin1" "Z" (.int (0 : Int32)) ∧ Arv Z h d kd .byte (16 : Int32) (((cs ++ ds).map fun c => c.toInt8.toInt32).map Value.int) (.int (0 : Int32))
theorem rmAppL (hcx : Cx Z a0 zc fm) (x : Addr) (s1 : Addr) (d : Addr) (kd : ClassId) (cs : List Int32) (b : Addr) (kb : ClassId) (ds : List Int32) (h0 : Heap) (O0 : Old Z Z.heap.size h0) (Pr0 : Exa Z h0 x "java/lang/StringBuilder") (Pr1 : Fld Z h0 x "java/lang/AbstractStringBuilder" "value" "[B" (.ref d)) (Pr2 : Fld Z h0 x "java/lang/AbstractStringBuilder" "coder" "B" (.int (0 : Int32))) (Pr3 : Fld Z h0 x "java/lang/AbstractStringBuilder" "count" "I" (.int (Int32.ofNat (cs).length))) (Pr4 : Fld Z h0 x "java/lang/AbstractStringBuilder" "maybeLatin1" "Z" (.int (0 : Int32))) (Pr5 : Arv Z h0 d kd .byte (16 : Int32) ((cs.map fun c => c.toInt8.toInt32).map Value.int) (.int (0 : Int32))) (Pr6 : Str Z h0 s1 b kb ds) (Pr7 : (cs).length + (ds).length ≤ 16) (Pr8 : Z.heap.size ≤ x) (Pr9 : Z.heap.size ≤ d) (Pr10 : x ≠ d) : Met l Z consts_1 (⟨"java/lang/StringBuilder", "append", "(Ljava/lang/String;)Ljava/lang/StringBuilder;"⟩ : MethodName) jdk_67_method_7_code 2 (some (.object "java/lang/StringBuilder")) [] RrmAppL [d] #[(.ref x), (.ref s1)] h0 (QrmAppL Z x s1 d kd cs b kb ds h0) := by
  have ⟨hw, hEL, O2, P5, O4, P6, OA, OH, OB⟩ := hcx
  refine Met.start (a0 := a0) (Ls := #[vR x, vR s1]) pn11 hEL O0 (fun m => by first | (simp [entryFrame, mkF, argsToLocals, Value.category]; done) | rfl) ?_
  intro p e s m below meth cc T0 vm0 X0 sf0_ hby hml hret hnm
  have hx := X0.hx
  have D : ∀ {n r}, decode B11 n = r → decode cc.code n = r := fun d => hb hby d
  have zz := X0.ge
  have A0 := X0.at
  have l1 := ltA Pr0.lt
  have l2 := ltA Pr5.lt
  have l3 := ltA Pr6.lt
  have l4 := ltA Pr6.lb
  have l5 := neA Pr10
  have s6 := sf0_ d (memI (i := 0) rfl)
  refine Gets.via (fun _ k => (XS.aloadN A0 hx rfl (D d11_0) rfl rfl (XS.aloadN A0 hx rfl (D d11_1) rfl rfl k))) ?_
  refine X0.callU (W := 0) (by decide) (w74 hw) (same_self (w75 hw) (w94 hw) rfl (by decide)) (w75 hw) (w76 hw) (w78 hw) (X0.payM (sf := [d]) (rmAapL hcx x s1 d kd cs b kb ds h0 X0.old Pr0 Pr1 Pr2 Pr3 Pr4 Pr5 Pr6 Pr7 Pr8 Pr9 Pr10) (sfS s6 sf0) (w78 hw) (w54 hw)) Pr0 rfl (sz hml rfl) (argsL := [(.ref s1)]) (rest := []) (lenOf pd19 rfl) rfl rfl (mroom rfl rfl) (D d11_2) (by decide) (by decide) fun T7 h7 vm7 v7 X7 C7 z7 q7 => ?_
  obtain ⟨rfl, K7, g7_0, g7_1, g7_2, g7_3, g7_4, g7_5⟩ := q7
  have l8 := ltA g7_0.lt
  have l9 := ltA g7_5.lt
  have A10 := X7.at
  refine Gets.via (fun _ k => (XS.pop A10 hx rfl (D d11_5) rfl rfl (XS.aloadN A10 hx rfl (D d11_6) rfl rfl k))) ?_
  exact X7.retA hret rfl rfl rfl (D d11_7) (by decide) (by decide) (fun vmE CE => ⟨rfl, ((Keep.refl h0 [x, d]).trans K7 (allS (Or.inl (memI (i := 0) rfl)) (allS (Or.inl (memI (i := 1) rfl)) all0))), g7_0, g7_1, g7_2, g7_3, g7_4, g7_5⟩)
abbrev RrmInf1 : Room := { frames := 1, cells := 0, slots := 0, locals := 13 }
def QrmInf1 (Z : State) (x : Addr) (s1 : Addr) (h0 : Heap) (v : Option Value) (vm : Vm) (h : Heap) : Prop := v = none ∧ h = h0
theorem rmInf1 (hcx : Cx Z a0 zc fm) (x : Addr) (s1 : Addr) (h0 : Heap) (O0 : Old Z Z.heap.size h0) (Pr0 : Exa Z h0 x "java/lang/StringBuilder") (Pr1 : Fld Z h0 x "java/lang/AbstractStringBuilder" "coder" "B" (.int (1 : Int32))) (Pr2 : Exa Z h0 s1 "java/lang/String") (Pr3 : Fld Z h0 s1 "java/lang/String" "coder" "B" (.int (1 : Int32))) : Met l Z consts_1 (⟨"java/lang/AbstractStringBuilder", "inflateIfNeededFor", "(Ljava/lang/String;)V"⟩ : MethodName) jdk_68_method_71_code 2 (none) [] RrmInf1 [] #[(.ref x), (.ref s1)] h0 (QrmInf1 Z x s1 h0) := by
  have ⟨hw, hEL, O2, P5, O4, P6, OA, OH, OB⟩ := hcx
  refine Met.start (a0 := a0) (Ls := #[vR x, vR s1]) pn17 hEL O0 (fun m => by first | (simp [entryFrame, mkF, argsToLocals, Value.category]; done) | rfl) ?_
  intro p e s m below meth cc T0 vm0 X0 sf0_ hby hml hret hnm
  have hx := X0.hx
  have D : ∀ {n r}, decode B17 n = r → decode cc.code n = r := fun d => hb hby d
  have zz := X0.ge
  have A0 := X0.at
  have l1 := ltA Pr0.lt
  have l2 := ltA Pr2.lt
  refine X0.getS (host := "") (Or.inl (w57 hw)) Via.refl (X0.sta O2) rfl (D d17_0) fun T3 X3 => ?_
  have A4 := X3.at
  refine Gets.via (fun _ k => (XS.ifNo A4 hx rfl (D d17_3) rfl (Jvm.Free.XT.i0_eq_f P5) k)) ?_
  refine Gets.via (fun _ k => (XS.aloadN A4 hx rfl (D d17_6) rfl rfl k)) ?_
  refine X3.getF (host := "") (Or.inl (w60 hw)) Via.refl Pr1 rfl rfl (D d17_7) fun T5 X5 => ?_
  have A6 := X5.at
  refine Gets.via (fun _ k => (XS.aloadN A6 hx rfl (D d17_10) rfl rfl k)) ?_
  show Gets p e below _ (T5.setTop (mkF m 11 #[vR x, vR s1] [(.ref s1), (.int (1 : Int32))]))
  refine X5.callV (W := 1) (w106 hw) (w85 hw) (w87 hw) (w86 hw) (nfs rfl (w87 hw)) (by decide) (X5.payM (sf := []) (rmCoder1 hcx s1 h0 X5.old Pr2 Pr3) sf0 (w88 hw) (w6 hw)) Pr2 rfl (sz hml rfl) (argsL := []) (rest := [(.int (1 : Int32))]) (lenOf pd1 rfl) rfl rfl (mroom rfl rfl) (D d17_11) (by decide) (by decide) fun T7 h7 vm7 v7 X7 C7 z7 q7 => ?_
  obtain ⟨rfl, K7⟩ := q7
  rw [K7] at X7 C7
  have A8 := X7.at
  refine Gets.via (fun _ k => (XS.icmpYes A8 hx rfl (pc0 := 14) (pc' := 21) rfl (D d17_14) rfl (Jvm.Free.XT.ii_eq_t (by decide)) (by decide) (by decide) k)) ?_
  exact X7.retV hret (D d17_21) (by decide) (by decide) (fun vmE CE => ⟨rfl, rfl⟩)
abbrev RrmGv0 : Room := { frames := 0, cells := 0, slots := 0, locals := 0 }
def QrmGv0 (Z : State) (z : Addr) (d : Addr) (h0 : Heap) (v : Option Value) (vm : Vm) (h : Heap) : Prop := v = some (.ref d) ∧ h = h0
theorem rmGv0 (hcx : Cx Z a0 zc fm) (z : Addr) (d : Addr) (h0 : Heap) (O0 : Old Z Z.heap.size h0) (Pr0 : Exa Z h0 z "java/lang/StringBuilder") (Pr1 : Fld Z h0 z "java/lang/AbstractStringBuilder" "value" "[B" (.ref d)) : Met l Z consts_1 (⟨"java/lang/AbstractStringBuilder", "getValue", "()[B"⟩ : MethodName) jdk_68_method_64_code 1 (some (.array .byte)) [] RrmGv0 [] #[(.ref z)] h0 (QrmGv0 Z z d h0) := by
  have ⟨hw, hEL, O2, P5, O4, P6, OA, OH, OB⟩ := hcx
  refine Met.start (a0 := a0) (Ls := #[vR z]) pn28 hEL O0 (fun m => by first | (simp [entryFrame, mkF, argsToLocals, Value.category]; done) | rfl) ?_
  intro p e s m below meth cc T0 vm0 X0 sf0_ hby hml hret hnm
  have hx := X0.hx
  have D : ∀ {n r}, decode B28 n = r → decode cc.code n = r := fun d => hb hby d
  have zz := X0.ge
  have A0 := X0.at
  have l1 := ltA Pr0.lt
  refine Gets.via (fun _ k => (XS.aloadN A0 hx rfl (D d28_0) rfl rfl k)) ?_
  refine X0.getF (host := "") (Or.inl (w58 hw)) Via.refl Pr1 rfl rfl (D d28_1) fun T2 X2 => ?_
  exact X2.retA hret rfl rfl rfl (D d28_4) (by decide) (by decide) (fun vmE CE => ⟨rfl, rfl⟩)
abbrev RrmAl : Room := { frames := 0, cells := 0, slots := 0, locals := 0 }
def QrmAl (Z : State) (z : Addr) (n : Int32) (h0 : Heap) (v : Option Value) (vm : Vm) (h : Heap) : Prop := v = some (.int n) ∧ h = h0
theorem rmAl (hcx : Cx Z a0 zc fm) (z : Addr) (n : Int32) (h0 : Heap) (O0 : Old Z Z.heap.size h0) (Pr0 : Exa Z h0 z "java/lang/StringBuilder") (Pr1 : Fld Z h0 z "java/lang/AbstractStringBuilder" "count" "I" (.int n)) : Met l Z consts_1 (⟨"java/lang/AbstractStringBuilder", "length", "()I"⟩ : MethodName) jdk_68_method_6_code 1 (some .int) [] RrmAl [] #[(.ref z)] h0 (QrmAl Z z n h0) := by
  have ⟨hw, hEL, O2, P5, O4, P6, OA, OH, OB⟩ := hcx
  refine Met.start (a0 := a0) (Ls := #[vR z]) pn30 hEL O0 (fun m => by first | (simp [entryFrame, mkF, argsToLocals, Value.category]; done) | rfl) ?_
  intro p e s m below meth cc T0 vm0 X0 sf0_ hby hml hret hnm
  have hx := X0.hx
  have D : ∀ {n r}, decode B30 n = r → decode cc.code n = r := fun d => hb hby d
  have zz := X0.ge
  have A0 := X0.at
  have l1 := ltA Pr0.lt
  refine Gets.via (fun _ k => (XS.aloadN A0 hx rfl (D d30_0) rfl rfl k)) ?_
  refine X0.getF (host := "") (Or.inl (w89 hw)) Via.refl Pr1 rfl rfl (D d30_1) fun T2 X2 => ?_
  exact X2.retI hret rfl (by simp) (D d30_4) (by decide) (by decide) (fun vmE CE => ⟨rfl, rfl⟩)
abbrev RrmSl : Room := { frames := 1, cells := 0, slots := 0, locals := 12 }
def QrmSl (Z : State) (z : Addr) (n : Int32) (h0 : Heap) (v : Option Value) (vm : Vm) (h : Heap) : Prop := v = some (.int n) ∧ h = h0
theorem rmSl (hcx : Cx Z a0 zc fm) (z : Addr) (n : Int32) (h0 : Heap) (O0 : Old Z Z.heap.size h0) (Pr0 : Exa Z h0 z "java/lang/StringBuilder") (Pr1 : Fld Z h0 z "java/lang/AbstractStringBuilder" "count" "I" (.int n)) : Met l Z consts_1 (⟨"java/lang/StringBuilder", "length", "()I"⟩ : MethodName) jdk_67_method_93_code 1 (some .int) [] RrmSl [] #[(.ref z)] h0 (QrmSl Z z n h0) := by
  have ⟨hw, hEL, O2, P5, O4, P6, OA, OH, OB⟩ := hcx
  refine Met.start (a0 := a0) (Ls := #[vR z]) pn29 hEL O0 (fun m => by first | (simp [entryFrame, mkF, argsToLocals, Value.category]; done) | rfl) ?_
  intro p e s m below meth cc T0 vm0 X0 sf0_ hby hml hret hnm
  have hx := X0.hx
  have D : ∀ {n r}, decode B29 n = r → decode cc.code n = r := fun d => hb hby d
  have zz := X0.ge
  have A0 := X0.at
  have l1 := ltA Pr0.lt
  refine Gets.via (fun _ k => (XS.aloadN A0 hx rfl (D d29_0) rfl rfl k)) ?_
  refine X0.callU (W := 0) (by decide) (w168 hw) (same_self (w164 hw) (w94 hw) rfl (by decide)) (w164 hw) (w76 hw) (w169 hw) (X0.payM (sf := []) (rmAl hcx z n h0 X0.old Pr0 Pr1) sf0 (w169 hw) (w54 hw)) Pr0 rfl (sz hml rfl) (argsL := []) (rest := []) (lenOf pd17 rfl) rfl rfl (mroom rfl rfl) (D d29_1) (by decide) (by decide) fun T2 h2 vm2 v2 X2 C2 z2 q2 => ?_
  obtain ⟨rfl, K2⟩ := q2
  rw [K2] at X2 C2
  exact X2.retI hret rfl (by simp) (D d29_4) (by decide) (by decide) (fun vmE CE => ⟨rfl, rfl⟩)
abbrev RrmTs4_0 : Room := { frames := 3, cells := 1, slots := 16, locals := 53 }
def QrmTs4_0 (Z : State) (x : Addr) (z : Addr) (d : Addr) (kd : ClassId) (cs : List Int32) (h0 : Heap) (v : Option Value) (vm : Vm) (h : Heap) : Prop := ∃ (t : Addr) (kt : ClassId), v = none ∧ Keep h0 h [x] ∧ Str Z h x t kt cs
theorem rmTs4_0 (hcx : Cx Z a0 zc fm) (x : Addr) (z : Addr) (d : Addr) (kd : ClassId) (cs : List Int32) (h0 : Heap) (O0 : Old Z Z.heap.size h0) (Pr0 : Exa Z h0 x "java/lang/String") (Pr1 : Fld Z h0 x "java/lang/String" "coder" "B" (.int (0 : Int32))) (Pr2 : Fld Z h0 x "java/lang/String" "value" "[B" .null) (Pr3 : Z.heap.size ≤ x) (Pr4 : Exa Z h0 z "java/lang/StringBuilder") (Pr5 : Fld Z h0 z "java/lang/AbstractStringBuilder" "value" "[B" (.ref d)) (Pr6 : Fld Z h0 z "java/lang/AbstractStringBuilder" "coder" "B" (.int (0 : Int32))) (Pr7 : Fld Z h0 z "java/lang/AbstractStringBuilder" "count" "I" (.int (Int32.ofNat (cs).length))) (Pr8 : Fld Z h0 z "java/lang/AbstractStringBuilder" "maybeLatin1" "Z" (.int (0 : Int32))) (Pr9 : Arv Z h0 d kd .byte (16 : Int32) ((cs.map fun c => c.toInt8.toInt32).map Value.int) (.int (0 : Int32))) (Pr10 : d ≠ x) (Pr11 : (cs).length ≤ 8) (Pr12 : ∀ z_ ∈ cs, ¬ z_ < 0 ∧ ¬ (255 : Int32) < z_) : Met l Z consts_1 (⟨"java/lang/String", "<init>", "(Ljava/lang/AbstractStringBuilder;Ljava/lang/Void;)V"⟩ : MethodName) jdk_42_method_150_code 5 (none) [] RrmTs4_0 [x] #[(.ref x), (.ref z), .null] h0 (QrmTs4_0 Z x z d kd cs h0) := by
  have ⟨hw, hEL, O2, P5, O4, P6, OA, OH, OB⟩ := hcx
  refine Met.start (a0 := a0) (Ls := #[vR x, vR z, .val .null, .unset, .unset]) pn27 hEL O0 (fun m => by first | (simp [entryFrame, mkF, argsToLocals, Value.category]; done) | rfl) ?_
  intro p e s m below meth cc T0 vm0 X0 sf0_ hby hml hret hnm
  have hx := X0.hx
  have D : ∀ {n r}, decode B27 n = r → decode cc.code n = r := fun d => hb hby d
  have zz := X0.ge
  have A0 := X0.at
  have l1 := ltA Pr0.lt
  have l2 := ltA Pr4.lt
  have l3 := ltA Pr9.lt
  have l4 := neA Pr10
  have s5 := sf0_ x (memI (i := 0) rfl)
  refine Gets.via (fun _ k => (XS.aloadN A0 hx rfl (D d27_0) rfl rfl k)) ?_
  refine X0.objInit (w15 hw) (w16 hw) (w17 hw) rfl (sz hml rfl) rfl (D d27_1) (by decide) (W := 0) (mroom rfl rfl) (by decide) fun T6 X6 => ?_
  have A7 := X6.at
  refine Gets.via (fun _ k => (XS.aloadN A7 hx rfl (D d27_4) rfl rfl k)) ?_
  refine X6.callV (W := 0) (w157 hw) (w158 hw) (w160 hw) (w159 hw) (nfs rfl (w160 hw)) (by decide) (X6.payM (sf := []) (rmGv0 hcx z d h0 X6.old Pr4 Pr5) sf0 (w161 hw) (w54 hw)) Pr4 rfl (sz hml rfl) (argsL := []) (rest := []) (lenOf pd20 rfl) rfl rfl (mroom rfl rfl) (D d27_5) (by decide) (by decide) fun T8 h8 vm8 v8 X8 C8 z8 q8 => ?_
  obtain ⟨rfl, K8⟩ := q8
  rw [K8] at X8 C8
  have A9 := X8.at
  refine Gets.via (fun _ k => (XS.astoreN A9 hx rfl (D d27_8) rfl rfl (l' := #[vR x, vR z, .val .null, vR d, .unset]) rfl (XS.aloadN A9 hx rfl (D d27_9) rfl rfl k))) ?_
  show Gets p e below _ (T8.setTop (mkF m 10 #[vR x, vR z, .val .null, vR d, .unset] [(.ref z)]))
  refine X8.callV (W := 0) (w162 hw) (w163 hw) (w165 hw) (w166 hw) (nfs2 (y := (⟨"java/lang/AbstractStringBuilder", "length", "()I"⟩ : MethodName)) (w94 hw) rfl) (by decide) (X8.payM (sf := []) (rmSl hcx z (Int32.ofNat (cs).length) h0 X8.old Pr4 Pr7) sf0 (w167 hw) (w46 hw)) Pr4 rfl (sz hml rfl) (argsL := []) (rest := []) (lenOf pd17 rfl) rfl rfl (mroom rfl rfl) (D d27_10) (by decide) (by decide) fun T10 h10 vm10 v10 X10 C10 z10 q10 => ?_
  obtain ⟨rfl, K10⟩ := q10
  rw [K10] at X10 C10
  have A11 := X10.at
  refine Gets.via (fun _ k => (XS.istore A11 hx rfl (D d27_13) rfl (l' := #[vR x, vR z, .val .null, vR d, vI (Int32.ofNat (cs).length)]) rfl (XS.aloadN A11 hx rfl (D d27_15) rfl rfl k))) ?_
  refine X10.callV (W := 0) (w170 hw) (w132 hw) (w134 hw) (w133 hw) (nfs rfl (w134 hw)) (by decide) (X10.payM (sf := []) (rmSbL0 hcx z h0 X10.old Pr4 Pr6) sf0 (w135 hw) (w54 hw)) Pr4 rfl (sz hml rfl) (argsL := []) (rest := []) (lenOf pd21 rfl) rfl rfl (mroom rfl rfl) (D d27_16) (by decide) (by decide) fun T12 h12 vm12 v12 X12 C12 z12 q12 => ?_
  obtain ⟨rfl, K12⟩ := q12
  rw [K12] at X12 C12
  have A13 := X12.at
  refine Gets.via (fun _ k => (XS.ifNo A13 hx rfl (D d27_19) rfl (Jvm.Free.XT.i0_eq_f (by decide)) k)) ?_
  refine Gets.via (fun _ k => (XS.aloadN A13 hx rfl (D d27_22) rfl rfl (XS.iconst A13 hx rfl (D d27_23) k))) ?_
  have f15 := C8.safe (x := x) (ltA (by omega)) s5
  have f16 := C10.safe (x := x) (ltA (by omega)) f15
  have f17 := C12.safe (x := x) (ltA (by omega)) f16
  refine X12.putF (host := "") (Or.inl (w30 hw)) Via.refl Pr1 Pr0 (Or.inr ⟨(w31 hw), rfl, hnm⟩) (w5 hw) (ty := .byte) (by decide) (by decide) (by decide) (leA (by omega)) f17 rfl rfl (D d27_24) fun T14 h14 X14 C14 W14 F14 Z14 => ?_
  have z14 := W14.size
  show Gets p e below _ (T14.setTop (mkF m 27 #[vR x, vR z, .val .null, vR d, vI (Int32.ofNat (cs).length)] []))
  have A18 := X14.at
  refine Gets.via (fun _ k => (XS.aloadN A18 hx rfl (D d27_27) rfl rfl (XS.aloadN A18 hx rfl (D d27_28) rfl rfl (XS.iconst A18 hx rfl (D d27_29) (XS.iload A18 hx rfl (D d27_30) rfl k))))) ?_
  have f19 := Pr9.other W14 (neA (by omega))
  refine X14.callS (W := 1) (w171 hw) (w172 hw) (w173 hw) (w174 hw) (by decide) (X14.payM (sf := []) (rmCr hcx d kd 16 ((cs.map fun c => c.toInt8.toInt32).map Value.int) 0 ((cs).length) h14 X14.old f19 (by omega) (by omega) (by decide) (by omega) (by omega)) sf0 (w174 hw) (w173 hw)) rfl (sz hml rfl) (argsL := [(.ref d), (.int (0 : Int32)), (.int (Int32.ofNat (cs).length))]) (rest := [(.ref x)]) (lenOf pd6 rfl) rfl rfl (mroom rfl rfl) (D d27_32) (by decide) (by decide) fun T20 h20 vm20 v20 X20 C20 z20 q20 => ?_
  obtain ⟨t20, kt20, rfl, K20, g20_0, g20_1⟩ := q20
  have l21 := ltA g20_0.lt
  have f23 := Pr2.other W14 (Or.inr (slot_ne (t := (.array .byte)) (t' := .byte) (Or.inr (w33 hw)) (Or.inr (w31 hw)) (by decide) (by decide) (by decide)))
  have f24 := f23.keep K20 nin0
  have f25 := Z14.keep K20
  have f26 := C14.safe (x := x) (ltA (by omega)) f17
  have f27 := C20.safe (x := x) (ltA (by omega)) f26
  refine X20.putF (host := "") (Or.inl (w32 hw)) Via.refl f24 f25 (Or.inr ⟨(w33 hw), rfl, hnm⟩) (w5 hw) (ty := (.array .byte)) (by decide) rfl rfl (leA (by omega)) f27 rfl rfl (D d27_35) fun T22 h22 X22 C22 W22 F22 Z22 => ?_
  have z22 := W22.size
  have A28 := X22.at
  refine Gets.via (fun _ k => (XS.goto A28 hx rfl (pc0 := 38) (pc' := 97) rfl (D d27_38) (by decide) (by decide) k)) ?_
  have f29 := F14.keep K20 nin0
  have f30 := f29.other W22 (Or.inr (slot_ne (t := .byte) (t' := (.array .byte)) (Or.inr (w31 hw)) (Or.inr (w33 hw)) (by decide) (by decide) (by decide)))
  have f31 := g20_0.other W22 (neA (by omega))
  have eS : slcV ((cs.map fun c => c.toInt8.toInt32).map Value.int) 0 (cs).length = ((cs.map fun c => c.toInt8.toInt32).map Value.int) := (by_len cs ▸ slc_all0 ((cs.map fun c => c.toInt8.toInt32).map Value.int))
  have SU : Str Z h22 x t20 kt20 cs := ⟨Z22, f30, F22, eS ▸ f31, Pr12, by omega⟩
  exact X22.retV hret (D d27_97) (by decide) (by decide) (fun vmE CE => ⟨t20, kt20, rfl, ((((Keep.refl h0 [x]).wr W14 (Or.inl (memI (i := 0) rfl))).trans K20 all0).wr W22 (Or.inl (memI (i := 0) rfl))), SU⟩)
abbrev RrmTs1_0 : Room := { frames := 4, cells := 1, slots := 16, locals := 69 }
def QrmTs1_0 (Z : State) (x : Addr) (z : Addr) (d : Addr) (kd : ClassId) (cs : List Int32) (h0 : Heap) (v : Option Value) (vm : Vm) (h : Heap) : Prop := ∃ (t : Addr) (kt : ClassId), v = none ∧ Keep h0 h [x] ∧ Str Z h x t kt cs
theorem rmTs1_0 (hcx : Cx Z a0 zc fm) (x : Addr) (z : Addr) (d : Addr) (kd : ClassId) (cs : List Int32) (h0 : Heap) (O0 : Old Z Z.heap.size h0) (Pr0 : Exa Z h0 x "java/lang/String") (Pr1 : Fld Z h0 x "java/lang/String" "coder" "B" (.int (0 : Int32))) (Pr2 : Fld Z h0 x "java/lang/String" "value" "[B" .null) (Pr3 : Z.heap.size ≤ x) (Pr4 : Exa Z h0 z "java/lang/StringBuilder") (Pr5 : Fld Z h0 z "java/lang/AbstractStringBuilder" "value" "[B" (.ref d)) (Pr6 : Fld Z h0 z "java/lang/AbstractStringBuilder" "coder" "B" (.int (0 : Int32))) (Pr7 : Fld Z h0 z "java/lang/AbstractStringBuilder" "count" "I" (.int (Int32.ofNat (cs).length))) (Pr8 : Fld Z h0 z "java/lang/AbstractStringBuilder" "maybeLatin1" "Z" (.int (0 : Int32))) (Pr9 : Arv Z h0 d kd .byte (16 : Int32) ((cs.map fun c => c.toInt8.toInt32).map Value.int) (.int (0 : Int32))) (Pr10 : d ≠ x) (Pr11 : (cs).length ≤ 8) (Pr12 : ∀ z_ ∈ cs, ¬ z_ < 0 ∧ ¬ (255 : Int32) < z_) : Met l Z consts_1 (⟨"java/lang/String", "<init>", "(Ljava/lang/StringBuilder;)V"⟩ : MethodName) jdk_42_method_53_code 2 (none) [] RrmTs1_0 [x] #[(.ref x), (.ref z)] h0 (QrmTs1_0 Z x z d kd cs h0) := by
  have ⟨hw, hEL, O2, P5, O4, P6, OA, OH, OB⟩ := hcx
  refine Met.start (a0 := a0) (Ls := #[vR x, vR z]) pn26 hEL O0 (fun m => by first | (simp [entryFrame, mkF, argsToLocals, Value.category]; done) | rfl) ?_
  intro p e s m below meth cc T0 vm0 X0 sf0_ hby hml hret hnm
  have hx := X0.hx
  have D : ∀ {n r}, decode B26 n = r → decode cc.code n = r := fun d => hb hby d
  have zz := X0.ge
  have A0 := X0.at
  have l1 := ltA Pr0.lt
  have l2 := ltA Pr4.lt
  have l3 := ltA Pr9.lt
  have l4 := neA Pr10
  have s5 := sf0_ x (memI (i := 0) rfl)
  refine Gets.via (fun _ k => (XS.aloadN A0 hx rfl (D d26_0) rfl rfl (XS.aloadN A0 hx rfl (D d26_1) rfl rfl (XS.aconstNull A0 hx rfl (D d26_2) k)))) ?_
  refine X0.callI (y := (⟨"java/lang/String", "<init>", "(Ljava/lang/AbstractStringBuilder;Ljava/lang/Void;)V"⟩ : MethodName)) (W := 0) rfl (w154 hw) (w155 hw) (w156 hw) (by decide) (X0.payM (sf := [x]) (rmTs4_0 hcx x z d kd cs h0 X0.old Pr0 Pr1 Pr2 Pr3 Pr4 Pr5 Pr6 Pr7 Pr8 Pr9 Pr10 Pr11 Pr12) (sfS s5 sf0) (w156 hw) (w6 hw)) rfl (sz hml rfl) (a := x) (argsL := [(.ref z), .null]) (rest := []) (lenOf pd22 rfl) rfl rfl (mroom rfl rfl) (D d26_3) (by decide) (by decide) fun T6 h6 vm6 v6 X6 C6 z6 q6 => ?_
  obtain ⟨t6, kt6, rfl, K6, g6_0⟩ := q6
  have l7 := ltA g6_0.lt
  have l8 := ltA g6_0.lb
  exact X6.retV hret (D d26_6) (by decide) (by decide) (fun vmE CE => ⟨t6, kt6, rfl, ((Keep.refl h0 [x]).trans K6 (allS (Or.inl (memI (i := 0) rfl)) all0)), g6_0⟩)
abbrev RrmTs_0 : Room := { frames := 5, cells := 2, slots := 20, locals := 83 }
def QrmTs_0 (Z : State) (z : Addr) (d : Addr) (kd : ClassId) (cs : List Int32) (h0 : Heap) (v : Option Value) (vm : Vm) (h : Heap) : Prop := ∃ (a : Addr) (t : Addr) (kt : ClassId), v = some (.ref a) ∧ Keep h0 h [] ∧ Str Z h a t kt cs
theorem rmTs_0 (hcx : Cx Z a0 zc fm) (z : Addr) (d : Addr) (kd : ClassId) (cs : List Int32) (h0 : Heap) (O0 : Old Z Z.heap.size h0) (Pr0 : Exa Z h0 z "java/lang/StringBuilder") (Pr1 : Fld Z h0 z "java/lang/AbstractStringBuilder" "value" "[B" (.ref d)) (Pr2 : Fld Z h0 z "java/lang/AbstractStringBuilder" "coder" "B" (.int (0 : Int32))) (Pr3 : Fld Z h0 z "java/lang/AbstractStringBuilder" "count" "I" (.int (Int32.ofNat (cs).length))) (Pr4 : Fld Z h0 z "java/lang/AbstractStringBuilder" "maybeLatin1" "Z" (.int (0 : Int32))) (Pr5 : Arv Z h0 d kd .byte (16 : Int32) ((cs.map fun c => c.toInt8.toInt32).map Value.int) (.int (0 : Int32))) (Pr6 : (cs).length ≤ 8) (Pr7 : ∀ z_ ∈ cs, ¬ z_ < 0 ∧ ¬ (255 : Int32) < z_) : Met l Z consts_1 (⟨"java/lang/StringBuilder", "toString", "()Ljava/lang/String;"⟩ : MethodName) jdk_67_method_42_code 1 (some (.object "java/lang/String")) [] RrmTs_0 [] #[(.ref z)] h0 (QrmTs_0 Z z d kd cs h0) := by
  have ⟨hw, hEL, O2, P5, O4, P6, OA, OH, OB⟩ := hcx
  refine Met.start (a0 := a0) (Ls := #[vR z]) pn25 hEL O0 (fun m => by first | (simp [entryFrame, mkF, argsToLocals, Value.category]; done) | rfl) ?_
  intro p e s m below meth cc T0 vm0 X0 sf0_ hby hml hret hnm
  have hx := X0.hx
  have D : ∀ {n r}, decode B25 n = r → decode cc.code n = r := fun d => hb hby d
  have zz := X0.ge
  have A0 := X0.at
  have l1 := ltA Pr0.lt
  have l2 := ltA Pr5.lt
  refine X0.new (w150 hw) (w5 hw) (w6 hw) rfl (D d25_0) (by decide) (by decide) fun T3 h3 a3 X3 C3 E3 g3 Z3 S3 D3 => ?_
  have z3 := E3.1
  have l3 := ltA Z3.lt
  have A4 := X3.at
  refine Gets.via (fun _ k => (XS.dup A4 hx rfl (D d25_3) rfl rfl (XS.aloadN A4 hx rfl (D d25_4) rfl rfl k))) ?_
  have f5 := Pr3.ext E3
  have f6 := Pr0.ext E3
  have f7 := Pr1.ext E3
  have f8 := Pr2.ext E3
  have f9 := Pr4.ext E3
  have f10 := Pr5.ext E3
  refine X3.callI (y := (⟨"java/lang/String", "<init>", "(Ljava/lang/StringBuilder;)V"⟩ : MethodName)) (W := 1) rfl (w151 hw) (w152 hw) (w153 hw) (by decide) (X3.payM (sf := [a3]) (rmTs1_0 hcx a3 z d kd cs h3 X3.old Z3 (D3 (Or.inr (w31 hw)) (ty := .byte) (by decide) : Fld Z h3 a3 "java/lang/String" "coder" "B" (.int (0 : Int32))) ((D3 (Or.inr (w33 hw)) (ty := (.array .byte)) (by decide) : Fld Z h3 a3 "java/lang/String" "value" "[B" .null)) (leA (by omega)) f6 f7 f8 f5 f9 f10 (neA (by omega)) Pr6 Pr7) (sfS S3 sf0) (w153 hw) (w6 hw)) rfl (sz hml rfl) (a := a3) (argsL := [(.ref z)]) (rest := [(.ref a3)]) (lenOf pd23 rfl) rfl rfl (mroom rfl rfl) (D d25_5) (by decide) (by decide) fun T11 h11 vm11 v11 X11 C11 z11 q11 => ?_
  obtain ⟨t11, kt11, rfl, K11, g11_0⟩ := q11
  have l12 := ltA g11_0.lt
  have l13 := ltA g11_0.lb
  exact X11.retA hret rfl rfl rfl (D d25_8) (by decide) (by decide) (fun vmE CE => ⟨a3, t11, kt11, rfl, (((Keep.refl h0 []).ext E3).trans K11 (allS (Or.inr (leA (by omega))) all0)), g11_0⟩)
abbrev RrmTs4_1 : Room := { frames := 3, cells := 1, slots := 16, locals := 53 }
def QrmTs4_1 (Z : State) (x : Addr) (z : Addr) (d : Addr) (kd : ClassId) (cs : List Int32) (h0 : Heap) (v : Option Value) (vm : Vm) (h : Heap) : Prop := ∃ (t : Addr) (kt : ClassId), v = none ∧ Keep h0 h [x] ∧ StrU Z h x t kt cs
theorem rmTs4_1 (hcx : Cx Z a0 zc fm) (x : Addr) (z : Addr) (d : Addr) (kd : ClassId) (cs : List Int32) (h0 : Heap) (O0 : Old Z Z.heap.size h0) (Pr0 : Exa Z h0 x "java/lang/String") (Pr1 : Fld Z h0 x "java/lang/String" "coder" "B" (.int (0 : Int32))) (Pr2 : Fld Z h0 x "java/lang/String" "value" "[B" .null) (Pr3 : Z.heap.size ≤ x) (Pr4 : Exa Z h0 z "java/lang/StringBuilder") (Pr5 : Fld Z h0 z "java/lang/AbstractStringBuilder" "value" "[B" (.ref d)) (Pr6 : Fld Z h0 z "java/lang/AbstractStringBuilder" "coder" "B" (.int (1 : Int32))) (Pr7 : Fld Z h0 z "java/lang/AbstractStringBuilder" "count" "I" (.int (Int32.ofNat (cs).length))) (Pr8 : Fld Z h0 z "java/lang/AbstractStringBuilder" "maybeLatin1" "Z" (.int (0 : Int32))) (Pr9 : Arv Z h0 d kd .byte (32 : Int32) (enc16 cs) (.int (0 : Int32))) (Pr10 : d ≠ x) (Pr11 : (cs).length ≤ 8) (Pr12 : ∀ z_ ∈ cs, ¬ z_ < 0 ∧ ¬ (65535 : Int32) < z_) : Met l Z consts_1 (⟨"java/lang/String", "<init>", "(Ljava/lang/AbstractStringBuilder;Ljava/lang/Void;)V"⟩ : MethodName) jdk_42_method_150_code 5 (none) [] RrmTs4_1 [x] #[(.ref x), (.ref z), .null] h0 (QrmTs4_1 Z x z d kd cs h0) := by
  have ⟨hw, hEL, O2, P5, O4, P6, OA, OH, OB⟩ := hcx
  refine Met.start (a0 := a0) (Ls := #[vR x, vR z, .val .null, .unset, .unset]) pn27 hEL O0 (fun m => by first | (simp [entryFrame, mkF, argsToLocals, Value.category]; done) | rfl) ?_
  intro p e s m below meth cc T0 vm0 X0 sf0_ hby hml hret hnm
  have hx := X0.hx
  have D : ∀ {n r}, decode B27 n = r → decode cc.code n = r := fun d => hb hby d
  have zz := X0.ge
  have A0 := X0.at
  have l1 := ltA Pr0.lt
  have l2 := ltA Pr4.lt
  have l3 := ltA Pr9.lt
  have l4 := neA Pr10
  have s5 := sf0_ x (memI (i := 0) rfl)
  refine Gets.via (fun _ k => (XS.aloadN A0 hx rfl (D d27_0) rfl rfl k)) ?_
  refine X0.objInit (w15 hw) (w16 hw) (w17 hw) rfl (sz hml rfl) rfl (D d27_1) (by decide) (W := 0) (mroom rfl rfl) (by decide) fun T6 X6 => ?_
  have A7 := X6.at
  refine Gets.via (fun _ k => (XS.aloadN A7 hx rfl (D d27_4) rfl rfl k)) ?_
  refine X6.callV (W := 0) (w157 hw) (w158 hw) (w160 hw) (w159 hw) (nfs rfl (w160 hw)) (by decide) (X6.payM (sf := []) (rmGv0 hcx z d h0 X6.old Pr4 Pr5) sf0 (w161 hw) (w54 hw)) Pr4 rfl (sz hml rfl) (argsL := []) (rest := []) (lenOf pd20 rfl) rfl rfl (mroom rfl rfl) (D d27_5) (by decide) (by decide) fun T8 h8 vm8 v8 X8 C8 z8 q8 => ?_
  obtain ⟨rfl, K8⟩ := q8
  rw [K8] at X8 C8
  have A9 := X8.at
  refine Gets.via (fun _ k => (XS.astoreN A9 hx rfl (D d27_8) rfl rfl (l' := #[vR x, vR z, .val .null, vR d, .unset]) rfl (XS.aloadN A9 hx rfl (D d27_9) rfl rfl k))) ?_
  show Gets p e below _ (T8.setTop (mkF m 10 #[vR x, vR z, .val .null, vR d, .unset] [(.ref z)]))
  refine X8.callV (W := 0) (w162 hw) (w163 hw) (w165 hw) (w166 hw) (nfs2 (y := (⟨"java/lang/AbstractStringBuilder", "length", "()I"⟩ : MethodName)) (w94 hw) rfl) (by decide) (X8.payM (sf := []) (rmSl hcx z (Int32.ofNat (cs).length) h0 X8.old Pr4 Pr7) sf0 (w167 hw) (w46 hw)) Pr4 rfl (sz hml rfl) (argsL := []) (rest := []) (lenOf pd17 rfl) rfl rfl (mroom rfl rfl) (D d27_10) (by decide) (by decide) fun T10 h10 vm10 v10 X10 C10 z10 q10 => ?_
  obtain ⟨rfl, K10⟩ := q10
  rw [K10] at X10 C10
  have A11 := X10.at
  refine Gets.via (fun _ k => (XS.istore A11 hx rfl (D d27_13) rfl (l' := #[vR x, vR z, .val .null, vR d, vI (Int32.ofNat (cs).length)]) rfl (XS.aloadN A11 hx rfl (D d27_15) rfl rfl k))) ?_
  refine X10.callV (W := 0) (w170 hw) (w132 hw) (w134 hw) (w133 hw) (nfs rfl (w134 hw)) (by decide) (X10.payM (sf := []) (rmSbL1 hcx z h0 X10.old Pr4 Pr6) sf0 (w135 hw) (w54 hw)) Pr4 rfl (sz hml rfl) (argsL := []) (rest := []) (lenOf pd21 rfl) rfl rfl (mroom rfl rfl) (D d27_16) (by decide) (by decide) fun T12 h12 vm12 v12 X12 C12 z12 q12 => ?_
  obtain ⟨rfl, K12⟩ := q12
  rw [K12] at X12 C12
  have A13 := X12.at
  refine Gets.via (fun _ k => (XS.ifYes A13 hx rfl (pc0 := 19) (pc' := 41) rfl (D d27_19) rfl (Jvm.Free.XT.i0_eq_t (by decide)) (by decide) (by decide) k)) ?_
  refine X12.getS (host := "") (Or.inl (w18 hw)) Via.refl (X12.sta O2) rfl (D d27_41) fun T14 X14 => ?_
  show Gets p e below _ (T14.setTop (mkF m 44 #[vR x, vR z, .val .null, vR d, vI (Int32.ofNat (cs).length)] [(.int zc)]))
  have A15 := X14.at
  refine Gets.via (fun _ k => (XS.ifNo A15 hx rfl (D d27_44) rfl (Jvm.Free.XT.i0_eq_f P5) k)) ?_
  refine Gets.via (fun _ k => (XS.aloadN A15 hx rfl (D d27_47) rfl rfl k)) ?_
  refine X14.getF (host := "") (Or.inl (w258 hw)) Via.refl Pr8 rfl rfl (D d27_48) fun T16 X16 => ?_
  have A17 := X16.at
  refine Gets.via (fun _ k => (XS.ifYes A17 hx rfl (pc0 := 51) (pc' := 79) rfl (D d27_51) rfl (Jvm.Free.XT.i0_eq_t (by decide)) (by decide) (by decide) k)) ?_
  refine Gets.via (fun _ k => (XS.aloadN A17 hx rfl (D d27_79) rfl rfl (XS.iconst A17 hx rfl (D d27_80) k))) ?_
  have f19 := C8.safe (x := x) (ltA (by omega)) s5
  have f20 := C10.safe (x := x) (ltA (by omega)) f19
  have f21 := C12.safe (x := x) (ltA (by omega)) f20
  refine X16.putF (host := "") (Or.inl (w30 hw)) Via.refl Pr1 Pr0 (Or.inr ⟨(w31 hw), rfl, hnm⟩) (w5 hw) (ty := .byte) (by decide) (by decide) (by decide) (leA (by omega)) f21 rfl rfl (D d27_81) fun T18 h18 X18 C18 W18 F18 Z18 => ?_
  have z18 := W18.size
  have A22 := X18.at
  refine Gets.via (fun _ k => (XS.aloadN A22 hx rfl (D d27_84) rfl rfl (XS.aloadN A22 hx rfl (D d27_85) rfl rfl (XS.iconst A22 hx rfl (D d27_86) (XS.iload A22 hx rfl (D d27_87) rfl (XS.iconst A22 hx rfl (D d27_89) (ishlV A22 hx rfl (D d27_90) rfl (v := (Int32.ofNat (2 * (cs).length))) (shl1 _) k))))))) ?_
  show Gets p e below _ (T18.setTop (mkF m 91 #[vR x, vR z, .val .null, vR d, vI (Int32.ofNat (cs).length)] [(.int (Int32.ofNat (2 * (cs).length))), (.int (0 : Int32)), (.ref d), (.ref x)]))
  have f23 := Pr9.other W18 (neA (by omega))
  refine X18.callS (W := 1) (w171 hw) (w172 hw) (w173 hw) (w174 hw) (by decide) (X18.payM (sf := []) (rmCr hcx d kd 32 (enc16 cs) 0 (2 * (cs).length) h18 X18.old f23 (by omega) (by omega) (by decide) (by omega) (by omega)) sf0 (w174 hw) (w173 hw)) rfl (sz hml rfl) (argsL := [(.ref d), (.int (0 : Int32)), (.int (Int32.ofNat (2 * (cs).length)))]) (rest := [(.ref x)]) (lenOf pd6 rfl) rfl rfl (mroom rfl rfl) (D d27_91) (by decide) (by decide) fun T24 h24 vm24 v24 X24 C24 z24 q24 => ?_
  obtain ⟨t24, kt24, rfl, K24, g24_0, g24_1⟩ := q24
  have l25 := ltA g24_0.lt
  have f27 := Pr2.other W18 (Or.inr (slot_ne (t := (.array .byte)) (t' := .byte) (Or.inr (w33 hw)) (Or.inr (w31 hw)) (by decide) (by decide) (by decide)))
  have f28 := f27.keep K24 nin0
  have f29 := Z18.keep K24
  have f30 := C18.safe (x := x) (ltA (by omega)) f21
  have f31 := C24.safe (x := x) (ltA (by omega)) f30
  refine X24.putF (host := "") (Or.inl (w32 hw)) Via.refl f28 f29 (Or.inr ⟨(w33 hw), rfl, hnm⟩) (w5 hw) (ty := (.array .byte)) (by decide) rfl rfl (leA (by omega)) f31 rfl rfl (D d27_94) fun T26 h26 X26 C26 W26 F26 Z26 => ?_
  have z26 := W26.size
  have f32 := F18.keep K24 nin0
  have f33 := f32.other W26 (Or.inr (slot_ne (t := .byte) (t' := (.array .byte)) (Or.inr (w31 hw)) (Or.inr (w33 hw)) (by decide) (by decide) (by decide)))
  have f34 := g24_0.other W26 (neA (by omega))
  have eS : slcV (enc16 cs) 0 (2 * (cs).length) = (enc16 cs) := (enc16_len cs ▸ slc_all0 (enc16 cs))
  have SU : StrU Z h26 x t24 kt24 cs := ⟨Z26, f33, F26, eS ▸ f34, Pr12, by omega⟩
  exact X26.retV hret (D d27_97) (by decide) (by decide) (fun vmE CE => ⟨t24, kt24, rfl, ((((Keep.refl h0 [x]).wr W18 (Or.inl (memI (i := 0) rfl))).trans K24 all0).wr W26 (Or.inl (memI (i := 0) rfl))), SU⟩)
abbrev RrmTs1_1 : Room := { frames := 4, cells := 1, slots := 16, locals := 69 }
def QrmTs1_1 (Z : State) (x : Addr) (z : Addr) (d : Addr) (kd : ClassId) (cs : List Int32) (h0 : Heap) (v : Option Value) (vm : Vm) (h : Heap) : Prop := ∃ (t : Addr) (kt : ClassId), v = none ∧ Keep h0 h [x] ∧ StrU Z h x t kt cs
theorem rmTs1_1 (hcx : Cx Z a0 zc fm) (x : Addr) (z : Addr) (d : Addr) (kd : ClassId) (cs : List Int32) (h0 : Heap) (O0 : Old Z Z.heap.size h0) (Pr0 : Exa Z h0 x "java/lang/String") (Pr1 : Fld Z h0 x "java/lang/String" "coder" "B" (.int (0 : Int32))) (Pr2 : Fld Z h0 x "java/lang/String" "value" "[B" .null) (Pr3 : Z.heap.size ≤ x) (Pr4 : Exa Z h0 z "java/lang/StringBuilder") (Pr5 : Fld Z h0 z "java/lang/AbstractStringBuilder" "value" "[B" (.ref d)) (Pr6 : Fld Z h0 z "java/lang/AbstractStringBuilder" "coder" "B" (.int (1 : Int32))) (Pr7 : Fld Z h0 z "java/lang/AbstractStringBuilder" "count" "I" (.int (Int32.ofNat (cs).length))) (Pr8 : Fld Z h0 z "java/lang/AbstractStringBuilder" "maybeLatin1" "Z" (.int (0 : Int32))) (Pr9 : Arv Z h0 d kd .byte (32 : Int32) (enc16 cs) (.int (0 : Int32))) (Pr10 : d ≠ x) (Pr11 : (cs).length ≤ 8) (Pr12 : ∀ z_ ∈ cs, ¬ z_ < 0 ∧ ¬ (65535 : Int32) < z_) : Met l Z consts_1 (⟨"java/lang/String", "<init>", "(Ljava/lang/StringBuilder;)V"⟩ : MethodName) jdk_42_method_53_code 2 (none) [] RrmTs1_1 [x] #[(.ref x), (.ref z)] h0 (QrmTs1_1 Z x z d kd cs h0) := by
  have ⟨hw, hEL, O2, P5, O4, P6, OA, OH, OB⟩ := hcx
  refine Met.start (a0 := a0) (Ls := #[vR x, vR z]) pn26 hEL O0 (fun m => by first | (simp [entryFrame, mkF, argsToLocals, Value.category]; done) | rfl) ?_
  intro p e s m below meth cc T0 vm0 X0 sf0_ hby hml hret hnm
  have hx := X0.hx
  have D : ∀ {n r}, decode B26 n = r → decode cc.code n = r := fun d => hb hby d
  have zz := X0.ge
  have A0 := X0.at
  have l1 := ltA Pr0.lt
  have l2 := ltA Pr4.lt
  have l3 := ltA Pr9.lt
  have l4 := neA Pr10
  have s5 := sf0_ x (memI (i := 0) rfl)
  refine Gets.via (fun _ k => (XS.aloadN A0 hx rfl (D d26_0) rfl rfl (XS.aloadN A0 hx rfl (D d26_1) rfl rfl (XS.aconstNull A0 hx rfl (D d26_2) k)))) ?_
  refine X0.callI (y := (⟨"java/lang/String", "<init>", "(Ljava/lang/AbstractStringBuilder;Ljava/lang/Void;)V"⟩ : MethodName)) (W := 0) rfl (w154 hw) (w155 hw) (w156 hw) (by decide) (X0.payM (sf := [x]) (rmTs4_1 hcx x z d kd cs h0 X0.old Pr0 Pr1 Pr2 Pr3 Pr4 Pr5 Pr6 Pr7 Pr8 Pr9 Pr10 Pr11 Pr12) (sfS s5 sf0) (w156 hw) (w6 hw)) rfl (sz hml rfl) (a := x) (argsL := [(.ref z), .null]) (rest := []) (lenOf pd22 rfl) rfl rfl (mroom rfl rfl) (D d26_3) (by decide) (by decide) fun T6 h6 vm6 v6 X6 C6 z6 q6 => ?_
  obtain ⟨t6, kt6, rfl, K6, g6_0⟩ := q6
  have l7 := ltA g6_0.lt
  have l8 := ltA g6_0.lb
  exact X6.retV hret (D d26_6) (by decide) (by decide) (fun vmE CE => ⟨t6, kt6, rfl, ((Keep.refl h0 [x]).trans K6 (allS (Or.inl (memI (i := 0) rfl)) all0)), g6_0⟩)
abbrev RrmTs_1 : Room := { frames := 5, cells := 2, slots := 20, locals := 83 }
def QrmTs_1 (Z : State) (z : Addr) (d : Addr) (kd : ClassId) (cs : List Int32) (h0 : Heap) (v : Option Value) (vm : Vm) (h : Heap) : Prop := ∃ (a : Addr) (t : Addr) (kt : ClassId), v = some (.ref a) ∧ Keep h0 h [] ∧ StrU Z h a t kt cs
theorem rmTs_1 (hcx : Cx Z a0 zc fm) (z : Addr) (d : Addr) (kd : ClassId) (cs : List Int32) (h0 : Heap) (O0 : Old Z Z.heap.size h0) (Pr0 : Exa Z h0 z "java/lang/StringBuilder") (Pr1 : Fld Z h0 z "java/lang/AbstractStringBuilder" "value" "[B" (.ref d)) (Pr2 : Fld Z h0 z "java/lang/AbstractStringBuilder" "coder" "B" (.int (1 : Int32))) (Pr3 : Fld Z h0 z "java/lang/AbstractStringBuilder" "count" "I" (.int (Int32.ofNat (cs).length))) (Pr4 : Fld Z h0 z "java/lang/AbstractStringBuilder" "maybeLatin1" "Z" (.int (0 : Int32))) (Pr5 : Arv Z h0 d kd .byte (32 : Int32) (enc16 cs) (.int (0 : Int32))) (Pr6 : (cs).length ≤ 8) (Pr7 : ∀ z_ ∈ cs, ¬ z_ < 0 ∧ ¬ (65535 : Int32) < z_) : Met l Z consts_1 (⟨"java/lang/StringBuilder", "toString", "()Ljava/lang/String;"⟩ : MethodName) jdk_67_method_42_code 1 (some (.object "java/lang/String")) [] RrmTs_1 [] #[(.ref z)] h0 (QrmTs_1 Z z d kd cs h0) := by
  have ⟨hw, hEL, O2, P5, O4, P6, OA, OH, OB⟩ := hcx
  refine Met.start (a0 := a0) (Ls := #[vR z]) pn25 hEL O0 (fun m => by first | (simp [entryFrame, mkF, argsToLocals, Value.category]; done) | rfl) ?_
  intro p e s m below meth cc T0 vm0 X0 sf0_ hby hml hret hnm
  have hx := X0.hx
  have D : ∀ {n r}, decode B25 n = r → decode cc.code n = r := fun d => hb hby d
  have zz := X0.ge
  have A0 := X0.at
  have l1 := ltA Pr0.lt
  have l2 := ltA Pr5.lt
  refine X0.new (w150 hw) (w5 hw) (w6 hw) rfl (D d25_0) (by decide) (by decide) fun T3 h3 a3 X3 C3 E3 g3 Z3 S3 D3 => ?_
  have z3 := E3.1
  have l3 := ltA Z3.lt
  have A4 := X3.at
  refine Gets.via (fun _ k => (XS.dup A4 hx rfl (D d25_3) rfl rfl (XS.aloadN A4 hx rfl (D d25_4) rfl rfl k))) ?_
  have f5 := Pr3.ext E3
  have f6 := Pr0.ext E3
  have f7 := Pr1.ext E3
  have f8 := Pr2.ext E3
  have f9 := Pr4.ext E3
  have f10 := Pr5.ext E3
  refine X3.callI (y := (⟨"java/lang/String", "<init>", "(Ljava/lang/StringBuilder;)V"⟩ : MethodName)) (W := 1) rfl (w151 hw) (w152 hw) (w153 hw) (by decide) (X3.payM (sf := [a3]) (rmTs1_1 hcx a3 z d kd cs h3 X3.old Z3 (D3 (Or.inr (w31 hw)) (ty := .byte) (by decide) : Fld Z h3 a3 "java/lang/String" "coder" "B" (.int (0 : Int32))) ((D3 (Or.inr (w33 hw)) (ty := (.array .byte)) (by decide) : Fld Z h3 a3 "java/lang/String" "value" "[B" .null)) (leA (by omega)) f6 f7 f8 f5 f9 f10 (neA (by omega)) Pr6 Pr7) (sfS S3 sf0) (w153 hw) (w6 hw)) rfl (sz hml rfl) (a := a3) (argsL := [(.ref z)]) (rest := [(.ref a3)]) (lenOf pd23 rfl) rfl rfl (mroom rfl rfl) (D d25_5) (by decide) (by decide) fun T11 h11 vm11 v11 X11 C11 z11 q11 => ?_
  obtain ⟨t11, kt11, rfl, K11, g11_0⟩ := q11
  have l12 := ltA g11_0.lt
  have l13 := ltA g11_0.lb
  exact X11.retA hret rfl rfl rfl (D d25_8) (by decide) (by decide) (fun vmE CE => ⟨a3, t11, kt11, rfl, (((Keep.refl h0 []).ext E3).trans K11 (allS (Or.inr (leA (by omega))) all0)), g11_0⟩)
abbrev Rrm51 : Room := { frames := 0, cells := 0, slots := 0, locals := 0 }
def Qrm51 (Z : State) (u : Int32) (w : Int32) (n : Int32) (fq : Value) (h0 : Heap) (v : Option Value) (vm : Vm) (h : Heap) : Prop := v = some (.int u) ∧ h = h0
theorem rm51 (hcx : Cx Z a0 zc fm) (u : Int32) (w : Int32) (n : Int32) (fq : Value) (h0 : Heap) (O0 : Old Z Z.heap.size h0) (Pr0 : ¬ ((n ||| u) ||| w) < (0 : Int32)) (Pr1 : ¬ (n - u) < w) (Pr2 : fq.isRef = true) : Met l Z consts_1 (⟨"jdk/internal/util/Preconditions", "checkFromIndexSize", "(IIILjava/util/function/BiFunction;)I"⟩ : MethodName) jdk_41_method_13_code 4 (some .int) [] Rrm51 [] #[(.int u), (.int w), (.int n), fq] h0 (Qrm51 Z u w n fq h0) := by
  have ⟨hw, hEL, O2, P5, O4, P6, OA, OH, OB⟩ := hcx
  refine Met.start (a0 := a0) (Ls := #[vI u, vI w, vI n, .val fq]) pn51 hEL O0 (fun m => by revert Pr2; cases fq <;> intro Pr2 <;> first | exact nomatch (show false = true from Pr2) | (first | (simp [entryFrame, mkF, argsToLocals, Value.category]; done) | rfl)) ?_
  intro p e s m below meth cc T0 vm0 X0 sf0_ hby hml hret hnm
  have hx := X0.hx
  have D : ∀ {n r}, decode B51 n = r → decode cc.code n = r := fun d => hb hby d
  have zz := X0.ge
  have A0 := X0.at
  refine Gets.via (fun _ k => (XS.iloadN A0 hx rfl (D d51_0) rfl (XS.iloadN A0 hx rfl (D d51_1) rfl (XS.ior A0 hx rfl (D d51_2) rfl (XS.iloadN A0 hx rfl (D d51_3) rfl (XS.ior A0 hx rfl (D d51_4) rfl (XS.ifNo A0 hx rfl (D d51_5) rfl (Jvm.Free.XT.i0_lt_f Pr0) k))))))) ?_
  refine Gets.via (fun _ k => (XS.iloadN A0 hx rfl (D d51_8) rfl (XS.iloadN A0 hx rfl (D d51_9) rfl (XS.iloadN A0 hx rfl (D d51_10) rfl (XS.isub A0 hx rfl (D d51_11) rfl (XS.icmpYes A0 hx rfl (pc0 := 12) (pc' := 23) rfl (D d51_12) rfl (Jvm.Free.XT.ii_le_t Pr1) (by decide) (by decide) k)))))) ?_
  show Gets p e below _ (T0.setTop (mkF m 23 #[vI u, vI w, vI n, .val fq] []))
  refine Gets.via (fun _ k => (XS.iloadN A0 hx rfl (D d51_23) rfl k)) ?_
  exact X0.retI hret rfl (by simp) (D d51_24) (by decide) (by decide) (fun vmE CE => ⟨rfl, rfl⟩)
abbrev Rrm50 : Room := { frames := 1, cells := 0, slots := 0, locals := 15 }
def Qrm50 (Z : State) (u : Int32) (w : Int32) (n : Int32) (h0 : Heap) (v : Option Value) (vm : Vm) (h : Heap) : Prop := v = some (.int u) ∧ h = h0
theorem rm50 (hcx : Cx Z a0 zc fm) (u : Int32) (w : Int32) (n : Int32) (h0 : Heap) (O0 : Old Z Z.heap.size h0) (Pr0 : ¬ ((n ||| u) ||| w) < (0 : Int32)) (Pr1 : ¬ (n - u) < w) : Met l Z consts_1 (⟨"java/lang/String", "checkBoundsOffCount", "(III)I"⟩ : MethodName) jdk_42_method_157_code 3 (some .int) [] Rrm50 [] #[(.int u), (.int w), (.int n)] h0 (Qrm50 Z u w n h0) := by
  have ⟨hw, hEL, O2, P5, O4, P6, OA, OH, OB⟩ := hcx
  refine Met.start (a0 := a0) (Ls := #[vI u, vI w, vI n]) pn50 hEL O0 (fun m => by first | (simp [entryFrame, mkF, argsToLocals, Value.category]; done) | rfl) ?_
  intro p e s m below meth cc T0 vm0 X0 sf0_ hby hml hret hnm
  have hx := X0.hx
  have D : ∀ {n r}, decode B50 n = r → decode cc.code n = r := fun d => hb hby d
  have zz := X0.ge
  have A0 := X0.at
  refine Gets.via (fun _ k => (XS.iloadN A0 hx rfl (D d50_0) rfl (XS.iloadN A0 hx rfl (D d50_1) rfl (XS.iloadN A0 hx rfl (D d50_2) rfl k)))) ?_
  refine X0.getS (host := "") (Or.inl (w203 hw)) Via.refl (X0.sta O4) rfl (D d50_3) fun T1 X1 => ?_
  refine X1.callS (W := 0) (w248 hw) (w249 hw) (w204 hw) (w250 hw) (by decide) (X1.payM (sf := []) (rm51 hcx u w n fm h0 X1.old Pr0 Pr1 P6) sf0 (w250 hw) (w204 hw)) rfl (sz hml rfl) (argsL := [(.int u), (.int w), (.int n), fm]) (rest := []) (lenOf pd24 rfl) rfl rfl (mroom rfl rfl) (D d50_6) (by decide) (by decide) fun T2 h2 vm2 v2 X2 C2 z2 q2 => ?_
  obtain ⟨rfl, K2⟩ := q2
  rw [K2] at X2 C2
  show Gets p e below _ (T2.setTop (mkF m 9 #[vI u, vI w, vI n] [(.int u)]))
  exact X2.retI hret rfl (by simp) (D d50_9) (by decide) (by decide) (fun vmE CE => ⟨rfl, rfl⟩)
abbrev RrmUco2 : Room := { frames := 2, cells := 0, slots := 0, locals := 29 }
def QrmUco2 (Z : State) (t : Addr) (kt : ClassId) (vs : List Value) (h0 : Heap) (v : Option Value) (vm : Vm) (h : Heap) : Prop := v = none ∧ h = h0
theorem rmUco2 (hcx : Cx Z a0 zc fm) (t : Addr) (kt : ClassId) (vs : List Value) (h0 : Heap) (O0 : Old Z Z.heap.size h0) (Pr0 : Arv Z h0 t kt .byte (32 : Int32) vs (.int (0 : Int32))) : Met l Z consts_1 (⟨"java/lang/StringUTF16", "checkBoundsOffCount", "(II[B)V"⟩ : MethodName) jdk_52_method_94_code 3 (none) [] RrmUco2 [] #[(.int (0 : Int32)), (.int (2 : Int32)), (.ref t)] h0 (QrmUco2 Z t kt vs h0) := by
  have ⟨hw, hEL, O2, P5, O4, P6, OA, OH, OB⟩ := hcx
  refine Met.start (a0 := a0) (Ls := #[vI (0 : Int32), vI (2 : Int32), vR t]) pn48 hEL O0 (fun m => by first | (simp [entryFrame, mkF, argsToLocals, Value.category]; done) | rfl) ?_
  intro p e s m below meth cc T0 vm0 X0 sf0_ hby hml hret hnm
  have hx := X0.hx
  have D : ∀ {n r}, decode B48 n = r → decode cc.code n = r := fun d => hb hby d
  have zz := X0.ge
  have A0 := X0.at
  have l1 := ltA Pr0.lt
  refine Gets.via (fun _ k => (XS.iloadN A0 hx rfl (D d48_0) rfl (XS.iloadN A0 hx rfl (D d48_1) rfl (XS.aloadN A0 hx rfl (D d48_2) rfl rfl k)))) ?_
  refine X0.callS (W := 2) (w242 hw) (w243 hw) (w21 hw) (w244 hw) (by decide) (X0.payM (sf := []) (rmULen hcx t kt 16 vs h0 X0.old Pr0 (by decide)) sf0 (w244 hw) (w21 hw)) rfl (sz hml rfl) (argsL := [(.ref t)]) (rest := [(.int (2 : Int32)), (.int (0 : Int32))]) (lenOf pd3 rfl) rfl rfl (mroom rfl rfl) (D d48_3) (by decide) (by decide) fun T2 h2 vm2 v2 X2 C2 z2 q2 => ?_
  obtain ⟨rfl, K2⟩ := q2
  rw [K2] at X2 C2
  refine X2.callS (W := 0) (w245 hw) (w246 hw) (w6 hw) (w247 hw) (by decide) (X2.payM (sf := []) (rm50 hcx (0 : Int32) (2 : Int32) (Int32.ofNat 16) h0 X2.old (by decide) (by decide)) sf0 (w247 hw) (w6 hw)) rfl (sz hml rfl) (argsL := [(.int (0 : Int32)), (.int (2 : Int32)), (.int (Int32.ofNat 16))]) (rest := []) (lenOf pd25 rfl) rfl rfl (mroom rfl rfl) (D d48_6) (by decide) (by decide) fun T3 h3 vm3 v3 X3 C3 z3 q3 => ?_
  obtain ⟨rfl, K3⟩ := q3
  rw [K3] at X3 C3
  show Gets p e below _ (T3.setTop (mkF m 9 #[vI (0 : Int32), vI (2 : Int32), vR t] [(.int (0 : Int32))]))
  have A4 := X3.at
  refine Gets.via (fun _ k => (XS.pop A4 hx rfl (D d48_9) rfl rfl k)) ?_
  exact X3.retV hret (D d48_10) (by decide) (by decide) (fun vmE CE => ⟨rfl, rfl⟩)
abbrev RrmUinf2 : Room := { frames := 3, cells := 0, slots := 0, locals := 43 }
def QrmUinf2 (Z : State) (d : Addr) (t : Addr) (kd : ClassId) (kt : ClassId) (c0 : Int32) (c1 : Int32) (h0 : Heap) (v : Option Value) (vm : Vm) (h : Heap) : Prop := v = none ∧ Keep h0 h [t] ∧ Arv Z h t kt .byte (32 : Int32) (enc16 [c0, c1]) (.int (0 : Int32))
theorem rmUinf2 (hcx : Cx Z a0 zc fm) (d : Addr) (t : Addr) (kd : ClassId) (kt : ClassId) (c0 : Int32) (c1 : Int32) (h0 : Heap) (O0 : Old Z Z.heap.size h0) (Pr0 : Arv Z h0 d kd .byte (16 : Int32) (([c0, c1].map fun c => c.toInt8.toInt32).map Value.int) (.int (0 : Int32))) (Pr1 : Arv Z h0 t kt .byte (32 : Int32) [] (.int (0 : Int32))) (Pr2 : Z.heap.size ≤ t) (Pr3 : d ≠ t) (Pr4 : ¬ c0 < 0 ∧ ¬ (255 : Int32) < c0) (Pr5 : ¬ c1 < 0 ∧ ¬ (255 : Int32) < c1) : Met l Z consts_1 (⟨"java/lang/StringUTF16", "inflate", "([BI[BII)V"⟩ : MethodName) jdk_52_method_86_code 6 (none) [] RrmUinf2 [t] #[(.ref d), (.int (0 : Int32)), (.ref t), (.int (0 : Int32)), (.int (2 : Int32))] h0 (QrmUinf2 Z d t kd kt c0 c1 h0) := by
  have ⟨hw, hEL, O2, P5, O4, P6, OA, OH, OB⟩ := hcx
  refine Met.start (a0 := a0) (Ls := #[vR d, vI (0 : Int32), vR t, vI (0 : Int32), vI (2 : Int32), .unset]) pn47 hEL O0 (fun m => by first | (simp [entryFrame, mkF, argsToLocals, Value.category]; done) | rfl) ?_
  intro p e s m below meth cc T0 vm0 X0 sf0_ hby hml hret hnm
  have hx := X0.hx
  have D : ∀ {n r}, decode B47 n = r → decode cc.code n = r := fun d => hb hby d
  have zz := X0.ge
  have A0 := X0.at
  have l1 := ltA Pr0.lt
  have l2 := ltA Pr1.lt
  have l3 := neA Pr3
  have s4 := sf0_ t (memI (i := 0) rfl)
  refine Gets.via (fun _ k => (XS.iloadN A0 hx rfl (D d47_0) rfl (XS.iload A0 hx rfl (D d47_1) rfl (XS.aloadN A0 hx rfl (D d47_3) rfl rfl k)))) ?_
  refine X0.callS (W := 0) (w239 hw) (w240 hw) (w21 hw) (w241 hw) (by decide) (X0.payM (sf := []) (rmUco2 hcx t kt [] h0 X0.old Pr1) sf0 (w241 hw) (w21 hw)) rfl (sz hml rfl) (argsL := [(.int (0 : Int32)), (.int (2 : Int32)), (.ref t)]) (rest := []) (lenOf pd26 rfl) rfl rfl (mroom rfl rfl) (D d47_4) (by decide) (by decide) fun T5 h5 vm5 v5 X5 C5 z5 q5 => ?_
  obtain ⟨rfl, K5⟩ := q5
  rw [K5] at X5 C5
  have A6 := X5.at
  refine Gets.via (fun _ k => (XS.iconst A6 hx rfl (D d47_7) (XS.istore A6 hx rfl (D d47_8) rfl (l' := #[vR d, vI (0 : Int32), vR t, vI (0 : Int32), vI (2 : Int32), vI (0 : Int32)]) rfl (XS.iload A6 hx rfl (D d47_10) rfl (XS.iload A6 hx rfl (D d47_12) rfl (XS.icmpNo A6 hx rfl (D d47_14) rfl (Jvm.Free.XT.ii_ge_f (by decide)) k)))))) ?_
  show Gets p e below _ (T5.setTop (mkF m 17 #[vR d, vI (0 : Int32), vR t, vI (0 : Int32), vI (2 : Int32), vI (0 : Int32)] []))
  refine Gets.via (fun _ k => (XS.aloadN A6 hx rfl (D d47_17) rfl rfl (XS.iloadN A6 hx rfl (D d47_18) rfl (iincV A6 hx rfl (D d47_19) rfl (v := (1 : Int32)) (by decide) (l' := #[vR d, vI (0 : Int32), vR t, vI (1 : Int32), vI (2 : Int32), vI (0 : Int32)]) rfl (XS.aloadN A6 hx rfl (D d47_22) rfl rfl (XS.iloadN A6 hx rfl (D d47_23) rfl (iincV A6 hx rfl (D d47_24) rfl (v := (1 : Int32)) (by decide) (l' := #[vR d, vI (1 : Int32), vR t, vI (1 : Int32), vI (2 : Int32), vI (0 : Int32)]) rfl k))))))) ?_
  refine X5.ldB Pr0 (j := (0 : Int32)) (i := 0) (by decide) (by decide) (by decide) (v := (.int (c0.toInt8.toInt32))) rfl rfl rfl (D d47_27) ?_
  refine Gets.via (fun _ k => (XS.sipush A6 hx rfl (D d47_28) (XS.iand A6 hx rfl (D d47_31) rfl k))) ?_
  show Gets p e below _ (T5.setTop (mkF m 32 #[vR d, vI (1 : Int32), vR t, vI (1 : Int32), vI (2 : Int32), vI (0 : Int32)] [(.int ((c0.toInt8.toInt32) &&& (255 : Int32))), (.int (0 : Int32)), (.ref t)]))
  rw [show (c0.toInt8.toInt32) &&& (255 : Int32) = c0 from StrChars.lo8_mask Pr4.1 Pr4.2]
  have f7 := C5.safe (x := t) (ltA (by omega)) s4
  refine X5.callS (W := 0) (w218 hw) (w219 hw) (w21 hw) (w220 hw) (by decide) (X5.payM (sf := [t]) (rmPutC hcx t 0 c0 kt (32 : Int32) 32 [] h0 X5.old Pr1 rfl (by decide) rfl (by decide) Pr2) (sfS f7 sf0) (w220 hw) (w21 hw)) rfl (sz hml rfl) (argsL := [(.ref t), (.int (0 : Int32)), (.int c0)]) (rest := []) (lenOf pd10 rfl) rfl rfl (mroom rfl rfl) (D d47_32) (by decide) (by decide) fun T8 h8 vm8 v8 X8 C8 z8 q8 => ?_
  obtain ⟨rfl, K8, g8_0⟩ := q8
  have l9 := ltA g8_0.lt
  have A10 := X8.at
  refine Gets.via (fun _ k => (iincV A10 hx rfl (D d47_35) rfl (v := (1 : Int32)) (by decide) (l' := #[vR d, vI (1 : Int32), vR t, vI (1 : Int32), vI (2 : Int32), vI (1 : Int32)]) rfl (XS.goto A10 hx rfl (pc0 := 38) (pc' := 10) rfl (D d47_38) (by decide) (by decide) k))) ?_
  refine Gets.via (fun _ k => (XS.iload A10 hx rfl (D d47_10) rfl (XS.iload A10 hx rfl (D d47_12) rfl (XS.icmpNo A10 hx rfl (D d47_14) rfl (Jvm.Free.XT.ii_ge_f (by decide)) k)))) ?_
  refine Gets.via (fun _ k => (XS.aloadN A10 hx rfl (D d47_17) rfl rfl (XS.iloadN A10 hx rfl (D d47_18) rfl (iincV A10 hx rfl (D d47_19) rfl (v := (2 : Int32)) (by decide) (l' := #[vR d, vI (1 : Int32), vR t, vI (2 : Int32), vI (2 : Int32), vI (1 : Int32)]) rfl (XS.aloadN A10 hx rfl (D d47_22) rfl rfl (XS.iloadN A10 hx rfl (D d47_23) rfl (iincV A10 hx rfl (D d47_24) rfl (v := (2 : Int32)) (by decide) (l' := #[vR d, vI (2 : Int32), vR t, vI (2 : Int32), vI (2 : Int32), vI (1 : Int32)]) rfl k))))))) ?_
  show Gets p e below _ (T8.setTop (mkF m 27 #[vR d, vI (2 : Int32), vR t, vI (2 : Int32), vI (2 : Int32), vI (1 : Int32)] [(.int (1 : Int32)), (.ref d), (.int (1 : Int32)), (.ref t)]))
  have f11 := Pr0.keep K8 (ninS (neA (by omega)) nin0)
  refine X8.ldB f11 (j := (1 : Int32)) (i := 1) (by decide) (by decide) (by decide) (v := (.int (c1.toInt8.toInt32))) rfl rfl rfl (D d47_27) ?_
  refine Gets.via (fun _ k => (XS.sipush A10 hx rfl (D d47_28) (XS.iand A10 hx rfl (D d47_31) rfl k))) ?_
  show Gets p e below _ (T8.setTop (mkF m 32 #[vR d, vI (2 : Int32), vR t, vI (2 : Int32), vI (2 : Int32), vI (1 : Int32)] [(.int ((c1.toInt8.toInt32) &&& (255 : Int32))), (.int (1 : Int32)), (.ref t)]))
  rw [show (c1.toInt8.toInt32) &&& (255 : Int32) = c1 from StrChars.lo8_mask Pr5.1 Pr5.2]
  have f12 := C8.safe (x := t) (ltA (by omega)) f7
  refine X8.callS (W := 0) (w218 hw) (w219 hw) (w21 hw) (w220 hw) (by decide) (X8.payM (sf := [t]) (rmPutC hcx t 1 c1 kt (32 : Int32) 32 (([] ++ [(.int (c0.toInt8.toInt32))]) ++ [(.int ((c0 >>> ((8 : Int32) &&& (31 : Int32))).toInt8.toInt32))]) h8 X8.old g8_0 rfl (by decide) rfl (by decide) Pr2) (sfS f12 sf0) (w220 hw) (w21 hw)) rfl (sz hml rfl) (argsL := [(.ref t), (.int (1 : Int32)), (.int c1)]) (rest := []) (lenOf pd10 rfl) rfl rfl (mroom rfl rfl) (D d47_32) (by decide) (by decide) fun T13 h13 vm13 v13 X13 C13 z13 q13 => ?_
  obtain ⟨rfl, K13, g13_0⟩ := q13
  have l14 := ltA g13_0.lt
  have A15 := X13.at
  refine Gets.via (fun _ k => (iincV A15 hx rfl (D d47_35) rfl (v := (2 : Int32)) (by decide) (l' := #[vR d, vI (2 : Int32), vR t, vI (2 : Int32), vI (2 : Int32), vI (2 : Int32)]) rfl (XS.goto A15 hx rfl (pc0 := 38) (pc' := 10) rfl (D d47_38) (by decide) (by decide) k))) ?_
  refine Gets.via (fun _ k => (XS.iload A15 hx rfl (D d47_10) rfl (XS.iload A15 hx rfl (D d47_12) rfl (XS.icmpYes A15 hx rfl (pc0 := 14) (pc' := 41) rfl (D d47_14) rfl (Jvm.Free.XT.ii_ge_t (by decide)) (by decide) (by decide) k)))) ?_
  have f16 : Arv Z h13 t kt .byte (32 : Int32) (enc16 [c0, c1]) (.int (0 : Int32)) := encL2 c0 c1 ▸ g13_0
  exact X13.retV hret (D d47_41) (by decide) (by decide) (fun vmE CE => ⟨rfl, (((Keep.refl h0 [t]).trans K8 (allS (Or.inl (memI (i := 0) rfl)) all0)).trans K13 (allS (Or.inl (memI (i := 0) rfl)) all0)), f16⟩)
abbrev RrmLinf2 : Room := { frames := 4, cells := 0, slots := 0, locals := 60 }
def QrmLinf2 (Z : State) (d : Addr) (t : Addr) (kd : ClassId) (kt : ClassId) (c0 : Int32) (c1 : Int32) (h0 : Heap) (v : Option Value) (vm : Vm) (h : Heap) : Prop := v = none ∧ Keep h0 h [t] ∧ Arv Z h t kt .byte (32 : Int32) (enc16 [c0, c1]) (.int (0 : Int32))
theorem rmLinf2 (hcx : Cx Z a0 zc fm) (d : Addr) (t : Addr) (kd : ClassId) (kt : ClassId) (c0 : Int32) (c1 : Int32) (h0 : Heap) (O0 : Old Z Z.heap.size h0) (Pr0 : Arv Z h0 d kd .byte (16 : Int32) (([c0, c1].map fun c => c.toInt8.toInt32).map Value.int) (.int (0 : Int32))) (Pr1 : Arv Z h0 t kt .byte (32 : Int32) [] (.int (0 : Int32))) (Pr2 : Z.heap.size ≤ t) (Pr3 : d ≠ t) (Pr4 : ¬ c0 < 0 ∧ ¬ (255 : Int32) < c0) (Pr5 : ¬ c1 < 0 ∧ ¬ (255 : Int32) < c1) : Met l Z consts_1 (⟨"java/lang/StringLatin1", "inflate", "([BI[BII)V"⟩ : MethodName) jdk_43_method_50_code 5 (none) [] RrmLinf2 [t] #[(.ref d), (.int (0 : Int32)), (.ref t), (.int (0 : Int32)), (.int (2 : Int32))] h0 (QrmLinf2 Z d t kd kt c0 c1 h0) := by
  have ⟨hw, hEL, O2, P5, O4, P6, OA, OH, OB⟩ := hcx
  refine Met.start (a0 := a0) (Ls := #[vR d, vI (0 : Int32), vR t, vI (0 : Int32), vI (2 : Int32)]) pn46 hEL O0 (fun m => by first | (simp [entryFrame, mkF, argsToLocals, Value.category]; done) | rfl) ?_
  intro p e s m below meth cc T0 vm0 X0 sf0_ hby hml hret hnm
  have hx := X0.hx
  have D : ∀ {n r}, decode B46 n = r → decode cc.code n = r := fun d => hb hby d
  have zz := X0.ge
  have A0 := X0.at
  have l1 := ltA Pr0.lt
  have l2 := ltA Pr1.lt
  have l3 := neA Pr3
  have s4 := sf0_ t (memI (i := 0) rfl)
  refine Gets.via (fun _ k => (XS.aloadN A0 hx rfl (D d46_0) rfl rfl (XS.iloadN A0 hx rfl (D d46_1) rfl (XS.aloadN A0 hx rfl (D d46_2) rfl rfl (XS.iloadN A0 hx rfl (D d46_3) rfl (XS.iload A0 hx rfl (D d46_4) rfl k)))))) ?_
  refine X0.callS (W := 0) (w236 hw) (w237 hw) (w21 hw) (w238 hw) (by decide) (X0.payM (sf := [t]) (rmUinf2 hcx d t kd kt c0 c1 h0 X0.old Pr0 Pr1 Pr2 Pr3 Pr4 Pr5) (sfS s4 sf0) (w238 hw) (w21 hw)) rfl (sz hml rfl) (argsL := [(.ref d), (.int (0 : Int32)), (.ref t), (.int (0 : Int32)), (.int (2 : Int32))]) (rest := []) (lenOf pd27 rfl) rfl rfl (mroom rfl rfl) (D d46_6) (by decide) (by decide) fun T5 h5 vm5 v5 X5 C5 z5 q5 => ?_
  obtain ⟨rfl, K5, g5_0⟩ := q5
  have l6 := ltA g5_0.lt
  exact X5.retV hret (D d46_9) (by decide) (by decide) (fun vmE CE => ⟨rfl, ((Keep.refl h0 [t]).trans K5 (allS (Or.inl (memI (i := 0) rfl)) all0)), g5_0⟩)
abbrev RrmNbl16 : Room := { frames := 0, cells := 0, slots := 0, locals := 0 }
def QrmNbl16 (Z : State)  (h0 : Heap) (v : Option Value) (vm : Vm) (h : Heap) : Prop := v = some (.int (32 : Int32)) ∧ h = h0
theorem rmNbl16 (hcx : Cx Z a0 zc fm)  (h0 : Heap) (O0 : Old Z Z.heap.size h0)  : Met l Z consts_1 (⟨"java/lang/StringUTF16", "newBytesLength", "(I)I"⟩ : MethodName) jdk_52_method_3_code 1 (some .int) [] RrmNbl16 [] #[(.int (16 : Int32))] h0 (QrmNbl16 Z  h0) := by
  have ⟨hw, hEL, O2, P5, O4, P6, OA, OH, OB⟩ := hcx
  refine Met.start (a0 := a0) (Ls := #[vI (16 : Int32)]) pn42 hEL O0 (fun m => by first | (simp [entryFrame, mkF, argsToLocals, Value.category]; done) | rfl) ?_
  intro p e s m below meth cc T0 vm0 X0 sf0_ hby hml hret hnm
  have hx := X0.hx
  have D : ∀ {n r}, decode B42 n = r → decode cc.code n = r := fun d => hb hby d
  have zz := X0.ge
  have A0 := X0.at
  refine Gets.via (fun _ k => (XS.iloadN A0 hx rfl (D d42_0) rfl (XS.ifYes A0 hx rfl (pc0 := 1) (pc' := 12) rfl (D d42_1) rfl (Jvm.Free.XT.i0_ge_t (by decide)) (by decide) (by decide) k))) ?_
  refine Gets.via (fun _ k => (XS.iloadN A0 hx rfl (D d42_12) rfl k)) ?_
  refine X0.ldcI (w217 hw) rfl (D d42_13) ?_
  refine Gets.via (fun _ k => (XS.icmpYes A0 hx rfl (pc0 := 15) (pc' := 55) rfl (D d42_15) rfl (Jvm.Free.XT.ii_lt_t (by decide)) (by decide) (by decide) k)) ?_
  refine Gets.via (fun _ k => (XS.iloadN A0 hx rfl (D d42_55) rfl (XS.iconst A0 hx rfl (D d42_56) (ishlV A0 hx rfl (D d42_57) rfl (v := (32 : Int32)) (by decide) k)))) ?_
  show Gets p e below _ (T0.setTop (mkF m 58 #[vI (16 : Int32)] [(.int (32 : Int32))]))
  exact X0.retI hret rfl (by simp) (D d42_58) (by decide) (by decide) (fun vmE CE => ⟨rfl, rfl⟩)
abbrev RrmNbf16 : Room := { frames := 1, cells := 1, slots := 32, locals := 12 }
def QrmNbf16 (Z : State)  (h0 : Heap) (v : Option Value) (vm : Vm) (h : Heap) : Prop := ∃ (t : Addr) (kt : ClassId), v = some (.ref t) ∧ Keep h0 h [] ∧ Arv Z h t kt .byte (32 : Int32) [] (.int (0 : Int32)) ∧ Safe Z consts_1 vm h t ∧ h0.size ≤ t
theorem rmNbf16 (hcx : Cx Z a0 zc fm)  (h0 : Heap) (O0 : Old Z Z.heap.size h0)  : Met l Z consts_1 (⟨"java/lang/StringUTF16", "newBytesFor", "(I)[B"⟩ : MethodName) jdk_52_method_2_code 1 (some (.array .byte)) [] RrmNbf16 [] #[(.int (16 : Int32))] h0 (QrmNbf16 Z  h0) := by
  have ⟨hw, hEL, O2, P5, O4, P6, OA, OH, OB⟩ := hcx
  refine Met.start (a0 := a0) (Ls := #[vI (16 : Int32)]) pn41 hEL O0 (fun m => by first | (simp [entryFrame, mkF, argsToLocals, Value.category]; done) | rfl) ?_
  intro p e s m below meth cc T0 vm0 X0 sf0_ hby hml hret hnm
  have hx := X0.hx
  have D : ∀ {n r}, decode B41 n = r → decode cc.code n = r := fun d => hb hby d
  have zz := X0.ge
  have A0 := X0.at
  refine Gets.via (fun _ k => (XS.iloadN A0 hx rfl (D d41_0) rfl k)) ?_
  refine X0.callS (W := 0) (w214 hw) (w215 hw) (w21 hw) (w216 hw) (by decide) (X0.payM (sf := []) (rmNbl16 hcx  h0 X0.old ) sf0 (w216 hw) (w21 hw)) rfl (sz hml rfl) (argsL := [(.int (16 : Int32))]) (rest := []) (lenOf pd8 rfl) rfl rfl (mroom rfl rfl) (D d41_1) (by decide) (by decide) fun T1 h1 vm1 v1 X1 C1 z1 q1 => ?_
  obtain ⟨rfl, K1⟩ := q1
  rw [K1] at X1 C1
  refine X1.newA (aty := .byte) (w23 hw) rfl (D d41_4) rfl (by decide) (cap := 32) (by decide) (by decide) (by decide) (by decide) fun T2 h2 a2 k2 X2 C2 E2 g2 S2 V2 => ?_
  have z2 := E2.1
  have l2 := ltA V2.lt
  exact X2.retA hret rfl rfl rfl (D d41_6) (by decide) (by decide) (fun vmE CE => ⟨a2, k2, rfl, ((Keep.refl h0 []).ext E2), V2, CE.safe (x := a2) (ltA (by omega)) S2, (leA (by omega))⟩)
abbrev RrmInfl2 : Room := { frames := 5, cells := 1, slots := 32, locals := 76 }
def QrmInfl2 (Z : State) (x : Addr) (d : Addr) (kd : ClassId) (c0 : Int32) (c1 : Int32) (h0 : Heap) (v : Option Value) (vm : Vm) (h : Heap) : Prop := ∃ (t : Addr) (kt : ClassId), v = none ∧ Keep h0 h [x] ∧ Exa Z h x "java/lang/StringBuilder" ∧ Fld Z h x "java/lang/AbstractStringBuilder" "value" "[B" (.ref t) ∧ Fld Z h x "java/lang/AbstractStringBuilder" "coder" "B" (.int (1 : Int32)) ∧ Fld Z h x "java/lang/AbstractStringBuilder" "count" "I" (.int (Int32.ofNat ([c0, c1]).length)) ∧ Fld Z h x "java/lang/AbstractStringBuilder" "maybeLatin1" "Z" (.int (0 : Int32)) ∧ Arv Z h t kt .byte (32 : Int32) (enc16 [c0, c1]) (.int (0 : Int32)) ∧ Safe Z consts_1 vm h t ∧ h0.size ≤ t
theorem rmInfl2 (hcx : Cx Z a0 zc fm) (x : Addr) (d : Addr) (kd : ClassId) (c0 : Int32) (c1 : Int32) (h0 : Heap) (O0 : Old Z Z.heap.size h0) (Pr0 : Exa Z h0 x "java/lang/StringBuilder") (Pr1 : Fld Z h0 x "java/lang/AbstractStringBuilder" "value" "[B" (.ref d)) (Pr2 : Fld Z h0 x "java/lang/AbstractStringBuilder" "coder" "B" (.int (0 : Int32))) (Pr3 : Fld Z h0 x "java/lang/AbstractStringBuilder" "count" "I" (.int (Int32.ofNat ([c0, c1]).length))) (Pr4 : Fld Z h0 x "java/lang/AbstractStringBuilder" "maybeLatin1" "Z" (.int (0 : Int32))) (Pr5 : Arv Z h0 d kd .byte (16 : Int32) (([c0, c1].map fun c => c.toInt8.toInt32).map Value.int) (.int (0 : Int32))) (Pr6 : Z.heap.size ≤ x) (Pr7 : ¬ c0 < 0 ∧ ¬ (255 : Int32) < c0) (Pr8 : ¬ c1 < 0 ∧ ¬ (255 : Int32) < c1) : Met l Z consts_1 (⟨"java/lang/AbstractStringBuilder", "inflate", "()V"⟩ : MethodName) jdk_68_method_11_code 2 (none) [] RrmInfl2 [] #[(.ref x)] h0 (QrmInfl2 Z x d kd c0 c1 h0) := by
  have ⟨hw, hEL, O2, P5, O4, P6, OA, OH, OB⟩ := hcx
  refine Met.start (a0 := a0) (Ls := #[vR x, .unset]) pn45 hEL O0 (fun m => by first | (simp [entryFrame, mkF, argsToLocals, Value.category]; done) | rfl) ?_
  intro p e s m below meth cc T0 vm0 X0 sf0_ hby hml hret hnm
  have hx := X0.hx
  have D : ∀ {n r}, decode B45 n = r → decode cc.code n = r := fun d => hb hby d
  have zz := X0.ge
  have A0 := X0.at
  have l1 := ltA Pr0.lt
  have l2 := ltA Pr5.lt
  have f3 : Fld Z h0 x "java/lang/AbstractStringBuilder" "count" "I" (.int (2 : Int32)) := Pr3
  refine Gets.via (fun _ k => (XS.aloadN A0 hx rfl (D d45_0) rfl rfl k)) ?_
  refine X0.callV (W := 0) (w131 hw) (w132 hw) (w134 hw) (w133 hw) (nfs rfl (w134 hw)) (by decide) (X0.payM (sf := []) (rmSbL0 hcx x h0 X0.old Pr0 Pr2) sf0 (w135 hw) (w54 hw)) Pr0 rfl (sz hml rfl) (argsL := []) (rest := []) (lenOf pd21 rfl) rfl rfl (mroom rfl rfl) (D d45_1) (by decide) (by decide) fun T4 h4 vm4 v4 X4 C4 z4 q4 => ?_
  obtain ⟨rfl, K4⟩ := q4
  rw [K4] at X4 C4
  have A5 := X4.at
  refine Gets.via (fun _ k => (XS.ifYes A5 hx rfl (pc0 := 4) (pc' := 8) rfl (D d45_4) rfl (Jvm.Free.XT.i0_ne_t (by decide)) (by decide) (by decide) k)) ?_
  refine Gets.via (fun _ k => (XS.aloadN A5 hx rfl (D d45_8) rfl rfl k)) ?_
  refine X4.getF (host := "") (Or.inl (w58 hw)) Via.refl Pr1 rfl rfl (D d45_9) fun T6 X6 => ?_
  show Gets p e below _ (T6.setTop (mkF m 12 #[vR x, .unset] [(.ref d)]))
  refine X6.alen Pr5 rfl rfl (D d45_12) ?_
  refine X6.callS (W := 0) (w232 hw) (w212 hw) (w21 hw) (w213 hw) (by decide) (X6.payM (sf := []) (rmNbf16 hcx  h0 X6.old ) sf0 (w213 hw) (w21 hw)) rfl (sz hml rfl) (argsL := [(.int (16 : Int32))]) (rest := []) (lenOf pd9 rfl) rfl rfl (mroom rfl rfl) (D d45_13) (by decide) (by decide) fun T7 h7 vm7 v7 X7 C7 z7 q7 => ?_
  obtain ⟨t7, kt7, rfl, K7, g7_0, g7_1, g7_2⟩ := q7
  have l8 := ltA g7_0.lt
  have A9 := X7.at
  refine Gets.via (fun _ k => (XS.astoreN A9 hx rfl (D d45_16) rfl rfl (l' := #[vR x, vR t7]) rfl (XS.aloadN A9 hx rfl (D d45_17) rfl rfl k))) ?_
  have f11 := Pr1.keep K7 nin0
  refine X7.getF (host := "") (Or.inl (w58 hw)) Via.refl f11 rfl rfl (D d45_18) fun T10 X10 => ?_
  have A12 := X10.at
  refine Gets.via (fun _ k => (XS.iconst A12 hx rfl (D d45_21) (XS.aloadN A12 hx rfl (D d45_22) rfl rfl (XS.iconst A12 hx rfl (D d45_23) (XS.aloadN A12 hx rfl (D d45_24) rfl rfl k))))) ?_
  show Gets p e below _ (T10.setTop (mkF m 25 #[vR x, vR t7] [(.ref x), (.int (0 : Int32)), (.ref t7), (.int (0 : Int32)), (.ref d)]))
  have f14 := f3.keep K7 nin0
  refine X10.getF (host := "") (Or.inl (w89 hw)) Via.refl f14 rfl rfl (D d45_25) fun T13 X13 => ?_
  have f15 := Pr5.keep K7 nin0
  refine X13.callS (W := 0) (w233 hw) (w234 hw) (w138 hw) (w235 hw) (by decide) (X13.payM (sf := [t7]) (rmLinf2 hcx d t7 kd kt7 c0 c1 h7 X13.old f15 g7_0 (leA (by omega)) (neA (by omega)) Pr7 Pr8) (sfS g7_1 sf0) (w235 hw) (w138 hw)) rfl (sz hml rfl) (argsL := [(.ref d), (.int (0 : Int32)), (.ref t7), (.int (0 : Int32)), (.int (2 : Int32))]) (rest := []) (lenOf pd27 rfl) rfl rfl (mroom rfl rfl) (D d45_28) (by decide) (by decide) fun T16 h16 vm16 v16 X16 C16 z16 q16 => ?_
  obtain ⟨rfl, K16, g16_0⟩ := q16
  have l17 := ltA g16_0.lt
  have A18 := X16.at
  refine Gets.via (fun _ k => (XS.aloadN A18 hx rfl (D d45_31) rfl rfl (XS.aloadN A18 hx rfl (D d45_32) rfl rfl k))) ?_
  have f20 := f11.keep K16 (ninS (neA (by omega)) nin0)
  have f21 := Pr0.keep K7
  have f22 := f21.keep K16
  refine X16.putF (host := "") (Or.inl (w58 hw)) Via.refl f20 f22 (Or.inl (w59 hw)) (w45 hw) (ty := (.array .byte)) (by decide) rfl rfl (leA (by omega)) (Safe.exa X16.hZ.alike f22 (by decide) (by decide)) rfl rfl (D d45_33) fun T19 h19 X19 C19 W19 F19 Z19 => ?_
  have z19 := W19.size
  have A23 := X19.at
  refine Gets.via (fun _ k => (XS.aloadN A23 hx rfl (D d45_36) rfl rfl (XS.iconst A23 hx rfl (D d45_37) k))) ?_
  show Gets p e below _ (T19.setTop (mkF m 38 #[vR x, vR t7] [(.int (1 : Int32)), (.ref x)]))
  have f25 := Pr2.keep K7 nin0
  have f26 := f25.keep K16 (ninS (neA (by omega)) nin0)
  have f27 := f26.other W19 (Or.inr (slot_ne (t := .byte) (t' := (.array .byte)) (Or.inl (w61 hw)) (Or.inl (w59 hw)) (by decide) (by decide) (by decide)))
  refine X19.putF (host := "") (Or.inl (w60 hw)) Via.refl f27 Z19 (Or.inl (w61 hw)) (w45 hw) (ty := .byte) (by decide) (by decide) (by decide) (leA (by omega)) (Safe.exa X19.hZ.alike Z19 (by decide) (by decide)) rfl rfl (D d45_38) fun T24 h24 X24 C24 W24 F24 Z24 => ?_
  have z24 := W24.size
  have f28 := F19.other W24 (Or.inr (slot_ne (t := (.array .byte)) (t' := .byte) (Or.inl (w59 hw)) (Or.inl (w61 hw)) (by decide) (by decide) (by decide)))
  have f29 := Pr3.keep K7 nin0
  have f30 := f29.keep K16 (ninS (neA (by omega)) nin0)
  have f31 := f30.other W19 (Or.inr (slot_ne (t := .int) (t' := (.array .byte)) (Or.inl (w90 hw)) (Or.inl (w59 hw)) (by decide) (by decide) (by decide)))
  have f32 := f31.other W24 (Or.inr (slot_ne (t := .int) (t' := .byte) (Or.inl (w90 hw)) (Or.inl (w61 hw)) (by decide) (by decide) (by decide)))
  have f33 := Pr4.keep K7 nin0
  have f34 := f33.keep K16 (ninS (neA (by omega)) nin0)
  have f35 := f34.other W19 (Or.inr (slot_ne (t := .boolean) (t' := (.array .byte)) (Or.inl (w259 hw)) (Or.inl (w59 hw)) (by decide) (by decide) (by decide)))
  have f36 := f35.other W24 (Or.inr (slot_ne (t := .boolean) (t' := .byte) (Or.inl (w259 hw)) (Or.inl (w61 hw)) (by decide) (by decide) (by decide)))
  have f37 := g16_0.other W19 (neA (by omega))
  have f38 := f37.other W24 (neA (by omega))
  have f39 := C16.safe (x := t7) (ltA (by omega)) g7_1
  have f40 := C19.safe (x := t7) (ltA (by omega)) f39
  have f41 := C24.safe (x := t7) (ltA (by omega)) f40
  exact X24.retV hret (D d45_41) (by decide) (by decide) (fun vmE CE => ⟨t7, kt7, rfl, (((((Keep.refl h0 [x]).trans K7 all0).trans K16 (allS (Or.inr (leA (by omega))) all0)).wr W19 (Or.inl (memI (i := 0) rfl))).wr W24 (Or.inl (memI (i := 0) rfl))), Z24, f28, F24, f32, f36, f38, CE.safe (x := t7) (ltA (by omega)) f41, g7_2⟩)
abbrev RrmInfU2 : Room := { frames := 6, cells := 1, slots := 32, locals := 89 }
def QrmInfU2 (Z : State) (x : Addr) (s1 : Addr) (d : Addr) (kd : ClassId) (c0 : Int32) (c1 : Int32) (h0 : Heap) (v : Option Value) (vm : Vm) (h : Heap) : Prop := ∃ (t : Addr) (kt : ClassId), v = none ∧ Keep h0 h [x] ∧ Exa Z h x "java/lang/StringBuilder" ∧ Fld Z h x "java/lang/AbstractStringBuilder" "value" "[B" (.ref t) ∧ Fld Z h x "java/lang/AbstractStringBuilder" "coder" "B" (.int (1 : Int32)) ∧ Fld Z h x "java/lang/AbstractStringBuilder" "count" "I" (.int (Int32.ofNat ([c0, c1]).length)) ∧ Fld Z h x "java/lang/AbstractStringBuilder" "maybeLatin1" "Z" (.int (0 : Int32)) ∧ Arv Z h t kt .byte (32 : Int32) (enc16 [c0, c1]) (.int (0 : Int32)) ∧ Safe Z consts_1 vm h t ∧ h0.size ≤ t
theorem rmInfU2 (hcx : Cx Z a0 zc fm) (x : Addr) (s1 : Addr) (d : Addr) (kd : ClassId) (c0 : Int32) (c1 : Int32) (h0 : Heap) (O0 : Old Z Z.heap.size h0) (Pr0 : Exa Z h0 x "java/lang/StringBuilder") (Pr1 : Fld Z h0 x "java/lang/AbstractStringBuilder" "value" "[B" (.ref d)) (Pr2 : Fld Z h0 x "java/lang/AbstractStringBuilder" "coder" "B" (.int (0 : Int32))) (Pr3 : Fld Z h0 x "java/lang/AbstractStringBuilder" "count" "I" (.int (Int32.ofNat ([c0, c1]).length))) (Pr4 : Fld Z h0 x "java/lang/AbstractStringBuilder" "maybeLatin1" "Z" (.int (0 : Int32))) (Pr5 : Arv Z h0 d kd .byte (16 : Int32) (([c0, c1].map fun c => c.toInt8.toInt32).map Value.int) (.int (0 : Int32))) (Pr6 : Z.heap.size ≤ x) (Pr7 : ¬ c0 < 0 ∧ ¬ (255 : Int32) < c0) (Pr8 : ¬ c1 < 0 ∧ ¬ (255 : Int32) < c1) (Pr9 : Exa Z h0 s1 "java/lang/String") (Pr10 : Fld Z h0 s1 "java/lang/String" "coder" "B" (.int (1 : Int32))) : Met l Z consts_1 (⟨"java/lang/AbstractStringBuilder", "inflateIfNeededFor", "(Ljava/lang/String;)V"⟩ : MethodName) jdk_68_method_71_code 2 (none) [] RrmInfU2 [] #[(.ref x), (.ref s1)] h0 (QrmInfU2 Z x s1 d kd c0 c1 h0) := by
  have ⟨hw, hEL, O2, P5, O4, P6, OA, OH, OB⟩ := hcx
  refine Met.start (a0 := a0) (Ls := #[vR x, vR s1]) pn17 hEL O0 (fun m => by first | (simp [entryFrame, mkF, argsToLocals, Value.category]; done) | rfl) ?_
  intro p e s m below meth cc T0 vm0 X0 sf0_ hby hml hret hnm
  have hx := X0.hx
  have D : ∀ {n r}, decode B17 n = r → decode cc.code n = r := fun d => hb hby d
  have zz := X0.ge
  have A0 := X0.at
  have l1 := ltA Pr0.lt
  have l2 := ltA Pr5.lt
  have l3 := ltA Pr9.lt
  refine X0.getS (host := "") (Or.inl (w57 hw)) Via.refl (X0.sta O2) rfl (D d17_0) fun T4 X4 => ?_
  have A5 := X4.at
  refine Gets.via (fun _ k => (XS.ifNo A5 hx rfl (D d17_3) rfl (Jvm.Free.XT.i0_eq_f P5) k)) ?_
  refine Gets.via (fun _ k => (XS.aloadN A5 hx rfl (D d17_6) rfl rfl k)) ?_
  refine X4.getF (host := "") (Or.inl (w60 hw)) Via.refl Pr2 rfl rfl (D d17_7) fun T6 X6 => ?_
  have A7 := X6.at
  refine Gets.via (fun _ k => (XS.aloadN A7 hx rfl (D d17_10) rfl rfl k)) ?_
  show Gets p e below _ (T6.setTop (mkF m 11 #[vR x, vR s1] [(.ref s1), (.int (0 : Int32))]))
  refine X6.callV (W := 1) (w106 hw) (w85 hw) (w87 hw) (w86 hw) (nfs rfl (w87 hw)) (by decide) (X6.payM (sf := []) (rmCoder1 hcx s1 h0 X6.old Pr9 Pr10) sf0 (w88 hw) (w6 hw)) Pr9 rfl (sz hml rfl) (argsL := []) (rest := [(.int (0 : Int32))]) (lenOf pd1 rfl) rfl rfl (mroom rfl rfl) (D d17_11) (by decide) (by decide) fun T8 h8 vm8 v8 X8 C8 z8 q8 => ?_
  obtain ⟨rfl, K8⟩ := q8
  rw [K8] at X8 C8
  have A9 := X8.at
  refine Gets.via (fun _ k => (XS.icmpNo A9 hx rfl (D d17_14) rfl (Jvm.Free.XT.ii_eq_f (by decide)) k)) ?_
  refine Gets.via (fun _ k => (XS.aloadN A9 hx rfl (D d17_17) rfl rfl k)) ?_
  refine X8.callP (W := 0) (w227 hw) (w228 hw) (w230 hw) (w229 hw) (w231 hw) (by decide) (X8.payM (sf := []) (rmInfl2 hcx x d kd c0 c1 h0 X8.old Pr0 Pr1 Pr2 Pr3 Pr4 Pr5 Pr6 Pr7 Pr8) sf0 (w231 hw) (w54 hw)) Pr0 rfl (sz hml rfl) (argsL := []) (rest := []) (lenOf pd28 rfl) rfl rfl (mroom rfl rfl) (D d17_18) (by decide) (by decide) fun T10 h10 vm10 v10 X10 C10 z10 q10 => ?_
  obtain ⟨t10, kt10, rfl, K10, g10_0, g10_1, g10_2, g10_3, g10_4, g10_5, g10_6, g10_7⟩ := q10
  have l11 := ltA g10_0.lt
  have l12 := ltA g10_5.lt
  exact X10.retV hret (D d17_21) (by decide) (by decide) (fun vmE CE => ⟨t10, kt10, rfl, ((Keep.refl h0 [x]).trans K10 (allS (Or.inl (memI (i := 0) rfl)) all0)), g10_0, g10_1, g10_2, g10_3, g10_4, g10_5, CE.safe (x := t10) (ltA (by omega)) g10_6, g10_7⟩)
abbrev RrmPsaU2 : Room := { frames := 7, cells := 1, slots := 32, locals := 102 }
def QrmPsaU2 (Z : State) (x : Addr) (s1 : Addr) (d : Addr) (kd : ClassId) (c0 : Int32) (c1 : Int32) (b : Addr) (kb : ClassId) (ds : List Int32) (h0 : Heap) (v : Option Value) (vm : Vm) (h : Heap) : Prop := ∃ (t : Addr) (kt : ClassId), v = none ∧ Keep h0 h [x, d] ∧ Exa Z h x "java/lang/StringBuilder" ∧ Fld Z h x "java/lang/AbstractStringBuilder" "value" "[B" (.ref t) ∧ Fld Z h x "java/lang/AbstractStringBuilder" "coder" "B" (.int (1 : Int32)) ∧ Fld Z h x "java/lang/AbstractStringBuilder" "count" "I" (.int (Int32.ofNat ([c0, c1]).length)) ∧ Fld Z h x "java/lang/AbstractStringBuilder" "maybeLatin1" "Z" (.int (0 : Int32)) ∧ Arv Z h t kt .byte (32 : Int32) (enc16 ([c0, c1] ++ ds)) (.int (0 : Int32)) ∧ Safe Z consts_1 vm h t ∧ h0.size ≤ t ∧ x ≠ t
theorem rmPsaU2 (hcx : Cx Z a0 zc fm) (x : Addr) (s1 : Addr) (d : Addr) (kd : ClassId) (c0 : Int32) (c1 : Int32) (b : Addr) (kb : ClassId) (ds : List Int32) (h0 : Heap) (O0 : Old Z Z.heap.size h0) (Pr0 : Exa Z h0 x "java/lang/StringBuilder") (Pr1 : Fld Z h0 x "java/lang/AbstractStringBuilder" "value" "[B" (.ref d)) (Pr2 : Fld Z h0 x "java/lang/AbstractStringBuilder" "coder" "B" (.int (0 : Int32))) (Pr3 : Fld Z h0 x "java/lang/AbstractStringBuilder" "count" "I" (.int (Int32.ofNat ([c0, c1]).length))) (Pr4 : Fld Z h0 x "java/lang/AbstractStringBuilder" "maybeLatin1" "Z" (.int (0 : Int32))) (Pr5 : Arv Z h0 d kd .byte (16 : Int32) (([c0, c1].map fun c => c.toInt8.toInt32).map Value.int) (.int (0 : Int32))) (Pr6 : StrU Z h0 s1 b kb ds) (Pr7 : ([c0, c1]).length + (ds).length ≤ 16) (Pr8 : Z.heap.size ≤ x) (Pr9 : Z.heap.size ≤ d) (Pr10 : x ≠ d) (Pr11 : ¬ c0 < 0 ∧ ¬ (255 : Int32) < c0) (Pr12 : ¬ c1 < 0 ∧ ¬ (255 : Int32) < c1) (Pr13 : b ≠ x) : Met l Z consts_1 (⟨"java/lang/AbstractStringBuilder", "putStringAt", "(ILjava/lang/String;)V"⟩ : MethodName) jdk_68_method_73_code 3 (none) [] RrmPsaU2 [d] #[(.ref x), (.int (Int32.ofNat ([c0, c1]).length)), (.ref s1)] h0 (QrmPsaU2 Z x s1 d kd c0 c1 b kb ds h0) := by
  have ⟨hw, hEL, O2, P5, O4, P6, OA, OH, OB⟩ := hcx
  refine Met.start (a0 := a0) (Ls := #[vR x, vI (Int32.ofNat ([c0, c1]).length), vR s1]) pn16 hEL O0 (fun m => by first | (simp [entryFrame, mkF, argsToLocals, Value.category]; done) | rfl) ?_
  intro p e s m below meth cc T0 vm0 X0 sf0_ hby hml hret hnm
  have hx := X0.hx
  have D : ∀ {n r}, decode B16 n = r → decode cc.code n = r := fun d => hb hby d
  have zz := X0.ge
  have A0 := X0.at
  have l1 := ltA Pr0.lt
  have l2 := ltA Pr5.lt
  have l3 := ltA Pr6.lt
  have l4 := ltA Pr6.lb
  have l5 := neA Pr10
  have l6 := neA Pr13
  have s7 := sf0_ d (memI (i := 0) rfl)
  refine Gets.via (fun _ k => (XS.aloadN A0 hx rfl (D d16_0) rfl rfl (XS.aloadN A0 hx rfl (D d16_1) rfl rfl k))) ?_
  refine X0.callP (W := 0) (w101 hw) (w102 hw) (w104 hw) (w103 hw) (w105 hw) (by decide) (X0.payM (sf := []) (rmInfU2 hcx x s1 d kd c0 c1 h0 X0.old Pr0 Pr1 Pr2 Pr3 Pr4 Pr5 Pr8 Pr11 Pr12 Pr6.1 Pr6.2.1) sf0 (w105 hw) (w54 hw)) Pr0 rfl (sz hml rfl) (argsL := [(.ref s1)]) (rest := []) (lenOf pd15 rfl) rfl rfl (mroom rfl rfl) (D d16_2) (by decide) (by decide) fun T8 h8 vm8 v8 X8 C8 z8 q8 => ?_
  obtain ⟨t8, kt8, rfl, K8, g8_0, g8_1, g8_2, g8_3, g8_4, g8_5, g8_6, g8_7⟩ := q8
  have l9 := ltA g8_0.lt
  have l10 := ltA g8_5.lt
  have A11 := X8.at
  refine Gets.via (fun _ k => (XS.aloadN A11 hx rfl (D d16_5) rfl rfl (XS.aloadN A11 hx rfl (D d16_6) rfl rfl k))) ?_
  refine X8.getF (host := "") (Or.inl (w58 hw)) Via.refl g8_1 rfl rfl (D d16_7) fun T12 X12 => ?_
  show Gets p e below _ (T12.setTop (mkF m 10 #[vR x, vI (Int32.ofNat ([c0, c1]).length), vR s1] [(.ref t8), (.ref s1)]))
  have A13 := X12.at
  refine Gets.via (fun _ k => (XS.iloadN A13 hx rfl (D d16_10) rfl (XS.aloadN A13 hx rfl (D d16_11) rfl rfl k))) ?_
  refine X12.getF (host := "") (Or.inl (w60 hw)) Via.refl g8_2 rfl rfl (D d16_12) fun T14 X14 => ?_
  have l15 := neA (Exa.ne Pr6.1 Pr0 (by decide))
  have f16 : StrU Z h8 s1 b kb ds := Pr6.keep K8 (ninS (neA (by omega)) nin0) (ninS (neA (by omega)) nin0)
  refine X14.callV (W := 0) (w107 hw) (w108 hw) (w110 hw) (w109 hw) (nfs rfl (w110 hw)) (by decide) (X14.payM (sf := [t8]) (rmGb1 hcx s1 t8 [c0, c1] b kb ds kt8 h8 X14.old f16 g8_5 Pr7 (leA (by omega))) (sfS g8_6 sf0) (w111 hw) (w6 hw)) f16.1 rfl (sz hml rfl) (argsL := [(.ref t8), (.int (Int32.ofNat ([c0, c1]).length)), (.int (1 : Int32))]) (rest := []) (lenOf pd16 rfl) rfl rfl (mroom rfl rfl) (D d16_15) (by decide) (by decide) fun T17 h17 vm17 v17 X17 C17 z17 q17 => ?_
  obtain ⟨rfl, K17, g17_0⟩ := q17
  have l18 := ltA g17_0.lt
  have f19 := g8_0.keep K17
  have f20 := g8_1.keep K17 (ninS (neA (by omega)) nin0)
  have f21 := g8_2.keep K17 (ninS (neA (by omega)) nin0)
  have f22 := g8_3.keep K17 (ninS (neA (by omega)) nin0)
  have f23 := g8_4.keep K17 (ninS (neA (by omega)) nin0)
  have f24 := C17.safe (x := t8) (ltA (by omega)) g8_6
  exact X17.retV hret (D d16_18) (by decide) (by decide) (fun vmE CE => ⟨t8, kt8, rfl, (((Keep.refl h0 [x, d]).trans K8 (allS (Or.inl (memI (i := 0) rfl)) all0)).trans K17 (allS (Or.inr (leA (by omega))) all0)), f19, f20, f21, f22, f23, g17_0, CE.safe (x := t8) (ltA (by omega)) f24, g8_7, (neA (by omega))⟩)
abbrev RrmAapU2 : Room := { frames := 8, cells := 1, slots := 32, locals := 116 }
def QrmAapU2 (Z : State) (x : Addr) (s1 : Addr) (d : Addr) (kd : ClassId) (c0 : Int32) (c1 : Int32) (b : Addr) (kb : ClassId) (ds : List Int32) (h0 : Heap) (v : Option Value) (vm : Vm) (h : Heap) : Prop := ∃ (t : Addr) (kt : ClassId), v = some (.ref x) ∧ Keep h0 h [x, d] ∧ Exa Z h x "java/lang/StringBuilder" ∧ Fld Z h x "java/lang/AbstractStringBuilder" "value" "[B" (.ref t) ∧ Fld Z h x "java/lang/AbstractStringBuilder" "coder" "B" (.int (1 : Int32)) ∧ Fld Z h x "java/lang/AbstractStringBuilder" "count" "I" (.int (Int32.ofNat (([c0, c1] ++ ds)).length)) ∧ Fld Z h x "java/lang/AbstractStringBuilder" "maybeLatin1" "Z" (.int (0 : Int32)) ∧ Arv Z h t kt .byte (32 : Int32) (enc16 ([c0, c1] ++ ds)) (.int (0 : Int32)) ∧ Safe Z consts_1 vm h t ∧ h0.size ≤ t ∧ x ≠ t
theorem rmAapU2 (hcx : Cx Z a0 zc fm) (x : Addr) (s1 : Addr) (d : Addr) (kd : ClassId) (c0 : Int32) (c1 : Int32) (b : Addr) (kb : ClassId) (ds : List Int32) (h0 : Heap) (O0 : Old Z Z.heap.size h0) (Pr0 : Exa Z h0 x "java/lang/StringBuilder") (Pr1 : Fld Z h0 x "java/lang/AbstractStringBuilder" "value" "[B" (.ref d)) (Pr2 : Fld Z h0 x "java/lang/AbstractStringBuilder" "coder" "B" (.int (0 : Int32))) (Pr3 : Fld Z h0 x "java/lang/AbstractStringBuilder" "count" "I" (.int (Int32.ofNat ([c0, c1]).length))) (Pr4 : Fld Z h0 x "java/lang/AbstractStringBuilder" "maybeLatin1" "Z" (.int (0 : Int32))) (Pr5 : Arv Z h0 d kd .byte (16 : Int32) (([c0, c1].map fun c => c.toInt8.toInt32).map Value.int) (.int (0 : Int32))) (Pr6 : StrU Z h0 s1 b kb ds) (Pr7 : ([c0, c1]).length + (ds).length ≤ 16) (Pr8 : Z.heap.size ≤ x) (Pr9 : Z.heap.size ≤ d) (Pr10 : x ≠ d) (Pr11 : ¬ c0 < 0 ∧ ¬ (255 : Int32) < c0) (Pr12 : ¬ c1 < 0 ∧ ¬ (255 : Int32) < c1) (Pr13 : b ≠ x) : Met l Z consts_1 (⟨"java/lang/AbstractStringBuilder", "append", "(Ljava/lang/String;)Ljava/lang/AbstractStringBuilder;"⟩ : MethodName) jdk_68_method_22_code 3 (some (.object "java/lang/AbstractStringBuilder")) [] RrmAapU2 [d] #[(.ref x), (.ref s1)] h0 (QrmAapU2 Z x s1 d kd c0 c1 b kb ds h0) := by
  have ⟨hw, hEL, O2, P5, O4, P6, OA, OH, OB⟩ := hcx
  refine Met.start (a0 := a0) (Ls := #[vR x, vR s1, .unset]) pn12 hEL O0 (fun m => by first | (simp [entryFrame, mkF, argsToLocals, Value.category]; done) | rfl) ?_
  intro p e s m below meth cc T0 vm0 X0 sf0_ hby hml hret hnm
  have hx := X0.hx
  have D : ∀ {n r}, decode B12 n = r → decode cc.code n = r := fun d => hb hby d
  have zz := X0.ge
  have A0 := X0.at
  have l1 := ltA Pr0.lt
  have l2 := ltA Pr5.lt
  have l3 := ltA Pr6.lt
  have l4 := ltA Pr6.lb
  have l5 := neA Pr10
  have l6 := neA Pr13
  have s7 := sf0_ d (memI (i := 0) rfl)
  have l4 := Pr6.2.2.2.2.2
  refine Gets.via (fun _ k => (XS.aloadN A0 hx rfl (D d12_0) rfl rfl (XS.ifnonnullYes A0 hx rfl (pc0 := 1) (pc' := 9) rfl (D d12_1) rfl (by decide) (by decide) k))) ?_
  refine Gets.via (fun _ k => (XS.aloadN A0 hx rfl (D d12_9) rfl rfl k)) ?_
  refine X0.callV (W := 0) (w79 hw) (w80 hw) (w82 hw) (w81 hw) (nfs rfl (w82 hw)) (by decide) (X0.payM (sf := []) (rmLen1 hcx s1 b kb ds h0 X0.old Pr6) sf0 (w83 hw) (w6 hw)) Pr6.1 rfl (sz hml rfl) (argsL := []) (rest := []) (lenOf pd17 rfl) rfl rfl (mroom rfl rfl) (D d12_10) (by decide) (by decide) fun T8 h8 vm8 v8 X8 C8 z8 q8 => ?_
  obtain ⟨rfl, K8⟩ := q8
  rw [K8] at X8 C8
  have A9 := X8.at
  refine Gets.via (fun _ k => (XS.istoreN A9 hx rfl (D d12_13) rfl (l' := #[vR x, vR s1, vI (Int32.ofNat (ds).length)]) rfl (XS.aloadN A9 hx rfl (D d12_14) rfl rfl (XS.aloadN A9 hx rfl (D d12_15) rfl rfl k)))) ?_
  show Gets p e below _ (T8.setTop (mkF m 16 #[vR x, vR s1, vI (Int32.ofNat (ds).length)] [(.ref x), (.ref x)]))
  refine X8.getF (host := "") (Or.inl (w89 hw)) Via.refl Pr3 rfl rfl (D d12_16) fun T10 X10 => ?_
  have A11 := X10.at
  refine Gets.via (fun _ k => (XS.iloadN A11 hx rfl (D d12_19) rfl (XS.iadd A11 hx rfl (D d12_20) rfl k))) ?_
  show Gets p e below _ (T10.setTop (mkF m 21 #[vR x, vR s1, vI (Int32.ofNat (ds).length)] [(.int ((Int32.ofNat ([c0, c1]).length) + (Int32.ofNat (ds).length))), (.ref x)]))
  rw [of_add]
  refine X10.callP (W := 0) (w91 hw) (w92 hw) (w94 hw) (w93 hw) (w95 hw) (by decide) (X10.payM (sf := []) (rmEns0 hcx x (([c0, c1]).length + (ds).length) d kd (([c0, c1].map fun c => c.toInt8.toInt32).map Value.int) h0 X10.old Pr0 Pr1 Pr2 Pr5 (by simp only [List.length_append, List.length_cons, List.length_nil]; omega)) sf0 (w95 hw) (w54 hw)) Pr0 rfl (sz hml rfl) (argsL := [(.int (Int32.ofNat (([c0, c1]).length + (ds).length)))]) (rest := []) (lenOf pd14 rfl) rfl rfl (mroom rfl rfl) (D d12_21) (by decide) (by decide) fun T12 h12 vm12 v12 X12 C12 z12 q12 => ?_
  obtain ⟨rfl, K12⟩ := q12
  rw [K12] at X12 C12
  have A13 := X12.at
  refine Gets.via (fun _ k => (XS.aloadN A13 hx rfl (D d12_24) rfl rfl (XS.aloadN A13 hx rfl (D d12_25) rfl rfl k))) ?_
  refine X12.getF (host := "") (Or.inl (w89 hw)) Via.refl Pr3 rfl rfl (D d12_26) fun T14 X14 => ?_
  have A15 := X14.at
  refine Gets.via (fun _ k => (XS.aloadN A15 hx rfl (D d12_29) rfl rfl k)) ?_
  show Gets p e below _ (T14.setTop (mkF m 30 #[vR x, vR s1, vI (Int32.ofNat (ds).length)] [(.ref s1), (.int (Int32.ofNat ([c0, c1]).length)), (.ref x)]))
  have f16 := C8.safe (x := d) (ltA (by omega)) s7
  have f17 := C12.safe (x := d) (ltA (by omega)) f16
  refine X14.callP (W := 0) (w96 hw) (w97 hw) (w99 hw) (w98 hw) (w100 hw) (by decide) (X14.payM (sf := [d]) (rmPsaU2 hcx x s1 d kd c0 c1 b kb ds h0 X14.old Pr0 Pr1 Pr2 Pr3 Pr4 Pr5 Pr6 Pr7 Pr8 Pr9 Pr10 Pr11 Pr12 Pr13) (sfS f17 sf0) (w100 hw) (w54 hw)) Pr0 rfl (sz hml rfl) (argsL := [(.int (Int32.ofNat ([c0, c1]).length)), (.ref s1)]) (rest := []) (lenOf pd18 rfl) rfl rfl (mroom rfl rfl) (D d12_30) (by decide) (by decide) fun T18 h18 vm18 v18 X18 C18 z18 q18 => ?_
  obtain ⟨t18, kt18, rfl, K18, g18_0, g18_1, g18_2, g18_3, g18_4, g18_5, g18_6, g18_7, g18_8⟩ := q18
  have l19 := ltA g18_0.lt
  have l20 := ltA g18_5.lt
  have l21 := neA g18_8
  have A22 := X18.at
  refine Gets.via (fun _ k => (XS.aloadN A22 hx rfl (D d12_33) rfl rfl (XS.dup A22 hx rfl (D d12_34) rfl rfl k))) ?_
  refine X18.getF (host := "") (Or.inl (w89 hw)) Via.refl g18_3 rfl rfl (D d12_35) fun T23 X23 => ?_
  have A24 := X23.at
  refine Gets.via (fun _ k => (XS.iloadN A24 hx rfl (D d12_38) rfl (XS.iadd A24 hx rfl (D d12_39) rfl k))) ?_
  show Gets p e below _ (T23.setTop (mkF m 40 #[vR x, vR s1, vI (Int32.ofNat (ds).length)] [(.int ((Int32.ofNat ([c0, c1]).length) + (Int32.ofNat (ds).length))), (.ref x)]))
  rw [of_add, ← List.length_append]
  refine X23.putF (host := "") (Or.inl (w89 hw)) Via.refl g18_3 g18_0 (Or.inl (w90 hw)) (w45 hw) (ty := .int) (by decide) rfl rfl (leA (by omega)) (Safe.exa X23.hZ.alike g18_0 (by decide) (by decide)) rfl rfl (D d12_40) fun T25 h25 X25 C25 W25 F25 Z25 => ?_
  have z25 := W25.size
  have A26 := X25.at
  refine Gets.via (fun _ k => (XS.aloadN A26 hx rfl (D d12_43) rfl rfl k)) ?_
  have f27 := g18_1.other W25 (Or.inr (slot_ne (t := (.array .byte)) (t' := .int) (Or.inl (w59 hw)) (Or.inl (w90 hw)) (by decide) (by decide) (by decide)))
  have f28 := g18_2.other W25 (Or.inr (slot_ne (t := .byte) (t' := .int) (Or.inl (w61 hw)) (Or.inl (w90 hw)) (by decide) (by decide) (by decide)))
  have f29 := g18_4.other W25 (Or.inr (slot_ne (t := .boolean) (t' := .int) (Or.inl (w259 hw)) (Or.inl (w90 hw)) (by decide) (by decide) (by decide)))
  have f30 := g18_5.other W25 (neA (by omega))
  have f31 := C25.safe (x := t18) (ltA (by omega)) g18_6
  exact X25.retA hret rfl rfl rfl (D d12_44) (by decide) (by decide) (fun vmE CE => ⟨t18, kt18, rfl, (((Keep.refl h0 [x, d]).trans K18 (allS (Or.inl (memI (i := 0) rfl)) (allS (Or.inl (memI (i := 1) rfl)) all0))).wr W25 (Or.inl (memI (i := 0) rfl))), Z25, f27, f28, F25, f29, f30, CE.safe (x := t18) (ltA (by omega)) f31, g18_7, g18_8⟩)
abbrev RrmAppU2 : Room := { frames := 9, cells := 1, slots := 32, locals := 130 }
def QrmAppU2 (Z : State) (x : Addr) (s1 : Addr) (d : Addr) (kd : ClassId) (c0 : Int32) (c1 : Int32) (b : Addr) (kb : ClassId) (ds : List Int32) (h0 : Heap) (v : Option Value) (vm : Vm) (h : Heap) : Prop := ∃ (t : Addr) (kt : ClassId), v = some (.ref x) ∧ Keep h0 h [x, d] ∧ Exa Z h x "java/lang/StringBuilder" ∧ Fld Z h x "java/lang/AbstractStringBuilder" "value" "[B" (.ref t) ∧ Fld Z h x "java/lang/AbstractStringBuilder" "coder" "B" (.int (1 : Int32)) ∧ Fld Z h x "java/lang/AbstractStringBuilder" "count" "I" (.int (Int32.ofNat (([c0, c1] ++ ds)).length)) ∧ Fld Z h x "java/lang/AbstractStringBuilder" "maybeLatin1" "Z" (.int (0 : Int32)) ∧ Arv Z h t kt .byte (32 : Int32) (enc16 ([c0, c1] ++ ds)) (.int (0 : Int32)) ∧ Safe Z consts_1 vm h t ∧ h0.size ≤ t ∧ x ≠ t
theorem rmAppU2 (hcx : Cx Z a0 zc fm) (x : Addr) (s1 : Addr) (d : Addr) (kd : ClassId) (c0 : Int32) (c1 : Int32) (b : Addr) (kb : ClassId) (ds : List Int32) (h0 : Heap) (O0 : Old Z Z.heap.size h0) (Pr0 : Exa Z h0 x "java/lang/StringBuilder") (Pr1 : Fld Z h0 x "java/lang/AbstractStringBuilder" "value" "[B" (.ref d)) (Pr2 : Fld Z h0 x "java/lang/AbstractStringBuilder" "coder" "B" (.int (0 : Int32))) (Pr3 : Fld Z h0 x "java/lang/AbstractStringBuilder" "count" "I" (.int (Int32.ofNat ([c0, c1]).length))) (Pr4 : Fld Z h0 x "java/lang/AbstractStringBuilder" "maybeLatin1" "Z" (.int (0 : Int32))) (Pr5 : Arv Z h0 d kd .byte (16 : Int32) (([c0, c1].map fun c => c.toInt8.toInt32).map Value.int) (.int (0 : Int32))) (Pr6 : StrU Z h0 s1 b kb ds) (Pr7 : ([c0, c1]).length + (ds).length ≤ 16) (Pr8 : Z.heap.size ≤ x) (Pr9 : Z.heap.size ≤ d) (Pr10 : x ≠ d) (Pr11 : ¬ c0 < 0 ∧ ¬ (255 : Int32) < c0) (Pr12 : ¬ c1 < 0 ∧ ¬ (255 : Int32) < c1) (Pr13 : b ≠ x) : Met l Z consts_1 (⟨"java/lang/StringBuilder", "append", "(Ljava/lang/String;)Ljava/lang/StringBuilder;"⟩ : MethodName) jdk_67_method_7_code 2 (some (.object "java/lang/StringBuilder")) [] RrmAppU2 [d] #[(.ref x), (.ref s1)] h0 (QrmAppU2 Z x s1 d kd c0 c1 b kb ds h0) := by
  have ⟨hw, hEL, O2, P5, O4, P6, OA, OH, OB⟩ := hcx
  refine Met.start (a0 := a0) (Ls := #[vR x, vR s1]) pn11 hEL O0 (fun m => by first | (simp [entryFrame, mkF, argsToLocals, Value.category]; done) | rfl) ?_
  intro p e s m below meth cc T0 vm0 X0 sf0_ hby hml hret hnm
  have hx := X0.hx
  have D : ∀ {n r}, decode B11 n = r → decode cc.code n = r := fun d => hb hby d
  have zz := X0.ge
  have A0 := X0.at
  have l1 := ltA Pr0.lt
  have l2 := ltA Pr5.lt
  have l3 := ltA Pr6.lt
  have l4 := ltA Pr6.lb
  have l5 := neA Pr10
  have l6 := neA Pr13
  have s7 := sf0_ d (memI (i := 0) rfl)
  refine Gets.via (fun _ k => (XS.aloadN A0 hx rfl (D d11_0) rfl rfl (XS.aloadN A0 hx rfl (D d11_1) rfl rfl k))) ?_
  refine X0.callU (W := 0) (by decide) (w74 hw) (same_self (w75 hw) (w94 hw) rfl (by decide)) (w75 hw) (w76 hw) (w78 hw) (X0.payM (sf := [d]) (rmAapU2 hcx x s1 d kd c0 c1 b kb ds h0 X0.old Pr0 Pr1 Pr2 Pr3 Pr4 Pr5 Pr6 Pr7 Pr8 Pr9 Pr10 Pr11 Pr12 Pr13) (sfS s7 sf0) (w78 hw) (w54 hw)) Pr0 rfl (sz hml rfl) (argsL := [(.ref s1)]) (rest := []) (lenOf pd19 rfl) rfl rfl (mroom rfl rfl) (D d11_2) (by decide) (by decide) fun T8 h8 vm8 v8 X8 C8 z8 q8 => ?_
  obtain ⟨t8, kt8, rfl, K8, g8_0, g8_1, g8_2, g8_3, g8_4, g8_5, g8_6, g8_7, g8_8⟩ := q8
  have l9 := ltA g8_0.lt
  have l10 := ltA g8_5.lt
  have l11 := neA g8_8
  have A12 := X8.at
  refine Gets.via (fun _ k => (XS.pop A12 hx rfl (D d11_5) rfl rfl (XS.aloadN A12 hx rfl (D d11_6) rfl rfl k))) ?_
  exact X8.retA hret rfl rfl rfl (D d11_7) (by decide) (by decide) (fun vmE CE => ⟨t8, kt8, rfl, ((Keep.refl h0 [x, d]).trans K8 (allS (Or.inl (memI (i := 0) rfl)) (allS (Or.inl (memI (i := 1) rfl)) all0))), g8_0, g8_1, g8_2, g8_3, g8_4, g8_5, CE.safe (x := t8) (ltA (by omega)) g8_6, g8_7, g8_8⟩)
abbrev RrmUco3 : Room := { frames := 2, cells := 0, slots := 0, locals := 29 }
def QrmUco3 (Z : State) (t : Addr) (kt : ClassId) (vs : List Value) (h0 : Heap) (v : Option Value) (vm : Vm) (h : Heap) : Prop := v = none ∧ h = h0
theorem rmUco3 (hcx : Cx Z a0 zc fm) (t : Addr) (kt : ClassId) (vs : List Value) (h0 : Heap) (O0 : Old Z Z.heap.size h0) (Pr0 : Arv Z h0 t kt .byte (32 : Int32) vs (.int (0 : Int32))) : Met l Z consts_1 (⟨"java/lang/StringUTF16", "checkBoundsOffCount", "(II[B)V"⟩ : MethodName) jdk_52_method_94_code 3 (none) [] RrmUco3 [] #[(.int (0 : Int32)), (.int (3 : Int32)), (.ref t)] h0 (QrmUco3 Z t kt vs h0) := by
  have ⟨hw, hEL, O2, P5, O4, P6, OA, OH, OB⟩ := hcx
  refine Met.start (a0 := a0) (Ls := #[vI (0 : Int32), vI (3 : Int32), vR t]) pn48 hEL O0 (fun m => by first | (simp [entryFrame, mkF, argsToLocals, Value.category]; done) | rfl) ?_
  intro p e s m below meth cc T0 vm0 X0 sf0_ hby hml hret hnm
  have hx := X0.hx
  have D : ∀ {n r}, decode B48 n = r → decode cc.code n = r := fun d => hb hby d
  have zz := X0.ge
  have A0 := X0.at
  have l1 := ltA Pr0.lt
  refine Gets.via (fun _ k => (XS.iloadN A0 hx rfl (D d48_0) rfl (XS.iloadN A0 hx rfl (D d48_1) rfl (XS.aloadN A0 hx rfl (D d48_2) rfl rfl k)))) ?_
  refine X0.callS (W := 2) (w242 hw) (w243 hw) (w21 hw) (w244 hw) (by decide) (X0.payM (sf := []) (rmULen hcx t kt 16 vs h0 X0.old Pr0 (by decide)) sf0 (w244 hw) (w21 hw)) rfl (sz hml rfl) (argsL := [(.ref t)]) (rest := [(.int (3 : Int32)), (.int (0 : Int32))]) (lenOf pd3 rfl) rfl rfl (mroom rfl rfl) (D d48_3) (by decide) (by decide) fun T2 h2 vm2 v2 X2 C2 z2 q2 => ?_
  obtain ⟨rfl, K2⟩ := q2
  rw [K2] at X2 C2
  refine X2.callS (W := 0) (w245 hw) (w246 hw) (w6 hw) (w247 hw) (by decide) (X2.payM (sf := []) (rm50 hcx (0 : Int32) (3 : Int32) (Int32.ofNat 16) h0 X2.old (by decide) (by decide)) sf0 (w247 hw) (w6 hw)) rfl (sz hml rfl) (argsL := [(.int (0 : Int32)), (.int (3 : Int32)), (.int (Int32.ofNat 16))]) (rest := []) (lenOf pd25 rfl) rfl rfl (mroom rfl rfl) (D d48_6) (by decide) (by decide) fun T3 h3 vm3 v3 X3 C3 z3 q3 => ?_
  obtain ⟨rfl, K3⟩ := q3
  rw [K3] at X3 C3
  show Gets p e below _ (T3.setTop (mkF m 9 #[vI (0 : Int32), vI (3 : Int32), vR t] [(.int (0 : Int32))]))
  have A4 := X3.at
  refine Gets.via (fun _ k => (XS.pop A4 hx rfl (D d48_9) rfl rfl k)) ?_
  exact X3.retV hret (D d48_10) (by decide) (by decide) (fun vmE CE => ⟨rfl, rfl⟩)
abbrev RrmUinf3 : Room := { frames := 3, cells := 0, slots := 0, locals := 43 }
def QrmUinf3 (Z : State) (d : Addr) (t : Addr) (kd : ClassId) (kt : ClassId) (c0 : Int32) (c1 : Int32) (c2 : Int32) (h0 : Heap) (v : Option Value) (vm : Vm) (h : Heap) : Prop := v = none ∧ Keep h0 h [t] ∧ Arv Z h t kt .byte (32 : Int32) (enc16 [c0, c1, c2]) (.int (0 : Int32))
theorem rmUinf3 (hcx : Cx Z a0 zc fm) (d : Addr) (t : Addr) (kd : ClassId) (kt : ClassId) (c0 : Int32) (c1 : Int32) (c2 : Int32) (h0 : Heap) (O0 : Old Z Z.heap.size h0) (Pr0 : Arv Z h0 d kd .byte (16 : Int32) (([c0, c1, c2].map fun c => c.toInt8.toInt32).map Value.int) (.int (0 : Int32))) (Pr1 : Arv Z h0 t kt .byte (32 : Int32) [] (.int (0 : Int32))) (Pr2 : Z.heap.size ≤ t) (Pr3 : d ≠ t) (Pr4 : ¬ c0 < 0 ∧ ¬ (255 : Int32) < c0) (Pr5 : ¬ c1 < 0 ∧ ¬ (255 : Int32) < c1) (Pr6 : ¬ c2 < 0 ∧ ¬ (255 : Int32) < c2) : Met l Z consts_1 (⟨"java/lang/StringUTF16", "inflate", "([BI[BII)V"⟩ : MethodName) jdk_52_method_86_code 6 (none) [] RrmUinf3 [t] #[(.ref d), (.int (0 : Int32)), (.ref t), (.int (0 : Int32)), (.int (3 : Int32))] h0 (QrmUinf3 Z d t kd kt c0 c1 c2 h0) := by
  have ⟨hw, hEL, O2, P5, O4, P6, OA, OH, OB⟩ := hcx
  refine Met.start (a0 := a0) (Ls := #[vR d, vI (0 : Int32), vR t, vI (0 : Int32), vI (3 : Int32), .unset]) pn47 hEL O0 (fun m => by first | (simp [entryFrame, mkF, argsToLocals, Value.category]; done) | rfl) ?_
  intro p e s m below meth cc T0 vm0 X0 sf0_ hby hml hret hnm
  have hx := X0.hx
  have D : ∀ {n r}, decode B47 n = r → decode cc.code n = r := fun d => hb hby d
  have zz := X0.ge
  have A0 := X0.at
  have l1 := ltA Pr0.lt
  have l2 := ltA Pr1.lt
  have l3 := neA Pr3
  have s4 := sf0_ t (memI (i := 0) rfl)
  refine Gets.via (fun _ k => (XS.iloadN A0 hx rfl (D d47_0) rfl (XS.iload A0 hx rfl (D d47_1) rfl (XS.aloadN A0 hx rfl (D d47_3) rfl rfl k)))) ?_
  refine X0.callS (W := 0) (w239 hw) (w240 hw) (w21 hw) (w241 hw) (by decide) (X0.payM (sf := []) (rmUco3 hcx t kt [] h0 X0.old Pr1) sf0 (w241 hw) (w21 hw)) rfl (sz hml rfl) (argsL := [(.int (0 : Int32)), (.int (3 : Int32)), (.ref t)]) (rest := []) (lenOf pd26 rfl) rfl rfl (mroom rfl rfl) (D d47_4) (by decide) (by decide) fun T5 h5 vm5 v5 X5 C5 z5 q5 => ?_
  obtain ⟨rfl, K5⟩ := q5
  rw [K5] at X5 C5
  have A6 := X5.at
  refine Gets.via (fun _ k => (XS.iconst A6 hx rfl (D d47_7) (XS.istore A6 hx rfl (D d47_8) rfl (l' := #[vR d, vI (0 : Int32), vR t, vI (0 : Int32), vI (3 : Int32), vI (0 : Int32)]) rfl (XS.iload A6 hx rfl (D d47_10) rfl (XS.iload A6 hx rfl (D d47_12) rfl (XS.icmpNo A6 hx rfl (D d47_14) rfl (Jvm.Free.XT.ii_ge_f (by decide)) k)))))) ?_
  show Gets p e below _ (T5.setTop (mkF m 17 #[vR d, vI (0 : Int32), vR t, vI (0 : Int32), vI (3 : Int32), vI (0 : Int32)] []))
  refine Gets.via (fun _ k => (XS.aloadN A6 hx rfl (D d47_17) rfl rfl (XS.iloadN A6 hx rfl (D d47_18) rfl (iincV A6 hx rfl (D d47_19) rfl (v := (1 : Int32)) (by decide) (l' := #[vR d, vI (0 : Int32), vR t, vI (1 : Int32), vI (3 : Int32), vI (0 : Int32)]) rfl (XS.aloadN A6 hx rfl (D d47_22) rfl rfl (XS.iloadN A6 hx rfl (D d47_23) rfl (iincV A6 hx rfl (D d47_24) rfl (v := (1 : Int32)) (by decide) (l' := #[vR d, vI (1 : Int32), vR t, vI (1 : Int32), vI (3 : Int32), vI (0 : Int32)]) rfl k))))))) ?_
  refine X5.ldB Pr0 (j := (0 : Int32)) (i := 0) (by decide) (by decide) (by decide) (v := (.int (c0.toInt8.toInt32))) rfl rfl rfl (D d47_27) ?_
  refine Gets.via (fun _ k => (XS.sipush A6 hx rfl (D d47_28) (XS.iand A6 hx rfl (D d47_31) rfl k))) ?_
  show Gets p e below _ (T5.setTop (mkF m 32 #[vR d, vI (1 : Int32), vR t, vI (1 : Int32), vI (3 : Int32), vI (0 : Int32)] [(.int ((c0.toInt8.toInt32) &&& (255 : Int32))), (.int (0 : Int32)), (.ref t)]))
  rw [show (c0.toInt8.toInt32) &&& (255 : Int32) = c0 from StrChars.lo8_mask Pr4.1 Pr4.2]
  have f7 := C5.safe (x := t) (ltA (by omega)) s4
  refine X5.callS (W := 0) (w218 hw) (w219 hw) (w21 hw) (w220 hw) (by decide) (X5.payM (sf := [t]) (rmPutC hcx t 0 c0 kt (32 : Int32) 32 [] h0 X5.old Pr1 rfl (by decide) rfl (by decide) Pr2) (sfS f7 sf0) (w220 hw) (w21 hw)) rfl (sz hml rfl) (argsL := [(.ref t), (.int (0 : Int32)), (.int c0)]) (rest := []) (lenOf pd10 rfl) rfl rfl (mroom rfl rfl) (D d47_32) (by decide) (by decide) fun T8 h8 vm8 v8 X8 C8 z8 q8 => ?_
  obtain ⟨rfl, K8, g8_0⟩ := q8
  have l9 := ltA g8_0.lt
  have A10 := X8.at
  refine Gets.via (fun _ k => (iincV A10 hx rfl (D d47_35) rfl (v := (1 : Int32)) (by decide) (l' := #[vR d, vI (1 : Int32), vR t, vI (1 : Int32), vI (3 : Int32), vI (1 : Int32)]) rfl (XS.goto A10 hx rfl (pc0 := 38) (pc' := 10) rfl (D d47_38) (by decide) (by decide) k))) ?_
  refine Gets.via (fun _ k => (XS.iload A10 hx rfl (D d47_10) rfl (XS.iload A10 hx rfl (D d47_12) rfl (XS.icmpNo A10 hx rfl (D d47_14) rfl (Jvm.Free.XT.ii_ge_f (by decide)) k)))) ?_
  refine Gets.via (fun _ k => (XS.aloadN A10 hx rfl (D d47_17) rfl rfl (XS.iloadN A10 hx rfl (D d47_18) rfl (iincV A10 hx rfl (D d47_19) rfl (v := (2 : Int32)) (by decide) (l' := #[vR d, vI (1 : Int32), vR t, vI (2 : Int32), vI (3 : Int32), vI (1 : Int32)]) rfl (XS.aloadN A10 hx rfl (D d47_22) rfl rfl (XS.iloadN A10 hx rfl (D d47_23) rfl (iincV A10 hx rfl (D d47_24) rfl (v := (2 : Int32)) (by decide) (l' := #[vR d, vI (2 : Int32), vR t, vI (2 : Int32), vI (3 : Int32), vI (1 : Int32)]) rfl k))))))) ?_
  show Gets p e below _ (T8.setTop (mkF m 27 #[vR d, vI (2 : Int32), vR t, vI (2 : Int32), vI (3 : Int32), vI (1 : Int32)] [(.int (1 : Int32)), (.ref d), (.int (1 : Int32)), (.ref t)]))
  have f11 := Pr0.keep K8 (ninS (neA (by omega)) nin0)
  refine X8.ldB f11 (j := (1 : Int32)) (i := 1) (by decide) (by decide) (by decide) (v := (.int (c1.toInt8.toInt32))) rfl rfl rfl (D d47_27) ?_
  refine Gets.via (fun _ k => (XS.sipush A10 hx rfl (D d47_28) (XS.iand A10 hx rfl (D d47_31) rfl k))) ?_
  show Gets p e below _ (T8.setTop (mkF m 32 #[vR d, vI (2 : Int32), vR t, vI (2 : Int32), vI (3 : Int32), vI (1 : Int32)] [(.int ((c1.toInt8.toInt32) &&& (255 : Int32))), (.int (1 : Int32)), (.ref t)]))
  rw [show (c1.toInt8.toInt32) &&& (255 : Int32) = c1 from StrChars.lo8_mask Pr5.1 Pr5.2]
  have f12 := C8.safe (x := t) (ltA (by omega)) f7
  refine X8.callS (W := 0) (w218 hw) (w219 hw) (w21 hw) (w220 hw) (by decide) (X8.payM (sf := [t]) (rmPutC hcx t 1 c1 kt (32 : Int32) 32 (([] ++ [(.int (c0.toInt8.toInt32))]) ++ [(.int ((c0 >>> ((8 : Int32) &&& (31 : Int32))).toInt8.toInt32))]) h8 X8.old g8_0 rfl (by decide) rfl (by decide) Pr2) (sfS f12 sf0) (w220 hw) (w21 hw)) rfl (sz hml rfl) (argsL := [(.ref t), (.int (1 : Int32)), (.int c1)]) (rest := []) (lenOf pd10 rfl) rfl rfl (mroom rfl rfl) (D d47_32) (by decide) (by decide) fun T13 h13 vm13 v13 X13 C13 z13 q13 => ?_
  obtain ⟨rfl, K13, g13_0⟩ := q13
  have l14 := ltA g13_0.lt
  have A15 := X13.at
  refine Gets.via (fun _ k => (iincV A15 hx rfl (D d47_35) rfl (v := (2 : Int32)) (by decide) (l' := #[vR d, vI (2 : Int32), vR t, vI (2 : Int32), vI (3 : Int32), vI (2 : Int32)]) rfl (XS.goto A15 hx rfl (pc0 := 38) (pc' := 10) rfl (D d47_38) (by decide) (by decide) k))) ?_
  refine Gets.via (fun _ k => (XS.iload A15 hx rfl (D d47_10) rfl (XS.iload A15 hx rfl (D d47_12) rfl (XS.icmpNo A15 hx rfl (D d47_14) rfl (Jvm.Free.XT.ii_ge_f (by decide)) k)))) ?_
  refine Gets.via (fun _ k => (XS.aloadN A15 hx rfl (D d47_17) rfl rfl (XS.iloadN A15 hx rfl (D d47_18) rfl (iincV A15 hx rfl (D d47_19) rfl (v := (3 : Int32)) (by decide) (l' := #[vR d, vI (2 : Int32), vR t, vI (3 : Int32), vI (3 : Int32), vI (2 : Int32)]) rfl (XS.aloadN A15 hx rfl (D d47_22) rfl rfl (XS.iloadN A15 hx rfl (D d47_23) rfl (iincV A15 hx rfl (D d47_24) rfl (v := (3 : Int32)) (by decide) (l' := #[vR d, vI (3 : Int32), vR t, vI (3 : Int32), vI (3 : Int32), vI (2 : Int32)]) rfl k))))))) ?_
  show Gets p e below _ (T13.setTop (mkF m 27 #[vR d, vI (3 : Int32), vR t, vI (3 : Int32), vI (3 : Int32), vI (2 : Int32)] [(.int (2 : Int32)), (.ref d), (.int (2 : Int32)), (.ref t)]))
  have f16 := f11.keep K13 (ninS (neA (by omega)) nin0)
  refine X13.ldB f16 (j := (2 : Int32)) (i := 2) (by decide) (by decide) (by decide) (v := (.int (c2.toInt8.toInt32))) rfl rfl rfl (D d47_27) ?_
  refine Gets.via (fun _ k => (XS.sipush A15 hx rfl (D d47_28) (XS.iand A15 hx rfl (D d47_31) rfl k))) ?_
  show Gets p e below _ (T13.setTop (mkF m 32 #[vR d, vI (3 : Int32), vR t, vI (3 : Int32), vI (3 : Int32), vI (2 : Int32)] [(.int ((c2.toInt8.toInt32) &&& (255 : Int32))), (.int (2 : Int32)), (.ref t)]))
  rw [show (c2.toInt8.toInt32) &&& (255 : Int32) = c2 from StrChars.lo8_mask Pr6.1 Pr6.2]
  have f17 := C13.safe (x := t) (ltA (by omega)) f12
  refine X13.callS (W := 0) (w218 hw) (w219 hw) (w21 hw) (w220 hw) (by decide) (X13.payM (sf := [t]) (rmPutC hcx t 2 c2 kt (32 : Int32) 32 (((([] ++ [(.int (c0.toInt8.toInt32))]) ++ [(.int ((c0 >>> ((8 : Int32) &&& (31 : Int32))).toInt8.toInt32))]) ++ [(.int (c1.toInt8.toInt32))]) ++ [(.int ((c1 >>> ((8 : Int32) &&& (31 : Int32))).toInt8.toInt32))]) h13 X13.old g13_0 rfl (by decide) rfl (by decide) Pr2) (sfS f17 sf0) (w220 hw) (w21 hw)) rfl (sz hml rfl) (argsL := [(.ref t), (.int (2 : Int32)), (.int c2)]) (rest := []) (lenOf pd10 rfl) rfl rfl (mroom rfl rfl) (D d47_32) (by decide) (by decide) fun T18 h18 vm18 v18 X18 C18 z18 q18 => ?_
  obtain ⟨rfl, K18, g18_0⟩ := q18
  have l19 := ltA g18_0.lt
  have A20 := X18.at
  refine Gets.via (fun _ k => (iincV A20 hx rfl (D d47_35) rfl (v := (3 : Int32)) (by decide) (l' := #[vR d, vI (3 : Int32), vR t, vI (3 : Int32), vI (3 : Int32), vI (3 : Int32)]) rfl (XS.goto A20 hx rfl (pc0 := 38) (pc' := 10) rfl (D d47_38) (by decide) (by decide) k))) ?_
  refine Gets.via (fun _ k => (XS.iload A20 hx rfl (D d47_10) rfl (XS.iload A20 hx rfl (D d47_12) rfl (XS.icmpYes A20 hx rfl (pc0 := 14) (pc' := 41) rfl (D d47_14) rfl (Jvm.Free.XT.ii_ge_t (by decide)) (by decide) (by decide) k)))) ?_
  have f21 : Arv Z h18 t kt .byte (32 : Int32) (enc16 [c0, c1, c2]) (.int (0 : Int32)) := encL3 c0 c1 c2 ▸ g18_0
  exact X18.retV hret (D d47_41) (by decide) (by decide) (fun vmE CE => ⟨rfl, ((((Keep.refl h0 [t]).trans K8 (allS (Or.inl (memI (i := 0) rfl)) all0)).trans K13 (allS (Or.inl (memI (i := 0) rfl)) all0)).trans K18 (allS (Or.inl (memI (i := 0) rfl)) all0)), f21⟩)
abbrev RrmLinf3 : Room := { frames := 4, cells := 0, slots := 0, locals := 60 }
def QrmLinf3 (Z : State) (d : Addr) (t : Addr) (kd : ClassId) (kt : ClassId) (c0 : Int32) (c1 : Int32) (c2 : Int32) (h0 : Heap) (v : Option Value) (vm : Vm) (h : Heap) : Prop := v = none ∧ Keep h0 h [t] ∧ Arv Z h t kt .byte (32 : Int32) (enc16 [c0, c1, c2]) (.int (0 : Int32))
theorem rmLinf3 (hcx : Cx Z a0 zc fm) (d : Addr) (t : Addr) (kd : ClassId) (kt : ClassId) (c0 : Int32) (c1 : Int32) (c2 : Int32) (h0 : Heap) (O0 : Old Z Z.heap.size h0) (Pr0 : Arv Z h0 d kd .byte (16 : Int32) (([c0, c1, c2].map fun c => c.toInt8.toInt32).map Value.int) (.int (0 : Int32))) (Pr1 : Arv Z h0 t kt .byte (32 : Int32) [] (.int (0 : Int32))) (Pr2 : Z.heap.size ≤ t) (Pr3 : d ≠ t) (Pr4 : ¬ c0 < 0 ∧ ¬ (255 : Int32) < c0) (Pr5 : ¬ c1 < 0 ∧ ¬ (255 : Int32) < c1) (Pr6 : ¬ c2 < 0 ∧ ¬ (255 : Int32) < c2) : Met l Z consts_1 (⟨"java/lang/StringLatin1", "inflate", "([BI[BII)V"⟩ : MethodName) jdk_43_method_50_code 5 (none) [] RrmLinf3 [t] #[(.ref d), (.int (0 : Int32)), (.ref t), (.int (0 : Int32)), (.int (3 : Int32))] h0 (QrmLinf3 Z d t kd kt c0 c1 c2 h0) := by
  have ⟨hw, hEL, O2, P5, O4, P6, OA, OH, OB⟩ := hcx
  refine Met.start (a0 := a0) (Ls := #[vR d, vI (0 : Int32), vR t, vI (0 : Int32), vI (3 : Int32)]) pn46 hEL O0 (fun m => by first | (simp [entryFrame, mkF, argsToLocals, Value.category]; done) | rfl) ?_
  intro p e s m below meth cc T0 vm0 X0 sf0_ hby hml hret hnm
  have hx := X0.hx
  have D : ∀ {n r}, decode B46 n = r → decode cc.code n = r := fun d => hb hby d
  have zz := X0.ge
  have A0 := X0.at
  have l1 := ltA Pr0.lt
  have l2 := ltA Pr1.lt
  have l3 := neA Pr3
  have s4 := sf0_ t (memI (i := 0) rfl)
  refine Gets.via (fun _ k => (XS.aloadN A0 hx rfl (D d46_0) rfl rfl (XS.iloadN A0 hx rfl (D d46_1) rfl (XS.aloadN A0 hx rfl (D d46_2) rfl rfl (XS.iloadN A0 hx rfl (D d46_3) rfl (XS.iload A0 hx rfl (D d46_4) rfl k)))))) ?_
  refine X0.callS (W := 0) (w236 hw) (w237 hw) (w21 hw) (w238 hw) (by decide) (X0.payM (sf := [t]) (rmUinf3 hcx d t kd kt c0 c1 c2 h0 X0.old Pr0 Pr1 Pr2 Pr3 Pr4 Pr5 Pr6) (sfS s4 sf0) (w238 hw) (w21 hw)) rfl (sz hml rfl) (argsL := [(.ref d), (.int (0 : Int32)), (.ref t), (.int (0 : Int32)), (.int (3 : Int32))]) (rest := []) (lenOf pd27 rfl) rfl rfl (mroom rfl rfl) (D d46_6) (by decide) (by decide) fun T5 h5 vm5 v5 X5 C5 z5 q5 => ?_
  obtain ⟨rfl, K5, g5_0⟩ := q5
  have l6 := ltA g5_0.lt
  exact X5.retV hret (D d46_9) (by decide) (by decide) (fun vmE CE => ⟨rfl, ((Keep.refl h0 [t]).trans K5 (allS (Or.inl (memI (i := 0) rfl)) all0)), g5_0⟩)
abbrev RrmInfl3 : Room := { frames := 5, cells := 1, slots := 32, locals := 76 }
def QrmInfl3 (Z : State) (x : Addr) (d : Addr) (kd : ClassId) (c0 : Int32) (c1 : Int32) (c2 : Int32) (h0 : Heap) (v : Option Value) (vm : Vm) (h : Heap) : Prop := ∃ (t : Addr) (kt : ClassId), v = none ∧ Keep h0 h [x] ∧ Exa Z h x "java/lang/StringBuilder" ∧ Fld Z h x "java/lang/AbstractStringBuilder" "value" "[B" (.ref t) ∧ Fld Z h x "java/lang/AbstractStringBuilder" "coder" "B" (.int (1 : Int32)) ∧ Fld Z h x "java/lang/AbstractStringBuilder" "count" "I" (.int (Int32.ofNat ([c0, c1, c2]).length)) ∧ Fld Z h x "java/lang/AbstractStringBuilder" "maybeLatin1" "Z" (.int (0 : Int32)) ∧ Arv Z h t kt .byte (32 : Int32) (enc16 [c0, c1, c2]) (.int (0 : Int32)) ∧ Safe Z consts_1 vm h t ∧ h0.size ≤ t
theorem rmInfl3 (hcx : Cx Z a0 zc fm) (x : Addr) (d : Addr) (kd : ClassId) (c0 : Int32) (c1 : Int32) (c2 : Int32) (h0 : Heap) (O0 : Old Z Z.heap.size h0) (Pr0 : Exa Z h0 x "java/lang/StringBuilder") (Pr1 : Fld Z h0 x "java/lang/AbstractStringBuilder" "value" "[B" (.ref d)) (Pr2 : Fld Z h0 x "java/lang/AbstractStringBuilder" "coder" "B" (.int (0 : Int32))) (Pr3 : Fld Z h0 x "java/lang/AbstractStringBuilder" "count" "I" (.int (Int32.ofNat ([c0, c1, c2]).length))) (Pr4 : Fld Z h0 x "java/lang/AbstractStringBuilder" "maybeLatin1" "Z" (.int (0 : Int32))) (Pr5 : Arv Z h0 d kd .byte (16 : Int32) (([c0, c1, c2].map fun c => c.toInt8.toInt32).map Value.int) (.int (0 : Int32))) (Pr6 : Z.heap.size ≤ x) (Pr7 : ¬ c0 < 0 ∧ ¬ (255 : Int32) < c0) (Pr8 : ¬ c1 < 0 ∧ ¬ (255 : Int32) < c1) (Pr9 : ¬ c2 < 0 ∧ ¬ (255 : Int32) < c2) : Met l Z consts_1 (⟨"java/lang/AbstractStringBuilder", "inflate", "()V"⟩ : MethodName) jdk_68_method_11_code 2 (none) [] RrmInfl3 [] #[(.ref x)] h0 (QrmInfl3 Z x d kd c0 c1 c2 h0) := by
  have ⟨hw, hEL, O2, P5, O4, P6, OA, OH, OB⟩ := hcx
  refine Met.start (a0 := a0) (Ls := #[vR x, .unset]) pn45 hEL O0 (fun m => by first | (simp [entryFrame, mkF, argsToLocals, Value.category]; done) | rfl) ?_
  intro p e s m below meth cc T0 vm0 X0 sf0_ hby hml hret hnm
  have hx := X0.hx
  have D : ∀ {n r}, decode B45 n = r → decode cc.code n = r := fun d => hb hby d
  have zz := X0.ge
  have A0 := X0.at
  have l1 := ltA Pr0.lt
  have l2 := ltA Pr5.lt
  have f3 : Fld Z h0 x "java/lang/AbstractStringBuilder" "count" "I" (.int (3 : Int32)) := Pr3
  refine Gets.via (fun _ k => (XS.aloadN A0 hx rfl (D d45_0) rfl rfl k)) ?_
  refine X0.callV (W := 0) (w131 hw) (w132 hw) (w134 hw) (w133 hw) (nfs rfl (w134 hw)) (by decide) (X0.payM (sf := []) (rmSbL0 hcx x h0 X0.old Pr0 Pr2) sf0 (w135 hw) (w54 hw)) Pr0 rfl (sz hml rfl) (argsL := []) (rest := []) (lenOf pd21 rfl) rfl rfl (mroom rfl rfl) (D d45_1) (by decide) (by decide) fun T4 h4 vm4 v4 X4 C4 z4 q4 => ?_
  obtain ⟨rfl, K4⟩ := q4
  rw [K4] at X4 C4
  have A5 := X4.at
  refine Gets.via (fun _ k => (XS.ifYes A5 hx rfl (pc0 := 4) (pc' := 8) rfl (D d45_4) rfl (Jvm.Free.XT.i0_ne_t (by decide)) (by decide) (by decide) k)) ?_
  refine Gets.via (fun _ k => (XS.aloadN A5 hx rfl (D d45_8) rfl rfl k)) ?_
  refine X4.getF (host := "") (Or.inl (w58 hw)) Via.refl Pr1 rfl rfl (D d45_9) fun T6 X6 => ?_
  show Gets p e below _ (T6.setTop (mkF m 12 #[vR x, .unset] [(.ref d)]))
  refine X6.alen Pr5 rfl rfl (D d45_12) ?_
  refine X6.callS (W := 0) (w232 hw) (w212 hw) (w21 hw) (w213 hw) (by decide) (X6.payM (sf := []) (rmNbf16 hcx  h0 X6.old ) sf0 (w213 hw) (w21 hw)) rfl (sz hml rfl) (argsL := [(.int (16 : Int32))]) (rest := []) (lenOf pd9 rfl) rfl rfl (mroom rfl rfl) (D d45_13) (by decide) (by decide) fun T7 h7 vm7 v7 X7 C7 z7 q7 => ?_
  obtain ⟨t7, kt7, rfl, K7, g7_0, g7_1, g7_2⟩ := q7
  have l8 := ltA g7_0.lt
  have A9 := X7.at
  refine Gets.via (fun _ k => (XS.astoreN A9 hx rfl (D d45_16) rfl rfl (l' := #[vR x, vR t7]) rfl (XS.aloadN A9 hx rfl (D d45_17) rfl rfl k))) ?_
  have f11 := Pr1.keep K7 nin0
  refine X7.getF (host := "") (Or.inl (w58 hw)) Via.refl f11 rfl rfl (D d45_18) fun T10 X10 => ?_
  have A12 := X10.at
  refine Gets.via (fun _ k => (XS.iconst A12 hx rfl (D d45_21) (XS.aloadN A12 hx rfl (D d45_22) rfl rfl (XS.iconst A12 hx rfl (D d45_23) (XS.aloadN A12 hx rfl (D d45_24) rfl rfl k))))) ?_
  show Gets p e below _ (T10.setTop (mkF m 25 #[vR x, vR t7] [(.ref x), (.int (0 : Int32)), (.ref t7), (.int (0 : Int32)), (.ref d)]))
  have f14 := f3.keep K7 nin0
  refine X10.getF (host := "") (Or.inl (w89 hw)) Via.refl f14 rfl rfl (D d45_25) fun T13 X13 => ?_
  have f15 := Pr5.keep K7 nin0
  refine X13.callS (W := 0) (w233 hw) (w234 hw) (w138 hw) (w235 hw) (by decide) (X13.payM (sf := [t7]) (rmLinf3 hcx d t7 kd kt7 c0 c1 c2 h7 X13.old f15 g7_0 (leA (by omega)) (neA (by omega)) Pr7 Pr8 Pr9) (sfS g7_1 sf0) (w235 hw) (w138 hw)) rfl (sz hml rfl) (argsL := [(.ref d), (.int (0 : Int32)), (.ref t7), (.int (0 : Int32)), (.int (3 : Int32))]) (rest := []) (lenOf pd27 rfl) rfl rfl (mroom rfl rfl) (D d45_28) (by decide) (by decide) fun T16 h16 vm16 v16 X16 C16 z16 q16 => ?_
  obtain ⟨rfl, K16, g16_0⟩ := q16
  have l17 := ltA g16_0.lt
  have A18 := X16.at
  refine Gets.via (fun _ k => (XS.aloadN A18 hx rfl (D d45_31) rfl rfl (XS.aloadN A18 hx rfl (D d45_32) rfl rfl k))) ?_
  have f20 := f11.keep K16 (ninS (neA (by omega)) nin0)
  have f21 := Pr0.keep K7
  have f22 := f21.keep K16
  refine X16.putF (host := "") (Or.inl (w58 hw)) Via.refl f20 f22 (Or.inl (w59 hw)) (w45 hw) (ty := (.array .byte)) (by decide) rfl rfl (leA (by omega)) (Safe.exa X16.hZ.alike f22 (by decide) (by decide)) rfl rfl (D d45_33) fun T19 h19 X19 C19 W19 F19 Z19 => ?_
  have z19 := W19.size
  have A23 := X19.at
  refine Gets.via (fun _ k => (XS.aloadN A23 hx rfl (D d45_36) rfl rfl (XS.iconst A23 hx rfl (D d45_37) k))) ?_
  show Gets p e below _ (T19.setTop (mkF m 38 #[vR x, vR t7] [(.int (1 : Int32)), (.ref x)]))
  have f25 := Pr2.keep K7 nin0
  have f26 := f25.keep K16 (ninS (neA (by omega)) nin0)
  have f27 := f26.other W19 (Or.inr (slot_ne (t := .byte) (t' := (.array .byte)) (Or.inl (w61 hw)) (Or.inl (w59 hw)) (by decide) (by decide) (by decide)))
  refine X19.putF (host := "") (Or.inl (w60 hw)) Via.refl f27 Z19 (Or.inl (w61 hw)) (w45 hw) (ty := .byte) (by decide) (by decide) (by decide) (leA (by omega)) (Safe.exa X19.hZ.alike Z19 (by decide) (by decide)) rfl rfl (D d45_38) fun T24 h24 X24 C24 W24 F24 Z24 => ?_
  have z24 := W24.size
  have f28 := F19.other W24 (Or.inr (slot_ne (t := (.array .byte)) (t' := .byte) (Or.inl (w59 hw)) (Or.inl (w61 hw)) (by decide) (by decide) (by decide)))
  have f29 := Pr3.keep K7 nin0
  have f30 := f29.keep K16 (ninS (neA (by omega)) nin0)
  have f31 := f30.other W19 (Or.inr (slot_ne (t := .int) (t' := (.array .byte)) (Or.inl (w90 hw)) (Or.inl (w59 hw)) (by decide) (by decide) (by decide)))
  have f32 := f31.other W24 (Or.inr (slot_ne (t := .int) (t' := .byte) (Or.inl (w90 hw)) (Or.inl (w61 hw)) (by decide) (by decide) (by decide)))
  have f33 := Pr4.keep K7 nin0
  have f34 := f33.keep K16 (ninS (neA (by omega)) nin0)
  have f35 := f34.other W19 (Or.inr (slot_ne (t := .boolean) (t' := (.array .byte)) (Or.inl (w259 hw)) (Or.inl (w59 hw)) (by decide) (by decide) (by decide)))
  have f36 := f35.other W24 (Or.inr (slot_ne (t := .boolean) (t' := .byte) (Or.inl (w259 hw)) (Or.inl (w61 hw)) (by decide) (by decide) (by decide)))
  have f37 := g16_0.other W19 (neA (by omega))
  have f38 := f37.other W24 (neA (by omega))
  have f39 := C16.safe (x := t7) (ltA (by omega)) g7_1
  have f40 := C19.safe (x := t7) (ltA (by omega)) f39
  have f41 := C24.safe (x := t7) (ltA (by omega)) f40
  exact X24.retV hret (D d45_41) (by decide) (by decide) (fun vmE CE => ⟨t7, kt7, rfl, (((((Keep.refl h0 [x]).trans K7 all0).trans K16 (allS (Or.inr (leA (by omega))) all0)).wr W19 (Or.inl (memI (i := 0) rfl))).wr W24 (Or.inl (memI (i := 0) rfl))), Z24, f28, F24, f32, f36, f38, CE.safe (x := t7) (ltA (by omega)) f41, g7_2⟩)
abbrev RrmInfU3 : Room := { frames := 6, cells := 1, slots := 32, locals := 89 }
def QrmInfU3 (Z : State) (x : Addr) (s1 : Addr) (d : Addr) (kd : ClassId) (c0 : Int32) (c1 : Int32) (c2 : Int32) (h0 : Heap) (v : Option Value) (vm : Vm) (h : Heap) : Prop := ∃ (t : Addr) (kt : ClassId), v = none ∧ Keep h0 h [x] ∧ Exa Z h x "java/lang/StringBuilder" ∧ Fld Z h x "java/lang/AbstractStringBuilder" "value" "[B" (.ref t) ∧ Fld Z h x "java/lang/AbstractStringBuilder" "coder" "B" (.int (1 : Int32)) ∧ Fld Z h x "java/lang/AbstractStringBuilder" "count" "I" (.int (Int32.ofNat ([c0, c1, c2]).length)) ∧ Fld Z h x "java/lang/AbstractStringBuilder" "maybeLatin1" "Z" (.int (0 : Int32)) ∧ Arv Z h t kt .byte (32 : Int32) (enc16 [c0, c1, c2]) (.int (0 : Int32)) ∧ Safe Z consts_1 vm h t ∧ h0.size ≤ t
theorem rmInfU3 (hcx : Cx Z a0 zc fm) (x : Addr) (s1 : Addr) (d : Addr) (kd : ClassId) (c0 : Int32) (c1 : Int32) (c2 : Int32) (h0 : Heap) (O0 : Old Z Z.heap.size h0) (Pr0 : Exa Z h0 x "java/lang/StringBuilder") (Pr1 : Fld Z h0 x "java/lang/AbstractStringBuilder" "value" "[B" (.ref d)) (Pr2 : Fld Z h0 x "java/lang/AbstractStringBuilder" "coder" "B" (.int (0 : Int32))) (Pr3 : Fld Z h0 x "java/lang/AbstractStringBuilder" "count" "I" (.int (Int32.ofNat ([c0, c1, c2]).length))) (Pr4 : Fld Z h0 x "java/lang/AbstractStringBuilder" "maybeLatin1" "Z" (.int (0 : Int32))) (Pr5 : Arv Z h0 d kd .byte (16 : Int32) (([c0, c1, c2].map fun c => c.toInt8.toInt32).map Value.int) (.int (0 : Int32))) (Pr6 : Z.heap.size ≤ x) (Pr7 : ¬ c0 < 0 ∧ ¬ (255 : Int32) < c0) (Pr8 : ¬ c1 < 0 ∧ ¬ (255 : Int32) < c1) (Pr9 : ¬ c2 < 0 ∧ ¬ (255 : Int32) < c2) (Pr10 : Exa Z h0 s1 "java/lang/String") (Pr11 : Fld Z h0 s1 "java/lang/String" "coder" "B" (.int (1 : Int32))) : Met l Z consts_1 (⟨"java/lang/AbstractStringBuilder", "inflateIfNeededFor", "(Ljava/lang/String;)V"⟩ : MethodName) jdk_68_method_71_code 2 (none) [] RrmInfU3 [] #[(.ref x), (.ref s1)] h0 (QrmInfU3 Z x s1 d kd c0 c1 c2 h0) := by
  have ⟨hw, hEL, O2, P5, O4, P6, OA, OH, OB⟩ := hcx
  refine Met.start (a0 := a0) (Ls := #[vR x, vR s1]) pn17 hEL O0 (fun m => by first | (simp [entryFrame, mkF, argsToLocals, Value.category]; done) | rfl) ?_
  intro p e s m below meth cc T0 vm0 X0 sf0_ hby hml hret hnm
  have hx := X0.hx
  have D : ∀ {n r}, decode B17 n = r → decode cc.code n = r := fun d => hb hby d
  have zz := X0.ge
  have A0 := X0.at
  have l1 := ltA Pr0.lt
  have l2 := ltA Pr5.lt
  have l3 := ltA Pr10.lt
  refine X0.getS (host := "") (Or.inl (w57 hw)) Via.refl (X0.sta O2) rfl (D d17_0) fun T4 X4 => ?_
  have A5 := X4.at
  refine Gets.via (fun _ k => (XS.ifNo A5 hx rfl (D d17_3) rfl (Jvm.Free.XT.i0_eq_f P5) k)) ?_
  refine Gets.via (fun _ k => (XS.aloadN A5 hx rfl (D d17_6) rfl rfl k)) ?_
  refine X4.getF (host := "") (Or.inl (w60 hw)) Via.refl Pr2 rfl rfl (D d17_7) fun T6 X6 => ?_
  have A7 := X6.at
  refine Gets.via (fun _ k => (XS.aloadN A7 hx rfl (D d17_10) rfl rfl k)) ?_
  show Gets p e below _ (T6.setTop (mkF m 11 #[vR x, vR s1] [(.ref s1), (.int (0 : Int32))]))
  refine X6.callV (W := 1) (w106 hw) (w85 hw) (w87 hw) (w86 hw) (nfs rfl (w87 hw)) (by decide) (X6.payM (sf := []) (rmCoder1 hcx s1 h0 X6.old Pr10 Pr11) sf0 (w88 hw) (w6 hw)) Pr10 rfl (sz hml rfl) (argsL := []) (rest := [(.int (0 : Int32))]) (lenOf pd1 rfl) rfl rfl (mroom rfl rfl) (D d17_11) (by decide) (by decide) fun T8 h8 vm8 v8 X8 C8 z8 q8 => ?_
  obtain ⟨rfl, K8⟩ := q8
  rw [K8] at X8 C8
  have A9 := X8.at
  refine Gets.via (fun _ k => (XS.icmpNo A9 hx rfl (D d17_14) rfl (Jvm.Free.XT.ii_eq_f (by decide)) k)) ?_
  refine Gets.via (fun _ k => (XS.aloadN A9 hx rfl (D d17_17) rfl rfl k)) ?_
  refine X8.callP (W := 0) (w227 hw) (w228 hw) (w230 hw) (w229 hw) (w231 hw) (by decide) (X8.payM (sf := []) (rmInfl3 hcx x d kd c0 c1 c2 h0 X8.old Pr0 Pr1 Pr2 Pr3 Pr4 Pr5 Pr6 Pr7 Pr8 Pr9) sf0 (w231 hw) (w54 hw)) Pr0 rfl (sz hml rfl) (argsL := []) (rest := []) (lenOf pd28 rfl) rfl rfl (mroom rfl rfl) (D d17_18) (by decide) (by decide) fun T10 h10 vm10 v10 X10 C10 z10 q10 => ?_
  obtain ⟨t10, kt10, rfl, K10, g10_0, g10_1, g10_2, g10_3, g10_4, g10_5, g10_6, g10_7⟩ := q10
  have l11 := ltA g10_0.lt
  have l12 := ltA g10_5.lt
  exact X10.retV hret (D d17_21) (by decide) (by decide) (fun vmE CE => ⟨t10, kt10, rfl, ((Keep.refl h0 [x]).trans K10 (allS (Or.inl (memI (i := 0) rfl)) all0)), g10_0, g10_1, g10_2, g10_3, g10_4, g10_5, CE.safe (x := t10) (ltA (by omega)) g10_6, g10_7⟩)
abbrev RrmPsaU3 : Room := { frames := 7, cells := 1, slots := 32, locals := 102 }
def QrmPsaU3 (Z : State) (x : Addr) (s1 : Addr) (d : Addr) (kd : ClassId) (c0 : Int32) (c1 : Int32) (c2 : Int32) (b : Addr) (kb : ClassId) (ds : List Int32) (h0 : Heap) (v : Option Value) (vm : Vm) (h : Heap) : Prop := ∃ (t : Addr) (kt : ClassId), v = none ∧ Keep h0 h [x, d] ∧ Exa Z h x "java/lang/StringBuilder" ∧ Fld Z h x "java/lang/AbstractStringBuilder" "value" "[B" (.ref t) ∧ Fld Z h x "java/lang/AbstractStringBuilder" "coder" "B" (.int (1 : Int32)) ∧ Fld Z h x "java/lang/AbstractStringBuilder" "count" "I" (.int (Int32.ofNat ([c0, c1, c2]).length)) ∧ Fld Z h x "java/lang/AbstractStringBuilder" "maybeLatin1" "Z" (.int (0 : Int32)) ∧ Arv Z h t kt .byte (32 : Int32) (enc16 ([c0, c1, c2] ++ ds)) (.int (0 : Int32)) ∧ Safe Z consts_1 vm h t ∧ h0.size ≤ t ∧ x ≠ t
theorem rmPsaU3 (hcx : Cx Z a0 zc fm) (x : Addr) (s1 : Addr) (d : Addr) (kd : ClassId) (c0 : Int32) (c1 : Int32) (c2 : Int32) (b : Addr) (kb : ClassId) (ds : List Int32) (h0 : Heap) (O0 : Old Z Z.heap.size h0) (Pr0 : Exa Z h0 x "java/lang/StringBuilder") (Pr1 : Fld Z h0 x "java/lang/AbstractStringBuilder" "value" "[B" (.ref d)) (Pr2 : Fld Z h0 x "java/lang/AbstractStringBuilder" "coder" "B" (.int (0 : Int32))) (Pr3 : Fld Z h0 x "java/lang/AbstractStringBuilder" "count" "I" (.int (Int32.ofNat ([c0, c1, c2]).length))) (Pr4 : Fld Z h0 x "java/lang/AbstractStringBuilder" "maybeLatin1" "Z" (.int (0 : Int32))) (Pr5 : Arv Z h0 d kd .byte (16 : Int32) (([c0, c1, c2].map fun c => c.toInt8.toInt32).map Value.int) (.int (0 : Int32))) (Pr6 : StrU Z h0 s1 b kb ds) (Pr7 : ([c0, c1, c2]).length + (ds).length ≤ 16) (Pr8 : Z.heap.size ≤ x) (Pr9 : Z.heap.size ≤ d) (Pr10 : x ≠ d) (Pr11 : ¬ c0 < 0 ∧ ¬ (255 : Int32) < c0) (Pr12 : ¬ c1 < 0 ∧ ¬ (255 : Int32) < c1) (Pr13 : ¬ c2 < 0 ∧ ¬ (255 : Int32) < c2) (Pr14 : b ≠ x) : Met l Z consts_1 (⟨"java/lang/AbstractStringBuilder", "putStringAt", "(ILjava/lang/String;)V"⟩ : MethodName) jdk_68_method_73_code 3 (none) [] RrmPsaU3 [d] #[(.ref x), (.int (Int32.ofNat ([c0, c1, c2]).length)), (.ref s1)] h0 (QrmPsaU3 Z x s1 d kd c0 c1 c2 b kb ds h0) := by
  have ⟨hw, hEL, O2, P5, O4, P6, OA, OH, OB⟩ := hcx
  refine Met.start (a0 := a0) (Ls := #[vR x, vI (Int32.ofNat ([c0, c1, c2]).length), vR s1]) pn16 hEL O0 (fun m => by first | (simp [entryFrame, mkF, argsToLocals, Value.category]; done) | rfl) ?_
  intro p e s m below meth cc T0 vm0 X0 sf0_ hby hml hret hnm
  have hx := X0.hx
  have D : ∀ {n r}, decode B16 n = r → decode cc.code n = r := fun d => hb hby d
  have zz := X0.ge
  have A0 := X0.at
  have l1 := ltA Pr0.lt
  have l2 := ltA Pr5.lt
  have l3 := ltA Pr6.lt
  have l4 := ltA Pr6.lb
  have l5 := neA Pr10
  have l6 := neA Pr14
  have s7 := sf0_ d (memI (i := 0) rfl)
  refine Gets.via (fun _ k => (XS.aloadN A0 hx rfl (D d16_0) rfl rfl (XS.aloadN A0 hx rfl (D d16_1) rfl rfl k))) ?_
  refine X0.callP (W := 0) (w101 hw) (w102 hw) (w104 hw) (w103 hw) (w105 hw) (by decide) (X0.payM (sf := []) (rmInfU3 hcx x s1 d kd c0 c1 c2 h0 X0.old Pr0 Pr1 Pr2 Pr3 Pr4 Pr5 Pr8 Pr11 Pr12 Pr13 Pr6.1 Pr6.2.1) sf0 (w105 hw) (w54 hw)) Pr0 rfl (sz hml rfl) (argsL := [(.ref s1)]) (rest := []) (lenOf pd15 rfl) rfl rfl (mroom rfl rfl) (D d16_2) (by decide) (by decide) fun T8 h8 vm8 v8 X8 C8 z8 q8 => ?_
  obtain ⟨t8, kt8, rfl, K8, g8_0, g8_1, g8_2, g8_3, g8_4, g8_5, g8_6, g8_7⟩ := q8
  have l9 := ltA g8_0.lt
  have l10 := ltA g8_5.lt
  have A11 := X8.at
  refine Gets.via (fun _ k => (XS.aloadN A11 hx rfl (D d16_5) rfl rfl (XS.aloadN A11 hx rfl (D d16_6) rfl rfl k))) ?_
  refine X8.getF (host := "") (Or.inl (w58 hw)) Via.refl g8_1 rfl rfl (D d16_7) fun T12 X12 => ?_
  show Gets p e below _ (T12.setTop (mkF m 10 #[vR x, vI (Int32.ofNat ([c0, c1, c2]).length), vR s1] [(.ref t8), (.ref s1)]))
  have A13 := X12.at
  refine Gets.via (fun _ k => (XS.iloadN A13 hx rfl (D d16_10) rfl (XS.aloadN A13 hx rfl (D d16_11) rfl rfl k))) ?_
  refine X12.getF (host := "") (Or.inl (w60 hw)) Via.refl g8_2 rfl rfl (D d16_12) fun T14 X14 => ?_
  have l15 := neA (Exa.ne Pr6.1 Pr0 (by decide))
  have f16 : StrU Z h8 s1 b kb ds := Pr6.keep K8 (ninS (neA (by omega)) nin0) (ninS (neA (by omega)) nin0)
  refine X14.callV (W := 0) (w107 hw) (w108 hw) (w110 hw) (w109 hw) (nfs rfl (w110 hw)) (by decide) (X14.payM (sf := [t8]) (rmGb1 hcx s1 t8 [c0, c1, c2] b kb ds kt8 h8 X14.old f16 g8_5 Pr7 (leA (by omega))) (sfS g8_6 sf0) (w111 hw) (w6 hw)) f16.1 rfl (sz hml rfl) (argsL := [(.ref t8), (.int (Int32.ofNat ([c0, c1, c2]).length)), (.int (1 : Int32))]) (rest := []) (lenOf pd16 rfl) rfl rfl (mroom rfl rfl) (D d16_15) (by decide) (by decide) fun T17 h17 vm17 v17 X17 C17 z17 q17 => ?_
  obtain ⟨rfl, K17, g17_0⟩ := q17
  have l18 := ltA g17_0.lt
  have f19 := g8_0.keep K17
  have f20 := g8_1.keep K17 (ninS (neA (by omega)) nin0)
  have f21 := g8_2.keep K17 (ninS (neA (by omega)) nin0)
  have f22 := g8_3.keep K17 (ninS (neA (by omega)) nin0)
  have f23 := g8_4.keep K17 (ninS (neA (by omega)) nin0)
  have f24 := C17.safe (x := t8) (ltA (by omega)) g8_6
  exact X17.retV hret (D d16_18) (by decide) (by decide) (fun vmE CE => ⟨t8, kt8, rfl, (((Keep.refl h0 [x, d]).trans K8 (allS (Or.inl (memI (i := 0) rfl)) all0)).trans K17 (allS (Or.inr (leA (by omega))) all0)), f19, f20, f21, f22, f23, g17_0, CE.safe (x := t8) (ltA (by omega)) f24, g8_7, (neA (by omega))⟩)
abbrev RrmAapU3 : Room := { frames := 8, cells := 1, slots := 32, locals := 116 }
def QrmAapU3 (Z : State) (x : Addr) (s1 : Addr) (d : Addr) (kd : ClassId) (c0 : Int32) (c1 : Int32) (c2 : Int32) (b : Addr) (kb : ClassId) (ds : List Int32) (h0 : Heap) (v : Option Value) (vm : Vm) (h : Heap) : Prop := ∃ (t : Addr) (kt : ClassId), v = some (.ref x) ∧ Keep h0 h [x, d] ∧ Exa Z h x "java/lang/StringBuilder" ∧ Fld Z h x "java/lang/AbstractStringBuilder" "value" "[B" (.ref t) ∧ Fld Z h x "java/lang/AbstractStringBuilder" "coder" "B" (.int (1 : Int32)) ∧ Fld Z h x "java/lang/AbstractStringBuilder" "count" "I" (.int (Int32.ofNat (([c0, c1, c2] ++ ds)).length)) ∧ Fld Z h x "java/lang/AbstractStringBuilder" "maybeLatin1" "Z" (.int (0 : Int32)) ∧ Arv Z h t kt .byte (32 : Int32) (enc16 ([c0, c1, c2] ++ ds)) (.int (0 : Int32)) ∧ Safe Z consts_1 vm h t ∧ h0.size ≤ t ∧ x ≠ t
theorem rmAapU3 (hcx : Cx Z a0 zc fm) (x : Addr) (s1 : Addr) (d : Addr) (kd : ClassId) (c0 : Int32) (c1 : Int32) (c2 : Int32) (b : Addr) (kb : ClassId) (ds : List Int32) (h0 : Heap) (O0 : Old Z Z.heap.size h0) (Pr0 : Exa Z h0 x "java/lang/StringBuilder") (Pr1 : Fld Z h0 x "java/lang/AbstractStringBuilder" "value" "[B" (.ref d)) (Pr2 : Fld Z h0 x "java/lang/AbstractStringBuilder" "coder" "B" (.int (0 : Int32))) (Pr3 : Fld Z h0 x "java/lang/AbstractStringBuilder" "count" "I" (.int (Int32.ofNat ([c0, c1, c2]).length))) (Pr4 : Fld Z h0 x "java/lang/AbstractStringBuilder" "maybeLatin1" "Z" (.int (0 : Int32))) (Pr5 : Arv Z h0 d kd .byte (16 : Int32) (([c0, c1, c2].map fun c => c.toInt8.toInt32).map Value.int) (.int (0 : Int32))) (Pr6 : StrU Z h0 s1 b kb ds) (Pr7 : ([c0, c1, c2]).length + (ds).length ≤ 16) (Pr8 : Z.heap.size ≤ x) (Pr9 : Z.heap.size ≤ d) (Pr10 : x ≠ d) (Pr11 : ¬ c0 < 0 ∧ ¬ (255 : Int32) < c0) (Pr12 : ¬ c1 < 0 ∧ ¬ (255 : Int32) < c1) (Pr13 : ¬ c2 < 0 ∧ ¬ (255 : Int32) < c2) (Pr14 : b ≠ x) : Met l Z consts_1 (⟨"java/lang/AbstractStringBuilder", "append", "(Ljava/lang/String;)Ljava/lang/AbstractStringBuilder;"⟩ : MethodName) jdk_68_method_22_code 3 (some (.object "java/lang/AbstractStringBuilder")) [] RrmAapU3 [d] #[(.ref x), (.ref s1)] h0 (QrmAapU3 Z x s1 d kd c0 c1 c2 b kb ds h0) := by
  have ⟨hw, hEL, O2, P5, O4, P6, OA, OH, OB⟩ := hcx
  refine Met.start (a0 := a0) (Ls := #[vR x, vR s1, .unset]) pn12 hEL O0 (fun m => by first | (simp [entryFrame, mkF, argsToLocals, Value.category]; done) | rfl) ?_
  intro p e s m below meth cc T0 vm0 X0 sf0_ hby hml hret hnm
  have hx := X0.hx
  have D : ∀ {n r}, decode B12 n = r → decode cc.code n = r := fun d => hb hby d
  have zz := X0.ge
  have A0 := X0.at
  have l1 := ltA Pr0.lt
  have l2 := ltA Pr5.lt
  have l3 := ltA Pr6.lt
  have l4 := ltA Pr6.lb
  have l5 := neA Pr10
  have l6 := neA Pr14
  have s7 := sf0_ d (memI (i := 0) rfl)
  have l4 := Pr6.2.2.2.2.2
  refine Gets.via (fun _ k => (XS.aloadN A0 hx rfl (D d12_0) rfl rfl (XS.ifnonnullYes A0 hx rfl (pc0 := 1) (pc' := 9) rfl (D d12_1) rfl (by decide) (by decide) k))) ?_
  refine Gets.via (fun _ k => (XS.aloadN A0 hx rfl (D d12_9) rfl rfl k)) ?_
  refine X0.callV (W := 0) (w79 hw) (w80 hw) (w82 hw) (w81 hw) (nfs rfl (w82 hw)) (by decide) (X0.payM (sf := []) (rmLen1 hcx s1 b kb ds h0 X0.old Pr6) sf0 (w83 hw) (w6 hw)) Pr6.1 rfl (sz hml rfl) (argsL := []) (rest := []) (lenOf pd17 rfl) rfl rfl (mroom rfl rfl) (D d12_10) (by decide) (by decide) fun T8 h8 vm8 v8 X8 C8 z8 q8 => ?_
  obtain ⟨rfl, K8⟩ := q8
  rw [K8] at X8 C8
  have A9 := X8.at
  refine Gets.via (fun _ k => (XS.istoreN A9 hx rfl (D d12_13) rfl (l' := #[vR x, vR s1, vI (Int32.ofNat (ds).length)]) rfl (XS.aloadN A9 hx rfl (D d12_14) rfl rfl (XS.aloadN A9 hx rfl (D d12_15) rfl rfl k)))) ?_
  show Gets p e below _ (T8.setTop (mkF m 16 #[vR x, vR s1, vI (Int32.ofNat (ds).length)] [(.ref x), (.ref x)]))
  refine X8.getF (host := "") (Or.inl (w89 hw)) Via.refl Pr3 rfl rfl (D d12_16) fun T10 X10 => ?_
  have A11 := X10.at
  refine Gets.via (fun _ k => (XS.iloadN A11 hx rfl (D d12_19) rfl (XS.iadd A11 hx rfl (D d12_20) rfl k))) ?_
  show Gets p e below _ (T10.setTop (mkF m 21 #[vR x, vR s1, vI (Int32.ofNat (ds).length)] [(.int ((Int32.ofNat ([c0, c1, c2]).length) + (Int32.ofNat (ds).length))), (.ref x)]))
  rw [of_add]
  refine X10.callP (W := 0) (w91 hw) (w92 hw) (w94 hw) (w93 hw) (w95 hw) (by decide) (X10.payM (sf := []) (rmEns0 hcx x (([c0, c1, c2]).length + (ds).length) d kd (([c0, c1, c2].map fun c => c.toInt8.toInt32).map Value.int) h0 X10.old Pr0 Pr1 Pr2 Pr5 (by simp only [List.length_append, List.length_cons, List.length_nil]; omega)) sf0 (w95 hw) (w54 hw)) Pr0 rfl (sz hml rfl) (argsL := [(.int (Int32.ofNat (([c0, c1, c2]).length + (ds).length)))]) (rest := []) (lenOf pd14 rfl) rfl rfl (mroom rfl rfl) (D d12_21) (by decide) (by decide) fun T12 h12 vm12 v12 X12 C12 z12 q12 => ?_
  obtain ⟨rfl, K12⟩ := q12
  rw [K12] at X12 C12
  have A13 := X12.at
  refine Gets.via (fun _ k => (XS.aloadN A13 hx rfl (D d12_24) rfl rfl (XS.aloadN A13 hx rfl (D d12_25) rfl rfl k))) ?_
  refine X12.getF (host := "") (Or.inl (w89 hw)) Via.refl Pr3 rfl rfl (D d12_26) fun T14 X14 => ?_
  have A15 := X14.at
  refine Gets.via (fun _ k => (XS.aloadN A15 hx rfl (D d12_29) rfl rfl k)) ?_
  show Gets p e below _ (T14.setTop (mkF m 30 #[vR x, vR s1, vI (Int32.ofNat (ds).length)] [(.ref s1), (.int (Int32.ofNat ([c0, c1, c2]).length)), (.ref x)]))
  have f16 := C8.safe (x := d) (ltA (by omega)) s7
  have f17 := C12.safe (x := d) (ltA (by omega)) f16
  refine X14.callP (W := 0) (w96 hw) (w97 hw) (w99 hw) (w98 hw) (w100 hw) (by decide) (X14.payM (sf := [d]) (rmPsaU3 hcx x s1 d kd c0 c1 c2 b kb ds h0 X14.old Pr0 Pr1 Pr2 Pr3 Pr4 Pr5 Pr6 Pr7 Pr8 Pr9 Pr10 Pr11 Pr12 Pr13 Pr14) (sfS f17 sf0) (w100 hw) (w54 hw)) Pr0 rfl (sz hml rfl) (argsL := [(.int (Int32.ofNat ([c0, c1, c2]).length)), (.ref s1)]) (rest := []) (lenOf pd18 rfl) rfl rfl (mroom rfl rfl) (D d12_30) (by decide) (by decide) fun T18 h18 vm18 v18 X18 C18 z18 q18 => ?_
  obtain ⟨t18, kt18, rfl, K18, g18_0, g18_1, g18_2, g18_3, g18_4, g18_5, g18_6, g18_7, g18_8⟩ := q18
  have l19 := ltA g18_0.lt
  have l20 := ltA g18_5.lt
  have l21 := neA g18_8
  have A22 := X18.at
  refine Gets.via (fun _ k => (XS.aloadN A22 hx rfl (D d12_33) rfl rfl (XS.dup A22 hx rfl (D d12_34) rfl rfl k))) ?_
  refine X18.getF (host := "") (Or.inl (w89 hw)) Via.refl g18_3 rfl rfl (D d12_35) fun T23 X23 => ?_
  have A24 := X23.at
  refine Gets.via (fun _ k => (XS.iloadN A24 hx rfl (D d12_38) rfl (XS.iadd A24 hx rfl (D d12_39) rfl k))) ?_
  show Gets p e below _ (T23.setTop (mkF m 40 #[vR x, vR s1, vI (Int32.ofNat (ds).length)] [(.int ((Int32.ofNat ([c0, c1, c2]).length) + (Int32.ofNat (ds).length))), (.ref x)]))
  rw [of_add, ← List.length_append]
  refine X23.putF (host := "") (Or.inl (w89 hw)) Via.refl g18_3 g18_0 (Or.inl (w90 hw)) (w45 hw) (ty := .int) (by decide) rfl rfl (leA (by omega)) (Safe.exa X23.hZ.alike g18_0 (by decide) (by decide)) rfl rfl (D d12_40) fun T25 h25 X25 C25 W25 F25 Z25 => ?_
  have z25 := W25.size
  have A26 := X25.at
  refine Gets.via (fun _ k => (XS.aloadN A26 hx rfl (D d12_43) rfl rfl k)) ?_
  have f27 := g18_1.other W25 (Or.inr (slot_ne (t := (.array .byte)) (t' := .int) (Or.inl (w59 hw)) (Or.inl (w90 hw)) (by decide) (by decide) (by decide)))
  have f28 := g18_2.other W25 (Or.inr (slot_ne (t := .byte) (t' := .int) (Or.inl (w61 hw)) (Or.inl (w90 hw)) (by decide) (by decide) (by decide)))
  have f29 := g18_4.other W25 (Or.inr (slot_ne (t := .boolean) (t' := .int) (Or.inl (w259 hw)) (Or.inl (w90 hw)) (by decide) (by decide) (by decide)))
  have f30 := g18_5.other W25 (neA (by omega))
  have f31 := C25.safe (x := t18) (ltA (by omega)) g18_6
  exact X25.retA hret rfl rfl rfl (D d12_44) (by decide) (by decide) (fun vmE CE => ⟨t18, kt18, rfl, (((Keep.refl h0 [x, d]).trans K18 (allS (Or.inl (memI (i := 0) rfl)) (allS (Or.inl (memI (i := 1) rfl)) all0))).wr W25 (Or.inl (memI (i := 0) rfl))), Z25, f27, f28, F25, f29, f30, CE.safe (x := t18) (ltA (by omega)) f31, g18_7, g18_8⟩)
abbrev RrmAppU3 : Room := { frames := 9, cells := 1, slots := 32, locals := 130 }
def QrmAppU3 (Z : State) (x : Addr) (s1 : Addr) (d : Addr) (kd : ClassId) (c0 : Int32) (c1 : Int32) (c2 : Int32) (b : Addr) (kb : ClassId) (ds : List Int32) (h0 : Heap) (v : Option Value) (vm : Vm) (h : Heap) : Prop := ∃ (t : Addr) (kt : ClassId), v = some (.ref x) ∧ Keep h0 h [x, d] ∧ Exa Z h x "java/lang/StringBuilder" ∧ Fld Z h x "java/lang/AbstractStringBuilder" "value" "[B" (.ref t) ∧ Fld Z h x "java/lang/AbstractStringBuilder" "coder" "B" (.int (1 : Int32)) ∧ Fld Z h x "java/lang/AbstractStringBuilder" "count" "I" (.int (Int32.ofNat (([c0, c1, c2] ++ ds)).length)) ∧ Fld Z h x "java/lang/AbstractStringBuilder" "maybeLatin1" "Z" (.int (0 : Int32)) ∧ Arv Z h t kt .byte (32 : Int32) (enc16 ([c0, c1, c2] ++ ds)) (.int (0 : Int32)) ∧ Safe Z consts_1 vm h t ∧ h0.size ≤ t ∧ x ≠ t
theorem rmAppU3 (hcx : Cx Z a0 zc fm) (x : Addr) (s1 : Addr) (d : Addr) (kd : ClassId) (c0 : Int32) (c1 : Int32) (c2 : Int32) (b : Addr) (kb : ClassId) (ds : List Int32) (h0 : Heap) (O0 : Old Z Z.heap.size h0) (Pr0 : Exa Z h0 x "java/lang/StringBuilder") (Pr1 : Fld Z h0 x "java/lang/AbstractStringBuilder" "value" "[B" (.ref d)) (Pr2 : Fld Z h0 x "java/lang/AbstractStringBuilder" "coder" "B" (.int (0 : Int32))) (Pr3 : Fld Z h0 x "java/lang/AbstractStringBuilder" "count" "I" (.int (Int32.ofNat ([c0, c1, c2]).length))) (Pr4 : Fld Z h0 x "java/lang/AbstractStringBuilder" "maybeLatin1" "Z" (.int (0 : Int32))) (Pr5 : Arv Z h0 d kd .byte (16 : Int32) (([c0, c1, c2].map fun c => c.toInt8.toInt32).map Value.int) (.int (0 : Int32))) (Pr6 : StrU Z h0 s1 b kb ds) (Pr7 : ([c0, c1, c2]).length + (ds).length ≤ 16) (Pr8 : Z.heap.size ≤ x) (Pr9 : Z.heap.size ≤ d) (Pr10 : x ≠ d) (Pr11 : ¬ c0 < 0 ∧ ¬ (255 : Int32) < c0) (Pr12 : ¬ c1 < 0 ∧ ¬ (255 : Int32) < c1) (Pr13 : ¬ c2 < 0 ∧ ¬ (255 : Int32) < c2) (Pr14 : b ≠ x) : Met l Z consts_1 (⟨"java/lang/StringBuilder", "append", "(Ljava/lang/String;)Ljava/lang/StringBuilder;"⟩ : MethodName) jdk_67_method_7_code 2 (some (.object "java/lang/StringBuilder")) [] RrmAppU3 [d] #[(.ref x), (.ref s1)] h0 (QrmAppU3 Z x s1 d kd c0 c1 c2 b kb ds h0) := by
  have ⟨hw, hEL, O2, P5, O4, P6, OA, OH, OB⟩ := hcx
  refine Met.start (a0 := a0) (Ls := #[vR x, vR s1]) pn11 hEL O0 (fun m => by first | (simp [entryFrame, mkF, argsToLocals, Value.category]; done) | rfl) ?_
  intro p e s m below meth cc T0 vm0 X0 sf0_ hby hml hret hnm
  have hx := X0.hx
  have D : ∀ {n r}, decode B11 n = r → decode cc.code n = r := fun d => hb hby d
  have zz := X0.ge
  have A0 := X0.at
  have l1 := ltA Pr0.lt
  have l2 := ltA Pr5.lt
  have l3 := ltA Pr6.lt
  have l4 := ltA Pr6.lb
  have l5 := neA Pr10
  have l6 := neA Pr14
  have s7 := sf0_ d (memI (i := 0) rfl)
  refine Gets.via (fun _ k => (XS.aloadN A0 hx rfl (D d11_0) rfl rfl (XS.aloadN A0 hx rfl (D d11_1) rfl rfl k))) ?_
  refine X0.callU (W := 0) (by decide) (w74 hw) (same_self (w75 hw) (w94 hw) rfl (by decide)) (w75 hw) (w76 hw) (w78 hw) (X0.payM (sf := [d]) (rmAapU3 hcx x s1 d kd c0 c1 c2 b kb ds h0 X0.old Pr0 Pr1 Pr2 Pr3 Pr4 Pr5 Pr6 Pr7 Pr8 Pr9 Pr10 Pr11 Pr12 Pr13 Pr14) (sfS s7 sf0) (w78 hw) (w54 hw)) Pr0 rfl (sz hml rfl) (argsL := [(.ref s1)]) (rest := []) (lenOf pd19 rfl) rfl rfl (mroom rfl rfl) (D d11_2) (by decide) (by decide) fun T8 h8 vm8 v8 X8 C8 z8 q8 => ?_
  obtain ⟨t8, kt8, rfl, K8, g8_0, g8_1, g8_2, g8_3, g8_4, g8_5, g8_6, g8_7, g8_8⟩ := q8
  have l9 := ltA g8_0.lt
  have l10 := ltA g8_5.lt
  have l11 := neA g8_8
  have A12 := X8.at
  refine Gets.via (fun _ k => (XS.pop A12 hx rfl (D d11_5) rfl rfl (XS.aloadN A12 hx rfl (D d11_6) rfl rfl k))) ?_
  exact X8.retA hret rfl rfl rfl (D d11_7) (by decide) (by decide) (fun vmE CE => ⟨t8, kt8, rfl, ((Keep.refl h0 [x, d]).trans K8 (allS (Or.inl (memI (i := 0) rfl)) (allS (Or.inl (memI (i := 1) rfl)) all0))), g8_0, g8_1, g8_2, g8_3, g8_4, g8_5, CE.safe (x := t8) (ltA (by omega)) g8_6, g8_7, g8_8⟩)
abbrev RrmUco4 : Room := { frames := 2, cells := 0, slots := 0, locals := 29 }
def QrmUco4 (Z : State) (t : Addr) (kt : ClassId) (vs : List Value) (h0 : Heap) (v : Option Value) (vm : Vm) (h : Heap) : Prop := v = none ∧ h = h0
theorem rmUco4 (hcx : Cx Z a0 zc fm) (t : Addr) (kt : ClassId) (vs : List Value) (h0 : Heap) (O0 : Old Z Z.heap.size h0) (Pr0 : Arv Z h0 t kt .byte (32 : Int32) vs (.int (0 : Int32))) : Met l Z consts_1 (⟨"java/lang/StringUTF16", "checkBoundsOffCount", "(II[B)V"⟩ : MethodName) jdk_52_method_94_code 3 (none) [] RrmUco4 [] #[(.int (0 : Int32)), (.int (4 : Int32)), (.ref t)] h0 (QrmUco4 Z t kt vs h0) := by
  have ⟨hw, hEL, O2, P5, O4, P6, OA, OH, OB⟩ := hcx
  refine Met.start (a0 := a0) (Ls := #[vI (0 : Int32), vI (4 : Int32), vR t]) pn48 hEL O0 (fun m => by first | (simp [entryFrame, mkF, argsToLocals, Value.category]; done) | rfl) ?_
  intro p e s m below meth cc T0 vm0 X0 sf0_ hby hml hret hnm
  have hx := X0.hx
  have D : ∀ {n r}, decode B48 n = r → decode cc.code n = r := fun d => hb hby d
  have zz := X0.ge
  have A0 := X0.at
  have l1 := ltA Pr0.lt
  refine Gets.via (fun _ k => (XS.iloadN A0 hx rfl (D d48_0) rfl (XS.iloadN A0 hx rfl (D d48_1) rfl (XS.aloadN A0 hx rfl (D d48_2) rfl rfl k)))) ?_
  refine X0.callS (W := 2) (w242 hw) (w243 hw) (w21 hw) (w244 hw) (by decide) (X0.payM (sf := []) (rmULen hcx t kt 16 vs h0 X0.old Pr0 (by decide)) sf0 (w244 hw) (w21 hw)) rfl (sz hml rfl) (argsL := [(.ref t)]) (rest := [(.int (4 : Int32)), (.int (0 : Int32))]) (lenOf pd3 rfl) rfl rfl (mroom rfl rfl) (D d48_3) (by decide) (by decide) fun T2 h2 vm2 v2 X2 C2 z2 q2 => ?_
  obtain ⟨rfl, K2⟩ := q2
  rw [K2] at X2 C2
  refine X2.callS (W := 0) (w245 hw) (w246 hw) (w6 hw) (w247 hw) (by decide) (X2.payM (sf := []) (rm50 hcx (0 : Int32) (4 : Int32) (Int32.ofNat 16) h0 X2.old (by decide) (by decide)) sf0 (w247 hw) (w6 hw)) rfl (sz hml rfl) (argsL := [(.int (0 : Int32)), (.int (4 : Int32)), (.int (Int32.ofNat 16))]) (rest := []) (lenOf pd25 rfl) rfl rfl (mroom rfl rfl) (D d48_6) (by decide) (by decide) fun T3 h3 vm3 v3 X3 C3 z3 q3 => ?_
  obtain ⟨rfl, K3⟩ := q3
  rw [K3] at X3 C3
  show Gets p e below _ (T3.setTop (mkF m 9 #[vI (0 : Int32), vI (4 : Int32), vR t] [(.int (0 : Int32))]))
  have A4 := X3.at
  refine Gets.via (fun _ k => (XS.pop A4 hx rfl (D d48_9) rfl rfl k)) ?_
  exact X3.retV hret (D d48_10) (by decide) (by decide) (fun vmE CE => ⟨rfl, rfl⟩)
abbrev RrmUinf4 : Room := { frames := 3, cells := 0, slots := 0, locals := 43 }
def QrmUinf4 (Z : State) (d : Addr) (t : Addr) (kd : ClassId) (kt : ClassId) (c0 : Int32) (c1 : Int32) (c2 : Int32) (c3 : Int32) (h0 : Heap) (v : Option Value) (vm : Vm) (h : Heap) : Prop := v = none ∧ Keep h0 h [t] ∧ Arv Z h t kt .byte (32 : Int32) (enc16 [c0, c1, c2, c3]) (.int (0 : Int32))
theorem rmUinf4 (hcx : Cx Z a0 zc fm) (d : Addr) (t : Addr) (kd : ClassId) (kt : ClassId) (c0 : Int32) (c1 : Int32) (c2 : Int32) (c3 : Int32) (h0 : Heap) (O0 : Old Z Z.heap.size h0) (Pr0 : Arv Z h0 d kd .byte (16 : Int32) (([c0, c1, c2, c3].map fun c => c.toInt8.toInt32).map Value.int) (.int (0 : Int32))) (Pr1 : Arv Z h0 t kt .byte (32 : Int32) [] (.int (0 : Int32))) (Pr2 : Z.heap.size ≤ t) (Pr3 : d ≠ t) (Pr4 : ¬ c0 < 0 ∧ ¬ (255 : Int32) < c0) (Pr5 : ¬ c1 < 0 ∧ ¬ (255 : Int32) < c1) (Pr6 : ¬ c2 < 0 ∧ ¬ (255 : Int32) < c2) (Pr7 : ¬ c3 < 0 ∧ ¬ (255 : Int32) < c3) : Met l Z consts_1 (⟨"java/lang/StringUTF16", "inflate", "([BI[BII)V"⟩ : MethodName) jdk_52_method_86_code 6 (none) [] RrmUinf4 [t] #[(.ref d), (.int (0 : Int32)), (.ref t), (.int (0 : Int32)), (.int (4 : Int32))] h0 (QrmUinf4 Z d t kd kt c0 c1 c2 c3 h0) := by
  have ⟨hw, hEL, O2, P5, O4, P6, OA, OH, OB⟩ := hcx
  refine Met.start (a0 := a0) (Ls := #[vR d, vI (0 : Int32), vR t, vI (0 : Int32), vI (4 : Int32), .unset]) pn47 hEL O0 (fun m => by first | (simp [entryFrame, mkF, argsToLocals, Value.category]; done) | rfl) ?_
  intro p e s m below meth cc T0 vm0 X0 sf0_ hby hml hret hnm
  have hx := X0.hx
  have D : ∀ {n r}, decode B47 n = r → decode cc.code n = r := fun d => hb hby d
  have zz := X0.ge
  have A0 := X0.at
  have l1 := ltA Pr0.lt
  have l2 := ltA Pr1.lt
  have l3 := neA Pr3
  have s4 := sf0_ t (memI (i := 0) rfl)
  refine Gets.via (fun _ k => (XS.iloadN A0 hx rfl (D d47_0) rfl (XS.iload A0 hx rfl (D d47_1) rfl (XS.aloadN A0 hx rfl (D d47_3) rfl rfl k)))) ?_
  refine X0.callS (W := 0) (w239 hw) (w240 hw) (w21 hw) (w241 hw) (by decide) (X0.payM (sf := []) (rmUco4 hcx t kt [] h0 X0.old Pr1) sf0 (w241 hw) (w21 hw)) rfl (sz hml rfl) (argsL := [(.int (0 : Int32)), (.int (4 : Int32)), (.ref t)]) (rest := []) (lenOf pd26 rfl) rfl rfl (mroom rfl rfl) (D d47_4) (by decide) (by decide) fun T5 h5 vm5 v5 X5 C5 z5 q5 => ?_
  obtain ⟨rfl, K5⟩ := q5
  rw [K5] at X5 C5
  have A6 := X5.at
  refine Gets.via (fun _ k => (XS.iconst A6 hx rfl (D d47_7) (XS.istore A6 hx rfl (D d47_8) rfl (l' := #[vR d, vI (0 : Int32), vR t, vI (0 : Int32), vI (4 : Int32), vI (0 : Int32)]) rfl (XS.iload A6 hx rfl (D d47_10) rfl (XS.iload A6 hx rfl (D d47_12) rfl (XS.icmpNo A6 hx rfl (D d47_14) rfl (Jvm.Free.XT.ii_ge_f (by decide)) k)))))) ?_
  show Gets p e below _ (T5.setTop (mkF m 17 #[vR d, vI (0 : Int32), vR t, vI (0 : Int32), vI (4 : Int32), vI (0 : Int32)] []))
  refine Gets.via (fun _ k => (XS.aloadN A6 hx rfl (D d47_17) rfl rfl (XS.iloadN A6 hx rfl (D d47_18) rfl (iincV A6 hx rfl (D d47_19) rfl (v := (1 : Int32)) (by decide) (l' := #[vR d, vI (0 : Int32), vR t, vI (1 : Int32), vI (4 : Int32), vI (0 : Int32)]) rfl (XS.aloadN A6 hx rfl (D d47_22) rfl rfl (XS.iloadN A6 hx rfl (D d47_23) rfl (iincV A6 hx rfl (D d47_24) rfl (v := (1 : Int32)) (by decide) (l' := #[vR d, vI (1 : Int32), vR t, vI (1 : Int32), vI (4 : Int32), vI (0 : Int32)]) rfl k))))))) ?_
  refine X5.ldB Pr0 (j := (0 : Int32)) (i := 0) (by decide) (by decide) (by decide) (v := (.int (c0.toInt8.toInt32))) rfl rfl rfl (D d47_27) ?_
  refine Gets.via (fun _ k => (XS.sipush A6 hx rfl (D d47_28) (XS.iand A6 hx rfl (D d47_31) rfl k))) ?_
  show Gets p e below _ (T5.setTop (mkF m 32 #[vR d, vI (1 : Int32), vR t, vI (1 : Int32), vI (4 : Int32), vI (0 : Int32)] [(.int ((c0.toInt8.toInt32) &&& (255 : Int32))), (.int (0 : Int32)), (.ref t)]))
  rw [show (c0.toInt8.toInt32) &&& (255 : Int32) = c0 from StrChars.lo8_mask Pr4.1 Pr4.2]
  have f7 := C5.safe (x := t) (ltA (by omega)) s4
  refine X5.callS (W := 0) (w218 hw) (w219 hw) (w21 hw) (w220 hw) (by decide) (X5.payM (sf := [t]) (rmPutC hcx t 0 c0 kt (32 : Int32) 32 [] h0 X5.old Pr1 rfl (by decide) rfl (by decide) Pr2) (sfS f7 sf0) (w220 hw) (w21 hw)) rfl (sz hml rfl) (argsL := [(.ref t), (.int (0 : Int32)), (.int c0)]) (rest := []) (lenOf pd10 rfl) rfl rfl (mroom rfl rfl) (D d47_32) (by decide) (by decide) fun T8 h8 vm8 v8 X8 C8 z8 q8 => ?_
  obtain ⟨rfl, K8, g8_0⟩ := q8
  have l9 := ltA g8_0.lt
  have A10 := X8.at
  refine Gets.via (fun _ k => (iincV A10 hx rfl (D d47_35) rfl (v := (1 : Int32)) (by decide) (l' := #[vR d, vI (1 : Int32), vR t, vI (1 : Int32), vI (4 : Int32), vI (1 : Int32)]) rfl (XS.goto A10 hx rfl (pc0 := 38) (pc' := 10) rfl (D d47_38) (by decide) (by decide) k))) ?_
  refine Gets.via (fun _ k => (XS.iload A10 hx rfl (D d47_10) rfl (XS.iload A10 hx rfl (D d47_12) rfl (XS.icmpNo A10 hx rfl (D d47_14) rfl (Jvm.Free.XT.ii_ge_f (by decide)) k)))) ?_
  refine Gets.via (fun _ k => (XS.aloadN A10 hx rfl (D d47_17) rfl rfl (XS.iloadN A10 hx rfl (D d47_18) rfl (iincV A10 hx rfl (D d47_19) rfl (v := (2 : Int32)) (by decide) (l' := #[vR d, vI (1 : Int32), vR t, vI (2 : Int32), vI (4 : Int32), vI (1 : Int32)]) rfl (XS.aloadN A10 hx rfl (D d47_22) rfl rfl (XS.iloadN A10 hx rfl (D d47_23) rfl (iincV A10 hx rfl (D d47_24) rfl (v := (2 : Int32)) (by decide) (l' := #[vR d, vI (2 : Int32), vR t, vI (2 : Int32), vI (4 : Int32), vI (1 : Int32)]) rfl k))))))) ?_
  show Gets p e below _ (T8.setTop (mkF m 27 #[vR d, vI (2 : Int32), vR t, vI (2 : Int32), vI (4 : Int32), vI (1 : Int32)] [(.int (1 : Int32)), (.ref d), (.int (1 : Int32)), (.ref t)]))
  have f11 := Pr0.keep K8 (ninS (neA (by omega)) nin0)
  refine X8.ldB f11 (j := (1 : Int32)) (i := 1) (by decide) (by decide) (by decide) (v := (.int (c1.toInt8.toInt32))) rfl rfl rfl (D d47_27) ?_
  refine Gets.via (fun _ k => (XS.sipush A10 hx rfl (D d47_28) (XS.iand A10 hx rfl (D d47_31) rfl k))) ?_
  show Gets p e below _ (T8.setTop (mkF m 32 #[vR d, vI (2 : Int32), vR t, vI (2 : Int32), vI (4 : Int32), vI (1 : Int32)] [(.int ((c1.toInt8.toInt32) &&& (255 : Int32))), (.int (1 : Int32)), (.ref t)]))
  rw [show (c1.toInt8.toInt32) &&& (255 : Int32) = c1 from StrChars.lo8_mask Pr5.1 Pr5.2]
  have f12 := C8.safe (x := t) (ltA (by omega)) f7
  refine X8.callS (W := 0) (w218 hw) (w219 hw) (w21 hw) (w220 hw) (by decide) (X8.payM (sf := [t]) (rmPutC hcx t 1 c1 kt (32 : Int32) 32 (([] ++ [(.int (c0.toInt8.toInt32))]) ++ [(.int ((c0 >>> ((8 : Int32) &&& (31 : Int32))).toInt8.toInt32))]) h8 X8.old g8_0 rfl (by decide) rfl (by decide) Pr2) (sfS f12 sf0) (w220 hw) (w21 hw)) rfl (sz hml rfl) (argsL := [(.ref t), (.int (1 : Int32)), (.int c1)]) (rest := []) (lenOf pd10 rfl) rfl rfl (mroom rfl rfl) (D d47_32) (by decide) (by decide) fun T13 h13 vm13 v13 X13 C13 z13 q13 => ?_
  obtain ⟨rfl, K13, g13_0⟩ := q13
  have l14 := ltA g13_0.lt
  have A15 := X13.at
  refine Gets.via (fun _ k => (iincV A15 hx rfl (D d47_35) rfl (v := (2 : Int32)) (by decide) (l' := #[vR d, vI (2 : Int32), vR t, vI (2 : Int32), vI (4 : Int32), vI (2 : Int32)]) rfl (XS.goto A15 hx rfl (pc0 := 38) (pc' := 10) rfl (D d47_38) (by decide) (by decide) k))) ?_
  refine Gets.via (fun _ k => (XS.iload A15 hx rfl (D d47_10) rfl (XS.iload A15 hx rfl (D d47_12) rfl (XS.icmpNo A15 hx rfl (D d47_14) rfl (Jvm.Free.XT.ii_ge_f (by decide)) k)))) ?_
  refine Gets.via (fun _ k => (XS.aloadN A15 hx rfl (D d47_17) rfl rfl (XS.iloadN A15 hx rfl (D d47_18) rfl (iincV A15 hx rfl (D d47_19) rfl (v := (3 : Int32)) (by decide) (l' := #[vR d, vI (2 : Int32), vR t, vI (3 : Int32), vI (4 : Int32), vI (2 : Int32)]) rfl (XS.aloadN A15 hx rfl (D d47_22) rfl rfl (XS.iloadN A15 hx rfl (D d47_23) rfl (iincV A15 hx rfl (D d47_24) rfl (v := (3 : Int32)) (by decide) (l' := #[vR d, vI (3 : Int32), vR t, vI (3 : Int32), vI (4 : Int32), vI (2 : Int32)]) rfl k))))))) ?_
  show Gets p e below _ (T13.setTop (mkF m 27 #[vR d, vI (3 : Int32), vR t, vI (3 : Int32), vI (4 : Int32), vI (2 : Int32)] [(.int (2 : Int32)), (.ref d), (.int (2 : Int32)), (.ref t)]))
  have f16 := f11.keep K13 (ninS (neA (by omega)) nin0)
  refine X13.ldB f16 (j := (2 : Int32)) (i := 2) (by decide) (by decide) (by decide) (v := (.int (c2.toInt8.toInt32))) rfl rfl rfl (D d47_27) ?_
  refine Gets.via (fun _ k => (XS.sipush A15 hx rfl (D d47_28) (XS.iand A15 hx rfl (D d47_31) rfl k))) ?_
  show Gets p e below _ (T13.setTop (mkF m 32 #[vR d, vI (3 : Int32), vR t, vI (3 : Int32), vI (4 : Int32), vI (2 : Int32)] [(.int ((c2.toInt8.toInt32) &&& (255 : Int32))), (.int (2 : Int32)), (.ref t)]))
  rw [show (c2.toInt8.toInt32) &&& (255 : Int32) = c2 from StrChars.lo8_mask Pr6.1 Pr6.2]
  have f17 := C13.safe (x := t) (ltA (by omega)) f12
  refine X13.callS (W := 0) (w218 hw) (w219 hw) (w21 hw) (w220 hw) (by decide) (X13.payM (sf := [t]) (rmPutC hcx t 2 c2 kt (32 : Int32) 32 (((([] ++ [(.int (c0.toInt8.toInt32))]) ++ [(.int ((c0 >>> ((8 : Int32) &&& (31 : Int32))).toInt8.toInt32))]) ++ [(.int (c1.toInt8.toInt32))]) ++ [(.int ((c1 >>> ((8 : Int32) &&& (31 : Int32))).toInt8.toInt32))]) h13 X13.old g13_0 rfl (by decide) rfl (by decide) Pr2) (sfS f17 sf0) (w220 hw) (w21 hw)) rfl (sz hml rfl) (argsL := [(.ref t), (.int (2 : Int32)), (.int c2)]) (rest := []) (lenOf pd10 rfl) rfl rfl (mroom rfl rfl) (D d47_32) (by decide) (by decide) fun T18 h18 vm18 v18 X18 C18 z18 q18 => ?_
  obtain ⟨rfl, K18, g18_0⟩ := q18
  have l19 := ltA g18_0.lt
  have A20 := X18.at
  refine Gets.via (fun _ k => (iincV A20 hx rfl (D d47_35) rfl (v := (3 : Int32)) (by decide) (l' := #[vR d, vI (3 : Int32), vR t, vI (3 : Int32), vI (4 : Int32), vI (3 : Int32)]) rfl (XS.goto A20 hx rfl (pc0 := 38) (pc' := 10) rfl (D d47_38) (by decide) (by decide) k))) ?_
  refine Gets.via (fun _ k => (XS.iload A20 hx rfl (D d47_10) rfl (XS.iload A20 hx rfl (D d47_12) rfl (XS.icmpNo A20 hx rfl (D d47_14) rfl (Jvm.Free.XT.ii_ge_f (by decide)) k)))) ?_
  refine Gets.via (fun _ k => (XS.aloadN A20 hx rfl (D d47_17) rfl rfl (XS.iloadN A20 hx rfl (D d47_18) rfl (iincV A20 hx rfl (D d47_19) rfl (v := (4 : Int32)) (by decide) (l' := #[vR d, vI (3 : Int32), vR t, vI (4 : Int32), vI (4 : Int32), vI (3 : Int32)]) rfl (XS.aloadN A20 hx rfl (D d47_22) rfl rfl (XS.iloadN A20 hx rfl (D d47_23) rfl (iincV A20 hx rfl (D d47_24) rfl (v := (4 : Int32)) (by decide) (l' := #[vR d, vI (4 : Int32), vR t, vI (4 : Int32), vI (4 : Int32), vI (3 : Int32)]) rfl k))))))) ?_
  show Gets p e below _ (T18.setTop (mkF m 27 #[vR d, vI (4 : Int32), vR t, vI (4 : Int32), vI (4 : Int32), vI (3 : Int32)] [(.int (3 : Int32)), (.ref d), (.int (3 : Int32)), (.ref t)]))
  have f21 := f16.keep K18 (ninS (neA (by omega)) nin0)
  refine X18.ldB f21 (j := (3 : Int32)) (i := 3) (by decide) (by decide) (by decide) (v := (.int (c3.toInt8.toInt32))) rfl rfl rfl (D d47_27) ?_
  refine Gets.via (fun _ k => (XS.sipush A20 hx rfl (D d47_28) (XS.iand A20 hx rfl (D d47_31) rfl k))) ?_
  show Gets p e below _ (T18.setTop (mkF m 32 #[vR d, vI (4 : Int32), vR t, vI (4 : Int32), vI (4 : Int32), vI (3 : Int32)] [(.int ((c3.toInt8.toInt32) &&& (255 : Int32))), (.int (3 : Int32)), (.ref t)]))
  rw [show (c3.toInt8.toInt32) &&& (255 : Int32) = c3 from StrChars.lo8_mask Pr7.1 Pr7.2]
  have f22 := C18.safe (x := t) (ltA (by omega)) f17
  refine X18.callS (W := 0) (w218 hw) (w219 hw) (w21 hw) (w220 hw) (by decide) (X18.payM (sf := [t]) (rmPutC hcx t 3 c3 kt (32 : Int32) 32 (((((([] ++ [(.int (c0.toInt8.toInt32))]) ++ [(.int ((c0 >>> ((8 : Int32) &&& (31 : Int32))).toInt8.toInt32))]) ++ [(.int (c1.toInt8.toInt32))]) ++ [(.int ((c1 >>> ((8 : Int32) &&& (31 : Int32))).toInt8.toInt32))]) ++ [(.int (c2.toInt8.toInt32))]) ++ [(.int ((c2 >>> ((8 : Int32) &&& (31 : Int32))).toInt8.toInt32))]) h18 X18.old g18_0 rfl (by decide) rfl (by decide) Pr2) (sfS f22 sf0) (w220 hw) (w21 hw)) rfl (sz hml rfl) (argsL := [(.ref t), (.int (3 : Int32)), (.int c3)]) (rest := []) (lenOf pd10 rfl) rfl rfl (mroom rfl rfl) (D d47_32) (by decide) (by decide) fun T23 h23 vm23 v23 X23 C23 z23 q23 => ?_
  obtain ⟨rfl, K23, g23_0⟩ := q23
  have l24 := ltA g23_0.lt
  have A25 := X23.at
  refine Gets.via (fun _ k => (iincV A25 hx rfl (D d47_35) rfl (v := (4 : Int32)) (by decide) (l' := #[vR d, vI (4 : Int32), vR t, vI (4 : Int32), vI (4 : Int32), vI (4 : Int32)]) rfl (XS.goto A25 hx rfl (pc0 := 38) (pc' := 10) rfl (D d47_38) (by decide) (by decide) k))) ?_
  refine Gets.via (fun _ k => (XS.iload A25 hx rfl (D d47_10) rfl (XS.iload A25 hx rfl (D d47_12) rfl (XS.icmpYes A25 hx rfl (pc0 := 14) (pc' := 41) rfl (D d47_14) rfl (Jvm.Free.XT.ii_ge_t (by decide)) (by decide) (by decide) k)))) ?_
  have f26 : Arv Z h23 t kt .byte (32 : Int32) (enc16 [c0, c1, c2, c3]) (.int (0 : Int32)) := encL4 c0 c1 c2 c3 ▸ g23_0
  exact X23.retV hret (D d47_41) (by decide) (by decide) (fun vmE CE => ⟨rfl, (((((Keep.refl h0 [t]).trans K8 (allS (Or.inl (memI (i := 0) rfl)) all0)).trans K13 (allS (Or.inl (memI (i := 0) rfl)) all0)).trans K18 (allS (Or.inl (memI (i := 0) rfl)) all0)).trans K23 (allS (Or.inl (memI (i := 0) rfl)) all0)), f26⟩)
abbrev RrmLinf4 : Room := { frames := 4, cells := 0, slots := 0, locals := 60 }
def QrmLinf4 (Z : State) (d : Addr) (t : Addr) (kd : ClassId) (kt : ClassId) (c0 : Int32) (c1 : Int32) (c2 : Int32) (c3 : Int32) (h0 : Heap) (v : Option Value) (vm : Vm) (h : Heap) : Prop := v = none ∧ Keep h0 h [t] ∧ Arv Z h t kt .byte (32 : Int32) (enc16 [c0, c1, c2, c3]) (.int (0 : Int32))
theorem rmLinf4 (hcx : Cx Z a0 zc fm) (d : Addr) (t : Addr) (kd : ClassId) (kt : ClassId) (c0 : Int32) (c1 : Int32) (c2 : Int32) (c3 : Int32) (h0 : Heap) (O0 : Old Z Z.heap.size h0) (Pr0 : Arv Z h0 d kd .byte (16 : Int32) (([c0, c1, c2, c3].map fun c => c.toInt8.toInt32).map Value.int) (.int (0 : Int32))) (Pr1 : Arv Z h0 t kt .byte (32 : Int32) [] (.int (0 : Int32))) (Pr2 : Z.heap.size ≤ t) (Pr3 : d ≠ t) (Pr4 : ¬ c0 < 0 ∧ ¬ (255 : Int32) < c0) (Pr5 : ¬ c1 < 0 ∧ ¬ (255 : Int32) < c1) (Pr6 : ¬ c2 < 0 ∧ ¬ (255 : Int32) < c2) (Pr7 : ¬ c3 < 0 ∧ ¬ (255 : Int32) < c3) : Met l Z consts_1 (⟨"java/lang/StringLatin1", "inflate", "([BI[BII)V"⟩ : MethodName) jdk_43_method_50_code 5 (none) [] RrmLinf4 [t] #[(.ref d), (.int (0 : Int32)), (.ref t), (.int (0 : Int32)), (.int (4 : Int32))] h0 (QrmLinf4 Z d t kd kt c0 c1 c2 c3 h0) := by
  have ⟨hw, hEL, O2, P5, O4, P6, OA, OH, OB⟩ := hcx
  refine Met.start (a0 := a0) (Ls := #[vR d, vI (0 : Int32), vR t, vI (0 : Int32), vI (4 : Int32)]) pn46 hEL O0 (fun m => by first | (simp [entryFrame, mkF, argsToLocals, Value.category]; done) | rfl) ?_
  intro p e s m below meth cc T0 vm0 X0 sf0_ hby hml hret hnm
  have hx := X0.hx
  have D : ∀ {n r}, decode B46 n = r → decode cc.code n = r := fun d => hb hby d
  have zz := X0.ge
  have A0 := X0.at
  have l1 := ltA Pr0.lt
  have l2 := ltA Pr1.lt
  have l3 := neA Pr3
  have s4 := sf0_ t (memI (i := 0) rfl)
  refine Gets.via (fun _ k => (XS.aloadN A0 hx rfl (D d46_0) rfl rfl (XS.iloadN A0 hx rfl (D d46_1) rfl (XS.aloadN A0 hx rfl (D d46_2) rfl rfl (XS.iloadN A0 hx rfl (D d46_3) rfl (XS.iload A0 hx rfl (D d46_4) rfl k)))))) ?_
  refine X0.callS (W := 0) (w236 hw) (w237 hw) (w21 hw) (w238 hw) (by decide) (X0.payM (sf := [t]) (rmUinf4 hcx d t kd kt c0 c1 c2 c3 h0 X0.old Pr0 Pr1 Pr2 Pr3 Pr4 Pr5 Pr6 Pr7) (sfS s4 sf0) (w238 hw) (w21 hw)) rfl (sz hml rfl) (argsL := [(.ref d), (.int (0 : Int32)), (.ref t), (.int (0 : Int32)), (.int (4 : Int32))]) (rest := []) (lenOf pd27 rfl) rfl rfl (mroom rfl rfl) (D d46_6) (by decide) (by decide) fun T5 h5 vm5 v5 X5 C5 z5 q5 => ?_
  obtain ⟨rfl, K5, g5_0⟩ := q5
  have l6 := ltA g5_0.lt
  exact X5.retV hret (D d46_9) (by decide) (by decide) (fun vmE CE => ⟨rfl, ((Keep.refl h0 [t]).trans K5 (allS (Or.inl (memI (i := 0) rfl)) all0)), g5_0⟩)
abbrev RrmInfl4 : Room := { frames := 5, cells := 1, slots := 32, locals := 76 }
def QrmInfl4 (Z : State) (x : Addr) (d : Addr) (kd : ClassId) (c0 : Int32) (c1 : Int32) (c2 : Int32) (c3 : Int32) (h0 : Heap) (v : Option Value) (vm : Vm) (h : Heap) : Prop := ∃ (t : Addr) (kt : ClassId), v = none ∧ Keep h0 h [x] ∧ Exa Z h x "java/lang/StringBuilder" ∧ Fld Z h x "java/lang/AbstractStringBuilder" "value" "[B" (.ref t) ∧ Fld Z h x "java/lang/AbstractStringBuilder" "coder" "B" (.int (1 : Int32)) ∧ Fld Z h x "java/lang/AbstractStringBuilder" "count" "I" (.int (Int32.ofNat ([c0, c1, c2, c3]).length)) ∧ Fld Z h x "java/lang/AbstractStringBuilder" "maybeLatin1" "Z" (.int (0 : Int32)) ∧ Arv Z h t kt .byte (32 : Int32) (enc16 [c0, c1, c2, c3]) (.int (0 : Int32)) ∧ Safe Z consts_1 vm h t ∧ h0.size ≤ t
theorem rmInfl4 (hcx : Cx Z a0 zc fm) (x : Addr) (d : Addr) (kd : ClassId) (c0 : Int32) (c1 : Int32) (c2 : Int32) (c3 : Int32) (h0 : Heap) (O0 : Old Z Z.heap.size h0) (Pr0 : Exa Z h0 x "java/lang/StringBuilder") (Pr1 : Fld Z h0 x "java/lang/AbstractStringBuilder" "value" "[B" (.ref d)) (Pr2 : Fld Z h0 x "java/lang/AbstractStringBuilder" "coder" "B" (.int (0 : Int32))) (Pr3 : Fld Z h0 x "java/lang/AbstractStringBuilder" "count" "I" (.int (Int32.ofNat ([c0, c1, c2, c3]).length))) (Pr4 : Fld Z h0 x "java/lang/AbstractStringBuilder" "maybeLatin1" "Z" (.int (0 : Int32))) (Pr5 : Arv Z h0 d kd .byte (16 : Int32) (([c0, c1, c2, c3].map fun c => c.toInt8.toInt32).map Value.int) (.int (0 : Int32))) (Pr6 : Z.heap.size ≤ x) (Pr7 : ¬ c0 < 0 ∧ ¬ (255 : Int32) < c0) (Pr8 : ¬ c1 < 0 ∧ ¬ (255 : Int32) < c1) (Pr9 : ¬ c2 < 0 ∧ ¬ (255 : Int32) < c2) (Pr10 : ¬ c3 < 0 ∧ ¬ (255 : Int32) < c3) : Met l Z consts_1 (⟨"java/lang/AbstractStringBuilder", "inflate", "()V"⟩ : MethodName) jdk_68_method_11_code 2 (none) [] RrmInfl4 [] #[(.ref x)] h0 (QrmInfl4 Z x d kd c0 c1 c2 c3 h0) := by
  have ⟨hw, hEL, O2, P5, O4, P6, OA, OH, OB⟩ := hcx
  refine Met.start (a0 := a0) (Ls := #[vR x, .unset]) pn45 hEL O0 (fun m => by first | (simp [entryFrame, mkF, argsToLocals, Value.category]; done) | rfl) ?_
  intro p e s m below meth cc T0 vm0 X0 sf0_ hby hml hret hnm
  have hx := X0.hx
  have D : ∀ {n r}, decode B45 n = r → decode cc.code n = r := fun d => hb hby d
  have zz := X0.ge
  have A0 := X0.at
  have l1 := ltA Pr0.lt
  have l2 := ltA Pr5.lt
  have f3 : Fld Z h0 x "java/lang/AbstractStringBuilder" "count" "I" (.int (4 : Int32)) := Pr3
  refine Gets.via (fun _ k => (XS.aloadN A0 hx rfl (D d45_0) rfl rfl k)) ?_
  refine X0.callV (W := 0) (w131 hw) (w132 hw) (w134 hw) (w133 hw) (nfs rfl (w134 hw)) (by decide) (X0.payM (sf := []) (rmSbL0 hcx x h0 X0.old Pr0 Pr2) sf0 (w135 hw) (w54 hw)) Pr0 rfl (sz hml rfl) (argsL := []) (rest := []) (lenOf pd21 rfl) rfl rfl (mroom rfl rfl) (D d45_1) (by decide) (by decide) fun T4 h4 vm4 v4 X4 C4 z4 q4 => ?_
  obtain ⟨rfl, K4⟩ := q4
  rw [K4] at X4 C4
  have A5 := X4.at
  refine Gets.via (fun _ k => (XS.ifYes A5 hx rfl (pc0 := 4) (pc' := 8) rfl (D d45_4) rfl (Jvm.Free.XT.i0_ne_t (by decide)) (by decide) (by decide) k)) ?_
  refine Gets.via (fun _ k => (XS.aloadN A5 hx rfl (D d45_8) rfl rfl k)) ?_
  refine X4.getF (host := "") (Or.inl (w58 hw)) Via.refl Pr1 rfl rfl (D d45_9) fun T6 X6 => ?_
  show Gets p e below _ (T6.setTop (mkF m 12 #[vR x, .unset] [(.ref d)]))
  refine X6.alen Pr5 rfl rfl (D d45_12) ?_
  refine X6.callS (W := 0) (w232 hw) (w212 hw) (w21 hw) (w213 hw) (by decide) (X6.payM (sf := []) (rmNbf16 hcx  h0 X6.old ) sf0 (w213 hw) (w21 hw)) rfl (sz hml rfl) (argsL := [(.int (16 : Int32))]) (rest := []) (lenOf pd9 rfl) rfl rfl (mroom rfl rfl) (D d45_13) (by decide) (by decide) fun T7 h7 vm7 v7 X7 C7 z7 q7 => ?_
  obtain ⟨t7, kt7, rfl, K7, g7_0, g7_1, g7_2⟩ := q7
  have l8 := ltA g7_0.lt
  have A9 := X7.at
  refine Gets.via (fun _ k => (XS.astoreN A9 hx rfl (D d45_16) rfl rfl (l' := #[vR x, vR t7]) rfl (XS.aloadN A9 hx rfl (D d45_17) rfl rfl k))) ?_
  have f11 := Pr1.keep K7 nin0
  refine X7.getF (host := "") (Or.inl (w58 hw)) Via.refl f11 rfl rfl (D d45_18) fun T10 X10 => ?_
  have A12 := X10.at
  refine Gets.via (fun _ k => (XS.iconst A12 hx rfl (D d45_21) (XS.aloadN A12 hx rfl (D d45_22) rfl rfl (XS.iconst A12 hx rfl (D d45_23) (XS.aloadN A12 hx rfl (D d45_24) rfl rfl k))))) ?_
  show Gets p e below _ (T10.setTop (mkF m 25 #[vR x, vR t7] [(.ref x), (.int (0 : Int32)), (.ref t7), (.int (0 : Int32)), (.ref d)]))
  have f14 := f3.keep K7 nin0
  refine X10.getF (host := "") (Or.inl (w89 hw)) Via.refl f14 rfl rfl (D d45_25) fun T13 X13 => ?_
  have f15 := Pr5.keep K7 nin0
  refine X13.callS (W := 0) (w233 hw) (w234 hw) (w138 hw) (w235 hw) (by decide) (X13.payM (sf := [t7]) (rmLinf4 hcx d t7 kd kt7 c0 c1 c2 c3 h7 X13.old f15 g7_0 (leA (by omega)) (neA (by omega)) Pr7 Pr8 Pr9 Pr10) (sfS g7_1 sf0) (w235 hw) (w138 hw)) rfl (sz hml rfl) (argsL := [(.ref d), (.int (0 : Int32)), (.ref t7), (.int (0 : Int32)), (.int (4 : Int32))]) (rest := []) (lenOf pd27 rfl) rfl rfl (mroom rfl rfl) (D d45_28) (by decide) (by decide) fun T16 h16 vm16 v16 X16 C16 z16 q16 => ?_
  obtain ⟨rfl, K16, g16_0⟩ := q16
  have l17 := ltA g16_0.lt
  have A18 := X16.at
  refine Gets.via (fun _ k => (XS.aloadN A18 hx rfl (D d45_31) rfl rfl (XS.aloadN A18 hx rfl (D d45_32) rfl rfl k))) ?_
  have f20 := f11.keep K16 (ninS (neA (by omega)) nin0)
  have f21 := Pr0.keep K7
  have f22 := f21.keep K16
  refine X16.putF (host := "") (Or.inl (w58 hw)) Via.refl f20 f22 (Or.inl (w59 hw)) (w45 hw) (ty := (.array .byte)) (by decide) rfl rfl (leA (by omega)) (Safe.exa X16.hZ.alike f22 (by decide) (by decide)) rfl rfl (D d45_33) fun T19 h19 X19 C19 W19 F19 Z19 => ?_
  have z19 := W19.size
  have A23 := X19.at
  refine Gets.via (fun _ k => (XS.aloadN A23 hx rfl (D d45_36) rfl rfl (XS.iconst A23 hx rfl (D d45_37) k))) ?_
  show Gets p e below _ (T19.setTop (mkF m 38 #[vR x, vR t7] [(.int (1 : Int32)), (.ref x)]))
  have f25 := Pr2.keep K7 nin0
  have f26 := f25.keep K16 (ninS (neA (by omega)) nin0)
  have f27 := f26.other W19 (Or.inr (slot_ne (t := .byte) (t' := (.array .byte)) (Or.inl (w61 hw)) (Or.inl (w59 hw)) (by decide) (by decide) (by decide)))
  refine X19.putF (host := "") (Or.inl (w60 hw)) Via.refl f27 Z19 (Or.inl (w61 hw)) (w45 hw) (ty := .byte) (by decide) (by decide) (by decide) (leA (by omega)) (Safe.exa X19.hZ.alike Z19 (by decide) (by decide)) rfl rfl (D d45_38) fun T24 h24 X24 C24 W24 F24 Z24 => ?_
  have z24 := W24.size
  have f28 := F19.other W24 (Or.inr (slot_ne (t := (.array .byte)) (t' := .byte) (Or.inl (w59 hw)) (Or.inl (w61 hw)) (by decide) (by decide) (by decide)))
  have f29 := Pr3.keep K7 nin0
  have f30 := f29.keep K16 (ninS (neA (by omega)) nin0)
  have f31 := f30.other W19 (Or.inr (slot_ne (t := .int) (t' := (.array .byte)) (Or.inl (w90 hw)) (Or.inl (w59 hw)) (by decide) (by decide) (by decide)))
  have f32 := f31.other W24 (Or.inr (slot_ne (t := .int) (t' := .byte) (Or.inl (w90 hw)) (Or.inl (w61 hw)) (by decide) (by decide) (by decide)))
  have f33 := Pr4.keep K7 nin0
  have f34 := f33.keep K16 (ninS (neA (by omega)) nin0)
  have f35 := f34.other W19 (Or.inr (slot_ne (t := .boolean) (t' := (.array .byte)) (Or.inl (w259 hw)) (Or.inl (w59 hw)) (by decide) (by decide) (by decide)))
  have f36 := f35.other W24 (Or.inr (slot_ne (t := .boolean) (t' := .byte) (Or.inl (w259 hw)) (Or.inl (w61 hw)) (by decide) (by decide) (by decide)))
  have f37 := g16_0.other W19 (neA (by omega))
  have f38 := f37.other W24 (neA (by omega))
  have f39 := C16.safe (x := t7) (ltA (by omega)) g7_1
  have f40 := C19.safe (x := t7) (ltA (by omega)) f39
  have f41 := C24.safe (x := t7) (ltA (by omega)) f40
  exact X24.retV hret (D d45_41) (by decide) (by decide) (fun vmE CE => ⟨t7, kt7, rfl, (((((Keep.refl h0 [x]).trans K7 all0).trans K16 (allS (Or.inr (leA (by omega))) all0)).wr W19 (Or.inl (memI (i := 0) rfl))).wr W24 (Or.inl (memI (i := 0) rfl))), Z24, f28, F24, f32, f36, f38, CE.safe (x := t7) (ltA (by omega)) f41, g7_2⟩)
abbrev RrmInfU4 : Room := { frames := 6, cells := 1, slots := 32, locals := 89 }
def QrmInfU4 (Z : State) (x : Addr) (s1 : Addr) (d : Addr) (kd : ClassId) (c0 : Int32) (c1 : Int32) (c2 : Int32) (c3 : Int32) (h0 : Heap) (v : Option Value) (vm : Vm) (h : Heap) : Prop := ∃ (t : Addr) (kt : ClassId), v = none ∧ Keep h0 h [x] ∧ Exa Z h x "java/lang/StringBuilder" ∧ Fld Z h x "java/lang/AbstractStringBuilder" "value" "[B" (.ref t) ∧ Fld Z h x "java/lang/AbstractStringBuilder" "coder" "B" (.int (1 : Int32)) ∧ Fld Z h x "java/lang/AbstractStringBuilder" "count" "I" (.int (Int32.ofNat ([c0, c1, c2, c3]).length)) ∧ Fld Z h x "java/lang/AbstractStringBuilder" "maybeLatin1" "Z" (.int (0 : Int32)) ∧ Arv Z h t kt .byte (32 : Int32) (enc16 [c0, c1, c2, c3]) (.int (0 : Int32)) ∧ Safe Z consts_1 vm h t ∧ h0.size ≤ t
theorem rmInfU4 (hcx : Cx Z a0 zc fm) (x : Addr) (s1 : Addr) (d : Addr) (kd : ClassId) (c0 : Int32) (c1 : Int32) (c2 : Int32) (c3 : Int32) (h0 : Heap) (O0 : Old Z Z.heap.size h0) (Pr0 : Exa Z h0 x "java/lang/StringBuilder") (Pr1 : Fld Z h0 x "java/lang/AbstractStringBuilder" "value" "[B" (.ref d)) (Pr2 : Fld Z h0 x "java/lang/AbstractStringBuilder" "coder" "B" (.int (0 : Int32))) (Pr3 : Fld Z h0 x "java/lang/AbstractStringBuilder" "count" "I" (.int (Int32.ofNat ([c0, c1, c2, c3]).length))) (Pr4 : Fld Z h0 x "java/lang/AbstractStringBuilder" "maybeLatin1" "Z" (.int (0 : Int32))) (Pr5 : Arv Z h0 d kd .byte (16 : Int32) (([c0, c1, c2, c3].map fun c => c.toInt8.toInt32).map Value.int) (.int (0 : Int32))) (Pr6 : Z.heap.size ≤ x) (Pr7 : ¬ c0 < 0 ∧ ¬ (255 : Int32) < c0) (Pr8 : ¬ c1 < 0 ∧ ¬ (255 : Int32) < c1) (Pr9 : ¬ c2 < 0 ∧ ¬ (255 : Int32) < c2) (Pr10 : ¬ c3 < 0 ∧ ¬ (255 : Int32) < c3) (Pr11 : Exa Z h0 s1 "java/lang/String") (Pr12 : Fld Z h0 s1 "java/lang/String" "coder" "B" (.int (1 : Int32))) : Met l Z consts_1 (⟨"java/lang/AbstractStringBuilder", "inflateIfNeededFor", "(Ljava/lang/String;)V"⟩ : MethodName) jdk_68_method_71_code 2 (none) [] RrmInfU4 [] #[(.ref x), (.ref s1)] h0 (QrmInfU4 Z x s1 d kd c0 c1 c2 c3 h0) := by
  have ⟨hw, hEL, O2, P5, O4, P6, OA, OH, OB⟩ := hcx
  refine Met.start (a0 := a0) (Ls := #[vR x, vR s1]) pn17 hEL O0 (fun m => by first | (simp [entryFrame, mkF, argsToLocals, Value.category]; done) | rfl) ?_
  intro p e s m below meth cc T0 vm0 X0 sf0_ hby hml hret hnm
  have hx := X0.hx
  have D : ∀ {n r}, decode B17 n = r → decode cc.code n = r := fun d => hb hby d
  have zz := X0.ge
  have A0 := X0.at
  have l1 := ltA Pr0.lt
  have l2 := ltA Pr5.lt
  have l3 := ltA Pr11.lt
  refine X0.getS (host := "") (Or.inl (w57 hw)) Via.refl (X0.sta O2) rfl (D d17_0) fun T4 X4 => ?_
  have A5 := X4.at
  refine Gets.via (fun _ k => (XS.ifNo A5 hx rfl (D d17_3) rfl (Jvm.Free.XT.i0_eq_f P5) k)) ?_
  refine Gets.via (fun _ k => (XS.aloadN A5 hx rfl (D d17_6) rfl rfl k)) ?_
  refine X4.getF (host := "") (Or.inl (w60 hw)) Via.refl Pr2 rfl rfl (D d17_7) fun T6 X6 => ?_
  have A7 := X6.at
  refine Gets.via (fun _ k => (XS.aloadN A7 hx rfl (D d17_10) rfl rfl k)) ?_
  show Gets p e below _ (T6.setTop (mkF m 11 #[vR x, vR s1] [(.ref s1), (.int (0 : Int32))]))
  refine X6.callV (W := 1) (w106 hw) (w85 hw) (w87 hw) (w86 hw) (nfs rfl (w87 hw)) (by decide) (X6.payM (sf := []) (rmCoder1 hcx s1 h0 X6.old Pr11 Pr12) sf0 (w88 hw) (w6 hw)) Pr11 rfl (sz hml rfl) (argsL := []) (rest := [(.int (0 : Int32))]) (lenOf pd1 rfl) rfl rfl (mroom rfl rfl) (D d17_11) (by decide) (by decide) fun T8 h8 vm8 v8 X8 C8 z8 q8 => ?_
  obtain ⟨rfl, K8⟩ := q8
  rw [K8] at X8 C8
  have A9 := X8.at
  refine Gets.via (fun _ k => (XS.icmpNo A9 hx rfl (D d17_14) rfl (Jvm.Free.XT.ii_eq_f (by decide)) k)) ?_
  refine Gets.via (fun _ k => (XS.aloadN A9 hx rfl (D d17_17) rfl rfl k)) ?_
  refine X8.callP (W := 0) (w227 hw) (w228 hw) (w230 hw) (w229 hw) (w231 hw) (by decide) (X8.payM (sf := []) (rmInfl4 hcx x d kd c0 c1 c2 c3 h0 X8.old Pr0 Pr1 Pr2 Pr3 Pr4 Pr5 Pr6 Pr7 Pr8 Pr9 Pr10) sf0 (w231 hw) (w54 hw)) Pr0 rfl (sz hml rfl) (argsL := []) (rest := []) (lenOf pd28 rfl) rfl rfl (mroom rfl rfl) (D d17_18) (by decide) (by decide) fun T10 h10 vm10 v10 X10 C10 z10 q10 => ?_
  obtain ⟨t10, kt10, rfl, K10, g10_0, g10_1, g10_2, g10_3, g10_4, g10_5, g10_6, g10_7⟩ := q10
  have l11 := ltA g10_0.lt
  have l12 := ltA g10_5.lt
  exact X10.retV hret (D d17_21) (by decide) (by decide) (fun vmE CE => ⟨t10, kt10, rfl, ((Keep.refl h0 [x]).trans K10 (allS (Or.inl (memI (i := 0) rfl)) all0)), g10_0, g10_1, g10_2, g10_3, g10_4, g10_5, CE.safe (x := t10) (ltA (by omega)) g10_6, g10_7⟩)
abbrev RrmPsaU4 : Room := { frames := 7, cells := 1, slots := 32, locals := 102 }
def QrmPsaU4 (Z : State) (x : Addr) (s1 : Addr) (d : Addr) (kd : ClassId) (c0 : Int32) (c1 : Int32) (c2 : Int32) (c3 : Int32) (b : Addr) (kb : ClassId) (ds : List Int32) (h0 : Heap) (v : Option Value) (vm : Vm) (h : Heap) : Prop := ∃ (t : Addr) (kt : ClassId), v = none ∧ Keep h0 h [x, d] ∧ Exa Z h x "java/lang/StringBuilder" ∧ Fld Z h x "java/lang/AbstractStringBuilder" "value" "[B" (.ref t) ∧ Fld Z h x "java/lang/AbstractStringBuilder" "coder" "B" (.int (1 : Int32)) ∧ Fld Z h x "java/lang/AbstractStringBuilder" "count" "I" (.int (Int32.ofNat ([c0, c1, c2, c3]).length)) ∧ Fld Z h x "java/lang/AbstractStringBuilder" "maybeLatin1" "Z" (.int (0 : Int32)) ∧ Arv Z h t kt .byte (32 : Int32) (enc16 ([c0, c1, c2, c3] ++ ds)) (.int (0 : Int32)) ∧ Safe Z consts_1 vm h t ∧ h0.size ≤ t ∧ x ≠ t
theorem rmPsaU4 (hcx : Cx Z a0 zc fm) (x : Addr) (s1 : Addr) (d : Addr) (kd : ClassId) (c0 : Int32) (c1 : Int32) (c2 : Int32) (c3 : Int32) (b : Addr) (kb : ClassId) (ds : List Int32) (h0 : Heap) (O0 : Old Z Z.heap.size h0) (Pr0 : Exa Z h0 x "java/lang/StringBuilder") (Pr1 : Fld Z h0 x "java/lang/AbstractStringBuilder" "value" "[B" (.ref d)) (Pr2 : Fld Z h0 x "java/lang/AbstractStringBuilder" "coder" "B" (.int (0 : Int32))) (Pr3 : Fld Z h0 x "java/lang/AbstractStringBuilder" "count" "I" (.int (Int32.ofNat ([c0, c1, c2, c3]).length))) (Pr4 : Fld Z h0 x "java/lang/AbstractStringBuilder" "maybeLatin1" "Z" (.int (0 : Int32))) (Pr5 : Arv Z h0 d kd .byte (16 : Int32) (([c0, c1, c2, c3].map fun c => c.toInt8.toInt32).map Value.int) (.int (0 : Int32))) (Pr6 : StrU Z h0 s1 b kb ds) (Pr7 : ([c0, c1, c2, c3]).length + (ds).length ≤ 16) (Pr8 : Z.heap.size ≤ x) (Pr9 : Z.heap.size ≤ d) (Pr10 : x ≠ d) (Pr11 : ¬ c0 < 0 ∧ ¬ (255 : Int32) < c0) (Pr12 : ¬ c1 < 0 ∧ ¬ (255 : Int32) < c1) (Pr13 : ¬ c2 < 0 ∧ ¬ (255 : Int32) < c2) (Pr14 : ¬ c3 < 0 ∧ ¬ (255 : Int32) < c3) (Pr15 : b ≠ x) : Met l Z consts_1 (⟨"java/lang/AbstractStringBuilder", "putStringAt", "(ILjava/lang/String;)V"⟩ : MethodName) jdk_68_method_73_code 3 (none) [] RrmPsaU4 [d] #[(.ref x), (.int (Int32.ofNat ([c0, c1, c2, c3]).length)), (.ref s1)] h0 (QrmPsaU4 Z x s1 d kd c0 c1 c2 c3 b kb ds h0) := by
  have ⟨hw, hEL, O2, P5, O4, P6, OA, OH, OB⟩ := hcx
  refine Met.start (a0 := a0) (Ls := #[vR x, vI (Int32.ofNat ([c0, c1, c2, c3]).length), vR s1]) pn16 hEL O0 (fun m => by first | (simp [entryFrame, mkF, argsToLocals, Value.category]; done) | rfl) ?_
  intro p e s m below meth cc T0 vm0 X0 sf0_ hby hml hret hnm
  have hx := X0.hx
  have D : ∀ {n r}, decode B16 n = r → decode cc.code n = r := fun d => hb hby d
  have zz := X0.ge
  have A0 := X0.at
  have l1 := ltA Pr0.lt
  have l2 := ltA Pr5.lt
  have l3 := ltA Pr6.lt
  have l4 := ltA Pr6.lb
  have l5 := neA Pr10
  have l6 := neA Pr15
  have s7 := sf0_ d (memI (i := 0) rfl)
  refine Gets.via (fun _ k => (XS.aloadN A0 hx rfl (D d16_0) rfl rfl (XS.aloadN A0 hx rfl (D d16_1) rfl rfl k))) ?_
  refine X0.callP (W := 0) (w101 hw) (w102 hw) (w104 hw) (w103 hw) (w105 hw) (by decide) (X0.payM (sf := []) (rmInfU4 hcx x s1 d kd c0 c1 c2 c3 h0 X0.old Pr0 Pr1 Pr2 Pr3 Pr4 Pr5 Pr8 Pr11 Pr12 Pr13 Pr14 Pr6.1 Pr6.2.1) sf0 (w105 hw) (w54 hw)) Pr0 rfl (sz hml rfl) (argsL := [(.ref s1)]) (rest := []) (lenOf pd15 rfl) rfl rfl (mroom rfl rfl) (D d16_2) (by decide) (by decide) fun T8 h8 vm8 v8 X8 C8 z8 q8 => ?_
  obtain ⟨t8, kt8, rfl, K8, g8_0, g8_1, g8_2, g8_3, g8_4, g8_5, g8_6, g8_7⟩ := q8
  have l9 := ltA g8_0.lt
  have l10 := ltA g8_5.lt
  have A11 := X8.at
  refine Gets.via (fun _ k => (XS.aloadN A11 hx rfl (D d16_5) rfl rfl (XS.aloadN A11 hx rfl (D d16_6) rfl rfl k))) ?_
  refine X8.getF (host := "") (Or.inl (w58 hw)) Via.refl g8_1 rfl rfl (D d16_7) fun T12 X12 => ?_
  show Gets p e below _ (T12.setTop (mkF m 10 #[vR x, vI (Int32.ofNat ([c0, c1, c2, c3]).length), vR s1] [(.ref t8), (.ref s1)]))
  have A13 := X12.at
  refine Gets.via (fun _ k => (XS.iloadN A13 hx rfl (D d16_10) rfl (XS.aloadN A13 hx rfl (D d16_11) rfl rfl k))) ?_
  refine X12.getF (host := "") (Or.inl (w60 hw)) Via.refl g8_2 rfl rfl (D d16_12) fun T14 X14 => ?_
  have l15 := neA (Exa.ne Pr6.1 Pr0 (by decide))
  have f16 : StrU Z h8 s1 b kb ds := Pr6.keep K8 (ninS (neA (by omega)) nin0) (ninS (neA (by omega)) nin0)
  refine X14.callV (W := 0) (w107 hw) (w108 hw) (w110 hw) (w109 hw) (nfs rfl (w110 hw)) (by decide) (X14.payM (sf := [t8]) (rmGb1 hcx s1 t8 [c0, c1, c2, c3] b kb ds kt8 h8 X14.old f16 g8_5 Pr7 (leA (by omega))) (sfS g8_6 sf0) (w111 hw) (w6 hw)) f16.1 rfl (sz hml rfl) (argsL := [(.ref t8), (.int (Int32.ofNat ([c0, c1, c2, c3]).length)), (.int (1 : Int32))]) (rest := []) (lenOf pd16 rfl) rfl rfl (mroom rfl rfl) (D d16_15) (by decide) (by decide) fun T17 h17 vm17 v17 X17 C17 z17 q17 => ?_
  obtain ⟨rfl, K17, g17_0⟩ := q17
  have l18 := ltA g17_0.lt
  have f19 := g8_0.keep K17
  have f20 := g8_1.keep K17 (ninS (neA (by omega)) nin0)
  have f21 := g8_2.keep K17 (ninS (neA (by omega)) nin0)
  have f22 := g8_3.keep K17 (ninS (neA (by omega)) nin0)
  have f23 := g8_4.keep K17 (ninS (neA (by omega)) nin0)
  have f24 := C17.safe (x := t8) (ltA (by omega)) g8_6
  exact X17.retV hret (D d16_18) (by decide) (by decide) (fun vmE CE => ⟨t8, kt8, rfl, (((Keep.refl h0 [x, d]).trans K8 (allS (Or.inl (memI (i := 0) rfl)) all0)).trans K17 (allS (Or.inr (leA (by omega))) all0)), f19, f20, f21, f22, f23, g17_0, CE.safe (x := t8) (ltA (by omega)) f24, g8_7, (neA (by omega))⟩)
abbrev RrmAapU4 : Room := { frames := 8, cells := 1, slots := 32, locals := 116 }
def QrmAapU4 (Z : State) (x : Addr) (s1 : Addr) (d : Addr) (kd : ClassId) (c0 : Int32) (c1 : Int32) (c2 : Int32) (c3 : Int32) (b : Addr) (kb : ClassId) (ds : List Int32) (h0 : Heap) (v : Option Value) (vm : Vm) (h : Heap) : Prop := ∃ (t : Addr) (kt : ClassId), v = some (.ref x) ∧ Keep h0 h [x, d] ∧ Exa Z h x "java/lang/StringBuilder" ∧ Fld Z h x "java/lang/AbstractStringBuilder" "value" "[B" (.ref t) ∧ Fld Z h x "java/lang/AbstractStringBuilder" "coder" "B" (.int (1 : Int32)) ∧ Fld Z h x "java/lang/AbstractStringBuilder" "count" "I" (.int (Int32.ofNat (([c0, c1, c2, c3] ++ ds)).length)) ∧ Fld Z h x "java/lang/AbstractStringBuilder" "maybeLatin1" "Z" (.int (0 : Int32)) ∧ Arv Z h t kt .byte (32 : Int32) (enc16 ([c0, c1, c2, c3] ++ ds)) (.int (0 : Int32)) ∧ Safe Z consts_1 vm h t ∧ h0.size ≤ t ∧ x ≠ t
theorem rmAapU4 (hcx : Cx Z a0 zc fm) (x : Addr) (s1 : Addr) (d : Addr) (kd : ClassId) (c0 : Int32) (c1 : Int32) (c2 : Int32) (c3 : Int32) (b : Addr) (kb : ClassId) (ds : List Int32) (h0 : Heap) (O0 : Old Z Z.heap.size h0) (Pr0 : Exa Z h0 x "java/lang/StringBuilder") (Pr1 : Fld Z h0 x "java/lang/AbstractStringBuilder" "value" "[B" (.ref d)) (Pr2 : Fld Z h0 x "java/lang/AbstractStringBuilder" "coder" "B" (.int (0 : Int32))) (Pr3 : Fld Z h0 x "java/lang/AbstractStringBuilder" "count" "I" (.int (Int32.ofNat ([c0, c1, c2, c3]).length))) (Pr4 : Fld Z h0 x "java/lang/AbstractStringBuilder" "maybeLatin1" "Z" (.int (0 : Int32))) (Pr5 : Arv Z h0 d kd .byte (16 : Int32) (([c0, c1, c2, c3].map fun c => c.toInt8.toInt32).map Value.int) (.int (0 : Int32))) (Pr6 : StrU Z h0 s1 b kb ds) (Pr7 : ([c0, c1, c2, c3]).length + (ds).length ≤ 16) (Pr8 : Z.heap.size ≤ x) (Pr9 : Z.heap.size ≤ d) (Pr10 : x ≠ d) (Pr11 : ¬ c0 < 0 ∧ ¬ (255 : Int32) < c0) (Pr12 : ¬ c1 < 0 ∧ ¬ (255 : Int32) < c1) (Pr13 : ¬ c2 < 0 ∧ ¬ (255 : Int32) < c2) (Pr14 : ¬ c3 < 0 ∧ ¬ (255 : Int32) < c3) (Pr15 : b ≠ x) : Met l Z consts_1 (⟨"java/lang/AbstractStringBuilder", "append", "(Ljava/lang/String;)Ljava/lang/AbstractStringBuilder;"⟩ : MethodName) jdk_68_method_22_code 3 (some (.object "java/lang/AbstractStringBuilder")) [] RrmAapU4 [d] #[(.ref x), (.ref s1)] h0 (QrmAapU4 Z x s1 d kd c0 c1 c2 c3 b kb ds h0) := by
  have ⟨hw, hEL, O2, P5, O4, P6, OA, OH, OB⟩ := hcx
  refine Met.start (a0 := a0) (Ls := #[vR x, vR s1, .unset]) pn12 hEL O0 (fun m => by first | (simp [entryFrame, mkF, argsToLocals, Value.category]; done) | rfl) ?_
  intro p e s m below meth cc T0 vm0 X0 sf0_ hby hml hret hnm
  have hx := X0.hx
  have D : ∀ {n r}, decode B12 n = r → decode cc.code n = r := fun d => hb hby d
  have zz := X0.ge
  have A0 := X0.at
  have l1 := ltA Pr0.lt
  have l2 := ltA Pr5.lt
  have l3 := ltA Pr6.lt
  have l4 := ltA Pr6.lb
  have l5 := neA Pr10
  have l6 := neA Pr15
  have s7 := sf0_ d (memI (i := 0) rfl)
  have l4 := Pr6.2.2.2.2.2
  refine Gets.via (fun _ k => (XS.aloadN A0 hx rfl (D d12_0) rfl rfl (XS.ifnonnullYes A0 hx rfl (pc0 := 1) (pc' := 9) rfl (D d12_1) rfl (by decide) (by decide) k))) ?_
  refine Gets.via (fun _ k => (XS.aloadN A0 hx rfl (D d12_9) rfl rfl k)) ?_
  refine X0.callV (W := 0) (w79 hw) (w80 hw) (w82 hw) (w81 hw) (nfs rfl (w82 hw)) (by decide) (X0.payM (sf := []) (rmLen1 hcx s1 b kb ds h0 X0.old Pr6) sf0 (w83 hw) (w6 hw)) Pr6.1 rfl (sz hml rfl) (argsL := []) (rest := []) (lenOf pd17 rfl) rfl rfl (mroom rfl rfl) (D d12_10) (by decide) (by decide) fun T8 h8 vm8 v8 X8 C8 z8 q8 => ?_
  obtain ⟨rfl, K8⟩ := q8
  rw [K8] at X8 C8
  have A9 := X8.at
  refine Gets.via (fun _ k => (XS.istoreN A9 hx rfl (D d12_13) rfl (l' := #[vR x, vR s1, vI (Int32.ofNat (ds).length)]) rfl (XS.aloadN A9 hx rfl (D d12_14) rfl rfl (XS.aloadN A9 hx rfl (D d12_15) rfl rfl k)))) ?_
  show Gets p e below _ (T8.setTop (mkF m 16 #[vR x, vR s1, vI (Int32.ofNat (ds).length)] [(.ref x), (.ref x)]))
  refine X8.getF (host := "") (Or.inl (w89 hw)) Via.refl Pr3 rfl rfl (D d12_16) fun T10 X10 => ?_
  have A11 := X10.at
  refine Gets.via (fun _ k => (XS.iloadN A11 hx rfl (D d12_19) rfl (XS.iadd A11 hx rfl (D d12_20) rfl k))) ?_
  show Gets p e below _ (T10.setTop (mkF m 21 #[vR x, vR s1, vI (Int32.ofNat (ds).length)] [(.int ((Int32.ofNat ([c0, c1, c2, c3]).length) + (Int32.ofNat (ds).length))), (.ref x)]))
  rw [of_add]
  refine X10.callP (W := 0) (w91 hw) (w92 hw) (w94 hw) (w93 hw) (w95 hw) (by decide) (X10.payM (sf := []) (rmEns0 hcx x (([c0, c1, c2, c3]).length + (ds).length) d kd (([c0, c1, c2, c3].map fun c => c.toInt8.toInt32).map Value.int) h0 X10.old Pr0 Pr1 Pr2 Pr5 (by simp only [List.length_append, List.length_cons, List.length_nil]; omega)) sf0 (w95 hw) (w54 hw)) Pr0 rfl (sz hml rfl) (argsL := [(.int (Int32.ofNat (([c0, c1, c2, c3]).length + (ds).length)))]) (rest := []) (lenOf pd14 rfl) rfl rfl (mroom rfl rfl) (D d12_21) (by decide) (by decide) fun T12 h12 vm12 v12 X12 C12 z12 q12 => ?_
  obtain ⟨rfl, K12⟩ := q12
  rw [K12] at X12 C12
  have A13 := X12.at
  refine Gets.via (fun _ k => (XS.aloadN A13 hx rfl (D d12_24) rfl rfl (XS.aloadN A13 hx rfl (D d12_25) rfl rfl k))) ?_
  refine X12.getF (host := "") (Or.inl (w89 hw)) Via.refl Pr3 rfl rfl (D d12_26) fun T14 X14 => ?_
  have A15 := X14.at
  refine Gets.via (fun _ k => (XS.aloadN A15 hx rfl (D d12_29) rfl rfl k)) ?_
  show Gets p e below _ (T14.setTop (mkF m 30 #[vR x, vR s1, vI (Int32.ofNat (ds).length)] [(.ref s1), (.int (Int32.ofNat ([c0, c1, c2, c3]).length)), (.ref x)]))
  have f16 := C8.safe (x := d) (ltA (by omega)) s7
  have f17 := C12.safe (x := d) (ltA (by omega)) f16
  refine X14.callP (W := 0) (w96 hw) (w97 hw) (w99 hw) (w98 hw) (w100 hw) (by decide) (X14.payM (sf := [d]) (rmPsaU4 hcx x s1 d kd c0 c1 c2 c3 b kb ds h0 X14.old Pr0 Pr1 Pr2 Pr3 Pr4 Pr5 Pr6 Pr7 Pr8 Pr9 Pr10 Pr11 Pr12 Pr13 Pr14 Pr15) (sfS f17 sf0) (w100 hw) (w54 hw)) Pr0 rfl (sz hml rfl) (argsL := [(.int (Int32.ofNat ([c0, c1, c2, c3]).length)), (.ref s1)]) (rest := []) (lenOf pd18 rfl) rfl rfl (mroom rfl rfl) (D d12_30) (by decide) (by decide) fun T18 h18 vm18 v18 X18 C18 z18 q18 => ?_
  obtain ⟨t18, kt18, rfl, K18, g18_0, g18_1, g18_2, g18_3, g18_4, g18_5, g18_6, g18_7, g18_8⟩ := q18
  have l19 := ltA g18_0.lt
  have l20 := ltA g18_5.lt
  have l21 := neA g18_8
  have A22 := X18.at
  refine Gets.via (fun _ k => (XS.aloadN A22 hx rfl (D d12_33) rfl rfl (XS.dup A22 hx rfl (D d12_34) rfl rfl k))) ?_
  refine X18.getF (host := "") (Or.inl (w89 hw)) Via.refl g18_3 rfl rfl (D d12_35) fun T23 X23 => ?_
  have A24 := X23.at
  refine Gets.via (fun _ k => (XS.iloadN A24 hx rfl (D d12_38) rfl (XS.iadd A24 hx rfl (D d12_39) rfl k))) ?_
  show Gets p e below _ (T23.setTop (mkF m 40 #[vR x, vR s1, vI (Int32.ofNat (ds).length)] [(.int ((Int32.ofNat ([c0, c1, c2, c3]).length) + (Int32.ofNat (ds).length))), (.ref x)]))
  rw [of_add, ← List.length_append]
  refine X23.putF (host := "") (Or.inl (w89 hw)) Via.refl g18_3 g18_0 (Or.inl (w90 hw)) (w45 hw) (ty := .int) (by decide) rfl rfl (leA (by omega)) (Safe.exa X23.hZ.alike g18_0 (by decide) (by decide)) rfl rfl (D d12_40) fun T25 h25 X25 C25 W25 F25 Z25 => ?_
  have z25 := W25.size
  have A26 := X25.at
  refine Gets.via (fun _ k => (XS.aloadN A26 hx rfl (D d12_43) rfl rfl k)) ?_
  have f27 := g18_1.other W25 (Or.inr (slot_ne (t := (.array .byte)) (t' := .int) (Or.inl (w59 hw)) (Or.inl (w90 hw)) (by decide) (by decide) (by decide)))
  have f28 := g18_2.other W25 (Or.inr (slot_ne (t := .byte) (t' := .int) (Or.inl (w61 hw)) (Or.inl (w90 hw)) (by decide) (by decide) (by decide)))
  have f29 := g18_4.other W25 (Or.inr (slot_ne (t := .boolean) (t' := .int) (Or.inl (w259 hw)) (Or.inl (w90 hw)) (by decide) (by decide) (by decide)))
  have f30 := g18_5.other W25 (neA (by omega))
  have f31 := C25.safe (x := t18) (ltA (by omega)) g18_6
  exact X25.retA hret rfl rfl rfl (D d12_44) (by decide) (by decide) (fun vmE CE => ⟨t18, kt18, rfl, (((Keep.refl h0 [x, d]).trans K18 (allS (Or.inl (memI (i := 0) rfl)) (allS (Or.inl (memI (i := 1) rfl)) all0))).wr W25 (Or.inl (memI (i := 0) rfl))), Z25, f27, f28, F25, f29, f30, CE.safe (x := t18) (ltA (by omega)) f31, g18_7, g18_8⟩)
abbrev RrmAppU4 : Room := { frames := 9, cells := 1, slots := 32, locals := 130 }
def QrmAppU4 (Z : State) (x : Addr) (s1 : Addr) (d : Addr) (kd : ClassId) (c0 : Int32) (c1 : Int32) (c2 : Int32) (c3 : Int32) (b : Addr) (kb : ClassId) (ds : List Int32) (h0 : Heap) (v : Option Value) (vm : Vm) (h : Heap) : Prop := ∃ (t : Addr) (kt : ClassId), v = some (.ref x) ∧ Keep h0 h [x, d] ∧ Exa Z h x "java/lang/StringBuilder" ∧ Fld Z h x "java/lang/AbstractStringBuilder" "value" "[B" (.ref t) ∧ Fld Z h x "java/lang/AbstractStringBuilder" "coder" "B" (.int (1 : Int32)) ∧ Fld Z h x "java/lang/AbstractStringBuilder" "count" "I" (.int (Int32.ofNat (([c0, c1, c2, c3] ++ ds)).length)) ∧ Fld Z h x "java/lang/AbstractStringBuilder" "maybeLatin1" "Z" (.int (0 : Int32)) ∧ Arv Z h t kt .byte (32 : Int32) (enc16 ([c0, c1, c2, c3] ++ ds)) (.int (0 : Int32)) ∧ Safe Z consts_1 vm h t ∧ h0.size ≤ t ∧ x ≠ t
theorem rmAppU4 (hcx : Cx Z a0 zc fm) (x : Addr) (s1 : Addr) (d : Addr) (kd : ClassId) (c0 : Int32) (c1 : Int32) (c2 : Int32) (c3 : Int32) (b : Addr) (kb : ClassId) (ds : List Int32) (h0 : Heap) (O0 : Old Z Z.heap.size h0) (Pr0 : Exa Z h0 x "java/lang/StringBuilder") (Pr1 : Fld Z h0 x "java/lang/AbstractStringBuilder" "value" "[B" (.ref d)) (Pr2 : Fld Z h0 x "java/lang/AbstractStringBuilder" "coder" "B" (.int (0 : Int32))) (Pr3 : Fld Z h0 x "java/lang/AbstractStringBuilder" "count" "I" (.int (Int32.ofNat ([c0, c1, c2, c3]).length))) (Pr4 : Fld Z h0 x "java/lang/AbstractStringBuilder" "maybeLatin1" "Z" (.int (0 : Int32))) (Pr5 : Arv Z h0 d kd .byte (16 : Int32) (([c0, c1, c2, c3].map fun c => c.toInt8.toInt32).map Value.int) (.int (0 : Int32))) (Pr6 : StrU Z h0 s1 b kb ds) (Pr7 : ([c0, c1, c2, c3]).length + (ds).length ≤ 16) (Pr8 : Z.heap.size ≤ x) (Pr9 : Z.heap.size ≤ d) (Pr10 : x ≠ d) (Pr11 : ¬ c0 < 0 ∧ ¬ (255 : Int32) < c0) (Pr12 : ¬ c1 < 0 ∧ ¬ (255 : Int32) < c1) (Pr13 : ¬ c2 < 0 ∧ ¬ (255 : Int32) < c2) (Pr14 : ¬ c3 < 0 ∧ ¬ (255 : Int32) < c3) (Pr15 : b ≠ x) : Met l Z consts_1 (⟨"java/lang/StringBuilder", "append", "(Ljava/lang/String;)Ljava/lang/StringBuilder;"⟩ : MethodName) jdk_67_method_7_code 2 (some (.object "java/lang/StringBuilder")) [] RrmAppU4 [d] #[(.ref x), (.ref s1)] h0 (QrmAppU4 Z x s1 d kd c0 c1 c2 c3 b kb ds h0) := by
  have ⟨hw, hEL, O2, P5, O4, P6, OA, OH, OB⟩ := hcx
  refine Met.start (a0 := a0) (Ls := #[vR x, vR s1]) pn11 hEL O0 (fun m => by first | (simp [entryFrame, mkF, argsToLocals, Value.category]; done) | rfl) ?_
  intro p e s m below meth cc T0 vm0 X0 sf0_ hby hml hret hnm
  have hx := X0.hx
  have D : ∀ {n r}, decode B11 n = r → decode cc.code n = r := fun d => hb hby d
  have zz := X0.ge
  have A0 := X0.at
  have l1 := ltA Pr0.lt
  have l2 := ltA Pr5.lt
  have l3 := ltA Pr6.lt
  have l4 := ltA Pr6.lb
  have l5 := neA Pr10
  have l6 := neA Pr15
  have s7 := sf0_ d (memI (i := 0) rfl)
  refine Gets.via (fun _ k => (XS.aloadN A0 hx rfl (D d11_0) rfl rfl (XS.aloadN A0 hx rfl (D d11_1) rfl rfl k))) ?_
  refine X0.callU (W := 0) (by decide) (w74 hw) (same_self (w75 hw) (w94 hw) rfl (by decide)) (w75 hw) (w76 hw) (w78 hw) (X0.payM (sf := [d]) (rmAapU4 hcx x s1 d kd c0 c1 c2 c3 b kb ds h0 X0.old Pr0 Pr1 Pr2 Pr3 Pr4 Pr5 Pr6 Pr7 Pr8 Pr9 Pr10 Pr11 Pr12 Pr13 Pr14 Pr15) (sfS s7 sf0) (w78 hw) (w54 hw)) Pr0 rfl (sz hml rfl) (argsL := [(.ref s1)]) (rest := []) (lenOf pd19 rfl) rfl rfl (mroom rfl rfl) (D d11_2) (by decide) (by decide) fun T8 h8 vm8 v8 X8 C8 z8 q8 => ?_
  obtain ⟨t8, kt8, rfl, K8, g8_0, g8_1, g8_2, g8_3, g8_4, g8_5, g8_6, g8_7, g8_8⟩ := q8
  have l9 := ltA g8_0.lt
  have l10 := ltA g8_5.lt
  have l11 := neA g8_8
  have A12 := X8.at
  refine Gets.via (fun _ k => (XS.pop A12 hx rfl (D d11_5) rfl rfl (XS.aloadN A12 hx rfl (D d11_6) rfl rfl k))) ?_
  exact X8.retA hret rfl rfl rfl (D d11_7) (by decide) (by decide) (fun vmE CE => ⟨t8, kt8, rfl, ((Keep.refl h0 [x, d]).trans K8 (allS (Or.inl (memI (i := 0) rfl)) (allS (Or.inl (memI (i := 1) rfl)) all0))), g8_0, g8_1, g8_2, g8_3, g8_4, g8_5, CE.safe (x := t8) (ltA (by omega)) g8_6, g8_7, g8_8⟩)
abbrev Rrm23 : Room := { frames := 0, cells := 0, slots := 0, locals := 0 }
def Qrm23 (Z : State) (c : Int32) (h0 : Heap) (v : Option Value) (vm : Vm) (h : Heap) : Prop := v = some (.int (1 : Int32)) ∧ h = h0
theorem rm23 (hcx : Cx Z a0 zc fm) (c : Int32) (h0 : Heap) (O0 : Old Z Z.heap.size h0) (Pr0 : ¬ c < 0 ∧ ¬ (255 : Int32) < c) : Met l Z consts_1 (⟨"java/lang/StringLatin1", "canEncode", "(C)Z"⟩ : MethodName) jdk_43_method_3_code 1 (some .boolean) [] Rrm23 [] #[(.int c)] h0 (Qrm23 Z c h0) := by
  have ⟨hw, hEL, O2, P5, O4, P6, OA, OH, OB⟩ := hcx
  refine Met.start (a0 := a0) (Ls := #[vI c]) pn23 hEL O0 (fun m => by first | (simp [entryFrame, mkF, argsToLocals, Value.category]; done) | rfl) ?_
  intro p e s m below meth cc T0 vm0 X0 sf0_ hby hml hret hnm
  have hx := X0.hx
  have D : ∀ {n r}, decode B23 n = r → decode cc.code n = r := fun d => hb hby d
  have zz := X0.ge
  have A0 := X0.at
  refine Gets.via (fun _ k => (XS.iloadN A0 hx rfl (D d23_0) rfl (XS.sipush A0 hx rfl (D d23_1) (XS.icmpNo A0 hx rfl (D d23_4) rfl (Jvm.Free.XT.ii_gt_f Pr0.2) k)))) ?_
  refine Gets.via (fun _ k => (XS.iconst A0 hx rfl (D d23_7) (XS.goto A0 hx rfl (pc0 := 8) (pc' := 12) rfl (D d23_8) (by decide) (by decide) k))) ?_
  exact X0.retI hret (by decide) (by simp) (D d23_12) (by decide) (by decide) (fun vmE CE => ⟨rfl, rfl⟩)
abbrev RrmPcs : Room := { frames := 3, cells := 0, slots := 0, locals := 40 }
def QrmPcs (Z : State) (d : Addr) (u : Int32) (kd : ClassId) (cs : List Int32) (h0 : Heap) (v : Option Value) (vm : Vm) (h : Heap) : Prop := v = none ∧ Keep h0 h [d] ∧ Arv Z h d kd .byte (32 : Int32) (enc16 (cs ++ [u])) (.int (0 : Int32))
theorem rmPcs (hcx : Cx Z a0 zc fm) (d : Addr) (u : Int32) (kd : ClassId) (cs : List Int32) (h0 : Heap) (O0 : Old Z Z.heap.size h0) (Pr0 : Arv Z h0 d kd .byte (32 : Int32) (enc16 cs) (.int (0 : Int32))) (Pr1 : (cs).length + 1 ≤ 16) (Pr2 : Z.heap.size ≤ d) : Met l Z consts_1 (⟨"java/lang/StringUTF16", "putCharSB", "([BII)V"⟩ : MethodName) jdk_52_method_71_code 3 (none) [] RrmPcs [d] #[(.ref d), (.int (Int32.ofNat (cs).length)), (.int u)] h0 (QrmPcs Z d u kd cs h0) := by
  have ⟨hw, hEL, O2, P5, O4, P6, OA, OH, OB⟩ := hcx
  refine Met.start (a0 := a0) (Ls := #[vR d, vI (Int32.ofNat (cs).length), vI u]) pn52 hEL O0 (fun m => by first | (simp [entryFrame, mkF, argsToLocals, Value.category]; done) | rfl) ?_
  intro p e s m below meth cc T0 vm0 X0 sf0_ hby hml hret hnm
  have hx := X0.hx
  have D : ∀ {n r}, decode B52 n = r → decode cc.code n = r := fun d => hb hby d
  have zz := X0.ge
  have A0 := X0.at
  have l1 := ltA Pr0.lt
  have s2 := sf0_ d (memI (i := 0) rfl)
  refine Gets.via (fun _ k => (XS.iloadN A0 hx rfl (D d52_0) rfl (XS.aloadN A0 hx rfl (D d52_1) rfl rfl k))) ?_
  refine X0.callS (W := 0) (w254 hw) (w255 hw) (w21 hw) (w256 hw) (by decide) (X0.payM (sf := []) (rmUChk hcx ((cs).length) d kd 16 (enc16 cs) h0 X0.old Pr0 (by decide) (by omega)) sf0 (w256 hw) (w21 hw)) rfl (sz hml rfl) (argsL := [(.int (Int32.ofNat (cs).length)), (.ref d)]) (rest := []) (lenOf pd29 rfl) rfl rfl (mroom rfl rfl) (D d52_2) (by decide) (by decide) fun T3 h3 vm3 v3 X3 C3 z3 q3 => ?_
  obtain ⟨rfl, K3⟩ := q3
  rw [K3] at X3 C3
  have A4 := X3.at
  refine Gets.via (fun _ k => (XS.aloadN A4 hx rfl (D d52_5) rfl rfl (XS.iloadN A4 hx rfl (D d52_6) rfl (XS.iloadN A4 hx rfl (D d52_7) rfl k)))) ?_
  have f5 := C3.safe (x := d) (ltA (by omega)) s2
  refine X3.callS (W := 0) (w218 hw) (w219 hw) (w21 hw) (w220 hw) (by decide) (X3.payM (sf := [d]) (rmPutC hcx d ((cs).length) u kd (32 : Int32) 32 (enc16 cs) h0 X3.old Pr0 rfl (by decide) (enc16_len _) (by omega) Pr2) (sfS f5 sf0) (w220 hw) (w21 hw)) rfl (sz hml rfl) (argsL := [(.ref d), (.int (Int32.ofNat (cs).length)), (.int u)]) (rest := []) (lenOf pd10 rfl) rfl rfl (mroom rfl rfl) (D d52_8) (by decide) (by decide) fun T6 h6 vm6 v6 X6 C6 z6 q6 => ?_
  obtain ⟨rfl, K6, g6_0⟩ := q6
  have l7 := ltA g6_0.lt
  show Gets p e below _ (T6.setTop (mkF m 11 #[vR d, vI (Int32.ofNat (cs).length), vI u] []))
  have E11 : Arv Z h6 d kd .byte (32 : Int32) (enc16 (cs ++ [u])) (.int (0 : Int32)) := enc16_snoc cs u ▸ g6_0
  exact X6.retV hret (D d52_11) (by decide) (by decide) (fun vmE CE => ⟨rfl, ((Keep.refl h0 [d]).trans K6 (allS (Or.inl (memI (i := 0) rfl)) all0)), E11⟩)
abbrev RrmAac0 : Room := { frames := 1, cells := 0, slots := 0, locals := 14 }
def QrmAac0 (Z : State) (x : Addr) (d : Addr) (kd : ClassId) (cs : List Int32) (h0 : Heap) (v : Option Value) (vm : Vm) (h : Heap) : Prop := v = some (.ref x) ∧ Keep h0 h [x, d] ∧ Exa Z h x "java/lang/StringBuilder" ∧ Fld Z h x "java/lang/AbstractStringBuilder" "value" "[B" (.ref d) ∧ Fld Z h x "java/lang/AbstractStringBuilder" "coder" "B" (.int (0 : Int32)) ∧ Fld Z h x "java/lang/AbstractStringBuilder" "count" "I" (.int (Int32.ofNat ((cs ++ [(62 : Int32)])).length)) ∧ Fld Z h x "java/lang/AbstractStringBuilder" "maybeLatin1" "Z" (.int (0 : Int32)) ∧ Arv Z h d kd .byte (16 : Int32) (((cs ++ [(62 : Int32)]).map fun c => c.toInt8.toInt32).map Value.int) (.int (0 : Int32))
theorem rmAac0 (hcx : Cx Z a0 zc fm) (x : Addr) (d : Addr) (kd : ClassId) (cs : List Int32) (h0 : Heap) (O0 : Old Z Z.heap.size h0) (Pr0 : Exa Z h0 x "java/lang/StringBuilder") (Pr1 : Fld Z h0 x "java/lang/AbstractStringBuilder" "value" "[B" (.ref d)) (Pr2 : Fld Z h0 x "java/lang/AbstractStringBuilder" "coder" "B" (.int (0 : Int32))) (Pr3 : Fld Z h0 x "java/lang/AbstractStringBuilder" "count" "I" (.int (Int32.ofNat (cs).length))) (Pr4 : Fld Z h0 x "java/lang/AbstractStringBuilder" "maybeLatin1" "Z" (.int (0 : Int32))) (Pr5 : Arv Z h0 d kd .byte (16 : Int32) ((cs.map fun c => c.toInt8.toInt32).map Value.int) (.int (0 : Int32))) (Pr6 : (cs).length + 1 ≤ 16) (Pr7 : Z.heap.size ≤ x) (Pr8 : Z.heap.size ≤ d) (Pr9 : x ≠ d) : Met l Z consts_1 (⟨"java/lang/AbstractStringBuilder", "append", "(C)Ljava/lang/AbstractStringBuilder;"⟩ : MethodName) jdk_68_method_31_code 2 (some (.object "java/lang/AbstractStringBuilder")) [] RrmAac0 [d] #[(.ref x), (.int (62 : Int32))] h0 (QrmAac0 Z x d kd cs h0) := by
  have ⟨hw, hEL, O2, P5, O4, P6, OA, OH, OB⟩ := hcx
  refine Met.start (a0 := a0) (Ls := #[vR x, vI (62 : Int32)]) pn21 hEL O0 (fun m => by first | (simp [entryFrame, mkF, argsToLocals, Value.category]; done) | rfl) ?_
  intro p e s m below meth cc T0 vm0 X0 sf0_ hby hml hret hnm
  have hx := X0.hx
  have D : ∀ {n r}, decode B21 n = r → decode cc.code n = r := fun d => hb hby d
  have zz := X0.ge
  have A0 := X0.at
  have l1 := ltA Pr0.lt
  have l2 := ltA Pr5.lt
  have l3 := neA Pr9
  have s4 := sf0_ d (memI (i := 0) rfl)
  refine Gets.via (fun _ k => (XS.aloadN A0 hx rfl (D d21_0) rfl rfl (XS.aloadN A0 hx rfl (D d21_1) rfl rfl k))) ?_
  refine X0.getF (host := "") (Or.inl (w89 hw)) Via.refl Pr3 rfl rfl (D d21_2) fun T5 X5 => ?_
  have A6 := X5.at
  refine Gets.via (fun _ k => (XS.iconst A6 hx rfl (D d21_5) (XS.iadd A6 hx rfl (D d21_6) rfl k))) ?_
  show Gets p e below _ (T5.setTop (mkF m 7 #[vR x, vI (62 : Int32)] [(.int ((Int32.ofNat (cs).length) + (1 : Int32))), (.ref x)]))
  rw [show Int32.ofNat (cs).length + (1 : Int32) = Int32.ofNat ((cs).length + 1) from of_add _ 1]
  refine X5.callP (W := 0) (w91 hw) (w92 hw) (w94 hw) (w93 hw) (w95 hw) (by decide) (X5.payM (sf := []) (rmEns0 hcx x ((cs).length + 1) d kd ((cs.map fun c => c.toInt8.toInt32).map Value.int) h0 X5.old Pr0 Pr1 Pr2 Pr5 (by omega)) sf0 (w95 hw) (w54 hw)) Pr0 rfl (sz hml rfl) (argsL := [(.int (Int32.ofNat ((cs).length + 1)))]) (rest := []) (lenOf pd14 rfl) rfl rfl (mroom rfl rfl) (D d21_7) (by decide) (by decide) fun T7 h7 vm7 v7 X7 C7 z7 q7 => ?_
  obtain ⟨rfl, K7⟩ := q7
  rw [K7] at X7 C7
  have A8 := X7.at
  refine Gets.via (fun _ k => (XS.aloadN A8 hx rfl (D d21_10) rfl rfl k)) ?_
  refine X7.callV (W := 0) (w131 hw) (w132 hw) (w134 hw) (w133 hw) (nfs rfl (w134 hw)) (by decide) (X7.payM (sf := []) (rmSbL0 hcx x h0 X7.old Pr0 Pr2) sf0 (w135 hw) (w54 hw)) Pr0 rfl (sz hml rfl) (argsL := []) (rest := []) (lenOf pd21 rfl) rfl rfl (mroom rfl rfl) (D d21_11) (by decide) (by decide) fun T9 h9 vm9 v9 X9 C9 z9 q9 => ?_
  obtain ⟨rfl, K9⟩ := q9
  rw [K9] at X9 C9
  have A10 := X9.at
  refine Gets.via (fun _ k => (XS.ifNo A10 hx rfl (D d21_14) rfl (Jvm.Free.XT.i0_eq_f (by decide)) k)) ?_
  refine Gets.via (fun _ k => (XS.iloadN A10 hx rfl (D d21_17) rfl k)) ?_
  show Gets p e below _ (T9.setTop (mkF m 18 #[vR x, vI (62 : Int32)] [(.int (62 : Int32))]))
  refine X9.callS (W := 0) (w136 hw) (w137 hw) (w138 hw) (w139 hw) (by decide) (X9.payM (sf := []) (rm23 hcx (62 : Int32) h0 X9.old (⟨by decide, by decide⟩)) sf0 (w139 hw) (w138 hw)) rfl (sz hml rfl) (argsL := [(.int (62 : Int32))]) (rest := []) (lenOf pd30 rfl) rfl rfl (mroom rfl rfl) (D d21_18) (by decide) (by decide) fun T11 h11 vm11 v11 X11 C11 z11 q11 => ?_
  obtain ⟨rfl, K11⟩ := q11
  rw [K11] at X11 C11
  have A12 := X11.at
  refine Gets.via (fun _ k => (XS.ifNo A12 hx rfl (D d21_21) rfl (Jvm.Free.XT.i0_eq_f (by decide)) k)) ?_
  refine Gets.via (fun _ k => (XS.aloadN A12 hx rfl (D d21_24) rfl rfl k)) ?_
  refine X11.getF (host := "") (Or.inl (w58 hw)) Via.refl Pr1 rfl rfl (D d21_25) fun T13 X13 => ?_
  have A14 := X13.at
  refine Gets.via (fun _ k => (XS.aloadN A14 hx rfl (D d21_28) rfl rfl (XS.dup A14 hx rfl (D d21_29) rfl rfl k))) ?_
  refine X13.getF (host := "") (Or.inl (w89 hw)) Via.refl Pr3 rfl rfl (D d21_30) fun T15 X15 => ?_
  show Gets p e below _ (T15.setTop (mkF m 33 #[vR x, vI (62 : Int32)] [(.int (Int32.ofNat (cs).length)), (.ref x), (.ref d)]))
  have A16 := X15.at
  refine Gets.via (fun _ k => (XS.dupX1 A16 hx rfl (D d21_33) rfl rfl rfl (XS.iconst A16 hx rfl (D d21_34) (XS.iadd A16 hx rfl (D d21_35) rfl k)))) ?_
  show Gets p e below _ (T15.setTop (mkF m 36 #[vR x, vI (62 : Int32)] [(.int ((Int32.ofNat (cs).length) + (1 : Int32))), (.ref x), (.int (Int32.ofNat (cs).length)), (.ref d)]))
  rw [show Int32.ofNat (cs).length + (1 : Int32) = Int32.ofNat ((cs ++ [(62 : Int32)])).length from (of_add _ 1).trans (by rw [List.length_append]; rfl)]
  refine X15.putF (host := "") (Or.inl (w89 hw)) Via.refl Pr3 Pr0 (Or.inl (w90 hw)) (w45 hw) (ty := .int) (by decide) rfl rfl (leA (by omega)) (Safe.exa X15.hZ.alike Pr0 (by decide) (by decide)) rfl rfl (D d21_36) fun T17 h17 X17 C17 W17 F17 Z17 => ?_
  have z17 := W17.size
  have A18 := X17.at
  refine Gets.via (fun _ k => (XS.iloadN A18 hx rfl (D d21_39) rfl (i2bV A18 hx rfl (D d21_40) rfl (v := (62 : Int32)) (by decide) k))) ?_
  have f20 := Pr5.other W17 (neA (by omega))
  have f21 := C7.safe (x := d) (ltA (by omega)) s4
  have f22 := C9.safe (x := d) (ltA (by omega)) f21
  have f23 := C11.safe (x := d) (ltA (by omega)) f22
  have f24 := C17.safe (x := d) (ltA (by omega)) f23
  refine X17.stB (f20.pad (pad_rep _ _ 1)) (i := (cs).length) (of_pos (by omega)) (toN (by omega)) (by rw [List.length_append, by_len]; exact Nat.lt_succ_self _) (by rw [show (16 : Int32).toNatClampNeg = 16 from rfl]; omega) (v := (62 : Int32)) (by decide) f24 (leA (by omega)) rfl rfl (D d21_41) fun T19 h19 X19 C19 K19 V19 => ?_
  have z19 := K19.1
  have V19_ : Arv Z h19 d kd .byte (16 : Int32) (((cs.map fun c => c.toInt8.toInt32).map Value.int) ++ [(.int (62 : Int32))]) (.int (0 : Int32)) := setA V19 (by_len _).symm
  have A25 := X19.at
  refine Gets.via (fun _ k => (XS.goto A25 hx rfl (pc0 := 42) (pc' := 75) rfl (D d21_42) (by decide) (by decide) k)) ?_
  show Gets p e below _ (T19.setTop (mkF m 75 #[vR x, vI (62 : Int32)] []))
  have E75 : Arv Z h19 d kd .byte (16 : Int32) (((cs ++ [(62 : Int32)]).map fun c => c.toInt8.toInt32).map Value.int) (.int (0 : Int32)) := by_app cs [(62 : Int32)] ▸ (show Arv Z h19 d kd .byte (16 : Int32) (((cs.map fun c => c.toInt8.toInt32).map Value.int) ++ (([(62 : Int32)].map fun c => c.toInt8.toInt32).map Value.int)) (.int (0 : Int32)) from V19_)
  refine Gets.via (fun _ k => (XS.aloadN A25 hx rfl (D d21_75) rfl rfl k)) ?_
  have f26 := Z17.keep K19
  have f27 := Pr1.other W17 (Or.inr (slot_ne (t := (.array .byte)) (t' := .int) (Or.inl (w59 hw)) (Or.inl (w90 hw)) (by decide) (by decide) (by decide)))
  have f28 := f27.keep K19 (ninS (neA (by omega)) nin0)
  have f29 := Pr2.other W17 (Or.inr (slot_ne (t := .byte) (t' := .int) (Or.inl (w61 hw)) (Or.inl (w90 hw)) (by decide) (by decide) (by decide)))
  have f30 := f29.keep K19 (ninS (neA (by omega)) nin0)
  have f31 := F17.keep K19 (ninS (neA (by omega)) nin0)
  have f32 := Pr4.other W17 (Or.inr (slot_ne (t := .boolean) (t' := .int) (Or.inl (w259 hw)) (Or.inl (w90 hw)) (by decide) (by decide) (by decide)))
  have f33 := f32.keep K19 (ninS (neA (by omega)) nin0)
  exact X19.retA hret rfl rfl rfl (D d21_76) (by decide) (by decide) (fun vmE CE => ⟨rfl, (((Keep.refl h0 [x, d]).wr W17 (Or.inl (memI (i := 0) rfl))).trans K19 (allS (Or.inl (memI (i := 1) rfl)) all0)), f26, f28, f30, f31, f33, E75⟩)
abbrev RrmApc0 : Room := { frames := 2, cells := 0, slots := 0, locals := 27 }
def QrmApc0 (Z : State) (x : Addr) (d : Addr) (kd : ClassId) (cs : List Int32) (h0 : Heap) (v : Option Value) (vm : Vm) (h : Heap) : Prop := v = some (.ref x) ∧ Keep h0 h [x, d] ∧ Exa Z h x "java/lang/StringBuilder" ∧ Fld Z h x "java/lang/AbstractStringBuilder" "value" "[B" (.ref d) ∧ Fld Z h x "java/lang/AbstractStringBuilder" "coder" "B" (.int (0 : Int32)) ∧ Fld Z h x "java/lang/AbstractStringBuilder" "count" "I" (.int (Int32.ofNat ((cs ++ [(62 : Int32)])).length)) ∧ Fld Z h x "java/lang/AbstractStringBuilder" "maybeLatin1" "Z" (.int (0 : Int32)) ∧ Arv Z h d kd .byte (16 : Int32) (((cs ++ [(62 : Int32)]).map fun c => c.toInt8.toInt32).map Value.int) (.int (0 : Int32))
theorem rmApc0 (hcx : Cx Z a0 zc fm) (x : Addr) (d : Addr) (kd : ClassId) (cs : List Int32) (h0 : Heap) (O0 : Old Z Z.heap.size h0) (Pr0 : Exa Z h0 x "java/lang/StringBuilder") (Pr1 : Fld Z h0 x "java/lang/AbstractStringBuilder" "value" "[B" (.ref d)) (Pr2 : Fld Z h0 x "java/lang/AbstractStringBuilder" "coder" "B" (.int (0 : Int32))) (Pr3 : Fld Z h0 x "java/lang/AbstractStringBuilder" "count" "I" (.int (Int32.ofNat (cs).length))) (Pr4 : Fld Z h0 x "java/lang/AbstractStringBuilder" "maybeLatin1" "Z" (.int (0 : Int32))) (Pr5 : Arv Z h0 d kd .byte (16 : Int32) ((cs.map fun c => c.toInt8.toInt32).map Value.int) (.int (0 : Int32))) (Pr6 : (cs).length + 1 ≤ 16) (Pr7 : Z.heap.size ≤ x) (Pr8 : Z.heap.size ≤ d) (Pr9 : x ≠ d) : Met l Z consts_1 (⟨"java/lang/StringBuilder", "append", "(C)Ljava/lang/StringBuilder;"⟩ : MethodName) jdk_67_method_14_code 2 (some (.object "java/lang/StringBuilder")) [] RrmApc0 [d] #[(.ref x), (.int (62 : Int32))] h0 (QrmApc0 Z x d kd cs h0) := by
  have ⟨hw, hEL, O2, P5, O4, P6, OA, OH, OB⟩ := hcx
  refine Met.start (a0 := a0) (Ls := #[vR x, vI (62 : Int32)]) pn20 hEL O0 (fun m => by first | (simp [entryFrame, mkF, argsToLocals, Value.category]; done) | rfl) ?_
  intro p e s m below meth cc T0 vm0 X0 sf0_ hby hml hret hnm
  have hx := X0.hx
  have D : ∀ {n r}, decode B20 n = r → decode cc.code n = r := fun d => hb hby d
  have zz := X0.ge
  have A0 := X0.at
  have l1 := ltA Pr0.lt
  have l2 := ltA Pr5.lt
  have l3 := neA Pr9
  have s4 := sf0_ d (memI (i := 0) rfl)
  refine Gets.via (fun _ k => (XS.aloadN A0 hx rfl (D d20_0) rfl rfl (XS.iloadN A0 hx rfl (D d20_1) rfl k))) ?_
  refine X0.callU (W := 0) (by decide) (w127 hw) (same_self (w128 hw) (w94 hw) rfl (by decide)) (w128 hw) (w76 hw) (w130 hw) (X0.payM (sf := [d]) (rmAac0 hcx x d kd cs h0 X0.old Pr0 Pr1 Pr2 Pr3 Pr4 Pr5 Pr6 Pr7 Pr8 Pr9) (sfS s4 sf0) (w130 hw) (w54 hw)) Pr0 rfl (sz hml rfl) (argsL := [(.int (62 : Int32))]) (rest := []) (lenOf pd31 rfl) rfl rfl (mroom rfl rfl) (D d20_2) (by decide) (by decide) fun T5 h5 vm5 v5 X5 C5 z5 q5 => ?_
  obtain ⟨rfl, K5, g5_0, g5_1, g5_2, g5_3, g5_4, g5_5⟩ := q5
  have l6 := ltA g5_0.lt
  have l7 := ltA g5_5.lt
  have A8 := X5.at
  refine Gets.via (fun _ k => (XS.pop A8 hx rfl (D d20_5) rfl rfl (XS.aloadN A8 hx rfl (D d20_6) rfl rfl k))) ?_
  exact X5.retA hret rfl rfl rfl (D d20_7) (by decide) (by decide) (fun vmE CE => ⟨rfl, ((Keep.refl h0 [x, d]).trans K5 (allS (Or.inl (memI (i := 0) rfl)) (allS (Or.inl (memI (i := 1) rfl)) all0))), g5_0, g5_1, g5_2, g5_3, g5_4, g5_5⟩)
abbrev RrmAac1 : Room := { frames := 4, cells := 0, slots := 0, locals := 54 }
def QrmAac1 (Z : State) (x : Addr) (d : Addr) (kd : ClassId) (cs : List Int32) (h0 : Heap) (v : Option Value) (vm : Vm) (h : Heap) : Prop := v = some (.ref x) ∧ Keep h0 h [x, d] ∧ Exa Z h x "java/lang/StringBuilder" ∧ Fld Z h x "java/lang/AbstractStringBuilder" "value" "[B" (.ref d) ∧ Fld Z h x "java/lang/AbstractStringBuilder" "coder" "B" (.int (1 : Int32)) ∧ Fld Z h x "java/lang/AbstractStringBuilder" "count" "I" (.int (Int32.ofNat ((cs ++ [(62 : Int32)])).length)) ∧ Fld Z h x "java/lang/AbstractStringBuilder" "maybeLatin1" "Z" (.int (0 : Int32)) ∧ Arv Z h d kd .byte (32 : Int32) (enc16 (cs ++ [(62 : Int32)])) (.int (0 : Int32))
theorem rmAac1 (hcx : Cx Z a0 zc fm) (x : Addr) (d : Addr) (kd : ClassId) (cs : List Int32) (h0 : Heap) (O0 : Old Z Z.heap.size h0) (Pr0 : Exa Z h0 x "java/lang/StringBuilder") (Pr1 : Fld Z h0 x "java/lang/AbstractStringBuilder" "value" "[B" (.ref d)) (Pr2 : Fld Z h0 x "java/lang/AbstractStringBuilder" "coder" "B" (.int (1 : Int32))) (Pr3 : Fld Z h0 x "java/lang/AbstractStringBuilder" "count" "I" (.int (Int32.ofNat (cs).length))) (Pr4 : Fld Z h0 x "java/lang/AbstractStringBuilder" "maybeLatin1" "Z" (.int (0 : Int32))) (Pr5 : Arv Z h0 d kd .byte (32 : Int32) (enc16 cs) (.int (0 : Int32))) (Pr6 : (cs).length + 1 ≤ 16) (Pr7 : Z.heap.size ≤ x) (Pr8 : Z.heap.size ≤ d) (Pr9 : x ≠ d) : Met l Z consts_1 (⟨"java/lang/AbstractStringBuilder", "append", "(C)Ljava/lang/AbstractStringBuilder;"⟩ : MethodName) jdk_68_method_31_code 2 (some (.object "java/lang/AbstractStringBuilder")) [] RrmAac1 [d] #[(.ref x), (.int (62 : Int32))] h0 (QrmAac1 Z x d kd cs h0) := by
  have ⟨hw, hEL, O2, P5, O4, P6, OA, OH, OB⟩ := hcx
  refine Met.start (a0 := a0) (Ls := #[vR x, vI (62 : Int32)]) pn21 hEL O0 (fun m => by first | (simp [entryFrame, mkF, argsToLocals, Value.category]; done) | rfl) ?_
  intro p e s m below meth cc T0 vm0 X0 sf0_ hby hml hret hnm
  have hx := X0.hx
  have D : ∀ {n r}, decode B21 n = r → decode cc.code n = r := fun d => hb hby d
  have zz := X0.ge
  have A0 := X0.at
  have l1 := ltA Pr0.lt
  have l2 := ltA Pr5.lt
  have l3 := neA Pr9
  have s4 := sf0_ d (memI (i := 0) rfl)
  refine Gets.via (fun _ k => (XS.aloadN A0 hx rfl (D d21_0) rfl rfl (XS.aloadN A0 hx rfl (D d21_1) rfl rfl k))) ?_
  refine X0.getF (host := "") (Or.inl (w89 hw)) Via.refl Pr3 rfl rfl (D d21_2) fun T5 X5 => ?_
  have A6 := X5.at
  refine Gets.via (fun _ k => (XS.iconst A6 hx rfl (D d21_5) (XS.iadd A6 hx rfl (D d21_6) rfl k))) ?_
  show Gets p e below _ (T5.setTop (mkF m 7 #[vR x, vI (62 : Int32)] [(.int ((Int32.ofNat (cs).length) + (1 : Int32))), (.ref x)]))
  rw [show Int32.ofNat (cs).length + (1 : Int32) = Int32.ofNat ((cs).length + 1) from of_add _ 1]
  refine X5.callP (W := 0) (w91 hw) (w92 hw) (w94 hw) (w93 hw) (w95 hw) (by decide) (X5.payM (sf := []) (rmEns1 hcx x ((cs).length + 1) d kd (enc16 cs) h0 X5.old Pr0 Pr1 Pr2 Pr5 (by omega)) sf0 (w95 hw) (w54 hw)) Pr0 rfl (sz hml rfl) (argsL := [(.int (Int32.ofNat ((cs).length + 1)))]) (rest := []) (lenOf pd14 rfl) rfl rfl (mroom rfl rfl) (D d21_7) (by decide) (by decide) fun T7 h7 vm7 v7 X7 C7 z7 q7 => ?_
  obtain ⟨rfl, K7⟩ := q7
  rw [K7] at X7 C7
  have A8 := X7.at
  refine Gets.via (fun _ k => (XS.aloadN A8 hx rfl (D d21_10) rfl rfl k)) ?_
  refine X7.callV (W := 0) (w131 hw) (w132 hw) (w134 hw) (w133 hw) (nfs rfl (w134 hw)) (by decide) (X7.payM (sf := []) (rmSbL1 hcx x h0 X7.old Pr0 Pr2) sf0 (w135 hw) (w54 hw)) Pr0 rfl (sz hml rfl) (argsL := []) (rest := []) (lenOf pd21 rfl) rfl rfl (mroom rfl rfl) (D d21_11) (by decide) (by decide) fun T9 h9 vm9 v9 X9 C9 z9 q9 => ?_
  obtain ⟨rfl, K9⟩ := q9
  rw [K9] at X9 C9
  have A10 := X9.at
  refine Gets.via (fun _ k => (XS.ifYes A10 hx rfl (pc0 := 14) (pc' := 45) rfl (D d21_14) rfl (Jvm.Free.XT.i0_eq_t (by decide)) (by decide) (by decide) k)) ?_
  refine Gets.via (fun _ k => (XS.aloadN A10 hx rfl (D d21_45) rfl rfl k)) ?_
  show Gets p e below _ (T9.setTop (mkF m 46 #[vR x, vI (62 : Int32)] [(.ref x)]))
  refine X9.callV (W := 0) (w131 hw) (w132 hw) (w134 hw) (w133 hw) (nfs rfl (w134 hw)) (by decide) (X9.payM (sf := []) (rmSbL1 hcx x h0 X9.old Pr0 Pr2) sf0 (w135 hw) (w54 hw)) Pr0 rfl (sz hml rfl) (argsL := []) (rest := []) (lenOf pd21 rfl) rfl rfl (mroom rfl rfl) (D d21_46) (by decide) (by decide) fun T11 h11 vm11 v11 X11 C11 z11 q11 => ?_
  obtain ⟨rfl, K11⟩ := q11
  rw [K11] at X11 C11
  have A12 := X11.at
  refine Gets.via (fun _ k => (XS.ifYes A12 hx rfl (pc0 := 49) (pc' := 56) rfl (D d21_49) rfl (Jvm.Free.XT.i0_eq_t (by decide)) (by decide) (by decide) k)) ?_
  refine Gets.via (fun _ k => (XS.aloadN A12 hx rfl (D d21_56) rfl rfl k)) ?_
  refine X11.getF (host := "") (Or.inl (w58 hw)) Via.refl Pr1 rfl rfl (D d21_57) fun T13 X13 => ?_
  have A14 := X13.at
  refine Gets.via (fun _ k => (XS.aloadN A14 hx rfl (D d21_60) rfl rfl (XS.dup A14 hx rfl (D d21_61) rfl rfl k))) ?_
  refine X13.getF (host := "") (Or.inl (w89 hw)) Via.refl Pr3 rfl rfl (D d21_62) fun T15 X15 => ?_
  show Gets p e below _ (T15.setTop (mkF m 65 #[vR x, vI (62 : Int32)] [(.int (Int32.ofNat (cs).length)), (.ref x), (.ref d)]))
  have A16 := X15.at
  refine Gets.via (fun _ k => (XS.dupX1 A16 hx rfl (D d21_65) rfl rfl rfl (XS.iconst A16 hx rfl (D d21_66) (XS.iadd A16 hx rfl (D d21_67) rfl k)))) ?_
  show Gets p e below _ (T15.setTop (mkF m 68 #[vR x, vI (62 : Int32)] [(.int ((Int32.ofNat (cs).length) + (1 : Int32))), (.ref x), (.int (Int32.ofNat (cs).length)), (.ref d)]))
  rw [show Int32.ofNat (cs).length + (1 : Int32) = Int32.ofNat ((cs ++ [(62 : Int32)])).length from (of_add _ 1).trans (by rw [List.length_append]; rfl)]
  refine X15.putF (host := "") (Or.inl (w89 hw)) Via.refl Pr3 Pr0 (Or.inl (w90 hw)) (w45 hw) (ty := .int) (by decide) rfl rfl (leA (by omega)) (Safe.exa X15.hZ.alike Pr0 (by decide) (by decide)) rfl rfl (D d21_68) fun T17 h17 X17 C17 W17 F17 Z17 => ?_
  have z17 := W17.size
  have A18 := X17.at
  refine Gets.via (fun _ k => (XS.iloadN A18 hx rfl (D d21_71) rfl k)) ?_
  have f19 := Pr5.other W17 (neA (by omega))
  have f20 := C7.safe (x := d) (ltA (by omega)) s4
  have f21 := C9.safe (x := d) (ltA (by omega)) f20
  have f22 := C11.safe (x := d) (ltA (by omega)) f21
  have f23 := C17.safe (x := d) (ltA (by omega)) f22
  refine X17.callS (W := 0) (w251 hw) (w252 hw) (w21 hw) (w253 hw) (by decide) (X17.payM (sf := [d]) (rmPcs hcx d (62 : Int32) kd cs h17 X17.old f19 Pr6 Pr8) (sfS f23 sf0) (w253 hw) (w21 hw)) rfl (sz hml rfl) (argsL := [(.ref d), (.int (Int32.ofNat (cs).length)), (.int (62 : Int32))]) (rest := []) (lenOf pd10 rfl) rfl rfl (mroom rfl rfl) (D d21_72) (by decide) (by decide) fun T24 h24 vm24 v24 X24 C24 z24 q24 => ?_
  obtain ⟨rfl, K24, g24_0⟩ := q24
  have l25 := ltA g24_0.lt
  have A26 := X24.at
  refine Gets.via (fun _ k => (XS.aloadN A26 hx rfl (D d21_75) rfl rfl k)) ?_
  have f27 := Z17.keep K24
  have f28 := Pr1.other W17 (Or.inr (slot_ne (t := (.array .byte)) (t' := .int) (Or.inl (w59 hw)) (Or.inl (w90 hw)) (by decide) (by decide) (by decide)))
  have f29 := f28.keep K24 (ninS (neA (by omega)) nin0)
  have f30 := Pr2.other W17 (Or.inr (slot_ne (t := .byte) (t' := .int) (Or.inl (w61 hw)) (Or.inl (w90 hw)) (by decide) (by decide) (by decide)))
  have f31 := f30.keep K24 (ninS (neA (by omega)) nin0)
  have f32 := F17.keep K24 (ninS (neA (by omega)) nin0)
  have f33 := Pr4.other W17 (Or.inr (slot_ne (t := .boolean) (t' := .int) (Or.inl (w259 hw)) (Or.inl (w90 hw)) (by decide) (by decide) (by decide)))
  have f34 := f33.keep K24 (ninS (neA (by omega)) nin0)
  exact X24.retA hret rfl rfl rfl (D d21_76) (by decide) (by decide) (fun vmE CE => ⟨rfl, (((Keep.refl h0 [x, d]).wr W17 (Or.inl (memI (i := 0) rfl))).trans K24 (allS (Or.inl (memI (i := 1) rfl)) all0)), f27, f29, f31, f32, f34, g24_0⟩)
abbrev RrmApc1 : Room := { frames := 5, cells := 0, slots := 0, locals := 67 }
def QrmApc1 (Z : State) (x : Addr) (d : Addr) (kd : ClassId) (cs : List Int32) (h0 : Heap) (v : Option Value) (vm : Vm) (h : Heap) : Prop := v = some (.ref x) ∧ Keep h0 h [x, d] ∧ Exa Z h x "java/lang/StringBuilder" ∧ Fld Z h x "java/lang/AbstractStringBuilder" "value" "[B" (.ref d) ∧ Fld Z h x "java/lang/AbstractStringBuilder" "coder" "B" (.int (1 : Int32)) ∧ Fld Z h x "java/lang/AbstractStringBuilder" "count" "I" (.int (Int32.ofNat ((cs ++ [(62 : Int32)])).length)) ∧ Fld Z h x "java/lang/AbstractStringBuilder" "maybeLatin1" "Z" (.int (0 : Int32)) ∧ Arv Z h d kd .byte (32 : Int32) (enc16 (cs ++ [(62 : Int32)])) (.int (0 : Int32))
theorem rmApc1 (hcx : Cx Z a0 zc fm) (x : Addr) (d : Addr) (kd : ClassId) (cs : List Int32) (h0 : Heap) (O0 : Old Z Z.heap.size h0) (Pr0 : Exa Z h0 x "java/lang/StringBuilder") (Pr1 : Fld Z h0 x "java/lang/AbstractStringBuilder" "value" "[B" (.ref d)) (Pr2 : Fld Z h0 x "java/lang/AbstractStringBuilder" "coder" "B" (.int (1 : Int32))) (Pr3 : Fld Z h0 x "java/lang/AbstractStringBuilder" "count" "I" (.int (Int32.ofNat (cs).length))) (Pr4 : Fld Z h0 x "java/lang/AbstractStringBuilder" "maybeLatin1" "Z" (.int (0 : Int32))) (Pr5 : Arv Z h0 d kd .byte (32 : Int32) (enc16 cs) (.int (0 : Int32))) (Pr6 : (cs).length + 1 ≤ 16) (Pr7 : Z.heap.size ≤ x) (Pr8 : Z.heap.size ≤ d) (Pr9 : x ≠ d) : Met l Z consts_1 (⟨"java/lang/StringBuilder", "append", "(C)Ljava/lang/StringBuilder;"⟩ : MethodName) jdk_67_method_14_code 2 (some (.object "java/lang/StringBuilder")) [] RrmApc1 [d] #[(.ref x), (.int (62 : Int32))] h0 (QrmApc1 Z x d kd cs h0) := by
  have ⟨hw, hEL, O2, P5, O4, P6, OA, OH, OB⟩ := hcx
  refine Met.start (a0 := a0) (Ls := #[vR x, vI (62 : Int32)]) pn20 hEL O0 (fun m => by first | (simp [entryFrame, mkF, argsToLocals, Value.category]; done) | rfl) ?_
  intro p e s m below meth cc T0 vm0 X0 sf0_ hby hml hret hnm
  have hx := X0.hx
  have D : ∀ {n r}, decode B20 n = r → decode cc.code n = r := fun d => hb hby d
  have zz := X0.ge
  have A0 := X0.at
  have l1 := ltA Pr0.lt
  have l2 := ltA Pr5.lt
  have l3 := neA Pr9
  have s4 := sf0_ d (memI (i := 0) rfl)
  refine Gets.via (fun _ k => (XS.aloadN A0 hx rfl (D d20_0) rfl rfl (XS.iloadN A0 hx rfl (D d20_1) rfl k))) ?_
  refine X0.callU (W := 0) (by decide) (w127 hw) (same_self (w128 hw) (w94 hw) rfl (by decide)) (w128 hw) (w76 hw) (w130 hw) (X0.payM (sf := [d]) (rmAac1 hcx x d kd cs h0 X0.old Pr0 Pr1 Pr2 Pr3 Pr4 Pr5 Pr6 Pr7 Pr8 Pr9) (sfS s4 sf0) (w130 hw) (w54 hw)) Pr0 rfl (sz hml rfl) (argsL := [(.int (62 : Int32))]) (rest := []) (lenOf pd31 rfl) rfl rfl (mroom rfl rfl) (D d20_2) (by decide) (by decide) fun T5 h5 vm5 v5 X5 C5 z5 q5 => ?_
  obtain ⟨rfl, K5, g5_0, g5_1, g5_2, g5_3, g5_4, g5_5⟩ := q5
  have l6 := ltA g5_0.lt
  have l7 := ltA g5_5.lt
  have A8 := X5.at
  refine Gets.via (fun _ k => (XS.pop A8 hx rfl (D d20_5) rfl rfl (XS.aloadN A8 hx rfl (D d20_6) rfl rfl k))) ?_
  exact X5.retA hret rfl rfl rfl (D d20_7) (by decide) (by decide) (fun vmE CE => ⟨rfl, ((Keep.refl h0 [x, d]).trans K5 (allS (Or.inl (memI (i := 0) rfl)) (allS (Or.inl (memI (i := 1) rfl)) all0))), g5_0, g5_1, g5_2, g5_3, g5_4, g5_5⟩)
abbrev RrmIsU : Room := { frames := 0, cells := 0, slots := 0, locals := 0 }
def QrmIsU (Z : State) (x : Addr) (h0 : Heap) (v : Option Value) (vm : Vm) (h : Heap) : Prop := v = some (.int (0 : Int32)) ∧ h = h0
theorem rmIsU (hcx : Cx Z a0 zc fm) (x : Addr) (h0 : Heap) (O0 : Old Z Z.heap.size h0) (Pr0 : Exa Z h0 x "java/lang/String") (Pr1 : Fld Z h0 x "java/lang/String" "coder" "B" (.int (1 : Int32))) : Met l Z consts_1 (⟨"java/lang/String", "isLatin1", "()Z"⟩ : MethodName) jdk_42_method_154_code 1 (some .boolean) [] RrmIsU [] #[(.ref x)] h0 (QrmIsU Z x h0) := by
  have ⟨hw, hEL, O2, P5, O4, P6, OA, OH, OB⟩ := hcx
  refine Met.start (a0 := a0) (Ls := #[vR x]) pn36 hEL O0 (fun m => by first | (simp [entryFrame, mkF, argsToLocals, Value.category]; done) | rfl) ?_
  intro p e s m below meth cc T0 vm0 X0 sf0_ hby hml hret hnm
  have hx := X0.hx
  have D : ∀ {n r}, decode B36 n = r → decode cc.code n = r := fun d => hb hby d
  have zz := X0.ge
  have A0 := X0.at
  have l1 := ltA Pr0.lt
  refine X0.getS (host := "") (Or.inl (w18 hw)) Via.refl (X0.sta O2) rfl (D d36_0) fun T2 X2 => ?_
  have A3 := X2.at
  refine Gets.via (fun _ k => (XS.ifNo A3 hx rfl (D d36_3) rfl (Jvm.Free.XT.i0_eq_f P5) k)) ?_
  refine Gets.via (fun _ k => (XS.aloadN A3 hx rfl (D d36_6) rfl rfl k)) ?_
  refine X2.getF (host := "") (Or.inl (w30 hw)) Via.refl Pr1 rfl rfl (D d36_7) fun T4 X4 => ?_
  have A5 := X4.at
  refine Gets.via (fun _ k => (XS.ifYes A5 hx rfl (pc0 := 10) (pc' := 17) rfl (D d36_10) rfl (Jvm.Free.XT.i0_ne_t (by decide)) (by decide) (by decide) k)) ?_
  show Gets p e below _ (T4.setTop (mkF m 17 #[vR x] []))
  refine Gets.via (fun _ k => (XS.iconst A5 hx rfl (D d36_17) k)) ?_
  exact X4.retI hret (by decide) (by simp) (D d36_18) (by decide) (by decide) (fun vmE CE => ⟨rfl, rfl⟩)
abbrev RrmIsL : Room := { frames := 0, cells := 0, slots := 0, locals := 0 }
def QrmIsL (Z : State) (x : Addr) (h0 : Heap) (v : Option Value) (vm : Vm) (h : Heap) : Prop := v = some (.int (1 : Int32)) ∧ h = h0
theorem rmIsL (hcx : Cx Z a0 zc fm) (x : Addr) (h0 : Heap) (O0 : Old Z Z.heap.size h0) (Pr0 : Exa Z h0 x "java/lang/String") (Pr1 : Fld Z h0 x "java/lang/String" "coder" "B" (.int (0 : Int32))) : Met l Z consts_1 (⟨"java/lang/String", "isLatin1", "()Z"⟩ : MethodName) jdk_42_method_154_code 1 (some .boolean) [] RrmIsL [] #[(.ref x)] h0 (QrmIsL Z x h0) := by
  have ⟨hw, hEL, O2, P5, O4, P6, OA, OH, OB⟩ := hcx
  refine Met.start (a0 := a0) (Ls := #[vR x]) pn36 hEL O0 (fun m => by first | (simp [entryFrame, mkF, argsToLocals, Value.category]; done) | rfl) ?_
  intro p e s m below meth cc T0 vm0 X0 sf0_ hby hml hret hnm
  have hx := X0.hx
  have D : ∀ {n r}, decode B36 n = r → decode cc.code n = r := fun d => hb hby d
  have zz := X0.ge
  have A0 := X0.at
  have l1 := ltA Pr0.lt
  refine X0.getS (host := "") (Or.inl (w18 hw)) Via.refl (X0.sta O2) rfl (D d36_0) fun T2 X2 => ?_
  have A3 := X2.at
  refine Gets.via (fun _ k => (XS.ifNo A3 hx rfl (D d36_3) rfl (Jvm.Free.XT.i0_eq_f P5) k)) ?_
  refine Gets.via (fun _ k => (XS.aloadN A3 hx rfl (D d36_6) rfl rfl k)) ?_
  refine X2.getF (host := "") (Or.inl (w30 hw)) Via.refl Pr1 rfl rfl (D d36_7) fun T4 X4 => ?_
  have A5 := X4.at
  refine Gets.via (fun _ k => (XS.ifNo A5 hx rfl (D d36_10) rfl (Jvm.Free.XT.i0_ne_f (by decide)) k)) ?_
  show Gets p e below _ (T4.setTop (mkF m 13 #[vR x] []))
  refine Gets.via (fun _ k => (XS.iconst A5 hx rfl (D d36_13) (XS.goto A5 hx rfl (pc0 := 14) (pc' := 18) rfl (D d36_14) (by decide) (by decide) k))) ?_
  exact X4.retI hret (by decide) (by simp) (D d36_18) (by decide) (by decide) (fun vmE CE => ⟨rfl, rfl⟩)
abbrev RrmLch : Room := { frames := 2, cells := 0, slots := 0, locals := 27 }
def QrmLch (Z : State) (b : Addr) (i : Nat) (kb : ClassId) (cs : List Int32) (h0 : Heap) (v : Option Value) (vm : Vm) (h : Heap) : Prop := v = some (.int (cs.getD i 0)) ∧ h = h0
theorem rmLch (hcx : Cx Z a0 zc fm) (b : Addr) (i : Nat) (kb : ClassId) (cs : List Int32) (h0 : Heap) (O0 : Old Z Z.heap.size h0) (Pr0 : Arv Z h0 b kb .byte (Int32.ofNat (cs).length) ((cs.map fun c => c.toInt8.toInt32).map Value.int) (.int (0 : Int32))) (Pr1 : (cs).length ≤ 4000) (Pr2 : i < (cs).length) (Pr3 : ∀ z_ ∈ cs, ¬ z_ < 0 ∧ ¬ (255 : Int32) < z_) : Met l Z consts_1 (⟨"java/lang/StringLatin1", "charAt", "([BI)C"⟩ : MethodName) jdk_43_method_2_code 2 (some .char) [] RrmLch [] #[(.ref b), (.int (Int32.ofNat i))] h0 (QrmLch Z b i kb cs h0) := by
  have ⟨hw, hEL, O2, P5, O4, P6, OA, OH, OB⟩ := hcx
  refine Met.start (a0 := a0) (Ls := #[vR b, vI (Int32.ofNat i)]) pn37 hEL O0 (fun m => by first | (simp [entryFrame, mkF, argsToLocals, Value.category]; done) | rfl) ?_
  intro p e s m below meth cc T0 vm0 X0 sf0_ hby hml hret hnm
  have hx := X0.hx
  have D : ∀ {n r}, decode B37 n = r → decode cc.code n = r := fun d => hb hby d
  have zz := X0.ge
  have A0 := X0.at
  have l1 := ltA Pr0.lt
  have hr := mem_getD Pr2 Pr3
  have u2 : ¬ (Int32.ofNat i) < (0 : Int32) := of_pos (by omega)
  have u3 : (Int32.ofNat i) < (Int32.ofNat (cs).length) := of_lt (by omega) (by omega)
  refine Gets.via (fun _ k => (XS.iloadN A0 hx rfl (D d37_0) rfl (XS.aloadN A0 hx rfl (D d37_1) rfl rfl k))) ?_
  refine X0.alen Pr0 rfl rfl (D d37_2) ?_
  refine X0.callS (W := 0) (w200 hw) (w201 hw) (w6 hw) (w202 hw) (by decide) (X0.payM (sf := []) (rm38 hcx (Int32.ofNat i) (Int32.ofNat (cs).length) h0 X0.old u2 u3) sf0 (w202 hw) (w6 hw)) rfl (sz hml rfl) (argsL := [(.int (Int32.ofNat i)), (.int (Int32.ofNat (cs).length))]) (rest := []) (lenOf pd4 rfl) rfl rfl (mroom rfl rfl) (D d37_3) (by decide) (by decide) fun T4 h4 vm4 v4 X4 C4 z4 q4 => ?_
  obtain ⟨rfl, K4⟩ := q4
  rw [K4] at X4 C4
  have A5 := X4.at
  refine Gets.via (fun _ k => (XS.aloadN A5 hx rfl (D d37_6) rfl rfl (XS.iloadN A5 hx rfl (D d37_7) rfl k))) ?_
  show Gets p e below _ (T4.setTop (mkF m 8 #[vR b, vI (Int32.ofNat i)] [(.int (Int32.ofNat i)), (.ref b)]))
  refine X4.ldB Pr0 (j := (Int32.ofNat i)) (i := i) (of_pos (by omega)) (toN (by omega)) (by rw [toN (by omega)]; exact Pr2) (v := (.int ((cs.getD i 0).toInt8.toInt32))) (by_get Pr2) rfl rfl (D d37_8) ?_
  refine Gets.via (fun _ k => (XS.sipush A5 hx rfl (D d37_9) (XS.iand A5 hx rfl (D d37_12) rfl (i2cV A5 hx rfl (D d37_13) rfl (v := (cs.getD i 0)) (StrChars.chr8_lo8 hr.1 hr.2) k)))) ?_
  exact X4.retI hret (nar_small hr) (by simp) (D d37_14) (by decide) (by decide) (fun vmE CE => ⟨rfl, rfl⟩)
abbrev RrmUch : Room := { frames := 3, cells := 0, slots := 0, locals := 40 }
def QrmUch (Z : State) (b : Addr) (i : Nat) (kb : ClassId) (cs : List Int32) (h0 : Heap) (v : Option Value) (vm : Vm) (h : Heap) : Prop := v = some (.int (cs.getD i 0)) ∧ h = h0
theorem rmUch (hcx : Cx Z a0 zc fm) (b : Addr) (i : Nat) (kb : ClassId) (cs : List Int32) (h0 : Heap) (O0 : Old Z Z.heap.size h0) (Pr0 : Arv Z h0 b kb .byte (Int32.ofNat (2 * (cs).length)) (enc16 cs) (.int (0 : Int32))) (Pr1 : (cs).length ≤ 2000) (Pr2 : i < (cs).length) (Pr3 : ∀ z_ ∈ cs, ¬ z_ < 0 ∧ ¬ (65535 : Int32) < z_) : Met l Z consts_1 (⟨"java/lang/StringUTF16", "charAt", "([BI)C"⟩ : MethodName) jdk_52_method_83_code 2 (some .char) [] RrmUch [] #[(.ref b), (.int (Int32.ofNat i))] h0 (QrmUch Z b i kb cs h0) := by
  have ⟨hw, hEL, O2, P5, O4, P6, OA, OH, OB⟩ := hcx
  refine Met.start (a0 := a0) (Ls := #[vR b, vI (Int32.ofNat i)]) pn54 hEL O0 (fun m => by first | (simp [entryFrame, mkF, argsToLocals, Value.category]; done) | rfl) ?_
  intro p e s m below meth cc T0 vm0 X0 sf0_ hby hml hret hnm
  have hx := X0.hx
  have D : ∀ {n r}, decode B54 n = r → decode cc.code n = r := fun d => hb hby d
  have zz := X0.ge
  have A0 := X0.at
  have l1 := ltA Pr0.lt
  refine Gets.via (fun _ k => (XS.iloadN A0 hx rfl (D d54_0) rfl (XS.aloadN A0 hx rfl (D d54_1) rfl rfl k))) ?_
  refine X0.callS (W := 0) (w254 hw) (w255 hw) (w21 hw) (w256 hw) (by decide) (X0.payM (sf := []) (rmUChk hcx i b kb ((cs).length) (enc16 cs) h0 X0.old Pr0 Pr1 Pr2) sf0 (w256 hw) (w21 hw)) rfl (sz hml rfl) (argsL := [(.int (Int32.ofNat i)), (.ref b)]) (rest := []) (lenOf pd29 rfl) rfl rfl (mroom rfl rfl) (D d54_2) (by decide) (by decide) fun T2 h2 vm2 v2 X2 C2 z2 q2 => ?_
  obtain ⟨rfl, K2⟩ := q2
  rw [K2] at X2 C2
  have A3 := X2.at
  refine Gets.via (fun _ k => (XS.aloadN A3 hx rfl (D d54_5) rfl rfl (XS.iloadN A3 hx rfl (D d54_6) rfl k))) ?_
  refine X2.callS (W := 0) (w224 hw) (w225 hw) (w21 hw) (w226 hw) (by decide) (X2.payM (sf := []) (rmGetC hcx b i kb (Int32.ofNat (2 * (cs).length)) (2 * (cs).length) cs h0 X2.old Pr0 (toN (by omega)) (by omega) (by omega) Pr2 Pr3) sf0 (w226 hw) (w21 hw)) rfl (sz hml rfl) (argsL := [(.ref b), (.int (Int32.ofNat i))]) (rest := []) (lenOf pd12 rfl) rfl rfl (mroom rfl rfl) (D d54_7) (by decide) (by decide) fun T4 h4 vm4 v4 X4 C4 z4 q4 => ?_
  obtain ⟨rfl, K4⟩ := q4
  rw [K4] at X4 C4
  show Gets p e below _ (T4.setTop (mkF m 10 #[vR b, vI (Int32.ofNat i)] [(.int (cs.getD i 0))]))
  exact X4.retI hret (nar16 (mem_getD Pr2 Pr3)) (by simp) (D d54_10) (by decide) (by decide) (fun vmE CE => ⟨rfl, rfl⟩)
abbrev RrmChA : Room := { frames := 4, cells := 0, slots := 0, locals := 53 }
def QrmChA (Z : State) (x : Addr) (j : Int32) (i : Nat) (cs : List Int32) (h0 : Heap) (v : Option Value) (vm : Vm) (h : Heap) : Prop := v = some (.int (cs.getD i 0)) ∧ h = h0
theorem rmChA (hcx : Cx Z a0 zc fm) (x : Addr) (j : Int32) (i : Nat) (cs : List Int32) (h0 : Heap) (O0 : Old Z Z.heap.size h0) (Pr0 : Any Z h0 x cs) (Pr1 : j = Int32.ofNat i) (Pr2 : i < (cs).length) : Met l Z consts_1 (⟨"java/lang/String", "charAt", "(I)C"⟩ : MethodName) jdk_42_method_56_code 2 (some .char) [] RrmChA [] #[(.ref x), (.int j)] h0 (QrmChA Z x j i cs h0) := by
  have ⟨hw, hEL, O2, P5, O4, P6, OA, OH, OB⟩ := hcx
  refine Met.start (a0 := a0) (Ls := #[vR x, vI j]) pn35 hEL O0 (fun m => by first | (simp [entryFrame, mkF, argsToLocals, Value.category]; done) | rfl) ?_
  intro p e s m below meth cc T0 vm0 X0 sf0_ hby hml hret hnm
  have hx := X0.hx
  have D : ∀ {n r}, decode B35 n = r → decode cc.code n = r := fun d => hb hby d
  have zz := X0.ge
  have A0 := X0.at
  have l1 := ltA Pr0.lt
  subst Pr1
  rcases Pr0 with ⟨bb, kk, S⟩ | ⟨bb, kk, S⟩
  · skip
    have l2 := ltA S.lt
    have l3 := ltA S.lb
    have l4 := S.2.2.2.2.2
    refine Gets.via (fun _ k => (XS.aloadN A0 hx rfl (D d35_0) rfl rfl k)) ?_
    refine X0.callV (W := 0) (w192 hw) (w193 hw) (w195 hw) (w194 hw) (nfs rfl (w195 hw)) (by decide) (X0.payM (sf := []) (rmIsL hcx x h0 X0.old S.1 S.2.1) sf0 (w196 hw) (w6 hw)) S.1 rfl (sz hml rfl) (argsL := []) (rest := []) (lenOf pd21 rfl) rfl rfl (mroom rfl rfl) (D d35_1) (by decide) (by decide) fun T4 h4 vm4 v4 X4 C4 z4 q4 => ?_
    obtain ⟨rfl, K4⟩ := q4
    rw [K4] at X4 C4
    have A5 := X4.at
    refine Gets.via (fun _ k => (XS.ifNo A5 hx rfl (D d35_4) rfl (Jvm.Free.XT.i0_eq_f (by decide)) k)) ?_
    refine Gets.via (fun _ k => (XS.aloadN A5 hx rfl (D d35_7) rfl rfl k)) ?_
    refine X4.getF (host := "") (Or.inl (w32 hw)) Via.refl S.2.2.1 rfl rfl (D d35_8) fun T6 X6 => ?_
    show Gets p e below _ (T6.setTop (mkF m 11 #[vR x, vI (Int32.ofNat i)] [(.ref bb)]))
    have A7 := X6.at
    refine Gets.via (fun _ k => (XS.iloadN A7 hx rfl (D d35_11) rfl k)) ?_
    refine X6.callS (W := 0) (w197 hw) (w198 hw) (w138 hw) (w199 hw) (by decide) (X6.payM (sf := []) (rmLch hcx bb i kk cs h0 X6.old S.2.2.2.1 l4 Pr2 S.2.2.2.2.1) sf0 (w199 hw) (w138 hw)) rfl (sz hml rfl) (argsL := [(.ref bb), (.int (Int32.ofNat i))]) (rest := []) (lenOf pd12 rfl) rfl rfl (mroom rfl rfl) (D d35_12) (by decide) (by decide) fun T8 h8 vm8 v8 X8 C8 z8 q8 => ?_
    obtain ⟨rfl, K8⟩ := q8
    rw [K8] at X8 C8
    exact X8.retI hret (nar16 (wd16 (mem_getD Pr2 S.2.2.2.2.1))) (by simp) (D d35_15) (by decide) (by decide) (fun vmE CE => ⟨rfl, rfl⟩)
  · skip
    have l9 := ltA S.lt
    have l10 := ltA S.lb
    have l4 := S.2.2.2.2.2
    refine Gets.via (fun _ k => (XS.aloadN A0 hx rfl (D d35_0) rfl rfl k)) ?_
    refine X0.callV (W := 0) (w192 hw) (w193 hw) (w195 hw) (w194 hw) (nfs rfl (w195 hw)) (by decide) (X0.payM (sf := []) (rmIsU hcx x h0 X0.old S.1 S.2.1) sf0 (w196 hw) (w6 hw)) S.1 rfl (sz hml rfl) (argsL := []) (rest := []) (lenOf pd21 rfl) rfl rfl (mroom rfl rfl) (D d35_1) (by decide) (by decide) fun T11 h11 vm11 v11 X11 C11 z11 q11 => ?_
    obtain ⟨rfl, K11⟩ := q11
    rw [K11] at X11 C11
    have A12 := X11.at
    refine Gets.via (fun _ k => (XS.ifYes A12 hx rfl (pc0 := 4) (pc' := 16) rfl (D d35_4) rfl (Jvm.Free.XT.i0_eq_t (by decide)) (by decide) (by decide) k)) ?_
    refine Gets.via (fun _ k => (XS.aloadN A12 hx rfl (D d35_16) rfl rfl k)) ?_
    refine X11.getF (host := "") (Or.inl (w32 hw)) Via.refl S.2.2.1 rfl rfl (D d35_17) fun T13 X13 => ?_
    show Gets p e below _ (T13.setTop (mkF m 20 #[vR x, vI (Int32.ofNat i)] [(.ref bb)]))
    have A14 := X13.at
    refine Gets.via (fun _ k => (XS.iloadN A14 hx rfl (D d35_20) rfl k)) ?_
    refine X13.callS (W := 0) (w260 hw) (w261 hw) (w21 hw) (w262 hw) (by decide) (X13.payM (sf := []) (rmUch hcx bb i kk cs h0 X13.old S.2.2.2.1 l4 Pr2 S.2.2.2.2.1) sf0 (w262 hw) (w21 hw)) rfl (sz hml rfl) (argsL := [(.ref bb), (.int (Int32.ofNat i))]) (rest := []) (lenOf pd12 rfl) rfl rfl (mroom rfl rfl) (D d35_21) (by decide) (by decide) fun T15 h15 vm15 v15 X15 C15 z15 q15 => ?_
    obtain ⟨rfl, K15⟩ := q15
    rw [K15] at X15 C15
    exact X15.retI hret (nar16 (mem_getD Pr2 S.2.2.2.2.1)) (by simp) (D d35_24) (by decide) (by decide) (fun vmE CE => ⟨rfl, rfl⟩)
abbrev RrmLenA : Room := { frames := 1, cells := 0, slots := 0, locals := 13 }
def QrmLenA (Z : State) (x : Addr) (cs : List Int32) (h0 : Heap) (v : Option Value) (vm : Vm) (h : Heap) : Prop := v = some (.int (Int32.ofNat (cs).length)) ∧ h = h0
theorem rmLenA (hcx : Cx Z a0 zc fm) (x : Addr) (cs : List Int32) (h0 : Heap) (O0 : Old Z Z.heap.size h0) (Pr0 : Any Z h0 x cs) : Met l Z consts_1 (⟨"java/lang/String", "length", "()I"⟩ : MethodName) jdk_42_method_54_code 1 (some .int) [] RrmLenA [] #[(.ref x)] h0 (QrmLenA Z x cs h0) := by
  have ⟨hw, hEL, O2, P5, O4, P6, OA, OH, OB⟩ := hcx
  refine Met.start (a0 := a0) (Ls := #[vR x]) pn13 hEL O0 (fun m => by first | (simp [entryFrame, mkF, argsToLocals, Value.category]; done) | rfl) ?_
  intro p e s m below meth cc T0 vm0 X0 sf0_ hby hml hret hnm
  have hx := X0.hx
  have D : ∀ {n r}, decode B13 n = r → decode cc.code n = r := fun d => hb hby d
  have zz := X0.ge
  have A0 := X0.at
  have l1 := ltA Pr0.lt
  rcases Pr0 with ⟨bb, kk, S⟩ | ⟨bb, kk, S⟩
  · skip
    have l2 := ltA S.lt
    have l3 := ltA S.lb
    have l4 := S.2.2.2.2.2
    refine Gets.via (fun _ k => (XS.aloadN A0 hx rfl (D d13_0) rfl rfl k)) ?_
    refine X0.getF (host := "") (Or.inl (w32 hw)) Via.refl S.2.2.1 rfl rfl (D d13_1) fun T4 X4 => ?_
    refine X4.alen S.2.2.2.1 rfl rfl (D d13_4) ?_
    have A5 := X4.at
    refine Gets.via (fun _ k => (XS.aloadN A5 hx rfl (D d13_5) rfl rfl k)) ?_
    refine X4.callV (W := 1) (w84 hw) (w85 hw) (w87 hw) (w86 hw) (nfs rfl (w87 hw)) (by decide) (X4.payM (sf := []) (rmCoder0 hcx x h0 X4.old S.1 S.2.1) sf0 (w88 hw) (w6 hw)) S.1 rfl (sz hml rfl) (argsL := []) (rest := [(.int (Int32.ofNat (cs).length))]) (lenOf pd1 rfl) rfl rfl (mroom rfl rfl) (D d13_6) (by decide) (by decide) fun T6 h6 vm6 v6 X6 C6 z6 q6 => ?_
    obtain ⟨rfl, K6⟩ := q6
    rw [K6] at X6 C6
    show Gets p e below _ (T6.setTop (mkF m 9 #[vR x] [(.int (0 : Int32)), (.int (Int32.ofNat (cs).length))]))
    have A7 := X6.at
    refine Gets.via (fun _ k => (ishrV A7 hx rfl (D d13_9) rfl (v := (Int32.ofNat (cs).length)) (shr0 _) k)) ?_
    exact X6.retI hret rfl (by simp) (D d13_10) (by decide) (by decide) (fun vmE CE => ⟨rfl, rfl⟩)
  · skip
    have l8 := ltA S.lt
    have l9 := ltA S.lb
    have l4 := S.2.2.2.2.2
    refine Gets.via (fun _ k => (XS.aloadN A0 hx rfl (D d13_0) rfl rfl k)) ?_
    refine X0.getF (host := "") (Or.inl (w32 hw)) Via.refl S.2.2.1 rfl rfl (D d13_1) fun T10 X10 => ?_
    refine X10.alen S.2.2.2.1 rfl rfl (D d13_4) ?_
    have A11 := X10.at
    refine Gets.via (fun _ k => (XS.aloadN A11 hx rfl (D d13_5) rfl rfl k)) ?_
    refine X10.callV (W := 1) (w84 hw) (w85 hw) (w87 hw) (w86 hw) (nfs rfl (w87 hw)) (by decide) (X10.payM (sf := []) (rmCoder1 hcx x h0 X10.old S.1 S.2.1) sf0 (w88 hw) (w6 hw)) S.1 rfl (sz hml rfl) (argsL := []) (rest := [(.int (Int32.ofNat (2 * (cs).length)))]) (lenOf pd1 rfl) rfl rfl (mroom rfl rfl) (D d13_6) (by decide) (by decide) fun T12 h12 vm12 v12 X12 C12 z12 q12 => ?_
    obtain ⟨rfl, K12⟩ := q12
    rw [K12] at X12 C12
    show Gets p e below _ (T12.setTop (mkF m 9 #[vR x] [(.int (1 : Int32)), (.int (Int32.ofNat (2 * (cs).length)))]))
    have A13 := X12.at
    refine Gets.via (fun _ k => (ishrV A13 hx rfl (D d13_9) rfl (v := (Int32.ofNat (cs).length)) (shr1 (by omega)) k)) ?_
    exact X12.retI hret rfl (by simp) (D d13_10) (by decide) (by decide) (fun vmE CE => ⟨rfl, rfl⟩)
abbrev RrmStr0L : Room := { frames := 3, cells := 6, slots := 14, locals := 43 }
def QrmStr0L (Z : State) (n : Int32) (c0 : Int32) (c1 : Int32) (c2 : Int32) (h0 : Heap) (v : Option Value) (vm : Vm) (h : Heap) : Prop := ∃ (a : Addr) (b : Addr) (kb : ClassId), v = some (.ref a) ∧ Keep h0 h [] ∧ Str Z h a b kb []
theorem rmStr0L (hcx : Cx Z a0 zc fm) (n : Int32) (c0 : Int32) (c1 : Int32) (c2 : Int32) (h0 : Heap) (O0 : Old Z Z.heap.size h0) (Pr0 : n = (0 : Int32)) : Met l Z consts_1 (⟨"com/example/carve/carve/http/HtmlClosePinLaw", "str", "(ICCC)Ljava/lang/String;"⟩ : MethodName) method_2_code 4 (some (.object "java/lang/String")) [] RrmStr0L [] #[(.int n), (.int c0), (.int c1), (.int c2)] h0 (QrmStr0L Z n c0 c1 c2 h0) := by
  have ⟨hw, hEL, O2, P5, O4, P6, OA, OH, OB⟩ := hcx
  refine Met.start (a0 := a0) (Ls := #[vI n, vI c0, vI c1, vI c2]) pn0 hEL O0 (fun m => by first | (simp [entryFrame, mkF, argsToLocals, Value.category]; done) | rfl) ?_
  intro p e s m below meth cc T0 vm0 X0 sf0_ hby hml hret hnm
  have hx := X0.hx
  have D : ∀ {n r}, decode B0 n = r → decode cc.code n = r := fun d => hb hby d
  have zz := X0.ge
  have A0 := X0.at
  subst Pr0
  refine Gets.via (fun _ k => (XS.iloadN A0 hx rfl (D d0_0) rfl (XS.ifNo A0 hx rfl (D d0_1) rfl (Jvm.Free.XT.i0_ne_f (by decide)) k))) ?_
  refine X0.new (w4 hw) (w5 hw) (w6 hw) rfl (D d0_4) (by decide) (by decide) fun T1 h1 a1 X1 C1 E1 g1 Z1 S1 D1 => ?_
  have z1 := E1.1
  have l1 := ltA Z1.lt
  have A2 := X1.at
  refine Gets.via (fun _ k => (XS.dup A2 hx rfl (D d0_7) rfl rfl (XS.iconst A2 hx rfl (D d0_8) k))) ?_
  refine X1.newA (aty := .char) (w7 hw) rfl (D d0_9) rfl (by decide) (cap := 0) (by decide) (by decide) (by decide) (by decide) fun T3 h3 a3 k3 X3 C3 E3 g3 S3 V3 => ?_
  have z3 := E3.1
  have l3 := ltA V3.lt
  have V3_ : Arv Z h3 a3 k3 .char (0 : Int32) [] (.int (0 : Int32)) := padN V3 0
  show Gets p e below _ (T3.setTop (mkF m 11 #[vI (0 : Int32), vI c0, vI c1, vI c2] [(.ref a3), (.ref a1), (.ref a1)]))
  have f4 := Z1.ext E3
  have f5 := (D1 (Or.inr (w31 hw)) (ty := .byte) (by decide) : Fld Z h1 a1 "java/lang/String" "coder" "B" (.int (0 : Int32))).ext E3
  have f6 := (D1 (Or.inr (w33 hw)) (ty := (.array .byte)) (by decide) : Fld Z h1 a1 "java/lang/String" "value" "[B" .null).ext E3
  have f7 := C3.safe (x := a1) (ltA (by omega)) S1
  refine X3.callI (y := (⟨"java/lang/String", "<init>", "([C)V"⟩ : MethodName)) (W := 1) rfl (w8 hw) (w9 hw) (w10 hw) (by decide) (X3.payM (sf := [a1]) (rmE1 hcx a1 a3 k3 h3 X3.old f4 f5 f6 (leA (by omega)) V3_) (sfS f7 sf0) (w10 hw) (w6 hw)) rfl (sz hml rfl) (a := a1) (argsL := [(.ref a3)]) (rest := [(.ref a1)]) (lenOf pd32 rfl) rfl rfl (mroom rfl rfl) (D d0_11) (by decide) (by decide) fun T8 h8 vm8 v8 X8 C8 z8 q8 => ?_
  obtain ⟨t8, kb8, rfl, K8, g8_0⟩ := q8
  have l9 := ltA g8_0.lt
  have l10 := ltA g8_0.lb
  exact X8.retA hret rfl rfl rfl (D d0_14) (by decide) (by decide) (fun vmE CE => ⟨a1, t8, kb8, rfl, ((((Keep.refl h0 []).ext E1).ext E3).trans K8 (allS (Or.inr (leA (by omega))) all0)), g8_0⟩)
abbrev RrmStr1L : Room := { frames := 4, cells := 3, slots := 6, locals := 66 }
def QrmStr1L (Z : State) (n : Int32) (c0 : Int32) (c1 : Int32) (c2 : Int32) (h0 : Heap) (v : Option Value) (vm : Vm) (h : Heap) : Prop := ∃ (a : Addr) (b : Addr) (kb : ClassId), v = some (.ref a) ∧ Keep h0 h [] ∧ Str Z h a b kb [c0]
theorem rmStr1L (hcx : Cx Z a0 zc fm) (n : Int32) (c0 : Int32) (c1 : Int32) (c2 : Int32) (h0 : Heap) (O0 : Old Z Z.heap.size h0) (Pr0 : n = (1 : Int32)) (Pr1 : ¬ c0 < 0 ∧ ¬ (255 : Int32) < c0) : Met l Z consts_1 (⟨"com/example/carve/carve/http/HtmlClosePinLaw", "str", "(ICCC)Ljava/lang/String;"⟩ : MethodName) method_2_code 4 (some (.object "java/lang/String")) [] RrmStr1L [] #[(.int n), (.int c0), (.int c1), (.int c2)] h0 (QrmStr1L Z n c0 c1 c2 h0) := by
  have ⟨hw, hEL, O2, P5, O4, P6, OA, OH, OB⟩ := hcx
  refine Met.start (a0 := a0) (Ls := #[vI n, vI c0, vI c1, vI c2]) pn0 hEL O0 (fun m => by first | (simp [entryFrame, mkF, argsToLocals, Value.category]; done) | rfl) ?_
  intro p e s m below meth cc T0 vm0 X0 sf0_ hby hml hret hnm
  have hx := X0.hx
  have D : ∀ {n r}, decode B0 n = r → decode cc.code n = r := fun d => hb hby d
  have zz := X0.ge
  have A0 := X0.at
  subst Pr0
  refine Gets.via (fun _ k => (XS.iloadN A0 hx rfl (D d0_0) rfl (XS.ifYes A0 hx rfl (pc0 := 1) (pc' := 15) rfl (D d0_1) rfl (Jvm.Free.XT.i0_ne_t (by decide)) (by decide) (by decide) k))) ?_
  refine Gets.via (fun _ k => (XS.iloadN A0 hx rfl (D d0_15) rfl (XS.iconst A0 hx rfl (D d0_16) (XS.icmpNo A0 hx rfl (D d0_17) rfl (Jvm.Free.XT.ii_ne_f (by decide)) k)))) ?_
  refine X0.new (w4 hw) (w5 hw) (w6 hw) rfl (D d0_20) (by decide) (by decide) fun T1 h1 a1 X1 C1 E1 g1 Z1 S1 D1 => ?_
  have z1 := E1.1
  have l1 := ltA Z1.lt
  have A2 := X1.at
  refine Gets.via (fun _ k => (XS.dup A2 hx rfl (D d0_23) rfl rfl (XS.iconst A2 hx rfl (D d0_24) k))) ?_
  show Gets p e below _ (T1.setTop (mkF m 25 #[vI (1 : Int32), vI c0, vI c1, vI c2] [(.int (1 : Int32)), (.ref a1), (.ref a1)]))
  refine X1.newA (aty := .char) (w7 hw) rfl (D d0_25) rfl (by decide) (cap := 1) (by decide) (by decide) (by decide) (by decide) fun T3 h3 a3 k3 X3 C3 E3 g3 S3 V3 => ?_
  have z3 := E3.1
  have l3 := ltA V3.lt
  have V3_ : Arv Z h3 a3 k3 .char (1 : Int32) [(.int (0 : Int32))] (.int (0 : Int32)) := padN V3 1
  have A4 := X3.at
  refine Gets.via (fun _ k => (XS.dup A4 hx rfl (D d0_27) rfl rfl (XS.iconst A4 hx rfl (D d0_28) (XS.iloadN A4 hx rfl (D d0_29) rfl k)))) ?_
  refine X3.stC V3_ (i := 0) (by decide) (by decide) (Nat.le_of_ble_eq_true rfl) (by decide) (v := c0) (i2c_small Pr1) (leA (by omega)) rfl rfl (D d0_30) fun T5 h5 X5 C5 K5 V5 => ?_
  have z5 := K5.1
  have V5_ : Arv Z h5 a3 k3 .char (1 : Int32) [(.int c0)] (.int (0 : Int32)) := V5
  have f6 := Z1.ext E3
  have f7 := f6.keep K5
  have f8 := (D1 (Or.inr (w33 hw)) (ty := (.array .byte)) (by decide) : Fld Z h1 a1 "java/lang/String" "value" "[B" .null).ext E3
  have f9 := f8.keep K5 (ninS (neA (by omega)) nin0)
  have f10 := (D1 (Or.inr (w31 hw)) (ty := .byte) (by decide) : Fld Z h1 a1 "java/lang/String" "coder" "B" (.int (0 : Int32))).ext E3
  have f11 := f10.keep K5 (ninS (neA (by omega)) nin0)
  have f12 := C3.safe (x := a1) (ltA (by omega)) S1
  have f13 := C5.safe (x := a1) (ltA (by omega)) f12
  refine X5.callI (y := (⟨"java/lang/String", "<init>", "([C)V"⟩ : MethodName)) (W := 1) rfl (w8 hw) (w9 hw) (w10 hw) (by decide) (payStr X5 hw (w5 hw) [c0] 1 (leA (by omega)) f7 f9 f11 V5_ O2 P5 rfl rfl (by decide) (by decide) (allI Pr1 allN) (by decide) (by decide) f13) rfl (sz hml rfl) (a := a1) (argsL := [(.ref a3)]) (rest := [(.ref a1)]) (lenOf pd32 rfl) rfl rfl (mroom rfl rfl) (D d0_31) (by decide) (by decide) fun T14 h14 vm14 v14 X14 C14 z14 q14 => ?_
  obtain ⟨t14, kb14, rfl, K14, g14_0, g14_1, g14_2, g14_3, g14_4⟩ := q14
  have g14_5 : Str Z h14 a1 t14 kb14 [c0] := ⟨g14_0, g14_1, g14_2, g14_3, (allI Pr1 allN), Nat.le_of_ble_eq_true rfl⟩
  have l15 := ltA g14_5.lt
  have l16 := ltA g14_5.lb
  show Gets p e below _ (T14.setTop (mkF m 34 #[vI (1 : Int32), vI c0, vI c1, vI c2] [(.ref a1)]))
  exact X14.retA hret rfl rfl rfl (D d0_34) (by decide) (by decide) (fun vmE CE => ⟨a1, t14, kb14, rfl, (((((Keep.refl h0 []).ext E1).ext E3).trans K5 (allS (Or.inr (leA (by omega))) all0)).trans K14 (allS (Or.inr (leA (by omega))) all0)), g14_5⟩)
abbrev RrmStr1U : Room := { frames := 6, cells := 4, slots := 8, locals := 88 }
def QrmStr1U (Z : State) (n : Int32) (c0 : Int32) (c1 : Int32) (c2 : Int32) (h0 : Heap) (v : Option Value) (vm : Vm) (h : Heap) : Prop := ∃ (a : Addr) (b : Addr) (kb : ClassId), v = some (.ref a) ∧ Keep h0 h [] ∧ StrU Z h a b kb [c0]
theorem rmStr1U (hcx : Cx Z a0 zc fm) (n : Int32) (c0 : Int32) (c1 : Int32) (c2 : Int32) (h0 : Heap) (O0 : Old Z Z.heap.size h0) (Pr0 : n = (1 : Int32)) (Pr1 : ¬ c0 < 0 ∧ ¬ (65535 : Int32) < c0) (Pr2 : (255 : Int32) < c0) : Met l Z consts_1 (⟨"com/example/carve/carve/http/HtmlClosePinLaw", "str", "(ICCC)Ljava/lang/String;"⟩ : MethodName) method_2_code 4 (some (.object "java/lang/String")) [] RrmStr1U [] #[(.int n), (.int c0), (.int c1), (.int c2)] h0 (QrmStr1U Z n c0 c1 c2 h0) := by
  have ⟨hw, hEL, O2, P5, O4, P6, OA, OH, OB⟩ := hcx
  refine Met.start (a0 := a0) (Ls := #[vI n, vI c0, vI c1, vI c2]) pn0 hEL O0 (fun m => by first | (simp [entryFrame, mkF, argsToLocals, Value.category]; done) | rfl) ?_
  intro p e s m below meth cc T0 vm0 X0 sf0_ hby hml hret hnm
  have hx := X0.hx
  have D : ∀ {n r}, decode B0 n = r → decode cc.code n = r := fun d => hb hby d
  have zz := X0.ge
  have A0 := X0.at
  subst Pr0
  refine Gets.via (fun _ k => (XS.iloadN A0 hx rfl (D d0_0) rfl (XS.ifYes A0 hx rfl (pc0 := 1) (pc' := 15) rfl (D d0_1) rfl (Jvm.Free.XT.i0_ne_t (by decide)) (by decide) (by decide) k))) ?_
  refine Gets.via (fun _ k => (XS.iloadN A0 hx rfl (D d0_15) rfl (XS.iconst A0 hx rfl (D d0_16) (XS.icmpNo A0 hx rfl (D d0_17) rfl (Jvm.Free.XT.ii_ne_f (by decide)) k)))) ?_
  refine X0.new (w4 hw) (w5 hw) (w6 hw) rfl (D d0_20) (by decide) (by decide) fun T1 h1 a1 X1 C1 E1 g1 Z1 S1 D1 => ?_
  have z1 := E1.1
  have l1 := ltA Z1.lt
  have A2 := X1.at
  refine Gets.via (fun _ k => (XS.dup A2 hx rfl (D d0_23) rfl rfl (XS.iconst A2 hx rfl (D d0_24) k))) ?_
  show Gets p e below _ (T1.setTop (mkF m 25 #[vI (1 : Int32), vI c0, vI c1, vI c2] [(.int (1 : Int32)), (.ref a1), (.ref a1)]))
  refine X1.newA (aty := .char) (w7 hw) rfl (D d0_25) rfl (by decide) (cap := 1) (by decide) (by decide) (by decide) (by decide) fun T3 h3 a3 k3 X3 C3 E3 g3 S3 V3 => ?_
  have z3 := E3.1
  have l3 := ltA V3.lt
  have V3_ : Arv Z h3 a3 k3 .char (1 : Int32) [(.int (0 : Int32))] (.int (0 : Int32)) := padN V3 1
  have A4 := X3.at
  refine Gets.via (fun _ k => (XS.dup A4 hx rfl (D d0_27) rfl rfl (XS.iconst A4 hx rfl (D d0_28) (XS.iloadN A4 hx rfl (D d0_29) rfl k)))) ?_
  refine X3.stC V3_ (i := 0) (by decide) (by decide) (Nat.le_of_ble_eq_true rfl) (by decide) (v := c0) (i2c_in Pr1.1 Pr1.2) (leA (by omega)) rfl rfl (D d0_30) fun T5 h5 X5 C5 K5 V5 => ?_
  have z5 := K5.1
  have V5_ : Arv Z h5 a3 k3 .char (1 : Int32) [(.int c0)] (.int (0 : Int32)) := V5
  have f6 := Z1.ext E3
  have f7 := f6.keep K5
  have f8 := (D1 (Or.inr (w31 hw)) (ty := .byte) (by decide) : Fld Z h1 a1 "java/lang/String" "coder" "B" (.int (0 : Int32))).ext E3
  have f9 := f8.keep K5 (ninS (neA (by omega)) nin0)
  have f10 := (D1 (Or.inr (w33 hw)) (ty := (.array .byte)) (by decide) : Fld Z h1 a1 "java/lang/String" "value" "[B" .null).ext E3
  have f11 := f10.keep K5 (ninS (neA (by omega)) nin0)
  have f12 := C3.safe (x := a1) (ltA (by omega)) S1
  have f13 := C5.safe (x := a1) (ltA (by omega)) f12
  refine X5.callI (y := (⟨"java/lang/String", "<init>", "([C)V"⟩ : MethodName)) (W := 1) rfl (w8 hw) (w9 hw) (w10 hw) (by decide) (X5.payM (sf := [a1]) (rmU1_1 hcx a1 a3 k3 c0 h5 X5.old f7 f9 f11 (leA (by omega)) V5_ Pr2 Pr1) (sfS f13 sf0) (w10 hw) (w6 hw)) rfl (sz hml rfl) (a := a1) (argsL := [(.ref a3)]) (rest := [(.ref a1)]) (lenOf pd32 rfl) rfl rfl (mroom rfl rfl) (D d0_31) (by decide) (by decide) fun T14 h14 vm14 v14 X14 C14 z14 q14 => ?_
  obtain ⟨t14, kt14, rfl, K14, g14_0⟩ := q14
  have l15 := ltA g14_0.lt
  have l16 := ltA g14_0.lb
  show Gets p e below _ (T14.setTop (mkF m 34 #[vI (1 : Int32), vI c0, vI c1, vI c2] [(.ref a1)]))
  exact X14.retA hret rfl rfl rfl (D d0_34) (by decide) (by decide) (fun vmE CE => ⟨a1, t14, kt14, rfl, (((((Keep.refl h0 []).ext E1).ext E3).trans K5 (allS (Or.inr (leA (by omega))) all0)).trans K14 (allS (Or.inr (leA (by omega))) all0)), g14_0⟩)
abbrev RrmStr2L : Room := { frames := 4, cells := 3, slots := 8, locals := 66 }
def QrmStr2L (Z : State) (n : Int32) (c0 : Int32) (c1 : Int32) (c2 : Int32) (h0 : Heap) (v : Option Value) (vm : Vm) (h : Heap) : Prop := ∃ (a : Addr) (b : Addr) (kb : ClassId), v = some (.ref a) ∧ Keep h0 h [] ∧ Str Z h a b kb [c0, c1]
theorem rmStr2L (hcx : Cx Z a0 zc fm) (n : Int32) (c0 : Int32) (c1 : Int32) (c2 : Int32) (h0 : Heap) (O0 : Old Z Z.heap.size h0) (Pr0 : n = (2 : Int32)) (Pr1 : ¬ c0 < 0 ∧ ¬ (255 : Int32) < c0) (Pr2 : ¬ c1 < 0 ∧ ¬ (255 : Int32) < c1) : Met l Z consts_1 (⟨"com/example/carve/carve/http/HtmlClosePinLaw", "str", "(ICCC)Ljava/lang/String;"⟩ : MethodName) method_2_code 4 (some (.object "java/lang/String")) [] RrmStr2L [] #[(.int n), (.int c0), (.int c1), (.int c2)] h0 (QrmStr2L Z n c0 c1 c2 h0) := by
  have ⟨hw, hEL, O2, P5, O4, P6, OA, OH, OB⟩ := hcx
  refine Met.start (a0 := a0) (Ls := #[vI n, vI c0, vI c1, vI c2]) pn0 hEL O0 (fun m => by first | (simp [entryFrame, mkF, argsToLocals, Value.category]; done) | rfl) ?_
  intro p e s m below meth cc T0 vm0 X0 sf0_ hby hml hret hnm
  have hx := X0.hx
  have D : ∀ {n r}, decode B0 n = r → decode cc.code n = r := fun d => hb hby d
  have zz := X0.ge
  have A0 := X0.at
  subst Pr0
  refine Gets.via (fun _ k => (XS.iloadN A0 hx rfl (D d0_0) rfl (XS.ifYes A0 hx rfl (pc0 := 1) (pc' := 15) rfl (D d0_1) rfl (Jvm.Free.XT.i0_ne_t (by decide)) (by decide) (by decide) k))) ?_
  refine Gets.via (fun _ k => (XS.iloadN A0 hx rfl (D d0_15) rfl (XS.iconst A0 hx rfl (D d0_16) (XS.icmpYes A0 hx rfl (pc0 := 17) (pc' := 35) rfl (D d0_17) rfl (Jvm.Free.XT.ii_ne_t (by decide)) (by decide) (by decide) k)))) ?_
  refine Gets.via (fun _ k => (XS.iloadN A0 hx rfl (D d0_35) rfl (XS.iconst A0 hx rfl (D d0_36) (XS.icmpNo A0 hx rfl (D d0_37) rfl (Jvm.Free.XT.ii_ne_f (by decide)) k)))) ?_
  refine X0.new (w4 hw) (w5 hw) (w6 hw) rfl (D d0_40) (by decide) (by decide) fun T1 h1 a1 X1 C1 E1 g1 Z1 S1 D1 => ?_
  have z1 := E1.1
  have l1 := ltA Z1.lt
  show Gets p e below _ (T1.setTop (mkF m 43 #[vI (2 : Int32), vI c0, vI c1, vI c2] [(.ref a1)]))
  have A2 := X1.at
  refine Gets.via (fun _ k => (XS.dup A2 hx rfl (D d0_43) rfl rfl (XS.iconst A2 hx rfl (D d0_44) k))) ?_
  refine X1.newA (aty := .char) (w7 hw) rfl (D d0_45) rfl (by decide) (cap := 2) (by decide) (by decide) (by decide) (by decide) fun T3 h3 a3 k3 X3 C3 E3 g3 S3 V3 => ?_
  have z3 := E3.1
  have l3 := ltA V3.lt
  have V3_ : Arv Z h3 a3 k3 .char (2 : Int32) [(.int (0 : Int32)), (.int (0 : Int32))] (.int (0 : Int32)) := padN V3 2
  have A4 := X3.at
  refine Gets.via (fun _ k => (XS.dup A4 hx rfl (D d0_47) rfl rfl (XS.iconst A4 hx rfl (D d0_48) (XS.iloadN A4 hx rfl (D d0_49) rfl k)))) ?_
  refine X3.stC V3_ (i := 0) (by decide) (by decide) (Nat.le_of_ble_eq_true rfl) (by decide) (v := c0) (i2c_small Pr1) (leA (by omega)) rfl rfl (D d0_50) fun T5 h5 X5 C5 K5 V5 => ?_
  have z5 := K5.1
  have V5_ : Arv Z h5 a3 k3 .char (2 : Int32) [(.int c0), (.int (0 : Int32))] (.int (0 : Int32)) := V5
  have A6 := X5.at
  refine Gets.via (fun _ k => (XS.dup A6 hx rfl (D d0_51) rfl rfl (XS.iconst A6 hx rfl (D d0_52) (XS.iloadN A6 hx rfl (D d0_53) rfl k)))) ?_
  show Gets p e below _ (T5.setTop (mkF m 54 #[vI (2 : Int32), vI c0, vI c1, vI c2] [(.int c1), (.int (1 : Int32)), (.ref a3), (.ref a3), (.ref a1), (.ref a1)]))
  refine X5.stC V5_ (i := 1) (by decide) (by decide) (Nat.le_of_ble_eq_true rfl) (by decide) (v := c1) (i2c_small Pr2) (leA (by omega)) rfl rfl (D d0_54) fun T7 h7 X7 C7 K7 V7 => ?_
  have z7 := K7.1
  have V7_ : Arv Z h7 a3 k3 .char (2 : Int32) [(.int c0), (.int c1)] (.int (0 : Int32)) := V7
  have f8 := Z1.ext E3
  have f9 := f8.keep K5
  have f10 := f9.keep K7
  have f11 := (D1 (Or.inr (w33 hw)) (ty := (.array .byte)) (by decide) : Fld Z h1 a1 "java/lang/String" "value" "[B" .null).ext E3
  have f12 := f11.keep K5 (ninS (neA (by omega)) nin0)
  have f13 := f12.keep K7 (ninS (neA (by omega)) nin0)
  have f14 := (D1 (Or.inr (w31 hw)) (ty := .byte) (by decide) : Fld Z h1 a1 "java/lang/String" "coder" "B" (.int (0 : Int32))).ext E3
  have f15 := f14.keep K5 (ninS (neA (by omega)) nin0)
  have f16 := f15.keep K7 (ninS (neA (by omega)) nin0)
  have f17 := C3.safe (x := a1) (ltA (by omega)) S1
  have f18 := C5.safe (x := a1) (ltA (by omega)) f17
  have f19 := C7.safe (x := a1) (ltA (by omega)) f18
  refine X7.callI (y := (⟨"java/lang/String", "<init>", "([C)V"⟩ : MethodName)) (W := 1) rfl (w8 hw) (w9 hw) (w10 hw) (by decide) (payStr X7 hw (w5 hw) [c0, c1] 2 (leA (by omega)) f10 f13 f16 V7_ O2 P5 rfl rfl (by decide) (by decide) (allI Pr1 (allI Pr2 allN)) (by decide) (by decide) f19) rfl (sz hml rfl) (a := a1) (argsL := [(.ref a3)]) (rest := [(.ref a1)]) (lenOf pd32 rfl) rfl rfl (mroom rfl rfl) (D d0_55) (by decide) (by decide) fun T20 h20 vm20 v20 X20 C20 z20 q20 => ?_
  obtain ⟨t20, kb20, rfl, K20, g20_0, g20_1, g20_2, g20_3, g20_4⟩ := q20
  have g20_5 : Str Z h20 a1 t20 kb20 [c0, c1] := ⟨g20_0, g20_1, g20_2, g20_3, (allI Pr1 (allI Pr2 allN)), Nat.le_of_ble_eq_true rfl⟩
  have l21 := ltA g20_5.lt
  have l22 := ltA g20_5.lb
  exact X20.retA hret rfl rfl rfl (D d0_58) (by decide) (by decide) (fun vmE CE => ⟨a1, t20, kb20, rfl, ((((((Keep.refl h0 []).ext E1).ext E3).trans K5 (allS (Or.inr (leA (by omega))) all0)).trans K7 (allS (Or.inr (leA (by omega))) all0)).trans K20 (allS (Or.inr (leA (by omega))) all0)), g20_5⟩)
abbrev RrmStr2U : Room := { frames := 6, cells := 4, slots := 12, locals := 88 }
def QrmStr2U (Z : State) (n : Int32) (c0 : Int32) (c1 : Int32) (c2 : Int32) (h0 : Heap) (v : Option Value) (vm : Vm) (h : Heap) : Prop := ∃ (a : Addr) (b : Addr) (kb : ClassId), v = some (.ref a) ∧ Keep h0 h [] ∧ StrU Z h a b kb [c0, c1]
theorem rmStr2U (hcx : Cx Z a0 zc fm) (n : Int32) (c0 : Int32) (c1 : Int32) (c2 : Int32) (h0 : Heap) (O0 : Old Z Z.heap.size h0) (Pr0 : n = (2 : Int32)) (Pr1 : ¬ c0 < 0 ∧ ¬ (65535 : Int32) < c0) (Pr2 : ¬ c1 < 0 ∧ ¬ (65535 : Int32) < c1) (Pr3 : (255 : Int32) < c0 ∨ (255 : Int32) < c1) : Met l Z consts_1 (⟨"com/example/carve/carve/http/HtmlClosePinLaw", "str", "(ICCC)Ljava/lang/String;"⟩ : MethodName) method_2_code 4 (some (.object "java/lang/String")) [] RrmStr2U [] #[(.int n), (.int c0), (.int c1), (.int c2)] h0 (QrmStr2U Z n c0 c1 c2 h0) := by
  have ⟨hw, hEL, O2, P5, O4, P6, OA, OH, OB⟩ := hcx
  refine Met.start (a0 := a0) (Ls := #[vI n, vI c0, vI c1, vI c2]) pn0 hEL O0 (fun m => by first | (simp [entryFrame, mkF, argsToLocals, Value.category]; done) | rfl) ?_
  intro p e s m below meth cc T0 vm0 X0 sf0_ hby hml hret hnm
  have hx := X0.hx
  have D : ∀ {n r}, decode B0 n = r → decode cc.code n = r := fun d => hb hby d
  have zz := X0.ge
  have A0 := X0.at
  subst Pr0
  refine Gets.via (fun _ k => (XS.iloadN A0 hx rfl (D d0_0) rfl (XS.ifYes A0 hx rfl (pc0 := 1) (pc' := 15) rfl (D d0_1) rfl (Jvm.Free.XT.i0_ne_t (by decide)) (by decide) (by decide) k))) ?_
  refine Gets.via (fun _ k => (XS.iloadN A0 hx rfl (D d0_15) rfl (XS.iconst A0 hx rfl (D d0_16) (XS.icmpYes A0 hx rfl (pc0 := 17) (pc' := 35) rfl (D d0_17) rfl (Jvm.Free.XT.ii_ne_t (by decide)) (by decide) (by decide) k)))) ?_
  refine Gets.via (fun _ k => (XS.iloadN A0 hx rfl (D d0_35) rfl (XS.iconst A0 hx rfl (D d0_36) (XS.icmpNo A0 hx rfl (D d0_37) rfl (Jvm.Free.XT.ii_ne_f (by decide)) k)))) ?_
  refine X0.new (w4 hw) (w5 hw) (w6 hw) rfl (D d0_40) (by decide) (by decide) fun T1 h1 a1 X1 C1 E1 g1 Z1 S1 D1 => ?_
  have z1 := E1.1
  have l1 := ltA Z1.lt
  show Gets p e below _ (T1.setTop (mkF m 43 #[vI (2 : Int32), vI c0, vI c1, vI c2] [(.ref a1)]))
  have A2 := X1.at
  refine Gets.via (fun _ k => (XS.dup A2 hx rfl (D d0_43) rfl rfl (XS.iconst A2 hx rfl (D d0_44) k))) ?_
  refine X1.newA (aty := .char) (w7 hw) rfl (D d0_45) rfl (by decide) (cap := 2) (by decide) (by decide) (by decide) (by decide) fun T3 h3 a3 k3 X3 C3 E3 g3 S3 V3 => ?_
  have z3 := E3.1
  have l3 := ltA V3.lt
  have V3_ : Arv Z h3 a3 k3 .char (2 : Int32) [(.int (0 : Int32)), (.int (0 : Int32))] (.int (0 : Int32)) := padN V3 2
  have A4 := X3.at
  refine Gets.via (fun _ k => (XS.dup A4 hx rfl (D d0_47) rfl rfl (XS.iconst A4 hx rfl (D d0_48) (XS.iloadN A4 hx rfl (D d0_49) rfl k)))) ?_
  refine X3.stC V3_ (i := 0) (by decide) (by decide) (Nat.le_of_ble_eq_true rfl) (by decide) (v := c0) (i2c_in Pr1.1 Pr1.2) (leA (by omega)) rfl rfl (D d0_50) fun T5 h5 X5 C5 K5 V5 => ?_
  have z5 := K5.1
  have V5_ : Arv Z h5 a3 k3 .char (2 : Int32) [(.int c0), (.int (0 : Int32))] (.int (0 : Int32)) := V5
  have A6 := X5.at
  refine Gets.via (fun _ k => (XS.dup A6 hx rfl (D d0_51) rfl rfl (XS.iconst A6 hx rfl (D d0_52) (XS.iloadN A6 hx rfl (D d0_53) rfl k)))) ?_
  show Gets p e below _ (T5.setTop (mkF m 54 #[vI (2 : Int32), vI c0, vI c1, vI c2] [(.int c1), (.int (1 : Int32)), (.ref a3), (.ref a3), (.ref a1), (.ref a1)]))
  refine X5.stC V5_ (i := 1) (by decide) (by decide) (Nat.le_of_ble_eq_true rfl) (by decide) (v := c1) (i2c_in Pr2.1 Pr2.2) (leA (by omega)) rfl rfl (D d0_54) fun T7 h7 X7 C7 K7 V7 => ?_
  have z7 := K7.1
  have V7_ : Arv Z h7 a3 k3 .char (2 : Int32) [(.int c0), (.int c1)] (.int (0 : Int32)) := V7
  have f8 := Z1.ext E3
  have f9 := f8.keep K5
  have f10 := f9.keep K7
  have f11 := (D1 (Or.inr (w31 hw)) (ty := .byte) (by decide) : Fld Z h1 a1 "java/lang/String" "coder" "B" (.int (0 : Int32))).ext E3
  have f12 := f11.keep K5 (ninS (neA (by omega)) nin0)
  have f13 := f12.keep K7 (ninS (neA (by omega)) nin0)
  have f14 := (D1 (Or.inr (w33 hw)) (ty := (.array .byte)) (by decide) : Fld Z h1 a1 "java/lang/String" "value" "[B" .null).ext E3
  have f15 := f14.keep K5 (ninS (neA (by omega)) nin0)
  have f16 := f15.keep K7 (ninS (neA (by omega)) nin0)
  have f17 := C3.safe (x := a1) (ltA (by omega)) S1
  have f18 := C5.safe (x := a1) (ltA (by omega)) f17
  have f19 := C7.safe (x := a1) (ltA (by omega)) f18
  refine X7.callI (y := (⟨"java/lang/String", "<init>", "([C)V"⟩ : MethodName)) (W := 1) rfl (w8 hw) (w9 hw) (w10 hw) (by decide) (X7.payM (sf := [a1]) (rmU1_2 hcx a1 a3 k3 c0 c1 h7 X7.old f10 f13 f16 (leA (by omega)) V7_ Pr3 Pr1 Pr2) (sfS f19 sf0) (w10 hw) (w6 hw)) rfl (sz hml rfl) (a := a1) (argsL := [(.ref a3)]) (rest := [(.ref a1)]) (lenOf pd32 rfl) rfl rfl (mroom rfl rfl) (D d0_55) (by decide) (by decide) fun T20 h20 vm20 v20 X20 C20 z20 q20 => ?_
  obtain ⟨t20, kt20, rfl, K20, g20_0⟩ := q20
  have l21 := ltA g20_0.lt
  have l22 := ltA g20_0.lb
  exact X20.retA hret rfl rfl rfl (D d0_58) (by decide) (by decide) (fun vmE CE => ⟨a1, t20, kt20, rfl, ((((((Keep.refl h0 []).ext E1).ext E3).trans K5 (allS (Or.inr (leA (by omega))) all0)).trans K7 (allS (Or.inr (leA (by omega))) all0)).trans K20 (allS (Or.inr (leA (by omega))) all0)), g20_0⟩)
abbrev RrmStr3L : Room := { frames := 4, cells := 3, slots := 10, locals := 66 }
def QrmStr3L (Z : State) (n : Int32) (c0 : Int32) (c1 : Int32) (c2 : Int32) (h0 : Heap) (v : Option Value) (vm : Vm) (h : Heap) : Prop := ∃ (a : Addr) (b : Addr) (kb : ClassId), v = some (.ref a) ∧ Keep h0 h [] ∧ Str Z h a b kb [c0, c1, c2]
theorem rmStr3L (hcx : Cx Z a0 zc fm) (n : Int32) (c0 : Int32) (c1 : Int32) (c2 : Int32) (h0 : Heap) (O0 : Old Z Z.heap.size h0) (Pr0 : n = (3 : Int32)) (Pr1 : ¬ c0 < 0 ∧ ¬ (255 : Int32) < c0) (Pr2 : ¬ c1 < 0 ∧ ¬ (255 : Int32) < c1) (Pr3 : ¬ c2 < 0 ∧ ¬ (255 : Int32) < c2) : Met l Z consts_1 (⟨"com/example/carve/carve/http/HtmlClosePinLaw", "str", "(ICCC)Ljava/lang/String;"⟩ : MethodName) method_2_code 4 (some (.object "java/lang/String")) [] RrmStr3L [] #[(.int n), (.int c0), (.int c1), (.int c2)] h0 (QrmStr3L Z n c0 c1 c2 h0) := by
  have ⟨hw, hEL, O2, P5, O4, P6, OA, OH, OB⟩ := hcx
  refine Met.start (a0 := a0) (Ls := #[vI n, vI c0, vI c1, vI c2]) pn0 hEL O0 (fun m => by first | (simp [entryFrame, mkF, argsToLocals, Value.category]; done) | rfl) ?_
  intro p e s m below meth cc T0 vm0 X0 sf0_ hby hml hret hnm
  have hx := X0.hx
  have D : ∀ {n r}, decode B0 n = r → decode cc.code n = r := fun d => hb hby d
  have zz := X0.ge
  have A0 := X0.at
  subst Pr0
  refine Gets.via (fun _ k => (XS.iloadN A0 hx rfl (D d0_0) rfl (XS.ifYes A0 hx rfl (pc0 := 1) (pc' := 15) rfl (D d0_1) rfl (Jvm.Free.XT.i0_ne_t (by decide)) (by decide) (by decide) k))) ?_
  refine Gets.via (fun _ k => (XS.iloadN A0 hx rfl (D d0_15) rfl (XS.iconst A0 hx rfl (D d0_16) (XS.icmpYes A0 hx rfl (pc0 := 17) (pc' := 35) rfl (D d0_17) rfl (Jvm.Free.XT.ii_ne_t (by decide)) (by decide) (by decide) k)))) ?_
  refine Gets.via (fun _ k => (XS.iloadN A0 hx rfl (D d0_35) rfl (XS.iconst A0 hx rfl (D d0_36) (XS.icmpYes A0 hx rfl (pc0 := 37) (pc' := 59) rfl (D d0_37) rfl (Jvm.Free.XT.ii_ne_t (by decide)) (by decide) (by decide) k)))) ?_
  refine X0.new (w4 hw) (w5 hw) (w6 hw) rfl (D d0_59) (by decide) (by decide) fun T1 h1 a1 X1 C1 E1 g1 Z1 S1 D1 => ?_
  have z1 := E1.1
  have l1 := ltA Z1.lt
  show Gets p e below _ (T1.setTop (mkF m 62 #[vI (3 : Int32), vI c0, vI c1, vI c2] [(.ref a1)]))
  have A2 := X1.at
  refine Gets.via (fun _ k => (XS.dup A2 hx rfl (D d0_62) rfl rfl (XS.iconst A2 hx rfl (D d0_63) k))) ?_
  refine X1.newA (aty := .char) (w7 hw) rfl (D d0_64) rfl (by decide) (cap := 3) (by decide) (by decide) (by decide) (by decide) fun T3 h3 a3 k3 X3 C3 E3 g3 S3 V3 => ?_
  have z3 := E3.1
  have l3 := ltA V3.lt
  have V3_ : Arv Z h3 a3 k3 .char (3 : Int32) [(.int (0 : Int32)), (.int (0 : Int32)), (.int (0 : Int32))] (.int (0 : Int32)) := padN V3 3
  have A4 := X3.at
  refine Gets.via (fun _ k => (XS.dup A4 hx rfl (D d0_66) rfl rfl (XS.iconst A4 hx rfl (D d0_67) (XS.iloadN A4 hx rfl (D d0_68) rfl k)))) ?_
  refine X3.stC V3_ (i := 0) (by decide) (by decide) (Nat.le_of_ble_eq_true rfl) (by decide) (v := c0) (i2c_small Pr1) (leA (by omega)) rfl rfl (D d0_69) fun T5 h5 X5 C5 K5 V5 => ?_
  have z5 := K5.1
  have V5_ : Arv Z h5 a3 k3 .char (3 : Int32) [(.int c0), (.int (0 : Int32)), (.int (0 : Int32))] (.int (0 : Int32)) := V5
  have A6 := X5.at
  refine Gets.via (fun _ k => (XS.dup A6 hx rfl (D d0_70) rfl rfl (XS.iconst A6 hx rfl (D d0_71) (XS.iloadN A6 hx rfl (D d0_72) rfl k)))) ?_
  show Gets p e below _ (T5.setTop (mkF m 73 #[vI (3 : Int32), vI c0, vI c1, vI c2] [(.int c1), (.int (1 : Int32)), (.ref a3), (.ref a3), (.ref a1), (.ref a1)]))
  refine X5.stC V5_ (i := 1) (by decide) (by decide) (Nat.le_of_ble_eq_true rfl) (by decide) (v := c1) (i2c_small Pr2) (leA (by omega)) rfl rfl (D d0_73) fun T7 h7 X7 C7 K7 V7 => ?_
  have z7 := K7.1
  have V7_ : Arv Z h7 a3 k3 .char (3 : Int32) [(.int c0), (.int c1), (.int (0 : Int32))] (.int (0 : Int32)) := V7
  have A8 := X7.at
  refine Gets.via (fun _ k => (XS.dup A8 hx rfl (D d0_74) rfl rfl (XS.iconst A8 hx rfl (D d0_75) (XS.iloadN A8 hx rfl (D d0_76) rfl k)))) ?_
  refine X7.stC V7_ (i := 2) (by decide) (by decide) (Nat.le_of_ble_eq_true rfl) (by decide) (v := c2) (i2c_small Pr3) (leA (by omega)) rfl rfl (D d0_77) fun T9 h9 X9 C9 K9 V9 => ?_
  have z9 := K9.1
  have V9_ : Arv Z h9 a3 k3 .char (3 : Int32) [(.int c0), (.int c1), (.int c2)] (.int (0 : Int32)) := V9
  have f10 := Z1.ext E3
  have f11 := f10.keep K5
  have f12 := f11.keep K7
  have f13 := f12.keep K9
  have f14 := (D1 (Or.inr (w33 hw)) (ty := (.array .byte)) (by decide) : Fld Z h1 a1 "java/lang/String" "value" "[B" .null).ext E3
  have f15 := f14.keep K5 (ninS (neA (by omega)) nin0)
  have f16 := f15.keep K7 (ninS (neA (by omega)) nin0)
  have f17 := f16.keep K9 (ninS (neA (by omega)) nin0)
  have f18 := (D1 (Or.inr (w31 hw)) (ty := .byte) (by decide) : Fld Z h1 a1 "java/lang/String" "coder" "B" (.int (0 : Int32))).ext E3
  have f19 := f18.keep K5 (ninS (neA (by omega)) nin0)
  have f20 := f19.keep K7 (ninS (neA (by omega)) nin0)
  have f21 := f20.keep K9 (ninS (neA (by omega)) nin0)
  have f22 := C3.safe (x := a1) (ltA (by omega)) S1
  have f23 := C5.safe (x := a1) (ltA (by omega)) f22
  have f24 := C7.safe (x := a1) (ltA (by omega)) f23
  have f25 := C9.safe (x := a1) (ltA (by omega)) f24
  refine X9.callI (y := (⟨"java/lang/String", "<init>", "([C)V"⟩ : MethodName)) (W := 1) rfl (w8 hw) (w9 hw) (w10 hw) (by decide) (payStr X9 hw (w5 hw) [c0, c1, c2] 3 (leA (by omega)) f13 f17 f21 V9_ O2 P5 rfl rfl (by decide) (by decide) (allI Pr1 (allI Pr2 (allI Pr3 allN))) (by decide) (by decide) f25) rfl (sz hml rfl) (a := a1) (argsL := [(.ref a3)]) (rest := [(.ref a1)]) (lenOf pd32 rfl) rfl rfl (mroom rfl rfl) (D d0_78) (by decide) (by decide) fun T26 h26 vm26 v26 X26 C26 z26 q26 => ?_
  obtain ⟨t26, kb26, rfl, K26, g26_0, g26_1, g26_2, g26_3, g26_4⟩ := q26
  have g26_5 : Str Z h26 a1 t26 kb26 [c0, c1, c2] := ⟨g26_0, g26_1, g26_2, g26_3, (allI Pr1 (allI Pr2 (allI Pr3 allN))), Nat.le_of_ble_eq_true rfl⟩
  have l27 := ltA g26_5.lt
  have l28 := ltA g26_5.lb
  show Gets p e below _ (T26.setTop (mkF m 81 #[vI (3 : Int32), vI c0, vI c1, vI c2] [(.ref a1)]))
  exact X26.retA hret rfl rfl rfl (D d0_81) (by decide) (by decide) (fun vmE CE => ⟨a1, t26, kb26, rfl, (((((((Keep.refl h0 []).ext E1).ext E3).trans K5 (allS (Or.inr (leA (by omega))) all0)).trans K7 (allS (Or.inr (leA (by omega))) all0)).trans K9 (allS (Or.inr (leA (by omega))) all0)).trans K26 (allS (Or.inr (leA (by omega))) all0)), g26_5⟩)
abbrev RrmStr3U : Room := { frames := 6, cells := 4, slots := 16, locals := 88 }
def QrmStr3U (Z : State) (n : Int32) (c0 : Int32) (c1 : Int32) (c2 : Int32) (h0 : Heap) (v : Option Value) (vm : Vm) (h : Heap) : Prop := ∃ (a : Addr) (b : Addr) (kb : ClassId), v = some (.ref a) ∧ Keep h0 h [] ∧ StrU Z h a b kb [c0, c1, c2]
theorem rmStr3U (hcx : Cx Z a0 zc fm) (n : Int32) (c0 : Int32) (c1 : Int32) (c2 : Int32) (h0 : Heap) (O0 : Old Z Z.heap.size h0) (Pr0 : n = (3 : Int32)) (Pr1 : ¬ c0 < 0 ∧ ¬ (65535 : Int32) < c0) (Pr2 : ¬ c1 < 0 ∧ ¬ (65535 : Int32) < c1) (Pr3 : ¬ c2 < 0 ∧ ¬ (65535 : Int32) < c2) (Pr4 : (255 : Int32) < c0 ∨ (255 : Int32) < c1 ∨ (255 : Int32) < c2) : Met l Z consts_1 (⟨"com/example/carve/carve/http/HtmlClosePinLaw", "str", "(ICCC)Ljava/lang/String;"⟩ : MethodName) method_2_code 4 (some (.object "java/lang/String")) [] RrmStr3U [] #[(.int n), (.int c0), (.int c1), (.int c2)] h0 (QrmStr3U Z n c0 c1 c2 h0) := by
  have ⟨hw, hEL, O2, P5, O4, P6, OA, OH, OB⟩ := hcx
  refine Met.start (a0 := a0) (Ls := #[vI n, vI c0, vI c1, vI c2]) pn0 hEL O0 (fun m => by first | (simp [entryFrame, mkF, argsToLocals, Value.category]; done) | rfl) ?_
  intro p e s m below meth cc T0 vm0 X0 sf0_ hby hml hret hnm
  have hx := X0.hx
  have D : ∀ {n r}, decode B0 n = r → decode cc.code n = r := fun d => hb hby d
  have zz := X0.ge
  have A0 := X0.at
  subst Pr0
  refine Gets.via (fun _ k => (XS.iloadN A0 hx rfl (D d0_0) rfl (XS.ifYes A0 hx rfl (pc0 := 1) (pc' := 15) rfl (D d0_1) rfl (Jvm.Free.XT.i0_ne_t (by decide)) (by decide) (by decide) k))) ?_
  refine Gets.via (fun _ k => (XS.iloadN A0 hx rfl (D d0_15) rfl (XS.iconst A0 hx rfl (D d0_16) (XS.icmpYes A0 hx rfl (pc0 := 17) (pc' := 35) rfl (D d0_17) rfl (Jvm.Free.XT.ii_ne_t (by decide)) (by decide) (by decide) k)))) ?_
  refine Gets.via (fun _ k => (XS.iloadN A0 hx rfl (D d0_35) rfl (XS.iconst A0 hx rfl (D d0_36) (XS.icmpYes A0 hx rfl (pc0 := 37) (pc' := 59) rfl (D d0_37) rfl (Jvm.Free.XT.ii_ne_t (by decide)) (by decide) (by decide) k)))) ?_
  refine X0.new (w4 hw) (w5 hw) (w6 hw) rfl (D d0_59) (by decide) (by decide) fun T1 h1 a1 X1 C1 E1 g1 Z1 S1 D1 => ?_
  have z1 := E1.1
  have l1 := ltA Z1.lt
  show Gets p e below _ (T1.setTop (mkF m 62 #[vI (3 : Int32), vI c0, vI c1, vI c2] [(.ref a1)]))
  have A2 := X1.at
  refine Gets.via (fun _ k => (XS.dup A2 hx rfl (D d0_62) rfl rfl (XS.iconst A2 hx rfl (D d0_63) k))) ?_
  refine X1.newA (aty := .char) (w7 hw) rfl (D d0_64) rfl (by decide) (cap := 3) (by decide) (by decide) (by decide) (by decide) fun T3 h3 a3 k3 X3 C3 E3 g3 S3 V3 => ?_
  have z3 := E3.1
  have l3 := ltA V3.lt
  have V3_ : Arv Z h3 a3 k3 .char (3 : Int32) [(.int (0 : Int32)), (.int (0 : Int32)), (.int (0 : Int32))] (.int (0 : Int32)) := padN V3 3
  have A4 := X3.at
  refine Gets.via (fun _ k => (XS.dup A4 hx rfl (D d0_66) rfl rfl (XS.iconst A4 hx rfl (D d0_67) (XS.iloadN A4 hx rfl (D d0_68) rfl k)))) ?_
  refine X3.stC V3_ (i := 0) (by decide) (by decide) (Nat.le_of_ble_eq_true rfl) (by decide) (v := c0) (i2c_in Pr1.1 Pr1.2) (leA (by omega)) rfl rfl (D d0_69) fun T5 h5 X5 C5 K5 V5 => ?_
  have z5 := K5.1
  have V5_ : Arv Z h5 a3 k3 .char (3 : Int32) [(.int c0), (.int (0 : Int32)), (.int (0 : Int32))] (.int (0 : Int32)) := V5
  have A6 := X5.at
  refine Gets.via (fun _ k => (XS.dup A6 hx rfl (D d0_70) rfl rfl (XS.iconst A6 hx rfl (D d0_71) (XS.iloadN A6 hx rfl (D d0_72) rfl k)))) ?_
  show Gets p e below _ (T5.setTop (mkF m 73 #[vI (3 : Int32), vI c0, vI c1, vI c2] [(.int c1), (.int (1 : Int32)), (.ref a3), (.ref a3), (.ref a1), (.ref a1)]))
  refine X5.stC V5_ (i := 1) (by decide) (by decide) (Nat.le_of_ble_eq_true rfl) (by decide) (v := c1) (i2c_in Pr2.1 Pr2.2) (leA (by omega)) rfl rfl (D d0_73) fun T7 h7 X7 C7 K7 V7 => ?_
  have z7 := K7.1
  have V7_ : Arv Z h7 a3 k3 .char (3 : Int32) [(.int c0), (.int c1), (.int (0 : Int32))] (.int (0 : Int32)) := V7
  have A8 := X7.at
  refine Gets.via (fun _ k => (XS.dup A8 hx rfl (D d0_74) rfl rfl (XS.iconst A8 hx rfl (D d0_75) (XS.iloadN A8 hx rfl (D d0_76) rfl k)))) ?_
  refine X7.stC V7_ (i := 2) (by decide) (by decide) (Nat.le_of_ble_eq_true rfl) (by decide) (v := c2) (i2c_in Pr3.1 Pr3.2) (leA (by omega)) rfl rfl (D d0_77) fun T9 h9 X9 C9 K9 V9 => ?_
  have z9 := K9.1
  have V9_ : Arv Z h9 a3 k3 .char (3 : Int32) [(.int c0), (.int c1), (.int c2)] (.int (0 : Int32)) := V9
  have f10 := Z1.ext E3
  have f11 := f10.keep K5
  have f12 := f11.keep K7
  have f13 := f12.keep K9
  have f14 := (D1 (Or.inr (w31 hw)) (ty := .byte) (by decide) : Fld Z h1 a1 "java/lang/String" "coder" "B" (.int (0 : Int32))).ext E3
  have f15 := f14.keep K5 (ninS (neA (by omega)) nin0)
  have f16 := f15.keep K7 (ninS (neA (by omega)) nin0)
  have f17 := f16.keep K9 (ninS (neA (by omega)) nin0)
  have f18 := (D1 (Or.inr (w33 hw)) (ty := (.array .byte)) (by decide) : Fld Z h1 a1 "java/lang/String" "value" "[B" .null).ext E3
  have f19 := f18.keep K5 (ninS (neA (by omega)) nin0)
  have f20 := f19.keep K7 (ninS (neA (by omega)) nin0)
  have f21 := f20.keep K9 (ninS (neA (by omega)) nin0)
  have f22 := C3.safe (x := a1) (ltA (by omega)) S1
  have f23 := C5.safe (x := a1) (ltA (by omega)) f22
  have f24 := C7.safe (x := a1) (ltA (by omega)) f23
  have f25 := C9.safe (x := a1) (ltA (by omega)) f24
  refine X9.callI (y := (⟨"java/lang/String", "<init>", "([C)V"⟩ : MethodName)) (W := 1) rfl (w8 hw) (w9 hw) (w10 hw) (by decide) (X9.payM (sf := [a1]) (rmU1_3 hcx a1 a3 k3 c0 c1 c2 h9 X9.old f13 f17 f21 (leA (by omega)) V9_ Pr4 Pr1 Pr2 Pr3) (sfS f25 sf0) (w10 hw) (w6 hw)) rfl (sz hml rfl) (a := a1) (argsL := [(.ref a3)]) (rest := [(.ref a1)]) (lenOf pd32 rfl) rfl rfl (mroom rfl rfl) (D d0_78) (by decide) (by decide) fun T26 h26 vm26 v26 X26 C26 z26 q26 => ?_
  obtain ⟨t26, kt26, rfl, K26, g26_0⟩ := q26
  have l27 := ltA g26_0.lt
  have l28 := ltA g26_0.lb
  show Gets p e below _ (T26.setTop (mkF m 81 #[vI (3 : Int32), vI c0, vI c1, vI c2] [(.ref a1)]))
  exact X26.retA hret rfl rfl rfl (D d0_81) (by decide) (by decide) (fun vmE CE => ⟨a1, t26, kt26, rfl, (((((((Keep.refl h0 []).ext E1).ext E3).trans K5 (allS (Or.inr (leA (by omega))) all0)).trans K7 (allS (Or.inr (leA (by omega))) all0)).trans K9 (allS (Or.inr (leA (by omega))) all0)).trans K26 (allS (Or.inr (leA (by omega))) all0)), g26_0⟩)
abbrev Rrm7 : Room := { frames := 3, cells := 2, slots := 20, locals := 39 }
def Qrm7 (Z : State) (y : Addr) (h0 : Heap) (v : Option Value) (vm : Vm) (h : Heap) : Prop := ∃ (x : Addr) (d : Addr) (kd : ClassId), v = none ∧ Keep h0 h [y] ∧ Exa Z h y "com/example/carve/carve/http/Html" ∧ Fld Z h y "com/example/carve/carve/http/Html" "out" "Ljava/lang/StringBuilder;" (.ref x) ∧ Exa Z h x "java/lang/StringBuilder" ∧ Fld Z h x "java/lang/AbstractStringBuilder" "value" "[B" (.ref d) ∧ Fld Z h x "java/lang/AbstractStringBuilder" "coder" "B" (.int (0 : Int32)) ∧ Fld Z h x "java/lang/AbstractStringBuilder" "count" "I" (.int (Int32.ofNat (([] : List Int32)).length)) ∧ Fld Z h x "java/lang/AbstractStringBuilder" "maybeLatin1" "Z" (.int (0 : Int32)) ∧ Arv Z h d kd .byte (16 : Int32) ((([] : List Int32).map fun c => c.toInt8.toInt32).map Value.int) (.int (0 : Int32)) ∧ Safe Z consts_1 vm h d ∧ h0.size ≤ x ∧ h0.size ≤ d ∧ x ≠ d
theorem rm7 (hcx : Cx Z a0 zc fm) (y : Addr) (h0 : Heap) (O0 : Old Z Z.heap.size h0) (Pr0 : Exa Z h0 y "com/example/carve/carve/http/Html") (Pr1 : Fld Z h0 y "com/example/carve/carve/http/Html" "out" "Ljava/lang/StringBuilder;" .null) (Pr2 : Z.heap.size ≤ y) : Met l Z consts_1 (⟨"com/example/carve/carve/http/Html", "<init>", "()V"⟩ : MethodName) prog_24_method_1_code 1 (none) [] Rrm7 [] #[(.ref y)] h0 (Qrm7 Z y h0) := by
  have ⟨hw, hEL, O2, P5, O4, P6, OA, OH, OB⟩ := hcx
  refine Met.start (a0 := a0) (Ls := #[vR y]) pn7 hEL O0 (fun m => by first | (simp [entryFrame, mkF, argsToLocals, Value.category]; done) | rfl) ?_
  intro p e s m below meth cc T0 vm0 X0 sf0_ hby hml hret hnm
  have hx := X0.hx
  have D : ∀ {n r}, decode B7 n = r → decode cc.code n = r := fun d => hb hby d
  have zz := X0.ge
  have A0 := X0.at
  have l1 := ltA Pr0.lt
  refine Gets.via (fun _ k => (XS.aloadN A0 hx rfl (D d7_0) rfl rfl k)) ?_
  refine X0.objInit (w43 hw) (w16 hw) (w17 hw) rfl (sz hml rfl) rfl (D d7_1) (by decide) (W := 0) (mroom rfl rfl) (by decide) fun T2 X2 => ?_
  have A3 := X2.at
  refine Gets.via (fun _ k => (XS.aloadN A3 hx rfl (D d7_4) rfl rfl k)) ?_
  refine X2.new (w44 hw) (w45 hw) (w46 hw) rfl (D d7_5) (by decide) (by decide) fun T4 h4 a4 X4 C4 E4 g4 Z4 S4 D4 => ?_
  have z4 := E4.1
  have l4 := ltA Z4.lt
  have A5 := X4.at
  refine Gets.via (fun _ k => (XS.dup A5 hx rfl (D d7_8) rfl rfl k)) ?_
  show Gets p e below _ (T4.setTop (mkF m 9 #[vR y] [(.ref a4), (.ref a4), (.ref y)]))
  refine X4.callI (y := (⟨"java/lang/StringBuilder", "<init>", "()V"⟩ : MethodName)) (W := 2) rfl (w47 hw) (w48 hw) (w49 hw) (by decide) (X4.payM (sf := []) (rmSbI hcx a4 h4 X4.old Z4 ((D4 (Or.inl (w59 hw)) (ty := (.array .byte)) (by decide) : Fld Z h4 a4 "java/lang/AbstractStringBuilder" "value" "[B" .null)) (D4 (Or.inl (w61 hw)) (ty := .byte) (by decide) : Fld Z h4 a4 "java/lang/AbstractStringBuilder" "coder" "B" (.int (0 : Int32))) (D4 (Or.inl (w90 hw)) (ty := .int) (by decide) : Fld Z h4 a4 "java/lang/AbstractStringBuilder" "count" "I" (.int (0 : Int32))) (D4 (Or.inl (w259 hw)) (ty := .boolean) (by decide) : Fld Z h4 a4 "java/lang/AbstractStringBuilder" "maybeLatin1" "Z" (.int (0 : Int32))) (leA (by omega))) sf0 (w49 hw) (w46 hw)) rfl (sz hml rfl) (a := a4) (argsL := []) (rest := [(.ref a4), (.ref y)]) (lenOf pd28 rfl) rfl rfl (mroom rfl rfl) (D d7_9) (by decide) (by decide) fun T6 h6 vm6 v6 X6 C6 z6 q6 => ?_
  obtain ⟨d6, kd6, rfl, K6, g6_0, g6_1, g6_2, g6_3, g6_4, g6_5, g6_6, g6_7⟩ := q6
  have l7 := ltA g6_0.lt
  have l8 := ltA g6_5.lt
  have f10 := Pr1.ext E4
  have f11 := f10.keep K6 (ninS (neA (by omega)) nin0)
  have f12 := Pr0.ext E4
  have f13 := f12.keep K6
  refine X6.putF (host := "") (Or.inl (w62 hw)) Via.refl f11 f13 (Or.inr ⟨(w63 hw), rfl, hnm⟩) (w38 hw) (ty := (.object "java/lang/StringBuilder")) (by decide) rfl rfl (leA (by omega)) (Safe.exa X6.hZ.alike f13 (by decide) (by decide)) rfl rfl (D d7_12) fun T9 h9 X9 C9 W9 F9 Z9 => ?_
  have z9 := W9.size
  have f14 := g6_0.wr W9
  have f15 := g6_1.other W9 (Or.inl (neA (by omega)))
  have f16 := g6_2.other W9 (Or.inl (neA (by omega)))
  have f17 := g6_3.other W9 (Or.inl (neA (by omega)))
  have f18 := g6_4.other W9 (Or.inl (neA (by omega)))
  have f19 := g6_5.other W9 (neA (by omega))
  have f20 := C9.safe (x := d6) (ltA (by omega)) g6_6
  exact X9.retV hret (D d7_15) (by decide) (by decide) (fun vmE CE => ⟨a4, d6, kd6, rfl, ((((Keep.refl h0 [y]).ext E4).trans K6 (allS (Or.inr (leA (by omega))) all0)).wr W9 (Or.inl (memI (i := 0) rfl))), Z9, F9, f14, f15, f16, f17, f18, f19, CE.safe (x := d6) (ltA (by omega)) f20, (leA (by omega)), (leA (by omega)), (neA (by omega))⟩)
abbrev RrmMark : Room := { frames := 5, cells := 0, slots := 0, locals := 78 }
def QrmMark (Z : State) (y : Addr) (s1 : Addr) (x : Addr) (d : Addr) (kd : ClassId) (cs : List Int32) (b : Addr) (kb : ClassId) (ds : List Int32) (h0 : Heap) (v : Option Value) (vm : Vm) (h : Heap) : Prop := v = some (.ref y) ∧ Keep h0 h [x, d] ∧ Exa Z h x "java/lang/StringBuilder" ∧ Fld Z h x "java/lang/AbstractStringBuilder" "value" "[B" (.ref d) ∧ Fld Z h x "java/lang/AbstractStringBuilder" "coder" "B" (.int (0 : Int32)) ∧ Fld Z h x "java/lang/AbstractStringBuilder" "count" "I" (.int (Int32.ofNat ((cs ++ ds)).length)) ∧ Fld Z h x "java/lang/AbstractStringBuilder" "maybeLatin1" "Z" (.int (0 : Int32)) ∧ Arv Z h d kd .byte (16 : Int32) (((cs ++ ds).map fun c => c.toInt8.toInt32).map Value.int) (.int (0 : Int32))
theorem rmMark (hcx : Cx Z a0 zc fm) (y : Addr) (s1 : Addr) (x : Addr) (d : Addr) (kd : ClassId) (cs : List Int32) (b : Addr) (kb : ClassId) (ds : List Int32) (h0 : Heap) (O0 : Old Z Z.heap.size h0) (Pr0 : Exa Z h0 y "com/example/carve/carve/http/Html") (Pr1 : Fld Z h0 y "com/example/carve/carve/http/Html" "out" "Ljava/lang/StringBuilder;" (.ref x)) (Pr2 : Exa Z h0 x "java/lang/StringBuilder") (Pr3 : Fld Z h0 x "java/lang/AbstractStringBuilder" "value" "[B" (.ref d)) (Pr4 : Fld Z h0 x "java/lang/AbstractStringBuilder" "coder" "B" (.int (0 : Int32))) (Pr5 : Fld Z h0 x "java/lang/AbstractStringBuilder" "count" "I" (.int (Int32.ofNat (cs).length))) (Pr6 : Fld Z h0 x "java/lang/AbstractStringBuilder" "maybeLatin1" "Z" (.int (0 : Int32))) (Pr7 : Arv Z h0 d kd .byte (16 : Int32) ((cs.map fun c => c.toInt8.toInt32).map Value.int) (.int (0 : Int32))) (Pr8 : Str Z h0 s1 b kb ds) (Pr9 : (cs).length + (ds).length ≤ 16) (Pr10 : Z.heap.size ≤ x) (Pr11 : Z.heap.size ≤ d) (Pr12 : x ≠ d) : Met l Z consts_1 (⟨"com/example/carve/carve/http/Html", "markup", "(Ljava/lang/String;)Lcom/example/carve/carve/http/Html;"⟩ : MethodName) prog_24_method_6_code 2 (some (.object "com/example/carve/carve/http/Html")) [] RrmMark [d] #[(.ref y), (.ref s1)] h0 (QrmMark Z y s1 x d kd cs b kb ds h0) := by
  have ⟨hw, hEL, O2, P5, O4, P6, OA, OH, OB⟩ := hcx
  refine Met.start (a0 := a0) (Ls := #[vR y, vR s1]) pn10 hEL O0 (fun m => by first | (simp [entryFrame, mkF, argsToLocals, Value.category]; done) | rfl) ?_
  intro p e s m below meth cc T0 vm0 X0 sf0_ hby hml hret hnm
  have hx := X0.hx
  have D : ∀ {n r}, decode B10 n = r → decode cc.code n = r := fun d => hb hby d
  have zz := X0.ge
  have A0 := X0.at
  have l1 := ltA Pr0.lt
  have l2 := ltA Pr2.lt
  have l3 := ltA Pr7.lt
  have l4 := ltA Pr8.lt
  have l5 := ltA Pr8.lb
  have l6 := neA Pr12
  have s7 := sf0_ d (memI (i := 0) rfl)
  refine Gets.via (fun _ k => (XS.aloadN A0 hx rfl (D d10_0) rfl rfl k)) ?_
  refine X0.getF (host := "") (Or.inl (w62 hw)) Via.refl Pr1 rfl rfl (D d10_1) fun T8 X8 => ?_
  have A9 := X8.at
  refine Gets.via (fun _ k => (XS.aloadN A9 hx rfl (D d10_4) rfl rfl k)) ?_
  refine X8.callV (W := 0) (w69 hw) (w70 hw) (w72 hw) (w71 hw) (nfs rfl (w72 hw)) (by decide) (X8.payM (sf := [d]) (rmAppL hcx x s1 d kd cs b kb ds h0 X8.old Pr2 Pr3 Pr4 Pr5 Pr6 Pr7 Pr8 Pr9 Pr10 Pr11 Pr12) (sfS s7 sf0) (w73 hw) (w46 hw)) Pr2 rfl (sz hml rfl) (argsL := [(.ref s1)]) (rest := []) (lenOf pd33 rfl) rfl rfl (mroom rfl rfl) (D d10_5) (by decide) (by decide) fun T10 h10 vm10 v10 X10 C10 z10 q10 => ?_
  obtain ⟨rfl, K10, g10_0, g10_1, g10_2, g10_3, g10_4, g10_5⟩ := q10
  have l11 := ltA g10_0.lt
  have l12 := ltA g10_5.lt
  have A13 := X10.at
  refine Gets.via (fun _ k => (XS.pop A13 hx rfl (D d10_8) rfl rfl (XS.aloadN A13 hx rfl (D d10_9) rfl rfl k))) ?_
  show Gets p e below _ (T10.setTop (mkF m 10 #[vR y, vR s1] [(.ref y)]))
  exact X10.retA hret rfl rfl rfl (D d10_10) (by decide) (by decide) (fun vmE CE => ⟨rfl, ((Keep.refl h0 [x, d]).trans K10 (allS (Or.inl (memI (i := 0) rfl)) (allS (Or.inl (memI (i := 1) rfl)) all0))), g10_0, g10_1, g10_2, g10_3, g10_4, g10_5⟩)
abbrev RrmCloseL : Room := { frames := 5, cells := 2, slots := 12, locals := 78 }
def QrmCloseL (Z : State) (y : Addr) (s1 : Addr) (x : Addr) (d : Addr) (kd : ClassId) (cs : List Int32) (b : Addr) (kb : ClassId) (ds : List Int32) (h0 : Heap) (v : Option Value) (vm : Vm) (h : Heap) : Prop := v = some (.ref y) ∧ Keep h0 h [x, d] ∧ Exa Z h x "java/lang/StringBuilder" ∧ Fld Z h x "java/lang/AbstractStringBuilder" "value" "[B" (.ref d) ∧ Fld Z h x "java/lang/AbstractStringBuilder" "coder" "B" (.int (0 : Int32)) ∧ Fld Z h x "java/lang/AbstractStringBuilder" "count" "I" (.int (Int32.ofNat ((((cs ++ [(60 : Int32), (47 : Int32)]) ++ ds) ++ [(62 : Int32)])).length)) ∧ Fld Z h x "java/lang/AbstractStringBuilder" "maybeLatin1" "Z" (.int (0 : Int32)) ∧ Arv Z h d kd .byte (16 : Int32) (((((cs ++ [(60 : Int32), (47 : Int32)]) ++ ds) ++ [(62 : Int32)]).map fun c => c.toInt8.toInt32).map Value.int) (.int (0 : Int32))
theorem rmCloseL (hcx : Cx Z a0 zc fm) (y : Addr) (s1 : Addr) (x : Addr) (d : Addr) (kd : ClassId) (cs : List Int32) (b : Addr) (kb : ClassId) (ds : List Int32) (h0 : Heap) (O0 : Old Z Z.heap.size h0) (Pr0 : Exa Z h0 y "com/example/carve/carve/http/Html") (Pr1 : Fld Z h0 y "com/example/carve/carve/http/Html" "out" "Ljava/lang/StringBuilder;" (.ref x)) (Pr2 : Exa Z h0 x "java/lang/StringBuilder") (Pr3 : Fld Z h0 x "java/lang/AbstractStringBuilder" "value" "[B" (.ref d)) (Pr4 : Fld Z h0 x "java/lang/AbstractStringBuilder" "coder" "B" (.int (0 : Int32))) (Pr5 : Fld Z h0 x "java/lang/AbstractStringBuilder" "count" "I" (.int (Int32.ofNat (cs).length))) (Pr6 : Fld Z h0 x "java/lang/AbstractStringBuilder" "maybeLatin1" "Z" (.int (0 : Int32))) (Pr7 : Arv Z h0 d kd .byte (16 : Int32) ((cs.map fun c => c.toInt8.toInt32).map Value.int) (.int (0 : Int32))) (Pr8 : Str Z h0 s1 b kb ds) (Pr9 : (cs).length ≤ 2) (Pr10 : (ds).length ≤ 3) (Pr11 : s1 ≠ x) (Pr12 : s1 ≠ d) (Pr13 : b ≠ x) (Pr14 : b ≠ d) (Pr15 : Z.heap.size ≤ x) (Pr16 : Z.heap.size ≤ d) (Pr17 : x ≠ d) : Met l Z consts_1 (⟨"com/example/carve/carve/http/Html", "close", "(Ljava/lang/String;)Lcom/example/carve/carve/http/Html;"⟩ : MethodName) prog_24_method_3_code 2 (some (.object "com/example/carve/carve/http/Html")) [] RrmCloseL [d] #[(.ref y), (.ref s1)] h0 (QrmCloseL Z y s1 x d kd cs b kb ds h0) := by
  have ⟨hw, hEL, O2, P5, O4, P6, OA, OH, OB⟩ := hcx
  refine Met.start (a0 := a0) (Ls := #[vR y, vR s1]) pn19 hEL O0 (fun m => by first | (simp [entryFrame, mkF, argsToLocals, Value.category]; done) | rfl) ?_
  intro p e s m below meth cc T0 vm0 X0 sf0_ hby hml hret hnm
  have hx := X0.hx
  have D : ∀ {n r}, decode B19 n = r → decode cc.code n = r := fun d => hb hby d
  have zz := X0.ge
  have A0 := X0.at
  have l1 := ltA Pr0.lt
  have l2 := ltA Pr2.lt
  have l3 := ltA Pr7.lt
  have l4 := ltA Pr8.lt
  have l5 := ltA Pr8.lb
  have l6 := neA Pr11
  have l7 := neA Pr12
  have l8 := neA Pr13
  have l9 := neA Pr14
  have l10 := neA Pr17
  have s11 := sf0_ d (memI (i := 0) rfl)
  refine Gets.via (fun _ k => (XS.aloadN A0 hx rfl (D d19_0) rfl rfl k)) ?_
  refine X0.getF (host := "") (Or.inl (w62 hw)) Via.refl Pr1 rfl rfl (D d19_1) fun T12 X12 => ?_
  refine X12.ldcC (w121 hw) (wSt hw) (by decide) (vs := [(.int (60 : Int32)), (.int (47 : Int32))]) (z := (2 : Int32)) ⟨by decide, by decide⟩ (by decide) (by decide) rfl (D d19_4) (n := 8) (by decide) (by decide) (by decide) (by decide) fun T13 h13 vm13 a13 yb13 k13 X13 C13 E13 Z13 Fc13 Fv13 V13 q13 => ?_
  have z13 := E13.1
  have l13 := ltA Z13.lt
  have lb13 := ltA V13.lt
  have f14 := C13.safe (x := d) (ltA (by omega)) s11
  have ne15 := neA (q13 d f14).1
  have nf15 := neA (q13 d f14).2
  have f16 := Pr2.ext E13
  have f17 := Pr5.ext E13
  have f18 : Str Z h13 a13 yb13 k13 [(60 : Int32), (47 : Int32)] := ⟨Z13, Fc13, Fv13, V13, (allI ⟨by decide, by decide⟩ (allI ⟨by decide, by decide⟩ allN)), Nat.le_of_ble_eq_true rfl⟩
  have f19 := Pr3.ext E13
  have f20 := Pr4.ext E13
  have f21 := Pr6.ext E13
  have f22 := Pr7.ext E13
  refine X13.callV (W := 0) (w69 hw) (w70 hw) (w72 hw) (w71 hw) (nfs rfl (w72 hw)) (by decide) (X13.payM (sf := [d]) (rmAppL hcx x a13 d kd cs yb13 k13 [(60 : Int32), (47 : Int32)] h13 X13.old f16 f19 f20 f17 f21 f22 f18 (by simp only [List.length_append, List.length_cons, List.length_nil]; omega) Pr15 Pr16 Pr17) (sfS f14 sf0) (w73 hw) (w46 hw)) f16 rfl (sz hml rfl) (argsL := [(.ref a13)]) (rest := []) (lenOf pd33 rfl) rfl rfl (mroom rfl rfl) (D d19_6) (by decide) (by decide) fun T23 h23 vm23 v23 X23 C23 z23 q23 => ?_
  obtain ⟨rfl, K23, g23_0, g23_1, g23_2, g23_3, g23_4, g23_5⟩ := q23
  have l24 := ltA g23_0.lt
  have l25 := ltA g23_5.lt
  show Gets p e below _ (T23.setTop (mkF m 9 #[vR y, vR s1] [(.ref x)]))
  have A26 := X23.at
  refine Gets.via (fun _ k => (XS.aloadN A26 hx rfl (D d19_9) rfl rfl k)) ?_
  have f27 : Str Z h13 s1 b kb ds := Pr8.ext E13
  have l28 := neA (Exa.ne f27.1 f16 (by decide))
  have f29 : Str Z h23 s1 b kb ds := f27.keep K23 (ninS (neA (by omega)) (ninS (neA (by omega)) nin0)) (ninS (neA (by omega)) (ninS (neA (by omega)) nin0))
  have f30 := C23.safe (x := d) (ltA (by omega)) f14
  refine X23.callV (W := 0) (w69 hw) (w70 hw) (w72 hw) (w71 hw) (nfs rfl (w72 hw)) (by decide) (X23.payM (sf := [d]) (rmAppL hcx x s1 d kd (cs ++ [(60 : Int32), (47 : Int32)]) b kb ds h23 X23.old g23_0 g23_1 g23_2 g23_3 g23_4 g23_5 f29 (by simp only [List.length_append, List.length_cons, List.length_nil]; omega) Pr15 Pr16 Pr17) (sfS f30 sf0) (w73 hw) (w46 hw)) g23_0 rfl (sz hml rfl) (argsL := [(.ref s1)]) (rest := []) (lenOf pd33 rfl) rfl rfl (mroom rfl rfl) (D d19_10) (by decide) (by decide) fun T31 h31 vm31 v31 X31 C31 z31 q31 => ?_
  obtain ⟨rfl, K31, g31_0, g31_1, g31_2, g31_3, g31_4, g31_5⟩ := q31
  have l32 := ltA g31_0.lt
  have l33 := ltA g31_5.lt
  have A34 := X31.at
  refine Gets.via (fun _ k => (XS.bipush A34 hx rfl (D d19_13) k)) ?_
  have f35 := C31.safe (x := d) (ltA (by omega)) f30
  refine X31.callV (W := 0) (w122 hw) (w123 hw) (w125 hw) (w124 hw) (nfs rfl (w125 hw)) (by decide) (X31.payM (sf := [d]) (rmApc0 hcx x d kd ((cs ++ [(60 : Int32), (47 : Int32)]) ++ ds) h31 X31.old g31_0 g31_1 g31_2 g31_3 g31_4 g31_5 (by simp only [List.length_append, List.length_cons, List.length_nil]; omega) Pr15 Pr16 Pr17) (sfS f35 sf0) (w126 hw) (w46 hw)) g31_0 rfl (sz hml rfl) (argsL := [(.int (62 : Int32))]) (rest := []) (lenOf pd34 rfl) rfl rfl (mroom rfl rfl) (D d19_15) (by decide) (by decide) fun T36 h36 vm36 v36 X36 C36 z36 q36 => ?_
  obtain ⟨rfl, K36, g36_0, g36_1, g36_2, g36_3, g36_4, g36_5⟩ := q36
  have l37 := ltA g36_0.lt
  have l38 := ltA g36_5.lt
  have A39 := X36.at
  refine Gets.via (fun _ k => (XS.pop A39 hx rfl (D d19_18) rfl rfl (XS.aloadN A39 hx rfl (D d19_19) rfl rfl k))) ?_
  exact X36.retA hret rfl rfl rfl (D d19_20) (by decide) (by decide) (fun vmE CE => ⟨rfl, (((((Keep.refl h0 [x, d]).ext E13).trans K23 (allS (Or.inl (memI (i := 0) rfl)) (allS (Or.inl (memI (i := 1) rfl)) all0))).trans K31 (allS (Or.inl (memI (i := 0) rfl)) (allS (Or.inl (memI (i := 1) rfl)) all0))).trans K36 (allS (Or.inl (memI (i := 0) rfl)) (allS (Or.inl (memI (i := 1) rfl)) all0))), g36_0, g36_1, g36_2, g36_3, g36_4, g36_5⟩)
abbrev RrmCloseU0 : Room := { frames := 10, cells := 3, slots := 44, locals := 143 }
def QrmCloseU0 (Z : State) (y : Addr) (s1 : Addr) (x : Addr) (d : Addr) (kd : ClassId) (b : Addr) (kb : ClassId) (ds : List Int32) (h0 : Heap) (v : Option Value) (vm : Vm) (h : Heap) : Prop := ∃ (t : Addr) (kt : ClassId), v = some (.ref y) ∧ Keep h0 h [x, d] ∧ Exa Z h x "java/lang/StringBuilder" ∧ Fld Z h x "java/lang/AbstractStringBuilder" "value" "[B" (.ref t) ∧ Fld Z h x "java/lang/AbstractStringBuilder" "coder" "B" (.int (1 : Int32)) ∧ Fld Z h x "java/lang/AbstractStringBuilder" "count" "I" (.int (Int32.ofNat ((([(60 : Int32), (47 : Int32)] ++ ds) ++ [(62 : Int32)])).length)) ∧ Fld Z h x "java/lang/AbstractStringBuilder" "maybeLatin1" "Z" (.int (0 : Int32)) ∧ Arv Z h t kt .byte (32 : Int32) (enc16 (([(60 : Int32), (47 : Int32)] ++ ds) ++ [(62 : Int32)])) (.int (0 : Int32)) ∧ Safe Z consts_1 vm h t
theorem rmCloseU0 (hcx : Cx Z a0 zc fm) (y : Addr) (s1 : Addr) (x : Addr) (d : Addr) (kd : ClassId) (b : Addr) (kb : ClassId) (ds : List Int32) (h0 : Heap) (O0 : Old Z Z.heap.size h0) (Pr0 : Exa Z h0 y "com/example/carve/carve/http/Html") (Pr1 : Fld Z h0 y "com/example/carve/carve/http/Html" "out" "Ljava/lang/StringBuilder;" (.ref x)) (Pr2 : Exa Z h0 x "java/lang/StringBuilder") (Pr3 : Fld Z h0 x "java/lang/AbstractStringBuilder" "value" "[B" (.ref d)) (Pr4 : Fld Z h0 x "java/lang/AbstractStringBuilder" "coder" "B" (.int (0 : Int32))) (Pr5 : Fld Z h0 x "java/lang/AbstractStringBuilder" "count" "I" (.int (Int32.ofNat (([] : List Int32)).length))) (Pr6 : Fld Z h0 x "java/lang/AbstractStringBuilder" "maybeLatin1" "Z" (.int (0 : Int32))) (Pr7 : Arv Z h0 d kd .byte (16 : Int32) ((([] : List Int32).map fun c => c.toInt8.toInt32).map Value.int) (.int (0 : Int32))) (Pr8 : StrU Z h0 s1 b kb ds) (Pr9 : (ds).length ≤ 3) (Pr10 : s1 ≠ x) (Pr11 : s1 ≠ d) (Pr12 : b ≠ x) (Pr13 : b ≠ d) (Pr14 : Z.heap.size ≤ x) (Pr15 : Z.heap.size ≤ d) (Pr16 : x ≠ d) : Met l Z consts_1 (⟨"com/example/carve/carve/http/Html", "close", "(Ljava/lang/String;)Lcom/example/carve/carve/http/Html;"⟩ : MethodName) prog_24_method_3_code 2 (some (.object "com/example/carve/carve/http/Html")) [] RrmCloseU0 [d] #[(.ref y), (.ref s1)] h0 (QrmCloseU0 Z y s1 x d kd b kb ds h0) := by
  have ⟨hw, hEL, O2, P5, O4, P6, OA, OH, OB⟩ := hcx
  refine Met.start (a0 := a0) (Ls := #[vR y, vR s1]) pn19 hEL O0 (fun m => by first | (simp [entryFrame, mkF, argsToLocals, Value.category]; done) | rfl) ?_
  intro p e s m below meth cc T0 vm0 X0 sf0_ hby hml hret hnm
  have hx := X0.hx
  have D : ∀ {n r}, decode B19 n = r → decode cc.code n = r := fun d => hb hby d
  have zz := X0.ge
  have A0 := X0.at
  have l1 := ltA Pr0.lt
  have l2 := ltA Pr2.lt
  have l3 := ltA Pr7.lt
  have l4 := ltA Pr8.lt
  have l5 := ltA Pr8.lb
  have l6 := neA Pr10
  have l7 := neA Pr11
  have l8 := neA Pr12
  have l9 := neA Pr13
  have l10 := neA Pr16
  have s11 := sf0_ d (memI (i := 0) rfl)
  refine Gets.via (fun _ k => (XS.aloadN A0 hx rfl (D d19_0) rfl rfl k)) ?_
  refine X0.getF (host := "") (Or.inl (w62 hw)) Via.refl Pr1 rfl rfl (D d19_1) fun T12 X12 => ?_
  refine X12.ldcC (w121 hw) (wSt hw) (by decide) (vs := [(.int (60 : Int32)), (.int (47 : Int32))]) (z := (2 : Int32)) ⟨by decide, by decide⟩ (by decide) (by decide) rfl (D d19_4) (n := 8) (by decide) (by decide) (by decide) (by decide) fun T13 h13 vm13 a13 yb13 k13 X13 C13 E13 Z13 Fc13 Fv13 V13 q13 => ?_
  have z13 := E13.1
  have l13 := ltA Z13.lt
  have lb13 := ltA V13.lt
  have f14 := C13.safe (x := d) (ltA (by omega)) s11
  have ne15 := neA (q13 d f14).1
  have nf15 := neA (q13 d f14).2
  have f16 := Pr2.ext E13
  have f17 := Pr5.ext E13
  have f18 : Str Z h13 a13 yb13 k13 [(60 : Int32), (47 : Int32)] := ⟨Z13, Fc13, Fv13, V13, (allI ⟨by decide, by decide⟩ (allI ⟨by decide, by decide⟩ allN)), Nat.le_of_ble_eq_true rfl⟩
  have f19 := Pr3.ext E13
  have f20 := Pr4.ext E13
  have f21 := Pr6.ext E13
  have f22 := Pr7.ext E13
  refine X13.callV (W := 0) (w69 hw) (w70 hw) (w72 hw) (w71 hw) (nfs rfl (w72 hw)) (by decide) (X13.payM (sf := [d]) (rmAppL hcx x a13 d kd ([] : List Int32) yb13 k13 [(60 : Int32), (47 : Int32)] h13 X13.old f16 f19 f20 f17 f21 f22 f18 (by first | exact Nat.le_of_ble_eq_true rfl | omega) Pr14 Pr15 Pr16) (sfS f14 sf0) (w73 hw) (w46 hw)) f16 rfl (sz hml rfl) (argsL := [(.ref a13)]) (rest := []) (lenOf pd33 rfl) rfl rfl (mroom rfl rfl) (D d19_6) (by decide) (by decide) fun T23 h23 vm23 v23 X23 C23 z23 q23 => ?_
  obtain ⟨rfl, K23, g23_0, g23_1, g23_2, g23_3, g23_4, g23_5⟩ := q23
  have l24 := ltA g23_0.lt
  have l25 := ltA g23_5.lt
  show Gets p e below _ (T23.setTop (mkF m 9 #[vR y, vR s1] [(.ref x)]))
  have f26 : Fld Z h23 x "java/lang/AbstractStringBuilder" "count" "I" (.int (Int32.ofNat ([(60 : Int32), (47 : Int32)]).length)) := g23_3
  have f27 : Arv Z h23 d kd .byte (16 : Int32) (([(60 : Int32), (47 : Int32)].map fun c => c.toInt8.toInt32).map Value.int) (.int (0 : Int32)) := g23_5
  have A28 := X23.at
  refine Gets.via (fun _ k => (XS.aloadN A28 hx rfl (D d19_9) rfl rfl k)) ?_
  have f29 : StrU Z h13 s1 b kb ds := Pr8.ext E13
  have l30 := neA (Exa.ne f29.1 f16 (by decide))
  have f31 : StrU Z h23 s1 b kb ds := f29.keep K23 (ninS (neA (by omega)) (ninS (neA (by omega)) nin0)) (ninS (neA (by omega)) (ninS (neA (by omega)) nin0))
  have f32 := C23.safe (x := d) (ltA (by omega)) f14
  refine X23.callV (W := 0) (w69 hw) (w70 hw) (w72 hw) (w71 hw) (nfs rfl (w72 hw)) (by decide) (X23.payM (sf := [d]) (rmAppU2 hcx x s1 d kd (60 : Int32) (47 : Int32) b kb ds h23 X23.old g23_0 g23_1 g23_2 f26 g23_4 f27 f31 (by simp only [List.length_append, List.length_cons, List.length_nil]; omega) Pr14 Pr15 Pr16 (⟨by decide, by decide⟩) (⟨by decide, by decide⟩) Pr12) (sfS f32 sf0) (w73 hw) (w46 hw)) g23_0 rfl (sz hml rfl) (argsL := [(.ref s1)]) (rest := []) (lenOf pd33 rfl) rfl rfl (mroom rfl rfl) (D d19_10) (by decide) (by decide) fun T33 h33 vm33 v33 X33 C33 z33 q33 => ?_
  obtain ⟨t33, kt33, rfl, K33, g33_0, g33_1, g33_2, g33_3, g33_4, g33_5, g33_6, g33_7, g33_8⟩ := q33
  have l34 := ltA g33_0.lt
  have l35 := ltA g33_5.lt
  have l36 := neA g33_8
  have A37 := X33.at
  refine Gets.via (fun _ k => (XS.bipush A37 hx rfl (D d19_13) k)) ?_
  refine X33.callV (W := 0) (w122 hw) (w123 hw) (w125 hw) (w124 hw) (nfs rfl (w125 hw)) (by decide) (X33.payM (sf := [t33]) (rmApc1 hcx x t33 kt33 ([(60 : Int32), (47 : Int32)] ++ ds) h33 X33.old g33_0 g33_1 g33_2 g33_3 g33_4 g33_5 (by simp only [List.length_append, List.length_cons, List.length_nil]; omega) Pr14 (leA (by omega)) g33_8) (sfS g33_6 sf0) (w126 hw) (w46 hw)) g33_0 rfl (sz hml rfl) (argsL := [(.int (62 : Int32))]) (rest := []) (lenOf pd34 rfl) rfl rfl (mroom rfl rfl) (D d19_15) (by decide) (by decide) fun T38 h38 vm38 v38 X38 C38 z38 q38 => ?_
  obtain ⟨rfl, K38, g38_0, g38_1, g38_2, g38_3, g38_4, g38_5⟩ := q38
  have l39 := ltA g38_0.lt
  have l40 := ltA g38_5.lt
  have A41 := X38.at
  refine Gets.via (fun _ k => (XS.pop A41 hx rfl (D d19_18) rfl rfl (XS.aloadN A41 hx rfl (D d19_19) rfl rfl k))) ?_
  have f42 := C38.safe (x := t33) (ltA (by omega)) g33_6
  exact X38.retA hret rfl rfl rfl (D d19_20) (by decide) (by decide) (fun vmE CE => ⟨t33, kt33, rfl, (((((Keep.refl h0 [x, d]).ext E13).trans K23 (allS (Or.inl (memI (i := 0) rfl)) (allS (Or.inl (memI (i := 1) rfl)) all0))).trans K33 (allS (Or.inl (memI (i := 0) rfl)) (allS (Or.inl (memI (i := 1) rfl)) all0))).trans K38 (allS (Or.inl (memI (i := 0) rfl)) (allS (Or.inr (leA (by omega))) all0))), g38_0, g38_1, g38_2, g38_3, g38_4, g38_5, CE.safe (x := t33) (ltA (by omega)) f42⟩)
abbrev RrmCloseU1 : Room := { frames := 10, cells := 3, slots := 44, locals := 143 }
def QrmCloseU1 (Z : State) (y : Addr) (s1 : Addr) (x : Addr) (d : Addr) (kd : ClassId) (c0 : Int32) (b : Addr) (kb : ClassId) (ds : List Int32) (h0 : Heap) (v : Option Value) (vm : Vm) (h : Heap) : Prop := ∃ (t : Addr) (kt : ClassId), v = some (.ref y) ∧ Keep h0 h [x, d] ∧ Exa Z h x "java/lang/StringBuilder" ∧ Fld Z h x "java/lang/AbstractStringBuilder" "value" "[B" (.ref t) ∧ Fld Z h x "java/lang/AbstractStringBuilder" "coder" "B" (.int (1 : Int32)) ∧ Fld Z h x "java/lang/AbstractStringBuilder" "count" "I" (.int (Int32.ofNat ((([c0, (60 : Int32), (47 : Int32)] ++ ds) ++ [(62 : Int32)])).length)) ∧ Fld Z h x "java/lang/AbstractStringBuilder" "maybeLatin1" "Z" (.int (0 : Int32)) ∧ Arv Z h t kt .byte (32 : Int32) (enc16 (([c0, (60 : Int32), (47 : Int32)] ++ ds) ++ [(62 : Int32)])) (.int (0 : Int32)) ∧ Safe Z consts_1 vm h t
theorem rmCloseU1 (hcx : Cx Z a0 zc fm) (y : Addr) (s1 : Addr) (x : Addr) (d : Addr) (kd : ClassId) (c0 : Int32) (b : Addr) (kb : ClassId) (ds : List Int32) (h0 : Heap) (O0 : Old Z Z.heap.size h0) (Pr0 : Exa Z h0 y "com/example/carve/carve/http/Html") (Pr1 : Fld Z h0 y "com/example/carve/carve/http/Html" "out" "Ljava/lang/StringBuilder;" (.ref x)) (Pr2 : Exa Z h0 x "java/lang/StringBuilder") (Pr3 : Fld Z h0 x "java/lang/AbstractStringBuilder" "value" "[B" (.ref d)) (Pr4 : Fld Z h0 x "java/lang/AbstractStringBuilder" "coder" "B" (.int (0 : Int32))) (Pr5 : Fld Z h0 x "java/lang/AbstractStringBuilder" "count" "I" (.int (Int32.ofNat ([c0]).length))) (Pr6 : Fld Z h0 x "java/lang/AbstractStringBuilder" "maybeLatin1" "Z" (.int (0 : Int32))) (Pr7 : Arv Z h0 d kd .byte (16 : Int32) (([c0].map fun c => c.toInt8.toInt32).map Value.int) (.int (0 : Int32))) (Pr8 : StrU Z h0 s1 b kb ds) (Pr9 : (ds).length ≤ 3) (Pr10 : s1 ≠ x) (Pr11 : s1 ≠ d) (Pr12 : b ≠ x) (Pr13 : b ≠ d) (Pr14 : Z.heap.size ≤ x) (Pr15 : Z.heap.size ≤ d) (Pr16 : x ≠ d) (Pr17 : ¬ c0 < 0 ∧ ¬ (255 : Int32) < c0) : Met l Z consts_1 (⟨"com/example/carve/carve/http/Html", "close", "(Ljava/lang/String;)Lcom/example/carve/carve/http/Html;"⟩ : MethodName) prog_24_method_3_code 2 (some (.object "com/example/carve/carve/http/Html")) [] RrmCloseU1 [d] #[(.ref y), (.ref s1)] h0 (QrmCloseU1 Z y s1 x d kd c0 b kb ds h0) := by
  have ⟨hw, hEL, O2, P5, O4, P6, OA, OH, OB⟩ := hcx
  refine Met.start (a0 := a0) (Ls := #[vR y, vR s1]) pn19 hEL O0 (fun m => by first | (simp [entryFrame, mkF, argsToLocals, Value.category]; done) | rfl) ?_
  intro p e s m below meth cc T0 vm0 X0 sf0_ hby hml hret hnm
  have hx := X0.hx
  have D : ∀ {n r}, decode B19 n = r → decode cc.code n = r := fun d => hb hby d
  have zz := X0.ge
  have A0 := X0.at
  have l1 := ltA Pr0.lt
  have l2 := ltA Pr2.lt
  have l3 := ltA Pr7.lt
  have l4 := ltA Pr8.lt
  have l5 := ltA Pr8.lb
  have l6 := neA Pr10
  have l7 := neA Pr11
  have l8 := neA Pr12
  have l9 := neA Pr13
  have l10 := neA Pr16
  have s11 := sf0_ d (memI (i := 0) rfl)
  refine Gets.via (fun _ k => (XS.aloadN A0 hx rfl (D d19_0) rfl rfl k)) ?_
  refine X0.getF (host := "") (Or.inl (w62 hw)) Via.refl Pr1 rfl rfl (D d19_1) fun T12 X12 => ?_
  refine X12.ldcC (w121 hw) (wSt hw) (by decide) (vs := [(.int (60 : Int32)), (.int (47 : Int32))]) (z := (2 : Int32)) ⟨by decide, by decide⟩ (by decide) (by decide) rfl (D d19_4) (n := 8) (by decide) (by decide) (by decide) (by decide) fun T13 h13 vm13 a13 yb13 k13 X13 C13 E13 Z13 Fc13 Fv13 V13 q13 => ?_
  have z13 := E13.1
  have l13 := ltA Z13.lt
  have lb13 := ltA V13.lt
  have f14 := C13.safe (x := d) (ltA (by omega)) s11
  have ne15 := neA (q13 d f14).1
  have nf15 := neA (q13 d f14).2
  have f16 := Pr2.ext E13
  have f17 := Pr5.ext E13
  have f18 : Str Z h13 a13 yb13 k13 [(60 : Int32), (47 : Int32)] := ⟨Z13, Fc13, Fv13, V13, (allI ⟨by decide, by decide⟩ (allI ⟨by decide, by decide⟩ allN)), Nat.le_of_ble_eq_true rfl⟩
  have f19 := Pr3.ext E13
  have f20 := Pr4.ext E13
  have f21 := Pr6.ext E13
  have f22 := Pr7.ext E13
  refine X13.callV (W := 0) (w69 hw) (w70 hw) (w72 hw) (w71 hw) (nfs rfl (w72 hw)) (by decide) (X13.payM (sf := [d]) (rmAppL hcx x a13 d kd [c0] yb13 k13 [(60 : Int32), (47 : Int32)] h13 X13.old f16 f19 f20 f17 f21 f22 f18 (by first | exact Nat.le_of_ble_eq_true rfl | omega) Pr14 Pr15 Pr16) (sfS f14 sf0) (w73 hw) (w46 hw)) f16 rfl (sz hml rfl) (argsL := [(.ref a13)]) (rest := []) (lenOf pd33 rfl) rfl rfl (mroom rfl rfl) (D d19_6) (by decide) (by decide) fun T23 h23 vm23 v23 X23 C23 z23 q23 => ?_
  obtain ⟨rfl, K23, g23_0, g23_1, g23_2, g23_3, g23_4, g23_5⟩ := q23
  have l24 := ltA g23_0.lt
  have l25 := ltA g23_5.lt
  show Gets p e below _ (T23.setTop (mkF m 9 #[vR y, vR s1] [(.ref x)]))
  have f26 : Fld Z h23 x "java/lang/AbstractStringBuilder" "count" "I" (.int (Int32.ofNat ([c0, (60 : Int32), (47 : Int32)]).length)) := g23_3
  have f27 : Arv Z h23 d kd .byte (16 : Int32) (([c0, (60 : Int32), (47 : Int32)].map fun c => c.toInt8.toInt32).map Value.int) (.int (0 : Int32)) := g23_5
  have A28 := X23.at
  refine Gets.via (fun _ k => (XS.aloadN A28 hx rfl (D d19_9) rfl rfl k)) ?_
  have f29 : StrU Z h13 s1 b kb ds := Pr8.ext E13
  have l30 := neA (Exa.ne f29.1 f16 (by decide))
  have f31 : StrU Z h23 s1 b kb ds := f29.keep K23 (ninS (neA (by omega)) (ninS (neA (by omega)) nin0)) (ninS (neA (by omega)) (ninS (neA (by omega)) nin0))
  have f32 := C23.safe (x := d) (ltA (by omega)) f14
  refine X23.callV (W := 0) (w69 hw) (w70 hw) (w72 hw) (w71 hw) (nfs rfl (w72 hw)) (by decide) (X23.payM (sf := [d]) (rmAppU3 hcx x s1 d kd c0 (60 : Int32) (47 : Int32) b kb ds h23 X23.old g23_0 g23_1 g23_2 f26 g23_4 f27 f31 (by simp only [List.length_append, List.length_cons, List.length_nil]; omega) Pr14 Pr15 Pr16 Pr17 (⟨by decide, by decide⟩) (⟨by decide, by decide⟩) Pr12) (sfS f32 sf0) (w73 hw) (w46 hw)) g23_0 rfl (sz hml rfl) (argsL := [(.ref s1)]) (rest := []) (lenOf pd33 rfl) rfl rfl (mroom rfl rfl) (D d19_10) (by decide) (by decide) fun T33 h33 vm33 v33 X33 C33 z33 q33 => ?_
  obtain ⟨t33, kt33, rfl, K33, g33_0, g33_1, g33_2, g33_3, g33_4, g33_5, g33_6, g33_7, g33_8⟩ := q33
  have l34 := ltA g33_0.lt
  have l35 := ltA g33_5.lt
  have l36 := neA g33_8
  have A37 := X33.at
  refine Gets.via (fun _ k => (XS.bipush A37 hx rfl (D d19_13) k)) ?_
  refine X33.callV (W := 0) (w122 hw) (w123 hw) (w125 hw) (w124 hw) (nfs rfl (w125 hw)) (by decide) (X33.payM (sf := [t33]) (rmApc1 hcx x t33 kt33 ([c0, (60 : Int32), (47 : Int32)] ++ ds) h33 X33.old g33_0 g33_1 g33_2 g33_3 g33_4 g33_5 (by simp only [List.length_append, List.length_cons, List.length_nil]; omega) Pr14 (leA (by omega)) g33_8) (sfS g33_6 sf0) (w126 hw) (w46 hw)) g33_0 rfl (sz hml rfl) (argsL := [(.int (62 : Int32))]) (rest := []) (lenOf pd34 rfl) rfl rfl (mroom rfl rfl) (D d19_15) (by decide) (by decide) fun T38 h38 vm38 v38 X38 C38 z38 q38 => ?_
  obtain ⟨rfl, K38, g38_0, g38_1, g38_2, g38_3, g38_4, g38_5⟩ := q38
  have l39 := ltA g38_0.lt
  have l40 := ltA g38_5.lt
  have A41 := X38.at
  refine Gets.via (fun _ k => (XS.pop A41 hx rfl (D d19_18) rfl rfl (XS.aloadN A41 hx rfl (D d19_19) rfl rfl k))) ?_
  have f42 := C38.safe (x := t33) (ltA (by omega)) g33_6
  exact X38.retA hret rfl rfl rfl (D d19_20) (by decide) (by decide) (fun vmE CE => ⟨t33, kt33, rfl, (((((Keep.refl h0 [x, d]).ext E13).trans K23 (allS (Or.inl (memI (i := 0) rfl)) (allS (Or.inl (memI (i := 1) rfl)) all0))).trans K33 (allS (Or.inl (memI (i := 0) rfl)) (allS (Or.inl (memI (i := 1) rfl)) all0))).trans K38 (allS (Or.inl (memI (i := 0) rfl)) (allS (Or.inr (leA (by omega))) all0))), g38_0, g38_1, g38_2, g38_3, g38_4, g38_5, CE.safe (x := t33) (ltA (by omega)) f42⟩)
abbrev RrmCloseU2 : Room := { frames := 10, cells := 3, slots := 44, locals := 143 }
def QrmCloseU2 (Z : State) (y : Addr) (s1 : Addr) (x : Addr) (d : Addr) (kd : ClassId) (c0 : Int32) (c1 : Int32) (b : Addr) (kb : ClassId) (ds : List Int32) (h0 : Heap) (v : Option Value) (vm : Vm) (h : Heap) : Prop := ∃ (t : Addr) (kt : ClassId), v = some (.ref y) ∧ Keep h0 h [x, d] ∧ Exa Z h x "java/lang/StringBuilder" ∧ Fld Z h x "java/lang/AbstractStringBuilder" "value" "[B" (.ref t) ∧ Fld Z h x "java/lang/AbstractStringBuilder" "coder" "B" (.int (1 : Int32)) ∧ Fld Z h x "java/lang/AbstractStringBuilder" "count" "I" (.int (Int32.ofNat ((([c0, c1, (60 : Int32), (47 : Int32)] ++ ds) ++ [(62 : Int32)])).length)) ∧ Fld Z h x "java/lang/AbstractStringBuilder" "maybeLatin1" "Z" (.int (0 : Int32)) ∧ Arv Z h t kt .byte (32 : Int32) (enc16 (([c0, c1, (60 : Int32), (47 : Int32)] ++ ds) ++ [(62 : Int32)])) (.int (0 : Int32)) ∧ Safe Z consts_1 vm h t
theorem rmCloseU2 (hcx : Cx Z a0 zc fm) (y : Addr) (s1 : Addr) (x : Addr) (d : Addr) (kd : ClassId) (c0 : Int32) (c1 : Int32) (b : Addr) (kb : ClassId) (ds : List Int32) (h0 : Heap) (O0 : Old Z Z.heap.size h0) (Pr0 : Exa Z h0 y "com/example/carve/carve/http/Html") (Pr1 : Fld Z h0 y "com/example/carve/carve/http/Html" "out" "Ljava/lang/StringBuilder;" (.ref x)) (Pr2 : Exa Z h0 x "java/lang/StringBuilder") (Pr3 : Fld Z h0 x "java/lang/AbstractStringBuilder" "value" "[B" (.ref d)) (Pr4 : Fld Z h0 x "java/lang/AbstractStringBuilder" "coder" "B" (.int (0 : Int32))) (Pr5 : Fld Z h0 x "java/lang/AbstractStringBuilder" "count" "I" (.int (Int32.ofNat ([c0, c1]).length))) (Pr6 : Fld Z h0 x "java/lang/AbstractStringBuilder" "maybeLatin1" "Z" (.int (0 : Int32))) (Pr7 : Arv Z h0 d kd .byte (16 : Int32) (([c0, c1].map fun c => c.toInt8.toInt32).map Value.int) (.int (0 : Int32))) (Pr8 : StrU Z h0 s1 b kb ds) (Pr9 : (ds).length ≤ 3) (Pr10 : s1 ≠ x) (Pr11 : s1 ≠ d) (Pr12 : b ≠ x) (Pr13 : b ≠ d) (Pr14 : Z.heap.size ≤ x) (Pr15 : Z.heap.size ≤ d) (Pr16 : x ≠ d) (Pr17 : ¬ c0 < 0 ∧ ¬ (255 : Int32) < c0) (Pr18 : ¬ c1 < 0 ∧ ¬ (255 : Int32) < c1) : Met l Z consts_1 (⟨"com/example/carve/carve/http/Html", "close", "(Ljava/lang/String;)Lcom/example/carve/carve/http/Html;"⟩ : MethodName) prog_24_method_3_code 2 (some (.object "com/example/carve/carve/http/Html")) [] RrmCloseU2 [d] #[(.ref y), (.ref s1)] h0 (QrmCloseU2 Z y s1 x d kd c0 c1 b kb ds h0) := by
  have ⟨hw, hEL, O2, P5, O4, P6, OA, OH, OB⟩ := hcx
  refine Met.start (a0 := a0) (Ls := #[vR y, vR s1]) pn19 hEL O0 (fun m => by first | (simp [entryFrame, mkF, argsToLocals, Value.category]; done) | rfl) ?_
  intro p e s m below meth cc T0 vm0 X0 sf0_ hby hml hret hnm
  have hx := X0.hx
  have D : ∀ {n r}, decode B19 n = r → decode cc.code n = r := fun d => hb hby d
  have zz := X0.ge
  have A0 := X0.at
  have l1 := ltA Pr0.lt
  have l2 := ltA Pr2.lt
  have l3 := ltA Pr7.lt
  have l4 := ltA Pr8.lt
  have l5 := ltA Pr8.lb
  have l6 := neA Pr10
  have l7 := neA Pr11
  have l8 := neA Pr12
  have l9 := neA Pr13
  have l10 := neA Pr16
  have s11 := sf0_ d (memI (i := 0) rfl)
  refine Gets.via (fun _ k => (XS.aloadN A0 hx rfl (D d19_0) rfl rfl k)) ?_
  refine X0.getF (host := "") (Or.inl (w62 hw)) Via.refl Pr1 rfl rfl (D d19_1) fun T12 X12 => ?_
  refine X12.ldcC (w121 hw) (wSt hw) (by decide) (vs := [(.int (60 : Int32)), (.int (47 : Int32))]) (z := (2 : Int32)) ⟨by decide, by decide⟩ (by decide) (by decide) rfl (D d19_4) (n := 8) (by decide) (by decide) (by decide) (by decide) fun T13 h13 vm13 a13 yb13 k13 X13 C13 E13 Z13 Fc13 Fv13 V13 q13 => ?_
  have z13 := E13.1
  have l13 := ltA Z13.lt
  have lb13 := ltA V13.lt
  have f14 := C13.safe (x := d) (ltA (by omega)) s11
  have ne15 := neA (q13 d f14).1
  have nf15 := neA (q13 d f14).2
  have f16 := Pr2.ext E13
  have f17 := Pr5.ext E13
  have f18 : Str Z h13 a13 yb13 k13 [(60 : Int32), (47 : Int32)] := ⟨Z13, Fc13, Fv13, V13, (allI ⟨by decide, by decide⟩ (allI ⟨by decide, by decide⟩ allN)), Nat.le_of_ble_eq_true rfl⟩
  have f19 := Pr3.ext E13
  have f20 := Pr4.ext E13
  have f21 := Pr6.ext E13
  have f22 := Pr7.ext E13
  refine X13.callV (W := 0) (w69 hw) (w70 hw) (w72 hw) (w71 hw) (nfs rfl (w72 hw)) (by decide) (X13.payM (sf := [d]) (rmAppL hcx x a13 d kd [c0, c1] yb13 k13 [(60 : Int32), (47 : Int32)] h13 X13.old f16 f19 f20 f17 f21 f22 f18 (by first | exact Nat.le_of_ble_eq_true rfl | omega) Pr14 Pr15 Pr16) (sfS f14 sf0) (w73 hw) (w46 hw)) f16 rfl (sz hml rfl) (argsL := [(.ref a13)]) (rest := []) (lenOf pd33 rfl) rfl rfl (mroom rfl rfl) (D d19_6) (by decide) (by decide) fun T23 h23 vm23 v23 X23 C23 z23 q23 => ?_
  obtain ⟨rfl, K23, g23_0, g23_1, g23_2, g23_3, g23_4, g23_5⟩ := q23
  have l24 := ltA g23_0.lt
  have l25 := ltA g23_5.lt
  show Gets p e below _ (T23.setTop (mkF m 9 #[vR y, vR s1] [(.ref x)]))
  have f26 : Fld Z h23 x "java/lang/AbstractStringBuilder" "count" "I" (.int (Int32.ofNat ([c0, c1, (60 : Int32), (47 : Int32)]).length)) := g23_3
  have f27 : Arv Z h23 d kd .byte (16 : Int32) (([c0, c1, (60 : Int32), (47 : Int32)].map fun c => c.toInt8.toInt32).map Value.int) (.int (0 : Int32)) := g23_5
  have A28 := X23.at
  refine Gets.via (fun _ k => (XS.aloadN A28 hx rfl (D d19_9) rfl rfl k)) ?_
  have f29 : StrU Z h13 s1 b kb ds := Pr8.ext E13
  have l30 := neA (Exa.ne f29.1 f16 (by decide))
  have f31 : StrU Z h23 s1 b kb ds := f29.keep K23 (ninS (neA (by omega)) (ninS (neA (by omega)) nin0)) (ninS (neA (by omega)) (ninS (neA (by omega)) nin0))
  have f32 := C23.safe (x := d) (ltA (by omega)) f14
  refine X23.callV (W := 0) (w69 hw) (w70 hw) (w72 hw) (w71 hw) (nfs rfl (w72 hw)) (by decide) (X23.payM (sf := [d]) (rmAppU4 hcx x s1 d kd c0 c1 (60 : Int32) (47 : Int32) b kb ds h23 X23.old g23_0 g23_1 g23_2 f26 g23_4 f27 f31 (by simp only [List.length_append, List.length_cons, List.length_nil]; omega) Pr14 Pr15 Pr16 Pr17 Pr18 (⟨by decide, by decide⟩) (⟨by decide, by decide⟩) Pr12) (sfS f32 sf0) (w73 hw) (w46 hw)) g23_0 rfl (sz hml rfl) (argsL := [(.ref s1)]) (rest := []) (lenOf pd33 rfl) rfl rfl (mroom rfl rfl) (D d19_10) (by decide) (by decide) fun T33 h33 vm33 v33 X33 C33 z33 q33 => ?_
  obtain ⟨t33, kt33, rfl, K33, g33_0, g33_1, g33_2, g33_3, g33_4, g33_5, g33_6, g33_7, g33_8⟩ := q33
  have l34 := ltA g33_0.lt
  have l35 := ltA g33_5.lt
  have l36 := neA g33_8
  have A37 := X33.at
  refine Gets.via (fun _ k => (XS.bipush A37 hx rfl (D d19_13) k)) ?_
  refine X33.callV (W := 0) (w122 hw) (w123 hw) (w125 hw) (w124 hw) (nfs rfl (w125 hw)) (by decide) (X33.payM (sf := [t33]) (rmApc1 hcx x t33 kt33 ([c0, c1, (60 : Int32), (47 : Int32)] ++ ds) h33 X33.old g33_0 g33_1 g33_2 g33_3 g33_4 g33_5 (by simp only [List.length_append, List.length_cons, List.length_nil]; omega) Pr14 (leA (by omega)) g33_8) (sfS g33_6 sf0) (w126 hw) (w46 hw)) g33_0 rfl (sz hml rfl) (argsL := [(.int (62 : Int32))]) (rest := []) (lenOf pd34 rfl) rfl rfl (mroom rfl rfl) (D d19_15) (by decide) (by decide) fun T38 h38 vm38 v38 X38 C38 z38 q38 => ?_
  obtain ⟨rfl, K38, g38_0, g38_1, g38_2, g38_3, g38_4, g38_5⟩ := q38
  have l39 := ltA g38_0.lt
  have l40 := ltA g38_5.lt
  have A41 := X38.at
  refine Gets.via (fun _ k => (XS.pop A41 hx rfl (D d19_18) rfl rfl (XS.aloadN A41 hx rfl (D d19_19) rfl rfl k))) ?_
  have f42 := C38.safe (x := t33) (ltA (by omega)) g33_6
  exact X38.retA hret rfl rfl rfl (D d19_20) (by decide) (by decide) (fun vmE CE => ⟨t33, kt33, rfl, (((((Keep.refl h0 [x, d]).ext E13).trans K23 (allS (Or.inl (memI (i := 0) rfl)) (allS (Or.inl (memI (i := 1) rfl)) all0))).trans K33 (allS (Or.inl (memI (i := 0) rfl)) (allS (Or.inl (memI (i := 1) rfl)) all0))).trans K38 (allS (Or.inl (memI (i := 0) rfl)) (allS (Or.inr (leA (by omega))) all0))), g38_0, g38_1, g38_2, g38_3, g38_4, g38_5, CE.safe (x := t33) (ltA (by omega)) f42⟩)
abbrev RrmHs0 : Room := { frames := 6, cells := 2, slots := 20, locals := 95 }
def QrmHs0 (Z : State) (y : Addr) (x : Addr) (d : Addr) (kd : ClassId) (cs : List Int32) (h0 : Heap) (v : Option Value) (vm : Vm) (h : Heap) : Prop := ∃ (a : Addr) (t : Addr) (kt : ClassId), v = some (.ref a) ∧ Keep h0 h [] ∧ Str Z h a t kt cs
theorem rmHs0 (hcx : Cx Z a0 zc fm) (y : Addr) (x : Addr) (d : Addr) (kd : ClassId) (cs : List Int32) (h0 : Heap) (O0 : Old Z Z.heap.size h0) (Pr0 : Exa Z h0 y "com/example/carve/carve/http/Html") (Pr1 : Fld Z h0 y "com/example/carve/carve/http/Html" "out" "Ljava/lang/StringBuilder;" (.ref x)) (Pr2 : Exa Z h0 x "java/lang/StringBuilder") (Pr3 : Fld Z h0 x "java/lang/AbstractStringBuilder" "value" "[B" (.ref d)) (Pr4 : Fld Z h0 x "java/lang/AbstractStringBuilder" "coder" "B" (.int (0 : Int32))) (Pr5 : Fld Z h0 x "java/lang/AbstractStringBuilder" "count" "I" (.int (Int32.ofNat (cs).length))) (Pr6 : Fld Z h0 x "java/lang/AbstractStringBuilder" "maybeLatin1" "Z" (.int (0 : Int32))) (Pr7 : Arv Z h0 d kd .byte (16 : Int32) ((cs.map fun c => c.toInt8.toInt32).map Value.int) (.int (0 : Int32))) (Pr8 : (cs).length ≤ 8) (Pr9 : ∀ z_ ∈ cs, ¬ z_ < 0 ∧ ¬ (255 : Int32) < z_) : Met l Z consts_1 (⟨"com/example/carve/carve/http/Html", "toString", "()Ljava/lang/String;"⟩ : MethodName) prog_24_method_9_code 1 (some (.object "java/lang/String")) [] RrmHs0 [] #[(.ref y)] h0 (QrmHs0 Z y x d kd cs h0) := by
  have ⟨hw, hEL, O2, P5, O4, P6, OA, OH, OB⟩ := hcx
  refine Met.start (a0 := a0) (Ls := #[vR y]) pn24 hEL O0 (fun m => by first | (simp [entryFrame, mkF, argsToLocals, Value.category]; done) | rfl) ?_
  intro p e s m below meth cc T0 vm0 X0 sf0_ hby hml hret hnm
  have hx := X0.hx
  have D : ∀ {n r}, decode B24 n = r → decode cc.code n = r := fun d => hb hby d
  have zz := X0.ge
  have A0 := X0.at
  have l1 := ltA Pr0.lt
  have l2 := ltA Pr2.lt
  have l3 := ltA Pr7.lt
  refine Gets.via (fun _ k => (XS.aloadN A0 hx rfl (D d24_0) rfl rfl k)) ?_
  refine X0.getF (host := "") (Or.inl (w62 hw)) Via.refl Pr1 rfl rfl (D d24_1) fun T4 X4 => ?_
  refine X4.callV (W := 0) (w145 hw) (w146 hw) (w148 hw) (w147 hw) (nfs rfl (w148 hw)) (by decide) (X4.payM (sf := []) (rmTs_0 hcx x d kd cs h0 X4.old Pr2 Pr3 Pr4 Pr5 Pr6 Pr7 Pr8 Pr9) sf0 (w149 hw) (w46 hw)) Pr2 rfl (sz hml rfl) (argsL := []) (rest := []) (lenOf pd35 rfl) rfl rfl (mroom rfl rfl) (D d24_4) (by decide) (by decide) fun T5 h5 vm5 v5 X5 C5 z5 q5 => ?_
  obtain ⟨a5, t5, kt5, rfl, K5, g5_0⟩ := q5
  have l6 := ltA g5_0.lt
  have l7 := ltA g5_0.lb
  exact X5.retA hret rfl rfl rfl (D d24_7) (by decide) (by decide) (fun vmE CE => ⟨a5, t5, kt5, rfl, ((Keep.refl h0 []).trans K5 all0), g5_0⟩)
abbrev RrmHs1 : Room := { frames := 6, cells := 2, slots := 20, locals := 95 }
def QrmHs1 (Z : State) (y : Addr) (x : Addr) (d : Addr) (kd : ClassId) (cs : List Int32) (h0 : Heap) (v : Option Value) (vm : Vm) (h : Heap) : Prop := ∃ (a : Addr) (t : Addr) (kt : ClassId), v = some (.ref a) ∧ Keep h0 h [] ∧ StrU Z h a t kt cs
theorem rmHs1 (hcx : Cx Z a0 zc fm) (y : Addr) (x : Addr) (d : Addr) (kd : ClassId) (cs : List Int32) (h0 : Heap) (O0 : Old Z Z.heap.size h0) (Pr0 : Exa Z h0 y "com/example/carve/carve/http/Html") (Pr1 : Fld Z h0 y "com/example/carve/carve/http/Html" "out" "Ljava/lang/StringBuilder;" (.ref x)) (Pr2 : Exa Z h0 x "java/lang/StringBuilder") (Pr3 : Fld Z h0 x "java/lang/AbstractStringBuilder" "value" "[B" (.ref d)) (Pr4 : Fld Z h0 x "java/lang/AbstractStringBuilder" "coder" "B" (.int (1 : Int32))) (Pr5 : Fld Z h0 x "java/lang/AbstractStringBuilder" "count" "I" (.int (Int32.ofNat (cs).length))) (Pr6 : Fld Z h0 x "java/lang/AbstractStringBuilder" "maybeLatin1" "Z" (.int (0 : Int32))) (Pr7 : Arv Z h0 d kd .byte (32 : Int32) (enc16 cs) (.int (0 : Int32))) (Pr8 : (cs).length ≤ 8) (Pr9 : ∀ z_ ∈ cs, ¬ z_ < 0 ∧ ¬ (65535 : Int32) < z_) : Met l Z consts_1 (⟨"com/example/carve/carve/http/Html", "toString", "()Ljava/lang/String;"⟩ : MethodName) prog_24_method_9_code 1 (some (.object "java/lang/String")) [] RrmHs1 [] #[(.ref y)] h0 (QrmHs1 Z y x d kd cs h0) := by
  have ⟨hw, hEL, O2, P5, O4, P6, OA, OH, OB⟩ := hcx
  refine Met.start (a0 := a0) (Ls := #[vR y]) pn24 hEL O0 (fun m => by first | (simp [entryFrame, mkF, argsToLocals, Value.category]; done) | rfl) ?_
  intro p e s m below meth cc T0 vm0 X0 sf0_ hby hml hret hnm
  have hx := X0.hx
  have D : ∀ {n r}, decode B24 n = r → decode cc.code n = r := fun d => hb hby d
  have zz := X0.ge
  have A0 := X0.at
  have l1 := ltA Pr0.lt
  have l2 := ltA Pr2.lt
  have l3 := ltA Pr7.lt
  refine Gets.via (fun _ k => (XS.aloadN A0 hx rfl (D d24_0) rfl rfl k)) ?_
  refine X0.getF (host := "") (Or.inl (w62 hw)) Via.refl Pr1 rfl rfl (D d24_1) fun T4 X4 => ?_
  refine X4.callV (W := 0) (w145 hw) (w146 hw) (w148 hw) (w147 hw) (nfs rfl (w148 hw)) (by decide) (X4.payM (sf := []) (rmTs_1 hcx x d kd cs h0 X4.old Pr2 Pr3 Pr4 Pr5 Pr6 Pr7 Pr8 Pr9) sf0 (w149 hw) (w46 hw)) Pr2 rfl (sz hml rfl) (argsL := []) (rest := []) (lenOf pd35 rfl) rfl rfl (mroom rfl rfl) (D d24_4) (by decide) (by decide) fun T5 h5 vm5 v5 X5 C5 z5 q5 => ?_
  obtain ⟨a5, t5, kt5, rfl, K5, g5_0⟩ := q5
  have l6 := ltA g5_0.lt
  have l7 := ltA g5_0.lb
  exact X5.retA hret rfl rfl rfl (D d24_7) (by decide) (by decide) (fun vmE CE => ⟨a5, t5, kt5, rfl, ((Keep.refl h0 []).trans K5 all0), g5_0⟩)
abbrev RrmLaw : Room := room_1
def QrmLaw (Z : State) (p0 : Int32) (p1 : Int64) (p2 : Int32) (h0 : Heap) (v : Option Value) (vm : Vm) (h : Heap) : Prop := v = some (.int (1 : Int32)) ∧ Keep h0 h []
theorem rmLaw (hcx : Cx Z a0 zc fm) (p0 : Int32) (p1 : Int64) (p2 : Int32) (h0 : Heap) (O0 : Old Z Z.heap.size h0)  : Met l Z consts_1 x code maxLocals ret tables_1 RrmLaw [] #[(.int p0), (.long p1), (.int p2)] h0 (QrmLaw Z p0 p1 p2 h0) := by
  have ⟨hw, hEL, O2, P5, O4, P6, OA, OH, OB⟩ := hcx
  refine Met.start (a0 := a0) (Ls := #[vI p0, .val (.long p1), .second, vI p2, .unset, .unset, .unset, .unset, .unset, .unset, .unset, .unset, .unset, .unset, .unset, .unset, .unset]) pn55 hEL O0 (fun m => by first | (simp [entryFrame, mkF, argsToLocals, Value.category, maxLocals]; done) | rfl) ?_
  intro p e s m below meth cc T0 vm0 X0 sf0_ hby hml hret hnm
  have hx := X0.hx
  have D : ∀ {n r}, decode code n = r → decode cc.code n = r := fun d => hb hby d
  have zz := X0.ge
  have A0 := X0.at
  refine Gets.via (fun _ k => (XS.iloadN A0 hx rfl (D at_0) rfl (XS.iconst A0 hx rfl (D at_1) (XS.iand A0 hx rfl (D at_2) rfl (XS.iconst A0 hx rfl (D at_3) (iremV A0 hx rfl (D at_4) rfl (by decide) (XS.istore A0 hx rfl (D at_5) rfl (l' := #[vI p0, .val (.long p1), .second, vI p2, vI ((p2 &&& (3 : Int32)) % (3 : Int32)), .unset, .unset, .unset, .unset, .unset, .unset, .unset, .unset, .unset, .unset, .unset, .unset]) rfl k))))))) ?_
  refine Gets.via (fun _ k => (XS.iloadN A0 hx rfl (D at_7) rfl (XS.iconst A0 hx rfl (D at_8) (XS.iushr A0 hx rfl (D at_9) rfl (XS.iconst A0 hx rfl (D at_10) (XS.iand A0 hx rfl (D at_11) rfl (XS.istore A0 hx rfl (D at_12) rfl (l' := #[vI p0, .val (.long p1), .second, vI p2, vI ((p2 &&& (3 : Int32)) % (3 : Int32)), vI ((Jvm.Free.XT.ushr p2 (2 : Int32)) &&& (3 : Int32)), .unset, .unset, .unset, .unset, .unset, .unset, .unset, .unset, .unset, .unset, .unset]) rfl k))))))) ?_
  show Gets p e below _ (T0.setTop (mkF m 14 #[vI p0, .val (.long p1), .second, vI p2, vI ((p2 &&& (3 : Int32)) % (3 : Int32)), vI ((Jvm.Free.XT.ushr p2 (2 : Int32)) &&& (3 : Int32)), .unset, .unset, .unset, .unset, .unset, .unset, .unset, .unset, .unset, .unset, .unset] []))
  refine Gets.via (fun _ k => (XS.iloadN A0 hx rfl (D at_14) rfl (XS.sipush A0 hx rfl (D at_15) (XS.iand A0 hx rfl (D at_18) rfl (i2cV A0 hx rfl (D at_19) rfl (v := (p0 &&& (255 : Int32))) (i2c_m255 _) (XS.istore A0 hx rfl (D at_20) rfl (l' := #[vI p0, .val (.long p1), .second, vI p2, vI ((p2 &&& (3 : Int32)) % (3 : Int32)), vI ((Jvm.Free.XT.ushr p2 (2 : Int32)) &&& (3 : Int32)), vI (p0 &&& (255 : Int32)), .unset, .unset, .unset, .unset, .unset, .unset, .unset, .unset, .unset, .unset]) rfl (XS.iloadN A0 hx rfl (D at_22) rfl k))))))) ?_
  refine Gets.via (fun _ k => (XS.bipush A0 hx rfl (D at_23) (XS.iushr A0 hx rfl (D at_25) rfl (XS.sipush A0 hx rfl (D at_26) (XS.iand A0 hx rfl (D at_29) rfl (i2cV A0 hx rfl (D at_30) rfl (v := ((Jvm.Free.XT.ushr p0 (8 : Int32)) &&& (255 : Int32))) (i2c_m255 _) (XS.istore A0 hx rfl (D at_31) rfl (l' := #[vI p0, .val (.long p1), .second, vI p2, vI ((p2 &&& (3 : Int32)) % (3 : Int32)), vI ((Jvm.Free.XT.ushr p2 (2 : Int32)) &&& (3 : Int32)), vI (p0 &&& (255 : Int32)), vI ((Jvm.Free.XT.ushr p0 (8 : Int32)) &&& (255 : Int32)), .unset, .unset, .unset, .unset, .unset, .unset, .unset, .unset, .unset]) rfl k))))))) ?_
  show Gets p e below _ (T0.setTop (mkF m 33 #[vI p0, .val (.long p1), .second, vI p2, vI ((p2 &&& (3 : Int32)) % (3 : Int32)), vI ((Jvm.Free.XT.ushr p2 (2 : Int32)) &&& (3 : Int32)), vI (p0 &&& (255 : Int32)), vI ((Jvm.Free.XT.ushr p0 (8 : Int32)) &&& (255 : Int32)), .unset, .unset, .unset, .unset, .unset, .unset, .unset, .unset, .unset] []))
  refine Gets.via (fun _ k => (XS.lloadN A0 hx rfl (D at_33) rfl (XS.l2i A0 hx rfl (D at_34) rfl (i2cV A0 hx rfl (D at_35) rfl (v := (i2c (p1.toInt32))) rfl (XS.istore A0 hx rfl (D at_36) rfl (l' := #[vI p0, .val (.long p1), .second, vI p2, vI ((p2 &&& (3 : Int32)) % (3 : Int32)), vI ((Jvm.Free.XT.ushr p2 (2 : Int32)) &&& (3 : Int32)), vI (p0 &&& (255 : Int32)), vI ((Jvm.Free.XT.ushr p0 (8 : Int32)) &&& (255 : Int32)), vI (i2c (p1.toInt32)), .unset, .unset, .unset, .unset, .unset, .unset, .unset, .unset]) rfl (XS.lloadN A0 hx rfl (D at_38) rfl (XS.bipush A0 hx rfl (D at_39) k))))))) ?_
  refine Gets.via (fun _ k => (Jvm.Free.XT.lushr A0 hx rfl (D at_41) rfl (XS.l2i A0 hx rfl (D at_42) rfl (i2cV A0 hx rfl (D at_43) rfl (v := (i2c ((Jvm.Free.XT.ushrL p1 (16 : Int32)).toInt32))) rfl (XS.istore A0 hx rfl (D at_44) rfl (l' := #[vI p0, .val (.long p1), .second, vI p2, vI ((p2 &&& (3 : Int32)) % (3 : Int32)), vI ((Jvm.Free.XT.ushr p2 (2 : Int32)) &&& (3 : Int32)), vI (p0 &&& (255 : Int32)), vI ((Jvm.Free.XT.ushr p0 (8 : Int32)) &&& (255 : Int32)), vI (i2c (p1.toInt32)), vI (i2c ((Jvm.Free.XT.ushrL p1 (16 : Int32)).toInt32)), .unset, .unset, .unset, .unset, .unset, .unset, .unset]) rfl (XS.lloadN A0 hx rfl (D at_46) rfl (XS.bipush A0 hx rfl (D at_47) k))))))) ?_
  show Gets p e below _ (T0.setTop (mkF m 49 #[vI p0, .val (.long p1), .second, vI p2, vI ((p2 &&& (3 : Int32)) % (3 : Int32)), vI ((Jvm.Free.XT.ushr p2 (2 : Int32)) &&& (3 : Int32)), vI (p0 &&& (255 : Int32)), vI ((Jvm.Free.XT.ushr p0 (8 : Int32)) &&& (255 : Int32)), vI (i2c (p1.toInt32)), vI (i2c ((Jvm.Free.XT.ushrL p1 (16 : Int32)).toInt32)), .unset, .unset, .unset, .unset, .unset, .unset, .unset] [(.int (32 : Int32)), (.long p1)]))
  refine Gets.via (fun _ k => (Jvm.Free.XT.lushr A0 hx rfl (D at_49) rfl (XS.l2i A0 hx rfl (D at_50) rfl (i2cV A0 hx rfl (D at_51) rfl (v := (i2c ((Jvm.Free.XT.ushrL p1 (32 : Int32)).toInt32))) rfl (XS.istore A0 hx rfl (D at_52) rfl (l' := #[vI p0, .val (.long p1), .second, vI p2, vI ((p2 &&& (3 : Int32)) % (3 : Int32)), vI ((Jvm.Free.XT.ushr p2 (2 : Int32)) &&& (3 : Int32)), vI (p0 &&& (255 : Int32)), vI ((Jvm.Free.XT.ushr p0 (8 : Int32)) &&& (255 : Int32)), vI (i2c (p1.toInt32)), vI (i2c ((Jvm.Free.XT.ushrL p1 (16 : Int32)).toInt32)), vI (i2c ((Jvm.Free.XT.ushrL p1 (32 : Int32)).toInt32)), .unset, .unset, .unset, .unset, .unset, .unset]) rfl k))))) ?_
  have j54 : ∀ (T1 : State) (X1 : Wk p l e RrmLaw s m #[(.int p0), (.long p1), (.int p2)] below meth cc x.cls Z a0 consts_1 h0 T1 h0 vm0 0 0) (n1 n2 q6 q7 q8 q9 q10 : Int32) (h1 : n1 = 0 ∨ n1 = 1 ∨ n1 = 2) (h2 : n2 = 0 ∨ n2 = 1 ∨ n2 = 2 ∨ n2 = 3) (rq6 : ¬ q6 < 0 ∧ ¬ (255 : Int32) < q6) (rq7 : ¬ q7 < 0 ∧ ¬ (255 : Int32) < q7) (rq8 : ¬ q8 < 0 ∧ ¬ (65535 : Int32) < q8) (rq9 : ¬ q9 < 0 ∧ ¬ (65535 : Int32) < q9) (rq10 : ¬ q10 < 0 ∧ ¬ (65535 : Int32) < q10), Gets p e below (Jvm.Ow.Out s Z consts_1 RrmLaw (QrmLaw Z p0 p1 p2 h0)) (T1.setTop (mkF m 54 #[vI p0, .val (.long p1), .second, vI p2, vI n1, vI n2, vI q6, vI q7, vI q8, vI q9, vI q10, .unset, .unset, .unset, .unset, .unset, .unset] [])) := by
    intro T1 X1 n1 n2 q6 q7 q8 q9 q10 h1 h2 rq6 rq7 rq8 rq9 rq10
    have A2 := X1.at
    refine Gets.via (fun _ k => (XS.iload A2 hx rfl (D at_54) rfl k)) ?_
    have j121 : ∀ (T3 : State) (h3 : Heap) (vm3 : Vm) (ya : Addr) (yb : Addr) (hm : Addr) (ra : Addr) (ds : List Int32) (X3 : Wk p l e RrmLaw s m #[(.int p0), (.long p1), (.int p2)] below meth cc x.cls Z a0 consts_1 h0 T3 h3 vm3 30 400) (K3 : Keep h0 h3 []) (j3_0 : Any Z h3 ra ds) (j3_1 : ds = clo n1 n2 q6 q7 q8 q9 q10), Gets p e below (Jvm.Ow.Out s Z consts_1 RrmLaw (QrmLaw Z p0 p1 p2 h0)) (T3.setTop (mkF m 121 #[vI p0, .val (.long p1), .second, vI p2, vI n1, vI n2, vI q6, vI q7, vI q8, vI q9, vI q10, vR ya, vR yb, vR hm, vR hm, vR ra, .unset] [])) := by
      intro T3 h3 vm3 ya yb hm ra ds X3 K3 j3_0 j3_1
      have z3 := K3.1
      have l4 := ltA j3_0.lt
      have A5 := X3.at
      refine Gets.via (fun _ k => (XS.aload A5 hx rfl (D at_121) rfl rfl k)) ?_
      obtain ⟨g0, g1, g2, g3, g4, g5, g6, g7, g8⟩ := cloG h1 h2 j3_1
      refine X3.callV (W := 0) (w186 hw) (w80 hw) (w82 hw) (w81 hw) (nfs rfl (w82 hw)) (by decide) (X3.payM (sf := []) (rmLenA hcx ra ds h3 X3.old j3_0) sf0 (w83 hw) (w6 hw)) j3_0.exa rfl (sz hml rfl) (argsL := []) (rest := []) (lenOf pd17 rfl) rfl rfl (mroom rfl rfl) (D at_123) (by decide) (by decide) fun T6 h6 vm6 v6 X6 C6 z6 q6 => ?_
      obtain ⟨rfl, K6⟩ := q6
      rw [K6] at X6 C6
      have A7 := X6.at
      refine Gets.via (fun _ k => (XS.iload A7 hx rfl (D at_126) rfl (XS.iload A7 hx rfl (D at_128) rfl (XS.iadd A7 hx rfl (D at_130) rfl (XS.iconst A7 hx rfl (D at_131) (XS.iadd A7 hx rfl (D at_132) rfl (XS.icmpYes A7 hx rfl (pc0 := 133) (pc' := 138) rfl (D at_133) rfl (Jvm.Free.XT.ii_eq_t g0) (by decide) (by decide) k))))))) ?_
      show Gets p e below _ (T6.setTop (mkF m 138 #[vI p0, .val (.long p1), .second, vI p2, vI n1, vI n2, vI q6, vI q7, vI q8, vI q9, vI q10, vR ya, vR yb, vR hm, vR hm, vR ra, .unset] []))
      refine Gets.via (fun _ k => (XS.iconst A7 hx rfl (D at_138) (XS.istore A7 hx rfl (D at_139) rfl (l' := #[vI p0, .val (.long p1), .second, vI p2, vI n1, vI n2, vI q6, vI q7, vI q8, vI q9, vI q10, vR ya, vR yb, vR hm, vR hm, vR ra, vI (1 : Int32)]) rfl (XS.iload A7 hx rfl (D at_141) rfl k)))) ?_
      have j169 : ∀ (T8 : State) (vm8 : Vm) (X8 : Wk p l e RrmLaw s m #[(.int p0), (.long p1), (.int p2)] below meth cc x.cls Z a0 consts_1 h0 T8 h3 vm8 30 400), Gets p e below (Jvm.Ow.Out s Z consts_1 RrmLaw (QrmLaw Z p0 p1 p2 h0)) (T8.setTop (mkF m 169 #[vI p0, .val (.long p1), .second, vI p2, vI n1, vI n2, vI q6, vI q7, vI q8, vI q9, vI q10, vR ya, vR yb, vR hm, vR hm, vR ra, vI (1 : Int32)] [])) := by
        intro T8 vm8 X8 
        have A9 := X8.at
        refine Gets.via (fun _ k => (XS.iload A9 hx rfl (D at_169) rfl (XS.iconst A9 hx rfl (D at_171) k))) ?_
        have j198 : ∀ (T10 : State) (vm10 : Vm) (X10 : Wk p l e RrmLaw s m #[(.int p0), (.long p1), (.int p2)] below meth cc x.cls Z a0 consts_1 h0 T10 h3 vm10 30 400), Gets p e below (Jvm.Ow.Out s Z consts_1 RrmLaw (QrmLaw Z p0 p1 p2 h0)) (T10.setTop (mkF m 198 #[vI p0, .val (.long p1), .second, vI p2, vI n1, vI n2, vI q6, vI q7, vI q8, vI q9, vI q10, vR ya, vR yb, vR hm, vR hm, vR ra, vI (1 : Int32)] [])) := by
          intro T10 vm10 X10 
          have A11 := X10.at
          refine Gets.via (fun _ k => (XS.iload A11 hx rfl (D at_198) rfl (XS.ifNo A11 hx rfl (D at_200) rfl (Jvm.Free.XT.i0_eq_f (by decide)) k))) ?_
          refine Gets.via (fun _ k => (XS.aload A11 hx rfl (D at_203) rfl rfl (XS.iload A11 hx rfl (D at_205) rfl k))) ?_
          refine X10.callV (W := 0) (w187 hw) (w188 hw) (w190 hw) (w189 hw) (nfs rfl (w190 hw)) (by decide) (X10.payM (sf := []) (rmChA hcx ra n1 n1.toNatClampNeg ds h3 X10.old j3_0 g3.1 g3.2.1) sf0 (w191 hw) (w6 hw)) j3_0.exa rfl (sz hml rfl) (argsL := [(.int n1)]) (rest := []) (lenOf pd36 rfl) rfl rfl (mroom rfl rfl) (D at_207) (by decide) (by decide) fun T12 h12 vm12 v12 X12 C12 z12 q12 => ?_
          obtain ⟨rfl, K12⟩ := q12
          rw [K12] at X12 C12
          show Gets p e below _ (T12.setTop (mkF m 210 #[vI p0, .val (.long p1), .second, vI p2, vI n1, vI n2, vI q6, vI q7, vI q8, vI q9, vI q10, vR ya, vR yb, vR hm, vR hm, vR ra, vI (1 : Int32)] [(.int (ds.getD n1.toNatClampNeg 0))]))
          have A13 := X12.at
          refine Gets.via (fun _ k => (XS.bipush A13 hx rfl (D at_210) (XS.icmpNo A13 hx rfl (D at_212) rfl (Jvm.Free.XT.ii_ne_f g3.2.2) k))) ?_
          refine Gets.via (fun _ k => (XS.aload A13 hx rfl (D at_215) rfl rfl (XS.iload A13 hx rfl (D at_217) rfl (XS.iconst A13 hx rfl (D at_219) (XS.iadd A13 hx rfl (D at_220) rfl k))))) ?_
          refine X12.callV (W := 0) (w187 hw) (w188 hw) (w190 hw) (w189 hw) (nfs rfl (w190 hw)) (by decide) (X12.payM (sf := []) (rmChA hcx ra (n1 + (1 : Int32)) ((n1 + (1 : Int32)).toNatClampNeg) ds h3 X12.old j3_0 g4.1 g4.2.1) sf0 (w191 hw) (w6 hw)) j3_0.exa rfl (sz hml rfl) (argsL := [(.int (n1 + (1 : Int32)))]) (rest := []) (lenOf pd36 rfl) rfl rfl (mroom rfl rfl) (D at_221) (by decide) (by decide) fun T14 h14 vm14 v14 X14 C14 z14 q14 => ?_
          obtain ⟨rfl, K14⟩ := q14
          rw [K14] at X14 C14
          have A15 := X14.at
          refine Gets.via (fun _ k => (XS.bipush A15 hx rfl (D at_224) (XS.icmpNo A15 hx rfl (D at_226) rfl (Jvm.Free.XT.ii_ne_f g4.2.2) k))) ?_
          refine Gets.via (fun _ k => (XS.iconst A15 hx rfl (D at_229) (XS.goto A15 hx rfl (pc0 := 230) (pc' := 234) rfl (D at_230) (by decide) (by decide) k))) ?_
          show Gets p e below _ (T14.setTop (mkF m 234 #[vI p0, .val (.long p1), .second, vI p2, vI n1, vI n2, vI q6, vI q7, vI q8, vI q9, vI q10, vR ya, vR yb, vR hm, vR hm, vR ra, vI (1 : Int32)] [(.int (1 : Int32))]))
          refine Gets.via (fun _ k => (XS.istore A15 hx rfl (D at_234) rfl (l' := #[vI p0, .val (.long p1), .second, vI p2, vI n1, vI n2, vI q6, vI q7, vI q8, vI q9, vI q10, vR ya, vR yb, vR hm, vR hm, vR ra, vI (1 : Int32)]) rfl (XS.iload A15 hx rfl (D at_236) rfl k))) ?_
          have j267 : ∀ (T16 : State) (vm16 : Vm) (X16 : Wk p l e RrmLaw s m #[(.int p0), (.long p1), (.int p2)] below meth cc x.cls Z a0 consts_1 h0 T16 h3 vm16 30 400), Gets p e below (Jvm.Ow.Out s Z consts_1 RrmLaw (QrmLaw Z p0 p1 p2 h0)) (T16.setTop (mkF m 267 #[vI p0, .val (.long p1), .second, vI p2, vI n1, vI n2, vI q6, vI q7, vI q8, vI q9, vI q10, vR ya, vR yb, vR hm, vR hm, vR ra, vI (1 : Int32)] [])) := by
            intro T16 vm16 X16 
            have A17 := X16.at
            refine Gets.via (fun _ k => (XS.iload A17 hx rfl (D at_267) rfl (XS.iconst A17 hx rfl (D at_269) k))) ?_
            have j299 : ∀ (T18 : State) (vm18 : Vm) (X18 : Wk p l e RrmLaw s m #[(.int p0), (.long p1), (.int p2)] below meth cc x.cls Z a0 consts_1 h0 T18 h3 vm18 30 400), Gets p e below (Jvm.Ow.Out s Z consts_1 RrmLaw (QrmLaw Z p0 p1 p2 h0)) (T18.setTop (mkF m 299 #[vI p0, .val (.long p1), .second, vI p2, vI n1, vI n2, vI q6, vI q7, vI q8, vI q9, vI q10, vR ya, vR yb, vR hm, vR hm, vR ra, vI (1 : Int32)] [])) := by
              intro T18 vm18 X18 
              have A19 := X18.at
              refine Gets.via (fun _ k => (XS.iload A19 hx rfl (D at_299) rfl (XS.iconst A19 hx rfl (D at_301) k))) ?_
              have j331 : ∀ (T20 : State) (vm20 : Vm) (X20 : Wk p l e RrmLaw s m #[(.int p0), (.long p1), (.int p2)] below meth cc x.cls Z a0 consts_1 h0 T20 h3 vm20 30 400), Gets p e below (Jvm.Ow.Out s Z consts_1 RrmLaw (QrmLaw Z p0 p1 p2 h0)) (T20.setTop (mkF m 331 #[vI p0, .val (.long p1), .second, vI p2, vI n1, vI n2, vI q6, vI q7, vI q8, vI q9, vI q10, vR ya, vR yb, vR hm, vR hm, vR ra, vI (1 : Int32)] [])) := by
                intro T20 vm20 X20 
                have A21 := X20.at
                refine Gets.via (fun _ k => (XS.iload A21 hx rfl (D at_331) rfl (XS.ifNo A21 hx rfl (D at_333) rfl (Jvm.Free.XT.i0_eq_f (by decide)) k))) ?_
                refine Gets.via (fun _ k => (XS.aload A21 hx rfl (D at_336) rfl rfl (XS.iload A21 hx rfl (D at_338) rfl (XS.iconst A21 hx rfl (D at_340) (XS.iadd A21 hx rfl (D at_341) rfl (XS.iload A21 hx rfl (D at_342) rfl (XS.iadd A21 hx rfl (D at_344) rfl k))))))) ?_
                show Gets p e below _ (T20.setTop (mkF m 345 #[vI p0, .val (.long p1), .second, vI p2, vI n1, vI n2, vI q6, vI q7, vI q8, vI q9, vI q10, vR ya, vR yb, vR hm, vR hm, vR ra, vI (1 : Int32)] [(.int ((n1 + (2 : Int32)) + n2)), (.ref ra)]))
                refine X20.callV (W := 0) (w187 hw) (w188 hw) (w190 hw) (w189 hw) (nfs rfl (w190 hw)) (by decide) (X20.payM (sf := []) (rmChA hcx ra ((n1 + (2 : Int32)) + n2) (((n1 + (2 : Int32)) + n2).toNatClampNeg) ds h3 X20.old j3_0 g8.1 g8.2.1) sf0 (w191 hw) (w6 hw)) j3_0.exa rfl (sz hml rfl) (argsL := [(.int ((n1 + (2 : Int32)) + n2))]) (rest := []) (lenOf pd36 rfl) rfl rfl (mroom rfl rfl) (D at_345) (by decide) (by decide) fun T22 h22 vm22 v22 X22 C22 z22 q22 => ?_
                obtain ⟨rfl, K22⟩ := q22
                rw [K22] at X22 C22
                have A23 := X22.at
                refine Gets.via (fun _ k => (XS.bipush A23 hx rfl (D at_348) (XS.icmpNo A23 hx rfl (D at_350) rfl (Jvm.Free.XT.ii_ne_f g8.2.2) k))) ?_
                refine Gets.via (fun _ k => (XS.iconst A23 hx rfl (D at_353) (XS.goto A23 hx rfl (pc0 := 354) (pc' := 358) rfl (D at_354) (by decide) (by decide) k))) ?_
                refine Gets.via (fun _ k => (XS.istore A23 hx rfl (D at_358) rfl (l' := #[vI p0, .val (.long p1), .second, vI p2, vI n1, vI n2, vI q6, vI q7, vI q8, vI q9, vI q10, vR ya, vR yb, vR hm, vR hm, vR ra, vI (1 : Int32)]) rfl (XS.iload A23 hx rfl (D at_360) rfl k))) ?_
                exact X22.retI hret (by decide) (by simp) (D at_362) (by decide) (by decide) (fun vmE CE => ⟨rfl, ((Keep.refl h0 []).trans K3 all0)⟩)
              by_cases b302 : (2 : Int32) < n2
              · refine Gets.via (fun _ k => (XS.icmpNo A19 hx rfl (D at_302) rfl (Jvm.Free.XT.ii_le_f b302) k)) ?_
                refine Gets.via (fun _ k => (XS.iload A19 hx rfl (D at_305) rfl (XS.ifNo A19 hx rfl (D at_307) rfl (Jvm.Free.XT.i0_eq_f (by decide)) k))) ?_
                show Gets p e below _ (T18.setTop (mkF m 310 #[vI p0, .val (.long p1), .second, vI p2, vI n1, vI n2, vI q6, vI q7, vI q8, vI q9, vI q10, vR ya, vR yb, vR hm, vR hm, vR ra, vI (1 : Int32)] []))
                refine Gets.via (fun _ k => (XS.aload A19 hx rfl (D at_310) rfl rfl (XS.iload A19 hx rfl (D at_312) rfl (XS.iconst A19 hx rfl (D at_314) (XS.iadd A19 hx rfl (D at_315) rfl k))))) ?_
                refine X18.callV (W := 0) (w187 hw) (w188 hw) (w190 hw) (w189 hw) (nfs rfl (w190 hw)) (by decide) (X18.payM (sf := []) (rmChA hcx ra (n1 + (4 : Int32)) ((n1 + (4 : Int32)).toNatClampNeg) ds h3 X18.old j3_0 ((g7 b302).1) ((g7 b302).2.1)) sf0 (w191 hw) (w6 hw)) j3_0.exa rfl (sz hml rfl) (argsL := [(.int (n1 + (4 : Int32)))]) (rest := []) (lenOf pd36 rfl) rfl rfl (mroom rfl rfl) (D at_316) (by decide) (by decide) fun T24 h24 vm24 v24 X24 C24 z24 q24 => ?_
                obtain ⟨rfl, K24⟩ := q24
                rw [K24] at X24 C24
                have A25 := X24.at
                refine Gets.via (fun _ k => (XS.iload A25 hx rfl (D at_319) rfl (XS.icmpNo A25 hx rfl (D at_321) rfl (Jvm.Free.XT.ii_ne_f (g7 b302).2.2) k))) ?_
                refine Gets.via (fun _ k => (XS.iconst A25 hx rfl (D at_324) (XS.goto A25 hx rfl (pc0 := 325) (pc' := 329) rfl (D at_325) (by decide) (by decide) k))) ?_
                refine Gets.via (fun _ k => (XS.istore A25 hx rfl (D at_329) rfl (l' := #[vI p0, .val (.long p1), .second, vI p2, vI n1, vI n2, vI q6, vI q7, vI q8, vI q9, vI q10, vR ya, vR yb, vR hm, vR hm, vR ra, vI (1 : Int32)]) rfl k)) ?_
                show Gets p e below _ (T24.setTop (mkF m 331 #[vI p0, .val (.long p1), .second, vI p2, vI n1, vI n2, vI q6, vI q7, vI q8, vI q9, vI q10, vR ya, vR yb, vR hm, vR hm, vR ra, vI (1 : Int32)] []))
                exact j331 T24 vm24 X24
              · refine Gets.via (fun _ k => (XS.icmpYes A19 hx rfl (pc0 := 302) (pc' := 331) rfl (D at_302) rfl (Jvm.Free.XT.ii_le_t b302) (by decide) (by decide) k)) ?_
                exact j331 T18 vm18 X18
            by_cases b270 : (1 : Int32) < n2
            · refine Gets.via (fun _ k => (XS.icmpNo A17 hx rfl (D at_270) rfl (Jvm.Free.XT.ii_le_f b270) k)) ?_
              refine Gets.via (fun _ k => (XS.iload A17 hx rfl (D at_273) rfl (XS.ifNo A17 hx rfl (D at_275) rfl (Jvm.Free.XT.i0_eq_f (by decide)) k))) ?_
              refine Gets.via (fun _ k => (XS.aload A17 hx rfl (D at_278) rfl rfl (XS.iload A17 hx rfl (D at_280) rfl (XS.iconst A17 hx rfl (D at_282) (XS.iadd A17 hx rfl (D at_283) rfl k))))) ?_
              refine X16.callV (W := 0) (w187 hw) (w188 hw) (w190 hw) (w189 hw) (nfs rfl (w190 hw)) (by decide) (X16.payM (sf := []) (rmChA hcx ra (n1 + (3 : Int32)) ((n1 + (3 : Int32)).toNatClampNeg) ds h3 X16.old j3_0 ((g6 b270).1) ((g6 b270).2.1)) sf0 (w191 hw) (w6 hw)) j3_0.exa rfl (sz hml rfl) (argsL := [(.int (n1 + (3 : Int32)))]) (rest := []) (lenOf pd36 rfl) rfl rfl (mroom rfl rfl) (D at_284) (by decide) (by decide) fun T26 h26 vm26 v26 X26 C26 z26 q26 => ?_
              obtain ⟨rfl, K26⟩ := q26
              rw [K26] at X26 C26
              have A27 := X26.at
              refine Gets.via (fun _ k => (XS.iload A27 hx rfl (D at_287) rfl (XS.icmpNo A27 hx rfl (D at_289) rfl (Jvm.Free.XT.ii_ne_f (g6 b270).2.2) k))) ?_
              show Gets p e below _ (T26.setTop (mkF m 292 #[vI p0, .val (.long p1), .second, vI p2, vI n1, vI n2, vI q6, vI q7, vI q8, vI q9, vI q10, vR ya, vR yb, vR hm, vR hm, vR ra, vI (1 : Int32)] []))
              refine Gets.via (fun _ k => (XS.iconst A27 hx rfl (D at_292) (XS.goto A27 hx rfl (pc0 := 293) (pc' := 297) rfl (D at_293) (by decide) (by decide) k))) ?_
              refine Gets.via (fun _ k => (XS.istore A27 hx rfl (D at_297) rfl (l' := #[vI p0, .val (.long p1), .second, vI p2, vI n1, vI n2, vI q6, vI q7, vI q8, vI q9, vI q10, vR ya, vR yb, vR hm, vR hm, vR ra, vI (1 : Int32)]) rfl k)) ?_
              exact j299 T26 vm26 X26
            · refine Gets.via (fun _ k => (XS.icmpYes A17 hx rfl (pc0 := 270) (pc' := 299) rfl (D at_270) rfl (Jvm.Free.XT.ii_le_t b270) (by decide) (by decide) k)) ?_
              exact j299 T16 vm16 X16
          by_cases b238 : (0 : Int32) < n2
          · refine Gets.via (fun _ k => (XS.ifNo A15 hx rfl (D at_238) rfl (Jvm.Free.XT.i0_le_f b238) k)) ?_
            refine Gets.via (fun _ k => (XS.iload A15 hx rfl (D at_241) rfl (XS.ifNo A15 hx rfl (D at_243) rfl (Jvm.Free.XT.i0_eq_f (by decide)) k))) ?_
            refine Gets.via (fun _ k => (XS.aload A15 hx rfl (D at_246) rfl rfl (XS.iload A15 hx rfl (D at_248) rfl (XS.iconst A15 hx rfl (D at_250) (XS.iadd A15 hx rfl (D at_251) rfl k))))) ?_
            refine X14.callV (W := 0) (w187 hw) (w188 hw) (w190 hw) (w189 hw) (nfs rfl (w190 hw)) (by decide) (X14.payM (sf := []) (rmChA hcx ra (n1 + (2 : Int32)) ((n1 + (2 : Int32)).toNatClampNeg) ds h3 X14.old j3_0 ((g5 b238).1) ((g5 b238).2.1)) sf0 (w191 hw) (w6 hw)) j3_0.exa rfl (sz hml rfl) (argsL := [(.int (n1 + (2 : Int32)))]) (rest := []) (lenOf pd36 rfl) rfl rfl (mroom rfl rfl) (D at_252) (by decide) (by decide) fun T28 h28 vm28 v28 X28 C28 z28 q28 => ?_
            obtain ⟨rfl, K28⟩ := q28
            rw [K28] at X28 C28
            show Gets p e below _ (T28.setTop (mkF m 255 #[vI p0, .val (.long p1), .second, vI p2, vI n1, vI n2, vI q6, vI q7, vI q8, vI q9, vI q10, vR ya, vR yb, vR hm, vR hm, vR ra, vI (1 : Int32)] [(.int (ds.getD (n1 + (2 : Int32)).toNatClampNeg 0))]))
            have A29 := X28.at
            refine Gets.via (fun _ k => (XS.iload A29 hx rfl (D at_255) rfl (XS.icmpNo A29 hx rfl (D at_257) rfl (Jvm.Free.XT.ii_ne_f (g5 b238).2.2) k))) ?_
            refine Gets.via (fun _ k => (XS.iconst A29 hx rfl (D at_260) (XS.goto A29 hx rfl (pc0 := 261) (pc' := 265) rfl (D at_261) (by decide) (by decide) k))) ?_
            refine Gets.via (fun _ k => (XS.istore A29 hx rfl (D at_265) rfl (l' := #[vI p0, .val (.long p1), .second, vI p2, vI n1, vI n2, vI q6, vI q7, vI q8, vI q9, vI q10, vR ya, vR yb, vR hm, vR hm, vR ra, vI (1 : Int32)]) rfl k)) ?_
            exact j267 T28 vm28 X28
          · refine Gets.via (fun _ k => (XS.ifYes A15 hx rfl (pc0 := 238) (pc' := 267) rfl (D at_238) rfl (Jvm.Free.XT.i0_le_t b238) (by decide) (by decide) k)) ?_
            exact j267 T14 vm14 X14
        by_cases b172 : (1 : Int32) < n1
        · refine Gets.via (fun _ k => (XS.icmpNo A9 hx rfl (D at_172) rfl (Jvm.Free.XT.ii_le_f b172) k)) ?_
          refine Gets.via (fun _ k => (XS.iload A9 hx rfl (D at_175) rfl (XS.ifNo A9 hx rfl (D at_177) rfl (Jvm.Free.XT.i0_eq_f (by decide)) k))) ?_
          refine Gets.via (fun _ k => (XS.aload A9 hx rfl (D at_180) rfl rfl (XS.iconst A9 hx rfl (D at_182) k))) ?_
          refine X8.callV (W := 0) (w187 hw) (w188 hw) (w190 hw) (w189 hw) (nfs rfl (w190 hw)) (by decide) (X8.payM (sf := []) (rmChA hcx ra (1 : Int32) ((1 : Int32).toNatClampNeg) ds h3 X8.old j3_0 ((g2 b172).1) ((g2 b172).2.1)) sf0 (w191 hw) (w6 hw)) j3_0.exa rfl (sz hml rfl) (argsL := [(.int (1 : Int32))]) (rest := []) (lenOf pd36 rfl) rfl rfl (mroom rfl rfl) (D at_183) (by decide) (by decide) fun T30 h30 vm30 v30 X30 C30 z30 q30 => ?_
          obtain ⟨rfl, K30⟩ := q30
          rw [K30] at X30 C30
          show Gets p e below _ (T30.setTop (mkF m 186 #[vI p0, .val (.long p1), .second, vI p2, vI n1, vI n2, vI q6, vI q7, vI q8, vI q9, vI q10, vR ya, vR yb, vR hm, vR hm, vR ra, vI (1 : Int32)] [(.int (ds.getD (1 : Int32).toNatClampNeg 0))]))
          have A31 := X30.at
          refine Gets.via (fun _ k => (XS.iload A31 hx rfl (D at_186) rfl (XS.icmpNo A31 hx rfl (D at_188) rfl (Jvm.Free.XT.ii_ne_f (g2 b172).2.2) k))) ?_
          refine Gets.via (fun _ k => (XS.iconst A31 hx rfl (D at_191) (XS.goto A31 hx rfl (pc0 := 192) (pc' := 196) rfl (D at_192) (by decide) (by decide) k))) ?_
          refine Gets.via (fun _ k => (XS.istore A31 hx rfl (D at_196) rfl (l' := #[vI p0, .val (.long p1), .second, vI p2, vI n1, vI n2, vI q6, vI q7, vI q8, vI q9, vI q10, vR ya, vR yb, vR hm, vR hm, vR ra, vI (1 : Int32)]) rfl k)) ?_
          exact j198 T30 vm30 X30
        · refine Gets.via (fun _ k => (XS.icmpYes A9 hx rfl (pc0 := 172) (pc' := 198) rfl (D at_172) rfl (Jvm.Free.XT.ii_le_t b172) (by decide) (by decide) k)) ?_
          exact j198 T8 vm8 X8
      by_cases b143 : (0 : Int32) < n1
      · refine Gets.via (fun _ k => (XS.ifNo A7 hx rfl (D at_143) rfl (Jvm.Free.XT.i0_le_f b143) k)) ?_
        refine Gets.via (fun _ k => (XS.iload A7 hx rfl (D at_146) rfl (XS.ifNo A7 hx rfl (D at_148) rfl (Jvm.Free.XT.i0_eq_f (by decide)) k))) ?_
        refine Gets.via (fun _ k => (XS.aload A7 hx rfl (D at_151) rfl rfl (XS.iconst A7 hx rfl (D at_153) k))) ?_
        refine X6.callV (W := 0) (w187 hw) (w188 hw) (w190 hw) (w189 hw) (nfs rfl (w190 hw)) (by decide) (X6.payM (sf := []) (rmChA hcx ra (0 : Int32) ((0 : Int32).toNatClampNeg) ds h3 X6.old j3_0 ((g1 b143).1) ((g1 b143).2.1)) sf0 (w191 hw) (w6 hw)) j3_0.exa rfl (sz hml rfl) (argsL := [(.int (0 : Int32))]) (rest := []) (lenOf pd36 rfl) rfl rfl (mroom rfl rfl) (D at_154) (by decide) (by decide) fun T32 h32 vm32 v32 X32 C32 z32 q32 => ?_
        obtain ⟨rfl, K32⟩ := q32
        rw [K32] at X32 C32
        show Gets p e below _ (T32.setTop (mkF m 157 #[vI p0, .val (.long p1), .second, vI p2, vI n1, vI n2, vI q6, vI q7, vI q8, vI q9, vI q10, vR ya, vR yb, vR hm, vR hm, vR ra, vI (1 : Int32)] [(.int (ds.getD (0 : Int32).toNatClampNeg 0))]))
        have A33 := X32.at
        refine Gets.via (fun _ k => (XS.iload A33 hx rfl (D at_157) rfl (XS.icmpNo A33 hx rfl (D at_159) rfl (Jvm.Free.XT.ii_ne_f (g1 b143).2.2) k))) ?_
        refine Gets.via (fun _ k => (XS.iconst A33 hx rfl (D at_162) (XS.goto A33 hx rfl (pc0 := 163) (pc' := 167) rfl (D at_163) (by decide) (by decide) k))) ?_
        refine Gets.via (fun _ k => (XS.istore A33 hx rfl (D at_167) rfl (l' := #[vI p0, .val (.long p1), .second, vI p2, vI n1, vI n2, vI q6, vI q7, vI q8, vI q9, vI q10, vR ya, vR yb, vR hm, vR hm, vR ra, vI (1 : Int32)]) rfl k)) ?_
        exact j169 T32 vm32 X32
      · refine Gets.via (fun _ k => (XS.ifYes A7 hx rfl (pc0 := 143) (pc' := 169) rfl (D at_143) rfl (Jvm.Free.XT.i0_le_t b143) (by decide) (by decide) k)) ?_
        exact j169 T6 vm6 X6
    have j79L : ∀ (T34 : State) (h34 : Heap) (vm34 : Vm) (ya : Addr) (b1 : Addr) (k1 : ClassId) (cs : List Int32) (yb : Addr) (b2 : Addr) (k2 : ClassId) (ds : List Int32) (X34 : Wk p l e RrmLaw s m #[(.int p0), (.long p1), (.int p2)] below meth cc x.cls Z a0 consts_1 h0 T34 h34 vm34 14 200) (K34 : Keep h0 h34 []) (j34_0 : Str Z h34 ya b1 k1 cs) (j34_1 : Str Z h34 yb b2 k2 ds) (j34_2 : cs = [q6, q7].take n1.toNatClampNeg) (j34_3 : (cs).length ≤ 2) (j34_4 : ds = [q8, q9, q10].take n2.toNatClampNeg) (j34_5 : (ds).length ≤ 3), Gets p e below (Jvm.Ow.Out s Z consts_1 RrmLaw (QrmLaw Z p0 p1 p2 h0)) (T34.setTop (mkF m 79 #[vI p0, .val (.long p1), .second, vI p2, vI n1, vI n2, vI q6, vI q7, vI q8, vI q9, vI q10, vR ya, vR yb, .unset, .unset, .unset, .unset] [])) := by
      intro T34 h34 vm34 ya b1 k1 cs yb b2 k2 ds X34 K34 j34_0 j34_1 j34_2 j34_3 j34_4 j34_5
      have z34 := K34.1
      have l35 := ltA j34_0.lt
      have l36 := ltA j34_0.lb
      have l37 := ltA j34_1.lt
      have l38 := ltA j34_1.lb
      refine X34.new (w37 hw) (w38 hw) (w39 hw) rfl (D at_79) (by decide) (by decide) fun T39 h39 a39 X39 C39 E39 g39 Z39 S39 D39 => ?_
      have z39 := E39.1
      have l39 := ltA Z39.lt
      have A40 := X39.at
      refine Gets.via (fun _ k => (XS.dup A40 hx rfl (D at_82) rfl rfl k)) ?_
      refine X39.callI (y := (⟨"com/example/carve/carve/http/Html", "<init>", "()V"⟩ : MethodName)) (W := 1) rfl (w40 hw) (w41 hw) (w42 hw) (by decide) (X39.payM (sf := []) (rm7 hcx a39 h39 X39.old Z39 (D39 (Or.inr (w63 hw)) (ty := (.object "java/lang/StringBuilder")) (by decide) : Fld Z h39 a39 "com/example/carve/carve/http/Html" "out" "Ljava/lang/StringBuilder;" .null) (leA (by omega))) sf0 (w42 hw) (w39 hw)) rfl (sz hml rfl) (a := a39) (argsL := []) (rest := [(.ref a39)]) (lenOf pd28 rfl) rfl rfl (mroom rfl rfl) (D at_83) (by decide) (by decide) fun T41 h41 vm41 v41 X41 C41 z41 q41 => ?_
      obtain ⟨x41, d41, kd41, rfl, K41, g41_0, g41_1, g41_2, g41_3, g41_4, g41_5, g41_6, g41_7, g41_8, g41_9, g41_10, g41_11⟩ := q41
      have l42 := ltA g41_0.lt
      have l43 := ltA g41_2.lt
      have l44 := ltA g41_7.lt
      have l45 := neA g41_11
      show Gets p e below _ (T41.setTop (mkF m 86 #[vI p0, .val (.long p1), .second, vI p2, vI n1, vI n2, vI q6, vI q7, vI q8, vI q9, vI q10, vR ya, vR yb, .unset, .unset, .unset, .unset] [(.ref a39)]))
      have A46 := X41.at
      refine Gets.via (fun _ k => (XS.astore A46 hx rfl (D at_86) rfl rfl (l' := #[vI p0, .val (.long p1), .second, vI p2, vI n1, vI n2, vI q6, vI q7, vI q8, vI q9, vI q10, vR ya, vR yb, vR a39, .unset, .unset, .unset]) rfl (XS.aload A46 hx rfl (D at_88) rfl rfl (XS.aload A46 hx rfl (D at_90) rfl rfl k)))) ?_
      have f47 : Str Z h39 ya b1 k1 cs := j34_0.ext E39
      have l48 := neA (Exa.ne f47.1 Z39 (by decide))
      have f49 : Str Z h41 ya b1 k1 cs := f47.keep K41 (ninS (neA (by omega)) nin0) (ninS (neA (by omega)) nin0)
      refine X41.callV (W := 0) (w64 hw) (w65 hw) (w67 hw) (w66 hw) (nfs rfl (w67 hw)) (by decide) (X41.payM (sf := [d41]) (rmMark hcx a39 ya x41 d41 kd41 ([] : List Int32) b1 k1 cs h41 X41.old g41_0 g41_1 g41_2 g41_3 g41_4 g41_5 g41_6 g41_7 f49 (by simp only [List.length_append, List.length_cons, List.length_nil]; omega) (leA (by omega)) (leA (by omega)) g41_11) (sfS g41_8 sf0) (w68 hw) (w39 hw)) g41_0 rfl (sz hml rfl) (argsL := [(.ref ya)]) (rest := []) (lenOf pd37 rfl) rfl rfl (mroom rfl rfl) (D at_92) (by decide) (by decide) fun T50 h50 vm50 v50 X50 C50 z50 q50 => ?_
      obtain ⟨rfl, K50, g50_0, g50_1, g50_2, g50_3, g50_4, g50_5⟩ := q50
      have l51 := ltA g50_0.lt
      have l52 := ltA g50_5.lt
      have A53 := X50.at
      refine Gets.via (fun _ k => (XS.pop A53 hx rfl (D at_95) rfl rfl k)) ?_
      have f54 := g41_1.keep K50 (ninS (neA (by omega)) (ninS (neA (by omega)) nin0))
      have f55 : Fld Z h50 x41 "java/lang/AbstractStringBuilder" "count" "I" (.int (Int32.ofNat (cs).length)) := g50_3
      have f56 : Arv Z h50 d41 kd41 .byte (16 : Int32) ((cs.map fun c => c.toInt8.toInt32).map Value.int) (.int (0 : Int32)) := g50_5
      refine Gets.via (fun _ k => (XS.aload A53 hx rfl (D at_96) rfl rfl (XS.aload A53 hx rfl (D at_98) rfl rfl k))) ?_
      have f57 := g41_0.keep K50
      have f58 : Str Z h39 yb b2 k2 ds := j34_1.ext E39
      have l59 := neA (Exa.ne f58.1 Z39 (by decide))
      have f60 : Str Z h41 yb b2 k2 ds := f58.keep K41 (ninS (neA (by omega)) nin0) (ninS (neA (by omega)) nin0)
      have l61 := neA (Exa.ne f60.1 g41_2 (by decide))
      have f62 : Str Z h50 yb b2 k2 ds := f60.keep K50 (ninS (neA (by omega)) (ninS (neA (by omega)) nin0)) (ninS (neA (by omega)) (ninS (neA (by omega)) nin0))
      have f63 := C50.safe (x := d41) (ltA (by omega)) g41_8
      refine X50.callV (W := 0) (w116 hw) (w117 hw) (w119 hw) (w118 hw) (nfs rfl (w119 hw)) (by decide) (X50.payM (sf := [d41]) (rmCloseL hcx a39 yb x41 d41 kd41 cs b2 k2 ds h50 X50.old f57 f54 g50_0 g50_1 g50_2 f55 g50_4 f56 f62 j34_3 j34_5 (neA (by omega)) (neA (by omega)) (neA (by omega)) (neA (by omega)) (leA (by omega)) (leA (by omega)) g41_11) (sfS f63 sf0) (w120 hw) (w39 hw)) f57 rfl (sz hml rfl) (argsL := [(.ref yb)]) (rest := []) (lenOf pd37 rfl) rfl rfl (mroom rfl rfl) (D at_100) (by decide) (by decide) fun T64 h64 vm64 v64 X64 C64 z64 q64 => ?_
      obtain ⟨rfl, K64, g64_0, g64_1, g64_2, g64_3, g64_4, g64_5⟩ := q64
      have l65 := ltA g64_0.lt
      have l66 := ltA g64_5.lt
      show Gets p e below _ (T64.setTop (mkF m 103 #[vI p0, .val (.long p1), .second, vI p2, vI n1, vI n2, vI q6, vI q7, vI q8, vI q9, vI q10, vR ya, vR yb, vR a39, .unset, .unset, .unset] [(.ref a39)]))
      have A67 := X64.at
      refine Gets.via (fun _ k => (XS.astore A67 hx rfl (D at_103) rfl rfl (l' := #[vI p0, .val (.long p1), .second, vI p2, vI n1, vI n2, vI q6, vI q7, vI q8, vI q9, vI q10, vR ya, vR yb, vR a39, vR a39, .unset, .unset]) rfl (XS.aload A67 hx rfl (D at_105) rfl rfl (XS.aload A67 hx rfl (D at_107) rfl rfl k)))) ?_
      refine X64.acmpW hx rfl rfl rfl (pc0 := 109) (pc' := 114) (same := true) rfl (D at_109) rfl (by simp) (by decide) (by decide) ?_
      refine Gets.via (fun _ k => (XS.aload A67 hx rfl (D at_114) rfl rfl k)) ?_
      have f68 := f54.keep K64 (ninS (neA (by omega)) (ninS (neA (by omega)) nin0))
      have l69 := neA (Exa.ne f49.1 g41_2 (by decide))
      have f70 : Str Z h50 ya b1 k1 cs := f49.keep K50 (ninS (neA (by omega)) (ninS (neA (by omega)) nin0)) (ninS (neA (by omega)) (ninS (neA (by omega)) nin0))
      have f71 : Str Z h64 ya b1 k1 cs := f70.keep K64 (ninS (neA (by omega)) (ninS (neA (by omega)) nin0)) (ninS (neA (by omega)) (ninS (neA (by omega)) nin0))
      have f72 : Str Z h64 yb b2 k2 ds := f62.keep K64 (ninS (neA (by omega)) (ninS (neA (by omega)) nin0)) (ninS (neA (by omega)) (ninS (neA (by omega)) nin0))
      have hR : ∀ z_ ∈ (((cs ++ [(60 : Int32), (47 : Int32)]) ++ ds) ++ [(62 : Int32)]), ¬ z_ < 0 ∧ ¬ (255 : Int32) < z_ := allA (allA (allA f71.2.2.2.2.1 (allI ⟨by decide, by decide⟩ (allI ⟨by decide, by decide⟩ allN))) f72.2.2.2.2.1) (allI ⟨by decide, by decide⟩ allN)
      have e1 := j34_2
      have e2 := j34_4
      have f73 := f57.keep K64
      refine X64.callV (W := 0) (w140 hw) (w141 hw) (w143 hw) (w142 hw) (nfs rfl (w143 hw)) (by decide) (X64.payM (sf := []) (rmHs0 hcx a39 x41 d41 kd41 (((cs ++ [(60 : Int32), (47 : Int32)]) ++ ds) ++ [(62 : Int32)]) h64 X64.old f73 f68 g64_0 g64_1 g64_2 g64_3 g64_4 g64_5 (by simp only [List.length_append, List.length_cons, List.length_nil]; omega) hR) sf0 (w144 hw) (w39 hw)) f73 rfl (sz hml rfl) (argsL := []) (rest := []) (lenOf pd35 rfl) rfl rfl (mroom rfl rfl) (D at_116) (by decide) (by decide) fun T74 h74 vm74 v74 X74 C74 z74 q74 => ?_
      obtain ⟨a74, t74, kt74, rfl, K74, g74_0⟩ := q74
      have l75 := ltA g74_0.lt
      have l76 := ltA g74_0.lb
      have A77 := X74.at
      refine Gets.via (fun _ k => (XS.astore A77 hx rfl (D at_119) rfl rfl (l' := #[vI p0, .val (.long p1), .second, vI p2, vI n1, vI n2, vI q6, vI q7, vI q8, vI q9, vI q10, vR ya, vR yb, vR a39, vR a39, vR a74, .unset]) rfl k)) ?_
      have f78 : Any Z h74 a74 (((cs ++ [(60 : Int32), (47 : Int32)]) ++ ds) ++ [(62 : Int32)]) := Or.inl ⟨_, _, g74_0⟩
      exact j121 T74 h74 vm74 ya yb a39 a74 (((cs ++ [(60 : Int32), (47 : Int32)]) ++ ds) ++ [(62 : Int32)]) (X74.more (by decide) (by decide)) (((((((Keep.refl h0 []).trans K34 all0).ext E39).trans K41 (allS (Or.inr (leA (by omega))) all0)).trans K50 (allS (Or.inr (leA (by omega))) (allS (Or.inr (leA (by omega))) all0))).trans K64 (allS (Or.inr (leA (by omega))) (allS (Or.inr (leA (by omega))) all0))).trans K74 all0) f78 (by rw [e1, e2]; rfl)
    have j790 : ∀ (T79 : State) (h79 : Heap) (vm79 : Vm) (ya : Addr) (b1 : Addr) (k1 : ClassId) (yb : Addr) (b2 : Addr) (k2 : ClassId) (ds : List Int32) (X79 : Wk p l e RrmLaw s m #[(.int p0), (.long p1), (.int p2)] below meth cc x.cls Z a0 consts_1 h0 T79 h79 vm79 14 200) (K79 : Keep h0 h79 []) (j79_0 : Str Z h79 ya b1 k1 []) (j79_1 : StrU Z h79 yb b2 k2 ds) (j79_2 : n1 = (0 : Int32)) (j79_3 : ds = [q8, q9, q10].take n2.toNatClampNeg) (j79_4 : (ds).length ≤ 3), Gets p e below (Jvm.Ow.Out s Z consts_1 RrmLaw (QrmLaw Z p0 p1 p2 h0)) (T79.setTop (mkF m 79 #[vI p0, .val (.long p1), .second, vI p2, vI n1, vI n2, vI q6, vI q7, vI q8, vI q9, vI q10, vR ya, vR yb, .unset, .unset, .unset, .unset] [])) := by
      intro T79 h79 vm79 ya b1 k1 yb b2 k2 ds X79 K79 j79_0 j79_1 j79_2 j79_3 j79_4
      have z79 := K79.1
      have l80 := ltA j79_0.lt
      have l81 := ltA j79_0.lb
      have l82 := ltA j79_1.lt
      have l83 := ltA j79_1.lb
      refine X79.new (w37 hw) (w38 hw) (w39 hw) rfl (D at_79) (by decide) (by decide) fun T84 h84 a84 X84 C84 E84 g84 Z84 S84 D84 => ?_
      have z84 := E84.1
      have l84 := ltA Z84.lt
      show Gets p e below _ (T84.setTop (mkF m 82 #[vI p0, .val (.long p1), .second, vI p2, vI n1, vI n2, vI q6, vI q7, vI q8, vI q9, vI q10, vR ya, vR yb, .unset, .unset, .unset, .unset] [(.ref a84)]))
      have A85 := X84.at
      refine Gets.via (fun _ k => (XS.dup A85 hx rfl (D at_82) rfl rfl k)) ?_
      refine X84.callI (y := (⟨"com/example/carve/carve/http/Html", "<init>", "()V"⟩ : MethodName)) (W := 1) rfl (w40 hw) (w41 hw) (w42 hw) (by decide) (X84.payM (sf := []) (rm7 hcx a84 h84 X84.old Z84 (D84 (Or.inr (w63 hw)) (ty := (.object "java/lang/StringBuilder")) (by decide) : Fld Z h84 a84 "com/example/carve/carve/http/Html" "out" "Ljava/lang/StringBuilder;" .null) (leA (by omega))) sf0 (w42 hw) (w39 hw)) rfl (sz hml rfl) (a := a84) (argsL := []) (rest := [(.ref a84)]) (lenOf pd28 rfl) rfl rfl (mroom rfl rfl) (D at_83) (by decide) (by decide) fun T86 h86 vm86 v86 X86 C86 z86 q86 => ?_
      obtain ⟨x86, d86, kd86, rfl, K86, g86_0, g86_1, g86_2, g86_3, g86_4, g86_5, g86_6, g86_7, g86_8, g86_9, g86_10, g86_11⟩ := q86
      have l87 := ltA g86_0.lt
      have l88 := ltA g86_2.lt
      have l89 := ltA g86_7.lt
      have l90 := neA g86_11
      have A91 := X86.at
      refine Gets.via (fun _ k => (XS.astore A91 hx rfl (D at_86) rfl rfl (l' := #[vI p0, .val (.long p1), .second, vI p2, vI n1, vI n2, vI q6, vI q7, vI q8, vI q9, vI q10, vR ya, vR yb, vR a84, .unset, .unset, .unset]) rfl (XS.aload A91 hx rfl (D at_88) rfl rfl (XS.aload A91 hx rfl (D at_90) rfl rfl k)))) ?_
      have f92 : Str Z h84 ya b1 k1 [] := j79_0.ext E84
      have l93 := neA (Exa.ne f92.1 Z84 (by decide))
      have f94 : Str Z h86 ya b1 k1 [] := f92.keep K86 (ninS (neA (by omega)) nin0) (ninS (neA (by omega)) nin0)
      refine X86.callV (W := 0) (w64 hw) (w65 hw) (w67 hw) (w66 hw) (nfs rfl (w67 hw)) (by decide) (X86.payM (sf := [d86]) (rmMark hcx a84 ya x86 d86 kd86 ([] : List Int32) b1 k1 [] h86 X86.old g86_0 g86_1 g86_2 g86_3 g86_4 g86_5 g86_6 g86_7 f94 (by first | exact Nat.le_of_ble_eq_true rfl | omega) (leA (by omega)) (leA (by omega)) g86_11) (sfS g86_8 sf0) (w68 hw) (w39 hw)) g86_0 rfl (sz hml rfl) (argsL := [(.ref ya)]) (rest := []) (lenOf pd37 rfl) rfl rfl (mroom rfl rfl) (D at_92) (by decide) (by decide) fun T95 h95 vm95 v95 X95 C95 z95 q95 => ?_
      obtain ⟨rfl, K95, g95_0, g95_1, g95_2, g95_3, g95_4, g95_5⟩ := q95
      have l96 := ltA g95_0.lt
      have l97 := ltA g95_5.lt
      have A98 := X95.at
      refine Gets.via (fun _ k => (XS.pop A98 hx rfl (D at_95) rfl rfl k)) ?_
      have f99 := g86_1.keep K95 (ninS (neA (by omega)) (ninS (neA (by omega)) nin0))
      have f100 : Fld Z h95 x86 "java/lang/AbstractStringBuilder" "count" "I" (.int (Int32.ofNat (([] : List Int32)).length)) := g95_3
      have f101 : Arv Z h95 d86 kd86 .byte (16 : Int32) ((([] : List Int32).map fun c => c.toInt8.toInt32).map Value.int) (.int (0 : Int32)) := g95_5
      refine Gets.via (fun _ k => (XS.aload A98 hx rfl (D at_96) rfl rfl (XS.aload A98 hx rfl (D at_98) rfl rfl k))) ?_
      show Gets p e below _ (T95.setTop (mkF m 100 #[vI p0, .val (.long p1), .second, vI p2, vI n1, vI n2, vI q6, vI q7, vI q8, vI q9, vI q10, vR ya, vR yb, vR a84, .unset, .unset, .unset] [(.ref yb), (.ref a84)]))
      have f102 := g86_0.keep K95
      have f103 : StrU Z h84 yb b2 k2 ds := j79_1.ext E84
      have l104 := neA (Exa.ne f103.1 Z84 (by decide))
      have f105 : StrU Z h86 yb b2 k2 ds := f103.keep K86 (ninS (neA (by omega)) nin0) (ninS (neA (by omega)) nin0)
      have l106 := neA (Exa.ne f105.1 g86_2 (by decide))
      have f107 : StrU Z h95 yb b2 k2 ds := f105.keep K95 (ninS (neA (by omega)) (ninS (neA (by omega)) nin0)) (ninS (neA (by omega)) (ninS (neA (by omega)) nin0))
      have f108 := C95.safe (x := d86) (ltA (by omega)) g86_8
      refine X95.callV (W := 0) (w116 hw) (w117 hw) (w119 hw) (w118 hw) (nfs rfl (w119 hw)) (by decide) (X95.payM (sf := [d86]) (rmCloseU0 hcx a84 yb x86 d86 kd86 b2 k2 ds h95 X95.old f102 f99 g95_0 g95_1 g95_2 f100 g95_4 f101 f107 j79_4 (neA (by omega)) (neA (by omega)) (neA (by omega)) (neA (by omega)) (leA (by omega)) (leA (by omega)) g86_11) (sfS f108 sf0) (w120 hw) (w39 hw)) f102 rfl (sz hml rfl) (argsL := [(.ref yb)]) (rest := []) (lenOf pd37 rfl) rfl rfl (mroom rfl rfl) (D at_100) (by decide) (by decide) fun T109 h109 vm109 v109 X109 C109 z109 q109 => ?_
      obtain ⟨t109, kt109, rfl, K109, g109_0, g109_1, g109_2, g109_3, g109_4, g109_5, g109_6⟩ := q109
      have l110 := ltA g109_0.lt
      have l111 := ltA g109_5.lt
      have A112 := X109.at
      refine Gets.via (fun _ k => (XS.astore A112 hx rfl (D at_103) rfl rfl (l' := #[vI p0, .val (.long p1), .second, vI p2, vI n1, vI n2, vI q6, vI q7, vI q8, vI q9, vI q10, vR ya, vR yb, vR a84, vR a84, .unset, .unset]) rfl (XS.aload A112 hx rfl (D at_105) rfl rfl (XS.aload A112 hx rfl (D at_107) rfl rfl k)))) ?_
      refine X109.acmpW hx rfl rfl rfl (pc0 := 109) (pc' := 114) (same := true) rfl (D at_109) rfl (by simp) (by decide) (by decide) ?_
      refine Gets.via (fun _ k => (XS.aload A112 hx rfl (D at_114) rfl rfl k)) ?_
      have f113 := f99.keep K109 (ninS (neA (by omega)) (ninS (neA (by omega)) nin0))
      have f114 : StrU Z h109 yb b2 k2 ds := f107.keep K109 (ninS (neA (by omega)) (ninS (neA (by omega)) nin0)) (ninS (neA (by omega)) (ninS (neA (by omega)) nin0))
      have hR : ∀ z_ ∈ (([(60 : Int32), (47 : Int32)] ++ ds) ++ [(62 : Int32)]), ¬ z_ < 0 ∧ ¬ (65535 : Int32) < z_ := allA (allA (allI ⟨by decide, by decide⟩ (allI ⟨by decide, by decide⟩ allN)) f114.2.2.2.2.1) (allI ⟨by decide, by decide⟩ allN)
      have hp := j79_2
      have e2 := j79_3
      have f115 := f102.keep K109
      refine X109.callV (W := 0) (w140 hw) (w141 hw) (w143 hw) (w142 hw) (nfs rfl (w143 hw)) (by decide) (X109.payM (sf := []) (rmHs1 hcx a84 x86 t109 kt109 (([(60 : Int32), (47 : Int32)] ++ ds) ++ [(62 : Int32)]) h109 X109.old f115 f113 g109_0 g109_1 g109_2 g109_3 g109_4 g109_5 (by simp only [List.length_append, List.length_cons, List.length_nil]; omega) hR) sf0 (w144 hw) (w39 hw)) f115 rfl (sz hml rfl) (argsL := []) (rest := []) (lenOf pd35 rfl) rfl rfl (mroom rfl rfl) (D at_116) (by decide) (by decide) fun T116 h116 vm116 v116 X116 C116 z116 q116 => ?_
      obtain ⟨a116, t116, kt116, rfl, K116, g116_0⟩ := q116
      have l117 := ltA g116_0.lt
      have l118 := ltA g116_0.lb
      show Gets p e below _ (T116.setTop (mkF m 119 #[vI p0, .val (.long p1), .second, vI p2, vI n1, vI n2, vI q6, vI q7, vI q8, vI q9, vI q10, vR ya, vR yb, vR a84, vR a84, .unset, .unset] [(.ref a116)]))
      have A119 := X116.at
      refine Gets.via (fun _ k => (XS.astore A119 hx rfl (D at_119) rfl rfl (l' := #[vI p0, .val (.long p1), .second, vI p2, vI n1, vI n2, vI q6, vI q7, vI q8, vI q9, vI q10, vR ya, vR yb, vR a84, vR a84, vR a116, .unset]) rfl k)) ?_
      have f120 : Any Z h116 a116 (([(60 : Int32), (47 : Int32)] ++ ds) ++ [(62 : Int32)]) := Or.inr ⟨_, _, g116_0⟩
      exact j121 T116 h116 vm116 ya yb a84 a116 (([(60 : Int32), (47 : Int32)] ++ ds) ++ [(62 : Int32)]) (X116.more (by decide) (by decide)) (((((((Keep.refl h0 []).trans K79 all0).ext E84).trans K86 (allS (Or.inr (leA (by omega))) all0)).trans K95 (allS (Or.inr (leA (by omega))) (allS (Or.inr (leA (by omega))) all0))).trans K109 (allS (Or.inr (leA (by omega))) (allS (Or.inr (leA (by omega))) all0))).trans K116 all0) f120 (by rw [hp, e2]; rfl)
    have j791 : ∀ (T121 : State) (h121 : Heap) (vm121 : Vm) (ya : Addr) (b1 : Addr) (k1 : ClassId) (yb : Addr) (b2 : Addr) (k2 : ClassId) (ds : List Int32) (X121 : Wk p l e RrmLaw s m #[(.int p0), (.long p1), (.int p2)] below meth cc x.cls Z a0 consts_1 h0 T121 h121 vm121 14 200) (K121 : Keep h0 h121 []) (j121_0 : Str Z h121 ya b1 k1 [q6]) (j121_1 : StrU Z h121 yb b2 k2 ds) (j121_2 : n1 = (1 : Int32)) (j121_3 : ds = [q8, q9, q10].take n2.toNatClampNeg) (j121_4 : (ds).length ≤ 3), Gets p e below (Jvm.Ow.Out s Z consts_1 RrmLaw (QrmLaw Z p0 p1 p2 h0)) (T121.setTop (mkF m 79 #[vI p0, .val (.long p1), .second, vI p2, vI n1, vI n2, vI q6, vI q7, vI q8, vI q9, vI q10, vR ya, vR yb, .unset, .unset, .unset, .unset] [])) := by
      intro T121 h121 vm121 ya b1 k1 yb b2 k2 ds X121 K121 j121_0 j121_1 j121_2 j121_3 j121_4
      have z121 := K121.1
      have l122 := ltA j121_0.lt
      have l123 := ltA j121_0.lb
      have l124 := ltA j121_1.lt
      have l125 := ltA j121_1.lb
      refine X121.new (w37 hw) (w38 hw) (w39 hw) rfl (D at_79) (by decide) (by decide) fun T126 h126 a126 X126 C126 E126 g126 Z126 S126 D126 => ?_
      have z126 := E126.1
      have l126 := ltA Z126.lt
      have A127 := X126.at
      refine Gets.via (fun _ k => (XS.dup A127 hx rfl (D at_82) rfl rfl k)) ?_
      refine X126.callI (y := (⟨"com/example/carve/carve/http/Html", "<init>", "()V"⟩ : MethodName)) (W := 1) rfl (w40 hw) (w41 hw) (w42 hw) (by decide) (X126.payM (sf := []) (rm7 hcx a126 h126 X126.old Z126 (D126 (Or.inr (w63 hw)) (ty := (.object "java/lang/StringBuilder")) (by decide) : Fld Z h126 a126 "com/example/carve/carve/http/Html" "out" "Ljava/lang/StringBuilder;" .null) (leA (by omega))) sf0 (w42 hw) (w39 hw)) rfl (sz hml rfl) (a := a126) (argsL := []) (rest := [(.ref a126)]) (lenOf pd28 rfl) rfl rfl (mroom rfl rfl) (D at_83) (by decide) (by decide) fun T128 h128 vm128 v128 X128 C128 z128 q128 => ?_
      obtain ⟨x128, d128, kd128, rfl, K128, g128_0, g128_1, g128_2, g128_3, g128_4, g128_5, g128_6, g128_7, g128_8, g128_9, g128_10, g128_11⟩ := q128
      have l129 := ltA g128_0.lt
      have l130 := ltA g128_2.lt
      have l131 := ltA g128_7.lt
      have l132 := neA g128_11
      have A133 := X128.at
      refine Gets.via (fun _ k => (XS.astore A133 hx rfl (D at_86) rfl rfl (l' := #[vI p0, .val (.long p1), .second, vI p2, vI n1, vI n2, vI q6, vI q7, vI q8, vI q9, vI q10, vR ya, vR yb, vR a126, .unset, .unset, .unset]) rfl (XS.aload A133 hx rfl (D at_88) rfl rfl (XS.aload A133 hx rfl (D at_90) rfl rfl k)))) ?_
      have f134 : Str Z h126 ya b1 k1 [q6] := j121_0.ext E126
      have l135 := neA (Exa.ne f134.1 Z126 (by decide))
      have f136 : Str Z h128 ya b1 k1 [q6] := f134.keep K128 (ninS (neA (by omega)) nin0) (ninS (neA (by omega)) nin0)
      refine X128.callV (W := 0) (w64 hw) (w65 hw) (w67 hw) (w66 hw) (nfs rfl (w67 hw)) (by decide) (X128.payM (sf := [d128]) (rmMark hcx a126 ya x128 d128 kd128 ([] : List Int32) b1 k1 [q6] h128 X128.old g128_0 g128_1 g128_2 g128_3 g128_4 g128_5 g128_6 g128_7 f136 (by first | exact Nat.le_of_ble_eq_true rfl | omega) (leA (by omega)) (leA (by omega)) g128_11) (sfS g128_8 sf0) (w68 hw) (w39 hw)) g128_0 rfl (sz hml rfl) (argsL := [(.ref ya)]) (rest := []) (lenOf pd37 rfl) rfl rfl (mroom rfl rfl) (D at_92) (by decide) (by decide) fun T137 h137 vm137 v137 X137 C137 z137 q137 => ?_
      obtain ⟨rfl, K137, g137_0, g137_1, g137_2, g137_3, g137_4, g137_5⟩ := q137
      have l138 := ltA g137_0.lt
      have l139 := ltA g137_5.lt
      show Gets p e below _ (T137.setTop (mkF m 95 #[vI p0, .val (.long p1), .second, vI p2, vI n1, vI n2, vI q6, vI q7, vI q8, vI q9, vI q10, vR ya, vR yb, vR a126, .unset, .unset, .unset] [(.ref a126)]))
      have A140 := X137.at
      refine Gets.via (fun _ k => (XS.pop A140 hx rfl (D at_95) rfl rfl k)) ?_
      have f141 := g128_1.keep K137 (ninS (neA (by omega)) (ninS (neA (by omega)) nin0))
      have f142 : Fld Z h137 x128 "java/lang/AbstractStringBuilder" "count" "I" (.int (Int32.ofNat ([q6]).length)) := g137_3
      have f143 : Arv Z h137 d128 kd128 .byte (16 : Int32) (([q6].map fun c => c.toInt8.toInt32).map Value.int) (.int (0 : Int32)) := g137_5
      refine Gets.via (fun _ k => (XS.aload A140 hx rfl (D at_96) rfl rfl (XS.aload A140 hx rfl (D at_98) rfl rfl k))) ?_
      have f144 := g128_0.keep K137
      have f145 : StrU Z h126 yb b2 k2 ds := j121_1.ext E126
      have l146 := neA (Exa.ne f145.1 Z126 (by decide))
      have f147 : StrU Z h128 yb b2 k2 ds := f145.keep K128 (ninS (neA (by omega)) nin0) (ninS (neA (by omega)) nin0)
      have l148 := neA (Exa.ne f147.1 g128_2 (by decide))
      have f149 : StrU Z h137 yb b2 k2 ds := f147.keep K137 (ninS (neA (by omega)) (ninS (neA (by omega)) nin0)) (ninS (neA (by omega)) (ninS (neA (by omega)) nin0))
      have f150 := C137.safe (x := d128) (ltA (by omega)) g128_8
      refine X137.callV (W := 0) (w116 hw) (w117 hw) (w119 hw) (w118 hw) (nfs rfl (w119 hw)) (by decide) (X137.payM (sf := [d128]) (rmCloseU1 hcx a126 yb x128 d128 kd128 q6 b2 k2 ds h137 X137.old f144 f141 g137_0 g137_1 g137_2 f142 g137_4 f143 f149 j121_4 (neA (by omega)) (neA (by omega)) (neA (by omega)) (neA (by omega)) (leA (by omega)) (leA (by omega)) g128_11 rq6) (sfS f150 sf0) (w120 hw) (w39 hw)) f144 rfl (sz hml rfl) (argsL := [(.ref yb)]) (rest := []) (lenOf pd37 rfl) rfl rfl (mroom rfl rfl) (D at_100) (by decide) (by decide) fun T151 h151 vm151 v151 X151 C151 z151 q151 => ?_
      obtain ⟨t151, kt151, rfl, K151, g151_0, g151_1, g151_2, g151_3, g151_4, g151_5, g151_6⟩ := q151
      have l152 := ltA g151_0.lt
      have l153 := ltA g151_5.lt
      have A154 := X151.at
      refine Gets.via (fun _ k => (XS.astore A154 hx rfl (D at_103) rfl rfl (l' := #[vI p0, .val (.long p1), .second, vI p2, vI n1, vI n2, vI q6, vI q7, vI q8, vI q9, vI q10, vR ya, vR yb, vR a126, vR a126, .unset, .unset]) rfl (XS.aload A154 hx rfl (D at_105) rfl rfl (XS.aload A154 hx rfl (D at_107) rfl rfl k)))) ?_
      refine X151.acmpW hx rfl rfl rfl (pc0 := 109) (pc' := 114) (same := true) rfl (D at_109) rfl (by simp) (by decide) (by decide) ?_
      show Gets p e below _ (T151.setTop (mkF m 114 #[vI p0, .val (.long p1), .second, vI p2, vI n1, vI n2, vI q6, vI q7, vI q8, vI q9, vI q10, vR ya, vR yb, vR a126, vR a126, .unset, .unset] []))
      refine Gets.via (fun _ k => (XS.aload A154 hx rfl (D at_114) rfl rfl k)) ?_
      have f155 := f141.keep K151 (ninS (neA (by omega)) (ninS (neA (by omega)) nin0))
      have f156 : StrU Z h151 yb b2 k2 ds := f149.keep K151 (ninS (neA (by omega)) (ninS (neA (by omega)) nin0)) (ninS (neA (by omega)) (ninS (neA (by omega)) nin0))
      have hR : ∀ z_ ∈ (([q6, (60 : Int32), (47 : Int32)] ++ ds) ++ [(62 : Int32)]), ¬ z_ < 0 ∧ ¬ (65535 : Int32) < z_ := allA (allA (allI (wd16 rq6) (allI ⟨by decide, by decide⟩ (allI ⟨by decide, by decide⟩ allN))) f156.2.2.2.2.1) (allI ⟨by decide, by decide⟩ allN)
      have hp := j121_2
      have e2 := j121_3
      have f157 := f144.keep K151
      refine X151.callV (W := 0) (w140 hw) (w141 hw) (w143 hw) (w142 hw) (nfs rfl (w143 hw)) (by decide) (X151.payM (sf := []) (rmHs1 hcx a126 x128 t151 kt151 (([q6, (60 : Int32), (47 : Int32)] ++ ds) ++ [(62 : Int32)]) h151 X151.old f157 f155 g151_0 g151_1 g151_2 g151_3 g151_4 g151_5 (by simp only [List.length_append, List.length_cons, List.length_nil]; omega) hR) sf0 (w144 hw) (w39 hw)) f157 rfl (sz hml rfl) (argsL := []) (rest := []) (lenOf pd35 rfl) rfl rfl (mroom rfl rfl) (D at_116) (by decide) (by decide) fun T158 h158 vm158 v158 X158 C158 z158 q158 => ?_
      obtain ⟨a158, t158, kt158, rfl, K158, g158_0⟩ := q158
      have l159 := ltA g158_0.lt
      have l160 := ltA g158_0.lb
      have A161 := X158.at
      refine Gets.via (fun _ k => (XS.astore A161 hx rfl (D at_119) rfl rfl (l' := #[vI p0, .val (.long p1), .second, vI p2, vI n1, vI n2, vI q6, vI q7, vI q8, vI q9, vI q10, vR ya, vR yb, vR a126, vR a126, vR a158, .unset]) rfl k)) ?_
      have f162 : Any Z h158 a158 (([q6, (60 : Int32), (47 : Int32)] ++ ds) ++ [(62 : Int32)]) := Or.inr ⟨_, _, g158_0⟩
      exact j121 T158 h158 vm158 ya yb a126 a158 (([q6, (60 : Int32), (47 : Int32)] ++ ds) ++ [(62 : Int32)]) (X158.more (by decide) (by decide)) (((((((Keep.refl h0 []).trans K121 all0).ext E126).trans K128 (allS (Or.inr (leA (by omega))) all0)).trans K137 (allS (Or.inr (leA (by omega))) (allS (Or.inr (leA (by omega))) all0))).trans K151 (allS (Or.inr (leA (by omega))) (allS (Or.inr (leA (by omega))) all0))).trans K158 all0) f162 (by rw [hp, e2]; rfl)
    have j792 : ∀ (T163 : State) (h163 : Heap) (vm163 : Vm) (ya : Addr) (b1 : Addr) (k1 : ClassId) (yb : Addr) (b2 : Addr) (k2 : ClassId) (ds : List Int32) (X163 : Wk p l e RrmLaw s m #[(.int p0), (.long p1), (.int p2)] below meth cc x.cls Z a0 consts_1 h0 T163 h163 vm163 14 200) (K163 : Keep h0 h163 []) (j163_0 : Str Z h163 ya b1 k1 [q6, q7]) (j163_1 : StrU Z h163 yb b2 k2 ds) (j163_2 : n1 = (2 : Int32)) (j163_3 : ds = [q8, q9, q10].take n2.toNatClampNeg) (j163_4 : (ds).length ≤ 3), Gets p e below (Jvm.Ow.Out s Z consts_1 RrmLaw (QrmLaw Z p0 p1 p2 h0)) (T163.setTop (mkF m 79 #[vI p0, .val (.long p1), .second, vI p2, vI n1, vI n2, vI q6, vI q7, vI q8, vI q9, vI q10, vR ya, vR yb, .unset, .unset, .unset, .unset] [])) := by
      intro T163 h163 vm163 ya b1 k1 yb b2 k2 ds X163 K163 j163_0 j163_1 j163_2 j163_3 j163_4
      have z163 := K163.1
      have l164 := ltA j163_0.lt
      have l165 := ltA j163_0.lb
      have l166 := ltA j163_1.lt
      have l167 := ltA j163_1.lb
      refine X163.new (w37 hw) (w38 hw) (w39 hw) rfl (D at_79) (by decide) (by decide) fun T168 h168 a168 X168 C168 E168 g168 Z168 S168 D168 => ?_
      have z168 := E168.1
      have l168 := ltA Z168.lt
      have A169 := X168.at
      refine Gets.via (fun _ k => (XS.dup A169 hx rfl (D at_82) rfl rfl k)) ?_
      refine X168.callI (y := (⟨"com/example/carve/carve/http/Html", "<init>", "()V"⟩ : MethodName)) (W := 1) rfl (w40 hw) (w41 hw) (w42 hw) (by decide) (X168.payM (sf := []) (rm7 hcx a168 h168 X168.old Z168 (D168 (Or.inr (w63 hw)) (ty := (.object "java/lang/StringBuilder")) (by decide) : Fld Z h168 a168 "com/example/carve/carve/http/Html" "out" "Ljava/lang/StringBuilder;" .null) (leA (by omega))) sf0 (w42 hw) (w39 hw)) rfl (sz hml rfl) (a := a168) (argsL := []) (rest := [(.ref a168)]) (lenOf pd28 rfl) rfl rfl (mroom rfl rfl) (D at_83) (by decide) (by decide) fun T170 h170 vm170 v170 X170 C170 z170 q170 => ?_
      obtain ⟨x170, d170, kd170, rfl, K170, g170_0, g170_1, g170_2, g170_3, g170_4, g170_5, g170_6, g170_7, g170_8, g170_9, g170_10, g170_11⟩ := q170
      have l171 := ltA g170_0.lt
      have l172 := ltA g170_2.lt
      have l173 := ltA g170_7.lt
      have l174 := neA g170_11
      show Gets p e below _ (T170.setTop (mkF m 86 #[vI p0, .val (.long p1), .second, vI p2, vI n1, vI n2, vI q6, vI q7, vI q8, vI q9, vI q10, vR ya, vR yb, .unset, .unset, .unset, .unset] [(.ref a168)]))
      have A175 := X170.at
      refine Gets.via (fun _ k => (XS.astore A175 hx rfl (D at_86) rfl rfl (l' := #[vI p0, .val (.long p1), .second, vI p2, vI n1, vI n2, vI q6, vI q7, vI q8, vI q9, vI q10, vR ya, vR yb, vR a168, .unset, .unset, .unset]) rfl (XS.aload A175 hx rfl (D at_88) rfl rfl (XS.aload A175 hx rfl (D at_90) rfl rfl k)))) ?_
      have f176 : Str Z h168 ya b1 k1 [q6, q7] := j163_0.ext E168
      have l177 := neA (Exa.ne f176.1 Z168 (by decide))
      have f178 : Str Z h170 ya b1 k1 [q6, q7] := f176.keep K170 (ninS (neA (by omega)) nin0) (ninS (neA (by omega)) nin0)
      refine X170.callV (W := 0) (w64 hw) (w65 hw) (w67 hw) (w66 hw) (nfs rfl (w67 hw)) (by decide) (X170.payM (sf := [d170]) (rmMark hcx a168 ya x170 d170 kd170 ([] : List Int32) b1 k1 [q6, q7] h170 X170.old g170_0 g170_1 g170_2 g170_3 g170_4 g170_5 g170_6 g170_7 f178 (by first | exact Nat.le_of_ble_eq_true rfl | omega) (leA (by omega)) (leA (by omega)) g170_11) (sfS g170_8 sf0) (w68 hw) (w39 hw)) g170_0 rfl (sz hml rfl) (argsL := [(.ref ya)]) (rest := []) (lenOf pd37 rfl) rfl rfl (mroom rfl rfl) (D at_92) (by decide) (by decide) fun T179 h179 vm179 v179 X179 C179 z179 q179 => ?_
      obtain ⟨rfl, K179, g179_0, g179_1, g179_2, g179_3, g179_4, g179_5⟩ := q179
      have l180 := ltA g179_0.lt
      have l181 := ltA g179_5.lt
      have A182 := X179.at
      refine Gets.via (fun _ k => (XS.pop A182 hx rfl (D at_95) rfl rfl k)) ?_
      have f183 := g170_1.keep K179 (ninS (neA (by omega)) (ninS (neA (by omega)) nin0))
      have f184 : Fld Z h179 x170 "java/lang/AbstractStringBuilder" "count" "I" (.int (Int32.ofNat ([q6, q7]).length)) := g179_3
      have f185 : Arv Z h179 d170 kd170 .byte (16 : Int32) (([q6, q7].map fun c => c.toInt8.toInt32).map Value.int) (.int (0 : Int32)) := g179_5
      refine Gets.via (fun _ k => (XS.aload A182 hx rfl (D at_96) rfl rfl (XS.aload A182 hx rfl (D at_98) rfl rfl k))) ?_
      have f186 := g170_0.keep K179
      have f187 : StrU Z h168 yb b2 k2 ds := j163_1.ext E168
      have l188 := neA (Exa.ne f187.1 Z168 (by decide))
      have f189 : StrU Z h170 yb b2 k2 ds := f187.keep K170 (ninS (neA (by omega)) nin0) (ninS (neA (by omega)) nin0)
      have l190 := neA (Exa.ne f189.1 g170_2 (by decide))
      have f191 : StrU Z h179 yb b2 k2 ds := f189.keep K179 (ninS (neA (by omega)) (ninS (neA (by omega)) nin0)) (ninS (neA (by omega)) (ninS (neA (by omega)) nin0))
      have f192 := C179.safe (x := d170) (ltA (by omega)) g170_8
      refine X179.callV (W := 0) (w116 hw) (w117 hw) (w119 hw) (w118 hw) (nfs rfl (w119 hw)) (by decide) (X179.payM (sf := [d170]) (rmCloseU2 hcx a168 yb x170 d170 kd170 q6 q7 b2 k2 ds h179 X179.old f186 f183 g179_0 g179_1 g179_2 f184 g179_4 f185 f191 j163_4 (neA (by omega)) (neA (by omega)) (neA (by omega)) (neA (by omega)) (leA (by omega)) (leA (by omega)) g170_11 rq6 rq7) (sfS f192 sf0) (w120 hw) (w39 hw)) f186 rfl (sz hml rfl) (argsL := [(.ref yb)]) (rest := []) (lenOf pd37 rfl) rfl rfl (mroom rfl rfl) (D at_100) (by decide) (by decide) fun T193 h193 vm193 v193 X193 C193 z193 q193 => ?_
      obtain ⟨t193, kt193, rfl, K193, g193_0, g193_1, g193_2, g193_3, g193_4, g193_5, g193_6⟩ := q193
      have l194 := ltA g193_0.lt
      have l195 := ltA g193_5.lt
      show Gets p e below _ (T193.setTop (mkF m 103 #[vI p0, .val (.long p1), .second, vI p2, vI n1, vI n2, vI q6, vI q7, vI q8, vI q9, vI q10, vR ya, vR yb, vR a168, .unset, .unset, .unset] [(.ref a168)]))
      have A196 := X193.at
      refine Gets.via (fun _ k => (XS.astore A196 hx rfl (D at_103) rfl rfl (l' := #[vI p0, .val (.long p1), .second, vI p2, vI n1, vI n2, vI q6, vI q7, vI q8, vI q9, vI q10, vR ya, vR yb, vR a168, vR a168, .unset, .unset]) rfl (XS.aload A196 hx rfl (D at_105) rfl rfl (XS.aload A196 hx rfl (D at_107) rfl rfl k)))) ?_
      refine X193.acmpW hx rfl rfl rfl (pc0 := 109) (pc' := 114) (same := true) rfl (D at_109) rfl (by simp) (by decide) (by decide) ?_
      refine Gets.via (fun _ k => (XS.aload A196 hx rfl (D at_114) rfl rfl k)) ?_
      have f197 := f183.keep K193 (ninS (neA (by omega)) (ninS (neA (by omega)) nin0))
      have f198 : StrU Z h193 yb b2 k2 ds := f191.keep K193 (ninS (neA (by omega)) (ninS (neA (by omega)) nin0)) (ninS (neA (by omega)) (ninS (neA (by omega)) nin0))
      have hR : ∀ z_ ∈ (([q6, q7, (60 : Int32), (47 : Int32)] ++ ds) ++ [(62 : Int32)]), ¬ z_ < 0 ∧ ¬ (65535 : Int32) < z_ := allA (allA (allI (wd16 rq6) (allI (wd16 rq7) (allI ⟨by decide, by decide⟩ (allI ⟨by decide, by decide⟩ allN)))) f198.2.2.2.2.1) (allI ⟨by decide, by decide⟩ allN)
      have hp := j163_2
      have e2 := j163_3
      have f199 := f186.keep K193
      refine X193.callV (W := 0) (w140 hw) (w141 hw) (w143 hw) (w142 hw) (nfs rfl (w143 hw)) (by decide) (X193.payM (sf := []) (rmHs1 hcx a168 x170 t193 kt193 (([q6, q7, (60 : Int32), (47 : Int32)] ++ ds) ++ [(62 : Int32)]) h193 X193.old f199 f197 g193_0 g193_1 g193_2 g193_3 g193_4 g193_5 (by simp only [List.length_append, List.length_cons, List.length_nil]; omega) hR) sf0 (w144 hw) (w39 hw)) f199 rfl (sz hml rfl) (argsL := []) (rest := []) (lenOf pd35 rfl) rfl rfl (mroom rfl rfl) (D at_116) (by decide) (by decide) fun T200 h200 vm200 v200 X200 C200 z200 q200 => ?_
      obtain ⟨a200, t200, kt200, rfl, K200, g200_0⟩ := q200
      have l201 := ltA g200_0.lt
      have l202 := ltA g200_0.lb
      have A203 := X200.at
      refine Gets.via (fun _ k => (XS.astore A203 hx rfl (D at_119) rfl rfl (l' := #[vI p0, .val (.long p1), .second, vI p2, vI n1, vI n2, vI q6, vI q7, vI q8, vI q9, vI q10, vR ya, vR yb, vR a168, vR a168, vR a200, .unset]) rfl k)) ?_
      have f204 : Any Z h200 a200 (([q6, q7, (60 : Int32), (47 : Int32)] ++ ds) ++ [(62 : Int32)]) := Or.inr ⟨_, _, g200_0⟩
      exact j121 T200 h200 vm200 ya yb a168 a200 (([q6, q7, (60 : Int32), (47 : Int32)] ++ ds) ++ [(62 : Int32)]) (X200.more (by decide) (by decide)) (((((((Keep.refl h0 []).trans K163 all0).ext E168).trans K170 (allS (Or.inr (leA (by omega))) all0)).trans K179 (allS (Or.inr (leA (by omega))) (allS (Or.inr (leA (by omega))) all0))).trans K193 (allS (Or.inr (leA (by omega))) (allS (Or.inr (leA (by omega))) all0))).trans K200 all0) f204 (by rw [hp, e2]; rfl)
    rcases h1 with hp | hp | hp
    · skip
      refine Gets.via (fun _ k => (XS.iload A2 hx rfl (D at_56) rfl (XS.iload A2 hx rfl (D at_58) rfl (XS.iconst A2 hx rfl (D at_60) k)))) ?_
      show Gets p e below _ (T1.setTop (mkF m 61 #[vI p0, .val (.long p1), .second, vI p2, vI n1, vI n2, vI q6, vI q7, vI q8, vI q9, vI q10, .unset, .unset, .unset, .unset, .unset, .unset] [(.int (0 : Int32)), (.int q7), (.int q6), (.int n1)]))
      refine X1.callS (W := 0) (w0 hw) (w1 hw) (w2 hw) (w3 hw) (by decide) (X1.payM (sf := []) (rmStr0L hcx n1 q6 q7 (0 : Int32) h0 X1.old hp) sf0 (w3 hw) (w2 hw)) rfl (sz hml rfl) (argsL := [(.int n1), (.int q6), (.int q7), (.int (0 : Int32))]) (rest := []) (lenOf pd38 rfl) rfl rfl (mroom rfl rfl) (D at_61) (by decide) (by decide) fun T205 h205 vm205 v205 X205 C205 z205 q205 => ?_
      obtain ⟨a205, b205, kb205, rfl, K205, g205_0⟩ := q205
      have l206 := ltA g205_0.lt
      have l207 := ltA g205_0.lb
      have A208 := X205.at
      refine Gets.via (fun _ k => (XS.astore A208 hx rfl (D at_64) rfl rfl (l' := #[vI p0, .val (.long p1), .second, vI p2, vI n1, vI n2, vI q6, vI q7, vI q8, vI q9, vI q10, vR a205, .unset, .unset, .unset, .unset, .unset]) rfl k)) ?_
      rcases h2 with ht | ht | ht | ht
      · skip
        skip
        refine Gets.via (fun _ k => (XS.iload A208 hx rfl (D at_66) rfl (XS.iload A208 hx rfl (D at_68) rfl (XS.iload A208 hx rfl (D at_70) rfl (XS.iload A208 hx rfl (D at_72) rfl k))))) ?_
        refine X205.callS (W := 0) (w0 hw) (w1 hw) (w2 hw) (w3 hw) (by decide) (X205.payM (sf := []) (rmStr0L hcx n2 q8 q9 q10 h205 X205.old ht) sf0 (w3 hw) (w2 hw)) rfl (sz hml rfl) (argsL := [(.int n2), (.int q8), (.int q9), (.int q10)]) (rest := []) (lenOf pd38 rfl) rfl rfl (mroom rfl rfl) (D at_74) (by decide) (by decide) fun T209 h209 vm209 v209 X209 C209 z209 q209 => ?_
        obtain ⟨a209, b209, kb209, rfl, K209, g209_0⟩ := q209
        have l210 := ltA g209_0.lt
        have l211 := ltA g209_0.lb
        have A212 := X209.at
        refine Gets.via (fun _ k => (XS.astore A212 hx rfl (D at_77) rfl rfl (l' := #[vI p0, .val (.long p1), .second, vI p2, vI n1, vI n2, vI q6, vI q7, vI q8, vI q9, vI q10, vR a205, vR a209, .unset, .unset, .unset, .unset]) rfl k)) ?_
        show Gets p e below _ (T209.setTop (mkF m 79 #[vI p0, .val (.long p1), .second, vI p2, vI n1, vI n2, vI q6, vI q7, vI q8, vI q9, vI q10, vR a205, vR a209, .unset, .unset, .unset, .unset] []))
        have f213 : Str Z h209 a205 b205 kb205 [] := g205_0.keep K209 nin0 nin0
        exact j79L T209 h209 vm209 a205 b205 kb205 [] a209 b209 kb209 [] (X209.more (by decide) (by decide)) (((Keep.refl h0 []).trans K205 all0).trans K209 all0) f213 g209_0 (by rw [hp]; rfl) (by first | exact Nat.le_of_ble_eq_true rfl | omega) (by rw [ht]; rfl) (by first | exact Nat.le_of_ble_eq_true rfl | omega)
      · skip
        rcases Classical.em ((255 : Int32) < q8) with hw_ | hw_
        · skip
          refine Gets.via (fun _ k => (XS.iload A208 hx rfl (D at_66) rfl (XS.iload A208 hx rfl (D at_68) rfl (XS.iload A208 hx rfl (D at_70) rfl (XS.iload A208 hx rfl (D at_72) rfl k))))) ?_
          refine X205.callS (W := 0) (w0 hw) (w1 hw) (w2 hw) (w3 hw) (by decide) (X205.payM (sf := []) (rmStr1U hcx n2 q8 q9 q10 h205 X205.old ht rq8 hw_) sf0 (w3 hw) (w2 hw)) rfl (sz hml rfl) (argsL := [(.int n2), (.int q8), (.int q9), (.int q10)]) (rest := []) (lenOf pd38 rfl) rfl rfl (mroom rfl rfl) (D at_74) (by decide) (by decide) fun T214 h214 vm214 v214 X214 C214 z214 q214 => ?_
          obtain ⟨a214, b214, kb214, rfl, K214, g214_0⟩ := q214
          have l215 := ltA g214_0.lt
          have l216 := ltA g214_0.lb
          have A217 := X214.at
          refine Gets.via (fun _ k => (XS.astore A217 hx rfl (D at_77) rfl rfl (l' := #[vI p0, .val (.long p1), .second, vI p2, vI n1, vI n2, vI q6, vI q7, vI q8, vI q9, vI q10, vR a205, vR a214, .unset, .unset, .unset, .unset]) rfl k)) ?_
          have f218 : Str Z h214 a205 b205 kb205 [] := g205_0.keep K214 nin0 nin0
          exact j790 T214 h214 vm214 a205 b205 kb205 a214 b214 kb214 [q8] (X214.more (by decide) (by decide)) (((Keep.refl h0 []).trans K205 all0).trans K214 all0) f218 g214_0 hp (by rw [ht]; rfl) (by first | exact Nat.le_of_ble_eq_true rfl | omega)
        · skip
          have hn0 : ¬ q8 < 0 ∧ ¬ (255 : Int32) < q8 := ⟨rq8.1, fun q => hw_ (q)⟩
          refine Gets.via (fun _ k => (XS.iload A208 hx rfl (D at_66) rfl (XS.iload A208 hx rfl (D at_68) rfl (XS.iload A208 hx rfl (D at_70) rfl (XS.iload A208 hx rfl (D at_72) rfl k))))) ?_
          show Gets p e below _ (T205.setTop (mkF m 74 #[vI p0, .val (.long p1), .second, vI p2, vI n1, vI n2, vI q6, vI q7, vI q8, vI q9, vI q10, vR a205, .unset, .unset, .unset, .unset, .unset] [(.int q10), (.int q9), (.int q8), (.int n2)]))
          refine X205.callS (W := 0) (w0 hw) (w1 hw) (w2 hw) (w3 hw) (by decide) (X205.payM (sf := []) (rmStr1L hcx n2 q8 q9 q10 h205 X205.old ht hn0) sf0 (w3 hw) (w2 hw)) rfl (sz hml rfl) (argsL := [(.int n2), (.int q8), (.int q9), (.int q10)]) (rest := []) (lenOf pd38 rfl) rfl rfl (mroom rfl rfl) (D at_74) (by decide) (by decide) fun T219 h219 vm219 v219 X219 C219 z219 q219 => ?_
          obtain ⟨a219, b219, kb219, rfl, K219, g219_0⟩ := q219
          have l220 := ltA g219_0.lt
          have l221 := ltA g219_0.lb
          have A222 := X219.at
          refine Gets.via (fun _ k => (XS.astore A222 hx rfl (D at_77) rfl rfl (l' := #[vI p0, .val (.long p1), .second, vI p2, vI n1, vI n2, vI q6, vI q7, vI q8, vI q9, vI q10, vR a205, vR a219, .unset, .unset, .unset, .unset]) rfl k)) ?_
          have f223 : Str Z h219 a205 b205 kb205 [] := g205_0.keep K219 nin0 nin0
          exact j79L T219 h219 vm219 a205 b205 kb205 [] a219 b219 kb219 [q8] (X219.more (by decide) (by decide)) (((Keep.refl h0 []).trans K205 all0).trans K219 all0) f223 g219_0 (by rw [hp]; rfl) (by first | exact Nat.le_of_ble_eq_true rfl | omega) (by rw [ht]; rfl) (by first | exact Nat.le_of_ble_eq_true rfl | omega)
      · skip
        rcases Classical.em ((255 : Int32) < q8 ∨ (255 : Int32) < q9) with hw_ | hw_
        · skip
          refine Gets.via (fun _ k => (XS.iload A208 hx rfl (D at_66) rfl (XS.iload A208 hx rfl (D at_68) rfl (XS.iload A208 hx rfl (D at_70) rfl (XS.iload A208 hx rfl (D at_72) rfl k))))) ?_
          refine X205.callS (W := 0) (w0 hw) (w1 hw) (w2 hw) (w3 hw) (by decide) (X205.payM (sf := []) (rmStr2U hcx n2 q8 q9 q10 h205 X205.old ht rq8 rq9 hw_) sf0 (w3 hw) (w2 hw)) rfl (sz hml rfl) (argsL := [(.int n2), (.int q8), (.int q9), (.int q10)]) (rest := []) (lenOf pd38 rfl) rfl rfl (mroom rfl rfl) (D at_74) (by decide) (by decide) fun T224 h224 vm224 v224 X224 C224 z224 q224 => ?_
          obtain ⟨a224, b224, kb224, rfl, K224, g224_0⟩ := q224
          have l225 := ltA g224_0.lt
          have l226 := ltA g224_0.lb
          have A227 := X224.at
          refine Gets.via (fun _ k => (XS.astore A227 hx rfl (D at_77) rfl rfl (l' := #[vI p0, .val (.long p1), .second, vI p2, vI n1, vI n2, vI q6, vI q7, vI q8, vI q9, vI q10, vR a205, vR a224, .unset, .unset, .unset, .unset]) rfl k)) ?_
          show Gets p e below _ (T224.setTop (mkF m 79 #[vI p0, .val (.long p1), .second, vI p2, vI n1, vI n2, vI q6, vI q7, vI q8, vI q9, vI q10, vR a205, vR a224, .unset, .unset, .unset, .unset] []))
          have f228 : Str Z h224 a205 b205 kb205 [] := g205_0.keep K224 nin0 nin0
          exact j790 T224 h224 vm224 a205 b205 kb205 a224 b224 kb224 [q8, q9] (X224.more (by decide) (by decide)) (((Keep.refl h0 []).trans K205 all0).trans K224 all0) f228 g224_0 hp (by rw [ht]; rfl) (by first | exact Nat.le_of_ble_eq_true rfl | omega)
        · skip
          have hn0 : ¬ q8 < 0 ∧ ¬ (255 : Int32) < q8 := ⟨rq8.1, fun q => hw_ (Or.inl q)⟩
          have hn1 : ¬ q9 < 0 ∧ ¬ (255 : Int32) < q9 := ⟨rq9.1, fun q => hw_ (Or.inr (q))⟩
          refine Gets.via (fun _ k => (XS.iload A208 hx rfl (D at_66) rfl (XS.iload A208 hx rfl (D at_68) rfl (XS.iload A208 hx rfl (D at_70) rfl (XS.iload A208 hx rfl (D at_72) rfl k))))) ?_
          refine X205.callS (W := 0) (w0 hw) (w1 hw) (w2 hw) (w3 hw) (by decide) (X205.payM (sf := []) (rmStr2L hcx n2 q8 q9 q10 h205 X205.old ht hn0 hn1) sf0 (w3 hw) (w2 hw)) rfl (sz hml rfl) (argsL := [(.int n2), (.int q8), (.int q9), (.int q10)]) (rest := []) (lenOf pd38 rfl) rfl rfl (mroom rfl rfl) (D at_74) (by decide) (by decide) fun T229 h229 vm229 v229 X229 C229 z229 q229 => ?_
          obtain ⟨a229, b229, kb229, rfl, K229, g229_0⟩ := q229
          have l230 := ltA g229_0.lt
          have l231 := ltA g229_0.lb
          have A232 := X229.at
          refine Gets.via (fun _ k => (XS.astore A232 hx rfl (D at_77) rfl rfl (l' := #[vI p0, .val (.long p1), .second, vI p2, vI n1, vI n2, vI q6, vI q7, vI q8, vI q9, vI q10, vR a205, vR a229, .unset, .unset, .unset, .unset]) rfl k)) ?_
          have f233 : Str Z h229 a205 b205 kb205 [] := g205_0.keep K229 nin0 nin0
          exact j79L T229 h229 vm229 a205 b205 kb205 [] a229 b229 kb229 [q8, q9] (X229.more (by decide) (by decide)) (((Keep.refl h0 []).trans K205 all0).trans K229 all0) f233 g229_0 (by rw [hp]; rfl) (by first | exact Nat.le_of_ble_eq_true rfl | omega) (by rw [ht]; rfl) (by first | exact Nat.le_of_ble_eq_true rfl | omega)
      · skip
        rcases Classical.em ((255 : Int32) < q8 ∨ (255 : Int32) < q9 ∨ (255 : Int32) < q10) with hw_ | hw_
        · skip
          refine Gets.via (fun _ k => (XS.iload A208 hx rfl (D at_66) rfl (XS.iload A208 hx rfl (D at_68) rfl (XS.iload A208 hx rfl (D at_70) rfl (XS.iload A208 hx rfl (D at_72) rfl k))))) ?_
          show Gets p e below _ (T205.setTop (mkF m 74 #[vI p0, .val (.long p1), .second, vI p2, vI n1, vI n2, vI q6, vI q7, vI q8, vI q9, vI q10, vR a205, .unset, .unset, .unset, .unset, .unset] [(.int q10), (.int q9), (.int q8), (.int n2)]))
          refine X205.callS (W := 0) (w0 hw) (w1 hw) (w2 hw) (w3 hw) (by decide) (X205.payM (sf := []) (rmStr3U hcx n2 q8 q9 q10 h205 X205.old ht rq8 rq9 rq10 hw_) sf0 (w3 hw) (w2 hw)) rfl (sz hml rfl) (argsL := [(.int n2), (.int q8), (.int q9), (.int q10)]) (rest := []) (lenOf pd38 rfl) rfl rfl (mroom rfl rfl) (D at_74) (by decide) (by decide) fun T234 h234 vm234 v234 X234 C234 z234 q234 => ?_
          obtain ⟨a234, b234, kb234, rfl, K234, g234_0⟩ := q234
          have l235 := ltA g234_0.lt
          have l236 := ltA g234_0.lb
          have A237 := X234.at
          refine Gets.via (fun _ k => (XS.astore A237 hx rfl (D at_77) rfl rfl (l' := #[vI p0, .val (.long p1), .second, vI p2, vI n1, vI n2, vI q6, vI q7, vI q8, vI q9, vI q10, vR a205, vR a234, .unset, .unset, .unset, .unset]) rfl k)) ?_
          have f238 : Str Z h234 a205 b205 kb205 [] := g205_0.keep K234 nin0 nin0
          exact j790 T234 h234 vm234 a205 b205 kb205 a234 b234 kb234 [q8, q9, q10] (X234.more (by decide) (by decide)) (((Keep.refl h0 []).trans K205 all0).trans K234 all0) f238 g234_0 hp (by rw [ht]; rfl) (by first | exact Nat.le_of_ble_eq_true rfl | omega)
        · skip
          have hn0 : ¬ q8 < 0 ∧ ¬ (255 : Int32) < q8 := ⟨rq8.1, fun q => hw_ (Or.inl q)⟩
          have hn1 : ¬ q9 < 0 ∧ ¬ (255 : Int32) < q9 := ⟨rq9.1, fun q => hw_ (Or.inr (Or.inl q))⟩
          have hn2 : ¬ q10 < 0 ∧ ¬ (255 : Int32) < q10 := ⟨rq10.1, fun q => hw_ (Or.inr (Or.inr (q)))⟩
          refine Gets.via (fun _ k => (XS.iload A208 hx rfl (D at_66) rfl (XS.iload A208 hx rfl (D at_68) rfl (XS.iload A208 hx rfl (D at_70) rfl (XS.iload A208 hx rfl (D at_72) rfl k))))) ?_
          refine X205.callS (W := 0) (w0 hw) (w1 hw) (w2 hw) (w3 hw) (by decide) (X205.payM (sf := []) (rmStr3L hcx n2 q8 q9 q10 h205 X205.old ht hn0 hn1 hn2) sf0 (w3 hw) (w2 hw)) rfl (sz hml rfl) (argsL := [(.int n2), (.int q8), (.int q9), (.int q10)]) (rest := []) (lenOf pd38 rfl) rfl rfl (mroom rfl rfl) (D at_74) (by decide) (by decide) fun T239 h239 vm239 v239 X239 C239 z239 q239 => ?_
          obtain ⟨a239, b239, kb239, rfl, K239, g239_0⟩ := q239
          have l240 := ltA g239_0.lt
          have l241 := ltA g239_0.lb
          have A242 := X239.at
          refine Gets.via (fun _ k => (XS.astore A242 hx rfl (D at_77) rfl rfl (l' := #[vI p0, .val (.long p1), .second, vI p2, vI n1, vI n2, vI q6, vI q7, vI q8, vI q9, vI q10, vR a205, vR a239, .unset, .unset, .unset, .unset]) rfl k)) ?_
          show Gets p e below _ (T239.setTop (mkF m 79 #[vI p0, .val (.long p1), .second, vI p2, vI n1, vI n2, vI q6, vI q7, vI q8, vI q9, vI q10, vR a205, vR a239, .unset, .unset, .unset, .unset] []))
          have f243 : Str Z h239 a205 b205 kb205 [] := g205_0.keep K239 nin0 nin0
          exact j79L T239 h239 vm239 a205 b205 kb205 [] a239 b239 kb239 [q8, q9, q10] (X239.more (by decide) (by decide)) (((Keep.refl h0 []).trans K205 all0).trans K239 all0) f243 g239_0 (by rw [hp]; rfl) (by first | exact Nat.le_of_ble_eq_true rfl | omega) (by rw [ht]; rfl) (by first | exact Nat.le_of_ble_eq_true rfl | omega)
    · skip
      refine Gets.via (fun _ k => (XS.iload A2 hx rfl (D at_56) rfl (XS.iload A2 hx rfl (D at_58) rfl (XS.iconst A2 hx rfl (D at_60) k)))) ?_
      refine X1.callS (W := 0) (w0 hw) (w1 hw) (w2 hw) (w3 hw) (by decide) (X1.payM (sf := []) (rmStr1L hcx n1 q6 q7 (0 : Int32) h0 X1.old hp rq6) sf0 (w3 hw) (w2 hw)) rfl (sz hml rfl) (argsL := [(.int n1), (.int q6), (.int q7), (.int (0 : Int32))]) (rest := []) (lenOf pd38 rfl) rfl rfl (mroom rfl rfl) (D at_61) (by decide) (by decide) fun T244 h244 vm244 v244 X244 C244 z244 q244 => ?_
      obtain ⟨a244, b244, kb244, rfl, K244, g244_0⟩ := q244
      have l245 := ltA g244_0.lt
      have l246 := ltA g244_0.lb
      have A247 := X244.at
      refine Gets.via (fun _ k => (XS.astore A247 hx rfl (D at_64) rfl rfl (l' := #[vI p0, .val (.long p1), .second, vI p2, vI n1, vI n2, vI q6, vI q7, vI q8, vI q9, vI q10, vR a244, .unset, .unset, .unset, .unset, .unset]) rfl k)) ?_
      rcases h2 with ht | ht | ht | ht
      · skip
        skip
        refine Gets.via (fun _ k => (XS.iload A247 hx rfl (D at_66) rfl (XS.iload A247 hx rfl (D at_68) rfl (XS.iload A247 hx rfl (D at_70) rfl (XS.iload A247 hx rfl (D at_72) rfl k))))) ?_
        refine X244.callS (W := 0) (w0 hw) (w1 hw) (w2 hw) (w3 hw) (by decide) (X244.payM (sf := []) (rmStr0L hcx n2 q8 q9 q10 h244 X244.old ht) sf0 (w3 hw) (w2 hw)) rfl (sz hml rfl) (argsL := [(.int n2), (.int q8), (.int q9), (.int q10)]) (rest := []) (lenOf pd38 rfl) rfl rfl (mroom rfl rfl) (D at_74) (by decide) (by decide) fun T248 h248 vm248 v248 X248 C248 z248 q248 => ?_
        obtain ⟨a248, b248, kb248, rfl, K248, g248_0⟩ := q248
        have l249 := ltA g248_0.lt
        have l250 := ltA g248_0.lb
        show Gets p e below _ (T248.setTop (mkF m 77 #[vI p0, .val (.long p1), .second, vI p2, vI n1, vI n2, vI q6, vI q7, vI q8, vI q9, vI q10, vR a244, .unset, .unset, .unset, .unset, .unset] [(.ref a248)]))
        have A251 := X248.at
        refine Gets.via (fun _ k => (XS.astore A251 hx rfl (D at_77) rfl rfl (l' := #[vI p0, .val (.long p1), .second, vI p2, vI n1, vI n2, vI q6, vI q7, vI q8, vI q9, vI q10, vR a244, vR a248, .unset, .unset, .unset, .unset]) rfl k)) ?_
        have f252 : Str Z h248 a244 b244 kb244 [q6] := g244_0.keep K248 nin0 nin0
        exact j79L T248 h248 vm248 a244 b244 kb244 [q6] a248 b248 kb248 [] (X248.more (by decide) (by decide)) (((Keep.refl h0 []).trans K244 all0).trans K248 all0) f252 g248_0 (by rw [hp]; rfl) (by first | exact Nat.le_of_ble_eq_true rfl | omega) (by rw [ht]; rfl) (by first | exact Nat.le_of_ble_eq_true rfl | omega)
      · skip
        rcases Classical.em ((255 : Int32) < q8) with hw_ | hw_
        · skip
          refine Gets.via (fun _ k => (XS.iload A247 hx rfl (D at_66) rfl (XS.iload A247 hx rfl (D at_68) rfl (XS.iload A247 hx rfl (D at_70) rfl (XS.iload A247 hx rfl (D at_72) rfl k))))) ?_
          refine X244.callS (W := 0) (w0 hw) (w1 hw) (w2 hw) (w3 hw) (by decide) (X244.payM (sf := []) (rmStr1U hcx n2 q8 q9 q10 h244 X244.old ht rq8 hw_) sf0 (w3 hw) (w2 hw)) rfl (sz hml rfl) (argsL := [(.int n2), (.int q8), (.int q9), (.int q10)]) (rest := []) (lenOf pd38 rfl) rfl rfl (mroom rfl rfl) (D at_74) (by decide) (by decide) fun T253 h253 vm253 v253 X253 C253 z253 q253 => ?_
          obtain ⟨a253, b253, kb253, rfl, K253, g253_0⟩ := q253
          have l254 := ltA g253_0.lt
          have l255 := ltA g253_0.lb
          have A256 := X253.at
          refine Gets.via (fun _ k => (XS.astore A256 hx rfl (D at_77) rfl rfl (l' := #[vI p0, .val (.long p1), .second, vI p2, vI n1, vI n2, vI q6, vI q7, vI q8, vI q9, vI q10, vR a244, vR a253, .unset, .unset, .unset, .unset]) rfl k)) ?_
          have f257 : Str Z h253 a244 b244 kb244 [q6] := g244_0.keep K253 nin0 nin0
          exact j791 T253 h253 vm253 a244 b244 kb244 a253 b253 kb253 [q8] (X253.more (by decide) (by decide)) (((Keep.refl h0 []).trans K244 all0).trans K253 all0) f257 g253_0 hp (by rw [ht]; rfl) (by first | exact Nat.le_of_ble_eq_true rfl | omega)
        · skip
          have hn0 : ¬ q8 < 0 ∧ ¬ (255 : Int32) < q8 := ⟨rq8.1, fun q => hw_ (q)⟩
          refine Gets.via (fun _ k => (XS.iload A247 hx rfl (D at_66) rfl (XS.iload A247 hx rfl (D at_68) rfl (XS.iload A247 hx rfl (D at_70) rfl (XS.iload A247 hx rfl (D at_72) rfl k))))) ?_
          show Gets p e below _ (T244.setTop (mkF m 74 #[vI p0, .val (.long p1), .second, vI p2, vI n1, vI n2, vI q6, vI q7, vI q8, vI q9, vI q10, vR a244, .unset, .unset, .unset, .unset, .unset] [(.int q10), (.int q9), (.int q8), (.int n2)]))
          refine X244.callS (W := 0) (w0 hw) (w1 hw) (w2 hw) (w3 hw) (by decide) (X244.payM (sf := []) (rmStr1L hcx n2 q8 q9 q10 h244 X244.old ht hn0) sf0 (w3 hw) (w2 hw)) rfl (sz hml rfl) (argsL := [(.int n2), (.int q8), (.int q9), (.int q10)]) (rest := []) (lenOf pd38 rfl) rfl rfl (mroom rfl rfl) (D at_74) (by decide) (by decide) fun T258 h258 vm258 v258 X258 C258 z258 q258 => ?_
          obtain ⟨a258, b258, kb258, rfl, K258, g258_0⟩ := q258
          have l259 := ltA g258_0.lt
          have l260 := ltA g258_0.lb
          have A261 := X258.at
          refine Gets.via (fun _ k => (XS.astore A261 hx rfl (D at_77) rfl rfl (l' := #[vI p0, .val (.long p1), .second, vI p2, vI n1, vI n2, vI q6, vI q7, vI q8, vI q9, vI q10, vR a244, vR a258, .unset, .unset, .unset, .unset]) rfl k)) ?_
          have f262 : Str Z h258 a244 b244 kb244 [q6] := g244_0.keep K258 nin0 nin0
          exact j79L T258 h258 vm258 a244 b244 kb244 [q6] a258 b258 kb258 [q8] (X258.more (by decide) (by decide)) (((Keep.refl h0 []).trans K244 all0).trans K258 all0) f262 g258_0 (by rw [hp]; rfl) (by first | exact Nat.le_of_ble_eq_true rfl | omega) (by rw [ht]; rfl) (by first | exact Nat.le_of_ble_eq_true rfl | omega)
      · skip
        rcases Classical.em ((255 : Int32) < q8 ∨ (255 : Int32) < q9) with hw_ | hw_
        · skip
          refine Gets.via (fun _ k => (XS.iload A247 hx rfl (D at_66) rfl (XS.iload A247 hx rfl (D at_68) rfl (XS.iload A247 hx rfl (D at_70) rfl (XS.iload A247 hx rfl (D at_72) rfl k))))) ?_
          refine X244.callS (W := 0) (w0 hw) (w1 hw) (w2 hw) (w3 hw) (by decide) (X244.payM (sf := []) (rmStr2U hcx n2 q8 q9 q10 h244 X244.old ht rq8 rq9 hw_) sf0 (w3 hw) (w2 hw)) rfl (sz hml rfl) (argsL := [(.int n2), (.int q8), (.int q9), (.int q10)]) (rest := []) (lenOf pd38 rfl) rfl rfl (mroom rfl rfl) (D at_74) (by decide) (by decide) fun T263 h263 vm263 v263 X263 C263 z263 q263 => ?_
          obtain ⟨a263, b263, kb263, rfl, K263, g263_0⟩ := q263
          have l264 := ltA g263_0.lt
          have l265 := ltA g263_0.lb
          have A266 := X263.at
          refine Gets.via (fun _ k => (XS.astore A266 hx rfl (D at_77) rfl rfl (l' := #[vI p0, .val (.long p1), .second, vI p2, vI n1, vI n2, vI q6, vI q7, vI q8, vI q9, vI q10, vR a244, vR a263, .unset, .unset, .unset, .unset]) rfl k)) ?_
          show Gets p e below _ (T263.setTop (mkF m 79 #[vI p0, .val (.long p1), .second, vI p2, vI n1, vI n2, vI q6, vI q7, vI q8, vI q9, vI q10, vR a244, vR a263, .unset, .unset, .unset, .unset] []))
          have f267 : Str Z h263 a244 b244 kb244 [q6] := g244_0.keep K263 nin0 nin0
          exact j791 T263 h263 vm263 a244 b244 kb244 a263 b263 kb263 [q8, q9] (X263.more (by decide) (by decide)) (((Keep.refl h0 []).trans K244 all0).trans K263 all0) f267 g263_0 hp (by rw [ht]; rfl) (by first | exact Nat.le_of_ble_eq_true rfl | omega)
        · skip
          have hn0 : ¬ q8 < 0 ∧ ¬ (255 : Int32) < q8 := ⟨rq8.1, fun q => hw_ (Or.inl q)⟩
          have hn1 : ¬ q9 < 0 ∧ ¬ (255 : Int32) < q9 := ⟨rq9.1, fun q => hw_ (Or.inr (q))⟩
          refine Gets.via (fun _ k => (XS.iload A247 hx rfl (D at_66) rfl (XS.iload A247 hx rfl (D at_68) rfl (XS.iload A247 hx rfl (D at_70) rfl (XS.iload A247 hx rfl (D at_72) rfl k))))) ?_
          refine X244.callS (W := 0) (w0 hw) (w1 hw) (w2 hw) (w3 hw) (by decide) (X244.payM (sf := []) (rmStr2L hcx n2 q8 q9 q10 h244 X244.old ht hn0 hn1) sf0 (w3 hw) (w2 hw)) rfl (sz hml rfl) (argsL := [(.int n2), (.int q8), (.int q9), (.int q10)]) (rest := []) (lenOf pd38 rfl) rfl rfl (mroom rfl rfl) (D at_74) (by decide) (by decide) fun T268 h268 vm268 v268 X268 C268 z268 q268 => ?_
          obtain ⟨a268, b268, kb268, rfl, K268, g268_0⟩ := q268
          have l269 := ltA g268_0.lt
          have l270 := ltA g268_0.lb
          have A271 := X268.at
          refine Gets.via (fun _ k => (XS.astore A271 hx rfl (D at_77) rfl rfl (l' := #[vI p0, .val (.long p1), .second, vI p2, vI n1, vI n2, vI q6, vI q7, vI q8, vI q9, vI q10, vR a244, vR a268, .unset, .unset, .unset, .unset]) rfl k)) ?_
          have f272 : Str Z h268 a244 b244 kb244 [q6] := g244_0.keep K268 nin0 nin0
          exact j79L T268 h268 vm268 a244 b244 kb244 [q6] a268 b268 kb268 [q8, q9] (X268.more (by decide) (by decide)) (((Keep.refl h0 []).trans K244 all0).trans K268 all0) f272 g268_0 (by rw [hp]; rfl) (by first | exact Nat.le_of_ble_eq_true rfl | omega) (by rw [ht]; rfl) (by first | exact Nat.le_of_ble_eq_true rfl | omega)
      · skip
        rcases Classical.em ((255 : Int32) < q8 ∨ (255 : Int32) < q9 ∨ (255 : Int32) < q10) with hw_ | hw_
        · skip
          refine Gets.via (fun _ k => (XS.iload A247 hx rfl (D at_66) rfl (XS.iload A247 hx rfl (D at_68) rfl (XS.iload A247 hx rfl (D at_70) rfl (XS.iload A247 hx rfl (D at_72) rfl k))))) ?_
          show Gets p e below _ (T244.setTop (mkF m 74 #[vI p0, .val (.long p1), .second, vI p2, vI n1, vI n2, vI q6, vI q7, vI q8, vI q9, vI q10, vR a244, .unset, .unset, .unset, .unset, .unset] [(.int q10), (.int q9), (.int q8), (.int n2)]))
          refine X244.callS (W := 0) (w0 hw) (w1 hw) (w2 hw) (w3 hw) (by decide) (X244.payM (sf := []) (rmStr3U hcx n2 q8 q9 q10 h244 X244.old ht rq8 rq9 rq10 hw_) sf0 (w3 hw) (w2 hw)) rfl (sz hml rfl) (argsL := [(.int n2), (.int q8), (.int q9), (.int q10)]) (rest := []) (lenOf pd38 rfl) rfl rfl (mroom rfl rfl) (D at_74) (by decide) (by decide) fun T273 h273 vm273 v273 X273 C273 z273 q273 => ?_
          obtain ⟨a273, b273, kb273, rfl, K273, g273_0⟩ := q273
          have l274 := ltA g273_0.lt
          have l275 := ltA g273_0.lb
          have A276 := X273.at
          refine Gets.via (fun _ k => (XS.astore A276 hx rfl (D at_77) rfl rfl (l' := #[vI p0, .val (.long p1), .second, vI p2, vI n1, vI n2, vI q6, vI q7, vI q8, vI q9, vI q10, vR a244, vR a273, .unset, .unset, .unset, .unset]) rfl k)) ?_
          have f277 : Str Z h273 a244 b244 kb244 [q6] := g244_0.keep K273 nin0 nin0
          exact j791 T273 h273 vm273 a244 b244 kb244 a273 b273 kb273 [q8, q9, q10] (X273.more (by decide) (by decide)) (((Keep.refl h0 []).trans K244 all0).trans K273 all0) f277 g273_0 hp (by rw [ht]; rfl) (by first | exact Nat.le_of_ble_eq_true rfl | omega)
        · skip
          have hn0 : ¬ q8 < 0 ∧ ¬ (255 : Int32) < q8 := ⟨rq8.1, fun q => hw_ (Or.inl q)⟩
          have hn1 : ¬ q9 < 0 ∧ ¬ (255 : Int32) < q9 := ⟨rq9.1, fun q => hw_ (Or.inr (Or.inl q))⟩
          have hn2 : ¬ q10 < 0 ∧ ¬ (255 : Int32) < q10 := ⟨rq10.1, fun q => hw_ (Or.inr (Or.inr (q)))⟩
          refine Gets.via (fun _ k => (XS.iload A247 hx rfl (D at_66) rfl (XS.iload A247 hx rfl (D at_68) rfl (XS.iload A247 hx rfl (D at_70) rfl (XS.iload A247 hx rfl (D at_72) rfl k))))) ?_
          refine X244.callS (W := 0) (w0 hw) (w1 hw) (w2 hw) (w3 hw) (by decide) (X244.payM (sf := []) (rmStr3L hcx n2 q8 q9 q10 h244 X244.old ht hn0 hn1 hn2) sf0 (w3 hw) (w2 hw)) rfl (sz hml rfl) (argsL := [(.int n2), (.int q8), (.int q9), (.int q10)]) (rest := []) (lenOf pd38 rfl) rfl rfl (mroom rfl rfl) (D at_74) (by decide) (by decide) fun T278 h278 vm278 v278 X278 C278 z278 q278 => ?_
          obtain ⟨a278, b278, kb278, rfl, K278, g278_0⟩ := q278
          have l279 := ltA g278_0.lt
          have l280 := ltA g278_0.lb
          have A281 := X278.at
          refine Gets.via (fun _ k => (XS.astore A281 hx rfl (D at_77) rfl rfl (l' := #[vI p0, .val (.long p1), .second, vI p2, vI n1, vI n2, vI q6, vI q7, vI q8, vI q9, vI q10, vR a244, vR a278, .unset, .unset, .unset, .unset]) rfl k)) ?_
          show Gets p e below _ (T278.setTop (mkF m 79 #[vI p0, .val (.long p1), .second, vI p2, vI n1, vI n2, vI q6, vI q7, vI q8, vI q9, vI q10, vR a244, vR a278, .unset, .unset, .unset, .unset] []))
          have f282 : Str Z h278 a244 b244 kb244 [q6] := g244_0.keep K278 nin0 nin0
          exact j79L T278 h278 vm278 a244 b244 kb244 [q6] a278 b278 kb278 [q8, q9, q10] (X278.more (by decide) (by decide)) (((Keep.refl h0 []).trans K244 all0).trans K278 all0) f282 g278_0 (by rw [hp]; rfl) (by first | exact Nat.le_of_ble_eq_true rfl | omega) (by rw [ht]; rfl) (by first | exact Nat.le_of_ble_eq_true rfl | omega)
    · skip
      refine Gets.via (fun _ k => (XS.iload A2 hx rfl (D at_56) rfl (XS.iload A2 hx rfl (D at_58) rfl (XS.iconst A2 hx rfl (D at_60) k)))) ?_
      refine X1.callS (W := 0) (w0 hw) (w1 hw) (w2 hw) (w3 hw) (by decide) (X1.payM (sf := []) (rmStr2L hcx n1 q6 q7 (0 : Int32) h0 X1.old hp rq6 rq7) sf0 (w3 hw) (w2 hw)) rfl (sz hml rfl) (argsL := [(.int n1), (.int q6), (.int q7), (.int (0 : Int32))]) (rest := []) (lenOf pd38 rfl) rfl rfl (mroom rfl rfl) (D at_61) (by decide) (by decide) fun T283 h283 vm283 v283 X283 C283 z283 q283 => ?_
      obtain ⟨a283, b283, kb283, rfl, K283, g283_0⟩ := q283
      have l284 := ltA g283_0.lt
      have l285 := ltA g283_0.lb
      have A286 := X283.at
      refine Gets.via (fun _ k => (XS.astore A286 hx rfl (D at_64) rfl rfl (l' := #[vI p0, .val (.long p1), .second, vI p2, vI n1, vI n2, vI q6, vI q7, vI q8, vI q9, vI q10, vR a283, .unset, .unset, .unset, .unset, .unset]) rfl k)) ?_
      rcases h2 with ht | ht | ht | ht
      · skip
        skip
        refine Gets.via (fun _ k => (XS.iload A286 hx rfl (D at_66) rfl (XS.iload A286 hx rfl (D at_68) rfl (XS.iload A286 hx rfl (D at_70) rfl (XS.iload A286 hx rfl (D at_72) rfl k))))) ?_
        refine X283.callS (W := 0) (w0 hw) (w1 hw) (w2 hw) (w3 hw) (by decide) (X283.payM (sf := []) (rmStr0L hcx n2 q8 q9 q10 h283 X283.old ht) sf0 (w3 hw) (w2 hw)) rfl (sz hml rfl) (argsL := [(.int n2), (.int q8), (.int q9), (.int q10)]) (rest := []) (lenOf pd38 rfl) rfl rfl (mroom rfl rfl) (D at_74) (by decide) (by decide) fun T287 h287 vm287 v287 X287 C287 z287 q287 => ?_
        obtain ⟨a287, b287, kb287, rfl, K287, g287_0⟩ := q287
        have l288 := ltA g287_0.lt
        have l289 := ltA g287_0.lb
        show Gets p e below _ (T287.setTop (mkF m 77 #[vI p0, .val (.long p1), .second, vI p2, vI n1, vI n2, vI q6, vI q7, vI q8, vI q9, vI q10, vR a283, .unset, .unset, .unset, .unset, .unset] [(.ref a287)]))
        have A290 := X287.at
        refine Gets.via (fun _ k => (XS.astore A290 hx rfl (D at_77) rfl rfl (l' := #[vI p0, .val (.long p1), .second, vI p2, vI n1, vI n2, vI q6, vI q7, vI q8, vI q9, vI q10, vR a283, vR a287, .unset, .unset, .unset, .unset]) rfl k)) ?_
        have f291 : Str Z h287 a283 b283 kb283 [q6, q7] := g283_0.keep K287 nin0 nin0
        exact j79L T287 h287 vm287 a283 b283 kb283 [q6, q7] a287 b287 kb287 [] (X287.more (by decide) (by decide)) (((Keep.refl h0 []).trans K283 all0).trans K287 all0) f291 g287_0 (by rw [hp]; rfl) (by first | exact Nat.le_of_ble_eq_true rfl | omega) (by rw [ht]; rfl) (by first | exact Nat.le_of_ble_eq_true rfl | omega)
      · skip
        rcases Classical.em ((255 : Int32) < q8) with hw_ | hw_
        · skip
          refine Gets.via (fun _ k => (XS.iload A286 hx rfl (D at_66) rfl (XS.iload A286 hx rfl (D at_68) rfl (XS.iload A286 hx rfl (D at_70) rfl (XS.iload A286 hx rfl (D at_72) rfl k))))) ?_
          refine X283.callS (W := 0) (w0 hw) (w1 hw) (w2 hw) (w3 hw) (by decide) (X283.payM (sf := []) (rmStr1U hcx n2 q8 q9 q10 h283 X283.old ht rq8 hw_) sf0 (w3 hw) (w2 hw)) rfl (sz hml rfl) (argsL := [(.int n2), (.int q8), (.int q9), (.int q10)]) (rest := []) (lenOf pd38 rfl) rfl rfl (mroom rfl rfl) (D at_74) (by decide) (by decide) fun T292 h292 vm292 v292 X292 C292 z292 q292 => ?_
          obtain ⟨a292, b292, kb292, rfl, K292, g292_0⟩ := q292
          have l293 := ltA g292_0.lt
          have l294 := ltA g292_0.lb
          have A295 := X292.at
          refine Gets.via (fun _ k => (XS.astore A295 hx rfl (D at_77) rfl rfl (l' := #[vI p0, .val (.long p1), .second, vI p2, vI n1, vI n2, vI q6, vI q7, vI q8, vI q9, vI q10, vR a283, vR a292, .unset, .unset, .unset, .unset]) rfl k)) ?_
          have f296 : Str Z h292 a283 b283 kb283 [q6, q7] := g283_0.keep K292 nin0 nin0
          exact j792 T292 h292 vm292 a283 b283 kb283 a292 b292 kb292 [q8] (X292.more (by decide) (by decide)) (((Keep.refl h0 []).trans K283 all0).trans K292 all0) f296 g292_0 hp (by rw [ht]; rfl) (by first | exact Nat.le_of_ble_eq_true rfl | omega)
        · skip
          have hn0 : ¬ q8 < 0 ∧ ¬ (255 : Int32) < q8 := ⟨rq8.1, fun q => hw_ (q)⟩
          refine Gets.via (fun _ k => (XS.iload A286 hx rfl (D at_66) rfl (XS.iload A286 hx rfl (D at_68) rfl (XS.iload A286 hx rfl (D at_70) rfl (XS.iload A286 hx rfl (D at_72) rfl k))))) ?_
          show Gets p e below _ (T283.setTop (mkF m 74 #[vI p0, .val (.long p1), .second, vI p2, vI n1, vI n2, vI q6, vI q7, vI q8, vI q9, vI q10, vR a283, .unset, .unset, .unset, .unset, .unset] [(.int q10), (.int q9), (.int q8), (.int n2)]))
          refine X283.callS (W := 0) (w0 hw) (w1 hw) (w2 hw) (w3 hw) (by decide) (X283.payM (sf := []) (rmStr1L hcx n2 q8 q9 q10 h283 X283.old ht hn0) sf0 (w3 hw) (w2 hw)) rfl (sz hml rfl) (argsL := [(.int n2), (.int q8), (.int q9), (.int q10)]) (rest := []) (lenOf pd38 rfl) rfl rfl (mroom rfl rfl) (D at_74) (by decide) (by decide) fun T297 h297 vm297 v297 X297 C297 z297 q297 => ?_
          obtain ⟨a297, b297, kb297, rfl, K297, g297_0⟩ := q297
          have l298 := ltA g297_0.lt
          have l299 := ltA g297_0.lb
          have A300 := X297.at
          refine Gets.via (fun _ k => (XS.astore A300 hx rfl (D at_77) rfl rfl (l' := #[vI p0, .val (.long p1), .second, vI p2, vI n1, vI n2, vI q6, vI q7, vI q8, vI q9, vI q10, vR a283, vR a297, .unset, .unset, .unset, .unset]) rfl k)) ?_
          have f301 : Str Z h297 a283 b283 kb283 [q6, q7] := g283_0.keep K297 nin0 nin0
          exact j79L T297 h297 vm297 a283 b283 kb283 [q6, q7] a297 b297 kb297 [q8] (X297.more (by decide) (by decide)) (((Keep.refl h0 []).trans K283 all0).trans K297 all0) f301 g297_0 (by rw [hp]; rfl) (by first | exact Nat.le_of_ble_eq_true rfl | omega) (by rw [ht]; rfl) (by first | exact Nat.le_of_ble_eq_true rfl | omega)
      · skip
        rcases Classical.em ((255 : Int32) < q8 ∨ (255 : Int32) < q9) with hw_ | hw_
        · skip
          refine Gets.via (fun _ k => (XS.iload A286 hx rfl (D at_66) rfl (XS.iload A286 hx rfl (D at_68) rfl (XS.iload A286 hx rfl (D at_70) rfl (XS.iload A286 hx rfl (D at_72) rfl k))))) ?_
          refine X283.callS (W := 0) (w0 hw) (w1 hw) (w2 hw) (w3 hw) (by decide) (X283.payM (sf := []) (rmStr2U hcx n2 q8 q9 q10 h283 X283.old ht rq8 rq9 hw_) sf0 (w3 hw) (w2 hw)) rfl (sz hml rfl) (argsL := [(.int n2), (.int q8), (.int q9), (.int q10)]) (rest := []) (lenOf pd38 rfl) rfl rfl (mroom rfl rfl) (D at_74) (by decide) (by decide) fun T302 h302 vm302 v302 X302 C302 z302 q302 => ?_
          obtain ⟨a302, b302, kb302, rfl, K302, g302_0⟩ := q302
          have l303 := ltA g302_0.lt
          have l304 := ltA g302_0.lb
          have A305 := X302.at
          refine Gets.via (fun _ k => (XS.astore A305 hx rfl (D at_77) rfl rfl (l' := #[vI p0, .val (.long p1), .second, vI p2, vI n1, vI n2, vI q6, vI q7, vI q8, vI q9, vI q10, vR a283, vR a302, .unset, .unset, .unset, .unset]) rfl k)) ?_
          show Gets p e below _ (T302.setTop (mkF m 79 #[vI p0, .val (.long p1), .second, vI p2, vI n1, vI n2, vI q6, vI q7, vI q8, vI q9, vI q10, vR a283, vR a302, .unset, .unset, .unset, .unset] []))
          have f306 : Str Z h302 a283 b283 kb283 [q6, q7] := g283_0.keep K302 nin0 nin0
          exact j792 T302 h302 vm302 a283 b283 kb283 a302 b302 kb302 [q8, q9] (X302.more (by decide) (by decide)) (((Keep.refl h0 []).trans K283 all0).trans K302 all0) f306 g302_0 hp (by rw [ht]; rfl) (by first | exact Nat.le_of_ble_eq_true rfl | omega)
        · skip
          have hn0 : ¬ q8 < 0 ∧ ¬ (255 : Int32) < q8 := ⟨rq8.1, fun q => hw_ (Or.inl q)⟩
          have hn1 : ¬ q9 < 0 ∧ ¬ (255 : Int32) < q9 := ⟨rq9.1, fun q => hw_ (Or.inr (q))⟩
          refine Gets.via (fun _ k => (XS.iload A286 hx rfl (D at_66) rfl (XS.iload A286 hx rfl (D at_68) rfl (XS.iload A286 hx rfl (D at_70) rfl (XS.iload A286 hx rfl (D at_72) rfl k))))) ?_
          refine X283.callS (W := 0) (w0 hw) (w1 hw) (w2 hw) (w3 hw) (by decide) (X283.payM (sf := []) (rmStr2L hcx n2 q8 q9 q10 h283 X283.old ht hn0 hn1) sf0 (w3 hw) (w2 hw)) rfl (sz hml rfl) (argsL := [(.int n2), (.int q8), (.int q9), (.int q10)]) (rest := []) (lenOf pd38 rfl) rfl rfl (mroom rfl rfl) (D at_74) (by decide) (by decide) fun T307 h307 vm307 v307 X307 C307 z307 q307 => ?_
          obtain ⟨a307, b307, kb307, rfl, K307, g307_0⟩ := q307
          have l308 := ltA g307_0.lt
          have l309 := ltA g307_0.lb
          have A310 := X307.at
          refine Gets.via (fun _ k => (XS.astore A310 hx rfl (D at_77) rfl rfl (l' := #[vI p0, .val (.long p1), .second, vI p2, vI n1, vI n2, vI q6, vI q7, vI q8, vI q9, vI q10, vR a283, vR a307, .unset, .unset, .unset, .unset]) rfl k)) ?_
          have f311 : Str Z h307 a283 b283 kb283 [q6, q7] := g283_0.keep K307 nin0 nin0
          exact j79L T307 h307 vm307 a283 b283 kb283 [q6, q7] a307 b307 kb307 [q8, q9] (X307.more (by decide) (by decide)) (((Keep.refl h0 []).trans K283 all0).trans K307 all0) f311 g307_0 (by rw [hp]; rfl) (by first | exact Nat.le_of_ble_eq_true rfl | omega) (by rw [ht]; rfl) (by first | exact Nat.le_of_ble_eq_true rfl | omega)
      · skip
        rcases Classical.em ((255 : Int32) < q8 ∨ (255 : Int32) < q9 ∨ (255 : Int32) < q10) with hw_ | hw_
        · skip
          refine Gets.via (fun _ k => (XS.iload A286 hx rfl (D at_66) rfl (XS.iload A286 hx rfl (D at_68) rfl (XS.iload A286 hx rfl (D at_70) rfl (XS.iload A286 hx rfl (D at_72) rfl k))))) ?_
          show Gets p e below _ (T283.setTop (mkF m 74 #[vI p0, .val (.long p1), .second, vI p2, vI n1, vI n2, vI q6, vI q7, vI q8, vI q9, vI q10, vR a283, .unset, .unset, .unset, .unset, .unset] [(.int q10), (.int q9), (.int q8), (.int n2)]))
          refine X283.callS (W := 0) (w0 hw) (w1 hw) (w2 hw) (w3 hw) (by decide) (X283.payM (sf := []) (rmStr3U hcx n2 q8 q9 q10 h283 X283.old ht rq8 rq9 rq10 hw_) sf0 (w3 hw) (w2 hw)) rfl (sz hml rfl) (argsL := [(.int n2), (.int q8), (.int q9), (.int q10)]) (rest := []) (lenOf pd38 rfl) rfl rfl (mroom rfl rfl) (D at_74) (by decide) (by decide) fun T312 h312 vm312 v312 X312 C312 z312 q312 => ?_
          obtain ⟨a312, b312, kb312, rfl, K312, g312_0⟩ := q312
          have l313 := ltA g312_0.lt
          have l314 := ltA g312_0.lb
          have A315 := X312.at
          refine Gets.via (fun _ k => (XS.astore A315 hx rfl (D at_77) rfl rfl (l' := #[vI p0, .val (.long p1), .second, vI p2, vI n1, vI n2, vI q6, vI q7, vI q8, vI q9, vI q10, vR a283, vR a312, .unset, .unset, .unset, .unset]) rfl k)) ?_
          have f316 : Str Z h312 a283 b283 kb283 [q6, q7] := g283_0.keep K312 nin0 nin0
          exact j792 T312 h312 vm312 a283 b283 kb283 a312 b312 kb312 [q8, q9, q10] (X312.more (by decide) (by decide)) (((Keep.refl h0 []).trans K283 all0).trans K312 all0) f316 g312_0 hp (by rw [ht]; rfl) (by first | exact Nat.le_of_ble_eq_true rfl | omega)
        · skip
          have hn0 : ¬ q8 < 0 ∧ ¬ (255 : Int32) < q8 := ⟨rq8.1, fun q => hw_ (Or.inl q)⟩
          have hn1 : ¬ q9 < 0 ∧ ¬ (255 : Int32) < q9 := ⟨rq9.1, fun q => hw_ (Or.inr (Or.inl q))⟩
          have hn2 : ¬ q10 < 0 ∧ ¬ (255 : Int32) < q10 := ⟨rq10.1, fun q => hw_ (Or.inr (Or.inr (q)))⟩
          refine Gets.via (fun _ k => (XS.iload A286 hx rfl (D at_66) rfl (XS.iload A286 hx rfl (D at_68) rfl (XS.iload A286 hx rfl (D at_70) rfl (XS.iload A286 hx rfl (D at_72) rfl k))))) ?_
          refine X283.callS (W := 0) (w0 hw) (w1 hw) (w2 hw) (w3 hw) (by decide) (X283.payM (sf := []) (rmStr3L hcx n2 q8 q9 q10 h283 X283.old ht hn0 hn1 hn2) sf0 (w3 hw) (w2 hw)) rfl (sz hml rfl) (argsL := [(.int n2), (.int q8), (.int q9), (.int q10)]) (rest := []) (lenOf pd38 rfl) rfl rfl (mroom rfl rfl) (D at_74) (by decide) (by decide) fun T317 h317 vm317 v317 X317 C317 z317 q317 => ?_
          obtain ⟨a317, b317, kb317, rfl, K317, g317_0⟩ := q317
          have l318 := ltA g317_0.lt
          have l319 := ltA g317_0.lb
          have A320 := X317.at
          refine Gets.via (fun _ k => (XS.astore A320 hx rfl (D at_77) rfl rfl (l' := #[vI p0, .val (.long p1), .second, vI p2, vI n1, vI n2, vI q6, vI q7, vI q8, vI q9, vI q10, vR a283, vR a317, .unset, .unset, .unset, .unset]) rfl k)) ?_
          show Gets p e below _ (T317.setTop (mkF m 79 #[vI p0, .val (.long p1), .second, vI p2, vI n1, vI n2, vI q6, vI q7, vI q8, vI q9, vI q10, vR a283, vR a317, .unset, .unset, .unset, .unset] []))
          have f321 : Str Z h317 a283 b283 kb283 [q6, q7] := g283_0.keep K317 nin0 nin0
          exact j79L T317 h317 vm317 a283 b283 kb283 [q6, q7] a317 b317 kb317 [q8, q9, q10] (X317.more (by decide) (by decide)) (((Keep.refl h0 []).trans K283 all0).trans K317 all0) f321 g317_0 (by rw [hp]; rfl) (by first | exact Nat.le_of_ble_eq_true rfl | omega) (by rw [ht]; rfl) (by first | exact Nat.le_of_ble_eq_true rfl | omega)
  exact j54 T0 X0 _ _ _ _ _ _ _ (sz3 p2) (sz4 p2) (m255 _) (m255 _) (i2c_rng _) (i2c_rng _) (i2c_rng _)
set_option maxRecDepth 65536 in
set_option maxHeartbeats 40000000 in
theorem comes_1 {Post : Tables → Env → Array Value → State → Outcome → State → Prop} (hpost : ∀ tb e args s v u, (limb_1_1.after args s (.returned v) u = true ∧ limb_1_2.after args s (.returned v) u = true ∧ True) → FramedW s (.returned v) u (Jvm.fieldLocs frame_1_writes args s ++ Jvm.arrayLocs frame_1_arrays args s ++ Jvm.staticLocs frame_1_statics s) 40 2368 → Post tb e args s (.returned v) u) :
    ArmFor flags0 classFile x code maxLocals ret World_1 tables_1 room_1 Calls_1 rest_1 Pre_1 Post := by
  intro l hfl _ _ p e ha hc hk s m args below hf hA hF happ hP
  obtain ⟨hcalls, hrest, hpre⟩ := hP
  obtain ⟨-, -, -, hnamed, -, -, -, hat⟩ := (Spec.applies_iff hf).mp happ
  obtain ⟨hg, hn⟩ := and_e (Cond.before_iff.mp (show (Jvm.Cond.and given_1 narrow_1).before args s = true from hpre))
  obtain ⟨h1, h2⟩ := and_e hg
  obtain ⟨w0, w1, w2, rfl⟩ : ∃ w0 w1 w2 : Value, args = #[w0, w1, w2] := by
    have hs : args.size = 3 := by simpa [Cond.value, given_1] using h1
    obtain ⟨L⟩ := args
    match L, hs with
    | [w0, w1, w2], _ => exact ⟨w0, w1, w2, rfl⟩
  have hw := fun d (hd : d ∈ tables_1) => atoms_spec (ws := Jvm.Cond.code x code maxLocals ret :: tables_1) hat d (List.mem_cons_of_mem _ hd)
  obtain ⟨u0, r0⟩ := and_e h2
  obtain ⟨i0, e0⟩ := is_v u0
  obtain rfl : w0 = (.int i0) := Option.some.inj e0
  obtain ⟨u1, r1⟩ := and_e r0
  obtain ⟨i1, e1⟩ := isL_v u1
  obtain rfl : w1 = (.long i1) := Option.some.inj e1
  obtain ⟨i2, e2⟩ := is_v r1
  obtain rfl : w2 = (.int i2) := Option.some.inj e2
  obtain ⟨hst, hown0⟩ := atoms_of _ (rest_1_c_eq ▸ (show rest_1_c.before _ s = true from hrest))
  obtain ⟨zc, ez⟩ := is_v (Cond.before_iff.mp (hst _ (List.mem_of_getElem? (i := 1) rfl)))
  have O2 : Sta s s.heap "java/lang/String" "COMPACT_STRINGS" "Z" (.int zc) := Sta.start ez (Or.inl (hst _ (List.mem_of_getElem? (i := 0) rfl)))
  have P5 : ¬ zc = 0 := gotF (Cond.eq_ints ez (Term.int_eval (0))) (not_v (Cond.before_iff.mp (hst _ (List.mem_of_getElem? (i := 2) rfl))))
  have hEL : EW s _ consts_1 := (EW.cons (w121 hw) (by decide) (EW.cons (w34 hw) (by decide) EW.nil))
  have hCH : CHv s consts_1 s.vm s.heap := CHv.start hEL hcalls.1 (hst _ (List.mem_of_getElem? (i := 2) rfl)) (w23 hw) (w5 hw)
  obtain ⟨fm, v4, P6⟩ := isR_v (Cond.before_iff.mp (hst _ (List.mem_of_getElem? (i := 8) rfl)))
  have O4 : Sta s s.heap "jdk/internal/util/Preconditions" "SIOOBE_FORMATTER" "Ljava/util/function/BiFunction;" fm := Sta.start v4 (Or.inl (hst _ (List.mem_of_getElem? (i := 7) rfl)))
  have OA : Sta s s.heap "java/lang/StringUTF16" "$assertionsDisabled" "Z" (.int (1 : Int32)) := Sta.start (Cond.eq_int (hst _ (List.mem_of_getElem? (i := 12) rfl)) rfl) (Or.inl (hst _ (List.mem_of_getElem? (i := 11) rfl)))
  have OH : Sta s s.heap "java/lang/StringUTF16" "HI_BYTE_SHIFT" "I" (.int (0 : Int32)) := Sta.start (Cond.eq_int (hst _ (List.mem_of_getElem? (i := 15) rfl)) rfl) (Or.inl (hst _ (List.mem_of_getElem? (i := 14) rfl)))
  have OB : Sta s s.heap "java/lang/StringUTF16" "LO_BYTE_SHIFT" "I" (.int (8 : Int32)) := Sta.start (Cond.eq_int (hst _ (List.mem_of_getElem? (i := 18) rfl)) rfl) (Or.inl (hst _ (List.mem_of_getElem? (i := 17) rfl)))
  obtain ⟨n, o, h1, h2, h3, v, L, rfl, ⟨⟨rfl, -⟩, N, -⟩, -, hq⟩ := rmLaw ⟨hw, hEL, O2, P5, O4, P6, OA, OH, OB⟩ i0 i1 i2 s.heap (Old.start s) p e ha hc hk s m _ below hf ((Spec.applies_iff_loose hf).mp happ).1 ⟨rfl, State.Warmed39.refl s, rfl, hCH, fun _ q => nomatch q⟩ trivial
  refine ⟨n, _, h1, h2, h3, hpost _ _ _ _ _ _ ⟨Cond.after_iff.mpr rfl, Cond.after_iff.mpr (eq_i res_at (Term.int_eval (1)) rfl), trivial⟩ ⟨hq.1, hq.2.1, hq.2.2.1, (hq.2.2.2.sift fun y hy => Or.inr (N y hy)).mono (by decide) (by decide)⟩⟩
theorem main_1_1 : Claimed_1_1 := comes_1 fun _ _ _ _ _ _ h hF => ⟨h.1, hF⟩
theorem main_1_2 : Claimed_1_2 := comes_1 fun _ _ _ _ _ _ h hF => ⟨h.2.1, hF⟩
end Jvm.Pilot.@@N@@
namespace Jvm.Pilot.@@N@@
open Jvm Jvm.ClassFile Sem Op Lib Jvm.Free Jvm.Stand Jvm.Pilot.@@N@@.Jvm.D
/-! MADE BY PROGRAM (witnessworld.py) out of the Statement's table words and the real class files: 26 classes; the members and pool entries that the words name. The judged class is class 1, her method 2. -/
namespace start1
open Jvm.ClassFile
def u (s : String) : CpInfo := .utf8 (stringToUtf16 s)
/-- a pool by its gaps: so many unusable entries, then the entry; so many at the end -/
def gap : Nat → List CpInfo → List CpInfo
  | 0, r => r
  | n + 1, r => .unusable :: gap n r
def poolList (es : List (Nat × CpInfo)) (last : Nat) : List CpInfo := es.foldr (fun e r => gap e.1 (e.2 :: r)) (gap last [])
def pool (es : List (Nat × CpInfo)) (last : Nat) : Array CpInfo := ⟨poolList es last⟩
def fileOf (pool : Array CpInfo) (this : Nat) (attrs : Array Attribute := #[]) (ms : Array MethodInfo := #[]) (fl : Nat := 33) (sup : Nat := 0) (ifs : Array Nat := #[]) (fds : Array FieldInfo := #[]) : ClassFile where
  minorVersion := 0
  majorVersion := 65
  constantPool := pool
  accessFlags := fl
  thisClass := this
  superClass := sup
  interfaces := ifs
  fields := fds
  methods := ms
  attributes := attrs
def plain (name : String) (sup : Option ClassId) : Class where
  name := name
  kind := .ordinary
  loader := none
  accessFlags := 33
  super := sup
  interfaces := #[]
  cf := none
  fields := #[]
  methods := #[]
  instanceTypes := #[]
  staticTypes := #[]
  resolved := #[]
  callSites := []
  init := .initialized
  statics := none
  mirror := none

def pool0 : Array CpInfo := pool [(5, u "<init>"), (0, u "()V"), (1, .class_ 10), (1, u "java/lang/Object")] 113

def k0c0 : Code := { maxStack := 0, maxLocals := 1, code := object_method_1_code, exceptionTable := #[], attributes := #[] }
def k0m0 : Method := { name := "<init>", desc := "()V", sig := { parameters := [], returnType := none }, accessFlags := 1, code := some k0c0 }
/-- java/lang/Object -/
def k0 : Class := { plain "java/lang/Object" none with
  accessFlags := 33
  interfaces := #[]
  cf := some (fileOf pool0 8 #[] #[{ accessFlags := 1, nameIndex := 5, descriptorIndex := 6, attributes := #[] }] 33 0 #[] #[])
  fields := #[]
  methods := #[k0m0]
  instanceTypes := #[]
  staticTypes := #[]
  resolved := Array.replicate 124 none
  statics := none }

def pool1 : Array CpInfo := pool [(2, .class_ 4), (0, .nameAndType 5 6), (0, u "java/lang/Object"), (0, u "<init>"), (0, u "()V"), (0, .class_ 8), (0, u "java/lang/String"), (0, .methodref 7 10), (0, .nameAndType 5 11), (0, u "([C)V"), (0, .methodref 13 14), (0, .class_ 15), (0, .nameAndType 16 17), (0, u "com/example/carve/carve/http/HtmlClosePinLaw"), (0, u "str"), (0, u "(ICCC)Ljava/lang/String;"), (0, .class_ 19), (0, u "com/example/carve/carve/http/Html"), (0, .methodref 18 3), (0, .methodref 18 22), (0, .nameAndType 23 24), (0, u "markup"), (0, u "(Ljava/lang/String;)Lcom/example/carve/carve/http/Html;"), (0, .methodref 18 26), (0, .nameAndType 27 24), (0, u "close"), (0, .methodref 18 29), (0, .nameAndType 30 31), (0, u "toString"), (0, u "()Ljava/lang/String;"), (0, .methodref 7 33), (0, .nameAndType 34 35), (0, u "length"), (0, u "()I"), (0, .methodref 7 37), (0, .nameAndType 38 39), (0, u "charAt"), (0, u "(I)C"), (3, u "law"), (0, u "(IJI)Z")] 2

def k1m0 : Method := { name := "<init>", desc := "()V", sig := { parameters := [], returnType := none }, accessFlags := 2, code := none }
def k1c1 : Code := { maxStack := 6, maxLocals := 4, code := method_2_code, exceptionTable := #[], attributes := #[] }
def k1m1 : Method := { name := "str", desc := "(ICCC)Ljava/lang/String;", sig := { parameters := [.int, .char, .char, .char], returnType := some (.object "java/lang/String") }, accessFlags := 10, code := some k1c1 }
def k1c2 : Code := { maxStack := 4, maxLocals := 17, code := code, exceptionTable := #[], attributes := #[] }
def k1m2 : Method := { name := "law", desc := "(IJI)Z", sig := { parameters := [.int, .long, .int], returnType := some .boolean }, accessFlags := 9, code := some k1c2 }
/-- com/example/carve/carve/http/HtmlClosePinLaw -/
def k1 : Class := { plain "com/example/carve/carve/http/HtmlClosePinLaw" (some 0) with
  accessFlags := 49
  interfaces := #[]
  cf := some (fileOf pool1 13 #[] #[{ accessFlags := 2, nameIndex := 5, descriptorIndex := 6, attributes := #[] }, { accessFlags := 10, nameIndex := 16, descriptorIndex := 17, attributes := #[] }, { accessFlags := 9, nameIndex := 43, descriptorIndex := 44, attributes := #[] }] 49 2 #[] #[])
  fields := #[]
  methods := #[k1m0, k1m1, k1m2]
  instanceTypes := #[]
  staticTypes := #[]
  resolved := Array.replicate 47 none
  statics := none }

def pool2 : Array CpInfo := pool [(1, .class_ 2), (0, u "java/io/Serializable"), (0, .class_ 4), (0, u "java/lang/Object")] 2

/-- java/io/Serializable -/
def k2 : Class := { plain "java/io/Serializable" (some 0) with
  accessFlags := 1537
  interfaces := #[]
  cf := some (fileOf pool2 1 #[] #[] 1537 3 #[] #[])
  fields := #[]
  methods := #[]
  instanceTypes := #[]
  staticTypes := #[]
  resolved := Array.replicate 7 none
  statics := none }

def pool3 : Array CpInfo := pool [(1, .class_ 2), (0, u "java/lang/Comparable"), (0, .class_ 4), (0, u "java/lang/Object")] 7

/-- java/lang/Comparable -/
def k3 : Class := { plain "java/lang/Comparable" (some 0) with
  accessFlags := 1537
  interfaces := #[]
  cf := some (fileOf pool3 1 #[] #[] 1537 3 #[] #[])
  fields := #[]
  methods := #[]
  instanceTypes := #[]
  staticTypes := #[]
  resolved := Array.replicate 12 none
  statics := none }

def pool4 : Array CpInfo := pool [(2, .class_ 4), (1, u "java/lang/CharSequence"), (42, .class_ 48), (0, u "java/lang/CharSequence$1CodePointIterator"), (10, .class_ 60), (0, u "java/lang/CharSequence$1CharIterator"), (5, .class_ 67), (0, u "java/lang/Object")] 63

/-- java/lang/CharSequence -/
def k4 : Class := { plain "java/lang/CharSequence" (some 0) with
  accessFlags := 1537
  interfaces := #[]
  cf := some (fileOf pool4 2 #[.nestMembers #[47, 59]] #[] 1537 66 #[] #[])
  fields := #[]
  methods := #[]
  instanceTypes := #[]
  staticTypes := #[]
  resolved := Array.replicate 131 none
  statics := none }

def pool5 : Array CpInfo := pool [(1, .class_ 2), (0, u "java/lang/constant/Constable"), (0, .class_ 4), (0, u "java/lang/Object")] 6

/-- java/lang/constant/Constable -/
def k5 : Class := { plain "java/lang/constant/Constable" (some 0) with
  accessFlags := 1537
  interfaces := #[]
  cf := some (fileOf pool5 1 #[] #[] 1537 3 #[] #[])
  fields := #[]
  methods := #[]
  instanceTypes := #[]
  staticTypes := #[]
  resolved := Array.replicate 11 none
  statics := none }

def pool6 : Array CpInfo := pool [(1, .class_ 2), (0, u "java/lang/constant/ConstantDesc"), (0, .class_ 4), (0, u "java/lang/Object")] 32

/-- java/lang/constant/ConstantDesc -/
def k6 : Class := { plain "java/lang/constant/ConstantDesc" (some 0) with
  accessFlags := 1537
  interfaces := #[]
  cf := some (fileOf pool6 1 #[] #[] 1537 3 #[] #[])
  fields := #[]
  methods := #[]
  instanceTypes := #[]
  staticTypes := #[]
  resolved := Array.replicate 37 none
  statics := none }

def pool7 : Array CpInfo := pool [(1, .methodref 2 3), (0, .class_ 4), (0, .nameAndType 5 6), (0, u "java/lang/Object"), (0, u "<init>"), (0, u "()V"), (0, .string 8), (0, u ""), (0, .fieldref 10 11), (0, .class_ 12), (0, .nameAndType 13 14), (0, u "java/lang/String"), (0, u "value"), (0, u "[B"), (0, .fieldref 10 16), (0, .nameAndType 17 18), (0, u "coder"), (0, u "B"), (2, u "hash"), (0, u "I"), (2, u "hashIsZero"), (0, u "Z"), (0, .methodref 10 28), (0, .nameAndType 5 29), (0, u "([CIILjava/lang/Void;)V"), (6, u "checkBoundsOffCount"), (0, u "(III)I"), (0, .fieldref 10 39), (0, .nameAndType 40 26), (0, u "COMPACT_STRINGS"), (1, .class_ 44), (1, u "java/lang/StringUTF16"), (0, u "compress"), (1, .methodref 42 48), (0, .nameAndType 49 50), (0, u "coderFromArrayLen"), (0, u "([BI)B"), (3, .methodref 55 56), (0, .class_ 57), (0, .nameAndType 58 59), (0, u "java/util/Arrays"), (0, u "copyOfRange"), (0, u "([BII)[B"), (47, .class_ 109), (1, u "java/lang/StringLatin1"), (32, u "()Z"), (34, .methodref 42 178), (0, .nameAndType 45 179), (0, u "([CII)[B"), (13, .class_ 195), (1, u "java/lang/System"), (16, .methodref 193 213), (0, .nameAndType 214 215), (0, u "arraycopy"), (0, u "(Ljava/lang/Object;ILjava/lang/Object;II)V"), (118, u "()I"), (0, .methodref 10 336), (0, .nameAndType 17 337), (0, u "()B"), (2, u "()[B"), (22, u "([BI)C"), (27, u "(II)V"), (35, u "(I)C"), (61, .methodref 10 490), (0, .nameAndType 5 491), (0, u "(Ljava/lang/AbstractStringBuilder;Ljava/lang/Void;)V"), (0, .methodref 10 493), (0, .nameAndType 494 142), (0, u "isLatin1"), (0, .methodref 107 496), (0, .nameAndType 497 363), (0, u "charAt"), (0, .methodref 42 496), (2, u "checkIndex"), (4, .nameAndType 507 334), (0, u "length"), (24, u "getBytes"), (16, .methodref 550 506), (0, .class_ 551), (0, u "java/lang/AbstractStringBuilder"), (0, .methodref 550 553), (0, .nameAndType 554 340), (0, u "getValue"), (20, .class_ 576), (0, u "java/lang/CharSequence"), (22, u "CASE_INSENSITIVE_ORDER"), (0, u "Ljava/util/Comparator;"), (220, u "([BIB)V"), (188, u "([C)V"), (36, .methodref 550 493), (0, .fieldref 550 1049), (0, .nameAndType 1050 26), (0, u "maybeLatin1"), (2, .fieldref 1054 1055), (0, .class_ 1056), (0, .nameAndType 1057 1058), (0, u "jdk/internal/util/Preconditions"), (0, u "SIOOBE_FORMATTER"), (0, u "Ljava/util/function/BiFunction;"), (0, .methodref 1054 1060), (0, .nameAndType 501 1061), (0, u "(IILjava/util/function/BiFunction;)I"), (2, u "(IIILjava/util/function/BiFunction;)I"), (0, .methodref 1054 1066), (0, .nameAndType 1067 1064), (0, u "checkFromIndexSize"), (33, u "serialPersistentFields"), (0, u "[Ljava/io/ObjectStreamField;"), (0, .class_ 1104), (0, u "java/lang/String$CaseInsensitiveComparator"), (1, .class_ 1107), (0, u "java/io/Serializable"), (0, .class_ 1109), (0, u "java/lang/Comparable"), (0, .class_ 1111), (0, u "java/lang/constant/Constable"), (0, .class_ 1113), (0, u "java/lang/constant/ConstantDesc"), (2, u "serialVersionUID"), (0, u "J"), (3, u "REPL"), (0, u "C"), (2, u "LATIN1"), (1, u "UTF16"), (105, u "(Ljava/lang/StringBuilder;)V")] 217

def k7m0 : Method := { name := "<init>", desc := "()V", sig := { parameters := [], returnType := none }, accessFlags := 1, code := none }
def k7c1 : Code := { maxStack := 5, maxLocals := 2, code := jdk_42_method_3_code, exceptionTable := #[], attributes := #[] }
def k7m1 : Method := { name := "<init>", desc := "([C)V", sig := { parameters := [(.array .char)], returnType := none }, accessFlags := 1, code := some k7c1 }
def k7c2 : Code := { maxStack := 3, maxLocals := 2, code := jdk_42_method_53_code, exceptionTable := #[], attributes := #[] }
def k7m2 : Method := { name := "<init>", desc := "(Ljava/lang/StringBuilder;)V", sig := { parameters := [(.object "java/lang/StringBuilder")], returnType := none }, accessFlags := 1, code := some k7c2 }
def k7c3 : Code := { maxStack := 2, maxLocals := 1, code := jdk_42_method_54_code, exceptionTable := #[], attributes := #[] }
def k7m3 : Method := { name := "length", desc := "()I", sig := { parameters := [], returnType := some .int }, accessFlags := 1, code := some k7c3 }
def k7c4 : Code := { maxStack := 2, maxLocals := 2, code := jdk_42_method_56_code, exceptionTable := #[], attributes := #[] }
def k7m4 : Method := { name := "charAt", desc := "(I)C", sig := { parameters := [.int], returnType := some .char }, accessFlags := 1, code := some k7c4 }
def k7c5 : Code := { maxStack := 5, maxLocals := 4, code := jdk_42_method_147_code, exceptionTable := #[], attributes := #[] }
def k7m5 : Method := { name := "getBytes", desc := "([BIB)V", sig := { parameters := [(.array .byte), .int, .byte], returnType := none }, accessFlags := 0, code := some k7c5 }
def k7c6 : Code := { maxStack := 4, maxLocals := 6, code := jdk_42_method_149_code, exceptionTable := #[], attributes := #[] }
def k7m6 : Method := { name := "<init>", desc := "([CIILjava/lang/Void;)V", sig := { parameters := [(.array .char), .int, .int, (.object "java/lang/Void")], returnType := none }, accessFlags := 2, code := some k7c6 }
def k7c7 : Code := { maxStack := 5, maxLocals := 5, code := jdk_42_method_150_code, exceptionTable := #[], attributes := #[] }
def k7m7 : Method := { name := "<init>", desc := "(Ljava/lang/AbstractStringBuilder;Ljava/lang/Void;)V", sig := { parameters := [(.object "java/lang/AbstractStringBuilder"), (.object "java/lang/Void")], returnType := none }, accessFlags := 0, code := some k7c7 }
def k7c8 : Code := { maxStack := 1, maxLocals := 1, code := jdk_42_method_152_code, exceptionTable := #[], attributes := #[] }
def k7m8 : Method := { name := "coder", desc := "()B", sig := { parameters := [], returnType := some .byte }, accessFlags := 0, code := some k7c8 }
def k7c9 : Code := { maxStack := 1, maxLocals := 1, code := jdk_42_method_154_code, exceptionTable := #[], attributes := #[] }
def k7m9 : Method := { name := "isLatin1", desc := "()Z", sig := { parameters := [], returnType := some .boolean }, accessFlags := 0, code := some k7c9 }
def k7c10 : Code := { maxStack := 3, maxLocals := 2, code := jdk_42_method_155_code, exceptionTable := #[], attributes := #[] }
def k7m10 : Method := { name := "checkIndex", desc := "(II)V", sig := { parameters := [.int, .int], returnType := none }, accessFlags := 8, code := some k7c10 }
def k7c11 : Code := { maxStack := 4, maxLocals := 3, code := jdk_42_method_157_code, exceptionTable := #[], attributes := #[] }
def k7m11 : Method := { name := "checkBoundsOffCount", desc := "(III)I", sig := { parameters := [.int, .int, .int], returnType := some .int }, accessFlags := 8, code := some k7c11 }
/-- java/lang/String -/
def k7 : Class := { plain "java/lang/String" (some 0) with
  accessFlags := 49
  interfaces := #[2, 3, 4, 5, 6]
  cf := some (fileOf pool7 10 #[.nestMembers #[1103]] #[{ accessFlags := 1, nameIndex := 5, descriptorIndex := 6, attributes := #[] }, { accessFlags := 1, nameIndex := 5, descriptorIndex := 1010, attributes := #[] }, { accessFlags := 1, nameIndex := 5, descriptorIndex := 1233, attributes := #[] }, { accessFlags := 1, nameIndex := 507, descriptorIndex := 334, attributes := #[] }, { accessFlags := 1, nameIndex := 497, descriptorIndex := 427, attributes := #[] }, { accessFlags := 0, nameIndex := 532, descriptorIndex := 821, attributes := #[] }, { accessFlags := 2, nameIndex := 5, descriptorIndex := 29, attributes := #[] }, { accessFlags := 0, nameIndex := 5, descriptorIndex := 491, attributes := #[] }, { accessFlags := 0, nameIndex := 17, descriptorIndex := 337, attributes := #[] }, { accessFlags := 0, nameIndex := 494, descriptorIndex := 142, attributes := #[] }, { accessFlags := 8, nameIndex := 501, descriptorIndex := 391, attributes := #[] }, { accessFlags := 8, nameIndex := 36, descriptorIndex := 37, attributes := #[] }] 49 2 #[1106, 1108, 575, 1110, 1112] #[{ accessFlags := 18, nameIndex := 13, descriptorIndex := 14, attributes := #[] }, { accessFlags := 18, nameIndex := 17, descriptorIndex := 18, attributes := #[] }, { accessFlags := 2, nameIndex := 21, descriptorIndex := 22, attributes := #[] }, { accessFlags := 2, nameIndex := 25, descriptorIndex := 26, attributes := #[] }, { accessFlags := 26, nameIndex := 1116, descriptorIndex := 1117, attributes := #[] }, { accessFlags := 24, nameIndex := 40, descriptorIndex := 26, attributes := #[] }, { accessFlags := 26, nameIndex := 1101, descriptorIndex := 1102, attributes := #[] }, { accessFlags := 26, nameIndex := 1121, descriptorIndex := 1122, attributes := #[] }, { accessFlags := 25, nameIndex := 599, descriptorIndex := 600, attributes := #[] }, { accessFlags := 24, nameIndex := 1125, descriptorIndex := 18, attributes := #[] }, { accessFlags := 24, nameIndex := 1127, descriptorIndex := 18, attributes := #[] }])
  fields := #[{ name := "value", type := (.array .byte), accessFlags := 18, slot := 0, constantValue := 0 }, { name := "coder", type := .byte, accessFlags := 18, slot := 1, constantValue := 0 }, { name := "hash", type := .int, accessFlags := 2, slot := 2, constantValue := 0 }, { name := "hashIsZero", type := .boolean, accessFlags := 2, slot := 3, constantValue := 0 }, { name := "serialVersionUID", type := .long, accessFlags := 26, slot := 0, constantValue := 0 }, { name := "COMPACT_STRINGS", type := .boolean, accessFlags := 24, slot := 1, constantValue := 0 }, { name := "serialPersistentFields", type := (.array (.object "java/io/ObjectStreamField")), accessFlags := 26, slot := 2, constantValue := 0 }, { name := "REPL", type := .char, accessFlags := 26, slot := 3, constantValue := 0 }, { name := "CASE_INSENSITIVE_ORDER", type := (.object "java/util/Comparator"), accessFlags := 25, slot := 4, constantValue := 0 }, { name := "LATIN1", type := .byte, accessFlags := 24, slot := 5, constantValue := 0 }, { name := "UTF16", type := .byte, accessFlags := 24, slot := 6, constantValue := 0 }]
  methods := #[k7m0, k7m1, k7m2, k7m3, k7m4, k7m5, k7m6, k7m7, k7m8, k7m9, k7m10, k7m11]
  instanceTypes := #[(.array .byte), .byte, .int, .boolean]
  staticTypes := #[.long, .boolean, (.array (.object "java/io/ObjectStreamField")), .char, (.object "java/util/Comparator"), .byte, .byte]
  resolved := Array.replicate 1451 none
  statics := some 0 }

def pool8 : Array CpInfo := pool [(3, .class_ 4), (0, u "java/lang/String"), (1, .class_ 8), (1, u "java/lang/Object"), (0, u "<init>"), (0, u "()V"), (0, .methodref 12 13), (0, .class_ 14), (0, .nameAndType 15 16), (0, u "java/lang/StringUTF16"), (0, u "newBytesLength"), (0, u "(I)I"), (3, .integer 1073741823), (23, .fieldref 12 45), (0, .nameAndType 46 47), (0, u "$assertionsDisabled"), (0, u "Z"), (0, .methodref 12 49), (0, .nameAndType 50 51), (0, u "length"), (0, u "([B)I"), (7, .fieldref 12 60), (0, .nameAndType 61 62), (0, u "HI_BYTE_SHIFT"), (0, u "I"), (0, .fieldref 12 64), (0, .nameAndType 65 62), (0, u "LO_BYTE_SHIFT"), (1, .methodref 12 68), (0, .nameAndType 69 70), (0, u "checkIndex"), (0, u "(I[B)V"), (0, .methodref 12 72), (0, .nameAndType 73 74), (0, u "getChar"), (0, u "([BI)C"), (24, u "(II[B)V"), (7, .methodref 12 108), (0, .nameAndType 109 110), (0, u "newBytesFor"), (0, u "(I)[B"), (0, .methodref 12 112), (0, .nameAndType 113 114), (0, u "putChar"), (0, u "([BII)V"), (0, .methodref 12 116), (0, .nameAndType 117 118), (0, u "compress"), (0, u "([CI[BII)I"), (0, .methodref 12 120), (0, .nameAndType 121 122), (0, u "toBytes"), (0, u "([CII)[B"), (17, u "inflate"), (0, u "([BI[BII)V"), (31, .methodref 12 174), (0, .nameAndType 175 99), (0, u "checkBoundsOffCount"), (85, u "coderFromArrayLen"), (0, u "([BI)B"), (18, u "(III)I"), (87, .class_ 371), (1, u "java/lang/StringUTF16$LinesSpliterator"), (20, u "charAt"), (21, .methodref 3 415), (0, .nameAndType 69 416), (0, u "(II)V"), (2, .methodref 3 420), (0, .nameAndType 175 281), (9, u "MAX_LENGTH"), (155, u "putCharSB"), (40, .class_ 628), (0, u "java/lang/StringUTF16$CodePointsSpliterator"), (0, .class_ 630), (0, u "java/lang/StringUTF16$CharsSpliterator")] 4

def k8m0 : Method := { name := "<init>", desc := "()V", sig := { parameters := [], returnType := none }, accessFlags := 0, code := none }
def k8c1 : Code := { maxStack := 1, maxLocals := 1, code := jdk_52_method_2_code, exceptionTable := #[], attributes := #[] }
def k8m1 : Method := { name := "newBytesFor", desc := "(I)[B", sig := { parameters := [.int], returnType := some (.array .byte) }, accessFlags := 9, code := some k8c1 }
def k8c2 : Code := { maxStack := 4, maxLocals := 1, code := jdk_52_method_3_code, exceptionTable := #[], attributes := #[] }
def k8m2 : Method := { name := "newBytesLength", desc := "(I)I", sig := { parameters := [.int], returnType := some .int }, accessFlags := 9, code := some k8c2 }
def k8c3 : Code := { maxStack := 4, maxLocals := 3, code := jdk_52_method_4_code, exceptionTable := #[], attributes := #[] }
def k8m3 : Method := { name := "putChar", desc := "([BII)V", sig := { parameters := [(.array .byte), .int, .int], returnType := none }, accessFlags := 8, code := some k8c3 }
def k8c4 : Code := { maxStack := 3, maxLocals := 2, code := jdk_52_method_5_code, exceptionTable := #[], attributes := #[] }
def k8m4 : Method := { name := "getChar", desc := "([BI)C", sig := { parameters := [(.array .byte), .int], returnType := some .char }, accessFlags := 8, code := some k8c4 }
def k8c5 : Code := { maxStack := 2, maxLocals := 1, code := jdk_52_method_6_code, exceptionTable := #[], attributes := #[] }
def k8m5 : Method := { name := "length", desc := "([B)I", sig := { parameters := [(.array .byte)], returnType := some .int }, accessFlags := 9, code := some k8c5 }
def k8c6 : Code := { maxStack := 4, maxLocals := 5, code := jdk_52_method_14_code, exceptionTable := #[], attributes := #[] }
def k8m6 : Method := { name := "toBytes", desc := "([CII)[B", sig := { parameters := [(.array .char), .int, .int], returnType := some (.array .byte) }, accessFlags := 9, code := some k8c6 }
def k8c7 : Code := { maxStack := 2, maxLocals := 2, code := jdk_52_method_15_code, exceptionTable := #[], attributes := #[] }
def k8m7 : Method := { name := "coderFromArrayLen", desc := "([BI)B", sig := { parameters := [(.array .byte), .int], returnType := some .byte }, accessFlags := 8, code := some k8c7 }
def k8c8 : Code := { maxStack := 5, maxLocals := 6, code := jdk_52_method_16_code, exceptionTable := #[], attributes := #[] }
def k8m8 : Method := { name := "compress", desc := "([CII)[B", sig := { parameters := [(.array .char), .int, .int], returnType := some (.array .byte) }, accessFlags := 9, code := some k8c8 }
def k8c9 : Code := { maxStack := 3, maxLocals := 7, code := jdk_52_method_21_code, exceptionTable := #[], attributes := #[] }
def k8m9 : Method := { name := "compress", desc := "([CI[BII)I", sig := { parameters := [(.array .char), .int, (.array .byte), .int, .int], returnType := some .int }, accessFlags := 9, code := some k8c9 }
def k8c10 : Code := { maxStack := 3, maxLocals := 3, code := jdk_52_method_71_code, exceptionTable := #[], attributes := #[] }
def k8m10 : Method := { name := "putCharSB", desc := "([BII)V", sig := { parameters := [(.array .byte), .int, .int], returnType := none }, accessFlags := 9, code := some k8c10 }
def k8c11 : Code := { maxStack := 2, maxLocals := 2, code := jdk_52_method_83_code, exceptionTable := #[], attributes := #[] }
def k8m11 : Method := { name := "charAt", desc := "([BI)C", sig := { parameters := [(.array .byte), .int], returnType := some .char }, accessFlags := 9, code := some k8c11 }
def k8c12 : Code := { maxStack := 4, maxLocals := 6, code := jdk_52_method_86_code, exceptionTable := #[], attributes := #[] }
def k8m12 : Method := { name := "inflate", desc := "([BI[BII)V", sig := { parameters := [(.array .byte), .int, (.array .byte), .int, .int], returnType := none }, accessFlags := 9, code := some k8c12 }
def k8c13 : Code := { maxStack := 2, maxLocals := 2, code := jdk_52_method_91_code, exceptionTable := #[], attributes := #[] }
def k8m13 : Method := { name := "checkIndex", desc := "(I[B)V", sig := { parameters := [.int, (.array .byte)], returnType := none }, accessFlags := 9, code := some k8c13 }
def k8c14 : Code := { maxStack := 3, maxLocals := 3, code := jdk_52_method_94_code, exceptionTable := #[], attributes := #[] }
def k8m14 : Method := { name := "checkBoundsOffCount", desc := "(II[B)V", sig := { parameters := [.int, .int, (.array .byte)], returnType := none }, accessFlags := 9, code := some k8c14 }
/-- java/lang/StringUTF16 -/
def k8 : Class := { plain "java/lang/StringUTF16" (some 0) with
  accessFlags := 48
  interfaces := #[]
  cf := some (fileOf pool8 12 #[.nestMembers #[627, 629, 369]] #[{ accessFlags := 0, nameIndex := 9, descriptorIndex := 10, attributes := #[] }, { accessFlags := 9, nameIndex := 109, descriptorIndex := 110, attributes := #[] }, { accessFlags := 9, nameIndex := 15, descriptorIndex := 16, attributes := #[] }, { accessFlags := 8, nameIndex := 113, descriptorIndex := 114, attributes := #[] }, { accessFlags := 8, nameIndex := 73, descriptorIndex := 74, attributes := #[] }, { accessFlags := 9, nameIndex := 50, descriptorIndex := 51, attributes := #[] }, { accessFlags := 9, nameIndex := 121, descriptorIndex := 122, attributes := #[] }, { accessFlags := 8, nameIndex := 261, descriptorIndex := 262, attributes := #[] }, { accessFlags := 9, nameIndex := 117, descriptorIndex := 122, attributes := #[] }, { accessFlags := 9, nameIndex := 117, descriptorIndex := 118, attributes := #[] }, { accessFlags := 9, nameIndex := 586, descriptorIndex := 114, attributes := #[] }, { accessFlags := 9, nameIndex := 392, descriptorIndex := 74, attributes := #[] }, { accessFlags := 9, nameIndex := 140, descriptorIndex := 141, attributes := #[] }, { accessFlags := 9, nameIndex := 69, descriptorIndex := 70, attributes := #[] }, { accessFlags := 9, nameIndex := 175, descriptorIndex := 99, attributes := #[] }] 48 6 #[] #[{ accessFlags := 26, nameIndex := 61, descriptorIndex := 62, attributes := #[] }, { accessFlags := 26, nameIndex := 65, descriptorIndex := 62, attributes := #[] }, { accessFlags := 24, nameIndex := 430, descriptorIndex := 62, attributes := #[] }, { accessFlags := 4120, nameIndex := 46, descriptorIndex := 47, attributes := #[] }])
  fields := #[{ name := "HI_BYTE_SHIFT", type := .int, accessFlags := 26, slot := 0, constantValue := 0 }, { name := "LO_BYTE_SHIFT", type := .int, accessFlags := 26, slot := 1, constantValue := 0 }, { name := "MAX_LENGTH", type := .int, accessFlags := 24, slot := 2, constantValue := 0 }, { name := "$assertionsDisabled", type := .boolean, accessFlags := 4120, slot := 3, constantValue := 0 }]
  methods := #[k8m0, k8m1, k8m2, k8m3, k8m4, k8m5, k8m6, k8m7, k8m8, k8m9, k8m10, k8m11, k8m12, k8m13, k8m14]
  instanceTypes := #[]
  staticTypes := #[.int, .int, .int, .boolean]
  resolved := Array.replicate 635 none
  statics := some 1 }

def pool9 : Array CpInfo := pool [(1, .methodref 2 3), (0, .class_ 4), (0, .nameAndType 5 6), (0, u "java/lang/Object"), (0, u "<init>"), (0, u "()V"), (0, .class_ 8), (0, u "java/lang/StringBuilder"), (0, .methodref 7 3), (0, .fieldref 11 12), (0, .class_ 13), (0, .nameAndType 14 15), (0, u "com/example/carve/carve/http/Html"), (0, u "out"), (0, u "Ljava/lang/StringBuilder;"), (0, .methodref 7 17), (0, .nameAndType 18 19), (0, u "append"), (0, u "(C)Ljava/lang/StringBuilder;"), (0, .methodref 7 21), (0, .nameAndType 18 22), (0, u "(Ljava/lang/String;)Ljava/lang/StringBuilder;"), (6, .string 30), (0, u "</"), (7, u "(Ljava/lang/String;)Lcom/example/carve/carve/http/Html;"), (2, u "close"), (23, .methodref 7 66), (0, .nameAndType 67 68), (0, u "toString"), (0, u "()Ljava/lang/String;"), (5, u "markup")] 4

def k9c0 : Code := { maxStack := 3, maxLocals := 1, code := prog_24_method_1_code, exceptionTable := #[], attributes := #[] }
def k9m0 : Method := { name := "<init>", desc := "()V", sig := { parameters := [], returnType := none }, accessFlags := 0, code := some k9c0 }
def k9c1 : Code := { maxStack := 2, maxLocals := 2, code := prog_24_method_3_code, exceptionTable := #[], attributes := #[] }
def k9m1 : Method := { name := "close", desc := "(Ljava/lang/String;)Lcom/example/carve/carve/http/Html;", sig := { parameters := [(.object "java/lang/String")], returnType := some (.object "com/example/carve/carve/http/Html") }, accessFlags := 0, code := some k9c1 }
def k9c2 : Code := { maxStack := 2, maxLocals := 2, code := prog_24_method_6_code, exceptionTable := #[], attributes := #[] }
def k9m2 : Method := { name := "markup", desc := "(Ljava/lang/String;)Lcom/example/carve/carve/http/Html;", sig := { parameters := [(.object "java/lang/String")], returnType := some (.object "com/example/carve/carve/http/Html") }, accessFlags := 0, code := some k9c2 }
def k9c3 : Code := { maxStack := 1, maxLocals := 1, code := prog_24_method_9_code, exceptionTable := #[], attributes := #[] }
def k9m3 : Method := { name := "toString", desc := "()Ljava/lang/String;", sig := { parameters := [], returnType := some (.object "java/lang/String") }, accessFlags := 1, code := some k9c3 }
/-- com/example/carve/carve/http/Html -/
def k9 : Class := { plain "com/example/carve/carve/http/Html" (some 0) with
  accessFlags := 32
  interfaces := #[]
  cf := some (fileOf pool9 11 #[] #[{ accessFlags := 0, nameIndex := 5, descriptorIndex := 6, attributes := #[] }, { accessFlags := 0, nameIndex := 41, descriptorIndex := 38, attributes := #[] }, { accessFlags := 0, nameIndex := 74, descriptorIndex := 38, attributes := #[] }, { accessFlags := 1, nameIndex := 67, descriptorIndex := 68, attributes := #[] }] 32 2 #[] #[{ accessFlags := 18, nameIndex := 14, descriptorIndex := 15, attributes := #[] }])
  fields := #[{ name := "out", type := (.object "java/lang/StringBuilder"), accessFlags := 18, slot := 0, constantValue := 0 }]
  methods := #[k9m0, k9m1, k9m2, k9m3]
  instanceTypes := #[(.object "java/lang/StringBuilder")]
  staticTypes := #[]
  resolved := Array.replicate 79 none
  statics := none }

def pool10 : Array CpInfo := pool [(1, .class_ 2), (0, u "java/lang/Appendable"), (0, .class_ 4), (0, u "java/lang/Object")] 9

/-- java/lang/Appendable -/
def k10 : Class := { plain "java/lang/Appendable" (some 0) with
  accessFlags := 1537
  interfaces := #[]
  cf := some (fileOf pool10 1 #[] #[] 1537 3 #[] #[])
  fields := #[]
  methods := #[]
  instanceTypes := #[]
  staticTypes := #[]
  resolved := Array.replicate 14 none
  statics := none }

def pool11 : Array CpInfo := pool [(1, .class_ 2), (0, u "java/lang/String"), (0, .methodref 4 5), (0, .class_ 6), (0, .nameAndType 7 8), (0, u "java/lang/Object"), (0, u "<init>"), (0, u "()V"), (1, .class_ 12), (1, u "java/lang/AbstractStringBuilder"), (0, u "EMPTYVALUE"), (0, u "[B"), (0, .fieldref 10 16), (0, .nameAndType 17 14), (0, u "value"), (0, .fieldref 1 19), (0, .nameAndType 20 21), (0, u "COMPACT_STRINGS"), (0, u "Z"), (0, .fieldref 10 23), (0, .nameAndType 24 25), (0, u "coder"), (0, u "B"), (0, .methodref 27 28), (0, .class_ 29), (0, .nameAndType 30 31), (0, u "java/lang/StringUTF16"), (0, u "newBytesFor"), (0, u "(I)[B"), (0, .methodref 1 33), (0, .nameAndType 34 35), (0, u "length"), (0, u "()I"), (4, .methodref 1 41), (0, .nameAndType 24 42), (0, u "()B"), (2, u "append"), (0, u "(Ljava/lang/String;)Ljava/lang/AbstractStringBuilder;"), (1, .class_ 49), (0, u "java/lang/CharSequence"), (19, u "(Ljava/lang/String;)V"), (5, u "maybeLatin1"), (3, .fieldref 10 80), (0, .nameAndType 81 82), (0, u "count"), (0, u "I"), (0, .methodref 10 84), (0, .nameAndType 85 86), (0, u "isLatin1"), (0, u "()Z"), (1, .class_ 90), (1, u "java/lang/StringLatin1"), (9, .methodref 10 101), (0, .nameAndType 102 103), (0, u "ensureCapacityInternal"), (0, u "(I)V"), (21, .methodref 88 126), (0, .nameAndType 127 128), (0, u "inflate"), (0, u "([BI[BII)V"), (7, u "([BII)V"), (54, .methodref 88 192), (0, .nameAndType 193 194), (0, u "canEncode"), (0, u "(C)Z"), (0, .methodref 10 196), (0, .nameAndType 127 8), (0, .methodref 27 198), (0, .nameAndType 199 136), (0, u "putCharSB"), (8, .methodref 10 209), (0, .nameAndType 210 211), (0, u "putStringAt"), (0, u "(ILjava/lang/String;)V"), (5, u "inflateIfNeededFor"), (2, .nameAndType 221 222), (0, u "getBytes"), (0, u "([BIB)V"), (69, u "(C)Ljava/lang/AbstractStringBuilder;"), (104, .methodref 10 398), (0, .nameAndType 217 69), (0, .methodref 1 220), (3, u "()[B"), (40, .class_ 445), (0, u "java/lang/Appendable"), (106, u "getValue")] 56

def k11m0 : Method := { name := "<init>", desc := "()V", sig := { parameters := [], returnType := none }, accessFlags := 0, code := none }
def k11c1 : Code := { maxStack := 2, maxLocals := 2, code := jdk_68_method_2_code, exceptionTable := #[], attributes := #[] }
def k11m1 : Method := { name := "<init>", desc := "(I)V", sig := { parameters := [.int], returnType := none }, accessFlags := 0, code := some k11c1 }
def k11c2 : Code := { maxStack := 1, maxLocals := 1, code := jdk_68_method_6_code, exceptionTable := #[], attributes := #[] }
def k11m2 : Method := { name := "length", desc := "()I", sig := { parameters := [], returnType := some .int }, accessFlags := 1, code := some k11c2 }
def k11c3 : Code := { maxStack := 4, maxLocals := 3, code := jdk_68_method_9_code, exceptionTable := #[], attributes := #[] }
def k11m3 : Method := { name := "ensureCapacityInternal", desc := "(I)V", sig := { parameters := [.int], returnType := none }, accessFlags := 2, code := some k11c3 }
def k11c4 : Code := { maxStack := 5, maxLocals := 2, code := jdk_68_method_11_code, exceptionTable := #[], attributes := #[] }
def k11m4 : Method := { name := "inflate", desc := "()V", sig := { parameters := [], returnType := none }, accessFlags := 2, code := some k11c4 }
def k11c5 : Code := { maxStack := 3, maxLocals := 3, code := jdk_68_method_22_code, exceptionTable := #[], attributes := #[] }
def k11m5 : Method := { name := "append", desc := "(Ljava/lang/String;)Ljava/lang/AbstractStringBuilder;", sig := { parameters := [(.object "java/lang/String")], returnType := some (.object "java/lang/AbstractStringBuilder") }, accessFlags := 1, code := some k11c5 }
def k11c6 : Code := { maxStack := 5, maxLocals := 2, code := jdk_68_method_31_code, exceptionTable := #[], attributes := #[] }
def k11m6 : Method := { name := "append", desc := "(C)Ljava/lang/AbstractStringBuilder;", sig := { parameters := [.char], returnType := some (.object "java/lang/AbstractStringBuilder") }, accessFlags := 1, code := some k11c6 }
def k11c7 : Code := { maxStack := 1, maxLocals := 1, code := jdk_68_method_64_code, exceptionTable := #[], attributes := #[] }
def k11m7 : Method := { name := "getValue", desc := "()[B", sig := { parameters := [], returnType := some (.array .byte) }, accessFlags := 16, code := some k11c7 }
def k11c8 : Code := { maxStack := 1, maxLocals := 1, code := jdk_68_method_68_code, exceptionTable := #[], attributes := #[] }
def k11m8 : Method := { name := "isLatin1", desc := "()Z", sig := { parameters := [], returnType := some .boolean }, accessFlags := 16, code := some k11c8 }
def k11c9 : Code := { maxStack := 2, maxLocals := 2, code := jdk_68_method_71_code, exceptionTable := #[], attributes := #[] }
def k11m9 : Method := { name := "inflateIfNeededFor", desc := "(Ljava/lang/String;)V", sig := { parameters := [(.object "java/lang/String")], returnType := none }, accessFlags := 2, code := some k11c9 }
def k11c10 : Code := { maxStack := 4, maxLocals := 3, code := jdk_68_method_73_code, exceptionTable := #[], attributes := #[] }
def k11m10 : Method := { name := "putStringAt", desc := "(ILjava/lang/String;)V", sig := { parameters := [.int, (.object "java/lang/String")], returnType := none }, accessFlags := 2, code := some k11c10 }
/-- java/lang/AbstractStringBuilder -/
def k11 : Class := { plain "java/lang/AbstractStringBuilder" (some 0) with
  accessFlags := 1056
  interfaces := #[10, 4]
  cf := some (fileOf pool11 10 #[] #[{ accessFlags := 0, nameIndex := 7, descriptorIndex := 8, attributes := #[] }, { accessFlags := 0, nameIndex := 7, descriptorIndex := 103, attributes := #[] }, { accessFlags := 1, nameIndex := 34, descriptorIndex := 35, attributes := #[] }, { accessFlags := 2, nameIndex := 102, descriptorIndex := 103, attributes := #[] }, { accessFlags := 2, nameIndex := 127, descriptorIndex := 8, attributes := #[] }, { accessFlags := 1, nameIndex := 45, descriptorIndex := 46, attributes := #[] }, { accessFlags := 1, nameIndex := 45, descriptorIndex := 292, attributes := #[] }, { accessFlags := 16, nameIndex := 552, descriptorIndex := 403, attributes := #[] }, { accessFlags := 16, nameIndex := 85, descriptorIndex := 86, attributes := #[] }, { accessFlags := 2, nameIndex := 217, descriptorIndex := 69, attributes := #[] }, { accessFlags := 2, nameIndex := 210, descriptorIndex := 211, attributes := #[] }] 1056 4 #[444, 48] #[{ accessFlags := 0, nameIndex := 17, descriptorIndex := 14, attributes := #[] }, { accessFlags := 0, nameIndex := 24, descriptorIndex := 25, attributes := #[] }, { accessFlags := 0, nameIndex := 75, descriptorIndex := 21, attributes := #[] }, { accessFlags := 0, nameIndex := 81, descriptorIndex := 82, attributes := #[] }, { accessFlags := 26, nameIndex := 13, descriptorIndex := 14, attributes := #[] }])
  fields := #[{ name := "value", type := (.array .byte), accessFlags := 0, slot := 0, constantValue := 0 }, { name := "coder", type := .byte, accessFlags := 0, slot := 1, constantValue := 0 }, { name := "maybeLatin1", type := .boolean, accessFlags := 0, slot := 2, constantValue := 0 }, { name := "count", type := .int, accessFlags := 0, slot := 3, constantValue := 0 }, { name := "EMPTYVALUE", type := (.array .byte), accessFlags := 26, slot := 0, constantValue := 0 }]
  methods := #[k11m0, k11m1, k11m2, k11m3, k11m4, k11m5, k11m6, k11m7, k11m8, k11m9, k11m10]
  instanceTypes := #[(.array .byte), .byte, .boolean, .int]
  staticTypes := #[(.array .byte)]
  resolved := Array.replicate 609 none
  statics := none }

def pool12 : Array CpInfo := pool [(1, .methodref 2 3), (0, .class_ 4), (0, .nameAndType 5 6), (0, u "java/lang/AbstractStringBuilder"), (0, u "<init>"), (0, u "(I)V"), (11, .class_ 20), (1, u "java/lang/String"), (3, .class_ 26), (1, u "java/lang/StringBuilder"), (0, u "append"), (0, u "(Ljava/lang/String;)Ljava/lang/StringBuilder;"), (0, .methodref 2 30), (0, .nameAndType 27 31), (0, u "(Ljava/lang/String;)Ljava/lang/AbstractStringBuilder;"), (18, .methodref 2 51), (0, .nameAndType 27 52), (0, u "(C)Ljava/lang/AbstractStringBuilder;"), (84, .methodref 18 138), (0, .nameAndType 5 139), (0, u "(Ljava/lang/StringBuilder;)V"), (5, u "()V"), (10, u "()I"), (129, u "(C)Ljava/lang/StringBuilder;"), (56, .methodref 2 344), (0, .nameAndType 345 156), (0, u "length"), (3, .class_ 350), (0, u "java/lang/Appendable"), (0, .class_ 352), (0, u "java/io/Serializable"), (0, .class_ 354), (0, u "java/lang/Comparable"), (0, .class_ 356), (0, u "java/lang/CharSequence"), (0, u "serialVersionUID"), (0, u "J"), (40, u "toString"), (0, u "()Ljava/lang/String;")] 21

def k12c0 : Code := { maxStack := 2, maxLocals := 1, code := jdk_67_method_1_code, exceptionTable := #[], attributes := #[] }
def k12m0 : Method := { name := "<init>", desc := "()V", sig := { parameters := [], returnType := none }, accessFlags := 1, code := some k12c0 }
def k12c1 : Code := { maxStack := 2, maxLocals := 2, code := jdk_67_method_7_code, exceptionTable := #[], attributes := #[] }
def k12m1 : Method := { name := "append", desc := "(Ljava/lang/String;)Ljava/lang/StringBuilder;", sig := { parameters := [(.object "java/lang/String")], returnType := some (.object "java/lang/StringBuilder") }, accessFlags := 1, code := some k12c1 }
def k12c2 : Code := { maxStack := 2, maxLocals := 2, code := jdk_67_method_14_code, exceptionTable := #[], attributes := #[] }
def k12m2 : Method := { name := "append", desc := "(C)Ljava/lang/StringBuilder;", sig := { parameters := [.char], returnType := some (.object "java/lang/StringBuilder") }, accessFlags := 1, code := some k12c2 }
def k12c3 : Code := { maxStack := 3, maxLocals := 1, code := jdk_67_method_42_code, exceptionTable := #[], attributes := #[] }
def k12m3 : Method := { name := "toString", desc := "()Ljava/lang/String;", sig := { parameters := [], returnType := some (.object "java/lang/String") }, accessFlags := 1, code := some k12c3 }
def k12c4 : Code := { maxStack := 1, maxLocals := 1, code := jdk_67_method_93_code, exceptionTable := #[], attributes := #[] }
def k12m4 : Method := { name := "length", desc := "()I", sig := { parameters := [], returnType := some .int }, accessFlags := 4161, code := some k12c4 }
/-- java/lang/StringBuilder -/
def k12 : Class := { plain "java/lang/StringBuilder" (some 11) with
  accessFlags := 49
  interfaces := #[10, 2, 3, 4]
  cf := some (fileOf pool12 24 #[] #[{ accessFlags := 1, nameIndex := 5, descriptorIndex := 145, attributes := #[] }, { accessFlags := 1, nameIndex := 27, descriptorIndex := 28, attributes := #[] }, { accessFlags := 1, nameIndex := 27, descriptorIndex := 286, attributes := #[] }, { accessFlags := 1, nameIndex := 399, descriptorIndex := 400, attributes := #[] }, { accessFlags := 4161, nameIndex := 345, descriptorIndex := 156, attributes := #[] }] 49 2 #[349, 351, 353, 355] #[{ accessFlags := 24, nameIndex := 357, descriptorIndex := 358, attributes := #[] }])
  fields := #[{ name := "serialVersionUID", type := .long, accessFlags := 24, slot := 0, constantValue := 0 }]
  methods := #[k12m0, k12m1, k12m2, k12m3, k12m4]
  instanceTypes := #[(.array .byte), .byte, .boolean, .int]
  staticTypes := #[.long]
  resolved := Array.replicate 422 none
  statics := none }

def pool13 : Array CpInfo := pool [(2, .class_ 4), (1, u "java/lang/Object"), (0, u "<init>"), (0, u "()V"), (1, .class_ 10), (1, u "java/lang/System"), (0, u "allowSecurityManager"), (0, u "I"), (16, u "cons"), (0, u "Ljava/io/Console;"), (77, .class_ 110), (1, u "java/lang/System$CallersHolder"), (43, u "initialErrStream"), (0, u "Ljava/io/PrintStream;"), (19, u "security"), (0, u "Ljava/lang/SecurityManager;"), (31, .class_ 209), (0, u "java/lang/System$1"), (7, u "props"), (0, u "Ljava/util/Properties;"), (2, u "lineSeparator"), (0, u "Ljava/lang/String;"), (96, .class_ 321), (1, u "java/lang/System$LoggerFinder"), (5, .class_ 328), (0, u "java/lang/System$Logger"), (67, u "err"), (2, u "out"), (91, u "notSupportedJnuEncoding"), (15, u "in"), (17, u "initialIn"), (0, u "Ljava/io/InputStream;"), (35, u "bootLayer"), (0, u "Ljava/lang/ModuleLayer;"), (99, .class_ 664), (0, u "java/lang/System$2"), (9, u "NEVER"), (2, u "MAYBE"), (49, u "arraycopy"), (0, u "(Ljava/lang/Object;ILjava/lang/Object;II)V"), (72, .class_ 802), (0, u "java/lang/System$Logger$Level")] 31

def k13m0 : Method := { name := "<init>", desc := "()V", sig := { parameters := [], returnType := none }, accessFlags := 2, code := none }
def k13m1 : Method := { name := "arraycopy", desc := "(Ljava/lang/Object;ILjava/lang/Object;II)V", sig := { parameters := [(.object "java/lang/Object"), .int, (.object "java/lang/Object"), .int, .int], returnType := none }, accessFlags := 265, code := none }
/-- java/lang/System -/
def k13 : Class := { plain "java/lang/System" (some 0) with
  accessFlags := 49
  interfaces := #[]
  cf := some (fileOf pool13 8 #[.nestMembers #[319, 327, 801, 108, 663, 208]] #[{ accessFlags := 2, nameIndex := 5, descriptorIndex := 6, attributes := #[] }, { accessFlags := 265, nameIndex := 727, descriptorIndex := 728, attributes := #[] }] 49 2 #[] #[{ accessFlags := 25, nameIndex := 507, descriptorIndex := 526, attributes := #[] }, { accessFlags := 25, nameIndex := 399, descriptorIndex := 155, attributes := #[] }, { accessFlags := 25, nameIndex := 396, descriptorIndex := 155, attributes := #[] }, { accessFlags := 10, nameIndex := 525, descriptorIndex := 526, attributes := #[] }, { accessFlags := 26, nameIndex := 674, descriptorIndex := 12, attributes := #[] }, { accessFlags := 26, nameIndex := 677, descriptorIndex := 12, attributes := #[] }, { accessFlags := 10, nameIndex := 11, descriptorIndex := 12, attributes := #[] }, { accessFlags := 74, nameIndex := 175, descriptorIndex := 176, attributes := #[] }, { accessFlags := 10, nameIndex := 491, descriptorIndex := 222, attributes := #[] }, { accessFlags := 74, nameIndex := 29, descriptorIndex := 30, attributes := #[] }, { accessFlags := 74, nameIndex := 154, descriptorIndex := 155, attributes := #[] }, { accessFlags := 10, nameIndex := 217, descriptorIndex := 218, attributes := #[] }, { accessFlags := 10, nameIndex := 221, descriptorIndex := 222, attributes := #[] }, { accessFlags := 8, nameIndex := 562, descriptorIndex := 563, attributes := #[] }])
  fields := #[{ name := "in", type := (.object "java/io/InputStream"), accessFlags := 25, slot := 0, constantValue := 0 }, { name := "out", type := (.object "java/io/PrintStream"), accessFlags := 25, slot := 1, constantValue := 0 }, { name := "err", type := (.object "java/io/PrintStream"), accessFlags := 25, slot := 2, constantValue := 0 }, { name := "initialIn", type := (.object "java/io/InputStream"), accessFlags := 10, slot := 3, constantValue := 0 }, { name := "NEVER", type := .int, accessFlags := 26, slot := 4, constantValue := 0 }, { name := "MAYBE", type := .int, accessFlags := 26, slot := 5, constantValue := 0 }, { name := "allowSecurityManager", type := .int, accessFlags := 10, slot := 6, constantValue := 0 }, { name := "security", type := (.object "java/lang/SecurityManager"), accessFlags := 74, slot := 7, constantValue := 0 }, { name := "notSupportedJnuEncoding", type := (.object "java/lang/String"), accessFlags := 10, slot := 8, constantValue := 0 }, { name := "cons", type := (.object "java/io/Console"), accessFlags := 74, slot := 9, constantValue := 0 }, { name := "initialErrStream", type := (.object "java/io/PrintStream"), accessFlags := 74, slot := 10, constantValue := 0 }, { name := "props", type := (.object "java/util/Properties"), accessFlags := 10, slot := 11, constantValue := 0 }, { name := "lineSeparator", type := (.object "java/lang/String"), accessFlags := 10, slot := 12, constantValue := 0 }, { name := "bootLayer", type := (.object "java/lang/ModuleLayer"), accessFlags := 8, slot := 13, constantValue := 0 }]
  methods := #[k13m0, k13m1]
  instanceTypes := #[]
  staticTypes := #[(.object "java/io/InputStream"), (.object "java/io/PrintStream"), (.object "java/io/PrintStream"), (.object "java/io/InputStream"), .int, .int, .int, (.object "java/lang/SecurityManager"), (.object "java/lang/String"), (.object "java/io/Console"), (.object "java/io/PrintStream"), (.object "java/util/Properties"), (.object "java/lang/String"), (.object "java/lang/ModuleLayer")]
  resolved := Array.replicate 834 none
  statics := none }

def pool14 : Array CpInfo := pool [(1, .class_ 2), (0, u "java/lang/String"), (1, .class_ 6), (1, u "java/lang/Object"), (0, u "<init>"), (0, u "()V"), (0, .methodref 1 10), (0, .nameAndType 11 12), (0, u "checkIndex"), (0, u "(II)V"), (1, .class_ 16), (1, u "java/lang/StringLatin1"), (0, u "inflate"), (2, .class_ 22), (1, u "java/lang/StringUTF16"), (3, .nameAndType 17 27), (0, u "([BI[BII)V"), (25, u "([BI)C"), (36, u "canEncode"), (14, u "(C)Z"), (15, u "$assertionsDisabled"), (0, u "Z"), (98, .class_ 223), (1, u "java/lang/StringLatin1$LinesSpliterator"), (16, .methodref 20 26), (11, u "charAt"), (137, .class_ 391), (0, u "java/lang/StringLatin1$CharsSpliterator")] 3

def k14m0 : Method := { name := "<init>", desc := "()V", sig := { parameters := [], returnType := none }, accessFlags := 0, code := none }
def k14c1 : Code := { maxStack := 2, maxLocals := 2, code := jdk_43_method_2_code, exceptionTable := #[], attributes := #[] }
def k14m1 : Method := { name := "charAt", desc := "([BI)C", sig := { parameters := [(.array .byte), .int], returnType := some .char }, accessFlags := 9, code := some k14c1 }
def k14c2 : Code := { maxStack := 2, maxLocals := 1, code := jdk_43_method_3_code, exceptionTable := #[], attributes := #[] }
def k14m2 : Method := { name := "canEncode", desc := "(C)Z", sig := { parameters := [.char], returnType := some .boolean }, accessFlags := 9, code := some k14c2 }
def k14c3 : Code := { maxStack := 5, maxLocals := 5, code := jdk_43_method_50_code, exceptionTable := #[], attributes := #[] }
def k14m3 : Method := { name := "inflate", desc := "([BI[BII)V", sig := { parameters := [(.array .byte), .int, (.array .byte), .int, .int], returnType := none }, accessFlags := 9, code := some k14c3 }
/-- java/lang/StringLatin1 -/
def k14 : Class := { plain "java/lang/StringLatin1" (some 0) with
  accessFlags := 48
  interfaces := #[]
  cf := some (fileOf pool14 14 #[.nestMembers #[390, 221]] #[{ accessFlags := 0, nameIndex := 7, descriptorIndex := 8, attributes := #[] }, { accessFlags := 9, nameIndex := 252, descriptorIndex := 53, attributes := #[] }, { accessFlags := 9, nameIndex := 90, descriptorIndex := 105, attributes := #[] }, { accessFlags := 9, nameIndex := 17, descriptorIndex := 27, attributes := #[] }] 48 4 #[] #[{ accessFlags := 4120, nameIndex := 121, descriptorIndex := 122, attributes := #[] }])
  fields := #[{ name := "$assertionsDisabled", type := .boolean, accessFlags := 4120, slot := 0, constantValue := 0 }]
  methods := #[k14m0, k14m1, k14m2, k14m3]
  instanceTypes := #[]
  staticTypes := #[.boolean]
  resolved := Array.replicate 395 none
  statics := none }

def pool15 : Array CpInfo := pool [(2, .class_ 4), (1, u "java/lang/Object"), (0, u "<init>"), (0, u "()V"), (7, .class_ 16), (1, u "java/util/Arrays"), (57, .class_ 76), (1, u "java/util/Arrays$NaturalOrder"), (36, .class_ 115), (1, u "java/util/Arrays$LegacyMergeSort"), (1, u "Z"), (21, u "copyOfRange"), (10, .methodref 151 152), (0, .class_ 153), (0, .nameAndType 154 155), (0, u "java/lang/System"), (0, u "arraycopy"), (0, u "(Ljava/lang/Object;ILjava/lang/Object;II)V"), (148, .methodref 305 306), (0, .class_ 307), (0, .nameAndType 308 309), (0, u "java/lang/Math"), (0, u "min"), (0, u "(II)I"), (29, .methodref 14 340), (0, .nameAndType 341 342), (0, u "copyOfRangeByte"), (0, u "([BII)[B"), (0, .methodref 14 344), (0, .nameAndType 345 346), (0, u "checkLength"), (0, u "(II)V"), (28, .class_ 376), (0, u "java/util/Arrays$ArrayList"), (68, u "$assertionsDisabled"), (269, u "MIN_ARRAY_SORT_GRAN"), (0, u "I"), (2, u "INSERTIONSORT_THRESHOLD"), (255, .class_ 976), (0, u "java/util/Arrays$ArrayItr")] 52

def k15m0 : Method := { name := "<init>", desc := "()V", sig := { parameters := [], returnType := none }, accessFlags := 2, code := none }
def k15c1 : Code := { maxStack := 4, maxLocals := 2, code := jdk_65_method_131_code, exceptionTable := #[], attributes := #[] }
def k15m1 : Method := { name := "checkLength", desc := "(II)V", sig := { parameters := [.int, .int], returnType := none }, accessFlags := 10, code := some k15c1 }
def k15c2 : Code := { maxStack := 3, maxLocals := 3, code := jdk_65_method_132_code, exceptionTable := #[], attributes := #[] }
def k15m2 : Method := { name := "copyOfRange", desc := "([BII)[B", sig := { parameters := [(.array .byte), .int, .int], returnType := some (.array .byte) }, accessFlags := 9, code := some k15c2 }
def k15c3 : Code := { maxStack := 6, maxLocals := 5, code := jdk_65_method_133_code, exceptionTable := #[], attributes := #[] }
def k15m3 : Method := { name := "copyOfRangeByte", desc := "([BII)[B", sig := { parameters := [(.array .byte), .int, .int], returnType := some (.array .byte) }, accessFlags := 10, code := some k15c3 }
/-- java/util/Arrays -/
def k15 : Class := { plain "java/util/Arrays" (some 0) with
  accessFlags := 49
  interfaces := #[]
  cf := some (fileOf pool15 14 #[.nestMembers #[975, 375, 113, 74]] #[{ accessFlags := 2, nameIndex := 5, descriptorIndex := 6, attributes := #[] }, { accessFlags := 10, nameIndex := 345, descriptorIndex := 346, attributes := #[] }, { accessFlags := 9, nameIndex := 139, descriptorIndex := 342, attributes := #[] }, { accessFlags := 10, nameIndex := 341, descriptorIndex := 342, attributes := #[] }] 49 2 #[] #[{ accessFlags := 26, nameIndex := 715, descriptorIndex := 716, attributes := #[] }, { accessFlags := 26, nameIndex := 719, descriptorIndex := 716, attributes := #[] }, { accessFlags := 4120, nameIndex := 445, descriptorIndex := 117, attributes := #[] }])
  fields := #[{ name := "MIN_ARRAY_SORT_GRAN", type := .int, accessFlags := 26, slot := 0, constantValue := 0 }, { name := "INSERTIONSORT_THRESHOLD", type := .int, accessFlags := 26, slot := 1, constantValue := 0 }, { name := "$assertionsDisabled", type := .boolean, accessFlags := 4120, slot := 2, constantValue := 0 }]
  methods := #[k15m0, k15m1, k15m2, k15m3]
  instanceTypes := #[]
  staticTypes := #[.int, .int, .boolean]
  resolved := Array.replicate 1029 none
  statics := none }

def pool16 : Array CpInfo := pool [(1, .class_ 2), (0, u "java/lang/Math"), (1, .class_ 6), (1, u "java/lang/Object"), (0, u "<init>"), (0, u "()V"), (89, .class_ 100), (1, u "java/lang/Math$RandomNumberGeneratorHolder"), (71, u "negativeZeroFloatBits"), (0, u "J"), (2, u "negativeZeroDoubleBits"), (24, u "min"), (43, u "$assertionsDisabled"), (0, u "Z"), (88, u "(II)I"), (2, u "twoToTheDoubleScaleDown"), (0, u "D"), (4, u "twoToTheDoubleScaleUp"), (9, u "E"), (3, u "PI"), (2, u "TAU"), (2, u "DEGREES_TO_RADIANS"), (0, u "RADIANS_TO_DEGREES")] 94

def k16m0 : Method := { name := "<init>", desc := "()V", sig := { parameters := [], returnType := none }, accessFlags := 2, code := none }
def k16c1 : Code := { maxStack := 2, maxLocals := 2, code := jdk_29_method_69_code, exceptionTable := #[], attributes := #[] }
def k16m1 : Method := { name := "min", desc := "(II)I", sig := { parameters := [.int, .int], returnType := some .int }, accessFlags := 9, code := some k16c1 }
/-- java/lang/Math -/
def k16 : Class := { plain "java/lang/Math" (some 0) with
  accessFlags := 49
  interfaces := #[]
  cf := some (fileOf pool16 1 #[.nestMembers #[98]] #[{ accessFlags := 2, nameIndex := 7, descriptorIndex := 8, attributes := #[] }, { accessFlags := 9, nameIndex := 201, descriptorIndex := 335, attributes := #[] }] 49 4 #[] #[{ accessFlags := 25, nameIndex := 354, descriptorIndex := 339, attributes := #[] }, { accessFlags := 25, nameIndex := 358, descriptorIndex := 339, attributes := #[] }, { accessFlags := 25, nameIndex := 361, descriptorIndex := 339, attributes := #[] }, { accessFlags := 26, nameIndex := 364, descriptorIndex := 339, attributes := #[] }, { accessFlags := 26, nameIndex := 365, descriptorIndex := 339, attributes := #[] }, { accessFlags := 26, nameIndex := 172, descriptorIndex := 173, attributes := #[] }, { accessFlags := 26, nameIndex := 176, descriptorIndex := 173, attributes := #[] }, { accessFlags := 8, nameIndex := 344, descriptorIndex := 339, attributes := #[] }, { accessFlags := 8, nameIndex := 338, descriptorIndex := 339, attributes := #[] }, { accessFlags := 4120, nameIndex := 245, descriptorIndex := 246, attributes := #[] }])
  fields := #[{ name := "E", type := .double, accessFlags := 25, slot := 0, constantValue := 0 }, { name := "PI", type := .double, accessFlags := 25, slot := 1, constantValue := 0 }, { name := "TAU", type := .double, accessFlags := 25, slot := 2, constantValue := 0 }, { name := "DEGREES_TO_RADIANS", type := .double, accessFlags := 26, slot := 3, constantValue := 0 }, { name := "RADIANS_TO_DEGREES", type := .double, accessFlags := 26, slot := 4, constantValue := 0 }, { name := "negativeZeroFloatBits", type := .long, accessFlags := 26, slot := 5, constantValue := 0 }, { name := "negativeZeroDoubleBits", type := .long, accessFlags := 26, slot := 6, constantValue := 0 }, { name := "twoToTheDoubleScaleUp", type := .double, accessFlags := 8, slot := 7, constantValue := 0 }, { name := "twoToTheDoubleScaleDown", type := .double, accessFlags := 8, slot := 8, constantValue := 0 }, { name := "$assertionsDisabled", type := .boolean, accessFlags := 4120, slot := 9, constantValue := 0 }]
  methods := #[k16m0, k16m1]
  instanceTypes := #[]
  staticTypes := #[.double, .double, .double, .double, .double, .long, .long, .double, .double, .boolean]
  resolved := Array.replicate 460 none
  statics := none }

def pool17 : Array CpInfo := pool [(2, .class_ 4), (1, u "java/lang/Object"), (0, u "<init>"), (0, u "()V"), (17, .class_ 26), (1, u "jdk/internal/util/Preconditions"), (6, u "checkIndex"), (15, u "checkFromIndexSize"), (5, .class_ 56), (0, u "jdk/internal/util/Preconditions$4"), (57, .class_ 115), (0, u "jdk/internal/util/Preconditions$1"), (7, u "SIOOBE_FORMATTER"), (0, u "Ljava/util/function/BiFunction;"), (0, .class_ 126), (0, u "jdk/internal/util/Preconditions$2"), (3, u "AIOOBE_FORMATTER"), (0, .class_ 132), (0, u "jdk/internal/util/Preconditions$3"), (3, u "IOOBE_FORMATTER"), (41, u "(IILjava/util/function/BiFunction;)I"), (4, u "(IIILjava/util/function/BiFunction;)I")] 10

def k17m0 : Method := { name := "<init>", desc := "()V", sig := { parameters := [], returnType := none }, accessFlags := 1, code := none }
def k17c1 : Code := { maxStack := 3, maxLocals := 3, code := jdk_41_method_11_code, exceptionTable := #[], attributes := #[] }
def k17m1 : Method := { name := "checkIndex", desc := "(IILjava/util/function/BiFunction;)I", sig := { parameters := [.int, .int, (.object "java/util/function/BiFunction")], returnType := some .int }, accessFlags := 9, code := some k17c1 }
def k17c2 : Code := { maxStack := 4, maxLocals := 4, code := jdk_41_method_13_code, exceptionTable := #[], attributes := #[] }
def k17m2 : Method := { name := "checkFromIndexSize", desc := "(IIILjava/util/function/BiFunction;)I", sig := { parameters := [.int, .int, .int, (.object "java/util/function/BiFunction")], returnType := some .int }, accessFlags := 9, code := some k17c2 }
/-- jdk/internal/util/Preconditions -/
def k17 : Class := { plain "jdk/internal/util/Preconditions" (some 0) with
  accessFlags := 33
  interfaces := #[]
  cf := some (fileOf pool17 24 #[.nestMembers #[55, 131, 125, 114]] #[{ accessFlags := 1, nameIndex := 5, descriptorIndex := 6, attributes := #[] }, { accessFlags := 9, nameIndex := 33, descriptorIndex := 178, attributes := #[] }, { accessFlags := 9, nameIndex := 49, descriptorIndex := 183, attributes := #[] }] 33 2 #[] #[{ accessFlags := 25, nameIndex := 123, descriptorIndex := 124, attributes := #[] }, { accessFlags := 25, nameIndex := 130, descriptorIndex := 124, attributes := #[] }, { accessFlags := 25, nameIndex := 136, descriptorIndex := 124, attributes := #[] }])
  fields := #[{ name := "SIOOBE_FORMATTER", type := (.object "java/util/function/BiFunction"), accessFlags := 25, slot := 0, constantValue := 0 }, { name := "AIOOBE_FORMATTER", type := (.object "java/util/function/BiFunction"), accessFlags := 25, slot := 1, constantValue := 0 }, { name := "IOOBE_FORMATTER", type := (.object "java/util/function/BiFunction"), accessFlags := 25, slot := 2, constantValue := 0 }]
  methods := #[k17m0, k17m1, k17m2]
  instanceTypes := #[]
  staticTypes := #[(.object "java/util/function/BiFunction"), (.object "java/util/function/BiFunction"), (.object "java/util/function/BiFunction")]
  resolved := Array.replicate 194 none
  statics := some 2 }

def pool18 : Array CpInfo := pool [(9, u "<init>"), (6, .class_ 18), (1, u "java/lang/Object"), (0, u "()V"), (1, .class_ 23), (1, u "jdk/internal/util/ArraysSupport"), (0, u "LOG2_ARRAY_LONG_INDEX_SCALE"), (0, u "I"), (2, u "U"), (0, u "Ljdk/internal/misc/Unsafe;"), (8, u "BIG_ENDIAN"), (0, u "Z"), (8, u "LOG2_BYTE_BIT_SIZE"), (4, u "LOG2_ARRAY_INT_INDEX_SCALE"), (54, u "JLA"), (0, u "Ljdk/internal/access/JavaLangAccess;"), (11, u "LOG2_ARRAY_BOOLEAN_INDEX_SCALE"), (9, u "LOG2_ARRAY_BYTE_INDEX_SCALE"), (5, u "LOG2_ARRAY_CHAR_INDEX_SCALE"), (5, u "LOG2_ARRAY_SHORT_INDEX_SCALE"), (18, u "LOG2_ARRAY_FLOAT_INDEX_SCALE"), (24, u "LOG2_ARRAY_DOUBLE_INDEX_SCALE"), (89, u "T_BOOLEAN"), (2, u "T_CHAR"), (1, u "T_FLOAT"), (1, u "T_DOUBLE"), (1, u "T_BYTE"), (1, u "T_SHORT"), (1, u "T_INT"), (1, u "T_LONG"), (1, u "SOFT_MAX_ARRAY_LENGTH")] 83

def k18m0 : Method := { name := "<init>", desc := "()V", sig := { parameters := [], returnType := none }, accessFlags := 2, code := none }
/-- jdk/internal/util/ArraysSupport -/
def k18 : Class := { plain "jdk/internal/util/ArraysSupport" (some 0) with
  accessFlags := 33
  interfaces := #[]
  cf := some (fileOf pool18 21 #[] #[{ accessFlags := 2, nameIndex := 9, descriptorIndex := 19, attributes := #[] }] 33 16 #[] #[{ accessFlags := 24, nameIndex := 28, descriptorIndex := 29, attributes := #[] }, { accessFlags := 26, nameIndex := 38, descriptorIndex := 39, attributes := #[] }, { accessFlags := 25, nameIndex := 121, descriptorIndex := 25, attributes := #[] }, { accessFlags := 25, nameIndex := 131, descriptorIndex := 25, attributes := #[] }, { accessFlags := 25, nameIndex := 137, descriptorIndex := 25, attributes := #[] }, { accessFlags := 25, nameIndex := 143, descriptorIndex := 25, attributes := #[] }, { accessFlags := 25, nameIndex := 53, descriptorIndex := 25, attributes := #[] }, { accessFlags := 25, nameIndex := 24, descriptorIndex := 25, attributes := #[] }, { accessFlags := 25, nameIndex := 162, descriptorIndex := 25, attributes := #[] }, { accessFlags := 25, nameIndex := 187, descriptorIndex := 25, attributes := #[] }, { accessFlags := 26, nameIndex := 48, descriptorIndex := 25, attributes := #[] }, { accessFlags := 25, nameIndex := 277, descriptorIndex := 25, attributes := #[] }, { accessFlags := 25, nameIndex := 280, descriptorIndex := 25, attributes := #[] }, { accessFlags := 25, nameIndex := 282, descriptorIndex := 25, attributes := #[] }, { accessFlags := 25, nameIndex := 284, descriptorIndex := 25, attributes := #[] }, { accessFlags := 25, nameIndex := 286, descriptorIndex := 25, attributes := #[] }, { accessFlags := 25, nameIndex := 288, descriptorIndex := 25, attributes := #[] }, { accessFlags := 25, nameIndex := 290, descriptorIndex := 25, attributes := #[] }, { accessFlags := 25, nameIndex := 292, descriptorIndex := 25, attributes := #[] }, { accessFlags := 26, nameIndex := 108, descriptorIndex := 109, attributes := #[] }, { accessFlags := 25, nameIndex := 294, descriptorIndex := 25, attributes := #[] }])
  fields := #[{ name := "U", type := (.object "jdk/internal/misc/Unsafe"), accessFlags := 24, slot := 0, constantValue := 0 }, { name := "BIG_ENDIAN", type := .boolean, accessFlags := 26, slot := 1, constantValue := 0 }, { name := "LOG2_ARRAY_BOOLEAN_INDEX_SCALE", type := .int, accessFlags := 25, slot := 2, constantValue := 0 }, { name := "LOG2_ARRAY_BYTE_INDEX_SCALE", type := .int, accessFlags := 25, slot := 3, constantValue := 0 }, { name := "LOG2_ARRAY_CHAR_INDEX_SCALE", type := .int, accessFlags := 25, slot := 4, constantValue := 0 }, { name := "LOG2_ARRAY_SHORT_INDEX_SCALE", type := .int, accessFlags := 25, slot := 5, constantValue := 0 }, { name := "LOG2_ARRAY_INT_INDEX_SCALE", type := .int, accessFlags := 25, slot := 6, constantValue := 0 }, { name := "LOG2_ARRAY_LONG_INDEX_SCALE", type := .int, accessFlags := 25, slot := 7, constantValue := 0 }, { name := "LOG2_ARRAY_FLOAT_INDEX_SCALE", type := .int, accessFlags := 25, slot := 8, constantValue := 0 }, { name := "LOG2_ARRAY_DOUBLE_INDEX_SCALE", type := .int, accessFlags := 25, slot := 9, constantValue := 0 }, { name := "LOG2_BYTE_BIT_SIZE", type := .int, accessFlags := 26, slot := 10, constantValue := 0 }, { name := "T_BOOLEAN", type := .int, accessFlags := 25, slot := 11, constantValue := 0 }, { name := "T_CHAR", type := .int, accessFlags := 25, slot := 12, constantValue := 0 }, { name := "T_FLOAT", type := .int, accessFlags := 25, slot := 13, constantValue := 0 }, { name := "T_DOUBLE", type := .int, accessFlags := 25, slot := 14, constantValue := 0 }, { name := "T_BYTE", type := .int, accessFlags := 25, slot := 15, constantValue := 0 }, { name := "T_SHORT", type := .int, accessFlags := 25, slot := 16, constantValue := 0 }, { name := "T_INT", type := .int, accessFlags := 25, slot := 17, constantValue := 0 }, { name := "T_LONG", type := .int, accessFlags := 25, slot := 18, constantValue := 0 }, { name := "JLA", type := (.object "jdk/internal/access/JavaLangAccess"), accessFlags := 26, slot := 19, constantValue := 0 }, { name := "SOFT_MAX_ARRAY_LENGTH", type := .int, accessFlags := 25, slot := 20, constantValue := 0 }]
  methods := #[k18m0]
  instanceTypes := #[]
  staticTypes := #[(.object "jdk/internal/misc/Unsafe"), .boolean, .int, .int, .int, .int, .int, .int, .int, .int, .int, .int, .int, .int, .int, .int, .int, .int, .int, (.object "jdk/internal/access/JavaLangAccess"), .int]
  resolved := Array.replicate 378 none
  statics := none }

def pool19 : Array CpInfo := pool [(1, u "java/lang/Cloneable"), (0, .class_ 1), (0, u "java/lang/Object"), (0, .class_ 3)] 3

/-- java/lang/Cloneable -/
def k19 : Class := { plain "java/lang/Cloneable" (some 0) with
  accessFlags := 1537
  interfaces := #[]
  cf := some (fileOf pool19 2 #[] #[] 1537 4 #[] #[])
  fields := #[]
  methods := #[]
  instanceTypes := #[]
  staticTypes := #[]
  resolved := Array.replicate 8 none
  statics := none }

/-- the primitive byte -/
def k20 : Class := { plain "byte" none with kind := .primitive 'B', accessFlags := 0x411 }
/-- [B -/
def k21 : Class := { plain "[B" (some 0) with kind := .array 20 .byte, interfaces := #[19, 2], accessFlags := 1041 }

/-- the primitive char -/
def k22 : Class := { plain "char" none with kind := .primitive 'C', accessFlags := 0x411 }
/-- [C -/
def k23 : Class := { plain "[C" (some 0) with kind := .array 22 .char, interfaces := #[19, 2], accessFlags := 1041 }

/-- the primitive int -/
def k24 : Class := { plain "int" none with kind := .primitive 'I', accessFlags := 0x411 }
/-- [I -/
def k25 : Class := { plain "[I" (some 0) with kind := .array 24 .int, interfaces := #[19, 2], accessFlags := 1041 }

def heap : Heap := #[{ cls := 7, slots := #[.long 0, .int 1, .null, .int 0, .null, .int 0, .int 0], vm := .statics 7 },
  { cls := 8, slots := #[.int 0, .int 8, .int 0, .int 1], vm := .statics 8 },
  { cls := 17, slots := #[.null, .null, .null], vm := .statics 17 }]
def classes : Array Class := #[k0, k1, k2, k3, k4, k5, k6, k7, k8, k9, k10, k11, k12, k13, k14, k15, k16, k17, k18, k19, k20, k21, k22, k23, k24, k25]
def interned : List (Array UInt16 × Addr) := []
def slotsUsed : Nat := 14
def theMethod : MethodId := ⟨1, 2⟩
def args0 : Array Value := #[.int 5, .long 5, .int 5]
def aboutOver (below : List Frame) : State where
  vm := { classes := classes, interned := interned.toArray }
  heap := heap
  slotsUsed := slotsUsed
  threads := #[{ frames := .invoking theMethod args0 :: below }]
def below0 : List Frame := [.native { method := ⟨0, 0⟩, args := #[] }]
def about1 : State := aboutOver below0
def p0 : Program := .bare "" "" ""
def e0 : Env := launch0.env 0 0 0
theorem w_frames : about1.frames = Frame.invoking theMethod args0 :: below0 := rfl
set_option maxRecDepth 65536 in
theorem w_args : argsFit about1.vm theMethod args0 = true := by decide +kernel
set_option maxRecDepth 65536 in
theorem w_heap : heapFits about1 = true := by decide +kernel
set_option maxRecDepth 65536 in
theorem w_runnable : about1.curStatus? = some .runnable := by decide +kernel
set_option maxRecDepth 65536 in
theorem w_alone : about1.alone = true := by decide +kernel
set_option maxRecDepth 65536 in
theorem w_named : about1.methodNamed? x = some theMethod := by decide +kernel
set_option maxRecDepth 65536 in
theorem w_hears : about1.hears theMethod below0 = true := by decide +kernel
set_option maxRecDepth 65536 in
theorem w_ripe : about1.ripe theMethod args0 below0 = true := by decide +kernel
theorem w_running : about1.status = .running := rfl
set_option maxRecDepth 65536 in
theorem w_room : about1.hasRoom e0.platform room_1 = true :=
  launch0.hasRoom_least _ room_1 (by decide +kernel) (by decide +kernel) (by decide +kernel) (by decide +kernel) (by decide +kernel) (by decide +kernel)
theorem allAtoms_all (ts : List Jvm.Cond) (a : Array Jvm.Value) (st : Jvm.State) : (allAtoms ts).before a st = ts.all (fun c => c.before a st) := by
  induction ts with
  | nil => rfl
  | cons c t ih =>
    show (Jvm.Cond.and c (allAtoms t)).before a st = _
    rw [Jvm.Cond.before_and, ih, List.all_cons]
def words1 : List Jvm.Cond := Jvm.Cond.code x code maxLocals ret :: tables_1
/-- a 'code' word, met by the world's own term for the bytes: nothing is compared byte by byte -/
theorem code_word {y : MethodName} {bytes : ByteArray} {mx : Nat} {rt : Option FieldType} {a : Array Value} {s : State} {m : MethodId} {meth : Method} {c : Code} (h1 : s.methodNamed? y = some m) (h2 : s.vm.method? m = some meth) (h3 : meth.code = some c) (h4 : c.code = bytes)
    (h5 : (c.maxLocals == mx && c.exceptionTable.isEmpty && decide (c.maxStack ≤ mostOperands) && decide (meth.sig.returnType = rt) && !meth.locks && decide (parseMethodDescriptor y.desc = some meth.sig)) = true) : (Jvm.Cond.code y bytes mx rt).before a s = true := by
  simp only [Bool.and_eq_true, beq_iff_eq, Bool.not_eq_true', decide_eq_true_eq] at h5
  obtain ⟨⟨⟨⟨⟨g1, g2⟩, g3⟩, g4⟩, g5⟩, g6⟩ := h5
  simp [Cond.before, Cond.holds, Cond.value, h1, h2, h3, h4, g1, g2, g3, g4, g5, g6]
def isCode : Jvm.Cond → Bool
  | .code _ _ _ _ => true
  | _ => false
theorem all_split {L : List Jvm.Cond} {P : Jvm.Cond → Bool} (h1 : L.all (fun c => isCode c || P c) = true) (h2 : ∀ c ∈ L.filter isCode, P c = true) : L.all P = true := by
  refine List.all_eq_true.mpr fun c hc => ?_
  have h := List.all_eq_true.mp h1 c hc
  rcases Bool.eq_false_or_eq_true (isCode c) with hi | hi
  · exact h2 c (List.mem_filter.mpr ⟨hc, hi⟩)
  · simpa [hi] using h
set_option maxRecDepth 65536 in
theorem w_c0 : (Jvm.Cond.code x code maxLocals ret).before args0 about1 = true := code_word (m := ⟨1, 2⟩) (meth := k1m2) (c := k1c2) (by decide +kernel) rfl rfl rfl (by decide +kernel)
set_option maxRecDepth 65536 in
theorem w_c1 : (Jvm.Cond.code ({ cls := "com/example/carve/carve/http/HtmlClosePinLaw", name := "str", desc := "(ICCC)Ljava/lang/String;" } : Jvm.MethodName) method_2_code (4 : Nat) (Option.some (Jvm.ClassFile.FieldType.object "java/lang/String"))).before args0 about1 = true := code_word (m := ⟨1, 1⟩) (meth := k1m1) (c := k1c1) (by decide +kernel) rfl rfl rfl (by decide +kernel)
set_option maxRecDepth 65536 in
theorem w_c2 : (Jvm.Cond.code ({ cls := "java/lang/String", name := "<init>", desc := "([C)V" } : Jvm.MethodName) jdk_42_method_3_code (2 : Nat) (Option.none : Option Jvm.ClassFile.FieldType)).before args0 about1 = true := code_word (m := ⟨7, 1⟩) (meth := k7m1) (c := k7c1) (by decide +kernel) rfl rfl rfl (by decide +kernel)
set_option maxRecDepth 65536 in
theorem w_c3 : (Jvm.Cond.code ({ cls := "java/lang/String", name := "<init>", desc := "([CIILjava/lang/Void;)V" } : Jvm.MethodName) jdk_42_method_149_code (6 : Nat) (Option.none : Option Jvm.ClassFile.FieldType)).before args0 about1 = true := code_word (m := ⟨7, 6⟩) (meth := k7m6) (c := k7c6) (by decide +kernel) rfl rfl rfl (by decide +kernel)
set_option maxRecDepth 65536 in
theorem w_c4 : (Jvm.Cond.code ({ cls := "java/lang/Object", name := "<init>", desc := "()V" } : Jvm.MethodName) object_method_1_code (1 : Nat) (Option.none : Option Jvm.ClassFile.FieldType)).before args0 about1 = true := code_word (m := ⟨0, 0⟩) (meth := k0m0) (c := k0c0) (by decide +kernel) rfl rfl rfl (by decide +kernel)
set_option maxRecDepth 65536 in
theorem w_c5 : (Jvm.Cond.code ({ cls := "java/lang/StringUTF16", name := "compress", desc := "([CII)[B" } : Jvm.MethodName) jdk_52_method_16_code (6 : Nat) (Option.some (Jvm.ClassFile.FieldType.array Jvm.ClassFile.FieldType.byte))).before args0 about1 = true := code_word (m := ⟨8, 8⟩) (meth := k8m8) (c := k8c8) (by decide +kernel) rfl rfl rfl (by decide +kernel)
set_option maxRecDepth 65536 in
theorem w_c6 : (Jvm.Cond.code ({ cls := "java/lang/StringUTF16", name := "compress", desc := "([CI[BII)I" } : Jvm.MethodName) jdk_52_method_21_code (7 : Nat) (Option.some Jvm.ClassFile.FieldType.int)).before args0 about1 = true := code_word (m := ⟨8, 9⟩) (meth := k8m9) (c := k8c9) (by decide +kernel) rfl rfl rfl (by decide +kernel)
set_option maxRecDepth 65536 in
theorem w_c7 : (Jvm.Cond.code ({ cls := "java/lang/StringUTF16", name := "coderFromArrayLen", desc := "([BI)B" } : Jvm.MethodName) jdk_52_method_15_code (2 : Nat) (Option.some Jvm.ClassFile.FieldType.byte)).before args0 about1 = true := code_word (m := ⟨8, 7⟩) (meth := k8m7) (c := k8c7) (by decide +kernel) rfl rfl rfl (by decide +kernel)
set_option maxRecDepth 65536 in
theorem w_c8 : (Jvm.Cond.code ({ cls := "com/example/carve/carve/http/Html", name := "<init>", desc := "()V" } : Jvm.MethodName) prog_24_method_1_code (1 : Nat) (Option.none : Option Jvm.ClassFile.FieldType)).before args0 about1 = true := code_word (m := ⟨9, 0⟩) (meth := k9m0) (c := k9c0) (by decide +kernel) rfl rfl rfl (by decide +kernel)
set_option maxRecDepth 65536 in
theorem w_c9 : (Jvm.Cond.code ({ cls := "java/lang/StringBuilder", name := "<init>", desc := "()V" } : Jvm.MethodName) jdk_67_method_1_code (1 : Nat) (Option.none : Option Jvm.ClassFile.FieldType)).before args0 about1 = true := code_word (m := ⟨12, 0⟩) (meth := k12m0) (c := k12c0) (by decide +kernel) rfl rfl rfl (by decide +kernel)
set_option maxRecDepth 65536 in
theorem w_c10 : (Jvm.Cond.code ({ cls := "java/lang/AbstractStringBuilder", name := "<init>", desc := "(I)V" } : Jvm.MethodName) jdk_68_method_2_code (2 : Nat) (Option.none : Option Jvm.ClassFile.FieldType)).before args0 about1 = true := code_word (m := ⟨11, 1⟩) (meth := k11m1) (c := k11c1) (by decide +kernel) rfl rfl rfl (by decide +kernel)
set_option maxRecDepth 65536 in
theorem w_c11 : (Jvm.Cond.code ({ cls := "com/example/carve/carve/http/Html", name := "markup", desc := "(Ljava/lang/String;)Lcom/example/carve/carve/http/Html;" } : Jvm.MethodName) prog_24_method_6_code (2 : Nat) (Option.some (Jvm.ClassFile.FieldType.object "com/example/carve/carve/http/Html"))).before args0 about1 = true := code_word (m := ⟨9, 2⟩) (meth := k9m2) (c := k9c2) (by decide +kernel) rfl rfl rfl (by decide +kernel)
set_option maxRecDepth 65536 in
theorem w_c12 : (Jvm.Cond.code ({ cls := "java/lang/StringBuilder", name := "append", desc := "(Ljava/lang/String;)Ljava/lang/StringBuilder;" } : Jvm.MethodName) jdk_67_method_7_code (2 : Nat) (Option.some (Jvm.ClassFile.FieldType.object "java/lang/StringBuilder"))).before args0 about1 = true := code_word (m := ⟨12, 1⟩) (meth := k12m1) (c := k12c1) (by decide +kernel) rfl rfl rfl (by decide +kernel)
set_option maxRecDepth 65536 in
theorem w_c13 : (Jvm.Cond.code ({ cls := "java/lang/AbstractStringBuilder", name := "append", desc := "(Ljava/lang/String;)Ljava/lang/AbstractStringBuilder;" } : Jvm.MethodName) jdk_68_method_22_code (3 : Nat) (Option.some (Jvm.ClassFile.FieldType.object "java/lang/AbstractStringBuilder"))).before args0 about1 = true := code_word (m := ⟨11, 5⟩) (meth := k11m5) (c := k11c5) (by decide +kernel) rfl rfl rfl (by decide +kernel)
set_option maxRecDepth 65536 in
theorem w_c14 : (Jvm.Cond.code ({ cls := "java/lang/String", name := "length", desc := "()I" } : Jvm.MethodName) jdk_42_method_54_code (1 : Nat) (Option.some Jvm.ClassFile.FieldType.int)).before args0 about1 = true := code_word (m := ⟨7, 3⟩) (meth := k7m3) (c := k7c3) (by decide +kernel) rfl rfl rfl (by decide +kernel)
set_option maxRecDepth 65536 in
theorem w_c15 : (Jvm.Cond.code ({ cls := "java/lang/String", name := "coder", desc := "()B" } : Jvm.MethodName) jdk_42_method_152_code (1 : Nat) (Option.some Jvm.ClassFile.FieldType.byte)).before args0 about1 = true := code_word (m := ⟨7, 8⟩) (meth := k7m8) (c := k7c8) (by decide +kernel) rfl rfl rfl (by decide +kernel)
set_option maxRecDepth 65536 in
theorem w_c16 : (Jvm.Cond.code ({ cls := "java/lang/AbstractStringBuilder", name := "ensureCapacityInternal", desc := "(I)V" } : Jvm.MethodName) jdk_68_method_9_code (3 : Nat) (Option.none : Option Jvm.ClassFile.FieldType)).before args0 about1 = true := code_word (m := ⟨11, 3⟩) (meth := k11m3) (c := k11c3) (by decide +kernel) rfl rfl rfl (by decide +kernel)
set_option maxRecDepth 65536 in
theorem w_c17 : (Jvm.Cond.code ({ cls := "java/lang/AbstractStringBuilder", name := "putStringAt", desc := "(ILjava/lang/String;)V" } : Jvm.MethodName) jdk_68_method_73_code (3 : Nat) (Option.none : Option Jvm.ClassFile.FieldType)).before args0 about1 = true := code_word (m := ⟨11, 10⟩) (meth := k11m10) (c := k11c10) (by decide +kernel) rfl rfl rfl (by decide +kernel)
set_option maxRecDepth 65536 in
theorem w_c18 : (Jvm.Cond.code ({ cls := "java/lang/AbstractStringBuilder", name := "inflateIfNeededFor", desc := "(Ljava/lang/String;)V" } : Jvm.MethodName) jdk_68_method_71_code (2 : Nat) (Option.none : Option Jvm.ClassFile.FieldType)).before args0 about1 = true := code_word (m := ⟨11, 9⟩) (meth := k11m9) (c := k11c9) (by decide +kernel) rfl rfl rfl (by decide +kernel)
set_option maxRecDepth 65536 in
theorem w_c19 : (Jvm.Cond.code ({ cls := "java/lang/String", name := "getBytes", desc := "([BIB)V" } : Jvm.MethodName) jdk_42_method_147_code (4 : Nat) (Option.none : Option Jvm.ClassFile.FieldType)).before args0 about1 = true := code_word (m := ⟨7, 5⟩) (meth := k7m5) (c := k7c5) (by decide +kernel) rfl rfl rfl (by decide +kernel)
set_option maxRecDepth 65536 in
theorem w_c20 : (Jvm.Cond.code ({ cls := "com/example/carve/carve/http/Html", name := "close", desc := "(Ljava/lang/String;)Lcom/example/carve/carve/http/Html;" } : Jvm.MethodName) prog_24_method_3_code (2 : Nat) (Option.some (Jvm.ClassFile.FieldType.object "com/example/carve/carve/http/Html"))).before args0 about1 = true := code_word (m := ⟨9, 1⟩) (meth := k9m1) (c := k9c1) (by decide +kernel) rfl rfl rfl (by decide +kernel)
set_option maxRecDepth 65536 in
theorem w_c21 : (Jvm.Cond.code ({ cls := "java/lang/StringBuilder", name := "append", desc := "(C)Ljava/lang/StringBuilder;" } : Jvm.MethodName) jdk_67_method_14_code (2 : Nat) (Option.some (Jvm.ClassFile.FieldType.object "java/lang/StringBuilder"))).before args0 about1 = true := code_word (m := ⟨12, 2⟩) (meth := k12m2) (c := k12c2) (by decide +kernel) rfl rfl rfl (by decide +kernel)
set_option maxRecDepth 65536 in
theorem w_c22 : (Jvm.Cond.code ({ cls := "java/lang/AbstractStringBuilder", name := "append", desc := "(C)Ljava/lang/AbstractStringBuilder;" } : Jvm.MethodName) jdk_68_method_31_code (2 : Nat) (Option.some (Jvm.ClassFile.FieldType.object "java/lang/AbstractStringBuilder"))).before args0 about1 = true := code_word (m := ⟨11, 6⟩) (meth := k11m6) (c := k11c6) (by decide +kernel) rfl rfl rfl (by decide +kernel)
set_option maxRecDepth 65536 in
theorem w_c23 : (Jvm.Cond.code ({ cls := "java/lang/AbstractStringBuilder", name := "isLatin1", desc := "()Z" } : Jvm.MethodName) jdk_68_method_68_code (1 : Nat) (Option.some Jvm.ClassFile.FieldType.boolean)).before args0 about1 = true := code_word (m := ⟨11, 8⟩) (meth := k11m8) (c := k11c8) (by decide +kernel) rfl rfl rfl (by decide +kernel)
set_option maxRecDepth 65536 in
theorem w_c24 : (Jvm.Cond.code ({ cls := "java/lang/StringLatin1", name := "canEncode", desc := "(C)Z" } : Jvm.MethodName) jdk_43_method_3_code (1 : Nat) (Option.some Jvm.ClassFile.FieldType.boolean)).before args0 about1 = true := code_word (m := ⟨14, 2⟩) (meth := k14m2) (c := k14c2) (by decide +kernel) rfl rfl rfl (by decide +kernel)
set_option maxRecDepth 65536 in
theorem w_c25 : (Jvm.Cond.code ({ cls := "com/example/carve/carve/http/Html", name := "toString", desc := "()Ljava/lang/String;" } : Jvm.MethodName) prog_24_method_9_code (1 : Nat) (Option.some (Jvm.ClassFile.FieldType.object "java/lang/String"))).before args0 about1 = true := code_word (m := ⟨9, 3⟩) (meth := k9m3) (c := k9c3) (by decide +kernel) rfl rfl rfl (by decide +kernel)
set_option maxRecDepth 65536 in
theorem w_c26 : (Jvm.Cond.code ({ cls := "java/lang/StringBuilder", name := "toString", desc := "()Ljava/lang/String;" } : Jvm.MethodName) jdk_67_method_42_code (1 : Nat) (Option.some (Jvm.ClassFile.FieldType.object "java/lang/String"))).before args0 about1 = true := code_word (m := ⟨12, 3⟩) (meth := k12m3) (c := k12c3) (by decide +kernel) rfl rfl rfl (by decide +kernel)
set_option maxRecDepth 65536 in
theorem w_c27 : (Jvm.Cond.code ({ cls := "java/lang/String", name := "<init>", desc := "(Ljava/lang/StringBuilder;)V" } : Jvm.MethodName) jdk_42_method_53_code (2 : Nat) (Option.none : Option Jvm.ClassFile.FieldType)).before args0 about1 = true := code_word (m := ⟨7, 2⟩) (meth := k7m2) (c := k7c2) (by decide +kernel) rfl rfl rfl (by decide +kernel)
set_option maxRecDepth 65536 in
theorem w_c28 : (Jvm.Cond.code ({ cls := "java/lang/String", name := "<init>", desc := "(Ljava/lang/AbstractStringBuilder;Ljava/lang/Void;)V" } : Jvm.MethodName) jdk_42_method_150_code (5 : Nat) (Option.none : Option Jvm.ClassFile.FieldType)).before args0 about1 = true := code_word (m := ⟨7, 7⟩) (meth := k7m7) (c := k7c7) (by decide +kernel) rfl rfl rfl (by decide +kernel)
set_option maxRecDepth 65536 in
theorem w_c29 : (Jvm.Cond.code ({ cls := "java/lang/AbstractStringBuilder", name := "getValue", desc := "()[B" } : Jvm.MethodName) jdk_68_method_64_code (1 : Nat) (Option.some (Jvm.ClassFile.FieldType.array Jvm.ClassFile.FieldType.byte))).before args0 about1 = true := code_word (m := ⟨11, 7⟩) (meth := k11m7) (c := k11c7) (by decide +kernel) rfl rfl rfl (by decide +kernel)
set_option maxRecDepth 65536 in
theorem w_c30 : (Jvm.Cond.code ({ cls := "java/lang/StringBuilder", name := "length", desc := "()I" } : Jvm.MethodName) jdk_67_method_93_code (1 : Nat) (Option.some Jvm.ClassFile.FieldType.int)).before args0 about1 = true := code_word (m := ⟨12, 4⟩) (meth := k12m4) (c := k12c4) (by decide +kernel) rfl rfl rfl (by decide +kernel)
set_option maxRecDepth 65536 in
theorem w_c31 : (Jvm.Cond.code ({ cls := "java/lang/AbstractStringBuilder", name := "length", desc := "()I" } : Jvm.MethodName) jdk_68_method_6_code (1 : Nat) (Option.some Jvm.ClassFile.FieldType.int)).before args0 about1 = true := code_word (m := ⟨11, 2⟩) (meth := k11m2) (c := k11c2) (by decide +kernel) rfl rfl rfl (by decide +kernel)
set_option maxRecDepth 65536 in
theorem w_c32 : (Jvm.Cond.code ({ cls := "java/util/Arrays", name := "copyOfRange", desc := "([BII)[B" } : Jvm.MethodName) jdk_65_method_132_code (3 : Nat) (Option.some (Jvm.ClassFile.FieldType.array Jvm.ClassFile.FieldType.byte))).before args0 about1 = true := code_word (m := ⟨15, 2⟩) (meth := k15m2) (c := k15c2) (by decide +kernel) rfl rfl rfl (by decide +kernel)
set_option maxRecDepth 65536 in
theorem w_c33 : (Jvm.Cond.code ({ cls := "java/util/Arrays", name := "copyOfRangeByte", desc := "([BII)[B" } : Jvm.MethodName) jdk_65_method_133_code (5 : Nat) (Option.some (Jvm.ClassFile.FieldType.array Jvm.ClassFile.FieldType.byte))).before args0 about1 = true := code_word (m := ⟨15, 3⟩) (meth := k15m3) (c := k15c3) (by decide +kernel) rfl rfl rfl (by decide +kernel)
set_option maxRecDepth 65536 in
theorem w_c34 : (Jvm.Cond.code ({ cls := "java/util/Arrays", name := "checkLength", desc := "(II)V" } : Jvm.MethodName) jdk_65_method_131_code (2 : Nat) (Option.none : Option Jvm.ClassFile.FieldType)).before args0 about1 = true := code_word (m := ⟨15, 1⟩) (meth := k15m1) (c := k15c1) (by decide +kernel) rfl rfl rfl (by decide +kernel)
set_option maxRecDepth 65536 in
theorem w_c35 : (Jvm.Cond.code ({ cls := "java/lang/Math", name := "min", desc := "(II)I" } : Jvm.MethodName) jdk_29_method_69_code (2 : Nat) (Option.some Jvm.ClassFile.FieldType.int)).before args0 about1 = true := code_word (m := ⟨16, 1⟩) (meth := k16m1) (c := k16c1) (by decide +kernel) rfl rfl rfl (by decide +kernel)
set_option maxRecDepth 65536 in
theorem w_c36 : (Jvm.Cond.code ({ cls := "java/lang/String", name := "charAt", desc := "(I)C" } : Jvm.MethodName) jdk_42_method_56_code (2 : Nat) (Option.some Jvm.ClassFile.FieldType.char)).before args0 about1 = true := code_word (m := ⟨7, 4⟩) (meth := k7m4) (c := k7c4) (by decide +kernel) rfl rfl rfl (by decide +kernel)
set_option maxRecDepth 65536 in
theorem w_c37 : (Jvm.Cond.code ({ cls := "java/lang/String", name := "isLatin1", desc := "()Z" } : Jvm.MethodName) jdk_42_method_154_code (1 : Nat) (Option.some Jvm.ClassFile.FieldType.boolean)).before args0 about1 = true := code_word (m := ⟨7, 9⟩) (meth := k7m9) (c := k7c9) (by decide +kernel) rfl rfl rfl (by decide +kernel)
set_option maxRecDepth 65536 in
theorem w_c38 : (Jvm.Cond.code ({ cls := "java/lang/StringLatin1", name := "charAt", desc := "([BI)C" } : Jvm.MethodName) jdk_43_method_2_code (2 : Nat) (Option.some Jvm.ClassFile.FieldType.char)).before args0 about1 = true := code_word (m := ⟨14, 1⟩) (meth := k14m1) (c := k14c1) (by decide +kernel) rfl rfl rfl (by decide +kernel)
set_option maxRecDepth 65536 in
theorem w_c39 : (Jvm.Cond.code ({ cls := "java/lang/String", name := "checkIndex", desc := "(II)V" } : Jvm.MethodName) jdk_42_method_155_code (2 : Nat) (Option.none : Option Jvm.ClassFile.FieldType)).before args0 about1 = true := code_word (m := ⟨7, 10⟩) (meth := k7m10) (c := k7c10) (by decide +kernel) rfl rfl rfl (by decide +kernel)
set_option maxRecDepth 65536 in
theorem w_c40 : (Jvm.Cond.code ({ cls := "jdk/internal/util/Preconditions", name := "checkIndex", desc := "(IILjava/util/function/BiFunction;)I" } : Jvm.MethodName) jdk_41_method_11_code (3 : Nat) (Option.some Jvm.ClassFile.FieldType.int)).before args0 about1 = true := code_word (m := ⟨17, 1⟩) (meth := k17m1) (c := k17c1) (by decide +kernel) rfl rfl rfl (by decide +kernel)
set_option maxRecDepth 65536 in
theorem w_c41 : (Jvm.Cond.code ({ cls := "java/lang/StringUTF16", name := "toBytes", desc := "([CII)[B" } : Jvm.MethodName) jdk_52_method_14_code (5 : Nat) (Option.some (Jvm.ClassFile.FieldType.array Jvm.ClassFile.FieldType.byte))).before args0 about1 = true := code_word (m := ⟨8, 6⟩) (meth := k8m6) (c := k8c6) (by decide +kernel) rfl rfl rfl (by decide +kernel)
set_option maxRecDepth 65536 in
theorem w_c42 : (Jvm.Cond.code ({ cls := "java/lang/StringUTF16", name := "newBytesFor", desc := "(I)[B" } : Jvm.MethodName) jdk_52_method_2_code (1 : Nat) (Option.some (Jvm.ClassFile.FieldType.array Jvm.ClassFile.FieldType.byte))).before args0 about1 = true := code_word (m := ⟨8, 1⟩) (meth := k8m1) (c := k8c1) (by decide +kernel) rfl rfl rfl (by decide +kernel)
set_option maxRecDepth 65536 in
theorem w_c43 : (Jvm.Cond.code ({ cls := "java/lang/StringUTF16", name := "newBytesLength", desc := "(I)I" } : Jvm.MethodName) jdk_52_method_3_code (1 : Nat) (Option.some Jvm.ClassFile.FieldType.int)).before args0 about1 = true := code_word (m := ⟨8, 2⟩) (meth := k8m2) (c := k8c2) (by decide +kernel) rfl rfl rfl (by decide +kernel)
set_option maxRecDepth 65536 in
theorem w_c44 : (Jvm.Cond.code ({ cls := "java/lang/StringUTF16", name := "putChar", desc := "([BII)V" } : Jvm.MethodName) jdk_52_method_4_code (3 : Nat) (Option.none : Option Jvm.ClassFile.FieldType)).before args0 about1 = true := code_word (m := ⟨8, 3⟩) (meth := k8m3) (c := k8c3) (by decide +kernel) rfl rfl rfl (by decide +kernel)
set_option maxRecDepth 65536 in
theorem w_c45 : (Jvm.Cond.code ({ cls := "java/lang/StringUTF16", name := "getChar", desc := "([BI)C" } : Jvm.MethodName) jdk_52_method_5_code (2 : Nat) (Option.some Jvm.ClassFile.FieldType.char)).before args0 about1 = true := code_word (m := ⟨8, 4⟩) (meth := k8m4) (c := k8c4) (by decide +kernel) rfl rfl rfl (by decide +kernel)
set_option maxRecDepth 65536 in
theorem w_c46 : (Jvm.Cond.code ({ cls := "java/lang/AbstractStringBuilder", name := "inflate", desc := "()V" } : Jvm.MethodName) jdk_68_method_11_code (2 : Nat) (Option.none : Option Jvm.ClassFile.FieldType)).before args0 about1 = true := code_word (m := ⟨11, 4⟩) (meth := k11m4) (c := k11c4) (by decide +kernel) rfl rfl rfl (by decide +kernel)
set_option maxRecDepth 65536 in
theorem w_c47 : (Jvm.Cond.code ({ cls := "java/lang/StringLatin1", name := "inflate", desc := "([BI[BII)V" } : Jvm.MethodName) jdk_43_method_50_code (5 : Nat) (Option.none : Option Jvm.ClassFile.FieldType)).before args0 about1 = true := code_word (m := ⟨14, 3⟩) (meth := k14m3) (c := k14c3) (by decide +kernel) rfl rfl rfl (by decide +kernel)
set_option maxRecDepth 65536 in
theorem w_c48 : (Jvm.Cond.code ({ cls := "java/lang/StringUTF16", name := "inflate", desc := "([BI[BII)V" } : Jvm.MethodName) jdk_52_method_86_code (6 : Nat) (Option.none : Option Jvm.ClassFile.FieldType)).before args0 about1 = true := code_word (m := ⟨8, 12⟩) (meth := k8m12) (c := k8c12) (by decide +kernel) rfl rfl rfl (by decide +kernel)
set_option maxRecDepth 65536 in
theorem w_c49 : (Jvm.Cond.code ({ cls := "java/lang/StringUTF16", name := "checkBoundsOffCount", desc := "(II[B)V" } : Jvm.MethodName) jdk_52_method_94_code (3 : Nat) (Option.none : Option Jvm.ClassFile.FieldType)).before args0 about1 = true := code_word (m := ⟨8, 14⟩) (meth := k8m14) (c := k8c14) (by decide +kernel) rfl rfl rfl (by decide +kernel)
set_option maxRecDepth 65536 in
theorem w_c50 : (Jvm.Cond.code ({ cls := "java/lang/StringUTF16", name := "length", desc := "([B)I" } : Jvm.MethodName) jdk_52_method_6_code (1 : Nat) (Option.some Jvm.ClassFile.FieldType.int)).before args0 about1 = true := code_word (m := ⟨8, 5⟩) (meth := k8m5) (c := k8c5) (by decide +kernel) rfl rfl rfl (by decide +kernel)
set_option maxRecDepth 65536 in
theorem w_c51 : (Jvm.Cond.code ({ cls := "java/lang/String", name := "checkBoundsOffCount", desc := "(III)I" } : Jvm.MethodName) jdk_42_method_157_code (3 : Nat) (Option.some Jvm.ClassFile.FieldType.int)).before args0 about1 = true := code_word (m := ⟨7, 11⟩) (meth := k7m11) (c := k7c11) (by decide +kernel) rfl rfl rfl (by decide +kernel)
set_option maxRecDepth 65536 in
theorem w_c52 : (Jvm.Cond.code ({ cls := "jdk/internal/util/Preconditions", name := "checkFromIndexSize", desc := "(IIILjava/util/function/BiFunction;)I" } : Jvm.MethodName) jdk_41_method_13_code (4 : Nat) (Option.some Jvm.ClassFile.FieldType.int)).before args0 about1 = true := code_word (m := ⟨17, 2⟩) (meth := k17m2) (c := k17c2) (by decide +kernel) rfl rfl rfl (by decide +kernel)
set_option maxRecDepth 65536 in
theorem w_c53 : (Jvm.Cond.code ({ cls := "java/lang/StringUTF16", name := "putCharSB", desc := "([BII)V" } : Jvm.MethodName) jdk_52_method_71_code (3 : Nat) (Option.none : Option Jvm.ClassFile.FieldType)).before args0 about1 = true := code_word (m := ⟨8, 10⟩) (meth := k8m10) (c := k8c10) (by decide +kernel) rfl rfl rfl (by decide +kernel)
set_option maxRecDepth 65536 in
theorem w_c54 : (Jvm.Cond.code ({ cls := "java/lang/StringUTF16", name := "checkIndex", desc := "(I[B)V" } : Jvm.MethodName) jdk_52_method_91_code (2 : Nat) (Option.none : Option Jvm.ClassFile.FieldType)).before args0 about1 = true := code_word (m := ⟨8, 13⟩) (meth := k8m13) (c := k8c13) (by decide +kernel) rfl rfl rfl (by decide +kernel)
set_option maxRecDepth 65536 in
theorem w_c55 : (Jvm.Cond.code ({ cls := "java/lang/StringUTF16", name := "charAt", desc := "([BI)C" } : Jvm.MethodName) jdk_52_method_83_code (2 : Nat) (Option.some Jvm.ClassFile.FieldType.char)).before args0 about1 = true := code_word (m := ⟨8, 11⟩) (meth := k8m11) (c := k8c11) (by decide +kernel) rfl rfl rfl (by decide +kernel)
def codes1 : List Jvm.Cond := [Jvm.Cond.code x code maxLocals ret, Jvm.Cond.code ({ cls := "com/example/carve/carve/http/HtmlClosePinLaw", name := "str", desc := "(ICCC)Ljava/lang/String;" } : Jvm.MethodName) method_2_code (4 : Nat) (Option.some (Jvm.ClassFile.FieldType.object "java/lang/String")), Jvm.Cond.code ({ cls := "java/lang/String", name := "<init>", desc := "([C)V" } : Jvm.MethodName) jdk_42_method_3_code (2 : Nat) (Option.none : Option Jvm.ClassFile.FieldType), Jvm.Cond.code ({ cls := "java/lang/String", name := "<init>", desc := "([CIILjava/lang/Void;)V" } : Jvm.MethodName) jdk_42_method_149_code (6 : Nat) (Option.none : Option Jvm.ClassFile.FieldType), Jvm.Cond.code ({ cls := "java/lang/Object", name := "<init>", desc := "()V" } : Jvm.MethodName) object_method_1_code (1 : Nat) (Option.none : Option Jvm.ClassFile.FieldType), Jvm.Cond.code ({ cls := "java/lang/StringUTF16", name := "compress", desc := "([CII)[B" } : Jvm.MethodName) jdk_52_method_16_code (6 : Nat) (Option.some (Jvm.ClassFile.FieldType.array Jvm.ClassFile.FieldType.byte)), Jvm.Cond.code ({ cls := "java/lang/StringUTF16", name := "compress", desc := "([CI[BII)I" } : Jvm.MethodName) jdk_52_method_21_code (7 : Nat) (Option.some Jvm.ClassFile.FieldType.int), Jvm.Cond.code ({ cls := "java/lang/StringUTF16", name := "coderFromArrayLen", desc := "([BI)B" } : Jvm.MethodName) jdk_52_method_15_code (2 : Nat) (Option.some Jvm.ClassFile.FieldType.byte), Jvm.Cond.code ({ cls := "com/example/carve/carve/http/Html", name := "<init>", desc := "()V" } : Jvm.MethodName) prog_24_method_1_code (1 : Nat) (Option.none : Option Jvm.ClassFile.FieldType), Jvm.Cond.code ({ cls := "java/lang/StringBuilder", name := "<init>", desc := "()V" } : Jvm.MethodName) jdk_67_method_1_code (1 : Nat) (Option.none : Option Jvm.ClassFile.FieldType), Jvm.Cond.code ({ cls := "java/lang/AbstractStringBuilder", name := "<init>", desc := "(I)V" } : Jvm.MethodName) jdk_68_method_2_code (2 : Nat) (Option.none : Option Jvm.ClassFile.FieldType), Jvm.Cond.code ({ cls := "com/example/carve/carve/http/Html", name := "markup", desc := "(Ljava/lang/String;)Lcom/example/carve/carve/http/Html;" } : Jvm.MethodName) prog_24_method_6_code (2 : Nat) (Option.some (Jvm.ClassFile.FieldType.object "com/example/carve/carve/http/Html")), Jvm.Cond.code ({ cls := "java/lang/StringBuilder", name := "append", desc := "(Ljava/lang/String;)Ljava/lang/StringBuilder;" } : Jvm.MethodName) jdk_67_method_7_code (2 : Nat) (Option.some (Jvm.ClassFile.FieldType.object "java/lang/StringBuilder")), Jvm.Cond.code ({ cls := "java/lang/AbstractStringBuilder", name := "append", desc := "(Ljava/lang/String;)Ljava/lang/AbstractStringBuilder;" } : Jvm.MethodName) jdk_68_method_22_code (3 : Nat) (Option.some (Jvm.ClassFile.FieldType.object "java/lang/AbstractStringBuilder")), Jvm.Cond.code ({ cls := "java/lang/String", name := "length", desc := "()I" } : Jvm.MethodName) jdk_42_method_54_code (1 : Nat) (Option.some Jvm.ClassFile.FieldType.int), Jvm.Cond.code ({ cls := "java/lang/String", name := "coder", desc := "()B" } : Jvm.MethodName) jdk_42_method_152_code (1 : Nat) (Option.some Jvm.ClassFile.FieldType.byte), Jvm.Cond.code ({ cls := "java/lang/AbstractStringBuilder", name := "ensureCapacityInternal", desc := "(I)V" } : Jvm.MethodName) jdk_68_method_9_code (3 : Nat) (Option.none : Option Jvm.ClassFile.FieldType), Jvm.Cond.code ({ cls := "java/lang/AbstractStringBuilder", name := "putStringAt", desc := "(ILjava/lang/String;)V" } : Jvm.MethodName) jdk_68_method_73_code (3 : Nat) (Option.none : Option Jvm.ClassFile.FieldType), Jvm.Cond.code ({ cls := "java/lang/AbstractStringBuilder", name := "inflateIfNeededFor", desc := "(Ljava/lang/String;)V" } : Jvm.MethodName) jdk_68_method_71_code (2 : Nat) (Option.none : Option Jvm.ClassFile.FieldType), Jvm.Cond.code ({ cls := "java/lang/String", name := "getBytes", desc := "([BIB)V" } : Jvm.MethodName) jdk_42_method_147_code (4 : Nat) (Option.none : Option Jvm.ClassFile.FieldType), Jvm.Cond.code ({ cls := "com/example/carve/carve/http/Html", name := "close", desc := "(Ljava/lang/String;)Lcom/example/carve/carve/http/Html;" } : Jvm.MethodName) prog_24_method_3_code (2 : Nat) (Option.some (Jvm.ClassFile.FieldType.object "com/example/carve/carve/http/Html")), Jvm.Cond.code ({ cls := "java/lang/StringBuilder", name := "append", desc := "(C)Ljava/lang/StringBuilder;" } : Jvm.MethodName) jdk_67_method_14_code (2 : Nat) (Option.some (Jvm.ClassFile.FieldType.object "java/lang/StringBuilder")), Jvm.Cond.code ({ cls := "java/lang/AbstractStringBuilder", name := "append", desc := "(C)Ljava/lang/AbstractStringBuilder;" } : Jvm.MethodName) jdk_68_method_31_code (2 : Nat) (Option.some (Jvm.ClassFile.FieldType.object "java/lang/AbstractStringBuilder")), Jvm.Cond.code ({ cls := "java/lang/AbstractStringBuilder", name := "isLatin1", desc := "()Z" } : Jvm.MethodName) jdk_68_method_68_code (1 : Nat) (Option.some Jvm.ClassFile.FieldType.boolean), Jvm.Cond.code ({ cls := "java/lang/StringLatin1", name := "canEncode", desc := "(C)Z" } : Jvm.MethodName) jdk_43_method_3_code (1 : Nat) (Option.some Jvm.ClassFile.FieldType.boolean), Jvm.Cond.code ({ cls := "com/example/carve/carve/http/Html", name := "toString", desc := "()Ljava/lang/String;" } : Jvm.MethodName) prog_24_method_9_code (1 : Nat) (Option.some (Jvm.ClassFile.FieldType.object "java/lang/String")), Jvm.Cond.code ({ cls := "java/lang/StringBuilder", name := "toString", desc := "()Ljava/lang/String;" } : Jvm.MethodName) jdk_67_method_42_code (1 : Nat) (Option.some (Jvm.ClassFile.FieldType.object "java/lang/String")), Jvm.Cond.code ({ cls := "java/lang/String", name := "<init>", desc := "(Ljava/lang/StringBuilder;)V" } : Jvm.MethodName) jdk_42_method_53_code (2 : Nat) (Option.none : Option Jvm.ClassFile.FieldType), Jvm.Cond.code ({ cls := "java/lang/String", name := "<init>", desc := "(Ljava/lang/AbstractStringBuilder;Ljava/lang/Void;)V" } : Jvm.MethodName) jdk_42_method_150_code (5 : Nat) (Option.none : Option Jvm.ClassFile.FieldType), Jvm.Cond.code ({ cls := "java/lang/AbstractStringBuilder", name := "getValue", desc := "()[B" } : Jvm.MethodName) jdk_68_method_64_code (1 : Nat) (Option.some (Jvm.ClassFile.FieldType.array Jvm.ClassFile.FieldType.byte)), Jvm.Cond.code ({ cls := "java/lang/StringBuilder", name := "length", desc := "()I" } : Jvm.MethodName) jdk_67_method_93_code (1 : Nat) (Option.some Jvm.ClassFile.FieldType.int), Jvm.Cond.code ({ cls := "java/lang/AbstractStringBuilder", name := "length", desc := "()I" } : Jvm.MethodName) jdk_68_method_6_code (1 : Nat) (Option.some Jvm.ClassFile.FieldType.int), Jvm.Cond.code ({ cls := "java/util/Arrays", name := "copyOfRange", desc := "([BII)[B" } : Jvm.MethodName) jdk_65_method_132_code (3 : Nat) (Option.some (Jvm.ClassFile.FieldType.array Jvm.ClassFile.FieldType.byte)), Jvm.Cond.code ({ cls := "java/util/Arrays", name := "copyOfRangeByte", desc := "([BII)[B" } : Jvm.MethodName) jdk_65_method_133_code (5 : Nat) (Option.some (Jvm.ClassFile.FieldType.array Jvm.ClassFile.FieldType.byte)), Jvm.Cond.code ({ cls := "java/util/Arrays", name := "checkLength", desc := "(II)V" } : Jvm.MethodName) jdk_65_method_131_code (2 : Nat) (Option.none : Option Jvm.ClassFile.FieldType), Jvm.Cond.code ({ cls := "java/lang/Math", name := "min", desc := "(II)I" } : Jvm.MethodName) jdk_29_method_69_code (2 : Nat) (Option.some Jvm.ClassFile.FieldType.int), Jvm.Cond.code ({ cls := "java/lang/String", name := "charAt", desc := "(I)C" } : Jvm.MethodName) jdk_42_method_56_code (2 : Nat) (Option.some Jvm.ClassFile.FieldType.char), Jvm.Cond.code ({ cls := "java/lang/String", name := "isLatin1", desc := "()Z" } : Jvm.MethodName) jdk_42_method_154_code (1 : Nat) (Option.some Jvm.ClassFile.FieldType.boolean), Jvm.Cond.code ({ cls := "java/lang/StringLatin1", name := "charAt", desc := "([BI)C" } : Jvm.MethodName) jdk_43_method_2_code (2 : Nat) (Option.some Jvm.ClassFile.FieldType.char), Jvm.Cond.code ({ cls := "java/lang/String", name := "checkIndex", desc := "(II)V" } : Jvm.MethodName) jdk_42_method_155_code (2 : Nat) (Option.none : Option Jvm.ClassFile.FieldType), Jvm.Cond.code ({ cls := "jdk/internal/util/Preconditions", name := "checkIndex", desc := "(IILjava/util/function/BiFunction;)I" } : Jvm.MethodName) jdk_41_method_11_code (3 : Nat) (Option.some Jvm.ClassFile.FieldType.int), Jvm.Cond.code ({ cls := "java/lang/StringUTF16", name := "toBytes", desc := "([CII)[B" } : Jvm.MethodName) jdk_52_method_14_code (5 : Nat) (Option.some (Jvm.ClassFile.FieldType.array Jvm.ClassFile.FieldType.byte)), Jvm.Cond.code ({ cls := "java/lang/StringUTF16", name := "newBytesFor", desc := "(I)[B" } : Jvm.MethodName) jdk_52_method_2_code (1 : Nat) (Option.some (Jvm.ClassFile.FieldType.array Jvm.ClassFile.FieldType.byte)), Jvm.Cond.code ({ cls := "java/lang/StringUTF16", name := "newBytesLength", desc := "(I)I" } : Jvm.MethodName) jdk_52_method_3_code (1 : Nat) (Option.some Jvm.ClassFile.FieldType.int), Jvm.Cond.code ({ cls := "java/lang/StringUTF16", name := "putChar", desc := "([BII)V" } : Jvm.MethodName) jdk_52_method_4_code (3 : Nat) (Option.none : Option Jvm.ClassFile.FieldType), Jvm.Cond.code ({ cls := "java/lang/StringUTF16", name := "getChar", desc := "([BI)C" } : Jvm.MethodName) jdk_52_method_5_code (2 : Nat) (Option.some Jvm.ClassFile.FieldType.char), Jvm.Cond.code ({ cls := "java/lang/AbstractStringBuilder", name := "inflate", desc := "()V" } : Jvm.MethodName) jdk_68_method_11_code (2 : Nat) (Option.none : Option Jvm.ClassFile.FieldType), Jvm.Cond.code ({ cls := "java/lang/StringLatin1", name := "inflate", desc := "([BI[BII)V" } : Jvm.MethodName) jdk_43_method_50_code (5 : Nat) (Option.none : Option Jvm.ClassFile.FieldType), Jvm.Cond.code ({ cls := "java/lang/StringUTF16", name := "inflate", desc := "([BI[BII)V" } : Jvm.MethodName) jdk_52_method_86_code (6 : Nat) (Option.none : Option Jvm.ClassFile.FieldType), Jvm.Cond.code ({ cls := "java/lang/StringUTF16", name := "checkBoundsOffCount", desc := "(II[B)V" } : Jvm.MethodName) jdk_52_method_94_code (3 : Nat) (Option.none : Option Jvm.ClassFile.FieldType), Jvm.Cond.code ({ cls := "java/lang/StringUTF16", name := "length", desc := "([B)I" } : Jvm.MethodName) jdk_52_method_6_code (1 : Nat) (Option.some Jvm.ClassFile.FieldType.int), Jvm.Cond.code ({ cls := "java/lang/String", name := "checkBoundsOffCount", desc := "(III)I" } : Jvm.MethodName) jdk_42_method_157_code (3 : Nat) (Option.some Jvm.ClassFile.FieldType.int), Jvm.Cond.code ({ cls := "jdk/internal/util/Preconditions", name := "checkFromIndexSize", desc := "(IIILjava/util/function/BiFunction;)I" } : Jvm.MethodName) jdk_41_method_13_code (4 : Nat) (Option.some Jvm.ClassFile.FieldType.int), Jvm.Cond.code ({ cls := "java/lang/StringUTF16", name := "putCharSB", desc := "([BII)V" } : Jvm.MethodName) jdk_52_method_71_code (3 : Nat) (Option.none : Option Jvm.ClassFile.FieldType), Jvm.Cond.code ({ cls := "java/lang/StringUTF16", name := "checkIndex", desc := "(I[B)V" } : Jvm.MethodName) jdk_52_method_91_code (2 : Nat) (Option.none : Option Jvm.ClassFile.FieldType), Jvm.Cond.code ({ cls := "java/lang/StringUTF16", name := "charAt", desc := "([BI)C" } : Jvm.MethodName) jdk_52_method_83_code (2 : Nat) (Option.some Jvm.ClassFile.FieldType.char)]
set_option maxRecDepth 65536 in
theorem codes_eq : words1.filter isCode = codes1 := rfl
theorem w_codes : ∀ c ∈ words1.filter isCode, c.before args0 about1 = true := by
  rw [codes_eq]
  intro c hc
  simp only [codes1, List.mem_cons, List.not_mem_nil, or_false] at hc
  rcases hc with rfl | rfl | rfl | rfl | rfl | rfl | rfl | rfl | rfl | rfl | rfl | rfl | rfl | rfl | rfl | rfl | rfl | rfl | rfl | rfl | rfl | rfl | rfl | rfl | rfl | rfl | rfl | rfl | rfl | rfl | rfl | rfl | rfl | rfl | rfl | rfl | rfl | rfl | rfl | rfl | rfl | rfl | rfl | rfl | rfl | rfl | rfl | rfl | rfl | rfl | rfl | rfl | rfl | rfl | rfl | rfl
  · exact w_c0
  · exact w_c1
  · exact w_c2
  · exact w_c3
  · exact w_c4
  · exact w_c5
  · exact w_c6
  · exact w_c7
  · exact w_c8
  · exact w_c9
  · exact w_c10
  · exact w_c11
  · exact w_c12
  · exact w_c13
  · exact w_c14
  · exact w_c15
  · exact w_c16
  · exact w_c17
  · exact w_c18
  · exact w_c19
  · exact w_c20
  · exact w_c21
  · exact w_c22
  · exact w_c23
  · exact w_c24
  · exact w_c25
  · exact w_c26
  · exact w_c27
  · exact w_c28
  · exact w_c29
  · exact w_c30
  · exact w_c31
  · exact w_c32
  · exact w_c33
  · exact w_c34
  · exact w_c35
  · exact w_c36
  · exact w_c37
  · exact w_c38
  · exact w_c39
  · exact w_c40
  · exact w_c41
  · exact w_c42
  · exact w_c43
  · exact w_c44
  · exact w_c45
  · exact w_c46
  · exact w_c47
  · exact w_c48
  · exact w_c49
  · exact w_c50
  · exact w_c51
  · exact w_c52
  · exact w_c53
  · exact w_c54
  · exact w_c55
set_option maxRecDepth 65536 in
theorem w_t1 : (words1.take 24).all (fun c => isCode c || c.before args0 about1) = true := by decide +kernel
set_option maxRecDepth 65536 in
theorem w_t2 : ((words1.drop 24).take 24).all (fun c => isCode c || c.before args0 about1) = true := by decide +kernel
set_option maxRecDepth 65536 in
theorem w_t3 : (((words1.drop 24).drop 24).take 24).all (fun c => isCode c || c.before args0 about1) = true := by decide +kernel
set_option maxRecDepth 65536 in
theorem w_t4 : ((((words1.drop 24).drop 24).drop 24).take 24).all (fun c => isCode c || c.before args0 about1) = true := by decide +kernel
set_option maxRecDepth 65536 in
theorem w_t5 : (((((words1.drop 24).drop 24).drop 24).drop 24).take 24).all (fun c => isCode c || c.before args0 about1) = true := by decide +kernel
set_option maxRecDepth 65536 in
theorem w_t6 : ((((((words1.drop 24).drop 24).drop 24).drop 24).drop 24).take 24).all (fun c => isCode c || c.before args0 about1) = true := by decide +kernel
set_option maxRecDepth 65536 in
theorem w_t7 : (((((((words1.drop 24).drop 24).drop 24).drop 24).drop 24).drop 24).take 24).all (fun c => isCode c || c.before args0 about1) = true := by decide +kernel
set_option maxRecDepth 65536 in
theorem w_t8 : ((((((((words1.drop 24).drop 24).drop 24).drop 24).drop 24).drop 24).drop 24).take 24).all (fun c => isCode c || c.before args0 about1) = true := by decide +kernel
set_option maxRecDepth 65536 in
theorem w_t9 : (((((((((words1.drop 24).drop 24).drop 24).drop 24).drop 24).drop 24).drop 24).drop 24).take 24).all (fun c => isCode c || c.before args0 about1) = true := by decide +kernel
set_option maxRecDepth 65536 in
theorem w_t10 : ((((((((((words1.drop 24).drop 24).drop 24).drop 24).drop 24).drop 24).drop 24).drop 24).drop 24).take 24).all (fun c => isCode c || c.before args0 about1) = true := by decide +kernel
set_option maxRecDepth 65536 in
theorem w_t11 : ((((((((((words1.drop 24).drop 24).drop 24).drop 24).drop 24).drop 24).drop 24).drop 24).drop 24).drop 24).all (fun c => isCode c || c.before args0 about1) = true := by decide +kernel
theorem w_tables : (allAtoms (Jvm.Cond.code x code maxLocals ret :: tables_1)).before args0 about1 = true := by
  rw [allAtoms_all]
  show words1.all (fun c => c.before args0 about1) = true
  refine all_split ?_ w_codes
  rw [← List.take_append_drop 24 words1, List.all_append, w_t1, ← List.take_append_drop 24 (words1.drop 24), List.all_append, w_t2, ← List.take_append_drop 24 ((words1.drop 24).drop 24), List.all_append, w_t3, ← List.take_append_drop 24 (((words1.drop 24).drop 24).drop 24), List.all_append, w_t4, ← List.take_append_drop 24 ((((words1.drop 24).drop 24).drop 24).drop 24), List.all_append, w_t5, ← List.take_append_drop 24 (((((words1.drop 24).drop 24).drop 24).drop 24).drop 24), List.all_append, w_t6, ← List.take_append_drop 24 ((((((words1.drop 24).drop 24).drop 24).drop 24).drop 24).drop 24), List.all_append, w_t7, ← List.take_append_drop 24 (((((((words1.drop 24).drop 24).drop 24).drop 24).drop 24).drop 24).drop 24), List.all_append, w_t8, ← List.take_append_drop 24 ((((((((words1.drop 24).drop 24).drop 24).drop 24).drop 24).drop 24).drop 24).drop 24), List.all_append, w_t9, ← List.take_append_drop 24 (((((((((words1.drop 24).drop 24).drop 24).drop 24).drop 24).drop 24).drop 24).drop 24).drop 24), List.all_append, w_t10, w_t11]
  rfl
set_option maxRecDepth 65536 in
theorem w_rest : rest_1_c.before args0 about1 = true := by decide +kernel
set_option maxRecDepth 65536 in
theorem w_case : (Jvm.Cond.and given_1 narrow_1).before args0 about1 = true := by decide +kernel
set_option maxRecDepth 65536 in
theorem w_consts : constsHeld consts_1 about1 := Jvm.Lit.constsHeldB_iff.mp (by decide +kernel)
theorem w_applies : (headSpec (Jvm.Cond.code x code maxLocals ret :: tables_1) room_1).applies x e0.platform about1 = true :=
  (Spec.applies_iff w_frames).mpr ⟨w_running, w_runnable, w_alone, w_named, w_hears, w_ripe, w_room, w_tables⟩
theorem atStart : AtStart classFile x code maxLocals ret World_1 tables_1 room_1 Calls_1 rest_1 Pre_1 launch0 p0 e0 about1 theMethod args0 below0 :=
  ⟨lists_1, trivial, launch0.admits_env _ _ _, launch0.least_env, fairChoices_fair.cas, fairChoices_fair.clock, w_frames, w_args, w_heap, w_applies, ⟨w_consts, trivial⟩, w_rest, w_case⟩
end start1
theorem witness_1 : WitnessClaimed_1 := ⟨start1.p0, start1.e0, start1.about1, start1.theMethod, start1.args0, start1.below0, start1.atStart⟩
end Jvm.Pilot.@@N@@
