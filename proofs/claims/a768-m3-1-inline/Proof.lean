import JvmDerived
import JvmDerived.Pilot.@@N@@Statement
import JvmDerived.Pilot.@@N@@Code
set_option linter.unusedVariables false
set_option linter.unusedSimpArgs false
set_option maxRecDepth 65536
set_option maxHeartbeats 40000000
namespace Jvm.Ow
open Jvm Jvm.ClassFile Sem Op Lib Jvm.Free Jvm.Stand Jvm.LawKit Jvm.RoadKit Bundle
theorem ltA {a b : Nat} (h : a < b) : a < b := h
theorem leA {a b : Nat} (h : a ≤ b) : a ≤ b := h
theorem neA {a b : Nat} (h : a ≠ b) : a ≠ b := h
abbrev vI (x : Int32) : Slot := .val (.int x)
abbrev vR (a : Addr) : Slot := .val (.ref a)
theorem mroom {x W : Nat} {rest : List Value} (hx : x = 0) (h : (rest.map fun v => v.category).sum = W) : 2 * x + (rest.map fun v => v.category).sum ≤ W := by subst hx; omega
theorem sz {n k x : Nat} (h : x = k) (q : n = k) : n = x := q.trans h.symm
theorem memI {α : Type} {l : List α} {i : Nat} {a : α} (h : l[i]? = some a) : a ∈ l := List.mem_of_getElem? h
theorem orA {a b c : Nat} (h : a = b ∨ c ≤ a) : a = b ∨ c ≤ a := h
section Base
variable {p : Program} {l : Launch} {e : Env} {R : Room} {s : State} {m : MethodId} {args : Array Value} {below : List Frame} {meth : Method} {c : Code} {own : String} {Z : State} {a0 : Array Value} {EL : List (String × Nat)} {h0 : Heap} {T : State} {h h' : Heap} {vm vm' : Vm} {cells slots : Nat} {P : Outcome → State → Prop} {g : JFrame}
/-- from t the invocation comes to an end at which P holds -/
def Gets (p : Program) (e : Env) (below : List Frame) (P : Outcome → State → Prop) (t : State) : Prop := ∃ u o, Steps p.tables e below t u ∧ u.status = .running ∧ Ended u below o ∧ P o u
theorem Gets.via {t t' : State} (h : ∀ u, Steps p.tables e below t' u → Steps p.tables e below t u) (k : Gets p e below P t') : Gets p e below P t := by
  obtain ⟨u, o, h1, h2⟩ := k
  exact ⟨u, o, h _ h1, h2⟩
theorem Gets.steps {t t' : State} (h : Steps p.tables e below t t') (k : Gets p e below P t') : Gets p e below P t := k.via fun _ q => h.trans q
/-- where a walk stands: over the start with the tables at hand; what it may have interned; what the literals hold; nothing of the law's start written -/
def Wk (p : Program) (l : Launch) (e : Env) (R : Room) (s : State) (m : MethodId) (args : Array Value) (below : List Frame) (meth : Method) (c : Code) (own : String) (Z : State) (a0 : Array Value) (EL : List (String × Nat)) (h0 : Heap) (T : State) (h : Heap) (vm : Vm) (cells slots : Nat) : Prop :=
  ∃ (locs : List Loc) (k : Nat), Stand p l e R (s.setVm vm) m args below meth c T locs cells slots ∧ T.heap = h ∧ s.Since vm k ∧ k ≤ h.size ∧ Z.Warmed39 vm ∧ vm.findClass own = some m.cls ∧ CHr Z EL s.vm h0 vm h ∧ Fr Z.heap.size locs ∧ Old Z Z.heap.size h ∧ p.tables.exec = Jvm.exec ∧ EW Z a0 EL ∧ s.heap = h0 ∧ meth.locks = false
/-- what an invocation leaves -/
def Out (s : State) (Z : State) (EL : List (String × Nat)) (rm : Room) (Q : Option Value → Vm → Heap → Prop) (o : Outcome) (u : State) : Prop :=
  ∃ (v : Option Value) (L : List Loc), o = .returned v ∧ (Q v u.vm u.heap ∧ Fr Z.heap.size L ∧ Old Z Z.heap.size u.heap) ∧ CHr Z EL s.vm s.heap u.vm u.heap ∧ ReturnedEndW s o u L rm.cells rm.slots
/-- a contract -/
def Met (l : Launch) (Z : State) (EL : List (String × Nat)) (y : MethodName) (bytes : ByteArray) (maxL : Nat) (ret : Option FieldType) (ws : List Jvm.Cond) (rm : Room) (sf : List Addr) (as : Array Value) (h : Heap) (Q : Option Value → Vm → Heap → Prop) : Prop :=
  MetFree l y (head1 (Jvm.Cond.code y bytes maxL ret :: ws) rm) (fun a U => a = as ∧ Z.Warmed39 U.vm ∧ U.heap = h ∧ CHv Z EL U.vm h ∧ ∀ x ∈ sf, Safe Z EL U.vm h x) (fun _ _ _ _ _ => True) (fun _ U o U' => Out U Z EL rm Q o U')
theorem Met.start {y : MethodName} {bytes : ByteArray} {maxL : Nat} {ret : Option FieldType} {ws : List Jvm.Cond} {rm : Room} {sf : List Addr} {as : Array Value} {Q : Option Value → Vm → Heap → Prop} (hp : plainFor y = true) (hEL : EW Z a0 EL) (hO : Old Z Z.heap.size h) {Ls : Array Slot} (hent : ∀ m, entryFrame m as maxL = mkF m 0 Ls [])
    (body : ∀ p e s m below meth c T vm, Wk p l e rm s m as below meth c y.cls Z a0 EL h T h vm 0 0 → (∀ x ∈ sf, Safe Z EL vm h x) → (∀ {n : Nat} {r : Except DecodeError (Instr × Nat)}, decode bytes n = r → decode c.code n = r) → c.maxLocals = maxL → meth.sig.returnType = ret → meth.name = y.name → p.tables.exec = Jvm.exec → Z.heap.size ≤ h.size → At T m c below → Gets p e below (Out s Z EL rm Q) (T.setTop (mkF m 0 Ls []))) :
    Met l Z EL y bytes maxL ret ws rm sf as h Q := by
  refine MetFree.of_bodySF hp hisR ?_
  intro p e s m args below meth c s₁ Bd hml0 hP hK
  obtain ⟨rfl, hZ, hh, hC, hsf⟩ := hP
  have e0 : s₁.heap = h := by rw [← hh, Bd.state]; rfl
  have X0 : Stand p l e rm s m args below meth c s₁ [] 0 0 := Stand.of_body Bd
  have hown : s.vm.findClass y.cls = some m.cls := findClass_of_methodNamed Bd.named
  have W0 : Wk p l e rm s m args below meth c y.cls Z a0 EL h s₁ h s.vm 0 0 :=
    ⟨[], 0, X0, e0, ⟨State.Warmed39.refl s, fun j q hj hq => absurd (Array.getElem?_eq_some_iff.mp hq).1 (Nat.not_lt.mpr hj)⟩, Nat.zero_le _, hZ, hown, CHr.refl hC, Fr.nil _, hO, Bd.exec, hEL, hh, Bd.notSynchronized⟩
  have k := body p e s m below meth c s₁ s.vm W0 hsf (fun d => hb Bd.bytes d) hml0 Bd.returns (name_of_methodNamed Bd.named Bd.method).1 Bd.exec hO.2.1 X0.here
  obtain ⟨u, o, h1, h2, h3, h4⟩ := k
  exact ⟨u, o, castTop (hent m) h1, h2, h3, h4⟩
theorem Wk.at (X : Wk p l e R s m args below meth c own Z a0 EL h0 T h vm cells slots) : At T m c below := by obtain ⟨_, _, X, -⟩ := X; exact X.here
theorem Wk.hx (X : Wk p l e R s m args below meth c own Z a0 EL h0 T h vm cells slots) : p.tables.exec = Jvm.exec := by obtain ⟨_, _, -, -, -, -, -, -, -, -, -, q, -⟩ := X; exact q
theorem Wk.hZ (X : Wk p l e R s m args below meth c own Z a0 EL h0 T h vm cells slots) : Z.Warmed39 vm := by obtain ⟨_, _, -, -, -, -, q, -⟩ := X; exact q
theorem Wk.eT (X : Wk p l e R s m args below meth c own Z a0 EL h0 T h vm cells slots) : T.heap = h := by obtain ⟨_, _, -, q, -⟩ := X; exact q
theorem Wk.old (X : Wk p l e R s m args below meth c own Z a0 EL h0 T h vm cells slots) : Old Z Z.heap.size h := by obtain ⟨_, _, -, -, -, -, -, -, -, -, q, -⟩ := X; exact q
theorem Wk.chv (X : Wk p l e R s m args below meth c own Z a0 EL h0 T h vm cells slots) : CHv Z EL vm h := by obtain ⟨_, _, -, -, -, -, -, -, q, -⟩ := X; exact q.1
theorem Wk.ew (X : Wk p l e R s m args below meth c own Z a0 EL h0 T h vm cells slots) : EW Z a0 EL := by obtain ⟨_, _, -, -, -, -, -, -, -, -, -, -, q, -⟩ := X; exact q
theorem Wk.ge (X : Wk p l e R s m args below meth c own Z a0 EL h0 T h vm cells slots) : Z.heap.size ≤ h.size := X.old.2.1
theorem Wk.sta (X : Wk p l e R s m args below meth c own Z a0 EL h0 T h vm cells slots) {C n d : String} {v : Value} (F : Sta Z Z.heap C n d v) : Sta Z h C n d v := F.ext X.old.2
theorem Wk.more (X : Wk p l e R s m args below meth c own Z a0 EL h0 T h vm cells slots) {cells' slots' : Nat} (q1 : cells ≤ cells') (q2 : slots ≤ slots') : Wk p l e R s m args below meth c own Z a0 EL h0 T h vm cells' slots' := by
  obtain ⟨locs, k, Y, r⟩ := X; exact ⟨locs, k, Y.mono q1 q2, r⟩
/-- a step that leaves heap and base -/
theorem Wk.still (X : Wk p l e R s m args below meth c own Z a0 EL h0 T h vm cells slots) {T' : State} (hY : ∀ locs, Stand p l e R (s.setVm vm) m args below meth c T locs cells slots → Stand p l e R (s.setVm vm) m args below meth c T' locs cells slots) (hT : T'.heap = h) : Wk p l e R s m args below meth c own Z a0 EL h0 T' h vm cells slots := by
  obtain ⟨locs, k, Y, -, r⟩ := X; exact ⟨locs, k, hY _ Y, hT, r⟩
theorem Wk.getF (X : Wk p l e R s m args below meth c own Z a0 EL h0 T h vm cells slots) {R0 O n d host : String} {index : Nat} (w : (Jvm.Cond.fieldLink own index R0 n d).before a0 Z = true ∨ (Jvm.Cond.fieldLinkNest own index R0 n d host).before a0 Z = true) (via : Via Z R0 O n d) {a : Addr} {v : Value} (F : Fld Z h a O n d v)
    (hg : g.method = m) {rest : List Value} (hs : g.stack = .ref a :: rest) (hd : decode c.code g.pc = .ok (.getfield index, 3))
    (k : ∀ T', Wk p l e R s m args below meth c own Z a0 EL h0 T' h vm cells slots → Gets p e below P (T'.setTop { g with pc := g.pc + 3, stack := v :: rest })) : Gets p e below P (T.setTop g) := by
  obtain ⟨locs, j, Y, eT, hS, hk, hZ, hown, hC, N, hO, hx, r⟩ := X
  obtain ⟨T', Y', e', st⟩ := RoadKit.getF Y hx hZ hown w via eT F hg hs hd
  exact (k T' ⟨locs, j, Y', e', hS, hk, hZ, hown, hC, N, hO, hx, r⟩).via st
theorem Wk.getS (X : Wk p l e R s m args below meth c own Z a0 EL h0 T h vm cells slots) {R0 O n d host : String} {index : Nat} (w : (Jvm.Cond.fieldLink own index R0 n d).before a0 Z = true ∨ (Jvm.Cond.fieldLinkNest own index R0 n d host).before a0 Z = true) (via : Via Z R0 O n d) {v : Value} (F : Sta Z h O n d v)
    (hg : g.method = m) (hd : decode c.code g.pc = .ok (.getstatic index, 3))
    (k : ∀ T', Wk p l e R s m args below meth c own Z a0 EL h0 T' h vm cells slots → Gets p e below P (T'.setTop { g with pc := g.pc + 3, stack := v :: g.stack })) : Gets p e below P (T.setTop g) := by
  obtain ⟨locs, j, Y, eT, hS, hk, hZ, hown, hC, N, hO, hx, r⟩ := X
  obtain ⟨T', Y', e', st⟩ := RoadKit.getS2 Y hx hZ hown w via eT F hg hd
  exact (k T' ⟨locs, j, Y', e', hS, hk, hZ, hown, hC, N, hO, hx, r⟩).via st
theorem Wk.cast (X : Wk p l e R s m args below meth c own Z a0 EL h0 T h vm cells slots) {K : String} {index : Nat} (w : (Jvm.Cond.classLink own index K).before a0 Z = true) {a : Addr} (F : Ins Z h a K true)
    (hg : g.method = m) {rest : List Value} (hs : g.stack = .ref a :: rest) (hd : decode c.code g.pc = .ok (.checkcast index, 3))
    (k : ∀ T', Wk p l e R s m args below meth c own Z a0 EL h0 T' h vm cells slots → Gets p e below P (T'.setTop { g with pc := g.pc + 3 })) : Gets p e below P (T.setTop g) := by
  obtain ⟨locs, j, Y, eT, hS, hk, hZ, hown, hC, N, hO, hx, r⟩ := X
  obtain ⟨T', Y', e', st⟩ := RoadKit.castY Y hx hZ hown w eT F hg hs hd
  exact (k T' ⟨locs, j, Y', e', hS, hk, hZ, hown, hC, N, hO, hx, r⟩).via st
theorem Wk.inst (X : Wk p l e R s m args below meth c own Z a0 EL h0 T h vm cells slots) {K : String} {index : Nat} (w : (Jvm.Cond.classLink own index K).before a0 Z = true) {a : Addr} (F : Ins Z h a K true)
    (hg : g.method = m) {rest : List Value} (hs : g.stack = .ref a :: rest) (hd : decode c.code g.pc = .ok (.instanceof index, 3))
    (k : ∀ T', Wk p l e R s m args below meth c own Z a0 EL h0 T' h vm cells slots → Gets p e below P (T'.setTop { g with pc := g.pc + 3, stack := .int 1 :: rest })) : Gets p e below P (T.setTop g) := by
  obtain ⟨locs, j, Y, eT, hS, hk, hZ, hown, hC, N, hO, hx, r⟩ := X
  obtain ⟨T', Y', e', st⟩ := RoadKit.instY Y hx hZ hown w eT F hg hs hd
  exact (k T' ⟨locs, j, Y', e', hS, hk, hZ, hown, hC, N, hO, hx, r⟩).via st
theorem Wk.objInit (X : Wk p l e R s m args below meth c own Z a0 EL h0 T h vm cells slots) {idx : Nat} (w1 : (Jvm.Cond.methodLink own idx Lib.objectInit).before a0 Z = true) (w2 : (Jvm.Cond.instanceMethod Lib.objectInit).before a0 Z = true) (w3 : (Jvm.Cond.code Lib.objectInit ⟨#[0xb1]⟩ 1 none).before a0 Z = true)
    (hg : g.method = m) (hsize : g.locals.size = c.maxLocals) {a : Addr} {rest : List Value} (hs : g.stack = .ref a :: rest) (hd : decode c.code g.pc = .ok (.invokespecial idx, 3)) (hf : 1 ≤ R.frames) {W : Nat} (hW : 2 * g.monitorRoom + (rest.map fun v => v.category).sum ≤ W) (hl : W + 12 ≤ R.locals)
    (k : ∀ T', Wk p l e R s m args below meth c own Z a0 EL h0 T' h vm cells slots → Gets p e below P (T'.setTop { g with pc := g.pc + 3, stack := rest })) : Gets p e below P (T.setTop g) := by
  obtain ⟨locs, j, Y, eT, hS, hk, hZ, hown, hC, N, hO, hx, r⟩ := X
  obtain ⟨T', Y', e', st⟩ := RoadKit.initO Y hx hZ hown w1 w2 w3 eT hg hsize hs hd hf hW hl
  exact (k T' ⟨locs, j, Y', e', hS, hk, hZ, hown, hC, N, hO, hx, r⟩).via st
theorem Wk.new (X : Wk p l e R s m args below meth c own Z a0 EL h0 T h vm cells slots) {C : String} {index n : Nat} (w : (Jvm.Cond.classLink own index C).before a0 Z = true) (wi : (Jvm.Cond.instantiable C n).before a0 Z = true) (wz : (Jvm.Cond.initialized C).before a0 Z = true)
    (hg : g.method = m) (hd : decode c.code g.pc = .ok (.new index, 3)) (hc : cells + 1 ≤ R.cells) (hl : slots + n ≤ R.slots)
    (k : ∀ T' h' a, Wk p l e R s m args below meth c own Z a0 EL h0 T' h' vm (cells + 1) (slots + n) → CHr Z EL vm h vm h' → Ext h h' → a = h.size → Exa Z h' a C → Safe Z EL vm h' a → (∀ {O nm d : String} {ty : FieldType}, Laid Z a0 C O nm d → parseFieldDescriptor d = some ty → Fld Z h' a O nm d (defaultValue ty)) → Gets p e below P (T'.setTop { g with pc := g.pc + 3, stack := .ref a :: g.stack })) : Gets p e below P (T.setTop g) := by
  obtain ⟨locs, j, Y, eT, hS, hk, hZ, hown, hC, N, hO, hx, r⟩ := X
  obtain ⟨T', h', Y', e', E, A, D, -, st⟩ := RoadKit.newO Y hx hZ hown w wi wz eT hg hd hc hl
  have C1 : CHr Z EL vm h vm h' := CHr.ext E hC.1
  exact (k T' h' h.size ⟨locs, j, Y', e', hS, Nat.le_trans hk E.1, hZ, hown, hC.trans C1, N, hO.ext E, hx, r⟩ C1 E rfl A (Safe.ext E hC.1 (Safe.new (Nat.le_refl _))) D).via st
theorem Wk.newA (X : Wk p l e R s m args below meth c own Z a0 EL h0 T h vm cells slots) {aty : ArrayType} (w : (Jvm.Cond.arrayClass (newarray.typeOf aty)).before a0 Z = true) (hg : g.method = m) (hd : decode c.code g.pc = .ok (.newarray aty, 2)) {n : Int32} {rest : List Value} (hs : g.stack = .int n :: rest)
    (hn : ¬ n < 0) {cap : Nat} (hcap : n.toNatClampNeg ≤ cap) (hb : cap * 8 ≤ 536870912) (hc : cells + 1 ≤ R.cells) (hl : slots + cap ≤ R.slots)
    (k : ∀ T' h' a kc, Wk p l e R s m args below meth c own Z a0 EL h0 T' h' vm (cells + 1) (slots + cap) → CHr Z EL vm h vm h' → Ext h h' → a = h.size → Safe Z EL vm h' a → Arv Z h' a kc (newarray.typeOf aty) n [] (defaultValue (newarray.typeOf aty)) → Gets p e below P (T'.setTop { g with pc := g.pc + 2, stack := .ref a :: rest })) : Gets p e below P (T.setTop g) := by
  obtain ⟨locs, j, Y, eT, hS, hk, hZ, hown, hC, N, hO, hx, r⟩ := X
  obtain ⟨T', h', kc, Y', e', E, A, st⟩ := RoadKit.newP Y hx hZ w eT hg hd hs hn hcap hb hc hl
  have C1 : CHr Z EL vm h vm h' := CHr.ext E hC.1
  exact (k T' h' h.size kc ⟨locs, j, Y', e', hS, Nat.le_trans hk E.1, hZ, hown, hC.trans C1, N, hO.ext E, hx, r⟩ C1 E rfl (Safe.ext E hC.1 (Safe.new (Nat.le_refl _))) (Arv.new A hn)).via st
theorem Wk.putF (X : Wk p l e R s m args below meth c own Z a0 EL h0 T h vm cells slots) {R0 O n d host C : String} {index kk : Nat} {ty : FieldType} (w : (Jvm.Cond.fieldLink own index R0 n d).before a0 Z = true ∨ (Jvm.Cond.fieldLinkNest own index R0 n d host).before a0 Z = true) (via : Via Z R0 O n d)
    {a : Addr} {v old : Value} (F : Fld Z h a O n d old) (E : Exa Z h a C) (L : (Jvm.Cond.lays C O n d).before a0 Z = true ∨ ((Jvm.Cond.laysFinal C O n d).before a0 Z = true ∧ own = O ∧ meth.name = "<init>")) (wi : (Jvm.Cond.instantiable C kk).before a0 Z = true)
    (hty : parseFieldDescriptor d = some ty) (hn : narrow ty v = v) (hf : fits ty v = true) (hge : Z.heap.size ≤ a) (S : Safe Z EL vm h a) (hg : g.method = m) {rest : List Value} (hs : g.stack = v :: .ref a :: rest) (hd : decode c.code g.pc = .ok (.putfield index, 3))
    (k : ∀ T' h', Wk p l e R s m args below meth c own Z a0 EL h0 T' h' vm cells slots → CHr Z EL vm h vm h' → Wr h h' a (RoadKit.slotOf Z O n d) v → Fld Z h' a O n d v → Exa Z h' a C → Gets p e below P (T'.setTop { g with pc := g.pc + 3, stack := rest })) : Gets p e below P (T.setTop g) := by
  obtain ⟨locs, j, Y, eT, hS, hk, hZ, hown, hC, N, hO, hx, r⟩ := X
  obtain ⟨T', h', Y', e', W, st⟩ := RoadKit.putF Y hx hZ hown w via eT F E L wi hty hn hf hg hs hd
  have C1 : CHr Z EL vm h vm h' := CHr.wr W S hC.1
  exact (k T' h' ⟨_, j, Y', e', hS, Nat.le_trans hk (Nat.le_of_eq W.size.symm), hZ, hown, hC.trans C1, Fr.snoc Y' N hge, hO.wr W hge, hx, r⟩ C1 W (F.same W) (E.wr W)).via st
theorem padN {k : ClassId} {ty : FieldType} {z : Int32} {d : Value} {a : Addr} (F : Arv Z h a k ty z [] d) (n : Nat) : Arv Z h a k ty z (List.replicate n d) d := F.pad fun i => by
  rw [List.getD_eq_getElem?_getD, List.getElem?_replicate]; split <;> simp
theorem Wk.stC (X : Wk p l e R s m args below meth c own Z a0 EL h0 T h vm cells slots) {a : Addr} {kc : ClassId} {n : Int32} {vs : List Value} {dv : Value} (A : Arv Z h a kc .char n vs dv) {j x : Int32} {i : Nat} (hj0 : ¬ j < 0) (hj : j.toNatClampNeg = i) (hi : i < vs.length) (hin : i < n.toNatClampNeg) {v : Int32} (hv : nar .char x = v)
    (hge : Z.heap.size ≤ a) (hg : g.method = m) {rest : List Value} (hs : g.stack = .int x :: .int j :: .ref a :: rest) (hd : decode c.code g.pc = .ok (.castore, 1))
    (k : ∀ T' h', Wk p l e R s m args below meth c own Z a0 EL h0 T' h' vm cells slots → CHr Z EL vm h vm h' → Keep h h' [a] → Arv Z h' a kc .char n (vs.set i (.int v)) dv → Gets p e below P (T'.setTop { g with pc := g.pc + 1, stack := rest })) : Gets p e below P (T.setTop g) := by
  obtain ⟨locs, j', Y, eT, hS, hk, hZ, hown, hC, N, hO, hx, r⟩ := X
  obtain ⟨cl, A1, A2, A3, A4, A5, A6⟩ := A
  obtain ⟨T', h', Y', e', W, st⟩ := RoadKit.stC Y hx hZ eT A1 (j := j) (x := x) (fun q => q.elim hj0 (fun q => by rw [A3, hj] at q; omega)) hg hs hd
  have C1 : CHr Z EL vm h vm h' := CHr.wr W (Safe.arr hZ.alike A1 (by decide)) hC.1
  subst hv
  exact (k T' h' ⟨_, j', Y', e', hS, Nat.le_trans hk (Nat.le_of_eq W.size.symm), hZ, hown, hC.trans C1, Fr.snoc Y' N hge, hO.wr W hge, hx, r⟩ C1 (Keep.of_wr W) (Arv.set A1 A2 A3 A4 A5 A6 (fits_nar_char x) W i hj hi)).via st
theorem Wk.stB (X : Wk p l e R s m args below meth c own Z a0 EL h0 T h vm cells slots) {a : Addr} {kc : ClassId} {n : Int32} {vs : List Value} {dv : Value} (A : Arv Z h a kc .byte n vs dv) {j x : Int32} {i : Nat} (hj0 : ¬ j < 0) (hj : j.toNatClampNeg = i) (hi : i < vs.length) (hin : i < n.toNatClampNeg) {v : Int32} (hv : nar .byte x = v) (S : Safe Z EL vm h a)
    (hge : Z.heap.size ≤ a) (hg : g.method = m) {rest : List Value} (hs : g.stack = .int x :: .int j :: .ref a :: rest) (hd : decode c.code g.pc = .ok (.bastore, 1))
    (k : ∀ T' h', Wk p l e R s m args below meth c own Z a0 EL h0 T' h' vm cells slots → CHr Z EL vm h vm h' → Keep h h' [a] → Arv Z h' a kc .byte n (vs.set i (.int v)) dv → Gets p e below P (T'.setTop { g with pc := g.pc + 1, stack := rest })) : Gets p e below P (T.setTop g) := by
  obtain ⟨locs, j', Y, eT, hS, hk, hZ, hown, hC, N, hO, hx, r⟩ := X
  obtain ⟨cl, A1, A2, A3, A4, A5, A6⟩ := A
  obtain ⟨T', h', Y', e', W, st⟩ := RoadKit.stB Y hx hZ eT A1 (j := j) (x := x) (fun q => q.elim hj0 (fun q => by rw [A3, hj] at q; omega)) hg hs hd
  have C1 : CHr Z EL vm h vm h' := CHr.wr W S hC.1
  subst hv
  exact (k T' h' ⟨_, j', Y', e', hS, Nat.le_trans hk (Nat.le_of_eq W.size.symm), hZ, hown, hC.trans C1, Fr.snoc Y' N hge, hO.wr W hge, hx, r⟩ C1 (Keep.of_wr W) (Arv.set A1 A2 A3 A4 A5 A6 (fits_nar_byte x) W i hj hi)).via st
theorem Wk.alen (X : Wk p l e R s m args below meth c own Z a0 EL h0 T h vm cells slots) {a : Addr} {kc : ClassId} {ty : FieldType} {n : Int32} {vs : List Value} {dv : Value} (A : Arv Z h a kc ty n vs dv)
    (hg : g.method = m) {rest : List Value} (hs : g.stack = .ref a :: rest) (hd : decode c.code g.pc = .ok (.arraylength, 1))
    (k : Gets p e below P (T.setTop { g with pc := g.pc + 1, stack := .int n :: rest })) : Gets p e below P (T.setTop g) := by
  obtain ⟨locs, j', Y, eT, hS, hk, hZ, hown, hC, N, hO, hx, r⟩ := X
  obtain ⟨cl, A1, A2, A3, A4, A5, A6⟩ := A
  refine k.via fun u q => ?_
  refine Y.arraylength hx (by rw [eT]; exact A1.1) (State.isArrayOf_alike hZ.alike A1.2.1) hg hs hd _ ?_
  rw [A3, (back32 A4).1]; exact q
theorem Wk.ldC (X : Wk p l e R s m args below meth c own Z a0 EL h0 T h vm cells slots) {a : Addr} {kc : ClassId} {n : Int32} {vs : List Value} {dv v : Value} (A : Arv Z h a kc .char n vs dv) {j : Int32} {i : Nat} (hj0 : ¬ j < 0) (hj : j.toNatClampNeg = i) (hin : i < n.toNatClampNeg) (hv : vs.getD i dv = v)
    (hg : g.method = m) {rest : List Value} (hs : g.stack = .int j :: .ref a :: rest) (hd : decode c.code g.pc = .ok (.caload, 1))
    (k : Gets p e below P (T.setTop { g with pc := g.pc + 1, stack := v :: rest })) : Gets p e below P (T.setTop g) := by
  obtain ⟨locs, j', Y, eT, hS, hk, hZ, hown, hC, N, hO, hx, r⟩ := X
  obtain ⟨cl, A1, A2, A3, A4, A5, A6⟩ := A
  refine k.via fun u q => ?_
  exact Y.caload hx (j := j) (v := v) (by rw [eT]; exact A1.1) (State.isArrayOf_alike hZ.alike A1.2.1) A1.2.2 (fun q => q.elim hj0 (fun q => by rw [A3, hj] at q; omega)) (by rw [hj, A5 i (by rw [A3]; exact hin), hv]) hg hs hd _ q
theorem Wk.ldB (X : Wk p l e R s m args below meth c own Z a0 EL h0 T h vm cells slots) {a : Addr} {kc : ClassId} {n : Int32} {vs : List Value} {dv v : Value} (A : Arv Z h a kc .byte n vs dv) {j : Int32} {i : Nat} (hj0 : ¬ j < 0) (hj : j.toNatClampNeg = i) (hin : i < n.toNatClampNeg) (hv : vs.getD i dv = v)
    (hg : g.method = m) {rest : List Value} (hs : g.stack = .int j :: .ref a :: rest) (hd : decode c.code g.pc = .ok (.baload, 1))
    (k : Gets p e below P (T.setTop { g with pc := g.pc + 1, stack := v :: rest })) : Gets p e below P (T.setTop g) := by
  obtain ⟨locs, j', Y, eT, hS, hk, hZ, hown, hC, N, hO, hx, r⟩ := X
  obtain ⟨cl, A1, A2, A3, A4, A5, A6⟩ := A
  refine k.via fun u q => ?_
  exact Y.baloadBytes hx (j := j) (v := v) (by rw [eT]; exact A1.1) (State.isArrayOf_alike hZ.alike A1.2.1) A1.2.2 (fun q => q.elim hj0 (fun q => by rw [A3, hj] at q; omega)) (by rw [hj, A5 i (by rw [A3]; exact hin), hv]) hg hs hd _ q
theorem Wk.ldR (X : Wk p l e R s m args below meth c own Z a0 EL h0 T h vm cells slots) {a : Addr} {kc : ClassId} {ty : FieldType} {n : Int32} {vs : List Value} {dv v : Value} (A : Arv Z h a kc ty n vs dv) (hty : ty.isReference = true) {j : Int32} {i : Nat} (hj0 : ¬ j < 0) (hj : j.toNatClampNeg = i) (hin : i < n.toNatClampNeg) (hv : vs.getD i dv = v)
    (hg : g.method = m) {rest : List Value} (hs : g.stack = .int j :: .ref a :: rest) (hd : decode c.code g.pc = .ok (.aaload, 1))
    (k : Gets p e below P (T.setTop { g with pc := g.pc + 1, stack := v :: rest })) : Gets p e below P (T.setTop g) := by
  obtain ⟨locs, j', Y, eT, hS, hk, hZ, hown, hC, N, hO, hx, r⟩ := X
  obtain ⟨cl, A1, A2, A3, A4, A5, A6⟩ := A
  refine k.via fun u q => ?_
  exact Y.aaload hx (j := j) (v := v) (by rw [eT]; exact A1.1) (State.isArrayOf_alike hZ.alike A1.2.1) hty A1.2.2 (fun q => q.elim hj0 (fun q => by rw [A3, hj] at q; omega)) (by rw [hj, A5 i (by rw [A3]; exact hin), hv]) hg hs hd _ q
theorem Wk.ldcI (X : Wk p l e R s m args below meth c own Z a0 EL h0 T h vm cells slots) {index : Nat} {v : Int32} (w : (Jvm.Cond.constant own index v).before a0 Z = true) (hg : g.method = m) (hd : decode c.code g.pc = .ok (.ldc index, 2))
    (k : Gets p e below P (T.setTop { g with pc := g.pc + 2, stack := .int v :: g.stack })) : Gets p e below P (T.setTop g) := by
  obtain ⟨locs, j', Y, eT, hS, hk, hZ, hown, hC, N, hO, hx, r⟩ := X
  exact k.via fun u q => Y.ldcI hx hown (mv (s := s.setVm vm) hZ w) hg hd q
theorem Wk.ldcJ (X : Wk p l e R s m args below meth c own Z a0 EL h0 T h vm cells slots) {index : Nat} {v : Int64} (w : (Jvm.Cond.constantLong own index v).before a0 Z = true) (hg : g.method = m) (hd : decode c.code g.pc = .ok (.ldc2_w index, 3))
    (k : Gets p e below P (T.setTop { g with pc := g.pc + 3, stack := .long v :: g.stack })) : Gets p e below P (T.setTop g) := by
  obtain ⟨locs, j', Y, eT, hS, hk, hZ, hown, hC, N, hO, hx, r⟩ := X
  exact k.via fun u q => Y.ldc2J hx hown (mv (s := s.setVm vm) hZ w) hg hd q
theorem Wk.acmpW (X : Wk p l e R s m args below meth c own Z a0 EL h0 T h vm cells slots) (hx : p.tables.exec = Jvm.exec) (hg : g.method = m) {cd : ACond} {x y : Value} (h1 : x.isRef = true) (h2 : y.isRef = true) {rest : List Value} {o : Int} {pc0 pc' : Nat} {same : Bool} (hpc : g.pc = pc0)
    (hd : decode c.code g.pc = .ok (.if_acmp cd o, 3)) (hs : g.stack = y :: x :: rest) (hq : decide (x = y) = same) (ho : 0 ≤ (pc0 : Int) + o) (hp : pc' = if acV cd same = true then ((pc0 : Int) + o).toNat else pc0 + 3)
    (k : Gets p e below P (T.setTop { g with pc := pc', stack := rest })) : Gets p e below P (T.setTop g) := by
  obtain ⟨locs, j', Y, -⟩ := X
  exact k.via fun u q => RoadKit.acmp Y hx hg h1 h2 hpc hd hs hq ho hp q
theorem plainS {K : String} {x y : MethodName} (w : (Jvm.Cond.selects K x y).before a0 Z = true) (hy : y.cls = K) : ∃ t kt, Z.vm.findClass K = some t ∧ Z.vm.classes[t]? = some kt ∧ kt.isInterface = false := by
  obtain ⟨c2, r2, m2, q1, q2, q3, q4, kP, hkP, hkPi⟩ := Cond.selects_spec w
  exact ⟨m2.cls, kP, hy ▸ findClass_of_methodNamed q3, hkP, hkPi⟩
theorem plainI {K : String} {n : Nat} (w : (Jvm.Cond.instantiable K n).before a0 Z = true) : ∃ t kt, Z.vm.findClass K = some t ∧ Z.vm.classes[t]? = some kt ∧ kt.isInterface = false := by
  obtain ⟨c, k, h1, h2, -, h3, -⟩ := Cond.instantiable_spec w
  exact ⟨c, k, h1, h2, by simp at h3; exact h3.1⟩
theorem ns_root {O K : String} (w : (Jvm.Cond.noSuperclass O).before a0 Z = true) (hk : ∃ t kt, Z.vm.findClass K = some t ∧ Z.vm.classes[t]? = some kt ∧ kt.isInterface = false) (hn : O ≠ K) : NS Z O K := by
  obtain ⟨c, k, h1, h2, h3, -, -⟩ := Cond.noSuperclass_spec w
  obtain ⟨t, kt, g1, -⟩ := hk
  have ne := ids_ne h1 g1 hn
  refine ⟨c, t, h1, g1, fun fuel => ?_⟩
  cases fuel with
  | zero => rfl
  | succ f => simp [Vm.isSubclassAux, ne, h2, h3]
theorem ns_no {C S K : String} (w : (Jvm.Cond.superclass C S).before a0 Z = true) (hk : ∃ t kt, Z.vm.findClass K = some t ∧ Z.vm.classes[t]? = some kt ∧ kt.isInterface = false) (n : NS Z C K) (hn : C ≠ K) : ∃ c t, Z.vm.findClass C = some c ∧ Z.vm.findClass K = some t ∧ Z.vm.assignable c t = false := by
  obtain ⟨c, t, h0, g0, n3⟩ := n
  obtain ⟨p, k, kp, h1, h2, h3, h4, h5, -, h7⟩ := Cond.superclass_spec h0 w
  obtain ⟨t', kt, g1, g2, g3⟩ := hk
  cases g0.symm.trans g1
  have ne := ids_ne h0 g0 hn
  refine ⟨c, t, h0, g0, ?_⟩
  show Z.vm.assignableAux (255 + 1) c t = false
  cases hk : kt.kind <;> simp [Vm.assignableAux, ne, h2, g2, h5, hk, g3, Vm.isSubclass, n3]
theorem Wk.instNo (X : Wk p l e R s m args below meth c own Z a0 EL h0 T h vm cells slots) {K C : String} {index : Nat} (w : (Jvm.Cond.classLink own index K).before a0 Z = true) {a : Addr} (E : Exa Z h a C) (F : ∃ c t, Z.vm.findClass C = some c ∧ Z.vm.findClass K = some t ∧ Z.vm.assignable c t = false)
    (hg : g.method = m) {rest : List Value} (hs : g.stack = .ref a :: rest) (hd : decode c.code g.pc = .ok (.instanceof index, 3))
    (k : ∀ T', Wk p l e R s m args below meth c own Z a0 EL h0 T' h vm cells slots → Gets p e below P (T'.setTop { g with pc := g.pc + 3, stack := .int 0 :: rest })) : Gets p e below P (T.setTop g) := by
  obtain ⟨locs, j, Y, eT, hS, hk, hZ, hown, hC, N, hO, hx, r⟩ := X
  obtain ⟨T', Y', e', st⟩ := RoadKit.instNo Y hx hZ hown w eT E F hg hs hd
  exact (k T' ⟨locs, j, Y', e', hS, hk, hZ, hown, hC, N, hO, hx, r⟩).via st
theorem Wk.getC (X : Wk p l e R s m args below meth c own Z a0 EL h0 T h vm cells slots) {C : String} {index : Nat}
    (w1 : (Jvm.Cond.methodLink own index ⟨"java/lang/Object", "getClass", "()Ljava/lang/Class;"⟩).before a0 Z = true) (w2 : (Jvm.Cond.declares ⟨"java/lang/Object", "getClass", "()Ljava/lang/Class;"⟩).before a0 Z = true) (w3 : (Jvm.Cond.noSuperclass "java/lang/Object").before a0 Z = true) (w4 : (Jvm.Cond.selects C ⟨"java/lang/Object", "getClass", "()Ljava/lang/Class;"⟩ ⟨"java/lang/Object", "getClass", "()Ljava/lang/Class;"⟩).before a0 Z = true)
    (w5 : (Jvm.Cond.instanceMethod ⟨"java/lang/Object", "getClass", "()Ljava/lang/Class;"⟩).before a0 Z = true) (w6 : (Jvm.Cond.native ⟨"java/lang/Object", "getClass", "()Ljava/lang/Class;"⟩).before a0 Z = true) {a : Addr} (E : Exa Z h a C) {mr : Addr} (M : Mir Z C mr)
    (hg : g.method = m) (hsize : g.locals.size = c.maxLocals) {rest : List Value} (hs : g.stack = .ref a :: rest) (hd : decode c.code g.pc = .ok (.invokevirtual index, 3)) (hf : 1 ≤ R.frames) {W : Nat} (hW : 2 * g.monitorRoom + (rest.map fun v => v.category).sum ≤ W) (hl : W + (nativeFrameWords "java/lang/Object" "getClass" 1 + 11) ≤ R.locals)
    (k : ∀ T', Wk p l e R s m args below meth c own Z a0 EL h0 T' h vm cells slots → Gets p e below P (T'.setTop { g with pc := g.pc + 3, stack := .ref mr :: rest })) : Gets p e below P (T.setTop g) := by
  obtain ⟨locs, j, Y, eT, hS, hk, hZ, hown, hC, N, hO, hx, r⟩ := X
  obtain ⟨T', Y', e', st⟩ := RoadKit.gcls Y hx hZ hown w1 w2 w3 w4 w5 w6 eT E M hg hsize hs hd hf hW hl
  exact (k T' ⟨locs, j, Y', e', hS, hk, hZ, hown, hC, N, hO, hx, r⟩).via st
theorem mir_eval {C : String} {mr : Addr} (hal : Z.vm.Alike s.vm) (M : Mir Z C mr) : (Term.mirror C).eval args s none [] s = some (.ref mr) := by
  obtain ⟨cc, kc, m1, m2, m3, -⟩ := M
  obtain ⟨k', q1, q2⟩ := hal.2.2 _ _ m2
  have q3 : s.vm.findClass C = some cc := by rw [hal.findClass]; exact m1
  have q4 : k'.mirror = some mr := by rw [q2]; exact m3
  simp [Term.eval, q3, q1, q4]
theorem Wk.ldcM (X : Wk p l e R s m args below meth c own Z a0 EL h0 T h vm cells slots) {C : String} {index : Nat} (w : (Jvm.Cond.classLink own index C).before a0 Z = true) {mr : Addr} (M : Mir Z C mr) (hg : g.method = m) (hd : decode c.code g.pc = .ok (.ldc index, 2))
    (k : ∀ T', Wk p l e R s m args below meth c own Z a0 EL h0 T' h vm cells slots → Gets p e below P (T'.setTop { g with pc := g.pc + 2, stack := .ref mr :: g.stack })) : Gets p e below P (T.setTop g) := by
  obtain ⟨locs, j, Y, eT, hS, hk, hZ, hown, hC, N, hO, hx, r⟩ := X
  obtain ⟨vm', Y', st⟩ := Y.ldcMirror hx hown (mv (s := s.setVm vm) hZ w) (mir_eval (s := s.setVm vm) hZ.alike M) hg hd
  exact (k _ ⟨locs, j, Y', eT, hS, hk, hZ, hown, hC, N, hO, hx, r⟩).via st
theorem Wk.newR (X : Wk p l e R s m args below meth c own Z a0 EL h0 T h vm cells slots) {C : String} {index : Nat} (w1 : (Jvm.Cond.classLink own index C).before a0 Z = true) (w2 : (Jvm.Cond.arrayOver (.object C)).before a0 Z = true) (hg : g.method = m) (hd : decode c.code g.pc = .ok (.anewarray index, 3)) {n : Int32} {rest : List Value} (hs : g.stack = .int n :: rest)
    (hn : ¬ n < 0) {cap : Nat} (hcap : n.toNatClampNeg ≤ cap) (hb : cap * 8 ≤ 536870912) (hc : cells + 1 ≤ R.cells) (hl : slots + cap ≤ R.slots) {ad : String} (had : "[" ++ (FieldType.object C).toString = ad)
    (k : ∀ T' h' a kc, Wk p l e R s m args below meth c own Z a0 EL h0 T' h' vm (cells + 1) (slots + cap) → CHr Z EL vm h vm h' → Ext h h' → a = h.size → Exa Z h' a ad → Ovr Z kc C → Arv Z h' a kc (.object C) n [] .null → Gets p e below P (T'.setTop { g with pc := g.pc + 3, stack := .ref a :: rest })) : Gets p e below P (T.setTop g) := by
  obtain ⟨locs, j, Y, eT, hS, hk, hZ, hown, hC, N, hO, hx, r⟩ := X
  obtain ⟨T', h', kc, Y', e', E, A, Ea, Ov, st⟩ := RoadKit.newRE Y hx hZ hown w1 w2 eT hg hd hs hn hcap hb hc hl had
  have C1 : CHr Z EL vm h vm h' := CHr.ext E hC.1
  exact (k T' h' h.size kc ⟨locs, j, Y', e', hS, Nat.le_trans hk E.1, hZ, hown, hC.trans C1, N, hO.ext E, hx, r⟩ C1 E rfl Ea Ov (Arv.new A hn)).via st
theorem stoV {a y : Addr} {kc : ClassId} {ty : FieldType} {n : Int32} {vs : List Value} {dv : Value} {C : String} (A : Arv Z h a kc ty n vs dv) (O : Ovr Z kc C) (I : Ins Z h y C true) : Sto Z h a (.ref y) := by
  obtain ⟨cl, A1, A2, -⟩ := A; exact Sto.ofV A1 A2 O I
theorem Wk.stR (X : Wk p l e R s m args below meth c own Z a0 EL h0 T h vm cells slots) {a : Addr} {kc : ClassId} {C : String} {n : Int32} {vs : List Value} {dv : Value} (A : Arv Z h a kc (.object C) n vs dv) {v : Value} (F : Sto Z h a v) (hvr : fits (.object C) v = true) {j : Int32} {i : Nat} (hj0 : ¬ j < 0) (hj : j.toNatClampNeg = i) (hi : i < vs.length) (hin : i < n.toNatClampNeg)
    (hge : Z.heap.size ≤ a) (hg : g.method = m) {rest : List Value} (hs : g.stack = v :: .int j :: .ref a :: rest) (hd : decode c.code g.pc = .ok (.aastore, 1))
    (k : ∀ T' h', Wk p l e R s m args below meth c own Z a0 EL h0 T' h' vm cells slots → CHr Z EL vm h vm h' → Keep h h' [a] → Arv Z h' a kc (.object C) n (vs.set i v) dv → Gets p e below P (T'.setTop { g with pc := g.pc + 1, stack := rest })) : Gets p e below P (T.setTop g) := by
  obtain ⟨locs, j', Y, eT, hS, hk, hZ, hown, hC, N, hO, hx, r⟩ := X
  obtain ⟨cl, A1, A2, A3, A4, A5, A6⟩ := A
  obtain ⟨T', h', Y', e', W, st⟩ := RoadKit.stR Y hx hZ eT A1 (j := j) (fun q => q.elim hj0 (fun q => by rw [A3, hj] at q; omega)) rfl F hg hs hd
  have C1 : CHr Z EL vm h vm h' := CHr.wr W (Safe.arr hZ.alike A1 (by simp)) hC.1
  exact (k T' h' ⟨_, j', Y', e', hS, Nat.le_trans hk (Nat.le_of_eq W.size.symm), hZ, hown, hC.trans C1, Fr.snoc Y' N hge, hO.wr W hge, hx, r⟩ C1 (Keep.of_wr W) (Arv.set A1 A2 A3 A4 A5 A6 hvr W i hj hi)).via st
theorem Wk.copy (X : Wk p l e R s m args below meth c own Z a0 EL h0 T h vm cells slots) {index : Nat}
    (w1 : (Jvm.Cond.methodLink own index Jvm.Stand.acN).before a0 Z = true) (w2 : (Jvm.Cond.native Jvm.Stand.acN).before a0 Z = true) (w3 : (Jvm.Cond.static Jvm.Stand.acN).before a0 Z = true) (w4 : (Jvm.Cond.initialized "java/lang/System").before a0 Z = true)
    {a b : Addr} {k k' : ClassId} {ty ty' : FieldType} {z z' sp dp nn : Int32} {vs vd us : List Value} {dv dd : Value} (A : Arv Z h a k ty z vs dv) (B : Arv Z h b k' ty' z' vd dd) (hty : (ty = ty' ∧ refKind ty = false) ∨ (refKind ty = true ∧ refKind ty' = true ∧ StoL Z h b us))
    (h1 : ¬ sp < 0) (h2 : ¬ dp < 0) (h3 : ¬ nn < 0) (h4 : sp.toNatClampNeg + nn.toNatClampNeg ≤ z.toNatClampNeg) (h5 : dp.toNatClampNeg + nn.toNatClampNeg ≤ z'.toNatClampNeg)
    (hus : us = (List.range nn.toNatClampNeg).map fun i => vs.getD (sp.toNatClampNeg + i) dv) (hl : dp.toNatClampNeg + nn.toNatClampNeg ≤ vd.length) (ge : Z.heap.size ≤ b) (S : Safe Z EL vm h b)
    (hg : g.method = m) (hsize : g.locals.size = c.maxLocals) {rest : List Value} (hs : g.stack = .int nn :: .int dp :: .ref b :: .int sp :: .ref a :: rest) (hd : decode c.code g.pc = .ok (.invokestatic index, 3))
    (hf : 1 ≤ R.frames) {W : Nat} (hW : 2 * g.monitorRoom + (rest.map fun v => v.category).sum ≤ W) (hlo : W + (nativeFrameWords "java/lang/System" "arraycopy" 5 + 11) ≤ R.locals)
    (kk : ∀ T' h', Wk p l e R s m args below meth c own Z a0 EL h0 T' h' vm cells slots → CHr Z EL vm h vm h' → Keep h h' [b] → Arv Z h' b k' ty' z' (vd.take dp.toNatClampNeg ++ us ++ vd.drop (dp.toNatClampNeg + nn.toNatClampNeg)) dd → Gets p e below P (T'.setTop { g with pc := g.pc + 3, stack := rest })) : Gets p e below P (T.setTop g) := by
  obtain ⟨locs, j, Y, eT, hS, hk, hZ, hown, hC, N, hO, hx, r⟩ := X
  obtain ⟨T', h', L, Y', e', N', K, B', st⟩ := RoadKit.cpA Y hx hZ hown w1 w2 w3 w4 eT A B hty h1 h2 h3 h4 h5 hus hl N ge hg hsize hs hd hf hW hlo
  have C1 : CHr Z EL vm h vm h' := CHr.keep K (sfS S sf0) hC.1
  exact (kk T' h' ⟨L, j, Y', e', hS, Nat.le_trans hk K.1, hZ, hown, hC.trans C1, N', hO.keep K (allS ge all0), hx, r⟩ C1 K B').via st
/-- ldc of a String constant, what it holds not asked -/
theorem Wk.ldcO (X : Wk p l e R s m args below meth c own Z a0 EL h0 T h vm cells slots) {text : String} {index : Nat} (w : (Jvm.Cond.stringLink own index text).before a0 Z = true) (wS : ∀ a ∈ Bundle.stringAtoms, a.before a0 Z = true)
    (hg : g.method = m) (hd : decode c.code g.pc = .ok (.ldc index, 2)) {n : Nat} (hn : 4 * text.toList.length ≤ n) (hbig : n ≤ 536870912) (hc : cells + 2 ≤ R.cells) (hl : slots + (n + 4) ≤ R.slots)
    (k : ∀ T' h' vm' a, Wk p l e R s m args below meth c own Z a0 EL h0 T' h' vm' (cells + 2) (slots + (n + 4)) → CHr Z EL vm h vm' h' → Ext h h' → Gets p e below P (T'.setTop { g with pc := g.pc + 2, stack := .ref a :: g.stack })) : Gets p e below P (T.setTop g) := by
  obtain ⟨locs, j, Y, eT, hS, hk, hZ, hown, hC, N, hO, hx, hEL, r⟩ := X
  obtain ⟨a, T', h', k1, Y', e', E, hS', hk', hZ', hown', C1, -, st⟩ := RoadKit.ldcOH Y hx hZ hown w wS eT hS hk hEL hC.1 hg hd hn hbig hc hl
  exact (k T' h' T'.vm a ⟨locs, k1, Y', e', hS', hk', hZ', hown', hC.trans C1, N, hO.ext E, hx, hEL, r⟩ C1 E).via st
/-- ldc of a String constant that is read -/
theorem Wk.ldcC (X : Wk p l e R s m args below meth c own Z a0 EL h0 T h vm cells slots) {text : String} {index : Nat} (w : (Jvm.Cond.stringLink own index text).before a0 Z = true) (wS : ∀ a ∈ Bundle.stringAtoms, a.before a0 Z = true) (hmem : (own, index) ∈ EL)
    {vs : List Value} {z : Int32} (ht : (∀ c ∈ text.toList, c.toNat < 256) ∧ text.toList.map (fun c => Value.int (Jvm.Lit.byteI c.toNat.toUInt16)) = vs) (hz : ¬ z < 0) (hvl : z.toNatClampNeg = vs.length)
    (hg : g.method = m) (hd : decode c.code g.pc = .ok (.ldc index, 2)) {n : Nat} (hn : 4 * text.toList.length ≤ n) (hbig : n ≤ 536870912) (hc : cells + 2 ≤ R.cells) (hl : slots + (n + 4) ≤ R.slots)
    (k : ∀ T' h' vm' a b kb, Wk p l e R s m args below meth c own Z a0 EL h0 T' h' vm' (cells + 2) (slots + (n + 4)) → CHr Z EL vm h vm' h' → Ext h h' → Exa Z h' a "java/lang/String" → Fld Z h' a "java/lang/String" "coder" "B" (.int 0) → Fld Z h' a "java/lang/String" "value" "[B" (.ref b) → Arv Z h' b kb .byte z vs (.int 0) → (∀ x, Safe Z EL vm' h' x → x ≠ a ∧ x ≠ b) → Gets p e below P (T'.setTop { g with pc := g.pc + 2, stack := .ref a :: g.stack })) : Gets p e below P (T.setTop g) := by
  obtain ⟨locs, j, Y, eT, hS, hk, hZ, hown, hC, N, hO, hx, hEL, r⟩ := X
  obtain ⟨a, T', h', k1, b, kb, Y', e', E, hS', hk', hZ', hown', q1, q2, q3, q4, -, -, C1, -, q5, st⟩ := RoadKit.ldcCH Y hx hZ hown w wS eT hS hk hEL hmem hC.1 ht hz hvl hg hd hn hbig hc hl
  exact (k T' h' T'.vm a b kb ⟨locs, k1, Y', e', hS', hk', hZ', hown', hC.trans C1, N, hO.ext E, hx, hEL, r⟩ C1 E q1 q2 q3 q4 q5).via st
/-- who pays a call, in one shape -/
def Pay (l : Launch) (R : Room) (p : Program) (e : Env) (below : List Frame) (s : State) (args : Array Value) (y : MethodName) (len W : Nat) (Z : State) (EL : List (String × Nat)) (vm : Vm) (h : Heap) (as : Array Value) (rc rs : Nat) (Q : Option Value → Vm → Heap → Prop) : Prop :=
  BackS l R p e below (s.setVm vm) args y len W (fun A a => a = as ∧ A.U.heap = h ∧ A.cells + rc ≤ R.cells ∧ A.slots + rs ≤ R.slots)
    (fun A _ v B => ∃ L, (Q v B.U.vm B.U.heap ∧ Fr Z.heap.size L ∧ Old Z Z.heap.size B.U.heap) ∧ B.locs = A.locs ++ L ∧ B.cells = A.cells + rc ∧ B.slots = A.slots + rs ∧ CHr Z EL vm h B.U.vm B.U.heap)
theorem safe_later {x : Addr} (C : CHr Z EL vm h vm' h) (S : Safe Z EL vm h x) : Safe Z EL vm' h x := by
  by_cases q : x < h.size
  · exact C.safe q S
  · exact Safe.new (Nat.not_lt.mp q)
theorem Wk.payM (X : Wk p l e R s m args below meth c own Z a0 EL h0 T h vm cells slots) {y : MethodName} {bytes : ByteArray} {maxL : Nat} {ret : Option FieldType} {rm : Room} {sf : List Addr} {as : Array Value} {Q : Option Value → Vm → Heap → Prop} {len W : Nat} (M : Met l Z EL y bytes maxL ret [] rm sf as h Q) (hsf : ∀ x ∈ sf, Safe Z EL vm h x)
    (wc : (Jvm.Cond.code y bytes maxL ret).before a0 Z = true) (wz : (Jvm.Cond.initialized y.cls).before a0 Z = true) (hf : rm.frames + 1 ≤ R.frames := by decide) (hl : W + (maxL + 11) + rm.locals ≤ R.locals := by decide) : Pay l R p e below s args y len W Z EL vm h as rm.cells rm.slots Q := by
  have hZ := X.hZ
  have hEL := X.ew
  have H := X.chv
  exact BackS.of_freeW (bytes := bytes) (maxL := maxL) (ret := ret) (E := fun _ first o t L k n => k = rm.cells ∧ n = rm.slots ∧ (∃ v, o = .returned v ∧ (Q v t.vm t.heap ∧ Fr Z.heap.size L ∧ Old Z Z.heap.size t.heap)) ∧ CHr Z EL first.vm first.heap t.vm t.heap) M hf hl
    (fun m meth c A a Y hp => have hU : Z.Warmed39 A.U.vm := wtrans (s := s.setVm vm) hZ Y.warmed
      ⟨by show (Jvm.Cond.and _ .tt).before a A.U = true; rw [Cond.before_and, mv hU wc]; rfl, mv hU wc, mv hU wz, hp.2.2.1, hp.2.2.2⟩)
    (fun m meth c A a g mk Y hp => ⟨hp.1, wtrans (s := s.setVm vm) hZ Y.warmed, hp.2.1, (CHv.at Y hZ hEL H).1, fun x hx => safe_later (vm' := A.U.vm) (CHv.at Y hZ hEL H) (hsf x hx)⟩) (fun _ _ _ _ _ _ _ _ _ => trivial)
    (fun _ _ _ _ ⟨v, L, h1, h2, h3, h4⟩ => ⟨L, _, _, h4, rfl, rfl, ⟨v, h1, h2⟩, h3⟩)
    (fun m meth c A a g mk v t L k n Y hp _ _ ⟨e1, e2, ⟨v', e3, e4⟩, e5⟩ => by
      cases e3; subst e1 e2
      refine ⟨L, e4, rfl, rfl, rfl, (CHv.at Y hZ hEL H).trans ?_⟩
      rw [← hp.2.1]; exact e5)
/-- a narrow payer of the library's -/
theorem Wk.payN (X : Wk p l e R s m args below meth c own Z a0 EL h0 T h vm cells slots) {y : MethodName} {as : Array Value} {rc rs : Nat} {Qn : Option Value → Heap → List Loc → Prop} {Q : Option Value → Heap → Prop} {len W : Nat} {ws : List Addr}
    (hK : Back l R p e below (s.setVm vm) args y len W (fun A a => a = as ∧ A.U.heap = h ∧ A.cells + rc ≤ R.cells ∧ A.slots + rs ≤ R.slots) (fun A _ v B => ∃ L, Qn v B.U.heap L ∧ B.locs = A.locs ++ L ∧ B.cells = A.cells + rc ∧ B.slots = A.slots + rs))
    (hq : ∀ v u L, Qn v u L → Fr Z.heap.size L ∧ Keep h u ws ∧ Q v u) (hws : ∀ x ∈ ws, Z.heap.size ≤ x) (hsafe : ∀ x ∈ ws, Safe Z EL vm h x) : Pay l R p e below s args y len W Z EL vm h as rc rs (fun v _ u => Q v u) := by
  intro m' meth' c' A g' ig mk a Y hg hsize hd hW hn hpre
  obtain ⟨v, B, Y', ⟨L, q1, q2, q3, q4⟩, hsteps⟩ := hK m' meth' c' A g' ig mk a Y hg hsize hd hW hn hpre
  obtain ⟨N, K, q5⟩ := hq _ _ _ q1
  have C1 : CHr Z EL vm h vm B.U.heap := CHr.keep K hsafe X.chv
  have C2 := CHv.at Y' X.hZ X.ew C1.1
  exact ⟨v, B, Y'.retabled Y'.warmed.wide, Y'.warmed.since _, by rw [hpre.2.1]; exact K.1, ⟨L, ⟨q5, N, X.old.keep K hws⟩, q2, q3, q4, C1.trans C2⟩, hsteps⟩
theorem Wk.after (X : Wk p l e R s m args below meth c own Z a0 EL h0 T h vm cells slots) {locs : List Loc} {j : Nat} (hS : s.Since vm j) (hk : j ≤ h.size) (hC : CHr Z EL s.vm h0 vm h) (N : Fr Z.heap.size locs) (hO : Old Z Z.heap.size h) (hown : vm.findClass own = some m.cls)
    {B : Pt} {L : List Loc} {rc rs : Nat} (Y : Stand p l e R ((s.setVm vm).setVm B.U.vm) m args below meth c B.U B.locs B.cells B.slots) (S : (s.setVm vm).Since B.U.vm B.U.heap.size) (hgr : h.size ≤ B.U.heap.size) (q2 : B.locs = locs ++ L) (q3 : B.cells = cells + rc) (q4 : B.slots = slots + rs) (NL : Fr Z.heap.size L) (OL : Old Z Z.heap.size B.U.heap) (C1 : CHr Z EL vm h B.U.vm B.U.heap) :
    Wk p l e R s m args below meth c own Z a0 EL h0 B.U B.U.heap B.U.vm (cells + rc) (slots + rs) := by
  refine ⟨locs ++ L, B.U.heap.size, ?_, rfl, hS.trans S (Nat.le_trans hk hgr), Nat.le_refl _, State.Warmed39.trans (t := s.setVm vm) X.hZ S.1, ?_, hC.trans C1, N.app NL, OL, X.hx, X.ew, ?_⟩
  · rw [← q2, ← q3, ← q4]; exact Y
  · rw [S.1.alike.findClass]; exact hown
  · obtain ⟨_, _, -, -, -, -, -, -, -, -, -, -, -, r⟩ := X; exact r
theorem Wk.callS (X : Wk p l e R s m args below meth c own Z a0 EL h0 T h vm cells slots) {index : Nat} {y : MethodName} {bytes : ByteArray} {maxL : Nat} {ret : Option FieldType} (w1 : (Jvm.Cond.methodLink own index y).before a0 Z = true) (w2 : (Jvm.Cond.static y).before a0 Z = true) (w3 : (Jvm.Cond.initialized y.cls).before a0 Z = true) (w4 : (Jvm.Cond.code y bytes maxL ret).before a0 Z = true)
    (hy : y.cls ≠ "java/lang/invoke/MethodHandle" ∧ y.cls ≠ "java/lang/invoke/VarHandle") {W rc rs : Nat} {as : Array Value} {Q : Option Value → Vm → Heap → Prop} (hK : Pay l R p e below s args y 3 W Z EL vm h as rc rs Q)
    (hg : g.method = m) (hsize : g.locals.size = c.maxLocals) {argsL rest : List Value} (hlen : ∀ sig, parseMethodDescriptor y.desc = some sig → argsL.length = sig.parameters.length) (hstack : g.stack = argsL.reverse ++ rest) (has : argsL.toArray = as) (hW : 2 * g.monitorRoom + (rest.map fun v => v.category).sum ≤ W)
    (hdg : decode c.code g.pc = .ok (.invokestatic index, 3)) (hc : cells + rc ≤ R.cells) (hs : slots + rs ≤ R.slots)
    (k : ∀ T' h' vm' v, Wk p l e R s m args below meth c own Z a0 EL h0 T' h' vm' (cells + rc) (slots + rs) → CHr Z EL vm h vm' h' → h.size ≤ h'.size → Q v vm' h' → Gets p e below P (T'.setTop { g with pc := g.pc + 3, stack := v.toList ++ rest })) : Gets p e below P (T.setTop g) := by
  have X' := X
  obtain ⟨locs, j, Y, eT, hS, hk, hZ, hown, hC, N, hO, hx, r⟩ := X
  obtain ⟨v, vm₁, B, hW1, Y', S, hgr, ⟨L, ⟨q1, NL, OL⟩, q2, q3, q4, C1⟩, st⟩ := RoadKit.callSS Y hx hown (mv (s := s.setVm vm) hZ w1) (mv (s := s.setVm vm) hZ w2) (mv (s := s.setVm vm) hZ w3) (mv (s := s.setVm vm) hZ w4) hy hK hg hsize hlen hstack hW hdg (fun vm₁ _ => ⟨has, eT, hc, hs⟩)
  exact (k B.U B.U.heap B.U.vm v (X'.after hS hk hC N hO hown Y' S (eT ▸ hgr) q2 q3 q4 NL OL C1) C1 (eT ▸ hgr) q1).steps st
theorem Wk.callI (X : Wk p l e R s m args below meth c own Z a0 EL h0 T h vm cells slots) {index : Nat} {y : MethodName} {bytes : ByteArray} {maxL : Nat} (hy1 : y.name = "<init>") (w1 : (Jvm.Cond.methodLink own index y).before a0 Z = true) (w2 : (Jvm.Cond.instanceMethod y).before a0 Z = true) (w4 : (Jvm.Cond.code y bytes maxL none).before a0 Z = true)
    (hy : y.cls ≠ "java/lang/invoke/MethodHandle" ∧ y.cls ≠ "java/lang/invoke/VarHandle") {W rc rs : Nat} {as : Array Value} {Q : Option Value → Vm → Heap → Prop} (hK : Pay l R p e below s args y 3 W Z EL vm h as rc rs Q)
    (hg : g.method = m) (hsize : g.locals.size = c.maxLocals) {a : Addr} {argsL rest : List Value} (hlen : ∀ sig, parseMethodDescriptor y.desc = some sig → argsL.length = sig.parameters.length) (hstack : g.stack = argsL.reverse ++ .ref a :: rest) (has : (Value.ref a :: argsL).toArray = as) (hW : 2 * g.monitorRoom + (rest.map fun v => v.category).sum ≤ W)
    (hdg : decode c.code g.pc = .ok (.invokespecial index, 3)) (hc : cells + rc ≤ R.cells) (hs : slots + rs ≤ R.slots)
    (k : ∀ T' h' vm' v, Wk p l e R s m args below meth c own Z a0 EL h0 T' h' vm' (cells + rc) (slots + rs) → CHr Z EL vm h vm' h' → h.size ≤ h'.size → Q v vm' h' → Gets p e below P (T'.setTop { g with pc := g.pc + 3, stack := v.toList ++ rest })) : Gets p e below P (T.setTop g) := by
  have X' := X
  obtain ⟨locs, j, Y, eT, hS, hk, hZ, hown, hC, N, hO, hx, r⟩ := X
  obtain ⟨v, vm₁, B, hW1, Y', S, hgr, ⟨L, ⟨q1, NL, OL⟩, q2, q3, q4, C1⟩, st⟩ := Y.specialBackS hx hy1 hown (mv (s := s.setVm vm) hZ w1) (mv (s := s.setVm vm) hZ w2) (mv (s := s.setVm vm) hZ w4) hy hK hg hsize (Steps.refl _) hlen hstack hW hdg (fun vm₁ _ => ⟨has, eT, hc, hs⟩)
  exact (k B.U B.U.heap B.U.vm v (X'.after hS hk hC N hO hown Y' S (eT ▸ hgr) q2 q3 q4 NL OL C1) C1 (eT ▸ hgr) q1).steps st
theorem Wk.callIN (X : Wk p l e R s m args below meth c own Z a0 EL h0 T h vm cells slots) {index : Nat} {host : String} {y : MethodName} {bytes : ByteArray} {maxL : Nat} (hy1 : y.name = "<init>") (w1 : (Jvm.Cond.methodLinkNest own index y host).before a0 Z = true) (w2 : (Jvm.Cond.instanceMethod y).before a0 Z = true) (w4 : (Jvm.Cond.code y bytes maxL none).before a0 Z = true)
    (hy : y.cls ≠ "java/lang/invoke/MethodHandle" ∧ y.cls ≠ "java/lang/invoke/VarHandle") {W rc rs : Nat} {as : Array Value} {Q : Option Value → Vm → Heap → Prop} (hK : Pay l R p e below s args y 3 W Z EL vm h as rc rs Q)
    (hg : g.method = m) (hsize : g.locals.size = c.maxLocals) {a : Addr} {argsL rest : List Value} (hlen : ∀ sig, parseMethodDescriptor y.desc = some sig → argsL.length = sig.parameters.length) (hstack : g.stack = argsL.reverse ++ .ref a :: rest) (has : (Value.ref a :: argsL).toArray = as) (hW : 2 * g.monitorRoom + (rest.map fun v => v.category).sum ≤ W)
    (hdg : decode c.code g.pc = .ok (.invokespecial index, 3)) (hc : cells + rc ≤ R.cells) (hs : slots + rs ≤ R.slots)
    (k : ∀ T' h' vm' v, Wk p l e R s m args below meth c own Z a0 EL h0 T' h' vm' (cells + rc) (slots + rs) → CHr Z EL vm h vm' h' → h.size ≤ h'.size → Q v vm' h' → Gets p e below P (T'.setTop { g with pc := g.pc + 3, stack := v.toList ++ rest })) : Gets p e below P (T.setTop g) := by
  have X' := X
  obtain ⟨locs, j, Y, eT, hS, hk, hZ, hown, hC, N, hO, hx, r⟩ := X
  obtain ⟨v, vm₁, B, hW1, Y', S, hgr, ⟨L, ⟨q1, NL, OL⟩, q2, q3, q4, C1⟩, st⟩ := Y.specialBackNestS hx hy1 hown (Cond.methodLinkNest_wide (s := Z) hZ w1 :) (mv (s := s.setVm vm) hZ w2) (mv (s := s.setVm vm) hZ w4) hy hK hg hsize (Steps.refl _) hlen hstack hW hdg (fun vm₁ _ => ⟨has, eT, hc, hs⟩)
  exact (k B.U B.U.heap B.U.vm v (X'.after hS hk hC N hO hown Y' S (eT ▸ hgr) q2 q3 q4 NL OL C1) C1 (eT ▸ hgr) q1).steps st
theorem Wk.callV (X : Wk p l e R s m args below meth c own Z a0 EL h0 T h vm cells slots) {C : String} {index : Nat} {y z : MethodName} (w1 : (Jvm.Cond.methodLink own index y).before a0 Z = true) (w2 : (Jvm.Cond.declares y).before a0 Z = true) (w3 : (Jvm.Cond.selects C y z).before a0 Z = true) (w4 : (Jvm.Cond.instanceMethod z).before a0 Z = true)
    (hnf : ∀ s' : State, Z.Warmed39 s'.vm → NotFace s' y)
    (hy : y.cls ≠ "java/lang/invoke/MethodHandle" ∧ y.cls ≠ "java/lang/invoke/VarHandle") {W rc rs : Nat} {as : Array Value} {Q : Option Value → Vm → Heap → Prop} (hK : Pay l R p e below s args z 3 W Z EL vm h as rc rs Q) {b : Addr} (E : Exa Z h b C)
    (hg : g.method = m) (hsize : g.locals.size = c.maxLocals) {argsL rest : List Value} (hlen : ∀ sig, parseMethodDescriptor y.desc = some sig → argsL.length = sig.parameters.length) (hstack : g.stack = argsL.reverse ++ .ref b :: rest) (has : (Value.ref b :: argsL).toArray = as) (hW : 2 * g.monitorRoom + (rest.map fun v => v.category).sum ≤ W)
    (hdg : decode c.code g.pc = .ok (.invokevirtual index, 3)) (hc : cells + rc ≤ R.cells) (hs : slots + rs ≤ R.slots)
    (k : ∀ T' h' vm' v, Wk p l e R s m args below meth c own Z a0 EL h0 T' h' vm' (cells + rc) (slots + rs) → CHr Z EL vm h vm' h' → h.size ≤ h'.size → Q v vm' h' → Gets p e below P (T'.setTop { g with pc := g.pc + 3, stack := v.toList ++ rest })) : Gets p e below P (T.setTop g) := by
  have X' := X
  obtain ⟨locs, j, Y, eT, hS, hk, hZ, hown, hC, N, hO, hx, r⟩ := X
  obtain ⟨cq, kq, qa, qb, qc⟩ := RoadKit.isOf (s := s.setVm vm) hZ eT E
  obtain ⟨v, vm₁, B, hW1, Y', S, hgr, ⟨L, ⟨q1, NL, OL⟩, q2, q3, q4, C1⟩, st⟩ := Y.virtualBackS hx hown (mv (s := s.setVm vm) hZ w1) (mv (s := s.setVm vm) hZ w2) (hnf (s.setVm vm) hZ) (mv (s := s.setVm vm) hZ w3) (mv (s := s.setVm vm) hZ w4) hy hK qa qc hg hsize (Steps.refl _) hlen hstack hW hdg (fun vm₁ _ => ⟨has, eT, hc, hs⟩)
  exact (k B.U B.U.heap B.U.vm v (X'.after hS hk hC N hO hown Y' S (eT ▸ hgr) q2 q3 q4 NL OL C1) C1 (eT ▸ hgr) q1).steps st
theorem same_self {y y' : MethodName} {C : String} (w3 : (Jvm.Cond.instanceMethod y).before a0 Z = true) (ws : (Jvm.Cond.selects C y' y').before a0 Z = true) (hc : y.cls = y'.cls) (hy : y.cls ≠ "java/lang/invoke/MethodHandle" ∧ y.cls ≠ "java/lang/invoke/VarHandle") : (Jvm.Cond.sameMethod y.cls y.cls y.name y.desc).before a0 Z = true := by
  obtain ⟨mk, methM, hnamed, hmethM, -, -⟩ := Cond.instanceMethod_spec w3
  obtain ⟨c2, r2, m2, q1, q2, q3, q4, kP, hkP, hkPi⟩ := Cond.selects_spec ws
  have hcn := findClass_of_methodNamed hnamed
  have hf := State.methodFound?_of_named hnamed hy
  have e2 := findClass_of_methodNamed q3
  rw [← hc, hcn] at e2
  have e3 : mk.cls = m2.cls := Option.some.inj e2
  have hn' : Z.methodNamed? ⟨y.cls, y.name, y.desc⟩ = some mk := hnamed
  simp only [Cond.before, Cond.holds, Cond.value, hcn, hf, hn', e3, hkP]
  simp [hkPi]
theorem Wk.callU (X : Wk p l e R s m args below meth c own Z a0 EL h0 T h vm cells slots) {K : String} {index : Nat} {y : MethodName} {bytes : ByteArray} {maxL : Nat} {ret : Option FieldType} (hn : y.name ≠ "<init>") (w1 : (Jvm.Cond.methodLink own index y).before a0 Z = true) (w2 : (Jvm.Cond.sameMethod y.cls y.cls y.name y.desc).before a0 Z = true) (w3 : (Jvm.Cond.instanceMethod y).before a0 Z = true) (w4 : (Jvm.Cond.superclass own y.cls).before a0 Z = true) (wc : (Jvm.Cond.code y bytes maxL ret).before a0 Z = true)
    {W rc rs : Nat} {as : Array Value} {Q : Option Value → Vm → Heap → Prop} (hK : Pay l R p e below s args y 3 W Z EL vm h as rc rs Q) {b : Addr} (E : Exa Z h b K)
    (hg : g.method = m) (hsize : g.locals.size = c.maxLocals) {argsL rest : List Value} (hlen : ∀ sig, parseMethodDescriptor y.desc = some sig → argsL.length = sig.parameters.length) (hstack : g.stack = argsL.reverse ++ .ref b :: rest) (has : (Value.ref b :: argsL).toArray = as) (hW : 2 * g.monitorRoom + (rest.map fun v => v.category).sum ≤ W)
    (hdg : decode c.code g.pc = .ok (.invokespecial index, 3)) (hc : cells + rc ≤ R.cells) (hs : slots + rs ≤ R.slots)
    (k : ∀ T' h' vm' v, Wk p l e R s m args below meth c own Z a0 EL h0 T' h' vm' (cells + rc) (slots + rs) → CHr Z EL vm h vm' h' → h.size ≤ h'.size → Q v vm' h' → Gets p e below P (T'.setTop { g with pc := g.pc + 3, stack := v.toList ++ rest })) : Gets p e below P (T.setTop g) := by
  have X' := X
  obtain ⟨locs, j, Y, eT, hS, hk, hZ, hown, hC, N, hO, hx, r⟩ := X
  obtain ⟨v, vm₁, B, hW1, Y', S, hgr, ⟨L, ⟨q1, NL, OL⟩, q2, q3, q4, C1⟩, st⟩ := RoadKit.superBackS Y hx (s := s.setVm vm) hZ hown w1 w2 w3 w4 hn hK eT (Ins.self E) hg hsize wc hlen hstack hW hdg (fun vm₁ _ => ⟨has, eT, hc, hs⟩)
  exact (k B.U B.U.heap B.U.vm v (X'.after hS hk hC N hO hown Y' S (eT ▸ hgr) q2 q3 q4 NL OL C1) C1 (eT ▸ hgr) q1).steps st
theorem Wk.callP (X : Wk p l e R s m args below meth c own Z a0 EL h0 T h vm cells slots) {C C2 : String} {index : Nat} {y : MethodName} {bytes : ByteArray} {maxL : Nat} {ret : Option FieldType} (w1 : (Jvm.Cond.methodLink own index y).before a0 Z = true) (w2 : (Jvm.Cond.instanceMethod y).before a0 Z = true) (w3 : (Jvm.Cond.selects C2 y y).before a0 Z = true) (w4 : (Jvm.Cond.privateMethod y).before a0 Z = true) (w5 : (Jvm.Cond.code y bytes maxL ret).before a0 Z = true)
    (hy : y.cls ≠ "java/lang/invoke/MethodHandle" ∧ y.cls ≠ "java/lang/invoke/VarHandle") {W rc rs : Nat} {as : Array Value} {Q : Option Value → Vm → Heap → Prop} (hK : Pay l R p e below s args y 3 W Z EL vm h as rc rs Q) {b : Addr} (E : Exa Z h b C)
    (hg : g.method = m) (hsize : g.locals.size = c.maxLocals) {argsL rest : List Value} (hlen : ∀ sig, parseMethodDescriptor y.desc = some sig → argsL.length = sig.parameters.length) (hstack : g.stack = argsL.reverse ++ .ref b :: rest) (has : (Value.ref b :: argsL).toArray = as) (hW : 2 * g.monitorRoom + (rest.map fun v => v.category).sum ≤ W)
    (hdg : decode c.code g.pc = .ok (.invokevirtual index, 3)) (hc : cells + rc ≤ R.cells) (hs : slots + rs ≤ R.slots)
    (k : ∀ T' h' vm' v, Wk p l e R s m args below meth c own Z a0 EL h0 T' h' vm' (cells + rc) (slots + rs) → CHr Z EL vm h vm' h' → h.size ≤ h'.size → Q v vm' h' → Gets p e below P (T'.setTop { g with pc := g.pc + 3, stack := v.toList ++ rest })) : Gets p e below P (T.setTop g) := by
  have X' := X
  obtain ⟨locs, j, Y, eT, hS, hk, hZ, hown, hC, N, hO, hx, r⟩ := X
  obtain ⟨cell, hcell, hobj⟩ := Exa.cell E
  obtain ⟨c2, r2, m2, u1, u2, u3, u4, kP, hkP, hkPi⟩ := Cond.selects_spec (mv (s := s.setVm vm) (args := args) hZ w3)
  have hsel := Jvm.Stand.selects_self_of_private (findClass_of_methodNamed u3) hkP hkPi (Cond.privateMethod_at (mvP (s := s.setVm vm) hZ w4 (args := #[]))) (mv (s := s.setVm vm) (args := args) hZ w2) hy
  obtain ⟨v, vm₁, B, hW1, Y', S, hgr, ⟨L, ⟨q1, NL, OL⟩, q2, q3, q4, C1⟩, st⟩ := Y.privateBackS hx hown (mv (s := s.setVm vm) hZ w1) (mv (s := s.setVm vm) hZ w2) hsel (Cond.privateMethod_at (mvP (s := s.setVm vm) hZ w4 (args := #[]))) (mv (s := s.setVm vm) hZ w5) hy hK hg hsize (Steps.refl _) (a := b) (by rw [eT]; exact hcell) hobj hlen hstack hW hdg (fun vm₁ _ => ⟨has, eT, hc, hs⟩)
  exact (k B.U B.U.heap B.U.vm v (X'.after hS hk hC N hO hown Y' S (eT ▸ hgr) q2 q3 q4 NL OL C1) C1 (eT ▸ hgr) q1).steps st
theorem nfs {y z : MethodName} {C : String} (hc : y = z) (w : (Jvm.Cond.selects C y z).before a0 Z = true) : ∀ s' : State, Z.Warmed39 s'.vm → NotFace s' y := fun s' hZ => by
  subst hc; exact notFace_of_selects (args := #[]) (mv (s := s') hZ w)
theorem nfs2 {y y' : MethodName} {C : String} (w : (Jvm.Cond.selects C y' y').before a0 Z = true) (hc : y.cls = y'.cls) : ∀ s' : State, Z.Warmed39 s'.vm → NotFace s' y := fun s' hZ r0 h0 => by
  obtain ⟨c2, r2, m2, q1, q2, q3, q4, kP, hkP, hkPi⟩ := Cond.selects_spec (mv (s := s') (args := #[]) hZ w)
  have e1 := findClass_of_methodNamed h0
  have e2 := findClass_of_methodNamed q3
  rw [hc, e2] at e1
  exact ⟨kP, by rw [← Option.some.inj e1]; exact hkP, hkPi⟩
theorem Wk.callF (X : Wk p l e R s m args below meth c own Z a0 EL h0 T h vm cells slots) {C : String} {index count : Nat} {xi y : MethodName} (w1 : (Jvm.Cond.methodLink own index xi).before a0 Z = true) (w2 : (Jvm.Cond.declares xi).before a0 Z = true) (w3 : (Jvm.Cond.interfaceMethod xi.cls xi.cls xi.name xi.desc).before a0 Z = true) (e3 : ((Jvm.Cond.interfaceMethod xi.cls xi.cls xi.name xi.desc).onTables && (Jvm.Cond.interfaceMethod xi.cls xi.cls xi.name xi.desc).keepsFace) = true) (w4 : (Jvm.Cond.selects C xi y).before a0 Z = true) (w5 : (Jvm.Cond.instanceMethod y).before a0 Z = true)
    (w6 : (Jvm.Cond.publicMethod y).before a0 Z = true) (w7 : (Jvm.Cond.unhidden C xi.name xi.desc).before a0 Z = true) (w8 : (Jvm.Cond.castable C xi.cls).before a0 Z = true)
    (hy : xi.cls ≠ "java/lang/invoke/MethodHandle" ∧ xi.cls ≠ "java/lang/invoke/VarHandle") {W rc rs : Nat} {as : Array Value} {Q : Option Value → Vm → Heap → Prop} (hK : Pay l R p e below s args y 5 W Z EL vm h as rc rs Q) {b : Addr} (E : Exa Z h b C)
    (hg : g.method = m) (hsize : g.locals.size = c.maxLocals) {argsL rest : List Value} (hlen : ∀ sig, parseMethodDescriptor xi.desc = some sig → argsL.length = sig.parameters.length) (hstack : g.stack = argsL.reverse ++ .ref b :: rest) (has : (Value.ref b :: argsL).toArray = as) (hW : 2 * g.monitorRoom + (rest.map fun v => v.category).sum ≤ W)
    (hdg : decode c.code g.pc = .ok (.invokeinterface index count, 5)) (hc : cells + rc ≤ R.cells) (hs : slots + rs ≤ R.slots)
    (k : ∀ T' h' vm' v, Wk p l e R s m args below meth c own Z a0 EL h0 T' h' vm' (cells + rc) (slots + rs) → CHr Z EL vm h vm' h' → h.size ≤ h'.size → Q v vm' h' → Gets p e below P (T'.setTop { g with pc := g.pc + 5, stack := v.toList ++ rest })) : Gets p e below P (T.setTop g) := by
  have X' := X
  obtain ⟨locs, j, Y, eT, hS, hk, hZ, hown, hC, N, hO, hx, r⟩ := X
  obtain ⟨cq, kq, qa, qb, qc⟩ := RoadKit.isOf (s := s.setVm vm) hZ eT E
  obtain ⟨v, vm₁, B, hW1, Y', S, hgr, ⟨L, ⟨q1, NL, OL⟩, q2, q3, q4, C1⟩, st⟩ := Y.interfaceBackS hx hown (mv (s := s.setVm vm) hZ w1) (mv (s := s.setVm vm) hZ w2) (mv (s := s.setVm vm) hZ w3 e3) (mv (s := s.setVm vm) hZ w4) (mv (s := s.setVm vm) hZ w5) (mv (s := s.setVm vm) hZ w6) (mv (s := s.setVm vm) hZ w7) (mv (s := s.setVm vm) hZ w8) hy hK qa qb qc hg hsize (Steps.refl _) hlen hstack hW hdg (fun vm₁ _ => ⟨has, eT, hc, hs⟩)
  exact (k B.U B.U.heap B.U.vm v (X'.after hS hk hC N hO hown Y' S (eT ▸ hgr) q2 q3 q4 NL OL C1) C1 (eT ▸ hgr) q1).steps st
theorem Wk.done (X : Wk p l e R s m args below meth c own Z a0 EL h0 T h vm cells slots) {Q : Option Value → Vm → Heap → Prop} {rm : Room} {v : Option Value} (hv : meth.sig.returnType = none → v = none) (hc : cells ≤ rm.cells) (hs : slots ≤ rm.slots) (q : ∀ vm', CHr Z EL vm h vm' h → Q v vm' h)
    (st : ∀ fs, Stand p l e R (s.setVm vm) m args below meth c T [] cells slots ∨ True → (∀ (f : JFrame) (acts : List Action), f.method = m → f.locked = none → f.entered = [] → (doReturn e (T.setTop f) acts v).1 = T.setFrames fs) → Steps p.tables e below (T.setTop g) (T.setFrames fs)) : Gets p e below (Out s Z EL rm Q) (T.setTop g) := by
  obtain ⟨locs, j, Y, eT, hS, hk, hZ, hown, hC, N, hO, hx, hEL, hh, hlk⟩ := X
  obtain ⟨fs, hr, hrun, hended, hq⟩ := Y.leaveW hS (by rw [eT]; exact hk) (v := v) hv
  refine ⟨_, _, st fs (Or.inr trivial) hr, hrun, hended, v, locs, rfl, ⟨?_, N, ?_⟩, ?_, ?_⟩
  · show Q v T.vm T.heap; rw [eT]; exact q _ (CHv.at Y hZ hEL hC.1)
  · show Old Z Z.heap.size T.heap; rw [eT]; exact hO
  · show CHr Z EL s.vm s.heap T.vm T.heap
    rw [hh, eT]
    exact hC.trans (CHv.at Y hZ hEL hC.1)
  · obtain ⟨r1, r2, r3, r4⟩ := hq
    exact ⟨r1, r2, r3, r4.mono hc hs⟩
theorem Wk.retV (X : Wk p l e R s m args below meth c own Z a0 EL h0 T h vm cells slots) {Q : Option Value → Vm → Heap → Prop} {rm : Room} (hret : meth.sig.returnType = none) {pc : Nat} {Ls : Array Slot} (hd : decode c.code pc = .ok (.return_, 1)) (hc : cells ≤ rm.cells) (hs : slots ≤ rm.slots) (q : ∀ vm', CHr Z EL vm h vm' h → Q none vm' h) : Gets p e below (Out s Z EL rm Q) (T.setTop (mkF m pc Ls [])) := by
  have X' := X
  obtain ⟨locs, j, Y, -⟩ := X'
  exact X.done (fun _ => rfl) hc hs q fun fs _ hr => Y.returnOut X.hx hret hd hr
theorem Wk.ret (X : Wk p l e R s m args below meth c own Z a0 EL h0 T h vm cells slots) {Q : Option Value → Vm → Heap → Prop} {rm : Room} {t : FieldType} {w : Value} {i : Instr} (hret : meth.sig.returnType = some t) {pc : Nat} {Ls : Array Slot} {rest : List Value} (hn : narrow t w = w)
    (hi : (i = .ireturn ∧ (t = .int ∨ t = .boolean ∨ t = .byte ∨ t = .char ∨ t = .short) ∧ ∃ z, w = .int z) ∨ (i = .lreturn ∧ t = .long ∧ ∃ z, w = .long z) ∨ (i = .dreturn ∧ t = .double ∧ ∃ z, w = .double z) ∨ (i = .freturn ∧ t = .float ∧ ∃ z, w = .float z) ∨ (i = .areturn ∧ t.isReference = true ∧ w.isRef = true))
    (hd : decode c.code pc = .ok (i, 1)) (hc : cells ≤ rm.cells) (hs : slots ≤ rm.slots) (q : ∀ vm', CHr Z EL vm h vm' h → Q (some w) vm' h) : Gets p e below (Out s Z EL rm Q) (T.setTop (mkF m pc Ls (w :: rest))) := by
  have X' := X
  obtain ⟨locs, j, Y, -⟩ := X'
  exact X.done (fun z => by rw [hret] at z; cases z) hc hs q fun fs _ hr => RoadKit.retOut Y X.hx hret hn hi hd hr
theorem Wk.retA (X : Wk p l e R s m args below meth c own Z a0 EL h0 T h vm cells slots) {Q : Option Value → Vm → Heap → Prop} {rm : Room} {t : FieldType} {w : Value} (hret : meth.sig.returnType = some t) {pc : Nat} {Ls : Array Slot} {rest : List Value} (hn : narrow t w = w) (ht : t.isReference = true) (hw : w.isRef = true)
    (hd : decode c.code pc = .ok (.areturn, 1)) (hc : cells ≤ rm.cells) (hs : slots ≤ rm.slots) (q : ∀ vm', CHr Z EL vm h vm' h → Q (some w) vm' h) : Gets p e below (Out s Z EL rm Q) (T.setTop (mkF m pc Ls (w :: rest))) :=
  X.ret hret hn (Or.inr (Or.inr (Or.inr (Or.inr ⟨rfl, ht, hw⟩)))) hd hc hs q
theorem Wk.retI (X : Wk p l e R s m args below meth c own Z a0 EL h0 T h vm cells slots) {Q : Option Value → Vm → Heap → Prop} {rm : Room} {t : FieldType} {x : Int32} (hret : meth.sig.returnType = some t) {pc : Nat} {Ls : Array Slot} {rest : List Value} (hn : narrow t (.int x) = .int x) (ht : t = .int ∨ t = .boolean ∨ t = .byte ∨ t = .char ∨ t = .short)
    (hd : decode c.code pc = .ok (.ireturn, 1)) (hc : cells ≤ rm.cells) (hs : slots ≤ rm.slots) (q : ∀ vm', CHr Z EL vm h vm' h → Q (some (.int x)) vm' h) : Gets p e below (Out s Z EL rm Q) (T.setTop (mkF m pc Ls (.int x :: rest))) :=
  X.ret hret hn (Or.inl ⟨rfl, ht, x, rfl⟩) hd hc hs q
variable {a b : Addr} {k : ClassId} {cs : List Int32} {ws : List Addr}
/-- a Latin-1 String at a, its bytes at b, spelling cs -/
def Str (Z : State) (h : Heap) (a b : Addr) (k : ClassId) (cs : List Int32) : Prop := Exa Z h a "java/lang/String" ∧ Fld Z h a "java/lang/String" "coder" "B" (.int (0 : Int32)) ∧ Fld Z h a "java/lang/String" "value" "[B" (.ref b) ∧ Arv Z h b k .byte (Int32.ofNat cs.length) ((cs.map fun c => c.toInt8.toInt32).map Value.int) (.int (0 : Int32)) ∧ (∀ c ∈ cs, ¬ c < 0 ∧ ¬ (255 : Int32) < c) ∧ cs.length ≤ 4000
theorem Str.ext (F : Str Z h a b k cs) (E : Ext h h') : Str Z h' a b k cs := ⟨F.1.ext E, F.2.1.ext E, F.2.2.1.ext E, F.2.2.2.1.ext E, F.2.2.2.2⟩
theorem Str.keep (F : Str Z h a b k cs) (K : Keep h h' ws) (q : a ∉ ws) (r : b ∉ ws) : Str Z h' a b k cs := ⟨F.1.keep K, F.2.1.keep K q, F.2.2.1.keep K q, F.2.2.2.1.keep K r, F.2.2.2.2⟩
theorem Str.lt (F : Str Z h a b k cs) : a < h.size := F.1.lt
theorem Str.lb (F : Str Z h a b k cs) : b < h.size := F.2.2.2.1.lt
theorem Arv.nty {a b : Addr} {k k' : ClassId} {ty ty' : FieldType} {n n' : Int32} {vs vs' : List Value} {d d' : Value} (A : Arv Z h a k ty n vs d) (B : Arv Z h b k' ty' n' vs' d') (q : ty ≠ ty') : a ≠ b := fun z => by
  subst z
  obtain ⟨c, ⟨A1, ⟨-, kk, A2, cm, A3⟩, -⟩, -⟩ := A
  obtain ⟨c', ⟨B1, ⟨-, kk', B2, cm', B3⟩, -⟩, -⟩ := B
  rw [A1] at B1; cases B1
  rw [A2] at B2; cases B2
  rw [A3] at B3; cases B3
  exact q rfl
end Base
section Vals
variable {tb : Tables} [Ours tb] {e : Env} {below : List Frame} {T target : State} {m : MethodId} {c : Code} {g : JFrame}
theorem i2cV (h : At T m c below) (hx : tb.exec = Jvm.exec) (hg : g.method = m) {x v : Int32} {rest : List Value} (hd : decode c.code g.pc = .ok (.i2c, 1)) (hs : g.stack = .int x :: rest) (hv : x.toUInt32.toUInt16.toUInt32.toInt32 = v)
    (hr : Steps tb e below (T.setTop { g with pc := g.pc + 1, stack := .int v :: rest }) target) : Steps tb e below (T.setTop g) target := by subst hv; exact XS.i2c h hx hg hd hs hr
theorem iincV (h : At T m c below) (hx : tb.exec = Jvm.exec) (hg : g.method = m) {k : Nat} {cst : Int} {x v : Int32} {l' : Array Slot} (hd : decode c.code g.pc = .ok (.iinc k cst, 3)) (hl : g.locals[k]? = some (.val (.int x))) (hv : x + Int32.ofInt cst = v) (hl' : storeLocals g.locals k (.int v) = some l')
    (hr : Steps tb e below (T.setTop { g with pc := g.pc + 3, locals := l' }) target) : Steps tb e below (T.setTop g) target := by subst hv; exact XS.iinc h hx hg hd hl hl' hr
theorem iaddV (h : At T m c below) (hx : tb.exec = Jvm.exec) (hg : g.method = m) {x y v : Int32} {rest : List Value} (hd : decode c.code g.pc = .ok (.iadd, 1)) (hs : g.stack = .int y :: .int x :: rest) (hv : x + y = v)
    (hr : Steps tb e below (T.setTop { g with pc := g.pc + 1, stack := .int v :: rest }) target) : Steps tb e below (T.setTop g) target := by subst hv; exact XS.iadd h hx hg hd hs hr
theorem isubV (h : At T m c below) (hx : tb.exec = Jvm.exec) (hg : g.method = m) {x y v : Int32} {rest : List Value} (hd : decode c.code g.pc = .ok (.isub, 1)) (hs : g.stack = .int y :: .int x :: rest) (hv : x - y = v)
    (hr : Steps tb e below (T.setTop { g with pc := g.pc + 1, stack := .int v :: rest }) target) : Steps tb e below (T.setTop g) target := by subst hv; exact XS.isub h hx hg hd hs hr
theorem iushrV (h : At T m c below) (hx : tb.exec = Jvm.exec) (hg : g.method = m) {x y v : Int32} {rest : List Value} (hd : decode c.code g.pc = .ok (.iushr, 1)) (hs : g.stack = .int y :: .int x :: rest) (hv : Jvm.Free.XT.ushr x y = v)
    (hr : Steps tb e below (T.setTop { g with pc := g.pc + 1, stack := .int v :: rest }) target) : Steps tb e below (T.setTop g) target := by subst hv; exact Jvm.Free.XT.iushr h hx hg hd hs hr
theorem ishlV (h : At T m c below) (hx : tb.exec = Jvm.exec) (hg : g.method = m) {x y v : Int32} {rest : List Value} (hd : decode c.code g.pc = .ok (.ishl, 1)) (hs : g.stack = .int y :: .int x :: rest) (hv : x <<< (y &&& (31 : Int32)) = v)
    (hr : Steps tb e below (T.setTop { g with pc := g.pc + 1, stack := .int v :: rest }) target) : Steps tb e below (T.setTop g) target := by subst hv; exact Jvm.Free.XT.ishl h hx hg hd hs hr
theorem ishrV (h : At T m c below) (hx : tb.exec = Jvm.exec) (hg : g.method = m) {x y v : Int32} {rest : List Value} (hd : decode c.code g.pc = .ok (.ishr, 1)) (hs : g.stack = .int y :: .int x :: rest) (hv : x >>> (y &&& (31 : Int32)) = v)
    (hr : Steps tb e below (T.setTop { g with pc := g.pc + 1, stack := .int v :: rest }) target) : Steps tb e below (T.setTop g) target := by subst hv; exact Jvm.Free.XT.ishr h hx hg hd hs hr
theorem i2bV (h : At T m c below) (hx : tb.exec = Jvm.exec) (hg : g.method = m) {x v : Int32} {rest : List Value} (hd : decode c.code g.pc = .ok (.i2b, 1)) (hs : g.stack = .int x :: rest) (hv : x.toInt8.toInt32 = v)
    (hr : Steps tb e below (T.setTop { g with pc := g.pc + 1, stack := .int v :: rest }) target) : Steps tb e below (T.setTop g) target := by subst hv; exact XS.i2b h hx hg hd hs hr
theorem iremV (h : At T m c below) (hx : tb.exec = Jvm.exec) (hg : g.method = m) {x y : Int32} {rest : List Value} (hd : decode c.code g.pc = .ok (.irem, 1)) (hs : g.stack = .int y :: .int x :: rest) (hy : y ≠ 0)
    (hr : Steps tb e below (T.setTop { g with pc := g.pc + 1, stack := .int (x % y) :: rest }) target) : Steps tb e below (T.setTop g) target := by
  have q : x - x / y * y = x % y := irem_eq_mod x y
  exact XS.irem h hx hg hd hs hy (by rw [q]; exact hr)
/-- (char) of an int -/
def i2c (x : Int32) : Int32 := x.toUInt32.toUInt16.toUInt32.toInt32
theorem i2c_in {x : Int32} (h0 : ¬ x < 0) (h1 : ¬ (65535 : Int32) < x) : x.toUInt32.toUInt16.toUInt32.toInt32 = x := by
  have q := c_i2c x
  apply Int32.toInt_inj.mp
  have e0 : (0 : Int32).toInt = 0 := by decide
  have e1 : (65535 : Int32).toInt = 65535 := by decide
  rw [Int32.lt_iff_toInt_lt, e0] at h0
  rw [Int32.lt_iff_toInt_lt, e1] at h1
  omega
theorem m255 (x : Int32) : ¬ (x &&& (255 : Int32)) < 0 ∧ ¬ (255 : Int32) < (x &&& (255 : Int32)) := by
  have q := c_and x (255 : Int32) (by decide)
  have e0 : (0 : Int32).toInt = 0 := by decide
  have e1 : (255 : Int32).toInt = 255 := by decide
  constructor
  · rw [Int32.lt_iff_toInt_lt, e0]; omega
  · rw [Int32.lt_iff_toInt_lt, e1]; rw [e1] at q; omega
theorem lt_of {a b c : Int32} (h : ¬ a < b) (hb : b.toInt ≤ c.toInt) : True := trivial
theorem i2c_m255 (x : Int32) : (x &&& (255 : Int32)).toUInt32.toUInt16.toUInt32.toInt32 = x &&& (255 : Int32) := i2c_in (m255 x).1 fun q => (m255 x).2 (by
  have e1 : (255 : Int32).toInt = 255 := by decide
  have e2 : (65535 : Int32).toInt = 65535 := by decide
  rw [Int32.lt_iff_toInt_lt] at q ⊢; omega)
theorem i2c_i2c (x : Int32) : (i2c x).toUInt32.toUInt16.toUInt32.toInt32 = i2c x := by
  have q := c_i2c x
  have e0 : (0 : Int32).toInt = 0 := by decide
  have e1 : (65535 : Int32).toInt = 65535 := by decide
  refine i2c_in ?_ ?_
  · rw [Int32.lt_iff_toInt_lt, e0]; unfold i2c; omega
  · rw [Int32.lt_iff_toInt_lt, e1]; unfold i2c; omega
theorem m255L (x : Int64) : ¬ (x &&& (255 : Int64)).toInt32 < 0 ∧ ¬ (255 : Int32) < (x &&& (255 : Int64)).toInt32 := by
  have q := c_maskL x (255 : Int64) 8 (by decide) (by decide)
  have r := Jvm.Free.XT.narrowInt (x := x &&& (255 : Int64)) ⟨by omega, by omega⟩
  have e0 : (0 : Int32).toInt = 0 := by decide
  have e1 : (255 : Int32).toInt = 255 := by decide
  constructor
  · rw [Int32.lt_iff_toInt_lt, e0]; omega
  · rw [Int32.lt_iff_toInt_lt, e1]; omega
theorem i2c_small {x : Int32} (h : ¬ x < 0 ∧ ¬ (255 : Int32) < x) : x.toUInt32.toUInt16.toUInt32.toInt32 = x := i2c_in h.1 fun q => h.2 (by
  have e1 : (255 : Int32).toInt = 255 := by decide
  have e2 : (65535 : Int32).toInt = 65535 := by decide
  rw [Int32.lt_iff_toInt_lt] at q ⊢; omega)
theorem nar_small {x : Int32} (h : ¬ x < 0 ∧ ¬ (255 : Int32) < x) : narrow .char (.int x) = .int x := by
  show Value.int _ = _
  rw [i2c_small h]
theorem nar_b (x : Int32) : nar .byte x.toInt8.toInt32 = x.toInt8.toInt32 := by simp [nar]
theorem allI {P : Int32 → Prop} {y : Int32} {L : List Int32} (q : P y) (r : ∀ x ∈ L, P x) : ∀ x ∈ y :: L, P x := fun x z => (List.mem_cons.mp z).elim (fun u => u ▸ q) (r x)
theorem allN {P : Int32 → Prop} : ∀ x ∈ ([] : List Int32), P x := fun _ q => nomatch q
end Vals
end Jvm.Ow

namespace Jvm.Ow
open Jvm Jvm.ClassFile Sem Op Lib Jvm.Free Jvm.Stand Jvm.LawKit Jvm.RoadKit Bundle
section WideLdc
variable {p : Program} {l : Launch} {e : Env} {R : Room} {s : State} {m : MethodId} {args : Array Value} {below : List Frame} {meth : Method} {c : Code} {own : String} {Z : State} {a0 : Array Value} {EL : List (String × Nat)} {h0 : Heap} {T : State} {h h' : Heap} {vm vm' : Vm} {cells slots : Nat} {P : Outcome → State → Prop} {g : JFrame}
/-- a booked Latin-1 String, read over the start's own tables -/
theorem reads {q : Jvm.Free.SB.SQ} {u : Array UInt16} {text : String} (F : SlB (Wst Z vm h) q u) (hal : Z.vm.Alike vm) (hu : utf16ToString? u = some text) {vs : List Value} {z : Int32}
    (ht : (∀ c ∈ text.toList, c.toNat < 256) ∧ text.toList.map (fun c => Value.int (Jvm.Lit.byteI c.toNat.toUInt16)) = vs) (hz : ¬ z < 0) (hvl : z.toNatClampNeg = vs.length) :
    Exa Z h q.sa "java/lang/String" ∧ Fld Z h q.sa "java/lang/String" "coder" "B" (.int 0) ∧ Fld Z h q.sa "java/lang/String" "value" "[B" (.ref q.sd) ∧ Arv Z h q.sd q.SA.cls .byte z vs (.int 0) := by
  obtain ⟨cS, ⟨⟨a1, a2, a3, ⟨c1, k1, i1, b1, b2⟩, ⟨c2, k2, i2, b3, b4⟩, a4, a5, a6, a7, a8, a9, a10, -, -, -, a11⟩, d1, rfl⟩, ⟨kS, d2, -, d3⟩, -, d4⟩ := F.carry (V := Wst Z Z.vm h) hal.symm F.ha F.hd
  have hs : q.SA.slots.toList = vs := by
    rw [d4, Jvm.Free.SBG.stringBytes_lat (Jvm.ClassFile.lat_of_text hu ht.1), Array.toList_map, Jvm.ClassFile.units_of_text hu ht.1, List.map_map, ← ht.2]; rfl
  have hn : q.SA.slots.size = vs.length := by rw [← hs, Array.length_toList]
  have H : Has q.SA vs (.int 0) := fun j hj => by subst hs; simp [hj]
  exact ⟨⟨q.sC, kS, a1, d1, d2, a3, fun _ => d3⟩, ⟨q.sC, c2, k2, i2, q.fSC, a1, b3, a5, a2, a3, b4, a7⟩, ⟨q.sC, c1, k1, i1, q.fSV, a1, b1, a4, a2, a3, b2, a6⟩,
    q.SA, ⟨a8, a9, a10⟩, rfl, hn.trans hvl.symm, hz, H, fun i hi => by rw [← Jvm.Free.SBG.getD_of (H i hi)]; exact a11 i hi⟩
/-- the tables go on and the heap grows at its end: the walk stands there, and the literals hold -/
theorem Wk.moves (X : Wk p l e R s m args below meth c own Z a0 EL h0 T h vm cells slots) {W : State} {V : Vm} {dc ds : Nat}
    (hY : ∀ locs, Stand p l e R (s.setVm vm) m args below meth c T locs cells slots → Stand p l e R (s.setVm vm) m args below meth c W locs (cells + dc) (slots + ds))
    (hW : T.Warmed39 V) (hb : T.Interned1 (W.setVm V)) (E : Ext h W.heap)
    (hint : V.interned = T.vm.interned ∨ ∃ (us : Array UInt16) (b : Addr), V.interned = T.vm.interned.push (us, b) ∧ T.vm.interned.find? (fun p => p.1 == us) = none ∧ (us.all (· < 256) = true → ∃ q : Jvm.Free.SB.SQ, q.sa = b ∧ SlB (Wst Z V W.heap) q us ∧ h.size ≤ q.sa ∧ h.size ≤ q.sd)) :
    Wk p l e R s m args below meth c own Z a0 EL h0 (W.setVm V) W.heap V (cells + dc) (slots + ds) ∧ CHr Z EL vm h V W.heap := by
  obtain ⟨locs, j, Y, eT, hS, hk, hZ, hown, hC, N, hO, hx, hEL, r⟩ := X
  have hs : (s.setVm vm).Warmed39 V := State.Warmed39.trans (t := T) Y.warmed.wide hW
  have A := CHv.at Y hZ hEL hC.1
  have B := CHv.later (vm := T.vm) (vm1 := V) (h := h) (wtrans (s := s.setVm vm) hZ Y.warmed) (show (Wst Z T.vm h).Warmed39 V from hW) hEL E hint A.1
  have C1 : CHr Z EL vm h V W.heap := A.trans ⟨B.1, E.1, B.2⟩
  have S1 : (s.setVm vm).Since V W.heap.size := ⟨hs, State.Booked.step (T₂ := W.setVm V) (Y.warmed.no_new_pair _) Y.same.2.1 hb⟩
  exact ⟨⟨locs, W.heap.size, (hY _ Y).retabled hs, rfl, hS.trans S1 (Nat.le_trans hk E.1), Nat.le_refl _, State.Warmed39.trans (t := s.setVm vm) hZ hs, by rw [hs.alike.findClass]; exact hown, hC.trans C1, N, hO.ext E, hx, hEL, r⟩, C1⟩
/-- ldc_w of a String constant that is read: by the three laws of ldc_w (resolved; open and found; open and new) -/
theorem Wk.ldcCW (X : Wk p l e R s m args below meth c own Z a0 EL h0 T h vm cells slots) {text : String} {index : Nat} (w : (Jvm.Cond.stringLink own index text).before a0 Z = true) (wS : ∀ a ∈ Bundle.stringAtoms, a.before a0 Z = true) (hmem : (own, index) ∈ EL)
    {vs : List Value} {z : Int32} (ht : (∀ c ∈ text.toList, c.toNat < 256) ∧ text.toList.map (fun c => Value.int (Jvm.Lit.byteI c.toNat.toUInt16)) = vs) (hz : ¬ z < 0) (hvl : z.toNatClampNeg = vs.length)
    (hg : g.method = m) (hd : decode c.code g.pc = .ok (.ldc_w index, 3)) {n : Nat} (hn : 4 * text.toList.length ≤ n) (hbig : n ≤ 536870912) (hc : cells + 2 ≤ R.cells) (hl : slots + (n + 4) ≤ R.slots)
    (k : ∀ T' h' vm' a b kb, Wk p l e R s m args below meth c own Z a0 EL h0 T' h' vm' (cells + 2) (slots + (n + 4)) → CHr Z EL vm h vm' h' → Ext h h' → Exa Z h' a "java/lang/String" → Fld Z h' a "java/lang/String" "coder" "B" (.int 0) → Fld Z h' a "java/lang/String" "value" "[B" (.ref b) → Arv Z h' b kb .byte z vs (.int 0) → (∀ x, Safe Z EL vm' h' x → x ≠ a ∧ x ≠ b) → Gets p e below P (T'.setTop { g with pc := g.pc + 3, stack := .ref a :: g.stack })) : Gets p e below P (T.setTop g) := by
  subst hg
  have hx := X.hx
  have eT := X.eT
  have at0 := X.at
  obtain ⟨hZT, hfT, hadm, hcells, hslots⟩ : Z.Warmed39 T.vm ∧ T.vm.findClass own = some g.method.cls ∧ l.admits e ∧ T.heap.size + 2 ≤ e.platform.maxCells ∧ T.slotsUsed + (n + 4) ≤ e.platform.maxSlots := by
    obtain ⟨_, _, Y, -, -, -, hZ, hown, -⟩ := X
    exact ⟨wtrans (s := s.setVm vm) hZ Y.warmed, by rw [Y.warmed.alike.findClass]; exact hown, Y.admits, Y.cellsAbove hc, Y.slotsAbove hl⟩
  obtain ⟨kc, cf, i, u, h1, h2, h3, h4, h5, h6, h7⟩ := Cond.stringLink_spec (s := T) (args := a0) hfT (mvS (s := T) (args := a0) hZT w)
  -- where every road ends: the entry booked for a, in tables V, over the heap of W
  have fin : ∀ (W : State) (V : Vm) (a : Addr) (kc' : Class), V.classes[g.method.cls]? = some kc' → kc'.cf = some cf → kc'.resolved[index]? = some (some (.string a)) →
      (Wk p l e R s g.method args below meth c own Z a0 EL h0 (W.setVm V) W.heap V (cells + 2) (slots + (n + 4)) ∧ CHr Z EL vm h V W.heap) → Ext h W.heap →
      (∀ target, Steps p.tables e below ((W.setVm V).setTop { g with pc := g.pc + 3, stack := .ref a :: g.stack }) target → Steps p.tables e below (T.setTop g) target) → Gets p e below P (T.setTop g) := by
    intro W V a kc' q1 q2 q3 ⟨X2, C2⟩ E st
    have hf2 : V.findClass own = some g.method.cls := by obtain ⟨_, _, -, -, -, -, -, q, -⟩ := X2; exact q
    have hB : Booksv V own index u a := ⟨_, kc', cf, i, hf2, q1, q2, h3, h4, Or.inl q3⟩
    obtain ⟨q, hq, F⟩ := SlB.of (C2.1 _ hmem u a hB)
    obtain ⟨r1, r2, r3, r4⟩ := reads F X2.hZ.alike h6 ht hz hvl
    have S : ∀ x, Safe Z EL V W.heap x → x ≠ q.sa ∧ x ≠ q.sd := fun x S => ⟨fun y => S ⟨_, hmem, u, a, hB, q, hq, F, Or.inl y⟩, fun y => S ⟨_, hmem, u, a, hB, q, hq, F, Or.inr y⟩⟩
    subst hq
    exact (k _ _ _ q.sa q.sd q.SA.cls X2 C2 E r1 r2 r3 r4 S).via st
  have e0 : Ext h T.heap := by rw [eT]; exact ⟨Nat.le_refl _, fun _ _ q => q⟩
  rcases h7 with hop | ⟨a, hre⟩
  · have b1 : kc.cf.bind (namesOf? ·.constantPool index) = some (.string text) := by rw [h2]; exact h5
    have b2 : kc.cf.bind (·.constantPool[index]?) = some (.string i) := by rw [h2]; exact h3
    have b3 : kc.cf.bind (·.constantPool.utf8? i) = some u := by rw [h2]; simp [ConstantPool.utf8?, h4]
    rcases hf : T.vm.interned.find? (fun p => p.1 == u) with _ | ⟨u', a⟩
    · have wT : ∀ d ∈ Bundle.stringAtoms, d.before a0 T = true := fun d hd => by
        have q := wS d hd
        simp only [Bundle.stringAtoms, List.mem_cons, List.not_mem_nil, or_false] at hd
        rcases hd with rfl | rfl | rfl | rfl | rfl | rfl | rfl <;> first | exact mvA (s := T) hZT q | exact mv (s := T) hZT q
      obtain ⟨D, L, n4, fit1, fit2⟩ := StringT.of_atoms wT
      have hu := Nat.le_trans (text_bytes_le h6) hn
      have x1 : (bytesOf D.cB u).slots.size = (stringBytes u).size := by rw [(Cell.writeAll_facts _ _).2.2]; simp [bytes0]
      have x2 : (stringAt D.cS D.kS D.fv D.fc u T.heap.size).slots.size = 4 := by simp [string0, Cell.setSlot, n4]
      have hW : T.Warmed39 (({ T.vm with interned := T.vm.interned.push (u, T.heap.size + 1) } : Vm).noted g.method.cls index (.string (T.heap.size + 1))) :=
        ((State.Warmed39.refl T).interns u (T.heap.size + 1)).notedString h1 (Or.inl hop) b1 b2 b3 (by
          show (T.vm.interned.push (u, T.heap.size + 1)).find? _ = _
          rw [Array.find?_push, hf]; simp)
      have hp : (withString T D.cB D.cS D.kS D.fv D.fc u).heap = (T.heap.push (bytesOf D.cB u)).push (stringAt D.cS D.kS D.fv D.fc u T.heap.size) := by rw [withString_eq]; rfl
      have hp0 : (withString T D.cB D.cS D.kS D.fv D.fc u).heap[T.heap.size]? = some (bytesOf D.cB u) := by rw [hp]; simp [Array.getElem?_push]
      have hp1 : (withString T D.cB D.cS D.kS D.fv D.fc u).heap[T.heap.size + 1]? = some (stringAt D.cS D.kS D.fv D.fc u T.heap.size) := by rw [hp, Array.getElem?_push, Array.size_push, if_pos rfl]
      have hsz : (withString T D.cB D.cS D.kS D.fv D.fc u).heap.size = T.heap.size + 2 := by rw [hp]; simp
      have E : Ext h (withString T D.cB D.cS D.kS D.fv D.fc u).heap := by
        rw [← eT]
        exact ext_of fun x q => by rw [hp, Array.getElem?_push, if_neg (by rw [Array.size_push]; exact Nat.ne_of_lt (Nat.lt_succ_of_lt q)), Array.getElem?_push, if_neg (Nat.ne_of_lt q)]
      refine fin (withString T D.cB D.cS D.kS D.fv D.fc u) _ (T.heap.size + 1) _ (Vm.classes_note_self (vm := { T.vm with interned := T.vm.interned.push (u, T.heap.size + 1) }) index (.string (T.heap.size + 1)) h1) h2 (Class.resolved_note_self (.string (T.heap.size + 1)) hop)
        (X.moves (fun locs Y => by rw [withString_eq]; exact ((Y.pushed _).pushed _).mono (Nat.le_refl _) (by rw [x1, x2]; omega)) hW ⟨by show T.heap.size ≤ (withString T D.cB D.cS D.kS D.fv D.fc u).heap.size; omega, Or.inr ⟨u, T.heap.size + 1, rfl, Nat.le_succ _, by show T.heap.size + 1 < (withString T D.cB D.cS D.kS D.fv D.fc u).heap.size; omega⟩⟩ E
          (Or.inr ⟨u, T.heap.size + 1, rfl, hf, fun hlat => ?_⟩)) E (fun target go => ?_)
      · obtain ⟨q, cS, e1, e2, e3, e4, e5, e6⟩ := made_sl (W := (withString T D.cB D.cS D.kS D.fv D.fc u).setVm (({ T.vm with interned := T.vm.interned.push (u, T.heap.size + 1) } : Vm).noted g.method.cls index (.string (T.heap.size + 1)))) wT L n4 rfl hW.alike hp0 hp1 hlat (by omega) 0
        have F : SlB ((withString T D.cB D.cS D.kS D.fv D.fc u).setVm (({ T.vm with interned := T.vm.interned.push (u, T.heap.size + 1) } : Vm).noted g.method.cls index (.string (T.heap.size + 1)))) q u := ⟨cS, e2, e3, e4, e5⟩
        refine ⟨q, e1, F.carry (Vm.Alike.refl _) F.ha F.hd, ?_⟩
        rw [← eT]
        exact e6.resolve_left fun y => absurd y.1 (Nat.not_lt_zero _)
      · refine Steps.instr (c := c) (by simpa using at0) ?_
        simp [jvm, wpRun, exec, at0.top, hx, hd]
        refine ldc_w.wp_string_new (e := e) (s := T) (f := g) at0.top h1 h2 h3 h4 hop hf L.found L.cls L.initialized L.ordinary L.foundB L.clsB L.kindB L.value L.coder ?_ ?_ hcells ?_ (stringBytes_fit L.clsB L.kindB u) L.valueSlot L.coderSlot (fit1 _) (fit2 _) (fun d' acts' acts2 => ?_)
        · rw [Launch.admits_arrayLengthLimit hadm]; omega
        · rw [Launch.admits_maxHeapBytes hadm]; simp only [componentBytes]; omega
        · rw [n4]; omega
        · simp only [afterInstr_ok]
          exact go
    · obtain rfl : u' = u := by simpa using Array.find?_some hf
      refine fin T _ a _ (Vm.classes_note_self index (.string a) h1) h2 (Class.resolved_note_self (.string a) hop)
        (X.moves (fun locs Y => Y.mono (Nat.le_add_right _ _) (Nat.le_add_right _ _)) ((State.Warmed39.refl T).notedString h1 (Or.inl hop) b1 b2 b3 hf) ⟨Nat.le_refl _, Or.inl rfl⟩ e0 (Or.inl rfl)) e0 (fun target go => ?_)
      jvm_step at0 [hx, hd, ldc_w.wp_string_found (e := e) (s := T) (f := g) at0.top h1 h2 h3 h4 hop hf]
      exact go
  · refine fin T T.vm a kc h1 h2 hre (X.moves (fun locs Y => Y.mono (Nat.le_add_right _ _) (Nat.le_add_right _ _)) (State.Warmed39.refl T) ⟨Nat.le_refl _, Or.inl rfl⟩ e0 (Or.inl rfl)) e0 (fun target go => ?_)
    jvm_step at0 [hx, hd, ldc_w.wp_string (e := e) (s := T) (f := g) at0.top h1 h2 h3 hre]
    exact go
end WideLdc
end Jvm.Ow
/- laws to paste: Road.backV, Road.chN, Road.lenW, Road.codOf, shr1, lo8_mask (cut by pick.py; bodies as the Statement names them) -/
namespace Jvm.Pilot.@@N@@
namespace StrChars
open Jvm Sem ClassFile Op Lib Jvm.Stand Jvm.Free.XT Jvm.Free.ALB Jvm.Free.JM Jvm.Free
open Jvm.Lib.Cold (StaticIs)
/-- a char array whose places are chars -/
def Ch (a : Addr) (A : Cell) (U : State) : Prop := Arr .char a A U ∧ Typed .char A
theorem Ch.mv {a : Addr} {A : Cell} {U U' : State} (h : Ch a A U) (hal : U.vm.Alike U'.vm) (hh : U'.heap = U.heap) : Ch a A U' := ⟨h.1.mv hal hh, h.2⟩
theorem Ch.keep {a : Addr} {A : Cell} {U U' : State} (h : Ch a A U) (hal : U.vm.Alike U'.vm) (hk : U'.heap[a]? = some A) : Ch a A U' := ⟨h.1.keep hal hk, h.2⟩
/-- what place i of a char[]'s cell holds -/
def cv (A : Cell) (i : Nat) : Int32 := match A.slots[i]? with | some (.int x) => x | _ => 0
theorem Ch.get {a : Addr} {A : Cell} {U : State} (h : Ch a A U) {i : Nat} (hi : i < A.slots.size) : A.slots[i]? = some (.int (cv A i)) := by
  have e := Array.getElem?_eq_getElem hi
  have f := h.2 i _ e
  unfold cv; rw [e]
  generalize A.slots[i] = v at f
  cases v <;> simp [fits] at f ⊢
/-- the byte that i2b leaves of a char -/
def lo8 (x : Int32) : Int32 := x.toInt8.toInt32
theorem fits_lo8 (y : Int32) : fits .byte (.int (lo8 y)) = true := by
  have h1 := y.toInt8.le_toInt
  have h2 := y.toInt8.toInt_lt
  simp only [lo8, fits, Bool.and_eq_true, decide_eq_true_eq, Int32.le_iff_toInt_le, Int8.toInt_toInt32, show (-128 : Int32).toInt = -128 from by decide, show (127 : Int32).toInt = 127 from by decide]
  omega
/-- A' is A but that each place j of lo .. hi - 1 holds f j -/
def Laid (A A' : Cell) (lo hi : Nat) (f : Nat → Value) : Prop := A'.cls = A.cls ∧ A'.vm = A.vm ∧ A'.slots.size = A.slots.size ∧ ∀ i, A'.slots[i]? = if lo ≤ i ∧ i < hi then some (f i) else A.slots[i]?
theorem Laid.zero (A : Cell) (lo : Nat) (f : Nat → Value) : Laid A A lo (lo + 0) f := ⟨rfl, rfl, rfl, fun i => by rw [if_neg (by omega)]⟩
theorem Laid.step {A Ak : Cell} {lo k : Nat} {f : Nat → Value} {v : Value} (h : Laid A Ak lo k f) (hlo : lo ≤ k) (hk : k < Ak.slots.size) (hv : v = f k) : Laid A (Ak.setSlot k v) lo (k + 1) f := by
  refine ⟨h.1, h.2.1, by simpa [Cell.setSlot] using h.2.2.1, fun i => ?_⟩
  by_cases e : k = i
  · subst e; rw [Cell.slots_setSlot_self v hk, if_pos (by omega), hv]
  · rw [Cell.slots_setSlot_ne v e, h.2.2.2 i]
    by_cases q : lo ≤ i ∧ i < k
    · rw [if_pos q, if_pos (by omega)]
    · rw [if_neg q, if_neg (by omega)]
def U16 : String := "java/lang/StringUTF16"
namespace Cmp5
def yN : MethodName := ⟨"java/lang/StringUTF16", "compress", "([CI[BII)I"⟩
abbrev yB : ByteArray := jdk_52_method_21_code
theorem d0 : decode yB 0 = .ok (.iconst 0, 1) := by decide +kernel
theorem d1 : decode yB 1 = .ok (.istore 5, 2) := by decide +kernel
theorem d3 : decode yB 3 = .ok (.iload 5, 2) := by decide +kernel
theorem d5 : decode yB 5 = .ok (.iload 4, 2) := by decide +kernel
theorem d7 : decode yB 7 = .ok (.if_icmp (.ge) 37, 3) := by decide +kernel
theorem d10 : decode yB 10 = .ok (.aload_n 0, 1) := by decide +kernel
theorem d11 : decode yB 11 = .ok (.iload_n 1, 1) := by decide +kernel
theorem d12 : decode yB 12 = .ok (.caload, 1) := by decide +kernel
theorem d13 : decode yB 13 = .ok (.istore 6, 2) := by decide +kernel
theorem d15 : decode yB 15 = .ok (.iload 6, 2) := by decide +kernel
theorem d17 : decode yB 17 = .ok (.sipush 255, 3) := by decide +kernel
theorem d20 : decode yB 20 = .ok (.if_icmp (.le) 6, 3) := by decide +kernel
theorem d26 : decode yB 26 = .ok (.aload_n 2, 1) := by decide +kernel
theorem d27 : decode yB 27 = .ok (.iload_n 3, 1) := by decide +kernel
theorem d28 : decode yB 28 = .ok (.iload 6, 2) := by decide +kernel
theorem d30 : decode yB 30 = .ok (.i2b, 1) := by decide +kernel
theorem d31 : decode yB 31 = .ok (.bastore, 1) := by decide +kernel
theorem d32 : decode yB 32 = .ok (.iinc 1 1, 3) := by decide +kernel
theorem d35 : decode yB 35 = .ok (.iinc 3 1, 3) := by decide +kernel
theorem d38 : decode yB 38 = .ok (.iinc 5 1, 3) := by decide +kernel
theorem d41 : decode yB 41 = .ok (.goto (-38), 3) := by decide +kernel
theorem d44 : decode yB 44 = .ok (.iload 4, 2) := by decide +kernel
theorem d46 : decode yB 46 = .ok (.ireturn, 1) := by decide +kernel
def site : List Cond := []
def tab : Cond := tabOf yN yB 7 (some .int) site
def P (b : Addr) (A : Cell) (d : Addr) (B : Cell) (o q len : Nat) (args : Array Value) (s : State) : Prop := args = #[.ref b, .int (Int32.ofNat o), .ref d, .int (Int32.ofNat q), .int (Int32.ofNat len)] ∧ Ch b A s ∧ Arr .byte d B s ∧ b ≠ d ∧ o + len ≤ A.slots.size ∧ q + len ≤ B.slots.size ∧ ∀ i, i < len → ¬ 255 < cv A (o + i)
def E (b : Addr) (A : Cell) (d : Addr) (B : Cell) (o q len : Nat) (r : Option Value) (s u : State) : Prop := r = some (.int (Int32.ofNat len)) ∧ ∃ B', Put d B' s u ∧ Laid B B' q (q + len) (fun j => Value.int (lo8 (cv A (o + (j - q)))))
/-- no char of the range above 255: len; the places written hold each char's low byte -/
theorem law (l : Launch) (b : Addr) (A : Cell) (d : Addr) (B : Cell) (o q len : Nat) : Law l yN 5 5 0 0 yB 7 (some .int) site (P b A d B o q len) (E b A d B o q len) (copyLocs d q len) 0 0 := by
  refine Law.of_walk (plainFor_of_name (by decide +kernel)) (by decide +kernel) (by decide +kernel) (by decide) (fun _ _ h => by rw [h.1]; rfl) (fun _ U U' hal hh h => ⟨h.1, h.2.1.mv hal hh, h.2.2.1.mv hal hh, h.2.2.2⟩) (fun r U U' V V' h1 hal h2 h => ⟨h.1, h.2.elim fun B' q => ⟨B', q.1.mv h1 h2, q.2⟩⟩) ?_
  intro p e s m args below meth c s₁ X0 hexec hbytes hml hret hlk hnm hown hh0 W hP
  obtain ⟨rfl, hA, hB, hne, l1, l2, hp⟩ := hP
  have c1 : Steps p.tables e below (s₁.setTop (entryFrame m #[.ref b, .int (Int32.ofNat o), .ref d, .int (Int32.ofNat q), .int (Int32.ofNat len)] 7)) (s₁.setTop (mkF m 0 #[.val (.ref b), .val (.int (Int32.ofNat o)), .val (.ref d), .val (.int (Int32.ofNat q)), .val (.int (Int32.ofNat len)), .unset, .unset] [])) := entry rfl
  have hA0 := hA.1.mv X0.warmed.alike hh0
  have hB0 := hB.mv X0.warmed.alike hh0
  have a31 := hA.1.2.2.2
  have c2 : Steps p.tables e below (s₁.setTop (entryFrame m #[.ref b, .int (Int32.ofNat o), .ref d, .int (Int32.ofNat q), .int (Int32.ofNat len)] 7)) (s₁.setTop (mkF m 3 #[.val (.ref b), .val (.int (Int32.ofNat o)), .val (.ref d), .val (.int (Int32.ofNat q)), .val (.int (Int32.ofNat len)), .val (.int 0), .unset] [])) := c1.trans (by
    refine iconstV X0.here hexec rfl 0 (hb hbytes d0) (by decide) ?_
    refine XS.istore X0.here hexec rfl (hb hbytes d1) rfl rfl ?_
    exact Steps.refl _)
  have loop : ∀ (r i : Nat), i + r = len → ∀ (z : Slot), (z = .unset ∨ ∃ w, z = .val w ∧ w.category = 1) → ∀ (Tl : State) (Bk : Cell), Stand p l e { frames := 0, locals := 0, cells := 0, slots := 0 } s m #[.ref b, .int (Int32.ofNat o), .ref d, .int (Int32.ofNat q), .int (Int32.ofNat len)] below meth c Tl ([] ++ copyLocs d q i) 0 0 → Put d Bk s₁ Tl → Laid B Bk q (q + i) (fun j => Value.int (lo8 (cv A (o + (j - q))))) →
      Steps p.tables e below (s₁.setTop (entryFrame m #[.ref b, .int (Int32.ofNat o), .ref d, .int (Int32.ofNat q), .int (Int32.ofNat len)] 7)) (Tl.setTop (mkF m 3 #[.val (.ref b), .val (.int (Int32.ofNat (o + i))), .val (.ref d), .val (.int (Int32.ofNat (q + i))), .val (.int (Int32.ofNat len)), .val (.int (Int32.ofNat i)), z] [])) → ∃ (T' : State) (B' : Cell) (z' : Slot), Stand p l e { frames := 0, locals := 0, cells := 0, slots := 0 } s m #[.ref b, .int (Int32.ofNat o), .ref d, .int (Int32.ofNat q), .int (Int32.ofNat len)] below meth c T' ([] ++ copyLocs d q len) 0 0 ∧ Put d B' s₁ T' ∧ Laid B B' q (q + len) (fun j => Value.int (lo8 (cv A (o + (j - q))))) ∧
      Steps p.tables e below (s₁.setTop (entryFrame m #[.ref b, .int (Int32.ofNat o), .ref d, .int (Int32.ofNat q), .int (Int32.ofNat len)] 7)) (T'.setTop (mkF m 3 #[.val (.ref b), .val (.int (Int32.ofNat (o + len))), .val (.ref d), .val (.int (Int32.ofNat (q + len))), .val (.int (Int32.ofNat len)), .val (.int (Int32.ofNat len)), z'] [])) := by
    intro r
    induction r with
    | zero =>
      intro i hi z hz Tl Bk Xl pl fl cl
      have hil : i = len := by omega
      rw [hil] at Xl fl cl
      exact ⟨Tl, Bk, z, Xl, pl, fl, cl⟩
    | succ r ih =>
      intro i hi z hz Tl Bk Xl pl fl cl
      have all := X0.warmed.alike.symm.trans Xl.warmed.alike
      have hAl := hA0.keep all (pl.other hne hA0.1)
      have hBk := hB0.like all pl.1 fl.1 fl.2.1 fl.2.2.1
      have hlt : q + i < Bk.slots.size := by rw [fl.2.2.1]; omega
      have c3 : Steps p.tables e below (s₁.setTop (entryFrame m #[.ref b, .int (Int32.ofNat o), .ref d, .int (Int32.ofNat q), .int (Int32.ofNat len)] 7)) (Tl.setTop (mkF m 12 #[.val (.ref b), .val (.int (Int32.ofNat (o + i))), .val (.ref d), .val (.int (Int32.ofNat (q + i))), .val (.int (Int32.ofNat len)), .val (.int (Int32.ofNat i)), z] [.int (Int32.ofNat (o + i)), .ref b])) := cl.trans (by
        refine XS.iload Xl.here hexec rfl (hb hbytes d3) rfl ?_
        refine XS.iload Xl.here hexec rfl (hb hbytes d5) rfl ?_
        refine XS.icmpNo Xl.here hexec rfl (hb hbytes d7) rfl (ii_ge_f (lt32 (by omega) (by omega))) ?_
        refine XS.aloadN Xl.here hexec rfl (hb hbytes d10) rfl rfl ?_
        refine XS.iloadN Xl.here hexec rfl (hb hbytes d11) rfl ?_
        exact Steps.refl _)
      have c4 : Steps p.tables e below (s₁.setTop (entryFrame m #[.ref b, .int (Int32.ofNat o), .ref d, .int (Int32.ofNat q), .int (Int32.ofNat len)] 7)) (Tl.setTop (mkF m 13 #[.val (.ref b), .val (.int (Int32.ofNat (o + i))), .val (.ref d), .val (.int (Int32.ofNat (q + i))), .val (.int (Int32.ofNat len)), .val (.int (Int32.ofNat i)), z] [.int (cv A (o + i))])) := c3.trans (by
        refine Xl.aget hexec hAl rfl (hA.get (i := o + i) (by omega)) rfl rfl (hb hbytes d12) ?_
        exact Steps.refl _)
      have c5 : Steps p.tables e below (s₁.setTop (entryFrame m #[.ref b, .int (Int32.ofNat o), .ref d, .int (Int32.ofNat q), .int (Int32.ofNat len)] 7)) (Tl.setTop (mkF m 15 #[.val (.ref b), .val (.int (Int32.ofNat (o + i))), .val (.ref d), .val (.int (Int32.ofNat (q + i))), .val (.int (Int32.ofNat len)), .val (.int (Int32.ofNat i)), .val (.int (cv A (o + i)))] [])) := c4.trans (by
        refine XS.istoreS Xl.here hexec rfl (hb hbytes d13) rfl rfl hz ?_
        exact Steps.refl _)
      have c6 : Steps p.tables e below (s₁.setTop (entryFrame m #[.ref b, .int (Int32.ofNat o), .ref d, .int (Int32.ofNat q), .int (Int32.ofNat len)] 7)) (Tl.setTop (mkF m 31 #[.val (.ref b), .val (.int (Int32.ofNat (o + i))), .val (.ref d), .val (.int (Int32.ofNat (q + i))), .val (.int (Int32.ofNat len)), .val (.int (Int32.ofNat i)), .val (.int (cv A (o + i)))] [.int (lo8 (cv A (o + i))), .int (Int32.ofNat (q + i)), .ref d])) := c5.trans (by
        refine XS.iload Xl.here hexec rfl (hb hbytes d15) rfl ?_
        refine sipushV Xl.here hexec rfl 255 (hb hbytes d17) (by decide) ?_
        refine XS.icmpYes Xl.here hexec rfl (pc0 := 20) rfl (hb hbytes d20) rfl (ii_le_t (hp i (by omega))) (by decide) rfl ?_
        refine XS.aloadN Xl.here hexec rfl (hb hbytes d26) rfl rfl ?_
        refine XS.iloadN Xl.here hexec rfl (hb hbytes d27) rfl ?_
        refine XS.iload Xl.here hexec rfl (hb hbytes d28) rfl ?_
        refine i2b Xl.here hexec rfl (hb hbytes d30) rfl ?_
        exact Steps.refl _)
      obtain ⟨T7, X7, p7, st7⟩ := Xl.aput hexec hBk rfl hlt rfl (fits_lo8 (cv A (o + i))) (g := (mkF m 31 #[.val (.ref b), .val (.int (Int32.ofNat (o + i))), .val (.ref d), .val (.int (Int32.ofNat (q + i))), .val (.int (Int32.ofNat len)), .val (.int (Int32.ofNat i)), .val (.int (cv A (o + i)))] [.int (lo8 (cv A (o + i))), .int (Int32.ofNat (q + i)), .ref d])) rfl (rest := []) rfl (hb hbytes d31)
      have c8 : Steps p.tables e below (s₁.setTop (entryFrame m #[.ref b, .int (Int32.ofNat o), .ref d, .int (Int32.ofNat q), .int (Int32.ofNat len)] 7)) (T7.setTop (mkF m 32 #[.val (.ref b), .val (.int (Int32.ofNat (o + i))), .val (.ref d), .val (.int (Int32.ofNat (q + i))), .val (.int (Int32.ofNat len)), .val (.int (Int32.ofNat i)), .val (.int (cv A (o + i)))] [])) := c6.trans (st7 _ (Steps.refl _))
      have c9 : Steps p.tables e below (s₁.setTop (entryFrame m #[.ref b, .int (Int32.ofNat o), .ref d, .int (Int32.ofNat q), .int (Int32.ofNat len)] 7)) (T7.setTop (mkF m 3 #[.val (.ref b), .val (.int (Int32.ofNat (o + i) + 1)), .val (.ref d), .val (.int (Int32.ofNat (q + i) + 1)), .val (.int (Int32.ofNat len)), .val (.int (Int32.ofNat i + 1)), .val (.int (cv A (o + i)))] [])) := c8.trans (by
        refine iincV X7.here hexec rfl 1 (hb hbytes d32) (by decide) rfl rfl ?_
        refine iincV X7.here hexec rfl 1 (hb hbytes d35) (by decide) rfl rfl ?_
        refine iincV X7.here hexec rfl 1 (hb hbytes d38) (by decide) rfl rfl ?_
        refine XS.goto X7.here hexec rfl (pc0 := 41) rfl (hb hbytes d41) (by decide) rfl ?_
        exact Steps.refl _)
      have c10 : Steps p.tables e below (s₁.setTop (entryFrame m #[.ref b, .int (Int32.ofNat o), .ref d, .int (Int32.ofNat q), .int (Int32.ofNat len)] 7)) (T7.setTop (mkF m 3 #[.val (.ref b), .val (.int (Int32.ofNat (o + (i + 1)))), .val (.ref d), .val (.int (Int32.ofNat (q + (i + 1)))), .val (.int (Int32.ofNat len)), .val (.int (Int32.ofNat (i + 1))), .val (.int (cv A (o + i)))] [])) := by
        have := c9
        rw [succ32, succ32, succ32] at this
        exact this
      exact ih (i + 1) (by omega) _ (Or.inr ⟨_, rfl, rfl⟩) T7 _ (by rw [copyLocs_step, ← List.append_assoc]; exact X7) (pl.trans p7) (fl.step (by omega) hlt (by simp)) c10
  obtain ⟨T9, B9, z9, X9, p9, f9, g9⟩ := loop len 0 (by omega) .unset (Or.inl rfl) s₁ B (by simpa [copyLocs] using X0) ⟨hB0.1, fun _ _ => rfl, rfl⟩ (Laid.zero _ _ _) c2
  have c11 : Steps p.tables e below (s₁.setTop (entryFrame m #[.ref b, .int (Int32.ofNat o), .ref d, .int (Int32.ofNat q), .int (Int32.ofNat len)] 7)) (T9.setTop (mkF m 46 #[.val (.ref b), .val (.int (Int32.ofNat (o + len))), .val (.ref d), .val (.int (Int32.ofNat (q + len))), .val (.int (Int32.ofNat len)), .val (.int (Int32.ofNat len)), z9] [.int (Int32.ofNat len)])) := g9.trans (by
    refine XS.iload X9.here hexec rfl (hb hbytes d3) rfl ?_
    refine XS.iload X9.here hexec rfl (hb hbytes d5) rfl ?_
    refine XS.icmpYes X9.here hexec rfl (pc0 := 7) rfl (hb hbytes d7) rfl (ii_ge_t (nlt32 (by omega) (Nat.le_refl _))) (by decide) rfl ?_
    refine XS.iload X9.here hexec rfl (hb hbytes d44) rfl ?_
    exact Steps.refl _)
  exact ⟨T9, some (.int (Int32.ofNat len)), _, _, _, X9, by simp, rfl, rfl, (fun h => by cases h), ⟨rfl, B9, p9.from hh0, f9⟩, fun fs hl => c11.trans (X9.ireturnOut hexec hret rfl (Or.inl rfl) (hb hbytes d46) hl)⟩
end Cmp5
namespace Cmp3
def yN : MethodName := ⟨"java/lang/StringUTF16", "compress", "([CII)[B"⟩
abbrev yB : ByteArray := jdk_52_method_16_code
theorem d0 : decode yB 0 = .ok (.iload_n 2, 1) := by decide +kernel
theorem d1 : decode yB 1 = .ok (.newarray .byte, 2) := by decide +kernel
theorem d3 : decode yB 3 = .ok (.astore_n 3, 1) := by decide +kernel
theorem d4 : decode yB 4 = .ok (.aload_n 0, 1) := by decide +kernel
theorem d5 : decode yB 5 = .ok (.iload_n 1, 1) := by decide +kernel
theorem d6 : decode yB 6 = .ok (.aload_n 3, 1) := by decide +kernel
theorem d7 : decode yB 7 = .ok (.iconst 0, 1) := by decide +kernel
theorem d8 : decode yB 8 = .ok (.iload_n 2, 1) := by decide +kernel
theorem d9 : decode yB 9 = .ok (.invokestatic 115, 3) := by decide +kernel
theorem d12 : decode yB 12 = .ok (.istore 4, 2) := by decide +kernel
theorem d14 : decode yB 14 = .ok (.iload 4, 2) := by decide +kernel
theorem d16 : decode yB 16 = .ok (.iload_n 2, 1) := by decide +kernel
theorem d17 : decode yB 17 = .ok (.if_icmp (.eq) 40, 3) := by decide +kernel
theorem d57 : decode yB 57 = .ok (.aload_n 3, 1) := by decide +kernel
theorem d58 : decode yB 58 = .ok (.areturn, 1) := by decide +kernel
def site : List Cond := [.arrayClass .byte, Cmp5.tab] ++ staticW U16 115 Cmp5.yN
def tab : Cond := tabOf yN yB 6 (some (.array .byte)) site
def P (b : Addr) (A : Cell) (o len : Nat) (args : Array Value) (s : State) : Prop := args = #[.ref b, .int (Int32.ofNat o), .int (Int32.ofNat len)] ∧ Ch b A s ∧ o + len ≤ A.slots.size ∧ len ≤ 536870912 ∧ ∀ i, i < len → ¬ 255 < cv A (o + i)
def E (b : Addr) (A : Cell) (o len : Nat) (r : Option Value) (s u : State) : Prop := NewArr .byte "[B" len (fun j => .int (lo8 (cv A (o + j)))) r s u ∧ u.heap.size = s.heap.size + 1
/-- no char of the range above 255: a new byte[] of their low bytes -/
theorem law (l : Launch) (b : Addr) (A : Cell) (o len : Nat) : Law l yN 3 3 1 18 yB 6 (some (.array .byte)) site (P b A o len) (E b A o len) [] 1 len := by
  refine Law.of_walk (plainFor_of_name (by decide +kernel)) (by decide +kernel) (by decide +kernel) (by decide) (fun _ _ h => by rw [h.1]; rfl) (fun _ U U' hal hh h => ⟨h.1, h.2.1.mv hal hh, h.2.2⟩) (fun r U U' V V' h1 hal h2 h => ⟨NewArr.mv r U U' V V' h1 hal h2 h.1, by rw [h1, h2]; exact h.2⟩) ?_
  intro p e s m args below meth c s₁ X0 hexec hbytes hml hret hlk hnm hown hh0 W hP
  obtain ⟨rfl, hA, l1, l2, hp⟩ := hP
  have a31 := hA.1.2.2.2
  have c1 : Steps p.tables e below (s₁.setTop (entryFrame m #[.ref b, .int (Int32.ofNat o), .int (Int32.ofNat len)] 6)) (s₁.setTop (mkF m 0 #[.val (.ref b), .val (.int (Int32.ofNat o)), .val (.int (Int32.ofNat len)), .unset, .unset, .unset] [])) := entry rfl
  have c2 : Steps p.tables e below (s₁.setTop (entryFrame m #[.ref b, .int (Int32.ofNat o), .int (Int32.ofNat len)] 6)) (s₁.setTop (mkF m 1 #[.val (.ref b), .val (.int (Int32.ofNat o)), .val (.int (Int32.ofNat len)), .unset, .unset, .unset] [.int (Int32.ofNat len)])) := c1.trans (by
    refine XS.iloadN X0.here hexec rfl (hb hbytes d0) rfl ?_
    exact Steps.refl _)
  obtain ⟨T3, B3, X3, ba3, bs3, bv3, bh3, bf3, st3⟩ := X0.anew hexec (atype := .byte) (wk W (.arrayClass .byte)) rfl (by show len * 1 ≤ _; omega) (by omega) (g := (mkF m 1 #[.val (.ref b), .val (.int (Int32.ofNat o)), .val (.int (Int32.ofNat len)), .unset, .unset, .unset] [.int (Int32.ofNat len)])) rfl (hb hbytes d1) (rest := []) rfl (Nat.le_refl _) (by show 0 + len ≤ len; omega)
  rw [hh0] at ba3 st3
  have kp3 : XT.Kept s T3 := (XT.Kept.of_eq hh0).push bh3
  have hA3 := hA.keep X3.warmed.alike (kp3 _ _ hA.1.1)
  have hne : b ≠ s.heap.size := hA.1.ne
  have c4 : Steps p.tables e below (s₁.setTop (entryFrame m #[.ref b, .int (Int32.ofNat o), .int (Int32.ofNat len)] 6)) (T3.setTop (mkF m 3 #[.val (.ref b), .val (.int (Int32.ofNat o)), .val (.int (Int32.ofNat len)), .unset, .unset, .unset] [.ref s.heap.size])) := c2.trans (st3 _ (Steps.refl _))
  have c5 : Steps p.tables e below (s₁.setTop (entryFrame m #[.ref b, .int (Int32.ofNat o), .int (Int32.ofNat len)] 6)) (T3.setTop (mkF m 9 #[.val (.ref b), .val (.int (Int32.ofNat o)), .val (.int (Int32.ofNat len)), .val (.ref s.heap.size), .unset, .unset] [.int (Int32.ofNat len), .int 0, .ref s.heap.size, .int (Int32.ofNat o), .ref b])) := c4.trans (by
    refine XS.astoreN X3.here hexec rfl (hb hbytes d3) rfl rfl rfl ?_
    refine XS.aloadN X3.here hexec rfl (hb hbytes d4) rfl rfl ?_
    refine XS.iloadN X3.here hexec rfl (hb hbytes d5) rfl ?_
    refine XS.aloadN X3.here hexec rfl (hb hbytes d6) rfl rfl ?_
    refine iconstV X3.here hexec rfl 0 (hb hbytes d7) (by decide) ?_
    refine XS.iloadN X3.here hexec rfl (hb hbytes d8) rfl ?_
    exact Steps.refl _)
  obtain ⟨v6, T6, X6, E6, g6⟩ := X3.callS hexec (Cmp5.law l b A s.heap.size B3 o 0 len) hown (wks W (staticW U16 115 Cmp5.yN)) (wk W Cmp5.tab) (W := 0) (Nat.le_of_ble_eq_true rfl) (Nat.le_of_ble_eq_true rfl) (Nat.le_refl _) (by show 0 + len + 0 ≤ len; omega) (g := (mkF m 9 #[.val (.ref b), .val (.int (Int32.ofNat o)), .val (.int (Int32.ofNat len)), .val (.ref s.heap.size), .unset, .unset] [.int (Int32.ofNat len), .int (Int32.ofNat 0), .ref s.heap.size, .int (Int32.ofNat o), .ref b])) rfl (by rw [hml]; rfl) c5 (argsL := [.ref b, .int (Int32.ofNat o), .ref s.heap.size, .int (Int32.ofNat 0), .int (Int32.ofNat len)]) (rest := []) rfl rfl (by show 2 * 0 + 0 ≤ _; decide) (hb hbytes d9) (⟨rfl, hA3, ba3, hne, l1, by rw [bs3]; simp, hp⟩)
  obtain ⟨rfl, B6, p6, f6⟩ := E6
  have c7 : Steps p.tables e below (s₁.setTop (entryFrame m #[.ref b, .int (Int32.ofNat o), .int (Int32.ofNat len)] 6)) (T6.setTop (mkF m 12 #[.val (.ref b), .val (.int (Int32.ofNat o)), .val (.int (Int32.ofNat len)), .val (.ref s.heap.size), .unset, .unset] [.int (Int32.ofNat len)])) := g6
  have c8 : Steps p.tables e below (s₁.setTop (entryFrame m #[.ref b, .int (Int32.ofNat o), .int (Int32.ofNat len)] 6)) (T6.setTop (mkF m 58 #[.val (.ref b), .val (.int (Int32.ofNat o)), .val (.int (Int32.ofNat len)), .val (.ref s.heap.size), .val (.int (Int32.ofNat len)), .unset] [.ref s.heap.size])) := c7.trans (by
    refine XS.istore X6.here hexec rfl (hb hbytes d12) rfl rfl ?_
    refine XS.iload X6.here hexec rfl (hb hbytes d14) rfl ?_
    refine XS.iloadN X6.here hexec rfl (hb hbytes d16) rfl ?_
    refine XS.icmpYes X6.here hexec rfl (pc0 := 17) rfl (hb hbytes d17) rfl (ii_eq_t rfl) (by decide) rfl ?_
    refine XS.aloadN X6.here hexec rfl (hb hbytes d57) rfl rfl ?_
    exact Steps.refl _)
  have X8 := X6.wide (L' := []) (cells' := 1) (slots' := len) (fun x hx hlt => by
    simp only [List.nil_append, copyLocs, List.mem_map, List.mem_range] at hx
    obtain ⟨i, -, rfl⟩ := hx
    exact absurd hlt (Nat.lt_irrefl _)) (Nat.le_refl _) (by omega)
  exact ⟨T6, some (.ref s.heap.size), _, _, _, X8, rfl, rfl, rfl, (fun h => by cases h), ⟨⟨rfl, B6, ba3.like (X3.warmed.alike.symm.trans X6.warmed.alike) p6.1 f6.1 f6.2.1 f6.2.2.1, f6.2.1.trans bv3, by rw [X6.warmed.alike.findClass, f6.1]; exact bf3, by rw [f6.2.2.1, bs3]; simp, fun j hj => by rw [f6.2.2.2 j, if_pos (by omega)]; rfl, kp3.put p6 (Nat.le_refl _)⟩, by rw [p6.2.2, bh3, hh0]; simp⟩, fun fs hl => c8.trans (X8.areturnOut hexec rfl hret rfl (hb hbytes d58) hl)⟩
end Cmp3
namespace CodL
def yN : MethodName := ⟨"java/lang/StringUTF16", "coderFromArrayLen", "([BI)B"⟩
abbrev yB : ByteArray := jdk_52_method_15_code
theorem d0 : decode yB 0 = .ok (.iload_n 1, 1) := by decide +kernel
theorem d1 : decode yB 1 = .ok (.aload_n 0, 1) := by decide +kernel
theorem d2 : decode yB 2 = .ok (.arraylength, 1) := by decide +kernel
theorem d3 : decode yB 3 = .ok (.isub, 1) := by decide +kernel
theorem d4 : decode yB 4 = .ok (.bipush 31, 2) := by decide +kernel
theorem d6 : decode yB 6 = .ok (.iushr, 1) := by decide +kernel
theorem d7 : decode yB 7 = .ok (.i2b, 1) := by decide +kernel
theorem d8 : decode yB 8 = .ok (.ireturn, 1) := by decide +kernel
def site : List Cond := []
def tab : Cond := tabOf yN yB 2 (some .byte) site
def P (d : Addr) (B : Cell) (args : Array Value) (s : State) : Prop := args = #[.ref d, .int (Int32.ofNat B.slots.size)] ∧ Arr .byte d B s
def E (r : Option Value) (s u : State) : Prop := XT.PureE (some (.int 0)) r s u
/-- an array as long as the number of chars: LATIN1 -/
theorem law (l : Launch) (d : Addr) (B : Cell) : Law l yN 2 2 0 0 yB 2 (some .byte) site (P d B) E [] 0 0 := by
  refine Law.of_walk (plainFor_of_name (by decide +kernel)) (by decide +kernel) (by decide +kernel) (by decide) (fun _ _ h => by rw [h.1]; rfl) (fun _ U U' hal hh h => ⟨h.1, h.2.mv hal hh⟩) (fun r U U' V V' h1 hal h2 h => XT.PureE.mv r U U' V V' h1 hal h2 h) ?_
  intro p e s m args below meth c s₁ X0 hexec hbytes hml hret hlk hnm hown hh0 W hP
  obtain ⟨rfl, hB⟩ := hP
  have hB0 := hB.mv X0.warmed.alike hh0
  have c1 : Steps p.tables e below (s₁.setTop (entryFrame m #[.ref d, .int (Int32.ofNat B.slots.size)] 2)) (s₁.setTop (mkF m 0 #[.val (.ref d), .val (.int (Int32.ofNat B.slots.size))] [])) := entry rfl
  have c2 : Steps p.tables e below (s₁.setTop (entryFrame m #[.ref d, .int (Int32.ofNat B.slots.size)] 2)) (s₁.setTop (mkF m 2 #[.val (.ref d), .val (.int (Int32.ofNat B.slots.size))] [.ref d, .int (Int32.ofNat B.slots.size)])) := c1.trans (by
    refine XS.iloadN X0.here hexec rfl (hb hbytes d0) rfl ?_
    refine XS.aloadN X0.here hexec rfl (hb hbytes d1) rfl rfl ?_
    exact Steps.refl _)
  have c3 : Steps p.tables e below (s₁.setTop (entryFrame m #[.ref d, .int (Int32.ofNat B.slots.size)] 2)) (s₁.setTop (mkF m 8 #[.val (.ref d), .val (.int (Int32.ofNat B.slots.size))] [.int (lo8 (ushr (Int32.ofNat B.slots.size - Int32.ofNat B.slots.size) 31))])) := c2.trans (by
    refine X0.alen hexec hB0 rfl rfl (hb hbytes d2) ?_
    refine XS.isub X0.here hexec rfl (hb hbytes d3) rfl ?_
    refine bipushV X0.here hexec rfl 31 (hb hbytes d4) (by decide) ?_
    refine iushr X0.here hexec rfl (hb hbytes d6) rfl ?_
    refine i2b X0.here hexec rfl (hb hbytes d7) rfl ?_
    exact Steps.refl _)
  have e0 : lo8 (ushr (Int32.ofNat B.slots.size - Int32.ofNat B.slots.size) 31) = 0 := by rw [Int32.sub_self]; decide
  rw [e0] at c3
  exact ⟨s₁, some (.int 0), _, _, _, X0, rfl, rfl, rfl, (fun h => by cases h), ⟨rfl, hh0⟩, fun fs hl => c3.trans (X0.ireturnOut hexec hret rfl (Or.inr (Or.inr (Or.inl rfl))) (hb hbytes d8) hl)⟩
end CodL
/-- the String at a is Latin-1 over a new byte[] (the heap's one new cell): the low bytes of the len chars of A from o on; every cell but a is kept -/
def Got (a : Addr) (D : Cell) (fV fC : Field) (A : Cell) (o len : Nat) (r : Option Value) (s u : State) : Prop := r = none ∧ ∃ D' V : Cell, Blank "java/lang/String" a D' u ∧ Same D D' [fV.slot, fC.slot] ∧ D'.slots[fV.slot]? = some (.ref s.heap.size) ∧ D'.slots[fC.slot]? = some (.int 0) ∧ Arr .byte s.heap.size V u ∧ V.vm = .none ∧ u.vm.findClass "[B" = some V.cls ∧ V.slots.size = len ∧ (∀ j, j < len → V.slots[j]? = some (.int (lo8 (cv A (o + j))))) ∧ (∀ (y : Addr) (c : Cell), y ≠ a → s.heap[y]? = some c → u.heap[y]? = some c) ∧ u.heap.size = s.heap.size + 1
theorem Got.mv {a : Addr} {D A : Cell} {fV fC : Field} {o len : Nat} : ∀ r (U U' V V' : State), U'.heap = U.heap → V.vm.Alike V'.vm → V'.heap = V.heap → Got a D fV fC A o len r U V → Got a D fV fC A o len r U' V' :=
  fun r U U' V V' h1 hal h2 ⟨e0, D', X, a1, a2, a3, a4, a5, a6, a7, a8, a9, a10, a11⟩ => ⟨e0, D', X, a1.mv hal h2, a2, by rw [h1]; exact a3, a4, by rw [h1]; exact a5.mv hal h2, a6, by rw [hal.findClass]; exact a7, a8, a9, by rw [h1, h2]; exact a10, by rw [h1, h2]; exact a11⟩
namespace New4
def yN : MethodName := ⟨"java/lang/String", "<init>", "([CIILjava/lang/Void;)V"⟩
abbrev yB : ByteArray := jdk_42_method_149_code
theorem d0 : decode yB 0 = .ok (.aload_n 0, 1) := by decide +kernel
theorem d1 : decode yB 1 = .ok (.invokespecial 1, 3) := by decide +kernel
theorem d4 : decode yB 4 = .ok (.iload_n 3, 1) := by decide +kernel
theorem d5 : decode yB 5 = .ok (.ifCond (.ne) 22, 3) := by decide +kernel
theorem d27 : decode yB 27 = .ok (.getstatic 38, 3) := by decide +kernel
theorem d30 : decode yB 30 = .ok (.ifCond (.eq) 28, 3) := by decide +kernel
theorem d33 : decode yB 33 = .ok (.aload_n 1, 1) := by decide +kernel
theorem d34 : decode yB 34 = .ok (.iload_n 2, 1) := by decide +kernel
theorem d35 : decode yB 35 = .ok (.iload_n 3, 1) := by decide +kernel
theorem d36 : decode yB 36 = .ok (.invokestatic 177, 3) := by decide +kernel
theorem d39 : decode yB 39 = .ok (.astore 5, 2) := by decide +kernel
theorem d41 : decode yB 41 = .ok (.aload_n 0, 1) := by decide +kernel
theorem d42 : decode yB 42 = .ok (.aload 5, 2) := by decide +kernel
theorem d44 : decode yB 44 = .ok (.iload_n 3, 1) := by decide +kernel
theorem d45 : decode yB 45 = .ok (.invokestatic 47, 3) := by decide +kernel
theorem d48 : decode yB 48 = .ok (.putfield 15, 3) := by decide +kernel
theorem d51 : decode yB 51 = .ok (.aload_n 0, 1) := by decide +kernel
theorem d52 : decode yB 52 = .ok (.aload 5, 2) := by decide +kernel
theorem d54 : decode yB 54 = .ok (.putfield 9, 3) := by decide +kernel
theorem d57 : decode yB 57 = .ok (.return_, 1) := by decide +kernel
def site : List Cond := [.fieldLink "java/lang/String" 38 "java/lang/String" "COMPACT_STRINGS" "Z", Cmp3.tab, CodL.tab, .laysFinal "java/lang/String" "java/lang/String" "value" "[B", .fieldLink "java/lang/String" 9 "java/lang/String" "value" "[B", .laysFinal "java/lang/String" "java/lang/String" "coder" "B", .fieldLink "java/lang/String" 15 "java/lang/String" "coder" "B"] ++ objW "java/lang/String" 1 ++ staticW "java/lang/String" 177 Cmp3.yN ++ staticW "java/lang/String" 47 CodL.yN
def tab : Cond := tabOf yN yB 6 none site
def P (a : Addr) (D : Cell) (fV fC : Field) (b : Addr) (A : Cell) (z : Int32) (o len : Nat) (args : Array Value) (s : State) : Prop := args = #[.ref a, .ref b, .int (Int32.ofNat o), .int (Int32.ofNat len), .null] ∧ Blank "java/lang/String" a D s ∧ Found "java/lang/String" "value" "[B" fV s ∧ Found "java/lang/String" "coder" "B" fC s ∧ Ch b A s ∧ StaticIs s "java/lang/String" "COMPACT_STRINGS" "Z" (.int z) ∧ ¬ z = 0 ∧ 0 < len ∧ o + len ≤ A.slots.size ∧ len ≤ 536870912 ∧ ∀ i, i < len → ¬ 255 < cv A (o + i)
def E (a : Addr) (D : Cell) (fV fC : Field) (A : Cell) (o len : Nat) (r : Option Value) (s u : State) : Prop := Got a D fV fC A o len r s u
/-- len > 0, no char of the range above 255: a Latin-1 String of their low bytes -/
theorem law (l : Launch) (a : Addr) (D : Cell) (fV fC : Field) (b : Addr) (A : Cell) (z : Int32) (o len : Nat) : Law l yN 5 4 2 35 yB 6 none site (P a D fV fC b A z o len) (E a D fV fC A o len) [⟨a, fC.slot⟩, ⟨a, fV.slot⟩] 1 len := by
  refine Law.of_walk (plainFor_of_name (by decide +kernel)) (by decide +kernel) (by decide +kernel) (by decide) (fun _ _ h => by rw [h.1]; rfl) (fun _ U U' hal hh h => ⟨h.1, h.2.1.mv hal hh, h.2.2.1.al hal, h.2.2.2.1.al hal, h.2.2.2.2.1.mv hal hh, h.2.2.2.2.2.1.there hal hh, h.2.2.2.2.2.2⟩) (fun r U U' V V' h1 hal h2 h => Got.mv r U U' V V' h1 hal h2 h) ?_
  intro p e s m args below meth c s₁ X0 hexec hbytes hml hret hlk hnm hown hh0 W hP
  obtain ⟨rfl, hB, f1, f2, hA, s1, hz, l0, l1, l2, hp⟩ := hP
  have a31 := hA.1.2.2.2
  have c1 : Steps p.tables e below (s₁.setTop (entryFrame m #[.ref a, .ref b, .int (Int32.ofNat o), .int (Int32.ofNat len), .null] 6)) (s₁.setTop (mkF m 0 #[.val (.ref a), .val (.ref b), .val (.int (Int32.ofNat o)), .val (.int (Int32.ofNat len)), .val .null, .unset] [])) := entry rfl
  have c2 : Steps p.tables e below (s₁.setTop (entryFrame m #[.ref a, .ref b, .int (Int32.ofNat o), .int (Int32.ofNat len), .null] 6)) (s₁.setTop (mkF m 1 #[.val (.ref a), .val (.ref b), .val (.int (Int32.ofNat o)), .val (.int (Int32.ofNat len)), .val .null, .unset] [.ref a])) := c1.trans (by
    refine XS.aloadN X0.here hexec rfl (hb hbytes d0) rfl rfl ?_
    exact Steps.refl _)
  obtain ⟨T3, X3, q3, st3⟩ := X0.oinit hexec hown (wks W (objW "java/lang/String" 1)) (g := (mkF m 1 #[.val (.ref a), .val (.ref b), .val (.int (Int32.ofNat o)), .val (.int (Int32.ofNat len)), .val .null, .unset] [.ref a])) rfl (by rw [hml]; rfl) (rest := []) rfl (hb hbytes d1) (W := 0) (by show 2 * 0 + 0 ≤ _; decide) (Nat.le_of_ble_eq_true rfl) (Nat.le_of_ble_eq_true rfl)
  have hh3 := q3.trans hh0
  have c4 : Steps p.tables e below (s₁.setTop (entryFrame m #[.ref a, .ref b, .int (Int32.ofNat o), .int (Int32.ofNat len), .null] 6)) (T3.setTop (mkF m 27 #[.val (.ref a), .val (.ref b), .val (.int (Int32.ofNat o)), .val (.int (Int32.ofNat len)), .val .null, .unset] [])) := (c2.trans (st3 _ (Steps.refl _))).trans (by
    refine XS.iloadN X3.here hexec rfl (hb hbytes d4) rfl ?_
    refine XS.ifYes X3.here hexec rfl (pc0 := 5) rfl (hb hbytes d5) rfl (i0_ne_t (nz32 (by omega) l0)) (by decide) rfl ?_
    exact Steps.refl _)
  obtain ⟨T5, X5, q5, st5⟩ := X3.sget hexec hown (wk W (.fieldLink "java/lang/String" 38 "java/lang/String" "COMPACT_STRINGS" "Z")) s1 (fun _ _ h => by rw [hh3]; exact h) (g := (mkF m 27 #[.val (.ref a), .val (.ref b), .val (.int (Int32.ofNat o)), .val (.int (Int32.ofNat len)), .val .null, .unset] [])) rfl (hb hbytes d27)
  have hh5 := q5.trans hh3
  have c6 : Steps p.tables e below (s₁.setTop (entryFrame m #[.ref a, .ref b, .int (Int32.ofNat o), .int (Int32.ofNat len), .null] 6)) (T5.setTop (mkF m 30 #[.val (.ref a), .val (.ref b), .val (.int (Int32.ofNat o)), .val (.int (Int32.ofNat len)), .val .null, .unset] [.int z])) := c4.trans (st5 _ (Steps.refl _))
  have c7 : Steps p.tables e below (s₁.setTop (entryFrame m #[.ref a, .ref b, .int (Int32.ofNat o), .int (Int32.ofNat len), .null] 6)) (T5.setTop (mkF m 36 #[.val (.ref a), .val (.ref b), .val (.int (Int32.ofNat o)), .val (.int (Int32.ofNat len)), .val .null, .unset] [.int (Int32.ofNat len), .int (Int32.ofNat o), .ref b])) := c6.trans (by
    refine XS.ifNo X5.here hexec rfl (hb hbytes d30) rfl (i0_eq_f hz) ?_
    refine XS.aloadN X5.here hexec rfl (hb hbytes d33) rfl rfl ?_
    refine XS.iloadN X5.here hexec rfl (hb hbytes d34) rfl ?_
    refine XS.iloadN X5.here hexec rfl (hb hbytes d35) rfl ?_
    exact Steps.refl _)
  obtain ⟨v8, T8, X8, E8, g8⟩ := X5.callS hexec (Cmp3.law l b A o len) hown (wks W (staticW "java/lang/String" 177 Cmp3.yN)) (wk W Cmp3.tab) (W := 0) (Nat.le_of_ble_eq_true rfl) (Nat.le_of_ble_eq_true rfl) (Nat.le_refl _) (by show 0 + len ≤ len; omega) (g := (mkF m 36 #[.val (.ref a), .val (.ref b), .val (.int (Int32.ofNat o)), .val (.int (Int32.ofNat len)), .val .null, .unset] [.int (Int32.ofNat len), .int (Int32.ofNat o), .ref b])) rfl (by rw [hml]; rfl) c7 (argsL := [.ref b, .int (Int32.ofNat o), .int (Int32.ofNat len)]) (rest := []) rfl rfl (by show 2 * 0 + 0 ≤ _; decide) (hb hbytes d36) (⟨rfl, hA.mv X5.warmed.alike hh5, l1, l2, hp⟩)
  obtain ⟨e8, z8⟩ := E8
  obtain ⟨rfl, N, n1, n2, n3, n4, n5, n6⟩ := NewArr.mv _ T5 s _ _ hh5.symm (Vm.Alike.refl _) rfl e8
  rw [hh5] at z8
  have hB1 := hB.keep X8.warmed.alike (n6 _ _ hB.1)
  have hne : s.heap.size ≠ a := (Nat.ne_of_lt (Array.getElem?_eq_some_iff.mp hB.1).1).symm
  have c9 : Steps p.tables e below (s₁.setTop (entryFrame m #[.ref a, .ref b, .int (Int32.ofNat o), .int (Int32.ofNat len), .null] 6)) (T8.setTop (mkF m 39 #[.val (.ref a), .val (.ref b), .val (.int (Int32.ofNat o)), .val (.int (Int32.ofNat len)), .val .null, .unset] [.ref s.heap.size])) := g8
  have c10 : Steps p.tables e below (s₁.setTop (entryFrame m #[.ref a, .ref b, .int (Int32.ofNat o), .int (Int32.ofNat len), .null] 6)) (T8.setTop (mkF m 45 #[.val (.ref a), .val (.ref b), .val (.int (Int32.ofNat o)), .val (.int (Int32.ofNat len)), .val .null, .val (.ref s.heap.size)] [.int (Int32.ofNat N.slots.size), .ref s.heap.size, .ref a])) := by
    have hc : Steps p.tables e below (s₁.setTop (entryFrame m #[.ref a, .ref b, .int (Int32.ofNat o), .int (Int32.ofNat len), .null] 6)) (T8.setTop (mkF m 45 #[.val (.ref a), .val (.ref b), .val (.int (Int32.ofNat o)), .val (.int (Int32.ofNat len)), .val .null, .val (.ref s.heap.size)] [.int (Int32.ofNat len), .ref s.heap.size, .ref a])) := c9.trans (by
      refine XS.astore X8.here hexec rfl (hb hbytes d39) rfl rfl rfl ?_
      refine XS.aloadN X8.here hexec rfl (hb hbytes d41) rfl rfl ?_
      refine XS.aload X8.here hexec rfl (hb hbytes d42) rfl rfl ?_
      refine XS.iloadN X8.here hexec rfl (hb hbytes d44) rfl ?_
      exact Steps.refl _)
    rw [n4]; exact hc
  obtain ⟨v11, T11, X11, E11, g11⟩ := X8.callS hexec (CodL.law l s.heap.size N) hown (wks W (staticW "java/lang/String" 47 CodL.yN)) (wk W CodL.tab) (W := 1) (Nat.le_of_ble_eq_true rfl) (Nat.le_of_ble_eq_true rfl) (Nat.le_refl _) (by show 0 + len + 0 ≤ len; omega) (g := (mkF m 45 #[.val (.ref a), .val (.ref b), .val (.int (Int32.ofNat o)), .val (.int (Int32.ofNat len)), .val .null, .val (.ref s.heap.size)] [.int (Int32.ofNat N.slots.size), .ref s.heap.size, .ref a])) rfl (by rw [hml]; rfl) c10 (argsL := [.ref s.heap.size, .int (Int32.ofNat N.slots.size)]) (rest := [.ref a]) rfl rfl (by show 2 * 0 + (1 + 0) ≤ _; decide) (hb hbytes d45) (⟨rfl, n1⟩)
  obtain ⟨rfl, q11⟩ := E11
  have hB11 := hB1.mv (X8.warmed.alike.symm.trans X11.warmed.alike) q11
  have c12 : Steps p.tables e below (s₁.setTop (entryFrame m #[.ref a, .ref b, .int (Int32.ofNat o), .int (Int32.ofNat len), .null] 6)) (T11.setTop (mkF m 48 #[.val (.ref a), .val (.ref b), .val (.int (Int32.ofNat o)), .val (.int (Int32.ofNat len)), .val .null, .val (.ref s.heap.size)] [.int 0, .ref a])) := g11
  obtain ⟨T13, X13, p13, bl13, sl13, st13⟩ := X11.finit hexec hown (wk W (.fieldLink "java/lang/String" 15 "java/lang/String" "coder" "B")) (Or.inr ⟨_, (wk W (.laysFinal "java/lang/String" "java/lang/String" "coder" "B"))⟩) (Or.inl ⟨rfl, hnm⟩) f2 (Or.inl rfl) hB11 (t := .byte) (by decide +kernel) rfl (g := (mkF m 48 #[.val (.ref a), .val (.ref b), .val (.int (Int32.ofNat o)), .val (.int (Int32.ofNat len)), .val .null, .val (.ref s.heap.size)] [.int 0, .ref a])) rfl (rest := []) rfl (hb hbytes d48)
  have c14 : Steps p.tables e below (s₁.setTop (entryFrame m #[.ref a, .ref b, .int (Int32.ofNat o), .int (Int32.ofNat len), .null] 6)) (T13.setTop (mkF m 54 #[.val (.ref a), .val (.ref b), .val (.int (Int32.ofNat o)), .val (.int (Int32.ofNat len)), .val .null, .val (.ref s.heap.size)] [.ref s.heap.size, .ref a])) := (c12.trans (st13 _ (Steps.refl _))).trans (by
    refine XS.aloadN X13.here hexec rfl (hb hbytes d51) rfl rfl ?_
    refine XS.aload X13.here hexec rfl (hb hbytes d52) rfl rfl ?_
    exact Steps.refl _)
  obtain ⟨T15, X15, p15, bl15, sl15, st15⟩ := X13.finit hexec hown (wk W (.fieldLink "java/lang/String" 9 "java/lang/String" "value" "[B")) (Or.inr ⟨_, (wk W (.laysFinal "java/lang/String" "java/lang/String" "value" "[B"))⟩) (Or.inl ⟨rfl, hnm⟩) f1 (Or.inl rfl) bl13 (t := (.array .byte)) (by decide +kernel) rfl (g := (mkF m 54 #[.val (.ref a), .val (.ref b), .val (.int (Int32.ofNat o)), .val (.int (Int32.ofNat len)), .val .null, .val (.ref s.heap.size)] [.ref s.heap.size, .ref a])) rfl (rest := []) rfl (hb hbytes d54)
  have c16 : Steps p.tables e below (s₁.setTop (entryFrame m #[.ref a, .ref b, .int (Int32.ofNat o), .int (Int32.ofNat len), .null] 6)) (T15.setTop (mkF m 57 #[.val (.ref a), .val (.ref b), .val (.int (Int32.ofNat o)), .val (.int (Int32.ofNat len)), .val .null, .val (.ref s.heap.size)] [])) := c14.trans (st15 _ (Steps.refl _))
  have ap := apart (Or.inr ⟨_, (wk W (.laysFinal "java/lang/String" "java/lang/String" "value" "[B"))⟩) (Or.inr ⟨_, (wk W (.laysFinal "java/lang/String" "java/lang/String" "coder" "B"))⟩) f1 f2 (t₁ := .array .byte) (t₂ := .byte) (by decide +kernel) (by decide +kernel) (by decide)
  have al := X8.warmed.alike.symm.trans X15.warmed.alike
  have n7 : T11.heap[s.heap.size]? = some N := by rw [q11]; exact n1.1
  exact ⟨T15, none, _, _, _, X15, by simp, rfl, by omega, (fun _ => rfl), ⟨rfl, _, N, bl15, ((Same.refl D _).set _ (by simp)).set _ (by simp), sl15, (Cell.slots_setSlot_ne _ ap).trans sl13, n1.keep al (p15.other hne (p13.other hne n7)), n2, by rw [al.findClass]; exact n3, n4, n5, fun y c h1 h2 => p15.other h1 (p13.other h1 (by rw [q11]; exact n6 y c h2)), by rw [p15.2.2, p13.2.2, q11]; exact z8⟩, fun fs hl => c16.trans (X15.returnOut hexec hret (hb hbytes d57) hl)⟩
end New4
namespace New1
def yN : MethodName := ⟨"java/lang/String", "<init>", "([C)V"⟩
abbrev yB : ByteArray := jdk_42_method_3_code
theorem d0 : decode yB 0 = .ok (.aload_n 0, 1) := by decide +kernel
theorem d1 : decode yB 1 = .ok (.aload_n 1, 1) := by decide +kernel
theorem d2 : decode yB 2 = .ok (.iconst 0, 1) := by decide +kernel
theorem d3 : decode yB 3 = .ok (.aload_n 1, 1) := by decide +kernel
theorem d4 : decode yB 4 = .ok (.arraylength, 1) := by decide +kernel
theorem d5 : decode yB 5 = .ok (.aconst_null, 1) := by decide +kernel
theorem d6 : decode yB 6 = .ok (.invokespecial 27, 3) := by decide +kernel
theorem d9 : decode yB 9 = .ok (.return_, 1) := by decide +kernel
def site : List Cond := [New4.tab] ++ initW "java/lang/String" 27 New4.yN
def tab : Cond := tabOf yN yB 2 none site
def P (a : Addr) (D : Cell) (fV fC : Field) (b : Addr) (A : Cell) (z : Int32) (args : Array Value) (s : State) : Prop := args = #[.ref a, .ref b] ∧ Blank "java/lang/String" a D s ∧ Found "java/lang/String" "value" "[B" fV s ∧ Found "java/lang/String" "coder" "B" fC s ∧ Ch b A s ∧ StaticIs s "java/lang/String" "COMPACT_STRINGS" "Z" (.int z) ∧ ¬ z = 0 ∧ 0 < A.slots.size ∧ A.slots.size ≤ 536870912 ∧ ∀ i, i < A.slots.size → ¬ 255 < cv A i
def E (a : Addr) (D : Cell) (fV fC : Field) (A : Cell) (r : Option Value) (s u : State) : Prop := Got a D fV fC A 0 A.slots.size r s u
/-- new String(chars), not empty, no char above 255: a Latin-1 String of their low bytes -/
theorem law (l : Launch) (a : Addr) (D : Cell) (fV fC : Field) (b : Addr) (A : Cell) (z : Int32) : Law l yN 2 1 3 52 yB 2 none site (P a D fV fC b A z) (E a D fV fC A) [⟨a, fC.slot⟩, ⟨a, fV.slot⟩] 1 A.slots.size := by
  refine Law.of_walk (plainFor_of_name (by decide +kernel)) (by decide +kernel) (by decide +kernel) (by decide) (fun _ _ h => by rw [h.1]; rfl) (fun _ U U' hal hh h => ⟨h.1, h.2.1.mv hal hh, h.2.2.1.al hal, h.2.2.2.1.al hal, h.2.2.2.2.1.mv hal hh, h.2.2.2.2.2.1.there hal hh, h.2.2.2.2.2.2⟩) (fun r U U' V V' h1 hal h2 h => Got.mv r U U' V V' h1 hal h2 h) ?_
  intro p e s m args below meth c s₁ X0 hexec hbytes hml hret hlk hnm hown hh0 W hP
  obtain ⟨rfl, hB, f1, f2, hA, s1, hz, l0, l2, hp⟩ := hP
  have c1 : Steps p.tables e below (s₁.setTop (entryFrame m #[.ref a, .ref b] 2)) (s₁.setTop (mkF m 0 #[.val (.ref a), .val (.ref b)] [])) := entry rfl
  have c2 : Steps p.tables e below (s₁.setTop (entryFrame m #[.ref a, .ref b] 2)) (s₁.setTop (mkF m 6 #[.val (.ref a), .val (.ref b)] [.null, .int (Int32.ofNat A.slots.size), .int 0, .ref b, .ref a])) := c1.trans (by
    refine XS.aloadN X0.here hexec rfl (hb hbytes d0) rfl rfl ?_
    refine XS.aloadN X0.here hexec rfl (hb hbytes d1) rfl rfl ?_
    refine iconstV X0.here hexec rfl 0 (hb hbytes d2) (by decide) ?_
    refine XS.aloadN X0.here hexec rfl (hb hbytes d3) rfl rfl ?_
    refine X0.alen hexec (hA.1.mv X0.warmed.alike hh0) rfl rfl (hb hbytes d4) ?_
    refine XS.aconstNull X0.here hexec rfl (hb hbytes d5) ?_
    exact Steps.refl _)
  obtain ⟨v3, T3, X3, E3, g3⟩ := X0.callN hexec (New4.law l a D fV fC b A z 0 A.slots.size) rfl hown (wks W (initW "java/lang/String" 27 New4.yN)) (W New4.tab (by simp only [site, List.mem_cons, List.mem_append, true_or, or_true])) (W := 0) (Nat.le_of_ble_eq_true rfl) (Nat.le_of_ble_eq_true rfl) (Nat.le_refl _) (by show 0 + A.slots.size ≤ A.slots.size; omega) (g := (mkF m 6 #[.val (.ref a), .val (.ref b)] [.null, .int (Int32.ofNat A.slots.size), .int (Int32.ofNat 0), .ref b, .ref a])) rfl (by rw [hml]; rfl) c2 (argsL := [.ref b, .int (Int32.ofNat 0), .int (Int32.ofNat A.slots.size), .null]) (rest := []) rfl rfl (by show 2 * 0 + 0 ≤ _; decide) (hb hbytes d6) (⟨rfl, hB.mv X0.warmed.alike hh0, f1.al X0.warmed.alike, f2.al X0.warmed.alike, hA.mv X0.warmed.alike hh0, s1.there X0.warmed.alike hh0, hz, l0, by omega, l2, fun i hi => by rw [Nat.zero_add]; exact hp i hi⟩)
  have e0 := Got.mv _ s₁ s _ _ hh0.symm (Vm.Alike.refl _) rfl E3
  obtain rfl := e0.1
  have c4 : Steps p.tables e below (s₁.setTop (entryFrame m #[.ref a, .ref b] 2)) (T3.setTop (mkF m 9 #[.val (.ref a), .val (.ref b)] [])) := g3
  exact ⟨T3, none, _, _, _, X3, by simp, rfl, by omega, (fun _ => rfl), e0, fun fs hl => c4.trans (X3.returnOut hexec hret (hb hbytes d9) hl)⟩
theorem pays {l : Launch} {R : Room} {p : Program} {e : Env} {below : List Frame} {s : State} {sargs : Array Value} {len W : Nat} (a : Addr) (D : Cell) (fV fC : Field) (b : Addr) (A : Cell) (z : Int32) (htab : tab.before sargs s = true) (hfr : 4 ≤ R.frames) (hlo : W + 65 ≤ R.locals) :
    Back l R p e below s sargs yN len W (fun A₁ a₁ => A₁.cells + 1 ≤ R.cells ∧ A₁.slots + A.slots.size ≤ R.slots ∧ P a D fV fC b A z a₁ A₁.U) (fun A₁ _ v₁ B₁ => E a D fV fC A v₁ A₁.U B₁.U ∧ B₁.locs = A₁.locs ++ [⟨a, fC.slot⟩, ⟨a, fV.slot⟩] ∧ B₁.cells = A₁.cells + 1 ∧ B₁.slots = A₁.slots + A.slots.size) :=
  (law l a D fV fC b A z).pays htab hfr (by omega)
end New1
/-- the byte, read back as charAt reads it, is the char -/
theorem lo8_mask {x : Int32} (h0 : ¬ x < 0) (h1 : ¬ 255 < x) : lo8 x &&& 255 = x := by
  have t : ∀ k : Fin 256, lo8 (Int32.ofNat k.val) &&& 255 = Int32.ofNat k.val := by decide +kernel
  rw [Int32.lt_iff_toInt_lt] at h0 h1
  have e0 : (0 : Int32).toInt = 0 := rfl
  have e1 : (255 : Int32).toInt = 255 := rfl
  obtain ⟨k, hk⟩ : ∃ k : Nat, x.toInt = k := ⟨x.toInt.toNat, by omega⟩
  have hx : x = Int32.ofNat k := Int32.toInt_inj.mp (by rw [hk, Int32.toInt_ofNat_small (by omega)])
  rw [hx]
  exact t ⟨k, by omega⟩
end StrChars
namespace StrChars.Road
open Jvm Sem ClassFile Op Lib Jvm.Stand Jvm.Free Jvm.Free.XT
open Jvm.Lib.Cold (StaticIs)
abbrev ST : String := "java/lang/String"
/-- every table word that New1's law asks, flat -/
abbrev words : List Jvm.Cond := [.code New1.yN New1.yB 2 none, .initialized ST, .methodLink ST 27 New4.yN, .instanceMethod New4.yN,
  .code New4.yN New4.yB 6 none, .fieldLink ST 38 ST "COMPACT_STRINGS" "Z", .laysFinal ST ST "value" "[B", .fieldLink ST 9 ST "value" "[B", .laysFinal ST ST "coder" "B", .fieldLink ST 15 ST "coder" "B",
  .methodLink ST 1 Lib.objectInit, .instanceMethod Lib.objectInit, .code Lib.objectInit ⟨#[0xb1]⟩ 1 none, .methodLink ST 177 Cmp3.yN, .static Cmp3.yN, .methodLink ST 47 CodL.yN, .static CodL.yN,
  .code Cmp3.yN Cmp3.yB 6 (some (.array .byte)), .initialized U16, .arrayClass .byte, .methodLink U16 115 Cmp5.yN, .static Cmp5.yN, .code Cmp5.yN Cmp5.yB 7 (some .int), .code CodL.yN CodL.yB 2 (some .byte)]
theorem tab_of {a : Array Value} {s : State} (h : ∀ w ∈ words, w.before a s = true) : New1.tab.before a s = true := by
  have h5 : Cmp5.tab.before a s = true := unparts (wk h (.code Cmp5.yN Cmp5.yB 7 (some .int))) (wks h (.initialized Cmp5.yN.cls :: Cmp5.site))
  have hc : CodL.tab.before a s = true := unparts (wk h (.code CodL.yN CodL.yB 2 (some .byte))) (wks h (.initialized CodL.yN.cls :: CodL.site))
  have q5 : ∀ w ∈ Cmp5.tab :: words, w.before a s = true := fun w hw => (List.mem_cons.mp hw).elim (fun e => e ▸ h5) (h w)
  have h3 : Cmp3.tab.before a s = true := unparts (wk q5 (.code Cmp3.yN Cmp3.yB 6 (some (.array .byte)))) (wks q5 (.initialized Cmp3.yN.cls :: Cmp3.site))
  have q3 : ∀ w ∈ Cmp3.tab :: CodL.tab :: words, w.before a s = true := fun w hw => (List.mem_cons.mp hw).elim (fun e => e ▸ h3) fun hw => (List.mem_cons.mp hw).elim (fun e => e ▸ hc) (h w)
  have h4 : New4.tab.before a s = true := unparts (wk q3 (.code New4.yN New4.yB 6 none)) (wks q3 (.initialized New4.yN.cls :: New4.site))
  have q4 : ∀ w ∈ New4.tab :: words, w.before a s = true := fun w hw => (List.mem_cons.mp hw).elim (fun e => e ▸ h4) (h w)
  exact unparts (wk q4 (.code New1.yN New1.yB 2 none)) (wks q4 (.initialized New1.yN.cls :: New1.site))
/-- the words ride from the start Z to the walk's own state -/
theorem moved {Z s : State} {a0 args : Array Value} (hZ : Z.Warmed39 s.vm) (hw : ∀ d ∈ words, d.before a0 Z = true) : ∀ d ∈ words, d.before args s = true := fun d hd => by
  have q := hw d hd
  have t : ∀ d ∈ words, d = .arrayClass .byte ∨ (d.onTables && d.keepsFace) = true := by decide +kernel
  rcases t d hd with rfl | t
  · exact RoadKit.mvA hZ q
  · exact RoadKit.mv hZ q t
/-- WHAT COMES BACK, over the tables of the start Z: h the heap at the call, h' behind it -/
def Q (Z : State) (x : Addr) (A : Cell) (h : Heap) (v : Option Value) (h' : Heap) (L : List Loc) : Prop := v = none ∧ (∀ y ∈ L, y.base = x) ∧ RoadKit.Keep h h' [x] ∧ h'.size = h.size + 1 ∧ RoadKit.Exa Z h' x ST ∧ RoadKit.Fld Z h' x ST "value" "[B" (.ref h.size) ∧ RoadKit.Fld Z h' x ST "coder" "B" (.int 0) ∧
  (∃ V : Cell, RoadKit.Arr Z h' h.size V .byte ∧ V.vm = .none ∧ Z.vm.findClass "[B" = some V.cls ∧ V.slots.size = A.slots.size ∧ ∀ j, j < A.slots.size → V.slots[j]? = some (.int (lo8 (cv A j)))) ∧
  ∀ (O n d : String) (w : Value), RoadKit.Fld Z h x O n d w → RoadKit.slotOf Z O n d ≠ RoadKit.slotOf Z ST "value" "[B" → RoadKit.slotOf Z O n d ≠ RoadKit.slotOf Z ST "coder" "B" → RoadKit.Fld Z h' x O n d w
/-- **new String(chars) AT A CALL, IN THE ROAD'S FORM**: for specialBack behind newO: x the fresh String, b the char[] with the cell A -/
theorem back {p : Program} {l : Launch} {e : Env} {R : Room} {s : State} {args : Array Value} {below : List Frame} {len W : Nat} {Z : State} {a0 : Array Value} {h : Heap} (hZ : Z.Warmed39 s.vm) (hw : ∀ d ∈ words, d.before a0 Z = true) {kI : Nat} (wi : (Jvm.Cond.instantiable ST kI).before a0 Z = true)
    {x b : Addr} {A : Cell} {z : Int32} {v0 c0 : Value} (E : RoadKit.Exa Z h x ST) (V : RoadKit.Fld Z h x ST "value" "[B" v0) (C : RoadKit.Fld Z h x ST "coder" "B" c0) (K : RoadKit.Arr Z h b A .char) (hty : Typed .char A) (S : RoadKit.Sta Z h ST "COMPACT_STRINGS" "Z" (.int z)) (hz : ¬ z = 0)
    (l0 : 0 < A.slots.size) (l2 : A.slots.size ≤ 536870912) (hp : ∀ i, i < A.slots.size → ¬ 255 < cv A i) (hfr : 4 ≤ R.frames) (hlo : W + 65 ≤ R.locals) :
    Back l R p e below s args New1.yN len W (fun P a => a = #[.ref x, .ref b] ∧ P.U.heap = h ∧ P.cells + 1 ≤ R.cells ∧ P.slots + A.slots.size ≤ R.slots)
      (fun P _ v B => ∃ L, Q Z x A h v B.U.heap L ∧ B.locs = P.locs ++ L ∧ B.cells = P.cells + 1 ∧ B.slots = P.slots + A.slots.size) := by
  intro m meth c P g ig mk a X hg hsize hdg hW hn hp'
  obtain ⟨rfl, rfl, r1, r2⟩ := hp'
  have al : Z.vm.Alike P.U.vm := hZ.alike.trans X.warmed.alike
  obtain ⟨D, cfV, kV, iV, fV, hD, gV, stV, knV, obV, asV, slV⟩ := id V
  obtain ⟨D', cfC, kC, iC, fC, hD', gC, stC, -, -, asC, slC⟩ := id C
  cases hD.symm.trans hD'
  obtain ⟨D2, kD, e1, e2, e3, e4, e5⟩ := id E
  cases hD.symm.trans e1
  obtain ⟨c2, k2, i1, i2, i3, -⟩ := Cond.instantiable_spec wi
  cases e2.symm.trans i1
  cases e3.symm.trans i2
  obtain ⟨kU, u1, u2⟩ := al.2.2 _ _ e3
  have hB : Blank ST x D P.U := ⟨hD, ⟨knV, fun q hq => by rw [hq] at obV; cases obV⟩, by rw [al.findClass]; exact e2, kU, u1, by rw [u2]; exact i3, by rw [u2]; exact e5 i3⟩
  have F1 : Found ST "value" "[B" fV P.U := ⟨SBG.found_only al ⟨cfV, kV, iV, gV⟩, stV⟩
  have F2 : Found ST "coder" "B" fC P.U := ⟨SBG.found_only al ⟨cfC, kC, iC, gC⟩, stC⟩
  have hA : Ch b A P.U := ⟨⟨K.1, State.isArrayOf_alike al K.2.1, K.2.2, by omega⟩, hty⟩
  have hS : StaticIs P.U ST "COMPACT_STRINGS" "Z" (.int z) := by
    obtain ⟨cfS, iS, kS, fS, st, cS, t1, t2, t3, t4, t5, t6, t7⟩ := S
    exact StaticIs.there (s := { Z with heap := P.U.heap }) ⟨cfS, iS, kS, fS, st, cS, t1, t2, t3, t4, t5, (fun q => by rw [q] at t6; cases t6), t7⟩ al rfl
  obtain ⟨v, B, X', ⟨⟨hv, E', V', q1, q2, q3, q4, q5, q6, q7, q8, q9, q10, q11⟩, hl, hc, hs⟩, st⟩ := New1.pays x D fV fC b A z (tab_of (moved hZ hw)) hfr hlo m meth c P g ig mk _ X hg hsize hdg hW hn ⟨r1, r2, rfl, hB, F1, F2, hA, hS, hz, l0, l2, hp⟩
  have al' : Z.vm.Alike B.U.vm := hZ.alike.trans X'.warmed.alike
  have hsz : E'.slots.size = D.slots.size := by
    obtain ⟨-, -, -, kB, w1, w2, w3⟩ := q1
    obtain ⟨kB', y1, y2⟩ := al'.2.2 _ _ e3
    rw [q2.2.1] at w1
    cases w1.symm.trans y1
    rw [w3, e5 i3, y2]
  refine ⟨v, B, X', ⟨_, ⟨hv, ?_, ⟨by omega, fun y cy hy hn' => q10 y cy (by simpa using hn') hy, fun y cy hy => ?_⟩, q11, ⟨E', _, q1.1, by rw [q2.2.1]; exact e2, by rw [q2.2.1]; exact e3, by rw [q2.1]; exact obV, fun _ => by rw [hsz]; exact e5 i3⟩,
    ⟨E', cfV, kV, iV, fV, q1.1, gV, stV, by rw [q2.1]; exact knV, by rw [q2.1]; exact obV, by rw [q2.2.1]; exact asV, q3⟩, ⟨E', cfC, kC, iC, fC, q1.1, gC, stC, by rw [q2.1]; exact knV, by rw [q2.1]; exact obV, by rw [q2.2.1]; exact asC, q4⟩,
    ⟨V', ⟨q5.1, State.isArrayOf_alike al'.symm q5.2.1, q5.2.2.1⟩, q6, by rw [← al'.findClass]; exact q7, q8, fun j hj => by have := q9 j hj; rwa [Nat.zero_add] at this⟩, fun O n d w F n1 n2 => ?_⟩, hl, hc, hs⟩, st⟩
  · intro y hy
    simp only [List.mem_cons, List.not_mem_nil, or_false] at hy
    rcases hy with rfl | rfl <;> rfl
  · by_cases q : y = x
    · subst q
      cases hD.symm.trans hy
      exact ⟨E', q1.1, q2.2.1, q2.1, hsz⟩
    · exact ⟨cy, q10 y cy q hy, rfl, rfl, rfl⟩
  · obtain ⟨D3, cf, k, i, f, g1, g2, g3, g4, g5, g6, g7⟩ := F
    cases hD.symm.trans g1
    simp only [RoadKit.slotOf, g2, gV, gC, Option.map_some, Option.getD_some] at n1 n2
    exact ⟨E', cf, k, i, f, q1.1, g2, g3, by rw [q2.1]; exact g4, by rw [q2.1]; exact g5, by rw [q2.2.1]; exact g6, by rw [q2.2.2 f.slot (by simp [n1, n2])]; exact g7⟩
end StrChars.Road
namespace StrChars.Road
open Jvm Sem ClassFile Op Lib Jvm.Stand Jvm.Free Jvm.Free.XT
/-- WHAT COMES BACK, the byte[] as a list of values -/
def QA (Z : State) (x : Addr) (zn : Int32) (cs : List Int32) (h : Heap) (v : Option Value) (h' : Heap) (L : List Loc) : Prop := v = none ∧ (∀ y ∈ L, y.base = x) ∧ RoadKit.Keep h h' [x] ∧ h'.size = h.size + 1 ∧ RoadKit.Exa Z h' x ST ∧ RoadKit.Fld Z h' x ST "value" "[B" (.ref h.size) ∧ RoadKit.Fld Z h' x ST "coder" "B" (.int 0) ∧
  (∃ kb, Z.vm.findClass "[B" = some kb ∧ RoadKit.Arv Z h' h.size kb .byte zn (cs.map fun c => .int (lo8 c)) (.int 0)) ∧
  ∀ (O n d : String) (w : Value), RoadKit.Fld Z h x O n d w → RoadKit.slotOf Z O n d ≠ RoadKit.slotOf Z ST "value" "[B" → RoadKit.slotOf Z O n d ≠ RoadKit.slotOf Z ST "coder" "B" → RoadKit.Fld Z h' x O n d w
/-- **new String(chars) AT A CALL, THE ARRAYS AS LISTS**: the char[] at b holds cs, not empty, no char above 255 -/
theorem backArv {p : Program} {l : Launch} {e : Env} {R : Room} {s : State} {args : Array Value} {below : List Frame} {len W : Nat} {Z : State} {a0 : Array Value} {h : Heap} (hZ : Z.Warmed39 s.vm) (hw : ∀ d ∈ words, d.before a0 Z = true) {kI : Nat} (wi : (Jvm.Cond.instantiable ST kI).before a0 Z = true)
    {x b : Addr} {k : ClassId} {zn z : Int32} {cs : List Int32} {dv v0 c0 : Value} (E : RoadKit.Exa Z h x ST) (V : RoadKit.Fld Z h x ST "value" "[B" v0) (C : RoadKit.Fld Z h x ST "coder" "B" c0) (K : RoadKit.Arv Z h b k .char zn (cs.map Value.int) dv) (S : RoadKit.Sta Z h ST "COMPACT_STRINGS" "Z" (.int z)) (hz : ¬ z = 0)
    (hlen : zn.toNatClampNeg = cs.length) (h0 : 0 < cs.length) (hbig : cs.length ≤ 536870912) (hall : ∀ c ∈ cs, ¬ 255 < c) (hfr : 4 ≤ R.frames) (hlo : W + 65 ≤ R.locals) :
    Back l R p e below s args New1.yN len W (fun P a => a = #[.ref x, .ref b] ∧ P.U.heap = h ∧ P.cells + 1 ≤ R.cells ∧ P.slots + cs.length ≤ R.slots)
      (fun P _ v B => ∃ L, QA Z x zn cs h v B.U.heap L ∧ B.locs = P.locs ++ L ∧ B.cells = P.cells + 1 ∧ B.slots = P.slots + cs.length) := by
  obtain ⟨A, K1, K2, K3, K4, K5, K6⟩ := K
  have e : A.slots.size = cs.length := K3.trans hlen
  have hat : ∀ (i : Nat) (hi : i < cs.length), A.slots[i]? = some (.int cs[i]) := fun i hi => by rw [K5 i (by omega)]; simp [List.getD_eq_getElem?_getD, hi]
  have hcv : ∀ (i : Nat) (hi : i < cs.length), cv A i = cs[i] := fun i hi => by unfold cv; rw [hat i hi]
  have hty : Typed .char A := fun i v hv => by
    have hi : i < A.slots.size := (Array.getElem?_eq_some_iff.mp hv).1
    have q := K5 i hi
    rw [hv] at q
    rw [Option.some.inj q]
    exact K6 i hi
  refine Back.mono (back hZ hw wi E V C K1 hty S hz (by omega) (by omega) (fun i hi => by rw [hcv i (by omega)]; exact hall _ (List.getElem_mem _)) hfr hlo) (fun P a hp => ⟨hp.1, hp.2.1, hp.2.2.1, by rw [e]; exact hp.2.2.2⟩) (fun P a v B hp hq => ?_)
  obtain ⟨L, ⟨q1, q2, q3, q4, q5, q6, q7, ⟨V', v1, v2, v3, v4, v5⟩, q9⟩, hl, hc, hs⟩ := hq
  refine ⟨L, ⟨q1, q2, q3, q4, q5, q6, q7, ⟨V'.cls, v3, V', v1, rfl, by rw [v4, e, hlen], K4, fun i hi => ?_, fun i hi => ?_⟩, q9⟩, hl, hc, by rw [hs, e]⟩
  · have hi' : i < cs.length := by omega
    rw [v5 i (by omega), hcv i hi']; simp [List.getD_eq_getElem?_getD, hi']
  · have hi' : i < cs.length := by omega
    simp only [List.getD_eq_getElem?_getD, List.getElem?_map, List.getElem?_eq_getElem hi', Option.map_some, Option.getD_some]
    exact fits_lo8 _
end StrChars.Road
namespace StrChars.Road
open Jvm Sem ClassFile Op Lib Jvm.Stand Jvm.Free Jvm.Free.XT
/-- WHAT COMES BACK, in the writer's own shape -/
def QV (Z : State) (x : Addr) (N : Int32) (bs : List Int32) (h : Heap) (n0 : Nat) (v : Option Value) (h' : Heap) (L : List Loc) : Prop := v = none ∧ RoadKit.Fr n0 L ∧ RoadKit.Keep h h' [x] ∧ RoadKit.Exa Z h' x ST ∧ RoadKit.Fld Z h' x ST "coder" "B" (.int 0) ∧
  ∃ (t : Addr) (kb : ClassId), n0 ≤ t ∧ h.size ≤ t ∧ ¬ t = x ∧ RoadKit.Fld Z h' x ST "value" "[B" (.ref t) ∧ RoadKit.Arv Z h' t kb .byte N (bs.map Value.int) (.int 0)
/-- **new String(chars) AT A CALL, FOR THE WRITER**: a char[] of n known ints, each 0 to 255 -/
theorem backV {p : Program} {l : Launch} {e : Env} {R : Room} {s : State} {args : Array Value} {below : List Frame} {len W : Nat} {Z : State} {a0 : Array Value} {h : Heap} (hZ : Z.Warmed39 s.vm) (hw : ∀ d ∈ words, d.before a0 Z = true) {kI : Nat} (wi : (Jvm.Cond.instantiable ST kI).before a0 Z = true)
    {x b : Addr} {kC : ClassId} {cs bs : List Int32} {d v0 c0 : Value} {z N : Int32} {n n0 : Nat} (hx0 : n0 ≤ x) (hh0 : n0 ≤ h.size) (E : RoadKit.Exa Z h x ST) (V : RoadKit.Fld Z h x ST "value" "[B" v0) (C : RoadKit.Fld Z h x ST "coder" "B" c0) (K : RoadKit.Arv Z h b kC .char N (cs.map Value.int) d) (S : RoadKit.Sta Z h ST "COMPACT_STRINGS" "Z" (.int z)) (hz : ¬ z = 0)
    (hn : cs.length = n) (hN : N = Int32.ofNat n) (l0 : 0 < n) (l2 : n ≤ 4000) (hp : ∀ c ∈ cs, ¬ c < 0 ∧ ¬ (255 : Int32) < c) (hb : bs = cs.map (fun c => c.toInt8.toInt32)) (hfr : 4 ≤ R.frames) (hlo : W + 65 ≤ R.locals) :
    Back l R p e below s args (⟨"java/lang/String", "<init>", "([C)V"⟩ : MethodName) len W (fun P a => a = #[.ref x, .ref b] ∧ P.U.heap = h ∧ P.cells + 1 ≤ R.cells ∧ P.slots + n ≤ R.slots)
      (fun P _ v B => ∃ L, QV Z x N bs h n0 v B.U.heap L ∧ B.locs = P.locs ++ L ∧ B.cells = P.cells + 1 ∧ B.slots = P.slots + n) := by
  subst hn hN hb
  refine Back.mono (backArv hZ hw wi E V C K S hz (n32 (by omega)) l0 (by omega) (fun c hc => (hp c hc).2) hfr hlo) (fun P a hp => hp) (fun P a v B hp hq => ?_)
  obtain ⟨L, ⟨q1, q2, q3, q4, q5, q6, q7, ⟨kb, v1, v2⟩, q9⟩, hl, hc, hs⟩ := hq
  exact ⟨L, ⟨q1, fun y hy => by rw [q2 y hy]; exact hx0, q3, q5, q7, h.size, kb, hh0, Nat.le_refl _, Nat.ne_of_gt E.lt, q6, by rw [List.map_map]; exact v2⟩, hl, hc, hs⟩
end StrChars.Road
namespace StrChars
open Jvm Sem ClassFile Op Lib Jvm.Stand Jvm.Free.XT Jvm.Free.ALB Jvm.Free.JM Jvm.Free
open Jvm.Lib.Cold (StaticIs)
def hi8 (x : Int32) : Int32 := lo8 (x >>> ((8 : Int32) &&& 31))
/-- what StringUTF16.getChar makes of two bytes -/
def pairCh (u v : Int32) : Int32 := (((u &&& 255) <<< ((0 : Int32) &&& 31)) ||| ((v &&& 255) <<< ((8 : Int32) &&& 31))).toUInt32.toUInt16.toUInt32.toInt32
theorem shr0 (c : Int32) : c >>> ((0 : Int32) &&& 31) = c := by
  have e : ((0 : Int32) &&& 31) = 0 := by decide
  rw [e]
  apply Int32.toBitVec_inj.mp
  rw [Int32.toBitVec_shiftRight]
  have e1 : ((0 : Int32).toBitVec.smod 32) = 0#32 := by decide
  rw [e1, BitVec.sshiftRight_eq']
  exact BitVec.sshiftRight_zero
theorem lo8_and (x : Int32) : (lo8 x &&& 255).toBitVec.toNat = x.toBitVec.toNat % 256 := by
  have h : (lo8 x).toBitVec = (x.toBitVec.signExtend 8).signExtend 32 := by rw [lo8, Int8.toBitVec_toInt32, Int32.toBitVec_toInt8]
  rw [Int32.toBitVec_and, BitVec.toNat_and, h]
  have e : ((x.toBitVec.signExtend 8).signExtend 32).toNat % 256 = x.toBitVec.toNat % 256 := by
    rw [BitVec.toNat_signExtend]
    have hlt := x.toBitVec.isLt
    simp only [BitVec.toNat_setWidth, BitVec.toNat_signExtend]
    split <;> split <;> omega
  rw [← e]
  exact Nat.and_two_pow_sub_one_eq_mod _ 8
theorem pair_says {c : Int32} (h0 : ¬ c < 0) (h1 : ¬ 65535 < c) : pairCh (lo8 c) (hi8 c) = c := by
  rw [Int32.lt_iff_toInt_lt] at h0 h1
  have e0 : (0 : Int32).toInt = 0 := rfl
  have e1 : (65535 : Int32).toInt = 65535 := rfl
  have hc : c.toInt = c.toBitVec.toNat := by
    have := c.toBitVec.isLt
    have e : c.toInt = c.toBitVec.toInt := rfl
    rw [e] at h0 h1
    rw [e]
    rw [BitVec.toInt_eq_toNat_cond] at h0 h1 ⊢
    split at h0 <;> split <;> omega
  have hn : c.toBitVec.toNat < 65536 := by omega
  have a1 := lo8_and c
  have a2 : (hi8 c &&& 255).toBitVec.toNat = c.toBitVec.toNat / 256 := by
    rw [hi8, lo8_and]
    have e : ((8 : Int32) &&& 31) = 8 := by decide
    rw [e, Int32.toBitVec_shiftRight]
    have e2 : ((8 : Int32).toBitVec.smod 32) = 8#32 := by decide
    rw [e2, BitVec.sshiftRight_eq', BitVec.toNat_sshiftRight_of_msb_false (by rw [BitVec.msb_eq_false_iff_two_mul_lt]; omega)]
    show c.toBitVec.toNat >>> 8 % 256 = _
    rw [Nat.shiftRight_eq_div_pow]
    omega
  unfold pairCh
  apply Int32.toBitVec_inj.mp
  apply BitVec.eq_of_toNat_eq
  have f0 : ((0 : Int32) &&& 31) = 0 := by decide
  have f8 : ((8 : Int32) &&& 31) = 8 := by decide
  rw [f0, f8]
  have g : (((lo8 c &&& 255) <<< (0 : Int32)) ||| ((hi8 c &&& 255) <<< (8 : Int32))).toBitVec.toNat = c.toBitVec.toNat := by
    rw [Int32.toBitVec_or, Int32.toBitVec_shiftLeft, Int32.toBitVec_shiftLeft]
    have s0 : ((0 : Int32).toBitVec.smod 32) = 0#32 := by decide
    have s8 : ((8 : Int32).toBitVec.smod 32) = 8#32 := by decide
    rw [s0, s8, BitVec.toNat_or]
    simp only [BitVec.shiftLeft_eq', BitVec.toNat_shiftLeft, a1, a2]
    show (c.toBitVec.toNat % 256) <<< 0 % 2 ^ 32 ||| (c.toBitVec.toNat / 256) <<< 8 % 2 ^ 32 = _
    rw [Nat.shiftLeft_zero, Nat.mod_eq_of_lt (show c.toBitVec.toNat % 256 < 2 ^ 32 by omega), Nat.mod_eq_of_lt (show (c.toBitVec.toNat / 256) <<< 8 < 2 ^ 32 by rw [Nat.shiftLeft_eq]; omega), Nat.or_comm, ← Nat.shiftLeft_add_eq_or_of_lt (by omega), Nat.shiftLeft_eq]
    omega
  show BitVec.toNat (((((lo8 c &&& 255) <<< (0 : Int32)) ||| ((hi8 c &&& 255) <<< (8 : Int32))).toBitVec.setWidth 16).setWidth 32) = _
  rw [BitVec.toNat_setWidth, BitVec.toNat_setWidth, g]
  omega
end StrChars
namespace StrChars
open Jvm Sem ClassFile Op Lib Jvm.Stand Jvm.Free.XT Jvm.Free.ALB Jvm.Free.JM Jvm.Free
open Jvm.Lib.Cold (StaticIs)
theorem shr1 {n : Nat} (h : 2 * n < 2 ^ 31) : Int32.ofNat (2 * n) >>> ((1 : Int32) &&& 31) = Int32.ofNat n := by
  have e : ((1 : Int32) &&& 31) = 1 := by decide
  rw [e]
  apply Int32.toBitVec_inj.mp
  rw [Int32.toBitVec_shiftRight]
  have e1 : ((1 : Int32).toBitVec.smod 32) = 1#32 := by decide
  have hm : (BitVec.ofNat 32 (2 * n)).toNat = 2 * n := by rw [BitVec.toNat_ofNat, Nat.mod_eq_of_lt (by omega)]
  rw [e1, BitVec.sshiftRight_eq']
  apply BitVec.eq_of_toNat_eq
  show ((BitVec.ofNat 32 (2 * n)).sshiftRight 1).toNat = (BitVec.ofNat 32 n).toNat
  rw [BitVec.toNat_sshiftRight_of_msb_false (by rw [BitVec.msb_eq_false_iff_two_mul_lt, hm]; omega), hm, BitVec.toNat_ofNat, Nat.shiftRight_eq_div_pow]
  omega
/-- charAt's cast of a byte read back -/
def chr8 (u : Int32) : Int32 := (u &&& 255).toUInt32.toUInt16.toUInt32.toInt32
theorem chr8_lo8 {c : Int32} (h0 : ¬ c < 0) (h1 : ¬ 255 < c) : chr8 (lo8 c) = c := by
  have t : ∀ k : Fin 256, (Int32.ofNat k.val).toUInt32.toUInt16.toUInt32.toInt32 = Int32.ofNat k.val := by decide +kernel
  unfold chr8
  rw [lo8_mask h0 h1]
  rw [Int32.lt_iff_toInt_lt] at h0 h1
  have e0 : (0 : Int32).toInt = 0 := rfl
  have e1 : (255 : Int32).toInt = 255 := rfl
  obtain ⟨k, hk⟩ : ∃ k : Nat, c.toInt = k := ⟨c.toInt.toNat, by omega⟩
  have hx : c = Int32.ofNat k := Int32.toInt_inj.mp (by rw [hk, Int32.toInt_ofNat_small (by omega)])
  rw [hx]
  exact t ⟨k, by omega⟩
theorem narrow_ch {c : Int32} (h0 : ¬ c < 0) (h1 : ¬ 65535 < c) : narrow .char (.int c) = .int c := by
  have q : narrow .char (.int (pairCh (lo8 c) (hi8 c))) = .int (pairCh (lo8 c) (hi8 c)) := narrow_c _
  rwa [pair_says h0 h1] at q
/-- the array's cell V codes the n chars f 0 .. f (n - 1) by the coder cd, as the JDK does: coder 1 just where some char is above 255 -/
def Cod (cd : Int32) (n : Nat) (f : Nat → Int32) (V : Cell) : Prop := (cd = 0 ∧ V.slots.size = n ∧ ∀ j, j < n → V.slots[j]? = some (.int (lo8 (f j))) ∧ ¬ 255 < f j) ∨ (cd = 1 ∧ V.slots.size = 2 * n ∧ (∀ j, j < n → V.slots[2 * j]? = some (.int (lo8 (f j))) ∧ V.slots[2 * j + 1]? = some (.int (hi8 (f j)))) ∧ ∃ j, j < n ∧ 255 < f j)
theorem Cod.cd {cd : Int32} {n : Nat} {f : Nat → Int32} {V : Cell} (h : Cod cd n f V) : cd = 0 ∨ cd = 1 := h.imp (fun q => q.1) fun q => q.1
theorem Cod.len {cd : Int32} {n : Nat} {f : Nat → Int32} {V : Cell} (h : Cod cd n f V) (hs : V.slots.size < 2 ^ 31) : Int32.ofNat V.slots.size >>> (cd &&& 31) = Int32.ofNat n := by
  rcases h with ⟨rfl, h, -⟩ | ⟨rfl, h, -⟩
  · rw [shr0, h]
  · rw [h, shr1 (by omega)]
/-- **x is a String of the n chars f 0 .. f (n - 1)**, Latin-1 or UTF-16; its array at t has the cell V -/
def Txt (x t : Addr) (V : Cell) (cd : Int32) (n : Nat) (f : Nat → Int32) (U : State) : Prop := Exact "java/lang/String" x U ∧ Has x "java/lang/String" "value" "[B" (.ref t) U ∧ Has x "java/lang/String" "coder" "B" (.int cd) U ∧ XT.Arr .byte t V U ∧ Cod cd n f V ∧ ∀ j, j < n → ¬ f j < 0 ∧ ¬ 65535 < f j
theorem Txt.mv {x t : Addr} {V : Cell} {cd : Int32} {n : Nat} {f : Nat → Int32} {U U' : State} (h : Txt x t V cd n f U) (hal : U.vm.Alike U'.vm) (hh : U'.heap = U.heap) : Txt x t V cd n f U' := ⟨h.1.mv hal hh, h.2.1.mv hal hh, h.2.2.1.mv hal hh, h.2.2.2.1.mv hal hh, h.2.2.2.2⟩
namespace Cdr
def yN : MethodName := ⟨"java/lang/String", "coder", "()B"⟩
abbrev yB : ByteArray := jdk_42_method_152_code
theorem d0 : decode yB 0 = .ok (.getstatic 38, 3) := by decide +kernel
theorem d3 : decode yB 3 = .ok (.ifCond (.eq) 10, 3) := by decide +kernel
theorem d6 : decode yB 6 = .ok (.aload_n 0, 1) := by decide +kernel
theorem d7 : decode yB 7 = .ok (.getfield 15, 3) := by decide +kernel
theorem d10 : decode yB 10 = .ok (.goto 4, 3) := by decide +kernel
theorem d14 : decode yB 14 = .ok (.ireturn, 1) := by decide +kernel
def site : List Cond := [.fieldLink "java/lang/String" 38 "java/lang/String" "COMPACT_STRINGS" "Z", .fieldLink "java/lang/String" 15 "java/lang/String" "coder" "B"]
def tab : Cond := tabOf yN yB 1 (some .byte) site
def P (x : Addr) (cd z : Int32) (args : Array Value) (s : State) : Prop := args = #[.ref x] ∧ Has x "java/lang/String" "coder" "B" (.int cd) s ∧ (cd = 0 ∨ cd = 1) ∧ StaticIs s "java/lang/String" "COMPACT_STRINGS" "Z" (.int z) ∧ ¬ z = 0
def E (cd : Int32) (r : Option Value) (s u : State) : Prop := XT.PureE (some (.int cd)) r s u
theorem law (l : Launch) (x : Addr) (cd z : Int32) : Law l yN 1 0 0 0 yB 1 (some .byte) site (P x cd z) (E cd) [] 0 0 := by
  refine Law.of_walk (plainFor_of_name (by decide +kernel)) (by decide +kernel) (by decide +kernel) (by decide) (fun _ _ h => by rw [h.1]; rfl) (fun _ U U' hal hh h => ⟨h.1, h.2.1.mv hal hh, h.2.2.1, h.2.2.2.1.there hal hh, h.2.2.2.2⟩) (fun r U U' V V' h1 hal h2 h => XT.PureE.mv r U U' V V' h1 hal h2 h) ?_
  intro p e s m args below meth c s₁ X0 hexec hbytes hml hret hlk hnm hown hh0 W hP
  obtain ⟨rfl, hx, hc, s1, hz⟩ := hP
  have c1 : Steps p.tables e below (s₁.setTop (entryFrame m #[.ref x] 1)) (s₁.setTop (mkF m 0 #[.val (.ref x)] [])) := entry rfl
  obtain ⟨T2, X2, q2, st2⟩ := X0.sget hexec hown (wk W (.fieldLink "java/lang/String" 38 "java/lang/String" "COMPACT_STRINGS" "Z")) s1 (fun _ _ h => by rw [hh0]; exact h) (g := (mkF m 0 #[.val (.ref x)] [])) rfl (hb hbytes d0)
  have hh2 := q2.trans hh0
  have c3 : Steps p.tables e below (s₁.setTop (entryFrame m #[.ref x] 1)) (T2.setTop (mkF m 7 #[.val (.ref x)] [.ref x])) := (c1.trans (st2 _ (Steps.refl _))).trans (by
    refine XS.ifNo X2.here hexec rfl (hb hbytes d3) rfl (i0_eq_f hz) ?_
    refine XS.aloadN X2.here hexec rfl (hb hbytes d6) rfl rfl ?_
    exact Steps.refl _)
  obtain ⟨T4, X4, q4, st4⟩ := X2.hget hexec hown (wk W (.fieldLink "java/lang/String" 15 "java/lang/String" "coder" "B")) (hx.mv X2.warmed.alike hh2) (g := (mkF m 7 #[.val (.ref x)] [.ref x])) rfl (rest := []) rfl (hb hbytes d7)
  have c5 : Steps p.tables e below (s₁.setTop (entryFrame m #[.ref x] 1)) (T4.setTop (mkF m 14 #[.val (.ref x)] [.int cd])) := (c3.trans (st4 _ (Steps.refl _))).trans (by
    refine XS.goto X4.here hexec rfl (pc0 := 10) rfl (hb hbytes d10) (by decide) rfl ?_
    exact Steps.refl _)
  exact ⟨T4, some (.int cd), _, _, _, X4, rfl, rfl, rfl, (fun h => by cases h), ⟨rfl, q4.trans hh2⟩, fun fs hl => c5.trans (X4.ireturnOut hexec hret (by rcases hc with rfl | rfl <;> rfl) (Or.inr (Or.inr (Or.inl rfl))) (hb hbytes d14) hl)⟩
end Cdr
namespace Len
def yN : MethodName := ⟨"java/lang/String", "length", "()I"⟩
abbrev yB : ByteArray := jdk_42_method_54_code
theorem d0 : decode yB 0 = .ok (.aload_n 0, 1) := by decide +kernel
theorem d1 : decode yB 1 = .ok (.getfield 9, 3) := by decide +kernel
theorem d4 : decode yB 4 = .ok (.arraylength, 1) := by decide +kernel
theorem d5 : decode yB 5 = .ok (.aload_n 0, 1) := by decide +kernel
theorem d6 : decode yB 6 = .ok (.invokevirtual 335, 3) := by decide +kernel
theorem d9 : decode yB 9 = .ok (.ishr, 1) := by decide +kernel
theorem d10 : decode yB 10 = .ok (.ireturn, 1) := by decide +kernel
def site : List Cond := [.fieldLink "java/lang/String" 9 "java/lang/String" "value" "[B", Cdr.tab] ++ virtW "java/lang/String" 335 "java/lang/String" Cdr.yN Cdr.yN
def tab : Cond := tabOf yN yB 1 (some .int) site
def P (x t : Addr) (V : Cell) (cd : Int32) (n : Nat) (f : Nat → Int32) (z : Int32) (args : Array Value) (s : State) : Prop := args = #[.ref x] ∧ Txt x t V cd n f s ∧ StaticIs s "java/lang/String" "COMPACT_STRINGS" "Z" (.int z) ∧ ¬ z = 0
def E (n : Nat) (r : Option Value) (s u : State) : Prop := XT.PureE (some (.int (Int32.ofNat n))) r s u
/-- length() of a String of n chars, in either coding -/
theorem law (l : Launch) (x t : Addr) (V : Cell) (cd : Int32) (n : Nat) (f : Nat → Int32) (z : Int32) : Law l yN 1 0 1 13 yB 1 (some .int) site (P x t V cd n f z) (E n) [] 0 0 := by
  refine Law.of_walk (plainFor_of_name (by decide +kernel)) (by decide +kernel) (by decide +kernel) (by decide) (fun _ _ h => by rw [h.1]; rfl) (fun _ U U' hal hh h => ⟨h.1, h.2.1.mv hal hh, h.2.2.1.there hal hh, h.2.2.2⟩) (fun r U U' V V' h1 hal h2 h => XT.PureE.mv r U U' V V' h1 hal h2 h) ?_
  intro p e s m args below meth c s₁ X0 hexec hbytes hml hret hlk hnm hown hh0 W hP
  obtain ⟨rfl, hx, s1, hz⟩ := hP
  have v31 := hx.2.2.2.1.2.2.2
  have c1 : Steps p.tables e below (s₁.setTop (entryFrame m #[.ref x] 1)) (s₁.setTop (mkF m 1 #[.val (.ref x)] [.ref x])) := Steps.trans (entry rfl) (by
    show Steps p.tables e below (s₁.setTop (mkF m 0 #[.val (.ref x)] [])) _
    refine XS.aloadN X0.here hexec rfl (hb hbytes d0) rfl rfl ?_
    exact Steps.refl _)
  obtain ⟨T2, X2, q2, st2⟩ := X0.hget hexec hown (wk W (.fieldLink "java/lang/String" 9 "java/lang/String" "value" "[B")) (hx.mv X0.warmed.alike hh0).2.1 (g := (mkF m 1 #[.val (.ref x)] [.ref x])) rfl (rest := []) rfl (hb hbytes d1)
  have hh2 := q2.trans hh0
  have hx2 := hx.mv X2.warmed.alike hh2
  have c3 : Steps p.tables e below (s₁.setTop (entryFrame m #[.ref x] 1)) (T2.setTop (mkF m 6 #[.val (.ref x)] [.ref x, .int (Int32.ofNat V.slots.size)])) := (c1.trans (st2 _ (Steps.refl _))).trans (by
    refine X2.alen hexec hx2.2.2.2.1 rfl rfl (hb hbytes d4) ?_
    refine XS.aloadN X2.here hexec rfl (hb hbytes d5) rfl rfl ?_
    exact Steps.refl _)
  obtain ⟨v4, T4, X4, E4, g4⟩ := X2.callV hexec (Cdr.law l x cd z) hown (wks W (virtW "java/lang/String" 335 "java/lang/String" Cdr.yN Cdr.yN)) rfl (by decide) (wk W Cdr.tab) (W := 1) (Nat.le_of_ble_eq_true rfl) (Nat.le_of_ble_eq_true rfl) (Nat.le_refl _) (Nat.le_refl _) (hx2.1.fc X2.warmed.alike) hx2.1.is (g := (mkF m 6 #[.val (.ref x)] [.ref x, .int (Int32.ofNat V.slots.size)])) rfl (by rw [hml]; rfl) c3 (argsL := []) (rest := [.int (Int32.ofNat V.slots.size)]) rfl rfl (by show 2 * 0 + (1 + 0) ≤ _; decide) (hb hbytes d6) (⟨rfl, hx2.2.2.1, hx.2.2.2.2.1.cd, s1.there X2.warmed.alike hh2, hz⟩)
  obtain ⟨rfl, q4⟩ := E4
  have c5 : Steps p.tables e below (s₁.setTop (entryFrame m #[.ref x] 1)) (T4.setTop (mkF m 10 #[.val (.ref x)] [.int (Int32.ofNat V.slots.size >>> (cd &&& 31))])) := Steps.trans g4 (by
    refine ishr X4.here hexec rfl (hb hbytes d9) rfl ?_
    exact Steps.refl _)
  rw [hx.2.2.2.2.1.len v31] at c5
  exact ⟨T4, some (.int (Int32.ofNat n)), _, _, _, X4, rfl, rfl, rfl, (fun h => by cases h), ⟨rfl, q4.trans hh2⟩, fun fs hl => c5.trans (X4.ireturnOut hexec hret rfl (Or.inl rfl) (hb hbytes d10) hl)⟩
theorem pays {l : Launch} {R : Room} {p : Program} {e : Env} {below : List Frame} {s : State} {sargs : Array Value} {len W : Nat} (x t : Addr) (V : Cell) (cd : Int32) (n : Nat) (f : Nat → Int32) (z : Int32) (htab : tab.before sargs s = true) (hfr : 2 ≤ R.frames) (hlo : W + 25 ≤ R.locals) :
    Back l R p e below s sargs yN len W (fun A₁ a₁ => A₁.cells + 0 ≤ R.cells ∧ A₁.slots + 0 ≤ R.slots ∧ P x t V cd n f z a₁ A₁.U) (fun A₁ _ v₁ B₁ => E n v₁ A₁.U B₁.U ∧ B₁.locs = A₁.locs ++ [] ∧ B₁.cells = A₁.cells + 0 ∧ B₁.slots = A₁.slots + 0) :=
  (law l x t V cd n f z).pays htab hfr (by omega)
end Len
namespace IsL
def yN : MethodName := ⟨"java/lang/String", "isLatin1", "()Z"⟩
abbrev yB : ByteArray := jdk_42_method_154_code
theorem d0 : decode yB 0 = .ok (.getstatic 38, 3) := by decide +kernel
theorem d3 : decode yB 3 = .ok (.ifCond (.eq) 14, 3) := by decide +kernel
theorem d6 : decode yB 6 = .ok (.aload_n 0, 1) := by decide +kernel
theorem d7 : decode yB 7 = .ok (.getfield 15, 3) := by decide +kernel
theorem d10 : decode yB 10 = .ok (.ifCond (.ne) 7, 3) := by decide +kernel
theorem d13 : decode yB 13 = .ok (.iconst 1, 1) := by decide +kernel
theorem d14 : decode yB 14 = .ok (.goto 4, 3) := by decide +kernel
theorem d17 : decode yB 17 = .ok (.iconst 0, 1) := by decide +kernel
theorem d18 : decode yB 18 = .ok (.ireturn, 1) := by decide +kernel
def site : List Cond := [.fieldLink "java/lang/String" 38 "java/lang/String" "COMPACT_STRINGS" "Z", .fieldLink "java/lang/String" 15 "java/lang/String" "coder" "B"]
def tab : Cond := tabOf yN yB 1 (some .boolean) site
def P (x : Addr) (cd z : Int32) (args : Array Value) (s : State) : Prop := args = #[.ref x] ∧ Has x "java/lang/String" "coder" "B" (.int cd) s ∧ (cd = 0 ∨ cd = 1) ∧ StaticIs s "java/lang/String" "COMPACT_STRINGS" "Z" (.int z) ∧ ¬ z = 0
def E (cd : Int32) (r : Option Value) (s u : State) : Prop := XT.PureE (some (.int (1 - cd))) r s u
theorem law (l : Launch) (x : Addr) (cd z : Int32) : Law l yN 1 0 0 0 yB 1 (some .boolean) site (P x cd z) (E cd) [] 0 0 := by
  refine Law.of_walk (plainFor_of_name (by decide +kernel)) (by decide +kernel) (by decide +kernel) (by decide) (fun _ _ h => by rw [h.1]; rfl) (fun _ U U' hal hh h => ⟨h.1, h.2.1.mv hal hh, h.2.2.1, h.2.2.2.1.there hal hh, h.2.2.2.2⟩) (fun r U U' V V' h1 hal h2 h => XT.PureE.mv r U U' V V' h1 hal h2 h) ?_
  intro p e s m args below meth c s₁ X0 hexec hbytes hml hret hlk hnm hown hh0 W hP
  obtain ⟨rfl, hx, hc, s1, hz⟩ := hP
  have c1 : Steps p.tables e below (s₁.setTop (entryFrame m #[.ref x] 1)) (s₁.setTop (mkF m 0 #[.val (.ref x)] [])) := entry rfl
  obtain ⟨T2, X2, q2, st2⟩ := X0.sget hexec hown (wk W (.fieldLink "java/lang/String" 38 "java/lang/String" "COMPACT_STRINGS" "Z")) s1 (fun _ _ h => by rw [hh0]; exact h) (g := (mkF m 0 #[.val (.ref x)] [])) rfl (hb hbytes d0)
  have hh2 := q2.trans hh0
  have c3 : Steps p.tables e below (s₁.setTop (entryFrame m #[.ref x] 1)) (T2.setTop (mkF m 7 #[.val (.ref x)] [.ref x])) := (c1.trans (st2 _ (Steps.refl _))).trans (by
    refine XS.ifNo X2.here hexec rfl (hb hbytes d3) rfl (i0_eq_f hz) ?_
    refine XS.aloadN X2.here hexec rfl (hb hbytes d6) rfl rfl ?_
    exact Steps.refl _)
  obtain ⟨T4, X4, q4, st4⟩ := X2.hget hexec hown (wk W (.fieldLink "java/lang/String" 15 "java/lang/String" "coder" "B")) (hx.mv X2.warmed.alike hh2) (g := (mkF m 7 #[.val (.ref x)] [.ref x])) rfl (rest := []) rfl (hb hbytes d7)
  have c5 : Steps p.tables e below (s₁.setTop (entryFrame m #[.ref x] 1)) (T4.setTop (mkF m 10 #[.val (.ref x)] [.int cd])) := c3.trans (st4 _ (Steps.refl _))
  have c6 : Steps p.tables e below (s₁.setTop (entryFrame m #[.ref x] 1)) (T4.setTop (mkF m 18 #[.val (.ref x)] [.int (1 - cd)])) := by
    rcases hc with rfl | rfl
    · exact c5.trans (by
        refine XS.ifNo X4.here hexec rfl (hb hbytes d10) rfl (i0_ne_f rfl) ?_
        refine iconstV X4.here hexec rfl 1 (hb hbytes d13) (by decide) ?_
        refine XS.goto X4.here hexec rfl (pc0 := 14) rfl (hb hbytes d14) (by decide) rfl ?_
        exact Steps.refl _)
    · exact c5.trans (by
        refine XS.ifYes X4.here hexec rfl (pc0 := 10) rfl (hb hbytes d10) rfl (i0_ne_t (by decide)) (by decide) rfl ?_
        refine iconstV X4.here hexec rfl 0 (hb hbytes d17) (by decide) ?_
        exact Steps.refl _)
  exact ⟨T4, some (.int (1 - cd)), _, _, _, X4, rfl, rfl, rfl, (fun h => by cases h), ⟨rfl, q4.trans hh2⟩, fun fs hl => c6.trans (X4.ireturnOut hexec hret (by rcases hc with rfl | rfl <;> rfl) (Or.inr (Or.inl rfl)) (hb hbytes d18) hl)⟩
end IsL
namespace LChA
def yN : MethodName := ⟨"java/lang/StringLatin1", "charAt", "([BI)C"⟩
abbrev yB : ByteArray := jdk_43_method_2_code
theorem d0 : decode yB 0 = .ok (.iload_n 1, 1) := by decide +kernel
theorem d1 : decode yB 1 = .ok (.aload_n 0, 1) := by decide +kernel
theorem d2 : decode yB 2 = .ok (.arraylength, 1) := by decide +kernel
theorem d3 : decode yB 3 = .ok (.invokestatic 9, 3) := by decide +kernel
theorem d6 : decode yB 6 = .ok (.aload_n 0, 1) := by decide +kernel
theorem d7 : decode yB 7 = .ok (.iload_n 1, 1) := by decide +kernel
theorem d8 : decode yB 8 = .ok (.baload, 1) := by decide +kernel
theorem d9 : decode yB 9 = .ok (.sipush 255, 3) := by decide +kernel
theorem d12 : decode yB 12 = .ok (.iand, 1) := by decide +kernel
theorem d13 : decode yB 13 = .ok (.i2c, 1) := by decide +kernel
theorem d14 : decode yB 14 = .ok (.ireturn, 1) := by decide +kernel
def site : List Cond := [JO.Str_checkIndex.tab] ++ staticW "java/lang/StringLatin1" 9 JO.Str_checkIndex.yN
def tab : Cond := tabOf yN yB 2 (some .char) site
def P (t : Addr) (V : Cell) (i : Nat) (u : Int32) (fm : Value) (args : Array Value) (s : State) : Prop := args = #[.ref t, .int (Int32.ofNat i)] ∧ XT.Arr .byte t V s ∧ V.slots[i]? = some (.int u) ∧ (StaticIs s "jdk/internal/util/Preconditions" "SIOOBE_FORMATTER" "Ljava/util/function/BiFunction;" fm ∧ fm.isRef = true)
def E (u : Int32) (r : Option Value) (s w : State) : Prop := XT.PureE (some (.int (chr8 u))) r s w
theorem law (l : Launch) (t : Addr) (V : Cell) (i : Nat) (u : Int32) (fm : Value) : Law l yN 2 2 2 27 yB 2 (some .char) site (P t V i u fm) (E u) [] 0 0 := by
  refine Law.of_walk (plainFor_of_name (by decide +kernel)) (by decide +kernel) (by decide +kernel) (by decide) (fun _ _ h => by rw [h.1]; rfl) (fun _ U U' hal hh h => ⟨h.1, h.2.1.mv hal hh, h.2.2.1, h.2.2.2.1.there hal hh, h.2.2.2.2⟩) (fun r U U' V V' h1 hal h2 h => XT.PureE.mv r U U' V V' h1 hal h2 h) ?_
  intro p e s m args below meth c s₁ X0 hexec hbytes hml hret hlk hnm hown hh0 W hP
  obtain ⟨rfl, hV, hu, s1, rf⟩ := hP
  have v31 := hV.2.2.2
  have hi : i < V.slots.size := (Array.getElem?_eq_some_iff.mp hu).1
  have c1 : Steps p.tables e below (s₁.setTop (entryFrame m #[.ref t, .int (Int32.ofNat i)] 2)) (s₁.setTop (mkF m 0 #[.val (.ref t), .val (.int (Int32.ofNat i))] [])) := entry rfl
  have c2 : Steps p.tables e below (s₁.setTop (entryFrame m #[.ref t, .int (Int32.ofNat i)] 2)) (s₁.setTop (mkF m 3 #[.val (.ref t), .val (.int (Int32.ofNat i))] [.int (Int32.ofNat V.slots.size), .int (Int32.ofNat i)])) := c1.trans (by
    refine XS.iloadN X0.here hexec rfl (hb hbytes d0) rfl ?_
    refine XS.aloadN X0.here hexec rfl (hb hbytes d1) rfl rfl ?_
    refine X0.alen hexec (hV.mv X0.warmed.alike hh0) rfl rfl (hb hbytes d2) ?_
    exact Steps.refl _)
  obtain ⟨v3, T3, X3, E3, g3⟩ := X0.callS hexec (JO.Str_checkIndex.law l (Int32.ofNat i) (Int32.ofNat V.slots.size) fm) hown (wks W (staticW "java/lang/StringLatin1" 9 JO.Str_checkIndex.yN)) (wk W JO.Str_checkIndex.tab) (W := 0) (Nat.le_of_ble_eq_true rfl) (Nat.le_of_ble_eq_true rfl) (Nat.le_refl _) (Nat.le_refl _) (g := (mkF m 3 #[.val (.ref t), .val (.int (Int32.ofNat i))] [.int (Int32.ofNat V.slots.size), .int (Int32.ofNat i)])) rfl (by rw [hml]; rfl) c2 (argsL := [.int (Int32.ofNat i), .int (Int32.ofNat V.slots.size)]) (rest := []) rfl rfl (by show 2 * 0 + 0 ≤ _; decide) (hb hbytes d3) (⟨rfl, rf, s1.there X0.warmed.alike hh0, Int32.ofNat_not_neg (by omega), lt32 v31 hi⟩)
  obtain ⟨rfl, q3⟩ := E3
  have hh3 := q3.trans hh0
  have c4 : Steps p.tables e below (s₁.setTop (entryFrame m #[.ref t, .int (Int32.ofNat i)] 2)) (T3.setTop (mkF m 14 #[.val (.ref t), .val (.int (Int32.ofNat i))] [.int (chr8 u)])) := Steps.trans g3 (by
    refine XS.aloadN X3.here hexec rfl (hb hbytes d6) rfl rfl ?_
    refine XS.iloadN X3.here hexec rfl (hb hbytes d7) rfl ?_
    refine X3.aget hexec (hV.mv X3.warmed.alike hh3) rfl hu rfl rfl (hb hbytes d8) ?_
    refine sipushV X3.here hexec rfl 255 (hb hbytes d9) (by decide) ?_
    refine XS.iand X3.here hexec rfl (hb hbytes d12) rfl ?_
    refine i2c X3.here hexec rfl (hb hbytes d13) rfl ?_
    exact Steps.refl _)
  exact ⟨T3, some (.int (chr8 u)), _, _, _, X3, rfl, rfl, rfl, (fun h => by cases h), ⟨rfl, hh3⟩, fun fs hl => c4.trans (X3.ireturnOut hexec hret (narrow_c _) (Or.inr (Or.inr (Or.inr (Or.inl rfl)))) (hb hbytes d14) hl)⟩
end LChA
end StrChars
namespace StrChars.Road
open Jvm Sem ClassFile Op Lib Jvm.Stand Jvm.Free Jvm.Free.XT
open Jvm.Lib.Cold (StaticIs)
theorem consq {a : Array Value} {s : State} {c : Jvm.Cond} {L : List Jvm.Cond} (h0 : c.before a s = true) (h : ∀ w ∈ L, w.before a s = true) : ∀ w ∈ c :: L, w.before a s = true := fun w hw => (List.mem_cons.mp hw).elim (fun e => e ▸ h0) (h w)
/-- the words of String.length(), either coding -/
abbrev wordsLen : List Jvm.Cond := [.code Len.yN Len.yB 1 (some .int), .initialized ST, .fieldLink ST 9 ST "value" "[B", .fieldLink ST 38 ST "COMPACT_STRINGS" "Z", .fieldLink ST 15 ST "coder" "B", .code Cdr.yN Cdr.yB 1 (some .byte), .methodLink ST 335 Cdr.yN, .declares Cdr.yN, .selects ST Cdr.yN Cdr.yN, .instanceMethod Cdr.yN]
theorem tabLen_of {a : Array Value} {s : State} (h : ∀ w ∈ wordsLen, w.before a s = true) : Len.tab.before a s = true := by
  have hc : Cdr.tab.before a s = true := unparts (wk h (.code Cdr.yN Cdr.yB 1 (some .byte))) (wks h (.initialized Cdr.yN.cls :: Cdr.site))
  have q := consq hc h
  exact unparts (wk q (.code Len.yN Len.yB 1 (some .int))) (wks q (.initialized Len.yN.cls :: Len.site))
theorem movedLen {Z s : State} {a0 args : Array Value} (hZ : Z.Warmed39 s.vm) (hw : ∀ d ∈ wordsLen, d.before a0 Z = true) : ∀ d ∈ wordsLen, d.before args s = true := fun d hd => by
  have q := hw d hd
  have t : ∀ d ∈ wordsLen, d = .arrayClass .byte ∨ (d.onTables && d.keepsFace) = true := by decide +kernel
  rcases t d hd with rfl | t
  · exact RoadKit.mvA hZ q
  · exact RoadKit.mv hZ q t
/-- the bytes of the chars cs, low before high -/
def wideBytes : List Int32 → List Value
  | [] => []
  | c :: cs => .int (lo8 c) :: .int (hi8 c) :: wideBytes cs
theorem wide_lo (d : Value) : ∀ (cs : List Int32) (j : Nat), j < cs.length → (wideBytes cs).getD (2 * j) d = .int (lo8 (cs.getD j 0))
  | [], j, h => absurd h (Nat.not_lt_zero j)
  | c :: cs, 0, _ => rfl
  | c :: cs, j + 1, h => by
    have q := wide_lo d cs j (by simpa using h)
    rw [show 2 * (j + 1) = 2 * j + 1 + 1 from by omega]
    simpa [wideBytes] using q
theorem wide_hi (d : Value) : ∀ (cs : List Int32) (j : Nat), j < cs.length → (wideBytes cs).getD (2 * j + 1) d = .int (hi8 (cs.getD j 0))
  | [], j, h => absurd h (Nat.not_lt_zero j)
  | c :: cs, 0, _ => rfl
  | c :: cs, j + 1, h => by
    have q := wide_hi d cs j (by simpa using h)
    rw [show 2 * (j + 1) + 1 = 2 * j + 1 + 1 + 1 from by omega]
    simpa [wideBytes] using q
theorem low_at (d : Value) (cs : List Int32) (j : Nat) (h : j < cs.length) : (cs.map fun c => Value.int (lo8 c)).getD j d = .int (lo8 (cs.getD j 0)) := by
  simp [List.getD_eq_getElem?_getD, h]
/-- an array of N2 bytes vs codes the chars cs by the coder cd -/
def CodA (cs : List Int32) (cd N2 : Int32) (vs : List Value) : Prop := (cd = 0 ∧ N2 = Int32.ofNat cs.length ∧ vs = (cs.map fun c => Value.int (lo8 c)) ∧ ∀ c ∈ cs, ¬ 255 < c) ∨ (cd = 1 ∧ N2 = Int32.ofNat (2 * cs.length) ∧ vs = wideBytes cs ∧ ∃ c ∈ cs, 255 < c)
theorem CodA.cod {cs : List Int32} {cd N2 : Int32} {vs : List Value} {V : Cell} (h : CodA cs cd N2 vs) (hn : 2 * cs.length < 2 ^ 31) (hs : V.slots.size = N2.toNatClampNeg) (hv : RoadKit.Has V vs (.int 0)) : Cod cd cs.length (fun j => cs.getD j 0) V := by
  rcases h with ⟨rfl, rfl, rfl, h⟩ | ⟨rfl, rfl, rfl, c, hc, hw⟩
  · rw [n32 (by omega)] at hs
    exact Or.inl ⟨rfl, hs, fun j hj => ⟨by rw [hv j (by omega), low_at _ _ _ hj], by
      have e : cs.getD j 0 = cs[j] := by simp [List.getD_eq_getElem?_getD, hj]
      show ¬ 255 < cs.getD j 0
      rw [e]; exact h _ (List.getElem_mem _)⟩⟩
  · rw [n32 (by omega)] at hs
    obtain ⟨j, hj, rfl⟩ := List.getElem_of_mem hc
    exact Or.inr ⟨rfl, hs, fun j hj => ⟨by rw [hv _ (by omega), wide_lo _ _ _ hj], by rw [hv _ (by omega), wide_hi _ _ _ hj]⟩, j, hj, by
      have e : cs.getD j 0 = cs[j] := by simp [List.getD_eq_getElem?_getD, hj]
      show 255 < cs.getD j 0
      rw [e]; exact hw⟩
/-- an object of exactly java/lang/String, its two fields found: as the laws ask it -/
theorem strObj {Z U : State} {a0 : Array Value} {kI : Nat} (wi : (Jvm.Cond.instantiable ST kI).before a0 Z = true) (al : Z.vm.Alike U.vm) {x : Addr} {v0 c0 : Value} (E : RoadKit.Exa Z U.heap x ST) (V : RoadKit.Fld Z U.heap x ST "value" "[B" v0) (C : RoadKit.Fld Z U.heap x ST "coder" "B" c0) :
    ∃ (D : Cell) (fV fC : Field), Blank ST x D U ∧ Found ST "value" "[B" fV U ∧ Found ST "coder" "B" fC U ∧ D.slots[fV.slot]? = some v0 ∧ D.slots[fC.slot]? = some c0 ∧ RoadKit.slotOf Z ST "value" "[B" = fV.slot ∧ RoadKit.slotOf Z ST "coder" "B" = fC.slot := by
  obtain ⟨D, cfV, kV, iV, fV, hD, gV, stV, knV, obV, asV, slV⟩ := V
  obtain ⟨D', cfC, kC, iC, fC, hD', gC, stC, -, -, asC, slC⟩ := C
  cases hD.symm.trans hD'
  obtain ⟨D2, kD, e1, e2, e3, e4, e5⟩ := E
  cases hD.symm.trans e1
  obtain ⟨c2, k2, i1, i2, i3, -⟩ := Cond.instantiable_spec wi
  cases e2.symm.trans i1
  cases e3.symm.trans i2
  obtain ⟨kU, u1, u2⟩ := al.2.2 _ _ e3
  exact ⟨D, fV, fC, ⟨hD, ⟨knV, fun q hq => by rw [hq] at obV; cases obV⟩, by rw [al.findClass]; exact e2, kU, u1, by rw [u2]; exact i3, by rw [u2]; exact e5 i3⟩, ⟨SBG.found_only al ⟨cfV, kV, iV, gV⟩, stV⟩, ⟨SBG.found_only al ⟨cfC, kC, iC, gC⟩, stC⟩, slV, slC, by simp [RoadKit.slotOf, gV], by simp [RoadKit.slotOf, gC]⟩
theorem sta_is {Z U : State} (al : Z.vm.Alike U.vm) {C n d : String} {v : Value} (S : RoadKit.Sta Z U.heap C n d v) : StaticIs U C n d v := by
  obtain ⟨cfS, iS, kS, fS, st, cS, t1, t2, t3, t4, t5, t6, t7⟩ := S
  exact StaticIs.there (s := { Z with heap := U.heap }) ⟨cfS, iS, kS, fS, st, cS, t1, t2, t3, t4, t5, (fun q => by rw [q] at t6; cases t6), t7⟩ al rfl
/-- **length() OF SUCH A STRING** -/
theorem lenW {p : Program} {l : Launch} {e : Env} {R : Room} {s : State} {args : Array Value} {below : List Frame} {len W : Nat} {Z : State} {a0 : Array Value} {h : Heap} (hZ : Z.Warmed39 s.vm) (hw : ∀ d ∈ wordsLen, d.before a0 Z = true) {kI : Nat} (wi : (Jvm.Cond.instantiable ST kI).before a0 Z = true)
    {x t : Addr} {kb : ClassId} {cs : List Int32} {cd N2 z : Int32} {vs : List Value} (E : RoadKit.Exa Z h x ST) (V : RoadKit.Fld Z h x ST "value" "[B" (.ref t)) (C : RoadKit.Fld Z h x ST "coder" "B" (.int cd)) (K : RoadKit.Arv Z h t kb .byte N2 vs (.int 0)) (hc : CodA cs cd N2 vs) (hb : ∀ c ∈ cs, ¬ c < 0 ∧ ¬ (65535 : Int32) < c)
    (S : RoadKit.Sta Z h ST "COMPACT_STRINGS" "Z" (.int z)) (hz : ¬ z = 0) (l2 : cs.length ≤ 4000) (hfr : 2 ≤ R.frames) (hlo : W + 25 ≤ R.locals) :
    Back l R p e below s args (⟨"java/lang/String", "length", "()I"⟩ : MethodName) len W (fun P a => a = #[.ref x] ∧ P.U.heap = h ∧ P.cells + 0 ≤ R.cells ∧ P.slots + 0 ≤ R.slots)
      (fun P _ v B => ∃ L, (v = some (.int (Int32.ofNat cs.length)) ∧ L = [] ∧ B.U.heap = h) ∧ B.locs = P.locs ++ L ∧ B.cells = P.cells + 0 ∧ B.slots = P.slots + 0) := by
  obtain ⟨A, K1, K2, K3, K4, K5, K6⟩ := K
  have hcod := hc.cod (by omega) K3 K5
  intro m meth c P g ig mk a X hg hsize hdg hW hn hp'
  obtain ⟨rfl, rfl, r1, r2⟩ := hp'
  have al : Z.vm.Alike P.U.vm := hZ.alike.trans X.warmed.alike
  obtain ⟨D, fV, fC, hB, F1, F2, g1, g2, -, -⟩ := strObj wi al E V C
  have hx : Txt x t A cd cs.length (fun j => cs.getD j 0) P.U := ⟨⟨_, hB.2.2.1, D, hB.1, rfl, by cases q : D.vm <;> first | rfl | exact absurd q (hB.2.1.2 _)⟩, Has.of hB F1 g1, Has.of hB F2 g2, ⟨K1.1, State.isArrayOf_alike al K1.2.1, K1.2.2, by rcases hcod with ⟨-, q, -⟩ | ⟨-, q, -⟩ <;> omega⟩, hcod, fun j hj => by
    have e : cs.getD j 0 = cs[j] := by simp [List.getD_eq_getElem?_getD, hj]
    show ¬ cs.getD j 0 < 0 ∧ ¬ 65535 < cs.getD j 0
    rw [e]; exact hb _ (List.getElem_mem _)⟩
  obtain ⟨v, B, X', ⟨⟨hv, hh⟩, hl, hk, hs⟩, st⟩ := Len.pays x t A cd cs.length (fun j => cs.getD j 0) z (tabLen_of (movedLen hZ hw)) hfr hlo m meth c P g ig mk _ X hg hsize hdg hW hn ⟨r1, r2, rfl, hx, sta_is al S, hz⟩
  exact ⟨v, B, X', ⟨[], ⟨hv, rfl, hh⟩, hl, hk, hs⟩, st⟩
end StrChars.Road
namespace StrChars.Road
open Jvm Sem ClassFile Op Lib Jvm.Stand Jvm.Free Jvm.Free.XT
open Jvm.Lib.Cold (StaticIs)
/-- the road's facts of a String, as the laws ask it -/
theorem txt_of {Z U : State} {a0 : Array Value} {kI : Nat} (wi : (Jvm.Cond.instantiable ST kI).before a0 Z = true) (al : Z.vm.Alike U.vm) {x t : Addr} {kb : ClassId} {cs : List Int32} {cd N2 : Int32} {vs : List Value} (E : RoadKit.Exa Z U.heap x ST) (V : RoadKit.Fld Z U.heap x ST "value" "[B" (.ref t)) (C : RoadKit.Fld Z U.heap x ST "coder" "B" (.int cd)) (K : RoadKit.Arv Z U.heap t kb .byte N2 vs (.int 0)) (hc : CodA cs cd N2 vs) (hb : ∀ c ∈ cs, ¬ c < 0 ∧ ¬ (65535 : Int32) < c) (l2 : cs.length ≤ 4000) :
    ∃ A, Txt x t A cd cs.length (fun j => cs.getD j 0) U := by
  obtain ⟨A, K1, K2, K3, K4, K5, K6⟩ := K
  have hcod := hc.cod (by omega) K3 K5
  obtain ⟨D, fV, fC, hB, F1, F2, g1, g2, -, -⟩ := strObj wi al E V C
  exact ⟨A, ⟨_, hB.2.2.1, D, hB.1, rfl, by cases q : D.vm <;> first | rfl | exact absurd q (hB.2.1.2 _)⟩, Has.of hB F1 g1, Has.of hB F2 g2, ⟨K1.1, State.isArrayOf_alike al K1.2.1, K1.2.2, by rcases hcod with ⟨-, q, -⟩ | ⟨-, q, -⟩ <;> omega⟩, hcod, fun j hj => by
    have e : cs.getD j 0 = cs[j] := by simp [List.getD_eq_getElem?_getD, hj]
    show ¬ cs.getD j 0 < 0 ∧ ¬ 65535 < cs.getD j 0
    rw [e]; exact hb _ (List.getElem_mem _)⟩
end StrChars.Road
namespace StrChars
open Jvm Sem ClassFile Op Lib Jvm.Stand Jvm.Free.XT Jvm.Free.ALB Jvm.Free.JM Jvm.Free
open Jvm.Lib.Cold (StaticIs)
namespace ChN
def yN : MethodName := ⟨"java/lang/String", "charAt", "(I)C"⟩
abbrev yB : ByteArray := jdk_42_method_56_code
theorem d0 : decode yB 0 = .ok (.aload_n 0, 1) := by decide +kernel
theorem d1 : decode yB 1 = .ok (.invokevirtual 492, 3) := by decide +kernel
theorem d4 : decode yB 4 = .ok (.ifCond (.eq) 12, 3) := by decide +kernel
theorem d7 : decode yB 7 = .ok (.aload_n 0, 1) := by decide +kernel
theorem d8 : decode yB 8 = .ok (.getfield 9, 3) := by decide +kernel
theorem d11 : decode yB 11 = .ok (.iload_n 1, 1) := by decide +kernel
theorem d12 : decode yB 12 = .ok (.invokestatic 495, 3) := by decide +kernel
theorem d15 : decode yB 15 = .ok (.ireturn, 1) := by decide +kernel
def site : List Cond := [.fieldLink "java/lang/String" 9 "java/lang/String" "value" "[B", IsL.tab, LChA.tab] ++ virtW "java/lang/String" 492 "java/lang/String" IsL.yN IsL.yN ++ staticW "java/lang/String" 495 LChA.yN
def tab : Cond := tabOf yN yB 2 (some .char) site
def P (x t : Addr) (V : Cell) (n : Nat) (f : Nat → Int32) (z : Int32) (fm : Value) (i : Nat) (args : Array Value) (s : State) : Prop := args = #[.ref x, .int (Int32.ofNat i)] ∧ Txt x t V 0 n f s ∧ i < n ∧ StaticIs s "java/lang/String" "COMPACT_STRINGS" "Z" (.int z) ∧ ¬ z = 0 ∧ StaticIs s "jdk/internal/util/Preconditions" "SIOOBE_FORMATTER" "Ljava/util/function/BiFunction;" fm ∧ fm.isRef = true
def E (f : Nat → Int32) (i : Nat) (r : Option Value) (s u : State) : Prop := XT.PureE (some (.int (f i))) r s u
/-- charAt(i) of a Latin-1 String of n chars, i < n: f i -/
theorem law (l : Launch) (x t : Addr) (V : Cell) (n : Nat) (f : Nat → Int32) (z : Int32) (fm : Value) (i : Nat) : Law l yN 2 1 3 40 yB 2 (some .char) site (P x t V n f z fm i) (E f i) [] 0 0 := by
  refine Law.of_walk (plainFor_of_name (by decide +kernel)) (by decide +kernel) (by decide +kernel) (by decide) (fun _ _ h => by rw [h.1]; rfl) (fun _ U U' hal hh h => ⟨h.1, h.2.1.mv hal hh, h.2.2.1, h.2.2.2.1.there hal hh, h.2.2.2.2.1, h.2.2.2.2.2.1.there hal hh, h.2.2.2.2.2.2⟩) (fun r U U' V V' h1 hal h2 h => XT.PureE.mv r U U' V V' h1 hal h2 h) ?_
  intro p e s m args below meth c s₁ X0 hexec hbytes hml hret hlk hnm hown hh0 W hP
  obtain ⟨rfl, hx, hi, s1, hz, s3, rf⟩ := hP
  have v31 := hx.2.2.2.1.2.2.2
  have hr := hx.2.2.2.2.2 i hi
  have hx0 := hx.mv X0.warmed.alike hh0
  have c1 : Steps p.tables e below (s₁.setTop (entryFrame m #[.ref x, .int (Int32.ofNat i)] 2)) (s₁.setTop (mkF m 1 #[.val (.ref x), .val (.int (Int32.ofNat i))] [.ref x])) := Steps.trans (entry rfl) (by
    show Steps p.tables e below (s₁.setTop (mkF m 0 #[.val (.ref x), .val (.int (Int32.ofNat i))] [])) _
    refine XS.aloadN X0.here hexec rfl (hb hbytes d0) rfl rfl ?_
    exact Steps.refl _)
  obtain ⟨v2, T2, X2, E2, g2⟩ := X0.callV hexec (IsL.law l x 0 z) hown (wks W (virtW "java/lang/String" 492 "java/lang/String" IsL.yN IsL.yN)) rfl (by decide) (wk W IsL.tab) (W := 0) (Nat.le_of_ble_eq_true rfl) (Nat.le_of_ble_eq_true rfl) (Nat.le_refl _) (Nat.le_refl _) (hx0.1.fc X0.warmed.alike) hx0.1.is (g := (mkF m 1 #[.val (.ref x), .val (.int (Int32.ofNat i))] [.ref x])) rfl (by rw [hml]; rfl) c1 (argsL := []) (rest := []) rfl rfl (by show 2 * 0 + 0 ≤ _; decide) (hb hbytes d1) (⟨rfl, hx0.2.2.1, hx.2.2.2.2.1.cd, s1.there X0.warmed.alike hh0, hz⟩)
  obtain ⟨rfl, q2⟩ := E2
  have hh2 := q2.trans hh0
  have hx2 := hx.mv X2.warmed.alike hh2
  obtain ⟨-, k1, k2⟩ | ⟨k0, -⟩ := hx.2.2.2.2.1
  · have c3 : Steps p.tables e below (s₁.setTop (entryFrame m #[.ref x, .int (Int32.ofNat i)] 2)) (T2.setTop (mkF m 8 #[.val (.ref x), .val (.int (Int32.ofNat i))] [.ref x])) := Steps.trans g2 (by
      refine XS.ifNo X2.here hexec rfl (hb hbytes d4) rfl (i0_eq_f (by decide)) ?_
      refine XS.aloadN X2.here hexec rfl (hb hbytes d7) rfl rfl ?_
      exact Steps.refl _)
    obtain ⟨T4, X4, q4, st4⟩ := X2.hget hexec hown (wk W (.fieldLink "java/lang/String" 9 "java/lang/String" "value" "[B")) hx2.2.1 (g := (mkF m 8 #[.val (.ref x), .val (.int (Int32.ofNat i))] [.ref x])) rfl (rest := []) rfl (hb hbytes d8)
    have hh4 := q4.trans hh2
    have c5 : Steps p.tables e below (s₁.setTop (entryFrame m #[.ref x, .int (Int32.ofNat i)] 2)) (T4.setTop (mkF m 12 #[.val (.ref x), .val (.int (Int32.ofNat i))] [.int (Int32.ofNat i), .ref t])) := (c3.trans (st4 _ (Steps.refl _))).trans (by
      refine XS.iloadN X4.here hexec rfl (hb hbytes d11) rfl ?_
      exact Steps.refl _)
    obtain ⟨v6, T6, X6, E6, g6⟩ := X4.callS hexec (LChA.law l t V i (lo8 (f i)) fm) hown (wks W (staticW "java/lang/String" 495 LChA.yN)) (wk W LChA.tab) (W := 0) (Nat.le_of_ble_eq_true rfl) (Nat.le_of_ble_eq_true rfl) (Nat.le_refl _) (Nat.le_refl _) (g := (mkF m 12 #[.val (.ref x), .val (.int (Int32.ofNat i))] [.int (Int32.ofNat i), .ref t])) rfl (by rw [hml]; rfl) c5 (argsL := [.ref t, .int (Int32.ofNat i)]) (rest := []) rfl rfl (by show 2 * 0 + 0 ≤ _; decide) (hb hbytes d12) (⟨rfl, hx.2.2.2.1.mv X4.warmed.alike hh4, (k2 i hi).1, s3.there X4.warmed.alike hh4, rf⟩)
    obtain ⟨rfl, q6⟩ := E6
    rw [chr8_lo8 hr.1 (k2 i hi).2] at g6
    exact ⟨T6, some (.int (f i)), _, _, _, X6, rfl, rfl, rfl, (fun h => by cases h), ⟨rfl, q6.trans hh4⟩, fun fs hl => Steps.trans g6 (X6.ireturnOut hexec hret (narrow_ch hr.1 hr.2) (Or.inr (Or.inr (Or.inr (Or.inl rfl)))) (hb hbytes d15) hl)⟩
  · exact absurd k0 (by decide)
theorem pays {l : Launch} {R : Room} {p : Program} {e : Env} {below : List Frame} {s : State} {sargs : Array Value} {len W : Nat} (x t : Addr) (V : Cell) (n : Nat) (f : Nat → Int32) (z : Int32) (fm : Value) (i : Nat) (htab : tab.before sargs s = true) (hfr : 4 ≤ R.frames) (hlo : W + 53 ≤ R.locals) :
    Back l R p e below s sargs yN len W (fun A₁ a₁ => A₁.cells + 0 ≤ R.cells ∧ A₁.slots + 0 ≤ R.slots ∧ P x t V n f z fm i a₁ A₁.U) (fun A₁ _ v₁ B₁ => E f i v₁ A₁.U B₁.U ∧ B₁.locs = A₁.locs ++ [] ∧ B₁.cells = A₁.cells + 0 ∧ B₁.slots = A₁.slots + 0) :=
  (law l x t V n f z fm i).pays htab hfr (by omega)
end ChN
end StrChars
namespace StrChars.Road
open Jvm Sem ClassFile Op Lib Jvm.Stand Jvm.Free Jvm.Free.XT
open Jvm.Lib.Cold (StaticIs)
/-- the words of String.charAt(int), the Latin-1 road alone -/
abbrev wordsChN : List Jvm.Cond := [.code ChN.yN ChN.yB 2 (some .char), .initialized ST, .fieldLink ST 9 ST "value" "[B", .fieldLink ST 38 ST "COMPACT_STRINGS" "Z", .fieldLink ST 15 ST "coder" "B", .code IsL.yN IsL.yB 1 (some .boolean), .methodLink ST 492 IsL.yN, .declares IsL.yN, .selects ST IsL.yN IsL.yN, .instanceMethod IsL.yN,
  .methodLink ST 495 LChA.yN, .static LChA.yN, .code LChA.yN LChA.yB 2 (some .char), .initialized "java/lang/StringLatin1", .methodLink "java/lang/StringLatin1" 9 JO.Str_checkIndex.yN, .static JO.Str_checkIndex.yN, .code JO.Str_checkIndex.yN JO.Str_checkIndex.yB 2 none,
  .fieldLink ST 1053 "jdk/internal/util/Preconditions" "SIOOBE_FORMATTER" "Ljava/util/function/BiFunction;", .methodLink ST 1059 JC.PreCheck.yN, .static JC.PreCheck.yN, .code JC.PreCheck.yN JC.PreCheck.yB 3 (some .int), .initialized "jdk/internal/util/Preconditions"]
theorem tabChN_of {a : Array Value} {s : State} (h : ∀ w ∈ wordsChN, w.before a s = true) : ChN.tab.before a s = true := by
  have hp : JC.PreCheck.tab.before a s = true := unparts (wk h (.code JC.PreCheck.yN JC.PreCheck.yB 3 (some .int))) (wks h (.initialized JC.PreCheck.yN.cls :: JC.PreCheck.site))
  have qk := consq hp h
  have hk : JO.Str_checkIndex.tab.before a s = true := unparts (wk qk (.code JO.Str_checkIndex.yN JO.Str_checkIndex.yB 2 none)) (wks qk (.initialized JO.Str_checkIndex.yN.cls :: JO.Str_checkIndex.site))
  have ql := consq hk h
  have hl : LChA.tab.before a s = true := unparts (wk ql (.code LChA.yN LChA.yB 2 (some .char))) (wks ql (.initialized LChA.yN.cls :: LChA.site))
  have hi : IsL.tab.before a s = true := unparts (wk h (.code IsL.yN IsL.yB 1 (some .boolean))) (wks h (.initialized IsL.yN.cls :: IsL.site))
  have q := consq hi (consq hl h)
  exact unparts (wk q (.code ChN.yN ChN.yB 2 (some .char))) (wks q (.initialized ChN.yN.cls :: ChN.site))
theorem movedChN {Z s : State} {a0 args : Array Value} (hZ : Z.Warmed39 s.vm) (hw : ∀ d ∈ wordsChN, d.before a0 Z = true) : ∀ d ∈ wordsChN, d.before args s = true := fun d hd => by
  have t : ∀ d ∈ wordsChN, (d.onTables && d.keepsFace) = true := by decide +kernel
  exact RoadKit.mv hZ (hw d hd) (t d hd)
/-- **charAt(i) OF A LATIN-1 STRING**, i < n: the char -/
theorem chN {p : Program} {l : Launch} {e : Env} {R : Room} {s : State} {args : Array Value} {below : List Frame} {len W : Nat} {Z : State} {a0 : Array Value} {h : Heap} (hZ : Z.Warmed39 s.vm) (hw : ∀ d ∈ wordsChN, d.before a0 Z = true) {kI : Nat} (wi : (Jvm.Cond.instantiable ST kI).before a0 Z = true)
    {x t : Addr} {kb : ClassId} {cs : List Int32} {N2 z : Int32} {vs : List Value} {fm : Value} {i : Nat} {j : Int32} (E : RoadKit.Exa Z h x ST) (V : RoadKit.Fld Z h x ST "value" "[B" (.ref t)) (C : RoadKit.Fld Z h x ST "coder" "B" (.int 0)) (K : RoadKit.Arv Z h t kb .byte N2 vs (.int 0)) (hc : CodA cs 0 N2 vs) (hb : ∀ c ∈ cs, ¬ c < 0 ∧ ¬ (65535 : Int32) < c)
    (S : RoadKit.Sta Z h ST "COMPACT_STRINGS" "Z" (.int z)) (hz : ¬ z = 0) (F : RoadKit.Sta Z h "jdk/internal/util/Preconditions" "SIOOBE_FORMATTER" "Ljava/util/function/BiFunction;" fm) (rf : fm.isRef = true) (l2 : cs.length ≤ 4000) (hi : i < cs.length) (hj : j = Int32.ofNat i) (hfr : 4 ≤ R.frames) (hlo : W + 53 ≤ R.locals) :
    Back l R p e below s args (⟨"java/lang/String", "charAt", "(I)C"⟩ : MethodName) len W (fun P a => a = #[.ref x, .int j] ∧ P.U.heap = h ∧ P.cells + 0 ≤ R.cells ∧ P.slots + 0 ≤ R.slots)
      (fun P _ v B => ∃ L, (v = some (.int (cs.getD i 0)) ∧ L = [] ∧ B.U.heap = h) ∧ B.locs = P.locs ++ L ∧ B.cells = P.cells + 0 ∧ B.slots = P.slots + 0) := by
  subst hj
  intro m meth c P g ig mk a X hg hsize hdg hW hn hp'
  obtain ⟨rfl, rfl, r1, r2⟩ := hp'
  have al : Z.vm.Alike P.U.vm := hZ.alike.trans X.warmed.alike
  obtain ⟨A, hx⟩ := txt_of wi al E V C K hc hb l2
  obtain ⟨v, B, X', ⟨⟨hv, hh⟩, hl, hk, hs⟩, st⟩ := ChN.pays x t A cs.length (fun j => cs.getD j 0) z fm i (tabChN_of (movedChN hZ hw)) hfr hlo m meth c P g ig mk _ X hg hsize hdg hW hn ⟨r1, r2, rfl, hx, hi, sta_is al S, hz, sta_is al F, rf⟩
  exact ⟨v, B, X', ⟨[], ⟨hv, rfl, hh⟩, hl, hk, hs⟩, st⟩
/-- what backV says of its String, as the contracts of this text ask it: cs's low bytes, coder 0 -/
theorem codOf {cs : List Int32} {n : Nat} (hn : cs.length = n) (hb : ∀ c ∈ cs, ¬ 255 < c) : CodA cs 0 (Int32.ofNat n) ((cs.map lo8).map Value.int) := Or.inl ⟨rfl, by rw [hn], by simp [List.map_map, Function.comp_def], hb⟩
end StrChars.Road
end Jvm.Pilot.@@N@@

namespace Jvm.Pilot.@@N@@
open Jvm Jvm.ClassFile Sem Op Lib Jvm.Free Jvm.Stand Jvm.LawKit Jvm.RoadKit Bundle Jvm.Ow Jvm.Pilot.@@N@@.Jvm.D
theorem wSt {a0 : Array Value} {Z : State} (hw : ∀ d ∈ tables_1, d.before a0 Z = true) : ∀ d ∈ Bundle.stringAtoms, d.before a0 Z = true := fun d hd => hw d ((by decide +kernel : ∀ d ∈ Bundle.stringAtoms, d ∈ tables_1) d hd)
theorem nref {t : FieldType} {w : Value} (h : w.isRef = true) : narrow t w = w := by cases w <;> first | (cases t <;> rfl) | cases h
theorem fref {C : String} {w : Value} (h : w.isRef = true) : fits (.object C) w = true := by cases w <;> first | rfl | cases h

theorem wCh {a0 : Array Value} {Z : State} (hw : ∀ d ∈ tables_1, d.before a0 Z = true) : ∀ d ∈ StrChars.Road.words, d.before a0 Z = true := fun d hd => hw d ((by decide +kernel : ∀ d ∈ StrChars.Road.words, d ∈ tables_1) d hd)
/-- what new String(chars) leaves -/
def QStr (Z : State) (x : Addr) (N : Int32) (cs : List Int32) (h : Heap) (v : Option Value) (u : Heap) : Prop := ∃ (t : Addr) (kb : ClassId), v = none ∧ Keep h u [x] ∧ Exa Z u x "java/lang/String" ∧ Fld Z u x "java/lang/String" "coder" "B" (.int (0 : Int32)) ∧ Fld Z u x "java/lang/String" "value" "[B" (.ref t) ∧ Arv Z u t kb .byte N ((cs.map fun c => c.toInt8.toInt32).map Value.int) (.int (0 : Int32)) ∧ h.size ≤ t
theorem payStr {p : Program} {l : Launch} {e : Env} {R : Room} {s : State} {m : MethodId} {args : Array Value} {below : List Frame} {meth : Method} {c : Code} {own : String} {Z : State} {a0 : Array Value} {EL : List (String × Nat)} {h0 : Heap} {T : State} {h : Heap} {vm : Vm} {cells slots : Nat} (X : Wk p l e R s m args below meth c own Z a0 EL h0 T h vm cells slots) {len W : Nat} (hw : ∀ d ∈ tables_1, d.before a0 Z = true) (wi : (Jvm.Cond.instantiable "java/lang/String" 4).before a0 Z = true)
    {x b : Addr} {kC : ClassId} (cs : List Int32) {d v0 c0 : Value} {z N : Int32} (n : Nat) (hx0 : Z.heap.size ≤ x) (E : Exa Z h x "java/lang/String") (V : Fld Z h x "java/lang/String" "value" "[B" v0) (C : Fld Z h x "java/lang/String" "coder" "B" c0) (K : Arv Z h b kC .char N (cs.map Value.int) d) (S : Sta Z Z.heap "java/lang/String" "COMPACT_STRINGS" "Z" (.int z)) (hz : ¬ z = 0)
    (hn : cs.length = n) (hN : N = Int32.ofNat n) (l0 : 0 < n) (l2 : n ≤ 4000) (hp : ∀ c ∈ cs, ¬ c < 0 ∧ ¬ (255 : Int32) < c) (hfr : 4 ≤ R.frames) (hlo : W + 65 ≤ R.locals) (sf : Safe Z EL vm h x) :
    Pay l R p e below s args (⟨"java/lang/String", "<init>", "([C)V"⟩ : MethodName) len W Z EL vm h #[.ref x, .ref b] 1 n (fun v _ u => QStr Z x N cs h v u) :=
  X.payN (ws := [x]) (StrChars.Road.backV (s := s.setVm vm) (n0 := Z.heap.size) X.hZ (wCh hw) wi hx0 X.ge E V C K (X.sta S) hz hn hN l0 l2 hp rfl hfr hlo)
    (fun v u L q => by obtain ⟨q1, q2, q3, q4, q5, t, kb, q6, q7, q8, q9, q10⟩ := q; exact ⟨q2, q3, t, kb, q1, q3, q4, q5, q9, q10, q7⟩) (allS hx0 all0) (sfS sf sf0)

theorem wide_of {cs : List Int32} (H : ∀ c ∈ cs, ¬ c < 0 ∧ ¬ (255 : Int32) < c) : ∀ c ∈ cs, ¬ c < 0 ∧ ¬ (65535 : Int32) < c := fun c hc => ⟨(H c hc).1, fun q => (H c hc).2 (by
  have e1 : (255 : Int32).toInt = 255 := by decide
  have e2 : (65535 : Int32).toInt = 65535 := by decide
  rw [Int32.lt_iff_toInt_lt] at q ⊢; omega)⟩
theorem cod_of {Z : State} {h : Heap} {a b : Addr} {k : ClassId} {cs : List Int32} (F : Str Z h a b k cs) : StrChars.Road.CodA cs 0 (Int32.ofNat cs.length) ((cs.map fun c => c.toInt8.toInt32).map Value.int) := StrChars.Road.codOf rfl fun c hc => (F.2.2.2.2.1 c hc).2

theorem wLen {a0 : Array Value} {Z : State} (hw : ∀ d ∈ tables_1, d.before a0 Z = true) : ∀ d ∈ StrChars.Road.wordsLen, d.before a0 Z = true := fun d hd => hw d ((by decide +kernel : ∀ d ∈ StrChars.Road.wordsLen, d ∈ tables_1) d hd)
theorem payLen {p : Program} {l : Launch} {e : Env} {R : Room} {s : State} {m : MethodId} {args : Array Value} {below : List Frame} {meth : Method} {c : Code} {own : String} {Z : State} {a0 : Array Value} {EL : List (String × Nat)} {h0 : Heap} {T : State} {h : Heap} {vm : Vm} {cells slots : Nat} (X : Wk p l e R s m args below meth c own Z a0 EL h0 T h vm cells slots) {len W : Nat} (hw : ∀ d ∈ tables_1, d.before a0 Z = true) (wi : (Jvm.Cond.instantiable "java/lang/String" 4).before a0 Z = true) {x t : Addr} {kb : ClassId} {cs : List Int32} (S1 : Str Z h x t kb cs) {z : Int32} (S : Sta Z Z.heap "java/lang/String" "COMPACT_STRINGS" "Z" (.int z)) (hz : ¬ z = 0) (hfr : 2 ≤ R.frames) (hlo : W + 25 ≤ R.locals) :
    Pay l R p e below s args (⟨"java/lang/String", "length", "()I"⟩ : MethodName) len W Z EL vm h #[.ref x] 0 0 (fun v _ u => v = some (.int (Int32.ofNat cs.length)) ∧ u = h) :=
  X.payN (ws := []) (Qn := fun v u L => v = some (.int (Int32.ofNat cs.length)) ∧ L = [] ∧ u = h) (StrChars.Road.lenW (s := s.setVm vm) X.hZ (wLen hw) wi S1.1 S1.2.2.1 S1.2.1 S1.2.2.2.1 (cod_of S1) (wide_of S1.2.2.2.2.1) (X.sta S) hz S1.2.2.2.2.2 hfr hlo)
    (fun v u L q => by obtain ⟨rfl, rfl, rfl⟩ := q; exact ⟨Fr.nil _, Keep.refl _ _, rfl, rfl⟩) all0 sf0

theorem wCN {a0 : Array Value} {Z : State} (hw : ∀ d ∈ tables_1, d.before a0 Z = true) : ∀ d ∈ StrChars.Road.wordsChN, d.before a0 Z = true := fun d hd => hw d ((by decide +kernel : ∀ d ∈ StrChars.Road.wordsChN, d ∈ tables_1) d hd)
theorem payCh {p : Program} {l : Launch} {e : Env} {R : Room} {s : State} {m : MethodId} {args : Array Value} {below : List Frame} {meth : Method} {c : Code} {own : String} {Z : State} {a0 : Array Value} {EL : List (String × Nat)} {h0 : Heap} {T : State} {h : Heap} {vm : Vm} {cells slots : Nat} (X : Wk p l e R s m args below meth c own Z a0 EL h0 T h vm cells slots) {len W : Nat} (hw : ∀ d ∈ tables_1, d.before a0 Z = true) (wi : (Jvm.Cond.instantiable "java/lang/String" 4).before a0 Z = true) {x t : Addr} {kb : ClassId} {cs : List Int32} (S1 : Str Z h x t kb cs) {z : Int32} (S : Sta Z Z.heap "java/lang/String" "COMPACT_STRINGS" "Z" (.int z)) (hz : ¬ z = 0) {fm : Value} (F : Sta Z Z.heap "jdk/internal/util/Preconditions" "SIOOBE_FORMATTER" "Ljava/util/function/BiFunction;" fm) (rf : fm.isRef = true) (i : Nat) {j : Int32} (hi : i < cs.length) (hj : j = Int32.ofNat i) (hfr : 4 ≤ R.frames) (hlo : W + 53 ≤ R.locals) :
    Pay l R p e below s args (⟨"java/lang/String", "charAt", "(I)C"⟩ : MethodName) len W Z EL vm h #[.ref x, .int j] 0 0 (fun v _ u => v = some (.int (cs.getD i 0)) ∧ u = h) :=
  X.payN (ws := []) (Qn := fun v u L => v = some (.int (cs.getD i 0)) ∧ L = [] ∧ u = h) (StrChars.Road.chN (s := s.setVm vm) X.hZ (wCN hw) wi S1.1 S1.2.2.1 S1.2.1 S1.2.2.2.1 (cod_of S1) (wide_of S1.2.2.2.2.1) (X.sta S) hz (X.sta F) rf S1.2.2.2.2.2 hi hj hfr hlo)
    (fun v u L q => by obtain ⟨rfl, rfl, rfl⟩ := q; exact ⟨Fr.nil _, Keep.refl _ _, rfl, rfl⟩) all0 sf0

theorem toN {n : Nat} (h : n ≤ 4000) : (Int32.ofNat n).toNatClampNeg = n := by
  have e1 := Int32.toInt_ofNat_small (n := n) (by omega)
  show (Int32.ofNat n).toInt.toNat = n
  rw [show (Int32.ofNat n).toInt = (n : Int) from e1]; rfl
theorem toI {n : Nat} (h : n ≤ 4000) : (Int32.ofNat n).toInt = (n : Int) := Int32.toInt_ofNat_small (n := n) (by omega)
theorem of_nlt {a b : Nat} (ha : a ≤ 4000) (hb : b ≤ 4000) (h : a ≤ b) : ¬ Int32.ofNat b < Int32.ofNat a := by
  rw [Int32.lt_iff_toInt_lt, toI ha, toI hb]; omega
theorem of_pos {a : Nat} (ha : a ≤ 4000) : ¬ Int32.ofNat a < (0 : Int32) := of_nlt (a := 0) (by omega) ha (Nat.zero_le _)
theorem of_inj {a b : Nat} (ha : a ≤ 4000) (hb : b ≤ 4000) (h : Int32.ofNat a = Int32.ofNat b) : a = b := by
  have := congrArg Int32.toInt h
  rw [toI ha, toI hb] at this; omega
theorem of_add (i k : Nat) : Int32.ofNat i + Int32.ofNat k = Int32.ofNat (i + k) := (Int32.ofNat_add i k).symm
theorem of_sub {i j : Nat} (h : i ≤ j) (hj : j ≤ 4000) : Int32.ofNat j - Int32.ofNat i = Int32.ofNat (j - i) := by
  apply Int32.toInt_inj.mp
  rw [Int32.toInt_sub, toI hj, toI (by omega), toI (by omega)]
  exact (Int.bmod_eq_of_le (by omega) (by omega)).trans (by omega)
theorem of_subl {i k n : Nat} (h : i + k ≤ n) (hn : n ≤ 4000) : ¬ (Int32.ofNat n - Int32.ofNat i) < Int32.ofNat k := by
  rw [Int32.lt_iff_toInt_lt, Int32.toInt_sub, toI hn, toI (by omega), toI (by omega), Int.bmod_eq_of_le (by omega) (by omega)]; omega
def slcV (vs : List Value) (i k : Nat) : List Value := (List.range k).map fun q => vs.getD (i + q) (Value.int (0 : Int32))
theorem copied {vs : List Value} {i k : Nat} (hi : i ≤ 4000) (hk : k ≤ 4000) : (List.replicate k (Value.int (0 : Int32))).take (0 : Int32).toNatClampNeg ++ (List.range (Int32.ofNat k).toNatClampNeg).map (fun q => vs.getD ((Int32.ofNat i).toNatClampNeg + q) (Value.int (0 : Int32))) ++ (List.replicate k (Value.int (0 : Int32))).drop ((0 : Int32).toNatClampNeg + (Int32.ofNat k).toNatClampNeg) = slcV vs i k := by
  rw [toN hk, toN hi, show (0 : Int32).toNatClampNeg = 0 from rfl]
  simp only [List.take_zero, List.nil_append, Nat.zero_add]
  rw [List.drop_of_length_le (by simp), List.append_nil]; rfl
theorem slc_by {cs : List Int32} {i k : Nat} (h : i + k ≤ cs.length) : slcV ((cs.map fun c => c.toInt8.toInt32).map Value.int) i k = ((((cs.drop i).take k).map fun c => c.toInt8.toInt32).map Value.int) := by
  unfold slcV
  apply List.ext_getElem
  · simp; omega
  · intro n h1 h2
    simp at h1
    simp [List.getD_eq_getElem?_getD, show i + n < cs.length by omega]
theorem slc_len {cs : List Int32} {i k : Nat} (h : i + k ≤ cs.length) : ((cs.drop i).take k).length = k := by simp; omega
theorem eq_of_le {a b : Int32} (h : ¬ b < a) (k : ¬ a < b) : a = b := by
  apply Int32.toInt_inj.mp
  rw [Int32.lt_iff_toInt_lt] at h k; omega
theorem slc_all {cs : List Int32} {i k : Nat} (h : i = 0) (h2 : i + k = cs.length) : cs = ((cs.drop i).take k) := by
  subst h; rw [List.drop_zero, show k = cs.length by omega, List.take_length]

def enc16 (cs : List Int32) : List Value := cs.flatMap fun c => [Value.int c.toInt8.toInt32, Value.int ((c >>> ((8 : Int32) &&& (31 : Int32))).toInt8.toInt32)]
theorem enc16_len (cs : List Int32) : (enc16 cs).length = 2 * cs.length := by
  induction cs with
  | nil => rfl
  | cons c cs ih => show (enc16 cs).length + 2 = _; rw [ih, List.length_cons]; omega
theorem by_len (cs : List Int32) : ((cs.map fun c => c.toInt8.toInt32).map Value.int).length = cs.length := by simp
theorem enc16_app (cs ds : List Int32) : enc16 cs ++ enc16 ds = enc16 (cs ++ ds) := by simp [enc16]
theorem by_app (cs ds : List Int32) : ((cs.map fun c => c.toInt8.toInt32).map Value.int) ++ ((ds.map fun c => c.toInt8.toInt32).map Value.int) = (((cs ++ ds).map fun c => c.toInt8.toInt32).map Value.int) := by simp
theorem shl0 (x : Int32) : x <<< ((0 : Int32) &&& (31 : Int32)) = x := by
  apply Int32.toBitVec_inj.mp
  simp
theorem shr0 (x : Int32) : x >>> ((0 : Int32) &&& (31 : Int32)) = x := by
  apply Int32.toBitVec_inj.mp
  simp
theorem shl1 (n : Nat) : Int32.ofNat n <<< ((1 : Int32) &&& (31 : Int32)) = Int32.ofNat (2 * n) := by
  apply Int32.toBitVec_inj.mp
  rw [Int32.toBitVec_shiftLeft]
  apply BitVec.eq_of_toNat_eq
  simp [BitVec.toNat_shiftLeft, Nat.shiftLeft_eq, Nat.mul_comm]
theorem shr1 {n : Nat} (h : n ≤ 2000) : Int32.ofNat (2 * n) >>> ((1 : Int32) &&& (31 : Int32)) = Int32.ofNat n := StrChars.shr1 (by omega)
theorem range_getD {us : List Value} {dv : Value} : (List.range us.length).map (fun i => us.getD (0 + i) dv) = us := by
  apply List.ext_getElem
  · simp
  · intro n h1 h2; simp [List.getD_eq_getElem?_getD, h2]
theorem slc_all0 (vs : List Value) : slcV vs 0 vs.length = vs := range_getD
theorem sub_np {n k : Nat} (h : n ≤ k) (hk : k ≤ 4000) : ¬ (0 : Int32) < Int32.ofNat n - Int32.ofNat k := by
  have e0 : (0 : Int32).toInt = 0 := by decide
  rw [Int32.lt_iff_toInt_lt, Int32.toInt_sub, toI (by omega), toI hk, Int.bmod_eq_of_le (by omega) (by omega), e0]; omega
theorem of_lt {a b : Nat} (hb : b ≤ 4000) (h : a < b) : Int32.ofNat a < Int32.ofNat b := by
  rw [Int32.lt_iff_toInt_lt, toI (by omega), toI hb]; omega
section Arrs
variable {Z : State} {h : Heap} {a d : Addr} {kd : ClassId} {ty : FieldType} {z : Int32} {dv : Value}
theorem catA {vs us : List Value} {k : Nat} {sp dp nn : Int32} (F : Arv Z h d kd ty z ((vs ++ List.replicate k dv).take dp.toNatClampNeg ++ (List.range nn.toNatClampNeg).map (fun i => us.getD (sp.toNatClampNeg + i) dv) ++ (vs ++ List.replicate k dv).drop (dp.toNatClampNeg + nn.toNatClampNeg)) dv) (hs : sp.toNatClampNeg = 0) (h1 : dp.toNatClampNeg = vs.length) (h2 : nn.toNatClampNeg = us.length) : Arv Z h d kd ty z (vs ++ us) dv := by
  rw [hs, h1, h2, range_getD] at F
  refine F.pad fun i => ?_
  rw [List.take_left, List.drop_append, List.drop_of_length_le (by omega), List.nil_append, List.drop_replicate]
  exact (pad_rep _ _ _ i).symm
theorem setA {vs : List Value} {v : Value} {i : Nat} (F : Arv Z h d kd ty z ((vs ++ List.replicate 1 dv).set i v) dv) (hi : i = vs.length) : Arv Z h d kd ty z (vs ++ [v]) dv := by
  subst hi
  have e : (vs ++ List.replicate 1 dv).set vs.length v = vs ++ [v] := by simp [List.set_append]
  rw [e] at F; exact F
/-- a UTF-16 String -/
def StrU (Z : State) (h : Heap) (a b : Addr) (k : ClassId) (cs : List Int32) : Prop := Exa Z h a "java/lang/String" ∧ Fld Z h a "java/lang/String" "coder" "B" (.int (1 : Int32)) ∧ Fld Z h a "java/lang/String" "value" "[B" (.ref b) ∧ Arv Z h b k .byte (Int32.ofNat (2 * cs.length)) (enc16 cs) (.int (0 : Int32)) ∧ (∀ c ∈ cs, ¬ c < 0 ∧ ¬ (65535 : Int32) < c) ∧ cs.length ≤ 2000
variable {b : Addr} {k : ClassId} {cs : List Int32} {ws : List Addr} {h' : Heap}
theorem StrU.ext (F : StrU Z h a b k cs) (E : Ext h h') : StrU Z h' a b k cs := ⟨F.1.ext E, F.2.1.ext E, F.2.2.1.ext E, F.2.2.2.1.ext E, F.2.2.2.2⟩
theorem StrU.keep (F : StrU Z h a b k cs) (K : Keep h h' ws) (q : a ∉ ws) (r : b ∉ ws) : StrU Z h' a b k cs := ⟨F.1.keep K, F.2.1.keep K q, F.2.2.1.keep K q, F.2.2.2.1.keep K r, F.2.2.2.2⟩
theorem StrU.lt (F : StrU Z h a b k cs) : a < h.size := F.1.lt
theorem StrU.lb (F : StrU Z h a b k cs) : b < h.size := F.2.2.2.1.lt
/-- either -/
def Any (Z : State) (h : Heap) (a : Addr) (cs : List Int32) : Prop := (∃ b k, Str Z h a b k cs) ∨ ∃ b k, StrU Z h a b k cs
theorem Any.exa (F : Any Z h a cs) : Exa Z h a "java/lang/String" := F.elim (fun ⟨_, _, q⟩ => q.1) fun ⟨_, _, q⟩ => q.1
theorem Any.lt (F : Any Z h a cs) : a < h.size := F.exa.lt
theorem Any.len (F : Any Z h a cs) : cs.length ≤ 4000 := F.elim (fun ⟨_, _, q⟩ => q.2.2.2.2.2) fun ⟨_, _, q⟩ => Nat.le_trans q.2.2.2.2.2 (by decide)
theorem Any.ext (F : Any Z h a cs) (E : Ext h h') : Any Z h' a cs := F.imp (fun ⟨b, k, q⟩ => ⟨b, k, q.ext E⟩) fun ⟨b, k, q⟩ => ⟨b, k, q.ext E⟩
theorem Any.keep (F : Any Z h a cs) (K : Keep h h' []) : Any Z h' a cs := F.imp (fun ⟨b, k, q⟩ => ⟨b, k, q.keep K nin0 nin0⟩) fun ⟨b, k, q⟩ => ⟨b, k, q.keep K nin0 nin0⟩
end Arrs
theorem e16_lo {cs : List Int32} {i : Nat} (h : i < cs.length) : (enc16 cs).getD (2 * i) (.int 0) = .int ((cs.getD i 0).toInt8.toInt32) := by
  induction cs generalizing i with
  | nil => simp at h
  | cons c cs ih =>
    cases i with
    | zero => rfl
    | succ i => exact ih (by simpa using h)
theorem e16_hi {cs : List Int32} {i : Nat} (h : i < cs.length) : (enc16 cs).getD (2 * i + 1) (.int 0) = .int (((cs.getD i 0) >>> ((8 : Int32) &&& (31 : Int32))).toInt8.toInt32) := by
  induction cs generalizing i with
  | nil => simp at h
  | cons c cs ih =>
    cases i with
    | zero => rfl
    | succ i => exact ih (by simpa using h)
theorem by_get {cs : List Int32} {i : Nat} (h : i < cs.length) : ((cs.map fun c => c.toInt8.toInt32).map Value.int).getD i (.int 0) = .int ((cs.getD i 0).toInt8.toInt32) := by
  simp [List.getD_eq_getElem?_getD, h]
theorem mem_getD {cs : List Int32} {i : Nat} {P : Int32 → Prop} (h : i < cs.length) (H : ∀ c ∈ cs, P c) : P (cs.getD i 0) := by
  rw [List.getD_eq_getElem?_getD, List.getElem?_eq_getElem h]; exact H _ (List.getElem_mem h)
theorem nar16 {x : Int32} (h : ¬ x < 0 ∧ ¬ (65535 : Int32) < x) : narrow .char (.int x) = .int x := by
  show Value.int _ = _
  rw [i2c_in h.1 h.2]

theorem sz4 (x : Int32) : (x &&& (3 : Int32)) = 0 ∨ (x &&& (3 : Int32)) = 1 ∨ (x &&& (3 : Int32)) = 2 ∨ (x &&& (3 : Int32)) = 3 := by
  have q := c_and x (3 : Int32) (by decide)
  have e0 : (0 : Int32).toInt = 0 := by decide
  have e1 : (1 : Int32).toInt = 1 := by decide
  have e2 : (2 : Int32).toInt = 2 := by decide
  have e3 : (3 : Int32).toInt = 3 := by decide
  simp only [← Int32.toInt_inj, e0, e1, e2, e3]; omega
theorem lo37 {u : Int32} (h : ¬ u < 0 ∧ ¬ (255 : Int32) < u) (q : (u.toInt8.toInt32) = (37 : Int32)) : u = (37 : Int32) := by
  have e := StrChars.lo8_mask h.1 h.2
  rw [← e, show StrChars.lo8 u = (37 : Int32) from q]; decide
theorem sw_yes {u : Int32} (h : ¬ u < 0 ∧ ¬ (255 : Int32) < u) (q : (if (u.toInt8.toInt32) = (37 : Int32) then (-1 : Int32) else 0) < 0) : (1 : Int32) = if u = (37 : Int32) then 1 else 0 := by
  by_cases e : (u.toInt8.toInt32) = (37 : Int32)
  · rw [if_pos (lo37 h e)]
  · rw [if_neg e] at q; exact absurd q (by decide)
theorem sw_no {u : Int32} (h : ¬ u < 0 ∧ ¬ (255 : Int32) < u) (q : ¬ (if (u.toInt8.toInt32) = (37 : Int32) then (-1 : Int32) else 0) < 0) : (0 : Int32) = if u = (37 : Int32) then 1 else 0 := by
  by_cases e : u = (37 : Int32)
  · subst e; exact absurd q (by decide)
  · rw [if_neg e]

abbrev HW (a0 : Array Value) (Z : State) : Prop := ∀ d ∈ tables_1, d.before a0 Z = true
theorem hw_at {a0 : Array Value} {Z : State} (hw : HW a0 Z) (i : Nat) {d : Jvm.Cond} (h : tables_1[i]? = some d) : d.before a0 Z = true := hw _ (List.mem_of_getElem? h)
abbrev Cx (Z : State) (a0 : Array Value) (zc : Int32) (fm : Value) : Prop := HW a0 Z ∧ (EW Z a0 consts_1) ∧ (Sta Z Z.heap "java/lang/String" "COMPACT_STRINGS" "Z" (.int zc)) ∧ (¬ zc = 0) ∧ (Sta Z Z.heap "jdk/internal/util/Preconditions" "SIOOBE_FORMATTER" "Ljava/util/function/BiFunction;" fm) ∧ (fm.isRef = true)
variable {l : Launch} {Z : State} {a0 : Array Value} {zc : Int32} {fm : Value}
theorem w0 (hw : HW a0 Z) : (Jvm.Cond.methodLink "com/example/packwright/packwright/io/SourceTreeRoutineFileNamePinLaw" 12 ⟨"com/example/packwright/packwright/io/SourceTreeRoutineFileNamePinLaw", "make", "(ICCC)Ljava/lang/String;"⟩).before a0 Z = true := hw_at hw 0 rfl
theorem w1 (hw : HW a0 Z) : (Jvm.Cond.static ⟨"com/example/packwright/packwright/io/SourceTreeRoutineFileNamePinLaw", "make", "(ICCC)Ljava/lang/String;"⟩).before a0 Z = true := hw_at hw 1 rfl
theorem w2 (hw : HW a0 Z) : (Jvm.Cond.initialized "com/example/packwright/packwright/io/SourceTreeRoutineFileNamePinLaw").before a0 Z = true := hw_at hw 2 rfl
theorem w3 (hw : HW a0 Z) : (Jvm.Cond.code ⟨"com/example/packwright/packwright/io/SourceTreeRoutineFileNamePinLaw", "make", "(ICCC)Ljava/lang/String;"⟩ method_2_code 5 (Option.some (Jvm.ClassFile.FieldType.object "java/lang/String"))).before a0 Z = true := hw_at hw 3 rfl
theorem w4 (hw : HW a0 Z) : (Jvm.Cond.classLink "com/example/packwright/packwright/io/SourceTreeRoutineFileNamePinLaw" 7 "java/lang/String").before a0 Z = true := hw_at hw 4 rfl
theorem w5 (hw : HW a0 Z) : (Jvm.Cond.instantiable "java/lang/String" 4).before a0 Z = true := hw_at hw 5 rfl
theorem w6 (hw : HW a0 Z) : (Jvm.Cond.initialized "java/lang/String").before a0 Z = true := hw_at hw 6 rfl
theorem w7 (hw : HW a0 Z) : (Jvm.Cond.arrayClass Jvm.ClassFile.FieldType.char).before a0 Z = true := hw_at hw 7 rfl
theorem w8 (hw : HW a0 Z) : (Jvm.Cond.methodLink "com/example/packwright/packwright/io/SourceTreeRoutineFileNamePinLaw" 9 ⟨"java/lang/String", "<init>", "([C)V"⟩).before a0 Z = true := hw_at hw 8 rfl
theorem w9 (hw : HW a0 Z) : (Jvm.Cond.instanceMethod ⟨"java/lang/String", "<init>", "([C)V"⟩).before a0 Z = true := hw_at hw 9 rfl
theorem w10 (hw : HW a0 Z) : (Jvm.Cond.code ⟨"java/lang/String", "<init>", "([C)V"⟩ jdk_42_method_3_code 2 (Option.none : Option Jvm.ClassFile.FieldType)).before a0 Z = true := hw_at hw 10 rfl
theorem w11 (hw : HW a0 Z) : (Jvm.Cond.methodLink "java/lang/String" 27 ⟨"java/lang/String", "<init>", "([CIILjava/lang/Void;)V"⟩).before a0 Z = true := hw_at hw 11 rfl
theorem w12 (hw : HW a0 Z) : (Jvm.Cond.instanceMethod ⟨"java/lang/String", "<init>", "([CIILjava/lang/Void;)V"⟩).before a0 Z = true := hw_at hw 12 rfl
theorem w14 (hw : HW a0 Z) : (Jvm.Cond.code ⟨"java/lang/String", "<init>", "([CIILjava/lang/Void;)V"⟩ jdk_42_method_149_code 6 (Option.none : Option Jvm.ClassFile.FieldType)).before a0 Z = true := hw_at hw 14 rfl
theorem w15 (hw : HW a0 Z) : (Jvm.Cond.methodLink "java/lang/String" 1 ⟨"java/lang/Object", "<init>", "()V"⟩).before a0 Z = true := hw_at hw 15 rfl
theorem w16 (hw : HW a0 Z) : (Jvm.Cond.instanceMethod ⟨"java/lang/Object", "<init>", "()V"⟩).before a0 Z = true := hw_at hw 16 rfl
theorem w17 (hw : HW a0 Z) : (Jvm.Cond.code ⟨"java/lang/Object", "<init>", "()V"⟩ object_method_1_code 1 (Option.none : Option Jvm.ClassFile.FieldType)).before a0 Z = true := hw_at hw 17 rfl
theorem w18 (hw : HW a0 Z) : (Jvm.Cond.stringLink "java/lang/String" 7 "").before a0 Z = true := hw_at hw 18 rfl
theorem w19 (hw : HW a0 Z) : (Jvm.Cond.arrayClass Jvm.ClassFile.FieldType.byte).before a0 Z = true := hw_at hw 19 rfl
theorem w20 (hw : HW a0 Z) : (Jvm.Cond.laysFinal "java/lang/String" "java/lang/String" "value" "[B").before a0 Z = true := hw_at hw 20 rfl
theorem w21 (hw : HW a0 Z) : (Jvm.Cond.laysFinal "java/lang/String" "java/lang/String" "coder" "B").before a0 Z = true := hw_at hw 21 rfl
theorem w24 (hw : HW a0 Z) : (Jvm.Cond.fieldLink "java/lang/String" 9 "java/lang/String" "value" "[B").before a0 Z = true := hw_at hw 24 rfl
theorem w25 (hw : HW a0 Z) : (Jvm.Cond.fieldLink "java/lang/String" 15 "java/lang/String" "coder" "B").before a0 Z = true := hw_at hw 25 rfl
theorem w26 (hw : HW a0 Z) : (Jvm.Cond.methodLink "com/example/packwright/packwright/io/SourceTreeRoutineFileNamePinLaw" 18 ⟨"com/example/packwright/packwright/io/SourceTree", "routineFileName", "(Ljava/lang/String;)Ljava/lang/String;"⟩).before a0 Z = true := hw_at hw 26 rfl
theorem w27 (hw : HW a0 Z) : (Jvm.Cond.static ⟨"com/example/packwright/packwright/io/SourceTree", "routineFileName", "(Ljava/lang/String;)Ljava/lang/String;"⟩).before a0 Z = true := hw_at hw 27 rfl
theorem w28 (hw : HW a0 Z) : (Jvm.Cond.initialized "com/example/packwright/packwright/io/SourceTree").before a0 Z = true := hw_at hw 28 rfl
theorem w29 (hw : HW a0 Z) : (Jvm.Cond.code ⟨"com/example/packwright/packwright/io/SourceTree", "routineFileName", "(Ljava/lang/String;)Ljava/lang/String;"⟩ prog_22_method_21_code 2 (Option.some (Jvm.ClassFile.FieldType.object "java/lang/String"))).before a0 Z = true := hw_at hw 29 rfl
theorem w30 (hw : HW a0 Z) : (Jvm.Cond.stringLink "com/example/packwright/packwright/io/SourceTree" 604 "%").before a0 Z = true := hw_at hw 30 rfl
theorem w31 (hw : HW a0 Z) : (Jvm.Cond.methodLink "com/example/packwright/packwright/io/SourceTree" 601 ⟨"java/lang/String", "startsWith", "(Ljava/lang/String;)Z"⟩).before a0 Z = true := hw_at hw 31 rfl
theorem w32 (hw : HW a0 Z) : (Jvm.Cond.declares ⟨"java/lang/String", "startsWith", "(Ljava/lang/String;)Z"⟩).before a0 Z = true := hw_at hw 32 rfl
theorem w33 (hw : HW a0 Z) : (Jvm.Cond.instanceMethod ⟨"java/lang/String", "startsWith", "(Ljava/lang/String;)Z"⟩).before a0 Z = true := hw_at hw 33 rfl
theorem w34 (hw : HW a0 Z) : (Jvm.Cond.selects "java/lang/String" ⟨"java/lang/String", "startsWith", "(Ljava/lang/String;)Z"⟩ ⟨"java/lang/String", "startsWith", "(Ljava/lang/String;)Z"⟩).before a0 Z = true := hw_at hw 34 rfl
theorem w35 (hw : HW a0 Z) : (Jvm.Cond.code ⟨"java/lang/String", "startsWith", "(Ljava/lang/String;)Z"⟩ jdk_42_method_76_code 2 (Option.some Jvm.ClassFile.FieldType.boolean)).before a0 Z = true := hw_at hw 35 rfl
theorem w36 (hw : HW a0 Z) : (Jvm.Cond.methodLink "java/lang/String" 624 ⟨"java/lang/String", "startsWith", "(Ljava/lang/String;I)Z"⟩).before a0 Z = true := hw_at hw 36 rfl
theorem w37 (hw : HW a0 Z) : (Jvm.Cond.declares ⟨"java/lang/String", "startsWith", "(Ljava/lang/String;I)Z"⟩).before a0 Z = true := hw_at hw 37 rfl
theorem w38 (hw : HW a0 Z) : (Jvm.Cond.instanceMethod ⟨"java/lang/String", "startsWith", "(Ljava/lang/String;I)Z"⟩).before a0 Z = true := hw_at hw 38 rfl
theorem w39 (hw : HW a0 Z) : (Jvm.Cond.selects "java/lang/String" ⟨"java/lang/String", "startsWith", "(Ljava/lang/String;I)Z"⟩ ⟨"java/lang/String", "startsWith", "(Ljava/lang/String;I)Z"⟩).before a0 Z = true := hw_at hw 39 rfl
theorem w40 (hw : HW a0 Z) : (Jvm.Cond.code ⟨"java/lang/String", "startsWith", "(Ljava/lang/String;I)Z"⟩ jdk_42_method_75_code 8 (Option.some Jvm.ClassFile.FieldType.boolean)).before a0 Z = true := hw_at hw 40 rfl
theorem w41 (hw : HW a0 Z) : (Jvm.Cond.methodLink "java/lang/String" 505 ⟨"java/lang/String", "length", "()I"⟩).before a0 Z = true := hw_at hw 41 rfl
theorem w42 (hw : HW a0 Z) : (Jvm.Cond.declares ⟨"java/lang/String", "length", "()I"⟩).before a0 Z = true := hw_at hw 42 rfl
theorem w43 (hw : HW a0 Z) : (Jvm.Cond.instanceMethod ⟨"java/lang/String", "length", "()I"⟩).before a0 Z = true := hw_at hw 43 rfl
theorem w44 (hw : HW a0 Z) : (Jvm.Cond.selects "java/lang/String" ⟨"java/lang/String", "length", "()I"⟩ ⟨"java/lang/String", "length", "()I"⟩).before a0 Z = true := hw_at hw 44 rfl
theorem w45 (hw : HW a0 Z) : (Jvm.Cond.code ⟨"java/lang/String", "length", "()I"⟩ jdk_42_method_54_code 1 (Option.some Jvm.ClassFile.FieldType.int)).before a0 Z = true := hw_at hw 45 rfl
theorem w46 (hw : HW a0 Z) : (Jvm.Cond.methodLink "java/lang/String" 335 ⟨"java/lang/String", "coder", "()B"⟩).before a0 Z = true := hw_at hw 46 rfl
theorem w47 (hw : HW a0 Z) : (Jvm.Cond.declares ⟨"java/lang/String", "coder", "()B"⟩).before a0 Z = true := hw_at hw 47 rfl
theorem w48 (hw : HW a0 Z) : (Jvm.Cond.instanceMethod ⟨"java/lang/String", "coder", "()B"⟩).before a0 Z = true := hw_at hw 48 rfl
theorem w49 (hw : HW a0 Z) : (Jvm.Cond.selects "java/lang/String" ⟨"java/lang/String", "coder", "()B"⟩ ⟨"java/lang/String", "coder", "()B"⟩).before a0 Z = true := hw_at hw 49 rfl
theorem w50 (hw : HW a0 Z) : (Jvm.Cond.code ⟨"java/lang/String", "coder", "()B"⟩ jdk_42_method_152_code 1 (Option.some Jvm.ClassFile.FieldType.byte)).before a0 Z = true := hw_at hw 50 rfl
theorem w51 (hw : HW a0 Z) : (Jvm.Cond.fieldLink "java/lang/String" 38 "java/lang/String" "COMPACT_STRINGS" "Z").before a0 Z = true := hw_at hw 51 rfl
theorem w52 (hw : HW a0 Z) : (Jvm.Cond.classLink "com/example/packwright/packwright/io/SourceTree" 47 "java/lang/StringBuilder").before a0 Z = true := hw_at hw 52 rfl
theorem w53 (hw : HW a0 Z) : (Jvm.Cond.instantiable "java/lang/StringBuilder" 4).before a0 Z = true := hw_at hw 53 rfl
theorem w54 (hw : HW a0 Z) : (Jvm.Cond.initialized "java/lang/StringBuilder").before a0 Z = true := hw_at hw 54 rfl
theorem w55 (hw : HW a0 Z) : (Jvm.Cond.methodLink "com/example/packwright/packwright/io/SourceTree" 49 ⟨"java/lang/StringBuilder", "<init>", "()V"⟩).before a0 Z = true := hw_at hw 55 rfl
theorem w56 (hw : HW a0 Z) : (Jvm.Cond.instanceMethod ⟨"java/lang/StringBuilder", "<init>", "()V"⟩).before a0 Z = true := hw_at hw 56 rfl
theorem w57 (hw : HW a0 Z) : (Jvm.Cond.code ⟨"java/lang/StringBuilder", "<init>", "()V"⟩ jdk_67_method_1_code 1 (Option.none : Option Jvm.ClassFile.FieldType)).before a0 Z = true := hw_at hw 57 rfl
theorem w58 (hw : HW a0 Z) : (Jvm.Cond.methodLink "java/lang/StringBuilder" 1 ⟨"java/lang/AbstractStringBuilder", "<init>", "(I)V"⟩).before a0 Z = true := hw_at hw 58 rfl
theorem w59 (hw : HW a0 Z) : (Jvm.Cond.instanceMethod ⟨"java/lang/AbstractStringBuilder", "<init>", "(I)V"⟩).before a0 Z = true := hw_at hw 59 rfl
theorem w62 (hw : HW a0 Z) : (Jvm.Cond.initialized "java/lang/AbstractStringBuilder").before a0 Z = true := hw_at hw 62 rfl
theorem w63 (hw : HW a0 Z) : (Jvm.Cond.code ⟨"java/lang/AbstractStringBuilder", "<init>", "(I)V"⟩ jdk_68_method_2_code 2 (Option.none : Option Jvm.ClassFile.FieldType)).before a0 Z = true := hw_at hw 63 rfl
theorem w64 (hw : HW a0 Z) : (Jvm.Cond.methodLink "java/lang/AbstractStringBuilder" 3 ⟨"java/lang/Object", "<init>", "()V"⟩).before a0 Z = true := hw_at hw 64 rfl
theorem w65 (hw : HW a0 Z) : (Jvm.Cond.fieldLink "java/lang/AbstractStringBuilder" 18 "java/lang/String" "COMPACT_STRINGS" "Z").before a0 Z = true := hw_at hw 65 rfl
theorem w66 (hw : HW a0 Z) : (Jvm.Cond.fieldLink "java/lang/AbstractStringBuilder" 15 "java/lang/AbstractStringBuilder" "value" "[B").before a0 Z = true := hw_at hw 66 rfl
theorem w67 (hw : HW a0 Z) : (Jvm.Cond.lays "java/lang/StringBuilder" "java/lang/AbstractStringBuilder" "value" "[B").before a0 Z = true := hw_at hw 67 rfl
theorem w68 (hw : HW a0 Z) : (Jvm.Cond.fieldLink "java/lang/AbstractStringBuilder" 22 "java/lang/AbstractStringBuilder" "coder" "B").before a0 Z = true := hw_at hw 68 rfl
theorem w69 (hw : HW a0 Z) : (Jvm.Cond.lays "java/lang/StringBuilder" "java/lang/AbstractStringBuilder" "coder" "B").before a0 Z = true := hw_at hw 69 rfl
theorem w70 (hw : HW a0 Z) : (Jvm.Cond.methodLink "com/example/packwright/packwright/io/SourceTree" 78 ⟨"java/lang/StringBuilder", "append", "(Ljava/lang/String;)Ljava/lang/StringBuilder;"⟩).before a0 Z = true := hw_at hw 70 rfl
theorem w71 (hw : HW a0 Z) : (Jvm.Cond.declares ⟨"java/lang/StringBuilder", "append", "(Ljava/lang/String;)Ljava/lang/StringBuilder;"⟩).before a0 Z = true := hw_at hw 71 rfl
theorem w72 (hw : HW a0 Z) : (Jvm.Cond.instanceMethod ⟨"java/lang/StringBuilder", "append", "(Ljava/lang/String;)Ljava/lang/StringBuilder;"⟩).before a0 Z = true := hw_at hw 72 rfl
theorem w73 (hw : HW a0 Z) : (Jvm.Cond.selects "java/lang/StringBuilder" ⟨"java/lang/StringBuilder", "append", "(Ljava/lang/String;)Ljava/lang/StringBuilder;"⟩ ⟨"java/lang/StringBuilder", "append", "(Ljava/lang/String;)Ljava/lang/StringBuilder;"⟩).before a0 Z = true := hw_at hw 73 rfl
theorem w74 (hw : HW a0 Z) : (Jvm.Cond.code ⟨"java/lang/StringBuilder", "append", "(Ljava/lang/String;)Ljava/lang/StringBuilder;"⟩ jdk_67_method_7_code 2 (Option.some (Jvm.ClassFile.FieldType.object "java/lang/StringBuilder"))).before a0 Z = true := hw_at hw 74 rfl
theorem w75 (hw : HW a0 Z) : (Jvm.Cond.methodLink "java/lang/StringBuilder" 29 ⟨"java/lang/AbstractStringBuilder", "append", "(Ljava/lang/String;)Ljava/lang/AbstractStringBuilder;"⟩).before a0 Z = true := hw_at hw 75 rfl
theorem w76 (hw : HW a0 Z) : (Jvm.Cond.instanceMethod ⟨"java/lang/AbstractStringBuilder", "append", "(Ljava/lang/String;)Ljava/lang/AbstractStringBuilder;"⟩).before a0 Z = true := hw_at hw 76 rfl
theorem w77 (hw : HW a0 Z) : (Jvm.Cond.superclass "java/lang/StringBuilder" "java/lang/AbstractStringBuilder").before a0 Z = true := hw_at hw 77 rfl
theorem w79 (hw : HW a0 Z) : (Jvm.Cond.code ⟨"java/lang/AbstractStringBuilder", "append", "(Ljava/lang/String;)Ljava/lang/AbstractStringBuilder;"⟩ jdk_68_method_22_code 3 (Option.some (Jvm.ClassFile.FieldType.object "java/lang/AbstractStringBuilder"))).before a0 Z = true := hw_at hw 79 rfl
theorem w80 (hw : HW a0 Z) : (Jvm.Cond.methodLink "java/lang/AbstractStringBuilder" 32 ⟨"java/lang/String", "length", "()I"⟩).before a0 Z = true := hw_at hw 80 rfl
theorem w81 (hw : HW a0 Z) : (Jvm.Cond.fieldLink "java/lang/AbstractStringBuilder" 79 "java/lang/AbstractStringBuilder" "count" "I").before a0 Z = true := hw_at hw 81 rfl
theorem w82 (hw : HW a0 Z) : (Jvm.Cond.lays "java/lang/StringBuilder" "java/lang/AbstractStringBuilder" "count" "I").before a0 Z = true := hw_at hw 82 rfl
theorem w83 (hw : HW a0 Z) : (Jvm.Cond.methodLink "java/lang/AbstractStringBuilder" 100 ⟨"java/lang/AbstractStringBuilder", "ensureCapacityInternal", "(I)V"⟩).before a0 Z = true := hw_at hw 83 rfl
theorem w84 (hw : HW a0 Z) : (Jvm.Cond.instanceMethod ⟨"java/lang/AbstractStringBuilder", "ensureCapacityInternal", "(I)V"⟩).before a0 Z = true := hw_at hw 84 rfl
theorem w85 (hw : HW a0 Z) : (Jvm.Cond.privateMethod ⟨"java/lang/AbstractStringBuilder", "ensureCapacityInternal", "(I)V"⟩).before a0 Z = true := hw_at hw 85 rfl
theorem w86 (hw : HW a0 Z) : (Jvm.Cond.selects "java/lang/StringBuilder" ⟨"java/lang/AbstractStringBuilder", "ensureCapacityInternal", "(I)V"⟩ ⟨"java/lang/AbstractStringBuilder", "ensureCapacityInternal", "(I)V"⟩).before a0 Z = true := hw_at hw 86 rfl
theorem w87 (hw : HW a0 Z) : (Jvm.Cond.code ⟨"java/lang/AbstractStringBuilder", "ensureCapacityInternal", "(I)V"⟩ jdk_68_method_9_code 3 (Option.none : Option Jvm.ClassFile.FieldType)).before a0 Z = true := hw_at hw 87 rfl
theorem w88 (hw : HW a0 Z) : (Jvm.Cond.methodLink "java/lang/AbstractStringBuilder" 208 ⟨"java/lang/AbstractStringBuilder", "putStringAt", "(ILjava/lang/String;)V"⟩).before a0 Z = true := hw_at hw 88 rfl
theorem w89 (hw : HW a0 Z) : (Jvm.Cond.instanceMethod ⟨"java/lang/AbstractStringBuilder", "putStringAt", "(ILjava/lang/String;)V"⟩).before a0 Z = true := hw_at hw 89 rfl
theorem w90 (hw : HW a0 Z) : (Jvm.Cond.privateMethod ⟨"java/lang/AbstractStringBuilder", "putStringAt", "(ILjava/lang/String;)V"⟩).before a0 Z = true := hw_at hw 90 rfl
theorem w91 (hw : HW a0 Z) : (Jvm.Cond.selects "java/lang/StringBuilder" ⟨"java/lang/AbstractStringBuilder", "putStringAt", "(ILjava/lang/String;)V"⟩ ⟨"java/lang/AbstractStringBuilder", "putStringAt", "(ILjava/lang/String;)V"⟩).before a0 Z = true := hw_at hw 91 rfl
theorem w92 (hw : HW a0 Z) : (Jvm.Cond.code ⟨"java/lang/AbstractStringBuilder", "putStringAt", "(ILjava/lang/String;)V"⟩ jdk_68_method_73_code 3 (Option.none : Option Jvm.ClassFile.FieldType)).before a0 Z = true := hw_at hw 92 rfl
theorem w93 (hw : HW a0 Z) : (Jvm.Cond.methodLink "java/lang/AbstractStringBuilder" 397 ⟨"java/lang/AbstractStringBuilder", "inflateIfNeededFor", "(Ljava/lang/String;)V"⟩).before a0 Z = true := hw_at hw 93 rfl
theorem w94 (hw : HW a0 Z) : (Jvm.Cond.instanceMethod ⟨"java/lang/AbstractStringBuilder", "inflateIfNeededFor", "(Ljava/lang/String;)V"⟩).before a0 Z = true := hw_at hw 94 rfl
theorem w95 (hw : HW a0 Z) : (Jvm.Cond.privateMethod ⟨"java/lang/AbstractStringBuilder", "inflateIfNeededFor", "(Ljava/lang/String;)V"⟩).before a0 Z = true := hw_at hw 95 rfl
theorem w96 (hw : HW a0 Z) : (Jvm.Cond.selects "java/lang/StringBuilder" ⟨"java/lang/AbstractStringBuilder", "inflateIfNeededFor", "(Ljava/lang/String;)V"⟩ ⟨"java/lang/AbstractStringBuilder", "inflateIfNeededFor", "(Ljava/lang/String;)V"⟩).before a0 Z = true := hw_at hw 96 rfl
theorem w97 (hw : HW a0 Z) : (Jvm.Cond.code ⟨"java/lang/AbstractStringBuilder", "inflateIfNeededFor", "(Ljava/lang/String;)V"⟩ jdk_68_method_71_code 2 (Option.none : Option Jvm.ClassFile.FieldType)).before a0 Z = true := hw_at hw 97 rfl
theorem w98 (hw : HW a0 Z) : (Jvm.Cond.methodLink "java/lang/AbstractStringBuilder" 40 ⟨"java/lang/String", "coder", "()B"⟩).before a0 Z = true := hw_at hw 98 rfl
theorem w99 (hw : HW a0 Z) : (Jvm.Cond.methodLink "java/lang/AbstractStringBuilder" 399 ⟨"java/lang/String", "getBytes", "([BIB)V"⟩).before a0 Z = true := hw_at hw 99 rfl
theorem w100 (hw : HW a0 Z) : (Jvm.Cond.declares ⟨"java/lang/String", "getBytes", "([BIB)V"⟩).before a0 Z = true := hw_at hw 100 rfl
theorem w101 (hw : HW a0 Z) : (Jvm.Cond.instanceMethod ⟨"java/lang/String", "getBytes", "([BIB)V"⟩).before a0 Z = true := hw_at hw 101 rfl
theorem w102 (hw : HW a0 Z) : (Jvm.Cond.selects "java/lang/String" ⟨"java/lang/String", "getBytes", "([BIB)V"⟩ ⟨"java/lang/String", "getBytes", "([BIB)V"⟩).before a0 Z = true := hw_at hw 102 rfl
theorem w103 (hw : HW a0 Z) : (Jvm.Cond.code ⟨"java/lang/String", "getBytes", "([BIB)V"⟩ jdk_42_method_147_code 4 (Option.none : Option Jvm.ClassFile.FieldType)).before a0 Z = true := hw_at hw 103 rfl
theorem w104 (hw : HW a0 Z) : (Jvm.Cond.methodLink "java/lang/String" 212 ⟨"java/lang/System", "arraycopy", "(Ljava/lang/Object;ILjava/lang/Object;II)V"⟩).before a0 Z = true := hw_at hw 104 rfl
theorem w105 (hw : HW a0 Z) : (Jvm.Cond.static ⟨"java/lang/System", "arraycopy", "(Ljava/lang/Object;ILjava/lang/Object;II)V"⟩).before a0 Z = true := hw_at hw 105 rfl
theorem w106 (hw : HW a0 Z) : (Jvm.Cond.initialized "java/lang/System").before a0 Z = true := hw_at hw 106 rfl
theorem w107 (hw : HW a0 Z) : (Jvm.Cond.native ⟨"java/lang/System", "arraycopy", "(Ljava/lang/Object;ILjava/lang/Object;II)V"⟩).before a0 Z = true := hw_at hw 107 rfl
theorem w108 (hw : HW a0 Z) : (Jvm.Cond.stringLink "com/example/packwright/packwright/io/SourceTree" 593 ".m").before a0 Z = true := hw_at hw 108 rfl
theorem w109 (hw : HW a0 Z) : (Jvm.Cond.methodLink "com/example/packwright/packwright/io/SourceTree" 89 ⟨"java/lang/StringBuilder", "toString", "()Ljava/lang/String;"⟩).before a0 Z = true := hw_at hw 109 rfl
theorem w110 (hw : HW a0 Z) : (Jvm.Cond.declares ⟨"java/lang/StringBuilder", "toString", "()Ljava/lang/String;"⟩).before a0 Z = true := hw_at hw 110 rfl
theorem w111 (hw : HW a0 Z) : (Jvm.Cond.instanceMethod ⟨"java/lang/StringBuilder", "toString", "()Ljava/lang/String;"⟩).before a0 Z = true := hw_at hw 111 rfl
theorem w112 (hw : HW a0 Z) : (Jvm.Cond.selects "java/lang/StringBuilder" ⟨"java/lang/StringBuilder", "toString", "()Ljava/lang/String;"⟩ ⟨"java/lang/StringBuilder", "toString", "()Ljava/lang/String;"⟩).before a0 Z = true := hw_at hw 112 rfl
theorem w113 (hw : HW a0 Z) : (Jvm.Cond.code ⟨"java/lang/StringBuilder", "toString", "()Ljava/lang/String;"⟩ jdk_67_method_42_code 1 (Option.some (Jvm.ClassFile.FieldType.object "java/lang/String"))).before a0 Z = true := hw_at hw 113 rfl
theorem w114 (hw : HW a0 Z) : (Jvm.Cond.classLink "java/lang/StringBuilder" 18 "java/lang/String").before a0 Z = true := hw_at hw 114 rfl
theorem w115 (hw : HW a0 Z) : (Jvm.Cond.methodLink "java/lang/StringBuilder" 137 ⟨"java/lang/String", "<init>", "(Ljava/lang/StringBuilder;)V"⟩).before a0 Z = true := hw_at hw 115 rfl
theorem w116 (hw : HW a0 Z) : (Jvm.Cond.instanceMethod ⟨"java/lang/String", "<init>", "(Ljava/lang/StringBuilder;)V"⟩).before a0 Z = true := hw_at hw 116 rfl
theorem w117 (hw : HW a0 Z) : (Jvm.Cond.code ⟨"java/lang/String", "<init>", "(Ljava/lang/StringBuilder;)V"⟩ jdk_42_method_53_code 2 (Option.none : Option Jvm.ClassFile.FieldType)).before a0 Z = true := hw_at hw 117 rfl
theorem w118 (hw : HW a0 Z) : (Jvm.Cond.methodLink "java/lang/String" 489 ⟨"java/lang/String", "<init>", "(Ljava/lang/AbstractStringBuilder;Ljava/lang/Void;)V"⟩).before a0 Z = true := hw_at hw 118 rfl
theorem w119 (hw : HW a0 Z) : (Jvm.Cond.instanceMethod ⟨"java/lang/String", "<init>", "(Ljava/lang/AbstractStringBuilder;Ljava/lang/Void;)V"⟩).before a0 Z = true := hw_at hw 119 rfl
theorem w120 (hw : HW a0 Z) : (Jvm.Cond.code ⟨"java/lang/String", "<init>", "(Ljava/lang/AbstractStringBuilder;Ljava/lang/Void;)V"⟩ jdk_42_method_150_code 5 (Option.none : Option Jvm.ClassFile.FieldType)).before a0 Z = true := hw_at hw 120 rfl
theorem w121 (hw : HW a0 Z) : (Jvm.Cond.methodLink "java/lang/String" 552 ⟨"java/lang/AbstractStringBuilder", "getValue", "()[B"⟩).before a0 Z = true := hw_at hw 121 rfl
theorem w122 (hw : HW a0 Z) : (Jvm.Cond.declares ⟨"java/lang/AbstractStringBuilder", "getValue", "()[B"⟩).before a0 Z = true := hw_at hw 122 rfl
theorem w123 (hw : HW a0 Z) : (Jvm.Cond.instanceMethod ⟨"java/lang/AbstractStringBuilder", "getValue", "()[B"⟩).before a0 Z = true := hw_at hw 123 rfl
theorem w124 (hw : HW a0 Z) : (Jvm.Cond.selects "java/lang/StringBuilder" ⟨"java/lang/AbstractStringBuilder", "getValue", "()[B"⟩ ⟨"java/lang/AbstractStringBuilder", "getValue", "()[B"⟩).before a0 Z = true := hw_at hw 124 rfl
theorem w125 (hw : HW a0 Z) : (Jvm.Cond.code ⟨"java/lang/AbstractStringBuilder", "getValue", "()[B"⟩ jdk_68_method_64_code 1 (Option.some (Jvm.ClassFile.FieldType.array Jvm.ClassFile.FieldType.byte))).before a0 Z = true := hw_at hw 125 rfl
theorem w126 (hw : HW a0 Z) : (Jvm.Cond.methodLink "java/lang/String" 549 ⟨"java/lang/AbstractStringBuilder", "length", "()I"⟩).before a0 Z = true := hw_at hw 126 rfl
theorem w127 (hw : HW a0 Z) : (Jvm.Cond.declares ⟨"java/lang/AbstractStringBuilder", "length", "()I"⟩).before a0 Z = true := hw_at hw 127 rfl
theorem w128 (hw : HW a0 Z) : (Jvm.Cond.instanceMethod ⟨"java/lang/AbstractStringBuilder", "length", "()I"⟩).before a0 Z = true := hw_at hw 128 rfl
theorem w129 (hw : HW a0 Z) : (Jvm.Cond.selects "java/lang/StringBuilder" ⟨"java/lang/AbstractStringBuilder", "length", "()I"⟩ ⟨"java/lang/StringBuilder", "length", "()I"⟩).before a0 Z = true := hw_at hw 129 rfl
theorem w130 (hw : HW a0 Z) : (Jvm.Cond.instanceMethod ⟨"java/lang/StringBuilder", "length", "()I"⟩).before a0 Z = true := hw_at hw 130 rfl
theorem w131 (hw : HW a0 Z) : (Jvm.Cond.code ⟨"java/lang/StringBuilder", "length", "()I"⟩ jdk_67_method_93_code 1 (Option.some Jvm.ClassFile.FieldType.int)).before a0 Z = true := hw_at hw 131 rfl
theorem w132 (hw : HW a0 Z) : (Jvm.Cond.methodLink "java/lang/StringBuilder" 343 ⟨"java/lang/AbstractStringBuilder", "length", "()I"⟩).before a0 Z = true := hw_at hw 132 rfl
theorem w133 (hw : HW a0 Z) : (Jvm.Cond.code ⟨"java/lang/AbstractStringBuilder", "length", "()I"⟩ jdk_68_method_6_code 1 (Option.some Jvm.ClassFile.FieldType.int)).before a0 Z = true := hw_at hw 133 rfl
theorem w134 (hw : HW a0 Z) : (Jvm.Cond.methodLink "java/lang/String" 1047 ⟨"java/lang/AbstractStringBuilder", "isLatin1", "()Z"⟩).before a0 Z = true := hw_at hw 134 rfl
theorem w135 (hw : HW a0 Z) : (Jvm.Cond.declares ⟨"java/lang/AbstractStringBuilder", "isLatin1", "()Z"⟩).before a0 Z = true := hw_at hw 135 rfl
theorem w136 (hw : HW a0 Z) : (Jvm.Cond.instanceMethod ⟨"java/lang/AbstractStringBuilder", "isLatin1", "()Z"⟩).before a0 Z = true := hw_at hw 136 rfl
theorem w137 (hw : HW a0 Z) : (Jvm.Cond.selects "java/lang/StringBuilder" ⟨"java/lang/AbstractStringBuilder", "isLatin1", "()Z"⟩ ⟨"java/lang/AbstractStringBuilder", "isLatin1", "()Z"⟩).before a0 Z = true := hw_at hw 137 rfl
theorem w138 (hw : HW a0 Z) : (Jvm.Cond.code ⟨"java/lang/AbstractStringBuilder", "isLatin1", "()Z"⟩ jdk_68_method_68_code 1 (Option.some Jvm.ClassFile.FieldType.boolean)).before a0 Z = true := hw_at hw 138 rfl
theorem w139 (hw : HW a0 Z) : (Jvm.Cond.methodLink "java/lang/String" 54 ⟨"java/util/Arrays", "copyOfRange", "([BII)[B"⟩).before a0 Z = true := hw_at hw 139 rfl
theorem w140 (hw : HW a0 Z) : (Jvm.Cond.static ⟨"java/util/Arrays", "copyOfRange", "([BII)[B"⟩).before a0 Z = true := hw_at hw 140 rfl
theorem w141 (hw : HW a0 Z) : (Jvm.Cond.initialized "java/util/Arrays").before a0 Z = true := hw_at hw 141 rfl
theorem w142 (hw : HW a0 Z) : (Jvm.Cond.code ⟨"java/util/Arrays", "copyOfRange", "([BII)[B"⟩ jdk_65_method_132_code 3 (Option.some (Jvm.ClassFile.FieldType.array Jvm.ClassFile.FieldType.byte))).before a0 Z = true := hw_at hw 142 rfl
theorem w143 (hw : HW a0 Z) : (Jvm.Cond.methodLink "java/util/Arrays" 339 ⟨"java/util/Arrays", "copyOfRangeByte", "([BII)[B"⟩).before a0 Z = true := hw_at hw 143 rfl
theorem w144 (hw : HW a0 Z) : (Jvm.Cond.static ⟨"java/util/Arrays", "copyOfRangeByte", "([BII)[B"⟩).before a0 Z = true := hw_at hw 144 rfl
theorem w145 (hw : HW a0 Z) : (Jvm.Cond.code ⟨"java/util/Arrays", "copyOfRangeByte", "([BII)[B"⟩ jdk_65_method_133_code 5 (Option.some (Jvm.ClassFile.FieldType.array Jvm.ClassFile.FieldType.byte))).before a0 Z = true := hw_at hw 145 rfl
theorem w146 (hw : HW a0 Z) : (Jvm.Cond.methodLink "java/util/Arrays" 343 ⟨"java/util/Arrays", "checkLength", "(II)V"⟩).before a0 Z = true := hw_at hw 146 rfl
theorem w147 (hw : HW a0 Z) : (Jvm.Cond.static ⟨"java/util/Arrays", "checkLength", "(II)V"⟩).before a0 Z = true := hw_at hw 147 rfl
theorem w148 (hw : HW a0 Z) : (Jvm.Cond.code ⟨"java/util/Arrays", "checkLength", "(II)V"⟩ jdk_65_method_131_code 2 (Option.none : Option Jvm.ClassFile.FieldType)).before a0 Z = true := hw_at hw 148 rfl
theorem w149 (hw : HW a0 Z) : (Jvm.Cond.methodLink "java/util/Arrays" 304 ⟨"java/lang/Math", "min", "(II)I"⟩).before a0 Z = true := hw_at hw 149 rfl
theorem w150 (hw : HW a0 Z) : (Jvm.Cond.static ⟨"java/lang/Math", "min", "(II)I"⟩).before a0 Z = true := hw_at hw 150 rfl
theorem w151 (hw : HW a0 Z) : (Jvm.Cond.initialized "java/lang/Math").before a0 Z = true := hw_at hw 151 rfl
theorem w152 (hw : HW a0 Z) : (Jvm.Cond.code ⟨"java/lang/Math", "min", "(II)I"⟩ jdk_29_method_69_code 2 (Option.some Jvm.ClassFile.FieldType.int)).before a0 Z = true := hw_at hw 152 rfl
theorem w153 (hw : HW a0 Z) : (Jvm.Cond.methodLink "java/util/Arrays" 150 ⟨"java/lang/System", "arraycopy", "(Ljava/lang/Object;ILjava/lang/Object;II)V"⟩).before a0 Z = true := hw_at hw 153 rfl
theorem w154 (hw : HW a0 Z) : (Jvm.Cond.methodLink "com/example/packwright/packwright/io/SourceTreeRoutineFileNamePinLaw" 24 ⟨"java/lang/String", "length", "()I"⟩).before a0 Z = true := hw_at hw 154 rfl
theorem w155 (hw : HW a0 Z) : (Jvm.Cond.methodLink "com/example/packwright/packwright/io/SourceTreeRoutineFileNamePinLaw" 28 ⟨"java/lang/String", "charAt", "(I)C"⟩).before a0 Z = true := hw_at hw 155 rfl
theorem w156 (hw : HW a0 Z) : (Jvm.Cond.declares ⟨"java/lang/String", "charAt", "(I)C"⟩).before a0 Z = true := hw_at hw 156 rfl
theorem w157 (hw : HW a0 Z) : (Jvm.Cond.instanceMethod ⟨"java/lang/String", "charAt", "(I)C"⟩).before a0 Z = true := hw_at hw 157 rfl
theorem w158 (hw : HW a0 Z) : (Jvm.Cond.selects "java/lang/String" ⟨"java/lang/String", "charAt", "(I)C"⟩ ⟨"java/lang/String", "charAt", "(I)C"⟩).before a0 Z = true := hw_at hw 158 rfl
theorem w160 (hw : HW a0 Z) : (Jvm.Cond.methodLink "java/lang/String" 492 ⟨"java/lang/String", "isLatin1", "()Z"⟩).before a0 Z = true := hw_at hw 160 rfl
theorem w161 (hw : HW a0 Z) : (Jvm.Cond.declares ⟨"java/lang/String", "isLatin1", "()Z"⟩).before a0 Z = true := hw_at hw 161 rfl
theorem w162 (hw : HW a0 Z) : (Jvm.Cond.instanceMethod ⟨"java/lang/String", "isLatin1", "()Z"⟩).before a0 Z = true := hw_at hw 162 rfl
theorem w163 (hw : HW a0 Z) : (Jvm.Cond.selects "java/lang/String" ⟨"java/lang/String", "isLatin1", "()Z"⟩ ⟨"java/lang/String", "isLatin1", "()Z"⟩).before a0 Z = true := hw_at hw 163 rfl
theorem w164 (hw : HW a0 Z) : (Jvm.Cond.code ⟨"java/lang/String", "isLatin1", "()Z"⟩ jdk_42_method_154_code 1 (Option.some Jvm.ClassFile.FieldType.boolean)).before a0 Z = true := hw_at hw 164 rfl
theorem w167 (hw : HW a0 Z) : (Jvm.Cond.initialized "java/lang/StringLatin1").before a0 Z = true := hw_at hw 167 rfl
theorem w172 (hw : HW a0 Z) : (Jvm.Cond.fieldLink "java/lang/String" 1053 "jdk/internal/util/Preconditions" "SIOOBE_FORMATTER" "Ljava/util/function/BiFunction;").before a0 Z = true := hw_at hw 172 rfl
theorem w173 (hw : HW a0 Z) : (Jvm.Cond.initialized "jdk/internal/util/Preconditions").before a0 Z = true := hw_at hw 173 rfl
theorem w187 (hw : HW a0 Z) : (Jvm.Cond.methodLink "java/lang/String" 607 ⟨"jdk/internal/util/ArraysSupport", "mismatch", "([BI[BII)I"⟩).before a0 Z = true := hw_at hw 187 rfl
theorem w188 (hw : HW a0 Z) : (Jvm.Cond.static ⟨"jdk/internal/util/ArraysSupport", "mismatch", "([BI[BII)I"⟩).before a0 Z = true := hw_at hw 188 rfl
theorem w189 (hw : HW a0 Z) : (Jvm.Cond.initialized "jdk/internal/util/ArraysSupport").before a0 Z = true := hw_at hw 189 rfl
theorem w190 (hw : HW a0 Z) : (Jvm.Cond.code ⟨"jdk/internal/util/ArraysSupport", "mismatch", "([BI[BII)I"⟩ jdk_48_method_14_code 8 (Option.some Jvm.ClassFile.FieldType.int)).before a0 Z = true := hw_at hw 190 rfl
theorem w191 (hw : HW a0 Z) : (Jvm.Cond.stringLink "com/example/packwright/packwright/io/SourceTree" 599 "_").before a0 Z = true := hw_at hw 191 rfl
theorem w192 (hw : HW a0 Z) : (Jvm.Cond.methodLink "com/example/packwright/packwright/io/SourceTree" 606 ⟨"java/lang/String", "substring", "(I)Ljava/lang/String;"⟩).before a0 Z = true := hw_at hw 192 rfl
theorem w193 (hw : HW a0 Z) : (Jvm.Cond.declares ⟨"java/lang/String", "substring", "(I)Ljava/lang/String;"⟩).before a0 Z = true := hw_at hw 193 rfl
theorem w194 (hw : HW a0 Z) : (Jvm.Cond.instanceMethod ⟨"java/lang/String", "substring", "(I)Ljava/lang/String;"⟩).before a0 Z = true := hw_at hw 194 rfl
theorem w195 (hw : HW a0 Z) : (Jvm.Cond.selects "java/lang/String" ⟨"java/lang/String", "substring", "(I)Ljava/lang/String;"⟩ ⟨"java/lang/String", "substring", "(I)Ljava/lang/String;"⟩).before a0 Z = true := hw_at hw 195 rfl
theorem w196 (hw : HW a0 Z) : (Jvm.Cond.code ⟨"java/lang/String", "substring", "(I)Ljava/lang/String;"⟩ jdk_42_method_91_code 2 (Option.some (Jvm.ClassFile.FieldType.object "java/lang/String"))).before a0 Z = true := hw_at hw 196 rfl
theorem w197 (hw : HW a0 Z) : (Jvm.Cond.methodLink "java/lang/String" 681 ⟨"java/lang/String", "substring", "(II)Ljava/lang/String;"⟩).before a0 Z = true := hw_at hw 197 rfl
theorem w198 (hw : HW a0 Z) : (Jvm.Cond.declares ⟨"java/lang/String", "substring", "(II)Ljava/lang/String;"⟩).before a0 Z = true := hw_at hw 198 rfl
theorem w199 (hw : HW a0 Z) : (Jvm.Cond.instanceMethod ⟨"java/lang/String", "substring", "(II)Ljava/lang/String;"⟩).before a0 Z = true := hw_at hw 199 rfl
theorem w200 (hw : HW a0 Z) : (Jvm.Cond.selects "java/lang/String" ⟨"java/lang/String", "substring", "(II)Ljava/lang/String;"⟩ ⟨"java/lang/String", "substring", "(II)Ljava/lang/String;"⟩).before a0 Z = true := hw_at hw 200 rfl
theorem w201 (hw : HW a0 Z) : (Jvm.Cond.code ⟨"java/lang/String", "substring", "(II)Ljava/lang/String;"⟩ jdk_42_method_92_code 5 (Option.some (Jvm.ClassFile.FieldType.object "java/lang/String"))).before a0 Z = true := hw_at hw 201 rfl
theorem w202 (hw : HW a0 Z) : (Jvm.Cond.methodLink "java/lang/String" 521 ⟨"java/lang/String", "checkBoundsBeginEnd", "(III)V"⟩).before a0 Z = true := hw_at hw 202 rfl
theorem w203 (hw : HW a0 Z) : (Jvm.Cond.static ⟨"java/lang/String", "checkBoundsBeginEnd", "(III)V"⟩).before a0 Z = true := hw_at hw 203 rfl
theorem w204 (hw : HW a0 Z) : (Jvm.Cond.code ⟨"java/lang/String", "checkBoundsBeginEnd", "(III)V"⟩ jdk_42_method_158_code 3 (Option.none : Option Jvm.ClassFile.FieldType)).before a0 Z = true := hw_at hw 204 rfl
theorem w205 (hw : HW a0 Z) : (Jvm.Cond.methodLink "java/lang/String" 1062 ⟨"jdk/internal/util/Preconditions", "checkFromToIndex", "(IIILjava/util/function/BiFunction;)I"⟩).before a0 Z = true := hw_at hw 205 rfl
theorem w206 (hw : HW a0 Z) : (Jvm.Cond.static ⟨"jdk/internal/util/Preconditions", "checkFromToIndex", "(IIILjava/util/function/BiFunction;)I"⟩).before a0 Z = true := hw_at hw 206 rfl
theorem w207 (hw : HW a0 Z) : (Jvm.Cond.code ⟨"jdk/internal/util/Preconditions", "checkFromToIndex", "(IIILjava/util/function/BiFunction;)I"⟩ jdk_41_method_12_code 4 (Option.some Jvm.ClassFile.FieldType.int)).before a0 Z = true := hw_at hw 207 rfl
theorem w208 (hw : HW a0 Z) : (Jvm.Cond.methodLink "java/lang/String" 685 ⟨"java/lang/StringLatin1", "newString", "([BII)Ljava/lang/String;"⟩).before a0 Z = true := hw_at hw 208 rfl
theorem w209 (hw : HW a0 Z) : (Jvm.Cond.static ⟨"java/lang/StringLatin1", "newString", "([BII)Ljava/lang/String;"⟩).before a0 Z = true := hw_at hw 209 rfl
theorem w210 (hw : HW a0 Z) : (Jvm.Cond.code ⟨"java/lang/StringLatin1", "newString", "([BII)Ljava/lang/String;"⟩ jdk_43_method_47_code 3 (Option.some (Jvm.ClassFile.FieldType.object "java/lang/String"))).before a0 Z = true := hw_at hw 210 rfl
theorem w211 (hw : HW a0 Z) : (Jvm.Cond.stringLink "java/lang/StringLatin1" 151 "").before a0 Z = true := hw_at hw 211 rfl
theorem w212 (hw : HW a0 Z) : (Jvm.Cond.classLink "java/lang/StringLatin1" 1 "java/lang/String").before a0 Z = true := hw_at hw 212 rfl
theorem w213 (hw : HW a0 Z) : (Jvm.Cond.methodLink "java/lang/StringLatin1" 232 ⟨"java/util/Arrays", "copyOfRange", "([BII)[B"⟩).before a0 Z = true := hw_at hw 213 rfl
theorem w214 (hw : HW a0 Z) : (Jvm.Cond.methodLink "java/lang/StringLatin1" 112 ⟨"java/lang/String", "<init>", "([BB)V"⟩).before a0 Z = true := hw_at hw 214 rfl
theorem w215 (hw : HW a0 Z) : (Jvm.Cond.instanceMethod ⟨"java/lang/String", "<init>", "([BB)V"⟩).before a0 Z = true := hw_at hw 215 rfl
theorem w216 (hw : HW a0 Z) : (Jvm.Cond.code ⟨"java/lang/String", "<init>", "([BB)V"⟩ jdk_42_method_151_code 3 (Option.none : Option Jvm.ClassFile.FieldType)).before a0 Z = true := hw_at hw 216 rfl
abbrev B0 : ByteArray := method_2_code
abbrev B1 : ByteArray := jdk_42_method_3_code
abbrev B2 : ByteArray := jdk_42_method_149_code
abbrev B4 : ByteArray := prog_22_method_21_code
abbrev B5 : ByteArray := jdk_42_method_76_code
abbrev B6 : ByteArray := jdk_42_method_75_code
abbrev B7 : ByteArray := jdk_42_method_54_code
abbrev B8 : ByteArray := jdk_42_method_152_code
abbrev B9 : ByteArray := jdk_67_method_1_code
abbrev B10 : ByteArray := jdk_68_method_2_code
abbrev B11 : ByteArray := jdk_67_method_7_code
abbrev B12 : ByteArray := jdk_68_method_22_code
abbrev B13 : ByteArray := jdk_68_method_9_code
abbrev B14 : ByteArray := jdk_68_method_73_code
abbrev B15 : ByteArray := jdk_68_method_71_code
abbrev B16 : ByteArray := jdk_42_method_147_code
abbrev B17 : ByteArray := jdk_67_method_42_code
abbrev B18 : ByteArray := jdk_42_method_53_code
abbrev B19 : ByteArray := jdk_42_method_150_code
abbrev B20 : ByteArray := jdk_68_method_64_code
abbrev B21 : ByteArray := jdk_67_method_93_code
abbrev B22 : ByteArray := jdk_68_method_6_code
abbrev B23 : ByteArray := jdk_68_method_68_code
abbrev B24 : ByteArray := jdk_65_method_132_code
abbrev B25 : ByteArray := jdk_65_method_133_code
abbrev B26 : ByteArray := jdk_65_method_131_code
abbrev B27 : ByteArray := jdk_29_method_69_code
abbrev B29 : ByteArray := jdk_42_method_154_code
abbrev B36 : ByteArray := jdk_48_method_14_code
abbrev B37 : ByteArray := jdk_42_method_91_code
abbrev B38 : ByteArray := jdk_42_method_92_code
abbrev B39 : ByteArray := jdk_42_method_158_code
abbrev B40 : ByteArray := jdk_41_method_12_code
abbrev B41 : ByteArray := jdk_43_method_47_code
abbrev B42 : ByteArray := jdk_42_method_151_code
theorem d0_0 : decode B0 0 = .ok (.iload_n 0, 1) := by decide +kernel
theorem d0_1 : decode B0 1 = .ok (.ifCond .ne 14, 3) := by decide +kernel
theorem d0_4 : decode B0 4 = .ok (.new 7, 3) := by decide +kernel
theorem d0_7 : decode B0 7 = .ok (.dup, 1) := by decide +kernel
theorem d0_8 : decode B0 8 = .ok (.iconst 0, 1) := by decide +kernel
theorem d0_9 : decode B0 9 = .ok (.newarray .char, 2) := by decide +kernel
theorem d0_11 : decode B0 11 = .ok (.invokespecial 9, 3) := by decide +kernel
theorem d0_14 : decode B0 14 = .ok (.areturn, 1) := by decide +kernel
theorem d0_15 : decode B0 15 = .ok (.iload_n 0, 1) := by decide +kernel
theorem d0_16 : decode B0 16 = .ok (.iconst 1, 1) := by decide +kernel
theorem d0_17 : decode B0 17 = .ok (.if_icmp .ne 22, 3) := by decide +kernel
theorem d0_20 : decode B0 20 = .ok (.iconst 1, 1) := by decide +kernel
theorem d0_21 : decode B0 21 = .ok (.newarray .char, 2) := by decide +kernel
theorem d0_23 : decode B0 23 = .ok (.dup, 1) := by decide +kernel
theorem d0_24 : decode B0 24 = .ok (.iconst 0, 1) := by decide +kernel
theorem d0_25 : decode B0 25 = .ok (.iload_n 1, 1) := by decide +kernel
theorem d0_26 : decode B0 26 = .ok (.castore, 1) := by decide +kernel
theorem d0_27 : decode B0 27 = .ok (.astore 4, 2) := by decide +kernel
theorem d0_29 : decode B0 29 = .ok (.new 7, 3) := by decide +kernel
theorem d0_32 : decode B0 32 = .ok (.dup, 1) := by decide +kernel
theorem d0_33 : decode B0 33 = .ok (.aload 4, 2) := by decide +kernel
theorem d0_35 : decode B0 35 = .ok (.invokespecial 9, 3) := by decide +kernel
theorem d0_38 : decode B0 38 = .ok (.areturn, 1) := by decide +kernel
theorem d0_39 : decode B0 39 = .ok (.iload_n 0, 1) := by decide +kernel
theorem d0_40 : decode B0 40 = .ok (.iconst 2, 1) := by decide +kernel
theorem d0_41 : decode B0 41 = .ok (.if_icmp .ne 26, 3) := by decide +kernel
theorem d0_44 : decode B0 44 = .ok (.iconst 2, 1) := by decide +kernel
theorem d0_45 : decode B0 45 = .ok (.newarray .char, 2) := by decide +kernel
theorem d0_47 : decode B0 47 = .ok (.dup, 1) := by decide +kernel
theorem d0_48 : decode B0 48 = .ok (.iconst 0, 1) := by decide +kernel
theorem d0_49 : decode B0 49 = .ok (.iload_n 1, 1) := by decide +kernel
theorem d0_50 : decode B0 50 = .ok (.castore, 1) := by decide +kernel
theorem d0_51 : decode B0 51 = .ok (.dup, 1) := by decide +kernel
theorem d0_52 : decode B0 52 = .ok (.iconst 1, 1) := by decide +kernel
theorem d0_53 : decode B0 53 = .ok (.iload_n 2, 1) := by decide +kernel
theorem d0_54 : decode B0 54 = .ok (.castore, 1) := by decide +kernel
theorem d0_55 : decode B0 55 = .ok (.astore 4, 2) := by decide +kernel
theorem d0_57 : decode B0 57 = .ok (.new 7, 3) := by decide +kernel
theorem d0_60 : decode B0 60 = .ok (.dup, 1) := by decide +kernel
theorem d0_61 : decode B0 61 = .ok (.aload 4, 2) := by decide +kernel
theorem d0_63 : decode B0 63 = .ok (.invokespecial 9, 3) := by decide +kernel
theorem d0_66 : decode B0 66 = .ok (.areturn, 1) := by decide +kernel
theorem d0_67 : decode B0 67 = .ok (.iconst 3, 1) := by decide +kernel
theorem d0_68 : decode B0 68 = .ok (.newarray .char, 2) := by decide +kernel
theorem d0_70 : decode B0 70 = .ok (.dup, 1) := by decide +kernel
theorem d0_71 : decode B0 71 = .ok (.iconst 0, 1) := by decide +kernel
theorem d0_72 : decode B0 72 = .ok (.iload_n 1, 1) := by decide +kernel
theorem d0_73 : decode B0 73 = .ok (.castore, 1) := by decide +kernel
theorem d0_74 : decode B0 74 = .ok (.dup, 1) := by decide +kernel
theorem d0_75 : decode B0 75 = .ok (.iconst 1, 1) := by decide +kernel
theorem d0_76 : decode B0 76 = .ok (.iload_n 2, 1) := by decide +kernel
theorem d0_77 : decode B0 77 = .ok (.castore, 1) := by decide +kernel
theorem d0_78 : decode B0 78 = .ok (.dup, 1) := by decide +kernel
theorem d0_79 : decode B0 79 = .ok (.iconst 2, 1) := by decide +kernel
theorem d0_80 : decode B0 80 = .ok (.iload_n 3, 1) := by decide +kernel
theorem d0_81 : decode B0 81 = .ok (.castore, 1) := by decide +kernel
theorem d0_82 : decode B0 82 = .ok (.astore 4, 2) := by decide +kernel
theorem d0_84 : decode B0 84 = .ok (.new 7, 3) := by decide +kernel
theorem d0_87 : decode B0 87 = .ok (.dup, 1) := by decide +kernel
theorem d0_88 : decode B0 88 = .ok (.aload 4, 2) := by decide +kernel
theorem d0_90 : decode B0 90 = .ok (.invokespecial 9, 3) := by decide +kernel
theorem d0_93 : decode B0 93 = .ok (.areturn, 1) := by decide +kernel
theorem d1_0 : decode B1 0 = .ok (.aload_n 0, 1) := by decide +kernel
theorem d1_1 : decode B1 1 = .ok (.aload_n 1, 1) := by decide +kernel
theorem d1_2 : decode B1 2 = .ok (.iconst 0, 1) := by decide +kernel
theorem d1_3 : decode B1 3 = .ok (.aload_n 1, 1) := by decide +kernel
theorem d1_4 : decode B1 4 = .ok (.arraylength, 1) := by decide +kernel
theorem d1_5 : decode B1 5 = .ok (.aconst_null, 1) := by decide +kernel
theorem d1_6 : decode B1 6 = .ok (.invokespecial 27, 3) := by decide +kernel
theorem d1_9 : decode B1 9 = .ok (.return_, 1) := by decide +kernel
theorem d2_0 : decode B2 0 = .ok (.aload_n 0, 1) := by decide +kernel
theorem d2_1 : decode B2 1 = .ok (.invokespecial 1, 3) := by decide +kernel
theorem d2_4 : decode B2 4 = .ok (.iload_n 3, 1) := by decide +kernel
theorem d2_5 : decode B2 5 = .ok (.ifCond .ne 22, 3) := by decide +kernel
theorem d2_8 : decode B2 8 = .ok (.aload_n 0, 1) := by decide +kernel
theorem d2_9 : decode B2 9 = .ok (.ldc 7, 2) := by decide +kernel
theorem d2_11 : decode B2 11 = .ok (.getfield 9, 3) := by decide +kernel
theorem d2_14 : decode B2 14 = .ok (.putfield 9, 3) := by decide +kernel
theorem d2_17 : decode B2 17 = .ok (.aload_n 0, 1) := by decide +kernel
theorem d2_18 : decode B2 18 = .ok (.ldc 7, 2) := by decide +kernel
theorem d2_20 : decode B2 20 = .ok (.getfield 15, 3) := by decide +kernel
theorem d2_23 : decode B2 23 = .ok (.putfield 15, 3) := by decide +kernel
theorem d2_26 : decode B2 26 = .ok (.return_, 1) := by decide +kernel
theorem d4_0 : decode B4 0 = .ok (.aload_n 0, 1) := by decide +kernel
theorem d4_1 : decode B4 1 = .ok (.ldc_w 604, 3) := by decide +kernel
theorem d4_4 : decode B4 4 = .ok (.invokevirtual 601, 3) := by decide +kernel
theorem d4_7 : decode B4 7 = .ok (.ifCond .eq 30, 3) := by decide +kernel
theorem d4_10 : decode B4 10 = .ok (.new 47, 3) := by decide +kernel
theorem d4_13 : decode B4 13 = .ok (.dup, 1) := by decide +kernel
theorem d4_14 : decode B4 14 = .ok (.invokespecial 49, 3) := by decide +kernel
theorem d4_17 : decode B4 17 = .ok (.ldc_w 599, 3) := by decide +kernel
theorem d4_20 : decode B4 20 = .ok (.invokevirtual 78, 3) := by decide +kernel
theorem d4_23 : decode B4 23 = .ok (.aload_n 0, 1) := by decide +kernel
theorem d4_24 : decode B4 24 = .ok (.iconst 1, 1) := by decide +kernel
theorem d4_25 : decode B4 25 = .ok (.invokevirtual 606, 3) := by decide +kernel
theorem d4_28 : decode B4 28 = .ok (.invokevirtual 78, 3) := by decide +kernel
theorem d4_31 : decode B4 31 = .ok (.invokevirtual 89, 3) := by decide +kernel
theorem d4_34 : decode B4 34 = .ok (.goto 4, 3) := by decide +kernel
theorem d4_37 : decode B4 37 = .ok (.aload_n 0, 1) := by decide +kernel
theorem d4_38 : decode B4 38 = .ok (.astore_n 1, 1) := by decide +kernel
theorem d4_39 : decode B4 39 = .ok (.new 47, 3) := by decide +kernel
theorem d4_42 : decode B4 42 = .ok (.dup, 1) := by decide +kernel
theorem d4_43 : decode B4 43 = .ok (.invokespecial 49, 3) := by decide +kernel
theorem d4_46 : decode B4 46 = .ok (.aload_n 1, 1) := by decide +kernel
theorem d4_47 : decode B4 47 = .ok (.invokevirtual 78, 3) := by decide +kernel
theorem d4_50 : decode B4 50 = .ok (.ldc_w 593, 3) := by decide +kernel
theorem d4_53 : decode B4 53 = .ok (.invokevirtual 78, 3) := by decide +kernel
theorem d4_56 : decode B4 56 = .ok (.invokevirtual 89, 3) := by decide +kernel
theorem d4_59 : decode B4 59 = .ok (.areturn, 1) := by decide +kernel
theorem d5_0 : decode B5 0 = .ok (.aload_n 0, 1) := by decide +kernel
theorem d5_1 : decode B5 1 = .ok (.aload_n 1, 1) := by decide +kernel
theorem d5_2 : decode B5 2 = .ok (.iconst 0, 1) := by decide +kernel
theorem d5_3 : decode B5 3 = .ok (.invokevirtual 624, 3) := by decide +kernel
theorem d5_6 : decode B5 6 = .ok (.ireturn, 1) := by decide +kernel
theorem d6_0 : decode B6 0 = .ok (.iload_n 2, 1) := by decide +kernel
theorem d6_1 : decode B6 1 = .ok (.ifCond .lt 16, 3) := by decide +kernel
theorem d6_4 : decode B6 4 = .ok (.iload_n 2, 1) := by decide +kernel
theorem d6_5 : decode B6 5 = .ok (.aload_n 0, 1) := by decide +kernel
theorem d6_6 : decode B6 6 = .ok (.invokevirtual 505, 3) := by decide +kernel
theorem d6_9 : decode B6 9 = .ok (.aload_n 1, 1) := by decide +kernel
theorem d6_10 : decode B6 10 = .ok (.invokevirtual 505, 3) := by decide +kernel
theorem d6_13 : decode B6 13 = .ok (.isub, 1) := by decide +kernel
theorem d6_14 : decode B6 14 = .ok (.if_icmp .le 5, 3) := by decide +kernel
theorem d6_17 : decode B6 17 = .ok (.iconst 0, 1) := by decide +kernel
theorem d6_18 : decode B6 18 = .ok (.ireturn, 1) := by decide +kernel
theorem d6_19 : decode B6 19 = .ok (.aload_n 0, 1) := by decide +kernel
theorem d6_20 : decode B6 20 = .ok (.getfield 9, 3) := by decide +kernel
theorem d6_23 : decode B6 23 = .ok (.astore_n 3, 1) := by decide +kernel
theorem d6_24 : decode B6 24 = .ok (.aload_n 1, 1) := by decide +kernel
theorem d6_25 : decode B6 25 = .ok (.getfield 9, 3) := by decide +kernel
theorem d6_28 : decode B6 28 = .ok (.astore 4, 2) := by decide +kernel
theorem d6_30 : decode B6 30 = .ok (.iconst 0, 1) := by decide +kernel
theorem d6_31 : decode B6 31 = .ok (.istore 5, 2) := by decide +kernel
theorem d6_33 : decode B6 33 = .ok (.aload 4, 2) := by decide +kernel
theorem d6_35 : decode B6 35 = .ok (.arraylength, 1) := by decide +kernel
theorem d6_36 : decode B6 36 = .ok (.istore 6, 2) := by decide +kernel
theorem d6_38 : decode B6 38 = .ok (.aload_n 0, 1) := by decide +kernel
theorem d6_39 : decode B6 39 = .ok (.invokevirtual 335, 3) := by decide +kernel
theorem d6_42 : decode B6 42 = .ok (.istore 7, 2) := by decide +kernel
theorem d6_44 : decode B6 44 = .ok (.iload 7, 2) := by decide +kernel
theorem d6_46 : decode B6 46 = .ok (.aload_n 1, 1) := by decide +kernel
theorem d6_47 : decode B6 47 = .ok (.invokevirtual 335, 3) := by decide +kernel
theorem d6_50 : decode B6 50 = .ok (.if_icmp .ne 32, 3) := by decide +kernel
theorem d6_53 : decode B6 53 = .ok (.iload 7, 2) := by decide +kernel
theorem d6_55 : decode B6 55 = .ok (.iconst 1, 1) := by decide +kernel
theorem d6_56 : decode B6 56 = .ok (.if_icmp .ne 7, 3) := by decide +kernel
theorem d6_63 : decode B6 63 = .ok (.aload_n 3, 1) := by decide +kernel
theorem d6_64 : decode B6 64 = .ok (.iload_n 2, 1) := by decide +kernel
theorem d6_65 : decode B6 65 = .ok (.aload 4, 2) := by decide +kernel
theorem d6_67 : decode B6 67 = .ok (.iconst 0, 1) := by decide +kernel
theorem d6_68 : decode B6 68 = .ok (.iload 6, 2) := by decide +kernel
theorem d6_70 : decode B6 70 = .ok (.invokestatic 607, 3) := by decide +kernel
theorem d6_73 : decode B6 73 = .ok (.ifCond .ge 7, 3) := by decide +kernel
theorem d6_76 : decode B6 76 = .ok (.iconst 1, 1) := by decide +kernel
theorem d6_77 : decode B6 77 = .ok (.goto 4, 3) := by decide +kernel
theorem d6_80 : decode B6 80 = .ok (.iconst 0, 1) := by decide +kernel
theorem d6_81 : decode B6 81 = .ok (.ireturn, 1) := by decide +kernel
theorem d7_0 : decode B7 0 = .ok (.aload_n 0, 1) := by decide +kernel
theorem d7_1 : decode B7 1 = .ok (.getfield 9, 3) := by decide +kernel
theorem d7_4 : decode B7 4 = .ok (.arraylength, 1) := by decide +kernel
theorem d7_5 : decode B7 5 = .ok (.aload_n 0, 1) := by decide +kernel
theorem d7_6 : decode B7 6 = .ok (.invokevirtual 335, 3) := by decide +kernel
theorem d7_9 : decode B7 9 = .ok (.ishr, 1) := by decide +kernel
theorem d7_10 : decode B7 10 = .ok (.ireturn, 1) := by decide +kernel
theorem d8_0 : decode B8 0 = .ok (.getstatic 38, 3) := by decide +kernel
theorem d8_3 : decode B8 3 = .ok (.ifCond .eq 10, 3) := by decide +kernel
theorem d8_6 : decode B8 6 = .ok (.aload_n 0, 1) := by decide +kernel
theorem d8_7 : decode B8 7 = .ok (.getfield 15, 3) := by decide +kernel
theorem d8_10 : decode B8 10 = .ok (.goto 4, 3) := by decide +kernel
theorem d8_14 : decode B8 14 = .ok (.ireturn, 1) := by decide +kernel
theorem d9_0 : decode B9 0 = .ok (.aload_n 0, 1) := by decide +kernel
theorem d9_1 : decode B9 1 = .ok (.bipush 16, 2) := by decide +kernel
theorem d9_3 : decode B9 3 = .ok (.invokespecial 1, 3) := by decide +kernel
theorem d9_6 : decode B9 6 = .ok (.return_, 1) := by decide +kernel
theorem d10_0 : decode B10 0 = .ok (.aload_n 0, 1) := by decide +kernel
theorem d10_1 : decode B10 1 = .ok (.invokespecial 3, 3) := by decide +kernel
theorem d10_4 : decode B10 4 = .ok (.getstatic 18, 3) := by decide +kernel
theorem d10_7 : decode B10 7 = .ok (.ifCond .eq 18, 3) := by decide +kernel
theorem d10_10 : decode B10 10 = .ok (.aload_n 0, 1) := by decide +kernel
theorem d10_11 : decode B10 11 = .ok (.iload_n 1, 1) := by decide +kernel
theorem d10_12 : decode B10 12 = .ok (.newarray .byte, 2) := by decide +kernel
theorem d10_14 : decode B10 14 = .ok (.putfield 15, 3) := by decide +kernel
theorem d10_17 : decode B10 17 = .ok (.aload_n 0, 1) := by decide +kernel
theorem d10_18 : decode B10 18 = .ok (.iconst 0, 1) := by decide +kernel
theorem d10_19 : decode B10 19 = .ok (.putfield 22, 3) := by decide +kernel
theorem d10_22 : decode B10 22 = .ok (.goto 16, 3) := by decide +kernel
theorem d10_38 : decode B10 38 = .ok (.return_, 1) := by decide +kernel
theorem d11_0 : decode B11 0 = .ok (.aload_n 0, 1) := by decide +kernel
theorem d11_1 : decode B11 1 = .ok (.aload_n 1, 1) := by decide +kernel
theorem d11_2 : decode B11 2 = .ok (.invokespecial 29, 3) := by decide +kernel
theorem d11_5 : decode B11 5 = .ok (.pop, 1) := by decide +kernel
theorem d11_6 : decode B11 6 = .ok (.aload_n 0, 1) := by decide +kernel
theorem d11_7 : decode B11 7 = .ok (.areturn, 1) := by decide +kernel
theorem d12_0 : decode B12 0 = .ok (.aload_n 1, 1) := by decide +kernel
theorem d12_1 : decode B12 1 = .ok (.ifnonnull 8, 3) := by decide +kernel
theorem d12_9 : decode B12 9 = .ok (.aload_n 1, 1) := by decide +kernel
theorem d12_10 : decode B12 10 = .ok (.invokevirtual 32, 3) := by decide +kernel
theorem d12_13 : decode B12 13 = .ok (.istore_n 2, 1) := by decide +kernel
theorem d12_14 : decode B12 14 = .ok (.aload_n 0, 1) := by decide +kernel
theorem d12_15 : decode B12 15 = .ok (.aload_n 0, 1) := by decide +kernel
theorem d12_16 : decode B12 16 = .ok (.getfield 79, 3) := by decide +kernel
theorem d12_19 : decode B12 19 = .ok (.iload_n 2, 1) := by decide +kernel
theorem d12_20 : decode B12 20 = .ok (.iadd, 1) := by decide +kernel
theorem d12_21 : decode B12 21 = .ok (.invokevirtual 100, 3) := by decide +kernel
theorem d12_24 : decode B12 24 = .ok (.aload_n 0, 1) := by decide +kernel
theorem d12_25 : decode B12 25 = .ok (.aload_n 0, 1) := by decide +kernel
theorem d12_26 : decode B12 26 = .ok (.getfield 79, 3) := by decide +kernel
theorem d12_29 : decode B12 29 = .ok (.aload_n 1, 1) := by decide +kernel
theorem d12_30 : decode B12 30 = .ok (.invokevirtual 208, 3) := by decide +kernel
theorem d12_33 : decode B12 33 = .ok (.aload_n 0, 1) := by decide +kernel
theorem d12_34 : decode B12 34 = .ok (.dup, 1) := by decide +kernel
theorem d12_35 : decode B12 35 = .ok (.getfield 79, 3) := by decide +kernel
theorem d12_38 : decode B12 38 = .ok (.iload_n 2, 1) := by decide +kernel
theorem d12_39 : decode B12 39 = .ok (.iadd, 1) := by decide +kernel
theorem d12_40 : decode B12 40 = .ok (.putfield 79, 3) := by decide +kernel
theorem d12_43 : decode B12 43 = .ok (.aload_n 0, 1) := by decide +kernel
theorem d12_44 : decode B12 44 = .ok (.areturn, 1) := by decide +kernel
theorem d13_0 : decode B13 0 = .ok (.aload_n 0, 1) := by decide +kernel
theorem d13_1 : decode B13 1 = .ok (.getfield 15, 3) := by decide +kernel
theorem d13_4 : decode B13 4 = .ok (.arraylength, 1) := by decide +kernel
theorem d13_5 : decode B13 5 = .ok (.aload_n 0, 1) := by decide +kernel
theorem d13_6 : decode B13 6 = .ok (.getfield 22, 3) := by decide +kernel
theorem d13_9 : decode B13 9 = .ok (.ishr, 1) := by decide +kernel
theorem d13_10 : decode B13 10 = .ok (.istore_n 2, 1) := by decide +kernel
theorem d13_11 : decode B13 11 = .ok (.iload_n 1, 1) := by decide +kernel
theorem d13_12 : decode B13 12 = .ok (.iload_n 2, 1) := by decide +kernel
theorem d13_13 : decode B13 13 = .ok (.isub, 1) := by decide +kernel
theorem d13_14 : decode B13 14 = .ok (.ifCond .le 24, 3) := by decide +kernel
theorem d13_38 : decode B13 38 = .ok (.return_, 1) := by decide +kernel
theorem d14_0 : decode B14 0 = .ok (.aload_n 0, 1) := by decide +kernel
theorem d14_1 : decode B14 1 = .ok (.aload_n 2, 1) := by decide +kernel
theorem d14_2 : decode B14 2 = .ok (.invokevirtual 397, 3) := by decide +kernel
theorem d14_5 : decode B14 5 = .ok (.aload_n 2, 1) := by decide +kernel
theorem d14_6 : decode B14 6 = .ok (.aload_n 0, 1) := by decide +kernel
theorem d14_7 : decode B14 7 = .ok (.getfield 15, 3) := by decide +kernel
theorem d14_10 : decode B14 10 = .ok (.iload_n 1, 1) := by decide +kernel
theorem d14_11 : decode B14 11 = .ok (.aload_n 0, 1) := by decide +kernel
theorem d14_12 : decode B14 12 = .ok (.getfield 22, 3) := by decide +kernel
theorem d14_15 : decode B14 15 = .ok (.invokevirtual 399, 3) := by decide +kernel
theorem d14_18 : decode B14 18 = .ok (.return_, 1) := by decide +kernel
theorem d15_0 : decode B15 0 = .ok (.getstatic 18, 3) := by decide +kernel
theorem d15_3 : decode B15 3 = .ok (.ifCond .eq 18, 3) := by decide +kernel
theorem d15_6 : decode B15 6 = .ok (.aload_n 0, 1) := by decide +kernel
theorem d15_7 : decode B15 7 = .ok (.getfield 22, 3) := by decide +kernel
theorem d15_10 : decode B15 10 = .ok (.aload_n 1, 1) := by decide +kernel
theorem d15_11 : decode B15 11 = .ok (.invokevirtual 40, 3) := by decide +kernel
theorem d15_14 : decode B15 14 = .ok (.if_icmp .eq 7, 3) := by decide +kernel
theorem d15_21 : decode B15 21 = .ok (.return_, 1) := by decide +kernel
theorem d16_0 : decode B16 0 = .ok (.aload_n 0, 1) := by decide +kernel
theorem d16_1 : decode B16 1 = .ok (.invokevirtual 335, 3) := by decide +kernel
theorem d16_4 : decode B16 4 = .ok (.iload_n 3, 1) := by decide +kernel
theorem d16_5 : decode B16 5 = .ok (.if_icmp .ne 23, 3) := by decide +kernel
theorem d16_8 : decode B16 8 = .ok (.aload_n 0, 1) := by decide +kernel
theorem d16_9 : decode B16 9 = .ok (.getfield 9, 3) := by decide +kernel
theorem d16_12 : decode B16 12 = .ok (.iconst 0, 1) := by decide +kernel
theorem d16_13 : decode B16 13 = .ok (.aload_n 1, 1) := by decide +kernel
theorem d16_14 : decode B16 14 = .ok (.iload_n 2, 1) := by decide +kernel
theorem d16_15 : decode B16 15 = .ok (.iload_n 3, 1) := by decide +kernel
theorem d16_16 : decode B16 16 = .ok (.ishl, 1) := by decide +kernel
theorem d16_17 : decode B16 17 = .ok (.aload_n 0, 1) := by decide +kernel
theorem d16_18 : decode B16 18 = .ok (.getfield 9, 3) := by decide +kernel
theorem d16_21 : decode B16 21 = .ok (.arraylength, 1) := by decide +kernel
theorem d16_22 : decode B16 22 = .ok (.invokestatic 212, 3) := by decide +kernel
theorem d16_25 : decode B16 25 = .ok (.goto 18, 3) := by decide +kernel
theorem d16_43 : decode B16 43 = .ok (.return_, 1) := by decide +kernel
theorem d17_0 : decode B17 0 = .ok (.new 18, 3) := by decide +kernel
theorem d17_3 : decode B17 3 = .ok (.dup, 1) := by decide +kernel
theorem d17_4 : decode B17 4 = .ok (.aload_n 0, 1) := by decide +kernel
theorem d17_5 : decode B17 5 = .ok (.invokespecial 137, 3) := by decide +kernel
theorem d17_8 : decode B17 8 = .ok (.areturn, 1) := by decide +kernel
theorem d18_0 : decode B18 0 = .ok (.aload_n 0, 1) := by decide +kernel
theorem d18_1 : decode B18 1 = .ok (.aload_n 1, 1) := by decide +kernel
theorem d18_2 : decode B18 2 = .ok (.aconst_null, 1) := by decide +kernel
theorem d18_3 : decode B18 3 = .ok (.invokespecial 489, 3) := by decide +kernel
theorem d18_6 : decode B18 6 = .ok (.return_, 1) := by decide +kernel
theorem d19_0 : decode B19 0 = .ok (.aload_n 0, 1) := by decide +kernel
theorem d19_1 : decode B19 1 = .ok (.invokespecial 1, 3) := by decide +kernel
theorem d19_4 : decode B19 4 = .ok (.aload_n 1, 1) := by decide +kernel
theorem d19_5 : decode B19 5 = .ok (.invokevirtual 552, 3) := by decide +kernel
theorem d19_8 : decode B19 8 = .ok (.astore_n 3, 1) := by decide +kernel
theorem d19_9 : decode B19 9 = .ok (.aload_n 1, 1) := by decide +kernel
theorem d19_10 : decode B19 10 = .ok (.invokevirtual 549, 3) := by decide +kernel
theorem d19_13 : decode B19 13 = .ok (.istore 4, 2) := by decide +kernel
theorem d19_15 : decode B19 15 = .ok (.aload_n 1, 1) := by decide +kernel
theorem d19_16 : decode B19 16 = .ok (.invokevirtual 1047, 3) := by decide +kernel
theorem d19_19 : decode B19 19 = .ok (.ifCond .eq 22, 3) := by decide +kernel
theorem d19_22 : decode B19 22 = .ok (.aload_n 0, 1) := by decide +kernel
theorem d19_23 : decode B19 23 = .ok (.iconst 0, 1) := by decide +kernel
theorem d19_24 : decode B19 24 = .ok (.putfield 15, 3) := by decide +kernel
theorem d19_27 : decode B19 27 = .ok (.aload_n 0, 1) := by decide +kernel
theorem d19_28 : decode B19 28 = .ok (.aload_n 3, 1) := by decide +kernel
theorem d19_29 : decode B19 29 = .ok (.iconst 0, 1) := by decide +kernel
theorem d19_30 : decode B19 30 = .ok (.iload 4, 2) := by decide +kernel
theorem d19_32 : decode B19 32 = .ok (.invokestatic 54, 3) := by decide +kernel
theorem d19_35 : decode B19 35 = .ok (.putfield 9, 3) := by decide +kernel
theorem d19_38 : decode B19 38 = .ok (.goto 59, 3) := by decide +kernel
theorem d19_97 : decode B19 97 = .ok (.return_, 1) := by decide +kernel
theorem d20_0 : decode B20 0 = .ok (.aload_n 0, 1) := by decide +kernel
theorem d20_1 : decode B20 1 = .ok (.getfield 15, 3) := by decide +kernel
theorem d20_4 : decode B20 4 = .ok (.areturn, 1) := by decide +kernel
theorem d21_0 : decode B21 0 = .ok (.aload_n 0, 1) := by decide +kernel
theorem d21_1 : decode B21 1 = .ok (.invokespecial 343, 3) := by decide +kernel
theorem d21_4 : decode B21 4 = .ok (.ireturn, 1) := by decide +kernel
theorem d22_0 : decode B22 0 = .ok (.aload_n 0, 1) := by decide +kernel
theorem d22_1 : decode B22 1 = .ok (.getfield 79, 3) := by decide +kernel
theorem d22_4 : decode B22 4 = .ok (.ireturn, 1) := by decide +kernel
theorem d23_0 : decode B23 0 = .ok (.getstatic 18, 3) := by decide +kernel
theorem d23_3 : decode B23 3 = .ok (.ifCond .eq 14, 3) := by decide +kernel
theorem d23_6 : decode B23 6 = .ok (.aload_n 0, 1) := by decide +kernel
theorem d23_7 : decode B23 7 = .ok (.getfield 22, 3) := by decide +kernel
theorem d23_10 : decode B23 10 = .ok (.ifCond .ne 7, 3) := by decide +kernel
theorem d23_13 : decode B23 13 = .ok (.iconst 1, 1) := by decide +kernel
theorem d23_14 : decode B23 14 = .ok (.goto 4, 3) := by decide +kernel
theorem d23_18 : decode B23 18 = .ok (.ireturn, 1) := by decide +kernel
theorem d24_0 : decode B24 0 = .ok (.iload_n 1, 1) := by decide +kernel
theorem d24_1 : decode B24 1 = .ok (.ifCond .ne 9, 3) := by decide +kernel
theorem d24_4 : decode B24 4 = .ok (.iload_n 2, 1) := by decide +kernel
theorem d24_5 : decode B24 5 = .ok (.aload_n 0, 1) := by decide +kernel
theorem d24_6 : decode B24 6 = .ok (.arraylength, 1) := by decide +kernel
theorem d24_7 : decode B24 7 = .ok (.if_icmp .eq 10, 3) := by decide +kernel
theorem d24_10 : decode B24 10 = .ok (.aload_n 0, 1) := by decide +kernel
theorem d24_11 : decode B24 11 = .ok (.iload_n 1, 1) := by decide +kernel
theorem d24_12 : decode B24 12 = .ok (.iload_n 2, 1) := by decide +kernel
theorem d24_13 : decode B24 13 = .ok (.invokestatic 339, 3) := by decide +kernel
theorem d24_16 : decode B24 16 = .ok (.areturn, 1) := by decide +kernel
theorem d25_0 : decode B25 0 = .ok (.iload_n 1, 1) := by decide +kernel
theorem d25_1 : decode B25 1 = .ok (.iload_n 2, 1) := by decide +kernel
theorem d25_2 : decode B25 2 = .ok (.invokestatic 343, 3) := by decide +kernel
theorem d25_5 : decode B25 5 = .ok (.iload_n 2, 1) := by decide +kernel
theorem d25_6 : decode B25 6 = .ok (.iload_n 1, 1) := by decide +kernel
theorem d25_7 : decode B25 7 = .ok (.isub, 1) := by decide +kernel
theorem d25_8 : decode B25 8 = .ok (.istore_n 3, 1) := by decide +kernel
theorem d25_9 : decode B25 9 = .ok (.iload_n 3, 1) := by decide +kernel
theorem d25_10 : decode B25 10 = .ok (.newarray .byte, 2) := by decide +kernel
theorem d25_12 : decode B25 12 = .ok (.astore 4, 2) := by decide +kernel
theorem d25_14 : decode B25 14 = .ok (.aload_n 0, 1) := by decide +kernel
theorem d25_15 : decode B25 15 = .ok (.iload_n 1, 1) := by decide +kernel
theorem d25_16 : decode B25 16 = .ok (.aload 4, 2) := by decide +kernel
theorem d25_18 : decode B25 18 = .ok (.iconst 0, 1) := by decide +kernel
theorem d25_19 : decode B25 19 = .ok (.aload_n 0, 1) := by decide +kernel
theorem d25_20 : decode B25 20 = .ok (.arraylength, 1) := by decide +kernel
theorem d25_21 : decode B25 21 = .ok (.iload_n 1, 1) := by decide +kernel
theorem d25_22 : decode B25 22 = .ok (.isub, 1) := by decide +kernel
theorem d25_23 : decode B25 23 = .ok (.iload_n 3, 1) := by decide +kernel
theorem d25_24 : decode B25 24 = .ok (.invokestatic 304, 3) := by decide +kernel
theorem d25_27 : decode B25 27 = .ok (.invokestatic 150, 3) := by decide +kernel
theorem d25_30 : decode B25 30 = .ok (.aload 4, 2) := by decide +kernel
theorem d25_32 : decode B25 32 = .ok (.areturn, 1) := by decide +kernel
theorem d26_0 : decode B26 0 = .ok (.iload_n 1, 1) := by decide +kernel
theorem d26_1 : decode B26 1 = .ok (.iload_n 0, 1) := by decide +kernel
theorem d26_2 : decode B26 2 = .ok (.if_icmp .ge 35, 3) := by decide +kernel
theorem d26_37 : decode B26 37 = .ok (.return_, 1) := by decide +kernel
theorem d27_0 : decode B27 0 = .ok (.iload_n 0, 1) := by decide +kernel
theorem d27_1 : decode B27 1 = .ok (.iload_n 1, 1) := by decide +kernel
theorem d27_2 : decode B27 2 = .ok (.if_icmp .gt 7, 3) := by decide +kernel
theorem d27_5 : decode B27 5 = .ok (.iload_n 0, 1) := by decide +kernel
theorem d27_6 : decode B27 6 = .ok (.goto 4, 3) := by decide +kernel
theorem d27_9 : decode B27 9 = .ok (.iload_n 1, 1) := by decide +kernel
theorem d27_10 : decode B27 10 = .ok (.ireturn, 1) := by decide +kernel
theorem d29_0 : decode B29 0 = .ok (.getstatic 38, 3) := by decide +kernel
theorem d29_3 : decode B29 3 = .ok (.ifCond .eq 14, 3) := by decide +kernel
theorem d29_6 : decode B29 6 = .ok (.aload_n 0, 1) := by decide +kernel
theorem d29_7 : decode B29 7 = .ok (.getfield 15, 3) := by decide +kernel
theorem d29_10 : decode B29 10 = .ok (.ifCond .ne 7, 3) := by decide +kernel
theorem d29_13 : decode B29 13 = .ok (.iconst 1, 1) := by decide +kernel
theorem d29_14 : decode B29 14 = .ok (.goto 4, 3) := by decide +kernel
theorem d29_18 : decode B29 18 = .ok (.ireturn, 1) := by decide +kernel
theorem d36_0 : decode B36 0 = .ok (.iconst 0, 1) := by decide +kernel
theorem d36_1 : decode B36 1 = .ok (.istore 5, 2) := by decide +kernel
theorem d36_3 : decode B36 3 = .ok (.iload 4, 2) := by decide +kernel
theorem d36_5 : decode B36 5 = .ok (.bipush 7, 2) := by decide +kernel
theorem d36_7 : decode B36 7 = .ok (.if_icmp .le 63, 3) := by decide +kernel
theorem d36_70 : decode B36 70 = .ok (.iload 5, 2) := by decide +kernel
theorem d36_72 : decode B36 72 = .ok (.iload 4, 2) := by decide +kernel
theorem d36_74 : decode B36 74 = .ok (.if_icmp .ge 27, 3) := by decide +kernel
theorem d36_77 : decode B36 77 = .ok (.aload_n 0, 1) := by decide +kernel
theorem d36_78 : decode B36 78 = .ok (.iload_n 1, 1) := by decide +kernel
theorem d36_79 : decode B36 79 = .ok (.iload 5, 2) := by decide +kernel
theorem d36_81 : decode B36 81 = .ok (.iadd, 1) := by decide +kernel
theorem d36_82 : decode B36 82 = .ok (.baload, 1) := by decide +kernel
theorem d36_83 : decode B36 83 = .ok (.aload_n 2, 1) := by decide +kernel
theorem d36_84 : decode B36 84 = .ok (.iload_n 3, 1) := by decide +kernel
theorem d36_85 : decode B36 85 = .ok (.iload 5, 2) := by decide +kernel
theorem d36_87 : decode B36 87 = .ok (.iadd, 1) := by decide +kernel
theorem d36_88 : decode B36 88 = .ok (.baload, 1) := by decide +kernel
theorem d36_89 : decode B36 89 = .ok (.if_icmp .eq 6, 3) := by decide +kernel
theorem d36_92 : decode B36 92 = .ok (.iload 5, 2) := by decide +kernel
theorem d36_94 : decode B36 94 = .ok (.ireturn, 1) := by decide +kernel
theorem d36_95 : decode B36 95 = .ok (.iinc 5 1, 3) := by decide +kernel
theorem d36_98 : decode B36 98 = .ok (.goto (-28), 3) := by decide +kernel
theorem d36_101 : decode B36 101 = .ok (.iconst (-1), 1) := by decide +kernel
theorem d36_102 : decode B36 102 = .ok (.ireturn, 1) := by decide +kernel
theorem d37_0 : decode B37 0 = .ok (.aload_n 0, 1) := by decide +kernel
theorem d37_1 : decode B37 1 = .ok (.iload_n 1, 1) := by decide +kernel
theorem d37_2 : decode B37 2 = .ok (.aload_n 0, 1) := by decide +kernel
theorem d37_3 : decode B37 3 = .ok (.invokevirtual 505, 3) := by decide +kernel
theorem d37_6 : decode B37 6 = .ok (.invokevirtual 681, 3) := by decide +kernel
theorem d37_9 : decode B37 9 = .ok (.areturn, 1) := by decide +kernel
theorem d38_0 : decode B38 0 = .ok (.aload_n 0, 1) := by decide +kernel
theorem d38_1 : decode B38 1 = .ok (.invokevirtual 505, 3) := by decide +kernel
theorem d38_4 : decode B38 4 = .ok (.istore_n 3, 1) := by decide +kernel
theorem d38_5 : decode B38 5 = .ok (.iload_n 1, 1) := by decide +kernel
theorem d38_6 : decode B38 6 = .ok (.iload_n 2, 1) := by decide +kernel
theorem d38_7 : decode B38 7 = .ok (.iload_n 3, 1) := by decide +kernel
theorem d38_8 : decode B38 8 = .ok (.invokestatic 521, 3) := by decide +kernel
theorem d38_11 : decode B38 11 = .ok (.iload_n 1, 1) := by decide +kernel
theorem d38_12 : decode B38 12 = .ok (.ifCond .ne 10, 3) := by decide +kernel
theorem d38_15 : decode B38 15 = .ok (.iload_n 2, 1) := by decide +kernel
theorem d38_16 : decode B38 16 = .ok (.iload_n 3, 1) := by decide +kernel
theorem d38_17 : decode B38 17 = .ok (.if_icmp .ne 5, 3) := by decide +kernel
theorem d38_20 : decode B38 20 = .ok (.aload_n 0, 1) := by decide +kernel
theorem d38_21 : decode B38 21 = .ok (.areturn, 1) := by decide +kernel
theorem d38_22 : decode B38 22 = .ok (.iload_n 2, 1) := by decide +kernel
theorem d38_23 : decode B38 23 = .ok (.iload_n 1, 1) := by decide +kernel
theorem d38_24 : decode B38 24 = .ok (.isub, 1) := by decide +kernel
theorem d38_25 : decode B38 25 = .ok (.istore 4, 2) := by decide +kernel
theorem d38_27 : decode B38 27 = .ok (.aload_n 0, 1) := by decide +kernel
theorem d38_28 : decode B38 28 = .ok (.invokevirtual 492, 3) := by decide +kernel
theorem d38_31 : decode B38 31 = .ok (.ifCond .eq 16, 3) := by decide +kernel
theorem d38_34 : decode B38 34 = .ok (.aload_n 0, 1) := by decide +kernel
theorem d38_35 : decode B38 35 = .ok (.getfield 9, 3) := by decide +kernel
theorem d38_38 : decode B38 38 = .ok (.iload_n 1, 1) := by decide +kernel
theorem d38_39 : decode B38 39 = .ok (.iload 4, 2) := by decide +kernel
theorem d38_41 : decode B38 41 = .ok (.invokestatic 685, 3) := by decide +kernel
theorem d38_44 : decode B38 44 = .ok (.goto 13, 3) := by decide +kernel
theorem d38_57 : decode B38 57 = .ok (.areturn, 1) := by decide +kernel
theorem d39_0 : decode B39 0 = .ok (.iload_n 0, 1) := by decide +kernel
theorem d39_1 : decode B39 1 = .ok (.iload_n 1, 1) := by decide +kernel
theorem d39_2 : decode B39 2 = .ok (.iload_n 2, 1) := by decide +kernel
theorem d39_3 : decode B39 3 = .ok (.getstatic 1053, 3) := by decide +kernel
theorem d39_6 : decode B39 6 = .ok (.invokestatic 1062, 3) := by decide +kernel
theorem d39_9 : decode B39 9 = .ok (.pop, 1) := by decide +kernel
theorem d39_10 : decode B39 10 = .ok (.return_, 1) := by decide +kernel
theorem d40_0 : decode B40 0 = .ok (.iload_n 0, 1) := by decide +kernel
theorem d40_1 : decode B40 1 = .ok (.ifCond .lt 13, 3) := by decide +kernel
theorem d40_4 : decode B40 4 = .ok (.iload_n 0, 1) := by decide +kernel
theorem d40_5 : decode B40 5 = .ok (.iload_n 1, 1) := by decide +kernel
theorem d40_6 : decode B40 6 = .ok (.if_icmp .gt 8, 3) := by decide +kernel
theorem d40_9 : decode B40 9 = .ok (.iload_n 1, 1) := by decide +kernel
theorem d40_10 : decode B40 10 = .ok (.iload_n 2, 1) := by decide +kernel
theorem d40_11 : decode B40 11 = .ok (.if_icmp .le 11, 3) := by decide +kernel
theorem d40_22 : decode B40 22 = .ok (.iload_n 0, 1) := by decide +kernel
theorem d40_23 : decode B40 23 = .ok (.ireturn, 1) := by decide +kernel
theorem d41_0 : decode B41 0 = .ok (.iload_n 2, 1) := by decide +kernel
theorem d41_1 : decode B41 1 = .ok (.ifCond .ne 6, 3) := by decide +kernel
theorem d41_4 : decode B41 4 = .ok (.ldc 151, 2) := by decide +kernel
theorem d41_6 : decode B41 6 = .ok (.areturn, 1) := by decide +kernel
theorem d41_7 : decode B41 7 = .ok (.new 1, 3) := by decide +kernel
theorem d41_10 : decode B41 10 = .ok (.dup, 1) := by decide +kernel
theorem d41_11 : decode B41 11 = .ok (.aload_n 0, 1) := by decide +kernel
theorem d41_12 : decode B41 12 = .ok (.iload_n 1, 1) := by decide +kernel
theorem d41_13 : decode B41 13 = .ok (.iload_n 1, 1) := by decide +kernel
theorem d41_14 : decode B41 14 = .ok (.iload_n 2, 1) := by decide +kernel
theorem d41_15 : decode B41 15 = .ok (.iadd, 1) := by decide +kernel
theorem d41_16 : decode B41 16 = .ok (.invokestatic 232, 3) := by decide +kernel
theorem d41_19 : decode B41 19 = .ok (.iconst 0, 1) := by decide +kernel
theorem d41_20 : decode B41 20 = .ok (.invokespecial 112, 3) := by decide +kernel
theorem d41_23 : decode B41 23 = .ok (.areturn, 1) := by decide +kernel
theorem d42_0 : decode B42 0 = .ok (.aload_n 0, 1) := by decide +kernel
theorem d42_1 : decode B42 1 = .ok (.invokespecial 1, 3) := by decide +kernel
theorem d42_4 : decode B42 4 = .ok (.aload_n 0, 1) := by decide +kernel
theorem d42_5 : decode B42 5 = .ok (.aload_n 1, 1) := by decide +kernel
theorem d42_6 : decode B42 6 = .ok (.putfield 9, 3) := by decide +kernel
theorem d42_9 : decode B42 9 = .ok (.aload_n 0, 1) := by decide +kernel
theorem d42_10 : decode B42 10 = .ok (.iload_n 2, 1) := by decide +kernel
theorem d42_11 : decode B42 11 = .ok (.putfield 15, 3) := by decide +kernel
theorem d42_14 : decode B42 14 = .ok (.return_, 1) := by decide +kernel
theorem pn0 : plainFor (⟨"com/example/packwright/packwright/io/SourceTreeRoutineFileNamePinLaw", "make", "(ICCC)Ljava/lang/String;"⟩ : MethodName) = true := by first | exact plainFor_of_name (by first | (simp [plainName, overriddenIn]; done) | decide +kernel) | decide +kernel
theorem pn1 : plainFor (⟨"java/lang/String", "<init>", "([C)V"⟩ : MethodName) = true := by first | exact plainFor_of_name (by first | (simp [plainName, overriddenIn]; done) | decide +kernel) | decide +kernel
theorem pn2 : plainFor (⟨"java/lang/String", "<init>", "([CIILjava/lang/Void;)V"⟩ : MethodName) = true := by first | exact plainFor_of_name (by first | (simp [plainName, overriddenIn]; done) | decide +kernel) | decide +kernel
theorem pn4 : plainFor (⟨"com/example/packwright/packwright/io/SourceTree", "routineFileName", "(Ljava/lang/String;)Ljava/lang/String;"⟩ : MethodName) = true := by first | exact plainFor_of_name (by first | (simp [plainName, overriddenIn]; done) | decide +kernel) | decide +kernel
theorem pn5 : plainFor (⟨"java/lang/String", "startsWith", "(Ljava/lang/String;)Z"⟩ : MethodName) = true := by first | exact plainFor_of_name (by first | (simp [plainName, overriddenIn]; done) | decide +kernel) | decide +kernel
theorem pn6 : plainFor (⟨"java/lang/String", "startsWith", "(Ljava/lang/String;I)Z"⟩ : MethodName) = true := by first | exact plainFor_of_name (by first | (simp [plainName, overriddenIn]; done) | decide +kernel) | decide +kernel
theorem pn7 : plainFor (⟨"java/lang/String", "length", "()I"⟩ : MethodName) = true := by first | exact plainFor_of_name (by first | (simp [plainName, overriddenIn]; done) | decide +kernel) | decide +kernel
theorem pn8 : plainFor (⟨"java/lang/String", "coder", "()B"⟩ : MethodName) = true := by first | exact plainFor_of_name (by first | (simp [plainName, overriddenIn]; done) | decide +kernel) | decide +kernel
theorem pn9 : plainFor (⟨"java/lang/StringBuilder", "<init>", "()V"⟩ : MethodName) = true := by first | exact plainFor_of_name (by first | (simp [plainName, overriddenIn]; done) | decide +kernel) | decide +kernel
theorem pn10 : plainFor (⟨"java/lang/AbstractStringBuilder", "<init>", "(I)V"⟩ : MethodName) = true := by first | exact plainFor_of_name (by first | (simp [plainName, overriddenIn]; done) | decide +kernel) | decide +kernel
theorem pn11 : plainFor (⟨"java/lang/StringBuilder", "append", "(Ljava/lang/String;)Ljava/lang/StringBuilder;"⟩ : MethodName) = true := by first | exact plainFor_of_name (by first | (simp [plainName, overriddenIn]; done) | decide +kernel) | decide +kernel
theorem pn12 : plainFor (⟨"java/lang/AbstractStringBuilder", "append", "(Ljava/lang/String;)Ljava/lang/AbstractStringBuilder;"⟩ : MethodName) = true := by first | exact plainFor_of_name (by first | (simp [plainName, overriddenIn]; done) | decide +kernel) | decide +kernel
theorem pn13 : plainFor (⟨"java/lang/AbstractStringBuilder", "ensureCapacityInternal", "(I)V"⟩ : MethodName) = true := by first | exact plainFor_of_name (by first | (simp [plainName, overriddenIn]; done) | decide +kernel) | decide +kernel
theorem pn14 : plainFor (⟨"java/lang/AbstractStringBuilder", "putStringAt", "(ILjava/lang/String;)V"⟩ : MethodName) = true := by first | exact plainFor_of_name (by first | (simp [plainName, overriddenIn]; done) | decide +kernel) | decide +kernel
theorem pn15 : plainFor (⟨"java/lang/AbstractStringBuilder", "inflateIfNeededFor", "(Ljava/lang/String;)V"⟩ : MethodName) = true := by first | exact plainFor_of_name (by first | (simp [plainName, overriddenIn]; done) | decide +kernel) | decide +kernel
theorem pn16 : plainFor (⟨"java/lang/String", "getBytes", "([BIB)V"⟩ : MethodName) = true := by first | exact plainFor_of_name (by first | (simp [plainName, overriddenIn]; done) | decide +kernel) | decide +kernel
theorem pn17 : plainFor (⟨"java/lang/StringBuilder", "toString", "()Ljava/lang/String;"⟩ : MethodName) = true := by first | exact plainFor_of_name (by first | (simp [plainName, overriddenIn]; done) | decide +kernel) | decide +kernel
theorem pn18 : plainFor (⟨"java/lang/String", "<init>", "(Ljava/lang/StringBuilder;)V"⟩ : MethodName) = true := by first | exact plainFor_of_name (by first | (simp [plainName, overriddenIn]; done) | decide +kernel) | decide +kernel
theorem pn19 : plainFor (⟨"java/lang/String", "<init>", "(Ljava/lang/AbstractStringBuilder;Ljava/lang/Void;)V"⟩ : MethodName) = true := by first | exact plainFor_of_name (by first | (simp [plainName, overriddenIn]; done) | decide +kernel) | decide +kernel
theorem pn20 : plainFor (⟨"java/lang/AbstractStringBuilder", "getValue", "()[B"⟩ : MethodName) = true := by first | exact plainFor_of_name (by first | (simp [plainName, overriddenIn]; done) | decide +kernel) | decide +kernel
theorem pn21 : plainFor (⟨"java/lang/StringBuilder", "length", "()I"⟩ : MethodName) = true := by first | exact plainFor_of_name (by first | (simp [plainName, overriddenIn]; done) | decide +kernel) | decide +kernel
theorem pn22 : plainFor (⟨"java/lang/AbstractStringBuilder", "length", "()I"⟩ : MethodName) = true := by first | exact plainFor_of_name (by first | (simp [plainName, overriddenIn]; done) | decide +kernel) | decide +kernel
theorem pn23 : plainFor (⟨"java/lang/AbstractStringBuilder", "isLatin1", "()Z"⟩ : MethodName) = true := by first | exact plainFor_of_name (by first | (simp [plainName, overriddenIn]; done) | decide +kernel) | decide +kernel
theorem pn24 : plainFor (⟨"java/util/Arrays", "copyOfRange", "([BII)[B"⟩ : MethodName) = true := by first | exact plainFor_of_name (by first | (simp [plainName, overriddenIn]; done) | decide +kernel) | decide +kernel
theorem pn25 : plainFor (⟨"java/util/Arrays", "copyOfRangeByte", "([BII)[B"⟩ : MethodName) = true := by first | exact plainFor_of_name (by first | (simp [plainName, overriddenIn]; done) | decide +kernel) | decide +kernel
theorem pn26 : plainFor (⟨"java/util/Arrays", "checkLength", "(II)V"⟩ : MethodName) = true := by first | exact plainFor_of_name (by first | (simp [plainName, overriddenIn]; done) | decide +kernel) | decide +kernel
theorem pn27 : plainFor (⟨"java/lang/Math", "min", "(II)I"⟩ : MethodName) = true := by first | exact plainFor_of_name (by first | (simp [plainName, overriddenIn]; done) | decide +kernel) | decide +kernel
theorem pn29 : plainFor (⟨"java/lang/String", "isLatin1", "()Z"⟩ : MethodName) = true := by first | exact plainFor_of_name (by first | (simp [plainName, overriddenIn]; done) | decide +kernel) | decide +kernel
theorem pn36 : plainFor (⟨"jdk/internal/util/ArraysSupport", "mismatch", "([BI[BII)I"⟩ : MethodName) = true := by first | exact plainFor_of_name (by first | (simp [plainName, overriddenIn]; done) | decide +kernel) | decide +kernel
theorem pn37 : plainFor (⟨"java/lang/String", "substring", "(I)Ljava/lang/String;"⟩ : MethodName) = true := by first | exact plainFor_of_name (by first | (simp [plainName, overriddenIn]; done) | decide +kernel) | decide +kernel
theorem pn38 : plainFor (⟨"java/lang/String", "substring", "(II)Ljava/lang/String;"⟩ : MethodName) = true := by first | exact plainFor_of_name (by first | (simp [plainName, overriddenIn]; done) | decide +kernel) | decide +kernel
theorem pn39 : plainFor (⟨"java/lang/String", "checkBoundsBeginEnd", "(III)V"⟩ : MethodName) = true := by first | exact plainFor_of_name (by first | (simp [plainName, overriddenIn]; done) | decide +kernel) | decide +kernel
theorem pn40 : plainFor (⟨"jdk/internal/util/Preconditions", "checkFromToIndex", "(IIILjava/util/function/BiFunction;)I"⟩ : MethodName) = true := by first | exact plainFor_of_name (by first | (simp [plainName, overriddenIn]; done) | decide +kernel) | decide +kernel
theorem pn41 : plainFor (⟨"java/lang/StringLatin1", "newString", "([BII)Ljava/lang/String;"⟩ : MethodName) = true := by first | exact plainFor_of_name (by first | (simp [plainName, overriddenIn]; done) | decide +kernel) | decide +kernel
theorem pn42 : plainFor (⟨"java/lang/String", "<init>", "([BB)V"⟩ : MethodName) = true := by first | exact plainFor_of_name (by first | (simp [plainName, overriddenIn]; done) | decide +kernel) | decide +kernel
theorem pn43 : plainFor x = true := by first | exact plainFor_of_name (by first | (simp [plainName, overriddenIn]; done) | decide +kernel) | decide +kernel
theorem pd0 : parseMethodDescriptor "([CIILjava/lang/Void;)V" = some ⟨[(.array .char), .int, .int, (.object "java/lang/Void")], none⟩ := by decide +kernel
theorem pd1 : parseMethodDescriptor "()B" = some ⟨[], some .byte⟩ := by decide +kernel
theorem pd2 : parseMethodDescriptor "(IIILjava/util/function/BiFunction;)I" = some ⟨[.int, .int, .int, (.object "java/util/function/BiFunction")], some .int⟩ := by decide +kernel
theorem pd3 : parseMethodDescriptor "(II)V" = some ⟨[.int, .int], none⟩ := by decide +kernel
theorem pd4 : parseMethodDescriptor "(II)I" = some ⟨[.int, .int], some .int⟩ := by decide +kernel
theorem pd5 : parseMethodDescriptor "([BII)[B" = some ⟨[(.array .byte), .int, .int], some (.array .byte)⟩ := by decide +kernel
theorem pd6 : parseMethodDescriptor "([BB)V" = some ⟨[(.array .byte), .byte], none⟩ := by decide +kernel
theorem pd7 : parseMethodDescriptor "()I" = some ⟨[], some .int⟩ := by decide +kernel
theorem pd8 : parseMethodDescriptor "(III)V" = some ⟨[.int, .int, .int], none⟩ := by decide +kernel
theorem pd9 : parseMethodDescriptor "()Z" = some ⟨[], some .boolean⟩ := by decide +kernel
theorem pd10 : parseMethodDescriptor "([BII)Ljava/lang/String;" = some ⟨[(.array .byte), .int, .int], some (.object "java/lang/String")⟩ := by decide +kernel
theorem pd11 : parseMethodDescriptor "(I)V" = some ⟨[.int], none⟩ := by decide +kernel
theorem pd12 : parseMethodDescriptor "(Ljava/lang/String;)V" = some ⟨[(.object "java/lang/String")], none⟩ := by decide +kernel
theorem pd13 : parseMethodDescriptor "([BIB)V" = some ⟨[(.array .byte), .int, .byte], none⟩ := by decide +kernel
theorem pd14 : parseMethodDescriptor "(ILjava/lang/String;)V" = some ⟨[.int, (.object "java/lang/String")], none⟩ := by decide +kernel
theorem pd15 : parseMethodDescriptor "(Ljava/lang/String;)Ljava/lang/AbstractStringBuilder;" = some ⟨[(.object "java/lang/String")], some (.object "java/lang/AbstractStringBuilder")⟩ := by decide +kernel
theorem pd16 : parseMethodDescriptor "()[B" = some ⟨[], some (.array .byte)⟩ := by decide +kernel
theorem pd17 : parseMethodDescriptor "(Ljava/lang/AbstractStringBuilder;Ljava/lang/Void;)V" = some ⟨[(.object "java/lang/AbstractStringBuilder"), (.object "java/lang/Void")], none⟩ := by decide +kernel
theorem pd18 : parseMethodDescriptor "(Ljava/lang/StringBuilder;)V" = some ⟨[(.object "java/lang/StringBuilder")], none⟩ := by decide +kernel
theorem pd19 : parseMethodDescriptor "([C)V" = some ⟨[(.array .char)], none⟩ := by decide +kernel
theorem pd20 : parseMethodDescriptor "(Ljava/lang/String;I)Z" = some ⟨[(.object "java/lang/String"), .int], some .boolean⟩ := by decide +kernel
theorem pd21 : parseMethodDescriptor "([BI[BII)I" = some ⟨[(.array .byte), .int, (.array .byte), .int, .int], some .int⟩ := by decide +kernel
theorem pd22 : parseMethodDescriptor "(II)Ljava/lang/String;" = some ⟨[.int, .int], some (.object "java/lang/String")⟩ := by decide +kernel
theorem pd23 : parseMethodDescriptor "(Ljava/lang/String;)Z" = some ⟨[(.object "java/lang/String")], some .boolean⟩ := by decide +kernel
theorem pd24 : parseMethodDescriptor "()V" = some ⟨[], none⟩ := by decide +kernel
theorem pd25 : parseMethodDescriptor "(Ljava/lang/String;)Ljava/lang/StringBuilder;" = some ⟨[(.object "java/lang/String")], some (.object "java/lang/StringBuilder")⟩ := by decide +kernel
theorem pd26 : parseMethodDescriptor "()Ljava/lang/String;" = some ⟨[], some (.object "java/lang/String")⟩ := by decide +kernel
theorem pd27 : parseMethodDescriptor "(I)Ljava/lang/String;" = some ⟨[.int], some (.object "java/lang/String")⟩ := by decide +kernel
theorem pd28 : parseMethodDescriptor "(ICCC)Ljava/lang/String;" = some ⟨[.int, .char, .char, .char], some (.object "java/lang/String")⟩ := by decide +kernel
theorem pd29 : parseMethodDescriptor "(Ljava/lang/String;)Ljava/lang/String;" = some ⟨[(.object "java/lang/String")], some (.object "java/lang/String")⟩ := by decide +kernel
theorem pd30 : parseMethodDescriptor "(I)C" = some ⟨[.int], some .char⟩ := by decide +kernel
abbrev RrmE4 : Room := { frames := 1, cells := 4, slots := 10, locals := 12 }
def QrmE4 (Z : State) (x : Addr) (b : Addr) (h0 : Heap) (v : Option Value) (vm : Vm) (h : Heap) : Prop := ∃ (t : Addr) (kb : ClassId), v = none ∧ Keep h0 h [x] ∧ Str Z h x t kb []
theorem rmE4 (hcx : Cx Z a0 zc fm) (x : Addr) (b : Addr) (h0 : Heap) (O0 : Old Z Z.heap.size h0) (Pr0 : Exa Z h0 x "java/lang/String") (Pr1 : Fld Z h0 x "java/lang/String" "coder" "B" (.int (0 : Int32))) (Pr2 : Fld Z h0 x "java/lang/String" "value" "[B" .null) (Pr3 : Z.heap.size ≤ x) : Met l Z consts_1 (⟨"java/lang/String", "<init>", "([CIILjava/lang/Void;)V"⟩ : MethodName) jdk_42_method_149_code 6 (none) [] RrmE4 [x] #[(.ref x), (.ref b), (.int (0 : Int32)), (.int (0 : Int32)), .null] h0 (QrmE4 Z x b h0) := by
  have ⟨hw, hEL, O2, P5, O4, P6⟩ := hcx
  refine Met.start (a0 := a0) (Ls := #[vR x, vR b, vI (0 : Int32), vI (0 : Int32), .val .null, .unset]) pn2 hEL O0 (fun m => by first | (simp [entryFrame, mkF, argsToLocals, Value.category]; done) | rfl) ?_
  intro p e s m below meth cc T0 vm0 X0 sf0_ D hml hret hnm hx zz A0
  have l1 := ltA Pr0.lt
  have s2 := sf0_ x (memI (i := 0) rfl)
  refine Gets.via (fun _ k => (XS.aloadN A0 hx rfl (D d2_0) rfl rfl k)) ?_
  refine X0.objInit (w15 hw) (w16 hw) (w17 hw) rfl (sz hml rfl) rfl (D d2_1) (by decide) (W := 0) (mroom rfl rfl) (by decide) fun T3 X3 => ?_
  have A4 := X3.at
  refine Gets.via (fun _ k => (XS.iloadN A4 hx rfl (D d2_4) rfl (XS.ifNo A4 hx rfl (D d2_5) rfl (Jvm.Free.XT.i0_ne_f (by decide)) k))) ?_
  refine Gets.via (fun _ k => (XS.aloadN A4 hx rfl (D d2_8) rfl rfl k)) ?_
  refine X3.ldcC (w18 hw) (wSt hw) (by decide) (vs := []) (z := (0 : Int32)) ⟨by decide, by decide⟩ (by decide) (by decide) rfl (D d2_9) (n := 1) (by decide) (by decide) (by decide) (by decide) fun T5 h5 vm5 a5 yb5 k5 X5 C5 E5 Z5 Fc5 Fv5 V5 q5 => ?_
  have z5 := E5.1
  have l5 := ltA Z5.lt
  have lb5 := ltA V5.lt
  have f6 := C5.safe (x := x) (ltA (by omega)) s2
  have ne7 := neA (q5 x f6).1
  have nf7 := neA (q5 x f6).2
  show Gets p e below _ (T5.setTop (mkF m 11 #[vR x, vR b, vI (0 : Int32), vI (0 : Int32), .val .null, .unset] [(.ref a5), (.ref x)]))
  refine X5.getF (host := "") (Or.inl (w24 hw)) Via.refl Fv5 rfl rfl (D d2_11) fun T8 X8 => ?_
  have f10 := Pr2.ext E5
  have f11 := Pr0.ext E5
  refine X8.putF (host := "") (Or.inl (w24 hw)) Via.refl f10 f11 (Or.inr ⟨(w20 hw), rfl, hnm⟩) (w5 hw) (ty := (.array .byte)) (by decide) rfl rfl (leA (by omega)) f6 rfl rfl (D d2_14) fun T9 h9 X9 C9 W9 F9 Z9 => ?_
  have z9 := W9.size
  have A12 := X9.at
  refine Gets.via (fun _ k => (XS.aloadN A12 hx rfl (D d2_17) rfl rfl k)) ?_
  refine X9.ldcC (w18 hw) (wSt hw) (by decide) (vs := []) (z := (0 : Int32)) ⟨by decide, by decide⟩ (by decide) (by decide) rfl (D d2_18) (n := 1) (by decide) (by decide) (by decide) (by decide) fun T13 h13 vm13 a13 yb13 k13 X13 C13 E13 Z13 Fc13 Fv13 V13 q13 => ?_
  have z13 := E13.1
  have l13 := ltA Z13.lt
  have lb13 := ltA V13.lt
  have f14 := C9.safe (x := x) (ltA (by omega)) f6
  have f15 := C13.safe (x := x) (ltA (by omega)) f14
  have ne16 := neA (q13 x f15).1
  have nf16 := neA (q13 x f15).2
  refine X13.getF (host := "") (Or.inl (w25 hw)) Via.refl Fc13 rfl rfl (D d2_20) fun T17 X17 => ?_
  show Gets p e below _ (T17.setTop (mkF m 23 #[vR x, vR b, vI (0 : Int32), vI (0 : Int32), .val .null, .unset] [(.int (0 : Int32)), (.ref x)]))
  have f19 := Pr1.ext E5
  have f20 := f19.other W9 (Or.inr (slot_ne (t := .byte) (t' := (.array .byte)) (Or.inr (w21 hw)) (Or.inr (w20 hw)) (by decide) (by decide) (by decide)))
  have f21 := f20.ext E13
  have f22 := Z9.ext E13
  refine X17.putF (host := "") (Or.inl (w25 hw)) Via.refl f21 f22 (Or.inr ⟨(w21 hw), rfl, hnm⟩) (w5 hw) (ty := .byte) (by decide) (by decide) (by decide) (leA (by omega)) f15 rfl rfl (D d2_23) fun T18 h18 X18 C18 W18 F18 Z18 => ?_
  have z18 := W18.size
  have f23 := F9.ext E13
  have f24 := f23.other W18 (Or.inr (slot_ne (t := (.array .byte)) (t' := .byte) (Or.inr (w20 hw)) (Or.inr (w21 hw)) (by decide) (by decide) (by decide)))
  have f25 := V5.other W9 (neA (by omega))
  have f26 := f25.ext E13
  have f27 := f26.other W18 (neA (by omega))
  have f28 : Str Z h18 x yb5 k5 [] := ⟨Z18, F18, f24, f27, allN, Nat.le_of_ble_eq_true rfl⟩
  exact X18.retV hret (D d2_26) (by decide) (by decide) (fun vmE CE => ⟨yb5, k5, rfl, (((((Keep.refl h0 [x]).ext E5).wr W9 (Or.inl (memI (i := 0) rfl))).ext E13).wr W18 (Or.inl (memI (i := 0) rfl))), f28⟩)
abbrev RrmE1 : Room := { frames := 2, cells := 4, slots := 10, locals := 29 }
def QrmE1 (Z : State) (x : Addr) (b : Addr) (kc : ClassId) (h0 : Heap) (v : Option Value) (vm : Vm) (h : Heap) : Prop := ∃ (t : Addr) (kb : ClassId), v = none ∧ Keep h0 h [x] ∧ Str Z h x t kb []
theorem rmE1 (hcx : Cx Z a0 zc fm) (x : Addr) (b : Addr) (kc : ClassId) (h0 : Heap) (O0 : Old Z Z.heap.size h0) (Pr0 : Exa Z h0 x "java/lang/String") (Pr1 : Fld Z h0 x "java/lang/String" "coder" "B" (.int (0 : Int32))) (Pr2 : Fld Z h0 x "java/lang/String" "value" "[B" .null) (Pr3 : Z.heap.size ≤ x) (Pr4 : Arv Z h0 b kc .char (0 : Int32) [] (.int (0 : Int32))) : Met l Z consts_1 (⟨"java/lang/String", "<init>", "([C)V"⟩ : MethodName) jdk_42_method_3_code 2 (none) [] RrmE1 [x] #[(.ref x), (.ref b)] h0 (QrmE1 Z x b kc h0) := by
  have ⟨hw, hEL, O2, P5, O4, P6⟩ := hcx
  refine Met.start (a0 := a0) (Ls := #[vR x, vR b]) pn1 hEL O0 (fun m => by first | (simp [entryFrame, mkF, argsToLocals, Value.category]; done) | rfl) ?_
  intro p e s m below meth cc T0 vm0 X0 sf0_ D hml hret hnm hx zz A0
  have l1 := ltA Pr0.lt
  have l2 := ltA Pr4.lt
  have s3 := sf0_ x (memI (i := 0) rfl)
  refine Gets.via (fun _ k => (XS.aloadN A0 hx rfl (D d1_0) rfl rfl (XS.aloadN A0 hx rfl (D d1_1) rfl rfl (XS.iconst A0 hx rfl (D d1_2) (XS.aloadN A0 hx rfl (D d1_3) rfl rfl k))))) ?_
  refine X0.alen Pr4 rfl rfl (D d1_4) ?_
  refine Gets.via (fun _ k => (XS.aconstNull A0 hx rfl (D d1_5) k)) ?_
  refine X0.callI (y := (⟨"java/lang/String", "<init>", "([CIILjava/lang/Void;)V"⟩ : MethodName)) (W := 0) rfl (w11 hw) (w12 hw) (w14 hw) (by decide) (X0.payM (sf := [x]) (rmE4 hcx x b h0 X0.old Pr0 Pr1 Pr2 Pr3) (sfS s3 sf0) (w14 hw) (w6 hw)) rfl (sz hml rfl) (a := x) (argsL := [(.ref b), (.int (0 : Int32)), (.int (0 : Int32)), .null]) (rest := []) (lenOf pd0 rfl) rfl rfl (mroom rfl rfl) (D d1_6) (by decide) (by decide) fun T4 h4 vm4 v4 X4 C4 z4 q4 => ?_
  obtain ⟨t4, kb4, rfl, K4, g4_0⟩ := q4
  have l5 := ltA g4_0.lt
  have l6 := ltA g4_0.lb
  show Gets p e below _ (T4.setTop (mkF m 9 #[vR x, vR b] []))
  exact X4.retV hret (D d1_9) (by decide) (by decide) (fun vmE CE => ⟨t4, kb4, rfl, ((Keep.refl h0 [x]).trans K4 (allS (Or.inl (memI (i := 0) rfl)) all0)), g4_0⟩)
abbrev RrmCoder0 : Room := { frames := 0, cells := 0, slots := 0, locals := 0 }
def QrmCoder0 (Z : State) (x : Addr) (h0 : Heap) (v : Option Value) (vm : Vm) (h : Heap) : Prop := v = some (.int (0 : Int32)) ∧ h = h0
theorem rmCoder0 (hcx : Cx Z a0 zc fm) (x : Addr) (h0 : Heap) (O0 : Old Z Z.heap.size h0) (Pr0 : Exa Z h0 x "java/lang/String") (Pr1 : Fld Z h0 x "java/lang/String" "coder" "B" (.int (0 : Int32))) : Met l Z consts_1 (⟨"java/lang/String", "coder", "()B"⟩ : MethodName) jdk_42_method_152_code 1 (some .byte) [] RrmCoder0 [] #[(.ref x)] h0 (QrmCoder0 Z x h0) := by
  have ⟨hw, hEL, O2, P5, O4, P6⟩ := hcx
  refine Met.start (a0 := a0) (Ls := #[vR x]) pn8 hEL O0 (fun m => by first | (simp [entryFrame, mkF, argsToLocals, Value.category]; done) | rfl) ?_
  intro p e s m below meth cc T0 vm0 X0 sf0_ D hml hret hnm hx zz A0
  have l1 := ltA Pr0.lt
  refine X0.getS (host := "") (Or.inl (w51 hw)) Via.refl (X0.sta O2) rfl (D d8_0) fun T2 X2 => ?_
  have A3 := X2.at
  refine Gets.via (fun _ k => (XS.ifNo A3 hx rfl (D d8_3) rfl (Jvm.Free.XT.i0_eq_f P5) k)) ?_
  refine Gets.via (fun _ k => (XS.aloadN A3 hx rfl (D d8_6) rfl rfl k)) ?_
  refine X2.getF (host := "") (Or.inl (w25 hw)) Via.refl Pr1 rfl rfl (D d8_7) fun T4 X4 => ?_
  have A5 := X4.at
  refine Gets.via (fun _ k => (XS.goto A5 hx rfl (pc0 := 10) (pc' := 14) rfl (D d8_10) (by decide) (by decide) k)) ?_
  show Gets p e below _ (T4.setTop (mkF m 14 #[vR x] [(.int (0 : Int32))]))
  exact X4.retI hret (by decide) (by simp) (D d8_14) (by decide) (by decide) (fun vmE CE => ⟨rfl, rfl⟩)
abbrev RrmLen0 : Room := { frames := 1, cells := 0, slots := 0, locals := 13 }
def QrmLen0 (Z : State) (x : Addr) (b : Addr) (kb : ClassId) (cs : List Int32) (h0 : Heap) (v : Option Value) (vm : Vm) (h : Heap) : Prop := v = some (.int (Int32.ofNat (cs).length)) ∧ h = h0
theorem rmLen0 (hcx : Cx Z a0 zc fm) (x : Addr) (b : Addr) (kb : ClassId) (cs : List Int32) (h0 : Heap) (O0 : Old Z Z.heap.size h0) (Pr0 : Str Z h0 x b kb cs) : Met l Z consts_1 (⟨"java/lang/String", "length", "()I"⟩ : MethodName) jdk_42_method_54_code 1 (some .int) [] RrmLen0 [] #[(.ref x)] h0 (QrmLen0 Z x b kb cs h0) := by
  have ⟨hw, hEL, O2, P5, O4, P6⟩ := hcx
  refine Met.start (a0 := a0) (Ls := #[vR x]) pn7 hEL O0 (fun m => by first | (simp [entryFrame, mkF, argsToLocals, Value.category]; done) | rfl) ?_
  intro p e s m below meth cc T0 vm0 X0 sf0_ D hml hret hnm hx zz A0
  have l1 := ltA Pr0.lt
  have l2 := ltA Pr0.lb
  have l4 := Pr0.2.2.2.2.2
  refine Gets.via (fun _ k => (XS.aloadN A0 hx rfl (D d7_0) rfl rfl k)) ?_
  refine X0.getF (host := "") (Or.inl (w24 hw)) Via.refl Pr0.2.2.1 rfl rfl (D d7_1) fun T3 X3 => ?_
  refine X3.alen Pr0.2.2.2.1 rfl rfl (D d7_4) ?_
  have A4 := X3.at
  refine Gets.via (fun _ k => (XS.aloadN A4 hx rfl (D d7_5) rfl rfl k)) ?_
  refine X3.callV (W := 1) (w46 hw) (w47 hw) (w49 hw) (w48 hw) (nfs rfl (w49 hw)) (by decide) (X3.payM (sf := []) (rmCoder0 hcx x h0 X3.old Pr0.1 Pr0.2.1) sf0 (w50 hw) (w6 hw)) Pr0.1 rfl (sz hml rfl) (argsL := []) (rest := [(.int (Int32.ofNat (cs).length))]) (lenOf pd1 rfl) rfl rfl (mroom rfl rfl) (D d7_6) (by decide) (by decide) fun T5 h5 vm5 v5 X5 C5 z5 q5 => ?_
  obtain ⟨rfl, K5⟩ := q5
  rw [K5] at X5 C5
  show Gets p e below _ (T5.setTop (mkF m 9 #[vR x] [(.int (0 : Int32)), (.int (Int32.ofNat (cs).length))]))
  have A6 := X5.at
  refine Gets.via (fun _ k => (ishrV A6 hx rfl (D d7_9) rfl (v := (Int32.ofNat (cs).length)) (shr0 _) k)) ?_
  exact X5.retI hret rfl (by simp) (D d7_10) (by decide) (by decide) (fun vmE CE => ⟨rfl, rfl⟩)
abbrev Rrm40 : Room := { frames := 0, cells := 0, slots := 0, locals := 0 }
def Qrm40 (Z : State) (u : Int32) (w : Int32) (n : Int32) (fq : Value) (h0 : Heap) (v : Option Value) (vm : Vm) (h : Heap) : Prop := v = some (.int u) ∧ h = h0
theorem rm40 (hcx : Cx Z a0 zc fm) (u : Int32) (w : Int32) (n : Int32) (fq : Value) (h0 : Heap) (O0 : Old Z Z.heap.size h0) (Pr0 : ¬ u < (0 : Int32)) (Pr1 : ¬ w < u) (Pr2 : ¬ n < w) (Pr3 : fq.isRef = true) : Met l Z consts_1 (⟨"jdk/internal/util/Preconditions", "checkFromToIndex", "(IIILjava/util/function/BiFunction;)I"⟩ : MethodName) jdk_41_method_12_code 4 (some .int) [] Rrm40 [] #[(.int u), (.int w), (.int n), fq] h0 (Qrm40 Z u w n fq h0) := by
  have ⟨hw, hEL, O2, P5, O4, P6⟩ := hcx
  refine Met.start (a0 := a0) (Ls := #[vI u, vI w, vI n, .val fq]) pn40 hEL O0 (fun m => by revert Pr3; cases fq <;> intro Pr3 <;> first | exact nomatch (show false = true from Pr3) | (first | (simp [entryFrame, mkF, argsToLocals, Value.category]; done) | rfl)) ?_
  intro p e s m below meth cc T0 vm0 X0 sf0_ D hml hret hnm hx zz A0
  refine Gets.via (fun _ k => (XS.iloadN A0 hx rfl (D d40_0) rfl (XS.ifNo A0 hx rfl (D d40_1) rfl (Jvm.Free.XT.i0_lt_f Pr0) k))) ?_
  refine Gets.via (fun _ k => (XS.iloadN A0 hx rfl (D d40_4) rfl (XS.iloadN A0 hx rfl (D d40_5) rfl (XS.icmpNo A0 hx rfl (D d40_6) rfl (Jvm.Free.XT.ii_gt_f Pr1) k)))) ?_
  refine Gets.via (fun _ k => (XS.iloadN A0 hx rfl (D d40_9) rfl (XS.iloadN A0 hx rfl (D d40_10) rfl (XS.icmpYes A0 hx rfl (pc0 := 11) (pc' := 22) rfl (D d40_11) rfl (Jvm.Free.XT.ii_le_t Pr2) (by decide) (by decide) k)))) ?_
  refine Gets.via (fun _ k => (XS.iloadN A0 hx rfl (D d40_22) rfl k)) ?_
  show Gets p e below _ (T0.setTop (mkF m 23 #[vI u, vI w, vI n, .val fq] [(.int u)]))
  exact X0.retI hret rfl (by simp) (D d40_23) (by decide) (by decide) (fun vmE CE => ⟨rfl, rfl⟩)
abbrev Rrm39 : Room := { frames := 1, cells := 0, slots := 0, locals := 15 }
def Qrm39 (Z : State) (u : Int32) (w : Int32) (n : Int32) (h0 : Heap) (v : Option Value) (vm : Vm) (h : Heap) : Prop := v = none ∧ h = h0
theorem rm39 (hcx : Cx Z a0 zc fm) (u : Int32) (w : Int32) (n : Int32) (h0 : Heap) (O0 : Old Z Z.heap.size h0) (Pr0 : ¬ u < (0 : Int32)) (Pr1 : ¬ w < u) (Pr2 : ¬ n < w) : Met l Z consts_1 (⟨"java/lang/String", "checkBoundsBeginEnd", "(III)V"⟩ : MethodName) jdk_42_method_158_code 3 (none) [] Rrm39 [] #[(.int u), (.int w), (.int n)] h0 (Qrm39 Z u w n h0) := by
  have ⟨hw, hEL, O2, P5, O4, P6⟩ := hcx
  refine Met.start (a0 := a0) (Ls := #[vI u, vI w, vI n]) pn39 hEL O0 (fun m => by first | (simp [entryFrame, mkF, argsToLocals, Value.category]; done) | rfl) ?_
  intro p e s m below meth cc T0 vm0 X0 sf0_ D hml hret hnm hx zz A0
  refine Gets.via (fun _ k => (XS.iloadN A0 hx rfl (D d39_0) rfl (XS.iloadN A0 hx rfl (D d39_1) rfl (XS.iloadN A0 hx rfl (D d39_2) rfl k)))) ?_
  refine X0.getS (host := "") (Or.inl (w172 hw)) Via.refl (X0.sta O4) rfl (D d39_3) fun T1 X1 => ?_
  refine X1.callS (W := 0) (w205 hw) (w206 hw) (w173 hw) (w207 hw) (by decide) (X1.payM (sf := []) (rm40 hcx u w n fm h0 X1.old Pr0 Pr1 Pr2 P6) sf0 (w207 hw) (w173 hw)) rfl (sz hml rfl) (argsL := [(.int u), (.int w), (.int n), fm]) (rest := []) (lenOf pd2 rfl) rfl rfl (mroom rfl rfl) (D d39_6) (by decide) (by decide) fun T2 h2 vm2 v2 X2 C2 z2 q2 => ?_
  obtain ⟨rfl, K2⟩ := q2
  rw [K2] at X2 C2
  show Gets p e below _ (T2.setTop (mkF m 9 #[vI u, vI w, vI n] [(.int u)]))
  have A3 := X2.at
  refine Gets.via (fun _ k => (XS.pop A3 hx rfl (D d39_9) rfl rfl k)) ?_
  exact X2.retV hret (D d39_10) (by decide) (by decide) (fun vmE CE => ⟨rfl, rfl⟩)
abbrev Rrm29 : Room := { frames := 0, cells := 0, slots := 0, locals := 0 }
def Qrm29 (Z : State) (x : Addr) (h0 : Heap) (v : Option Value) (vm : Vm) (h : Heap) : Prop := v = some (.int (1 : Int32)) ∧ h = h0
theorem rm29 (hcx : Cx Z a0 zc fm) (x : Addr) (h0 : Heap) (O0 : Old Z Z.heap.size h0) (Pr0 : Exa Z h0 x "java/lang/String") (Pr1 : Fld Z h0 x "java/lang/String" "coder" "B" (.int (0 : Int32))) : Met l Z consts_1 (⟨"java/lang/String", "isLatin1", "()Z"⟩ : MethodName) jdk_42_method_154_code 1 (some .boolean) [] Rrm29 [] #[(.ref x)] h0 (Qrm29 Z x h0) := by
  have ⟨hw, hEL, O2, P5, O4, P6⟩ := hcx
  refine Met.start (a0 := a0) (Ls := #[vR x]) pn29 hEL O0 (fun m => by first | (simp [entryFrame, mkF, argsToLocals, Value.category]; done) | rfl) ?_
  intro p e s m below meth cc T0 vm0 X0 sf0_ D hml hret hnm hx zz A0
  have l1 := ltA Pr0.lt
  refine X0.getS (host := "") (Or.inl (w51 hw)) Via.refl (X0.sta O2) rfl (D d29_0) fun T2 X2 => ?_
  have A3 := X2.at
  refine Gets.via (fun _ k => (XS.ifNo A3 hx rfl (D d29_3) rfl (Jvm.Free.XT.i0_eq_f P5) k)) ?_
  refine Gets.via (fun _ k => (XS.aloadN A3 hx rfl (D d29_6) rfl rfl k)) ?_
  refine X2.getF (host := "") (Or.inl (w25 hw)) Via.refl Pr1 rfl rfl (D d29_7) fun T4 X4 => ?_
  have A5 := X4.at
  refine Gets.via (fun _ k => (XS.ifNo A5 hx rfl (D d29_10) rfl (Jvm.Free.XT.i0_ne_f (by decide)) k)) ?_
  show Gets p e below _ (T4.setTop (mkF m 13 #[vR x] []))
  refine Gets.via (fun _ k => (XS.iconst A5 hx rfl (D d29_13) (XS.goto A5 hx rfl (pc0 := 14) (pc' := 18) rfl (D d29_14) (by decide) (by decide) k))) ?_
  exact X4.retI hret (by decide) (by simp) (D d29_18) (by decide) (by decide) (fun vmE CE => ⟨rfl, rfl⟩)
abbrev RrmInitBB : Room := { frames := 1, cells := 0, slots := 0, locals := 12 }
def QrmInitBB (Z : State) (x : Addr) (t : Addr) (h0 : Heap) (v : Option Value) (vm : Vm) (h : Heap) : Prop := v = none ∧ Keep h0 h [x] ∧ Exa Z h x "java/lang/String" ∧ Fld Z h x "java/lang/String" "coder" "B" (.int (0 : Int32)) ∧ Fld Z h x "java/lang/String" "value" "[B" (.ref t)
theorem rmInitBB (hcx : Cx Z a0 zc fm) (x : Addr) (t : Addr) (h0 : Heap) (O0 : Old Z Z.heap.size h0) (Pr0 : Exa Z h0 x "java/lang/String") (Pr1 : Fld Z h0 x "java/lang/String" "coder" "B" (.int (0 : Int32))) (Pr2 : Fld Z h0 x "java/lang/String" "value" "[B" .null) (Pr3 : Z.heap.size ≤ x) : Met l Z consts_1 (⟨"java/lang/String", "<init>", "([BB)V"⟩ : MethodName) jdk_42_method_151_code 3 (none) [] RrmInitBB [x] #[(.ref x), (.ref t), (.int (0 : Int32))] h0 (QrmInitBB Z x t h0) := by
  have ⟨hw, hEL, O2, P5, O4, P6⟩ := hcx
  refine Met.start (a0 := a0) (Ls := #[vR x, vR t, vI (0 : Int32)]) pn42 hEL O0 (fun m => by first | (simp [entryFrame, mkF, argsToLocals, Value.category]; done) | rfl) ?_
  intro p e s m below meth cc T0 vm0 X0 sf0_ D hml hret hnm hx zz A0
  have l1 := ltA Pr0.lt
  have s2 := sf0_ x (memI (i := 0) rfl)
  refine Gets.via (fun _ k => (XS.aloadN A0 hx rfl (D d42_0) rfl rfl k)) ?_
  refine X0.objInit (w15 hw) (w16 hw) (w17 hw) rfl (sz hml rfl) rfl (D d42_1) (by decide) (W := 0) (mroom rfl rfl) (by decide) fun T3 X3 => ?_
  have A4 := X3.at
  refine Gets.via (fun _ k => (XS.aloadN A4 hx rfl (D d42_4) rfl rfl (XS.aloadN A4 hx rfl (D d42_5) rfl rfl k))) ?_
  refine X3.putF (host := "") (Or.inl (w24 hw)) Via.refl Pr2 Pr0 (Or.inr ⟨(w20 hw), rfl, hnm⟩) (w5 hw) (ty := (.array .byte)) (by decide) rfl rfl (leA (by omega)) s2 rfl rfl (D d42_6) fun T5 h5 X5 C5 W5 F5 Z5 => ?_
  have z5 := W5.size
  show Gets p e below _ (T5.setTop (mkF m 9 #[vR x, vR t, vI (0 : Int32)] []))
  have A6 := X5.at
  refine Gets.via (fun _ k => (XS.aloadN A6 hx rfl (D d42_9) rfl rfl (XS.iloadN A6 hx rfl (D d42_10) rfl k))) ?_
  have f8 := Pr1.other W5 (Or.inr (slot_ne (t := .byte) (t' := (.array .byte)) (Or.inr (w21 hw)) (Or.inr (w20 hw)) (by decide) (by decide) (by decide)))
  have f9 := C5.safe (x := x) (ltA (by omega)) s2
  refine X5.putF (host := "") (Or.inl (w25 hw)) Via.refl f8 Z5 (Or.inr ⟨(w21 hw), rfl, hnm⟩) (w5 hw) (ty := .byte) (by decide) (by decide) (by decide) (leA (by omega)) f9 rfl rfl (D d42_11) fun T7 h7 X7 C7 W7 F7 Z7 => ?_
  have z7 := W7.size
  have f10 := F5.other W7 (Or.inr (slot_ne (t := (.array .byte)) (t' := .byte) (Or.inr (w20 hw)) (Or.inr (w21 hw)) (by decide) (by decide) (by decide)))
  exact X7.retV hret (D d42_14) (by decide) (by decide) (fun vmE CE => ⟨rfl, (((Keep.refl h0 [x]).wr W5 (Or.inl (memI (i := 0) rfl))).wr W7 (Or.inl (memI (i := 0) rfl))), Z7, F7, f10⟩)
abbrev Rrm26 : Room := { frames := 0, cells := 0, slots := 0, locals := 0 }
def Qrm26 (Z : State) (u : Int32) (w : Int32) (h0 : Heap) (v : Option Value) (vm : Vm) (h : Heap) : Prop := v = none ∧ h = h0
theorem rm26 (hcx : Cx Z a0 zc fm) (u : Int32) (w : Int32) (h0 : Heap) (O0 : Old Z Z.heap.size h0) (Pr0 : ¬ w < u) : Met l Z consts_1 (⟨"java/util/Arrays", "checkLength", "(II)V"⟩ : MethodName) jdk_65_method_131_code 2 (none) [] Rrm26 [] #[(.int u), (.int w)] h0 (Qrm26 Z u w h0) := by
  have ⟨hw, hEL, O2, P5, O4, P6⟩ := hcx
  refine Met.start (a0 := a0) (Ls := #[vI u, vI w]) pn26 hEL O0 (fun m => by first | (simp [entryFrame, mkF, argsToLocals, Value.category]; done) | rfl) ?_
  intro p e s m below meth cc T0 vm0 X0 sf0_ D hml hret hnm hx zz A0
  refine Gets.via (fun _ k => (XS.iloadN A0 hx rfl (D d26_0) rfl (XS.iloadN A0 hx rfl (D d26_1) rfl (XS.icmpYes A0 hx rfl (pc0 := 2) (pc' := 37) rfl (D d26_2) rfl (Jvm.Free.XT.ii_ge_t Pr0) (by decide) (by decide) k)))) ?_
  exact X0.retV hret (D d26_37) (by decide) (by decide) (fun vmE CE => ⟨rfl, rfl⟩)
abbrev RrmMin : Room := { frames := 0, cells := 0, slots := 0, locals := 0 }
def QrmMin (Z : State) (u : Int32) (w : Int32) (h0 : Heap) (v : Option Value) (vm : Vm) (h : Heap) : Prop := ∃ (r : Int32), v = some (.int r) ∧ h = h0 ∧ r = w
theorem rmMin (hcx : Cx Z a0 zc fm) (u : Int32) (w : Int32) (h0 : Heap) (O0 : Old Z Z.heap.size h0) (Pr0 : ¬ u < w) : Met l Z consts_1 (⟨"java/lang/Math", "min", "(II)I"⟩ : MethodName) jdk_29_method_69_code 2 (some .int) [] RrmMin [] #[(.int u), (.int w)] h0 (QrmMin Z u w h0) := by
  have ⟨hw, hEL, O2, P5, O4, P6⟩ := hcx
  refine Met.start (a0 := a0) (Ls := #[vI u, vI w]) pn27 hEL O0 (fun m => by first | (simp [entryFrame, mkF, argsToLocals, Value.category]; done) | rfl) ?_
  intro p e s m below meth cc T0 vm0 X0 sf0_ D hml hret hnm hx zz A0
  refine Gets.via (fun _ k => (XS.iloadN A0 hx rfl (D d27_0) rfl (XS.iloadN A0 hx rfl (D d27_1) rfl k))) ?_
  by_cases b2 : w < u
  · refine Gets.via (fun _ k => (XS.icmpYes A0 hx rfl (pc0 := 2) (pc' := 9) rfl (D d27_2) rfl (Jvm.Free.XT.ii_gt_t b2) (by decide) (by decide) k)) ?_
    refine Gets.via (fun _ k => (XS.iloadN A0 hx rfl (D d27_9) rfl k)) ?_
    exact X0.retI hret rfl (by simp) (D d27_10) (by decide) (by decide) (fun vmE CE => ⟨w, rfl, rfl, rfl⟩)
  · refine Gets.via (fun _ k => (XS.icmpNo A0 hx rfl (D d27_2) rfl (Jvm.Free.XT.ii_gt_f b2) k)) ?_
    refine Gets.via (fun _ k => (XS.iloadN A0 hx rfl (D d27_5) rfl (XS.goto A0 hx rfl (pc0 := 6) (pc' := 10) rfl (D d27_6) (by decide) (by decide) k))) ?_
    exact X0.retI hret rfl (by simp) (D d27_10) (by decide) (by decide) (fun vmE CE => ⟨u, rfl, rfl, (eq_of_le b2 Pr0)⟩)
abbrev RrmCrB : Room := { frames := 1, cells := 1, slots := 16, locals := 22 }
def QrmCrB (Z : State) (b : Addr) (kb : ClassId) (M : Nat) (vs : List Value) (i : Nat) (j : Nat) (h0 : Heap) (v : Option Value) (vm : Vm) (h : Heap) : Prop := ∃ (t : Addr) (kt : ClassId), v = some (.ref t) ∧ Keep h0 h [] ∧ Arv Z h t kt .byte (Int32.ofNat (j - i)) (slcV vs i (j - i)) (.int (0 : Int32)) ∧ h0.size ≤ t
theorem rmCrB (hcx : Cx Z a0 zc fm) (b : Addr) (kb : ClassId) (M : Nat) (vs : List Value) (i : Nat) (j : Nat) (h0 : Heap) (O0 : Old Z Z.heap.size h0) (Pr0 : Arv Z h0 b kb .byte (Int32.ofNat M) vs (.int (0 : Int32))) (Pr1 : i ≤ j) (Pr2 : j ≤ M) (Pr3 : M ≤ 4000) (Pr4 : j - i ≤ 16) : Met l Z consts_1 (⟨"java/util/Arrays", "copyOfRangeByte", "([BII)[B"⟩ : MethodName) jdk_65_method_133_code 5 (some (.array .byte)) [] RrmCrB [] #[(.ref b), (.int (Int32.ofNat i)), (.int (Int32.ofNat j))] h0 (QrmCrB Z b kb M vs i j h0) := by
  have ⟨hw, hEL, O2, P5, O4, P6⟩ := hcx
  refine Met.start (a0 := a0) (Ls := #[vR b, vI (Int32.ofNat i), vI (Int32.ofNat j), .unset, .unset]) pn25 hEL O0 (fun m => by first | (simp [entryFrame, mkF, argsToLocals, Value.category]; done) | rfl) ?_
  intro p e s m below meth cc T0 vm0 X0 sf0_ D hml hret hnm hx zz A0
  have l1 := ltA Pr0.lt
  have hnl : ¬ (Int32.ofNat j) < (Int32.ofNat i) := of_nlt (by omega) (by omega) (by omega)
  have hmn : ¬ ((Int32.ofNat M) - (Int32.ofNat i)) < (Int32.ofNat (j - i)) := of_subl (by omega) (by omega)
  refine Gets.via (fun _ k => (XS.iloadN A0 hx rfl (D d25_0) rfl (XS.iloadN A0 hx rfl (D d25_1) rfl k))) ?_
  refine X0.callS (W := 0) (w146 hw) (w147 hw) (w141 hw) (w148 hw) (by decide) (X0.payM (sf := []) (rm26 hcx (Int32.ofNat i) (Int32.ofNat j) h0 X0.old hnl) sf0 (w148 hw) (w141 hw)) rfl (sz hml rfl) (argsL := [(.int (Int32.ofNat i)), (.int (Int32.ofNat j))]) (rest := []) (lenOf pd3 rfl) rfl rfl (mroom rfl rfl) (D d25_2) (by decide) (by decide) fun T2 h2 vm2 v2 X2 C2 z2 q2 => ?_
  obtain ⟨rfl, K2⟩ := q2
  rw [K2] at X2 C2
  have A3 := X2.at
  refine Gets.via (fun _ k => (XS.iloadN A3 hx rfl (D d25_5) rfl (XS.iloadN A3 hx rfl (D d25_6) rfl (XS.isub A3 hx rfl (D d25_7) rfl k)))) ?_
  show Gets p e below _ (T2.setTop (mkF m 8 #[vR b, vI (Int32.ofNat i), vI (Int32.ofNat j), .unset, .unset] [(.int ((Int32.ofNat j) - (Int32.ofNat i)))]))
  rw [of_sub (by omega) (by omega)]
  refine Gets.via (fun _ k => (XS.istoreN A3 hx rfl (D d25_8) rfl (l' := #[vR b, vI (Int32.ofNat i), vI (Int32.ofNat j), vI (Int32.ofNat (j - i)), .unset]) rfl (XS.iloadN A3 hx rfl (D d25_9) rfl k))) ?_
  refine X2.newA (aty := .byte) (w19 hw) rfl (D d25_10) rfl (of_pos (by omega)) (cap := 16) (by rw [toN (by omega)]; omega) (by decide) (by decide) (by decide) fun T4 h4 a4 k4 X4 C4 E4 g4 S4 V4 => ?_
  have z4 := E4.1
  have l4 := ltA V4.lt
  have V4_ : Arv Z h4 a4 k4 .byte (Int32.ofNat (j - i)) (List.replicate (j - i) (.int (0 : Int32))) (.int (0 : Int32)) := padN V4 (j - i)
  have A5 := X4.at
  refine Gets.via (fun _ k => (XS.astore A5 hx rfl (D d25_12) rfl rfl (l' := #[vR b, vI (Int32.ofNat i), vI (Int32.ofNat j), vI (Int32.ofNat (j - i)), vR a4]) rfl (XS.aloadN A5 hx rfl (D d25_14) rfl rfl (XS.iloadN A5 hx rfl (D d25_15) rfl (XS.aload A5 hx rfl (D d25_16) rfl rfl (XS.iconst A5 hx rfl (D d25_18) (XS.aloadN A5 hx rfl (D d25_19) rfl rfl k))))))) ?_
  show Gets p e below _ (T4.setTop (mkF m 20 #[vR b, vI (Int32.ofNat i), vI (Int32.ofNat j), vI (Int32.ofNat (j - i)), vR a4] [(.ref b), (.int (0 : Int32)), (.ref a4), (.int (Int32.ofNat i)), (.ref b)]))
  have f6 := Pr0.ext E4
  refine X4.alen f6 rfl rfl (D d25_20) ?_
  refine Gets.via (fun _ k => (XS.iloadN A5 hx rfl (D d25_21) rfl (XS.isub A5 hx rfl (D d25_22) rfl (XS.iloadN A5 hx rfl (D d25_23) rfl k)))) ?_
  refine X4.callS (W := 4) (w149 hw) (w150 hw) (w151 hw) (w152 hw) (by decide) (X4.payM (sf := []) (rmMin hcx ((Int32.ofNat M) - (Int32.ofNat i)) (Int32.ofNat (j - i)) h4 X4.old hmn) sf0 (w152 hw) (w151 hw)) rfl (sz hml rfl) (argsL := [(.int ((Int32.ofNat M) - (Int32.ofNat i))), (.int (Int32.ofNat (j - i)))]) (rest := [(.int (0 : Int32)), (.ref a4), (.int (Int32.ofNat i)), (.ref b)]) (lenOf pd4 rfl) rfl rfl (mroom rfl rfl) (D d25_24) (by decide) (by decide) fun T7 h7 vm7 v7 X7 C7 z7 q7 => ?_
  obtain ⟨r7, rfl, K7, rfl⟩ := q7
  rw [K7] at X7 C7
  have f9 := C7.safe (x := a4) (ltA (by omega)) S4
  refine X7.copy (w153 hw) (w107 hw) (w105 hw) (w106 hw) f6 V4_ (Or.inl ⟨rfl, rfl⟩) (of_pos (by omega)) (by decide) (of_pos (by omega)) (by rw [toN (by omega), toN (by omega), toN (by omega)]; omega) (by rw [toN (by omega), show (0 : Int32).toNatClampNeg = 0 from rfl]; omega) rfl (by rw [toN (by omega), List.length_replicate, show (0 : Int32).toNatClampNeg = 0 from rfl]; omega) (leA (by omega)) f9 rfl (sz hml rfl) rfl (D d25_27) (by decide) (W := 0) (mroom rfl rfl) (by decide) fun T8 h8 X8 C8 K8 V8 => ?_
  have z8 := K8.1
  have V8_ : Arv Z h8 a4 k4 .byte (Int32.ofNat (j - i)) (slcV vs i (j - i)) (.int (0 : Int32)) := (copied (vs := vs) (i := i) (k := j - i) (by omega) (by omega)) ▸ V8
  show Gets p e below _ (T8.setTop (mkF m 30 #[vR b, vI (Int32.ofNat i), vI (Int32.ofNat j), vI (Int32.ofNat (j - i)), vR a4] []))
  have A10 := X8.at
  refine Gets.via (fun _ k => (XS.aload A10 hx rfl (D d25_30) rfl rfl k)) ?_
  exact X8.retA hret rfl rfl rfl (D d25_32) (by decide) (by decide) (fun vmE CE => ⟨a4, k4, rfl, (((Keep.refl h0 []).ext E4).trans K8 (allS (Or.inr (leA (by omega))) all0)), V8_, (leA (by omega))⟩)
abbrev RrmCr : Room := { frames := 2, cells := 1, slots := 16, locals := 38 }
def QrmCr (Z : State) (b : Addr) (kb : ClassId) (M : Nat) (vs : List Value) (i : Nat) (j : Nat) (h0 : Heap) (v : Option Value) (vm : Vm) (h : Heap) : Prop := ∃ (t : Addr) (kt : ClassId), v = some (.ref t) ∧ Keep h0 h [] ∧ Arv Z h t kt .byte (Int32.ofNat (j - i)) (slcV vs i (j - i)) (.int (0 : Int32)) ∧ h0.size ≤ t
theorem rmCr (hcx : Cx Z a0 zc fm) (b : Addr) (kb : ClassId) (M : Nat) (vs : List Value) (i : Nat) (j : Nat) (h0 : Heap) (O0 : Old Z Z.heap.size h0) (Pr0 : Arv Z h0 b kb .byte (Int32.ofNat M) vs (.int (0 : Int32))) (Pr1 : i ≤ j) (Pr2 : j ≤ M) (Pr3 : M ≤ 4000) (Pr4 : j - i ≤ 16) (Pr5 : ¬ (i = 0 ∧ j = M)) : Met l Z consts_1 (⟨"java/util/Arrays", "copyOfRange", "([BII)[B"⟩ : MethodName) jdk_65_method_132_code 3 (some (.array .byte)) [] RrmCr [] #[(.ref b), (.int (Int32.ofNat i)), (.int (Int32.ofNat j))] h0 (QrmCr Z b kb M vs i j h0) := by
  have ⟨hw, hEL, O2, P5, O4, P6⟩ := hcx
  refine Met.start (a0 := a0) (Ls := #[vR b, vI (Int32.ofNat i), vI (Int32.ofNat j)]) pn24 hEL O0 (fun m => by first | (simp [entryFrame, mkF, argsToLocals, Value.category]; done) | rfl) ?_
  intro p e s m below meth cc T0 vm0 X0 sf0_ D hml hret hnm hx zz A0
  have l1 := ltA Pr0.lt
  refine Gets.via (fun _ k => (XS.iloadN A0 hx rfl (D d24_0) rfl k)) ?_
  by_cases b1 : (Int32.ofNat i) = (0 : Int32)
  · refine Gets.via (fun _ k => (XS.ifNo A0 hx rfl (D d24_1) rfl (Jvm.Free.XT.i0_ne_f b1) k)) ?_
    refine Gets.via (fun _ k => (XS.iloadN A0 hx rfl (D d24_4) rfl (XS.aloadN A0 hx rfl (D d24_5) rfl rfl k))) ?_
    refine X0.alen Pr0 rfl rfl (D d24_6) ?_
    refine Gets.via (fun _ k => (XS.icmpNo A0 hx rfl (D d24_7) rfl (Jvm.Free.XT.ii_eq_f (fun q => Pr5 ⟨of_inj (by omega) (by omega) b1, of_inj (by omega) (by omega) q⟩)) k)) ?_
    refine Gets.via (fun _ k => (XS.aloadN A0 hx rfl (D d24_10) rfl rfl (XS.iloadN A0 hx rfl (D d24_11) rfl (XS.iloadN A0 hx rfl (D d24_12) rfl k)))) ?_
    show Gets p e below _ (T0.setTop (mkF m 13 #[vR b, vI (Int32.ofNat i), vI (Int32.ofNat j)] [(.int (Int32.ofNat j)), (.int (Int32.ofNat i)), (.ref b)]))
    refine X0.callS (W := 0) (w143 hw) (w144 hw) (w141 hw) (w145 hw) (by decide) (X0.payM (sf := []) (rmCrB hcx b kb M vs i j h0 X0.old Pr0 Pr1 Pr2 Pr3 Pr4) sf0 (w145 hw) (w141 hw)) rfl (sz hml rfl) (argsL := [(.ref b), (.int (Int32.ofNat i)), (.int (Int32.ofNat j))]) (rest := []) (lenOf pd5 rfl) rfl rfl (mroom rfl rfl) (D d24_13) (by decide) (by decide) fun T2 h2 vm2 v2 X2 C2 z2 q2 => ?_
    obtain ⟨t2, kt2, rfl, K2, g2_0, g2_1⟩ := q2
    have l3 := ltA g2_0.lt
    exact X2.retA hret rfl rfl rfl (D d24_16) (by decide) (by decide) (fun vmE CE => ⟨t2, kt2, rfl, ((Keep.refl h0 []).trans K2 all0), g2_0, g2_1⟩)
  · refine Gets.via (fun _ k => (XS.ifYes A0 hx rfl (pc0 := 1) (pc' := 10) rfl (D d24_1) rfl (Jvm.Free.XT.i0_ne_t b1) (by decide) (by decide) k)) ?_
    refine Gets.via (fun _ k => (XS.aloadN A0 hx rfl (D d24_10) rfl rfl (XS.iloadN A0 hx rfl (D d24_11) rfl (XS.iloadN A0 hx rfl (D d24_12) rfl k)))) ?_
    refine X0.callS (W := 0) (w143 hw) (w144 hw) (w141 hw) (w145 hw) (by decide) (X0.payM (sf := []) (rmCrB hcx b kb M vs i j h0 X0.old Pr0 Pr1 Pr2 Pr3 Pr4) sf0 (w145 hw) (w141 hw)) rfl (sz hml rfl) (argsL := [(.ref b), (.int (Int32.ofNat i)), (.int (Int32.ofNat j))]) (rest := []) (lenOf pd5 rfl) rfl rfl (mroom rfl rfl) (D d24_13) (by decide) (by decide) fun T4 h4 vm4 v4 X4 C4 z4 q4 => ?_
    obtain ⟨t4, kt4, rfl, K4, g4_0, g4_1⟩ := q4
    have l5 := ltA g4_0.lt
    exact X4.retA hret rfl rfl rfl (D d24_16) (by decide) (by decide) (fun vmE CE => ⟨t4, kt4, rfl, ((Keep.refl h0 []).trans K4 all0), g4_0, g4_1⟩)
abbrev RrmNS : Room := { frames := 3, cells := 2, slots := 20, locals := 54 }
def QrmNS (Z : State) (b : Addr) (kb : ClassId) (cs : List Int32) (i : Nat) (kn : Nat) (h0 : Heap) (v : Option Value) (vm : Vm) (h : Heap) : Prop := ∃ (a : Addr) (t : Addr) (kt : ClassId) (zl : Int32) (ds : List Value), v = some (.ref a) ∧ Keep h0 h [] ∧ Exa Z h a "java/lang/String" ∧ Fld Z h a "java/lang/String" "coder" "B" (.int (0 : Int32)) ∧ Fld Z h a "java/lang/String" "value" "[B" (.ref t) ∧ Arv Z h t kt .byte zl ds (.int (0 : Int32)) ∧ zl = (Int32.ofNat kn) ∧ ds = ((((cs.drop i).take kn).map fun c => c.toInt8.toInt32).map Value.int)
theorem rmNS (hcx : Cx Z a0 zc fm) (b : Addr) (kb : ClassId) (cs : List Int32) (i : Nat) (kn : Nat) (h0 : Heap) (O0 : Old Z Z.heap.size h0) (Pr0 : Arv Z h0 b kb .byte (Int32.ofNat (cs).length) ((cs.map fun c => c.toInt8.toInt32).map Value.int) (.int (0 : Int32))) (Pr1 : i + kn ≤ (cs).length) (Pr2 : (cs).length ≤ 4000) (Pr3 : kn ≤ 16) (Pr4 : ¬ (i = 0 ∧ i + kn = (cs).length)) : Met l Z consts_1 (⟨"java/lang/StringLatin1", "newString", "([BII)Ljava/lang/String;"⟩ : MethodName) jdk_43_method_47_code 3 (some (.object "java/lang/String")) [] RrmNS [] #[(.ref b), (.int (Int32.ofNat i)), (.int (Int32.ofNat kn))] h0 (QrmNS Z b kb cs i kn h0) := by
  have ⟨hw, hEL, O2, P5, O4, P6⟩ := hcx
  refine Met.start (a0 := a0) (Ls := #[vR b, vI (Int32.ofNat i), vI (Int32.ofNat kn)]) pn41 hEL O0 (fun m => by first | (simp [entryFrame, mkF, argsToLocals, Value.category]; done) | rfl) ?_
  intro p e s m below meth cc T0 vm0 X0 sf0_ D hml hret hnm hx zz A0
  have l1 := ltA Pr0.lt
  refine Gets.via (fun _ k => (XS.iloadN A0 hx rfl (D d41_0) rfl k)) ?_
  by_cases b1 : (Int32.ofNat kn) = (0 : Int32)
  · refine Gets.via (fun _ k => (XS.ifNo A0 hx rfl (D d41_1) rfl (Jvm.Free.XT.i0_ne_f b1) k)) ?_
    refine X0.ldcC (w211 hw) (wSt hw) (by decide) (vs := []) (z := (0 : Int32)) ⟨by decide, by decide⟩ (by decide) (by decide) rfl (D d41_4) (n := 1) (by decide) (by decide) (by decide) (by decide) fun T2 h2 vm2 a2 yb2 k2 X2 C2 E2 Z2 Fc2 Fv2 V2 q2 => ?_
    have z2 := E2.1
    have l2 := ltA Z2.lt
    have lb2 := ltA V2.lt
    exact X2.retA hret rfl rfl rfl (D d41_6) (by decide) (by decide) (fun vmE CE => ⟨a2, yb2, k2, (0 : Int32), [], rfl, ((Keep.refl h0 []).ext E2), Z2, Fc2, Fv2, V2, b1.symm, (by rw [of_inj (a := kn) (b := 0) (by omega) (by omega) b1]; simp)⟩)
  · refine Gets.via (fun _ k => (XS.ifYes A0 hx rfl (pc0 := 1) (pc' := 7) rfl (D d41_1) rfl (Jvm.Free.XT.i0_ne_t b1) (by decide) (by decide) k)) ?_
    refine X0.new (w212 hw) (w5 hw) (w6 hw) rfl (D d41_7) (by decide) (by decide) fun T3 h3 a3 X3 C3 E3 g3 Z3 S3 D3 => ?_
    have z3 := E3.1
    have l3 := ltA Z3.lt
    show Gets p e below _ (T3.setTop (mkF m 10 #[vR b, vI (Int32.ofNat i), vI (Int32.ofNat kn)] [(.ref a3)]))
    have A4 := X3.at
    refine Gets.via (fun _ k => (XS.dup A4 hx rfl (D d41_10) rfl rfl (XS.aloadN A4 hx rfl (D d41_11) rfl rfl (XS.iloadN A4 hx rfl (D d41_12) rfl (XS.iloadN A4 hx rfl (D d41_13) rfl (XS.iloadN A4 hx rfl (D d41_14) rfl (XS.iadd A4 hx rfl (D d41_15) rfl k))))))) ?_
    show Gets p e below _ (T3.setTop (mkF m 16 #[vR b, vI (Int32.ofNat i), vI (Int32.ofNat kn)] [(.int ((Int32.ofNat i) + (Int32.ofNat kn))), (.int (Int32.ofNat i)), (.ref b), (.ref a3), (.ref a3)]))
    rw [of_add]
    have f5 := Pr0.ext E3
    refine X3.callS (W := 2) (w213 hw) (w140 hw) (w141 hw) (w142 hw) (by decide) (X3.payM (sf := []) (rmCr hcx b kb ((cs).length) ((cs.map fun c => c.toInt8.toInt32).map Value.int) i (i + kn) h3 X3.old f5 (leA (by omega)) (by omega) Pr2 (leA (by omega)) (by omega)) sf0 (w142 hw) (w141 hw)) rfl (sz hml rfl) (argsL := [(.ref b), (.int (Int32.ofNat i)), (.int (Int32.ofNat (i + kn)))]) (rest := [(.ref a3), (.ref a3)]) (lenOf pd5 rfl) rfl rfl (mroom rfl rfl) (D d41_16) (by decide) (by decide) fun T6 h6 vm6 v6 X6 C6 z6 q6 => ?_
    obtain ⟨t6, kt6, rfl, K6, g6_0, g6_1⟩ := q6
    have l7 := ltA g6_0.lt
    have A8 := X6.at
    refine Gets.via (fun _ k => (XS.iconst A8 hx rfl (D d41_19) k)) ?_
    have f9 := Z3.keep K6
    have f10 := (D3 (Or.inr (w21 hw)) (ty := .byte) (by decide) : Fld Z h3 a3 "java/lang/String" "coder" "B" (.int (0 : Int32))).keep K6 nin0
    have f11 := (D3 (Or.inr (w20 hw)) (ty := (.array .byte)) (by decide) : Fld Z h3 a3 "java/lang/String" "value" "[B" .null).keep K6 nin0
    have f12 := C6.safe (x := a3) (ltA (by omega)) S3
    refine X6.callI (y := (⟨"java/lang/String", "<init>", "([BB)V"⟩ : MethodName)) (W := 1) rfl (w214 hw) (w215 hw) (w216 hw) (by decide) (X6.payM (sf := [a3]) (rmInitBB hcx a3 t6 h6 X6.old f9 f10 f11 (leA (by omega))) (sfS f12 sf0) (w216 hw) (w6 hw)) rfl (sz hml rfl) (a := a3) (argsL := [(.ref t6), (.int (0 : Int32))]) (rest := [(.ref a3)]) (lenOf pd6 rfl) rfl rfl (mroom rfl rfl) (D d41_20) (by decide) (by decide) fun T13 h13 vm13 v13 X13 C13 z13 q13 => ?_
    obtain ⟨rfl, K13, g13_0, g13_1, g13_2⟩ := q13
    have l14 := ltA g13_0.lt
    have f15 := g6_0.keep K13 (ninS (neA (by omega)) nin0)
    exact X13.retA hret rfl rfl rfl (D d41_23) (by decide) (by decide) (fun vmE CE => ⟨a3, t6, kt6, (Int32.ofNat ((i + kn) - i)), (slcV ((cs.map fun c => c.toInt8.toInt32).map Value.int) i ((i + kn) - i)), rfl, ((((Keep.refl h0 []).ext E3).trans K6 all0).trans K13 (allS (Or.inr (leA (by omega))) all0)), g13_0, g13_1, g13_2, f15, (by rw [Nat.add_sub_cancel_left]), (by rw [Nat.add_sub_cancel_left]; exact slc_by (by omega))⟩)
abbrev RrmSubs : Room := { frames := 4, cells := 2, slots := 20, locals := 68 }
def QrmSubs (Z : State) (x : Addr) (b : Addr) (kb : ClassId) (cs : List Int32) (i : Nat) (kn : Nat) (h0 : Heap) (v : Option Value) (vm : Vm) (h : Heap) : Prop := ∃ (a : Addr) (t : Addr) (kt : ClassId) (ds : List Int32), v = some (.ref a) ∧ Keep h0 h [] ∧ Str Z h a t kt ds ∧ ds = ((cs.drop i).take kn)
theorem rmSubs (hcx : Cx Z a0 zc fm) (x : Addr) (b : Addr) (kb : ClassId) (cs : List Int32) (i : Nat) (kn : Nat) (h0 : Heap) (O0 : Old Z Z.heap.size h0) (Pr0 : Str Z h0 x b kb cs) (Pr1 : i + kn ≤ (cs).length) (Pr2 : kn ≤ 16) : Met l Z consts_1 (⟨"java/lang/String", "substring", "(II)Ljava/lang/String;"⟩ : MethodName) jdk_42_method_92_code 5 (some (.object "java/lang/String")) [] RrmSubs [] #[(.ref x), (.int (Int32.ofNat i)), (.int (Int32.ofNat (i + kn)))] h0 (QrmSubs Z x b kb cs i kn h0) := by
  have ⟨hw, hEL, O2, P5, O4, P6⟩ := hcx
  refine Met.start (a0 := a0) (Ls := #[vR x, vI (Int32.ofNat i), vI (Int32.ofNat (i + kn)), .unset, .unset]) pn38 hEL O0 (fun m => by first | (simp [entryFrame, mkF, argsToLocals, Value.category]; done) | rfl) ?_
  intro p e s m below meth cc T0 vm0 X0 sf0_ D hml hret hnm hx zz A0
  have l1 := ltA Pr0.lt
  have l2 := ltA Pr0.lb
  have l4 := Pr0.2.2.2.2.2
  have u3 : ¬ (Int32.ofNat i) < (0 : Int32) := of_pos (by omega)
  have u4 : ¬ (Int32.ofNat (i + kn)) < (Int32.ofNat i) := of_nlt (by omega) (by omega) (by omega)
  have u5 : ¬ (Int32.ofNat (cs).length) < (Int32.ofNat (i + kn)) := of_nlt (by omega) (by omega) (by omega)
  refine Gets.via (fun _ k => (XS.aloadN A0 hx rfl (D d38_0) rfl rfl k)) ?_
  refine X0.callV (W := 0) (w41 hw) (w42 hw) (w44 hw) (w43 hw) (nfs rfl (w44 hw)) (by decide) (payLen X0 hw (w5 hw) Pr0 O2 P5 (by decide) (by decide)) Pr0.1 rfl (sz hml rfl) (argsL := []) (rest := []) (lenOf pd7 rfl) rfl rfl (mroom rfl rfl) (D d38_1) (by decide) (by decide) fun T6 h6 vm6 v6 X6 C6 z6 q6 => ?_
  obtain ⟨rfl, K6⟩ := q6
  rw [K6] at X6 C6
  have A7 := X6.at
  refine Gets.via (fun _ k => (XS.istoreN A7 hx rfl (D d38_4) rfl (l' := #[vR x, vI (Int32.ofNat i), vI (Int32.ofNat (i + kn)), vI (Int32.ofNat (cs).length), .unset]) rfl (XS.iloadN A7 hx rfl (D d38_5) rfl (XS.iloadN A7 hx rfl (D d38_6) rfl (XS.iloadN A7 hx rfl (D d38_7) rfl k))))) ?_
  refine X6.callS (W := 0) (w202 hw) (w203 hw) (w6 hw) (w204 hw) (by decide) (X6.payM (sf := []) (rm39 hcx (Int32.ofNat i) (Int32.ofNat (i + kn)) (Int32.ofNat (cs).length) h0 X6.old u3 u4 u5) sf0 (w204 hw) (w6 hw)) rfl (sz hml rfl) (argsL := [(.int (Int32.ofNat i)), (.int (Int32.ofNat (i + kn))), (.int (Int32.ofNat (cs).length))]) (rest := []) (lenOf pd8 rfl) rfl rfl (mroom rfl rfl) (D d38_8) (by decide) (by decide) fun T8 h8 vm8 v8 X8 C8 z8 q8 => ?_
  obtain ⟨rfl, K8⟩ := q8
  rw [K8] at X8 C8
  show Gets p e below _ (T8.setTop (mkF m 11 #[vR x, vI (Int32.ofNat i), vI (Int32.ofNat (i + kn)), vI (Int32.ofNat (cs).length), .unset] []))
  have A9 := X8.at
  refine Gets.via (fun _ k => (XS.iloadN A9 hx rfl (D d38_11) rfl k)) ?_
  by_cases b12 : (Int32.ofNat i) = (0 : Int32)
  · refine Gets.via (fun _ k => (XS.ifNo A9 hx rfl (D d38_12) rfl (Jvm.Free.XT.i0_ne_f b12) k)) ?_
    refine Gets.via (fun _ k => (XS.iloadN A9 hx rfl (D d38_15) rfl (XS.iloadN A9 hx rfl (D d38_16) rfl k))) ?_
    by_cases b17 : (Int32.ofNat (i + kn)) = (Int32.ofNat (cs).length)
    · refine Gets.via (fun _ k => (XS.icmpNo A9 hx rfl (D d38_17) rfl (Jvm.Free.XT.ii_ne_f b17) k)) ?_
      refine Gets.via (fun _ k => (XS.aloadN A9 hx rfl (D d38_20) rfl rfl k)) ?_
      exact X8.retA hret rfl rfl rfl (D d38_21) (by decide) (by decide) (fun vmE CE => ⟨x, b, kb, cs, rfl, (Keep.refl h0 []), Pr0, (slc_all (of_inj (b := 0) (by omega) (by omega) b12) (of_inj (by omega) (by omega) b17))⟩)
    · refine Gets.via (fun _ k => (XS.icmpYes A9 hx rfl (pc0 := 17) (pc' := 22) rfl (D d38_17) rfl (Jvm.Free.XT.ii_ne_t b17) (by decide) (by decide) k)) ?_
      refine Gets.via (fun _ k => (XS.iloadN A9 hx rfl (D d38_22) rfl (XS.iloadN A9 hx rfl (D d38_23) rfl (XS.isub A9 hx rfl (D d38_24) rfl k)))) ?_
      show Gets p e below _ (T8.setTop (mkF m 25 #[vR x, vI (Int32.ofNat i), vI (Int32.ofNat (i + kn)), vI (Int32.ofNat (cs).length), .unset] [(.int ((Int32.ofNat (i + kn)) - (Int32.ofNat i)))]))
      rw [of_sub (by omega) (by omega), Nat.add_sub_cancel_left]
      refine Gets.via (fun _ k => (XS.istore A9 hx rfl (D d38_25) rfl (l' := #[vR x, vI (Int32.ofNat i), vI (Int32.ofNat (i + kn)), vI (Int32.ofNat (cs).length), vI (Int32.ofNat kn)]) rfl (XS.aloadN A9 hx rfl (D d38_27) rfl rfl k))) ?_
      refine X8.callV (W := 0) (w160 hw) (w161 hw) (w163 hw) (w162 hw) (nfs rfl (w163 hw)) (by decide) (X8.payM (sf := []) (rm29 hcx x h0 X8.old Pr0.1 Pr0.2.1) sf0 (w164 hw) (w6 hw)) Pr0.1 rfl (sz hml rfl) (argsL := []) (rest := []) (lenOf pd9 rfl) rfl rfl (mroom rfl rfl) (D d38_28) (by decide) (by decide) fun T10 h10 vm10 v10 X10 C10 z10 q10 => ?_
      obtain ⟨rfl, K10⟩ := q10
      rw [K10] at X10 C10
      have A11 := X10.at
      refine Gets.via (fun _ k => (XS.ifNo A11 hx rfl (D d38_31) rfl (Jvm.Free.XT.i0_eq_f (by decide)) k)) ?_
      refine Gets.via (fun _ k => (XS.aloadN A11 hx rfl (D d38_34) rfl rfl k)) ?_
      refine X10.getF (host := "") (Or.inl (w24 hw)) Via.refl Pr0.2.2.1 rfl rfl (D d38_35) fun T12 X12 => ?_
      show Gets p e below _ (T12.setTop (mkF m 38 #[vR x, vI (Int32.ofNat i), vI (Int32.ofNat (i + kn)), vI (Int32.ofNat (cs).length), vI (Int32.ofNat kn)] [(.ref b)]))
      have A13 := X12.at
      refine Gets.via (fun _ k => (XS.iloadN A13 hx rfl (D d38_38) rfl (XS.iload A13 hx rfl (D d38_39) rfl k))) ?_
      have u41 : ¬ (i = 0 ∧ i + kn = (cs).length) := fun q => b17 (by rw [q.2])
      refine X12.callS (W := 0) (w208 hw) (w209 hw) (w167 hw) (w210 hw) (by decide) (X12.payM (sf := []) (rmNS hcx b kb cs i kn h0 X12.old Pr0.2.2.2.1 Pr1 l4 Pr2 u41) sf0 (w210 hw) (w167 hw)) rfl (sz hml rfl) (argsL := [(.ref b), (.int (Int32.ofNat i)), (.int (Int32.ofNat kn))]) (rest := []) (lenOf pd10 rfl) rfl rfl (mroom rfl rfl) (D d38_41) (by decide) (by decide) fun T14 h14 vm14 v14 X14 C14 z14 q14 => ?_
      obtain ⟨a14, t14, kt14, zl14, ds14, rfl, K14, g14_0, g14_1, g14_2, g14_3, rfl, rfl⟩ := q14
      have l15 := ltA g14_0.lt
      have l16 := ltA g14_3.lt
      have A17 := X14.at
      refine Gets.via (fun _ k => (XS.goto A17 hx rfl (pc0 := 44) (pc' := 57) rfl (D d38_44) (by decide) (by decide) k)) ?_
      have S57 : Str Z h14 a14 t14 kt14 ((cs.drop i).take kn) := ⟨g14_0, g14_1, g14_2, (slc_len Pr1).symm ▸ g14_3, fun z hz => Pr0.2.2.2.2.1 z (List.mem_of_mem_drop (List.mem_of_mem_take hz)), by rw [slc_len Pr1]; omega⟩
      exact X14.retA hret rfl rfl rfl (D d38_57) (by decide) (by decide) (fun vmE CE => ⟨a14, t14, kt14, ((cs.drop i).take kn), rfl, ((Keep.refl h0 []).trans K14 all0), S57, rfl⟩)
  · refine Gets.via (fun _ k => (XS.ifYes A9 hx rfl (pc0 := 12) (pc' := 22) rfl (D d38_12) rfl (Jvm.Free.XT.i0_ne_t b12) (by decide) (by decide) k)) ?_
    refine Gets.via (fun _ k => (XS.iloadN A9 hx rfl (D d38_22) rfl (XS.iloadN A9 hx rfl (D d38_23) rfl (XS.isub A9 hx rfl (D d38_24) rfl k)))) ?_
    show Gets p e below _ (T8.setTop (mkF m 25 #[vR x, vI (Int32.ofNat i), vI (Int32.ofNat (i + kn)), vI (Int32.ofNat (cs).length), .unset] [(.int ((Int32.ofNat (i + kn)) - (Int32.ofNat i)))]))
    rw [of_sub (by omega) (by omega), Nat.add_sub_cancel_left]
    refine Gets.via (fun _ k => (XS.istore A9 hx rfl (D d38_25) rfl (l' := #[vR x, vI (Int32.ofNat i), vI (Int32.ofNat (i + kn)), vI (Int32.ofNat (cs).length), vI (Int32.ofNat kn)]) rfl (XS.aloadN A9 hx rfl (D d38_27) rfl rfl k))) ?_
    refine X8.callV (W := 0) (w160 hw) (w161 hw) (w163 hw) (w162 hw) (nfs rfl (w163 hw)) (by decide) (X8.payM (sf := []) (rm29 hcx x h0 X8.old Pr0.1 Pr0.2.1) sf0 (w164 hw) (w6 hw)) Pr0.1 rfl (sz hml rfl) (argsL := []) (rest := []) (lenOf pd9 rfl) rfl rfl (mroom rfl rfl) (D d38_28) (by decide) (by decide) fun T18 h18 vm18 v18 X18 C18 z18 q18 => ?_
    obtain ⟨rfl, K18⟩ := q18
    rw [K18] at X18 C18
    have A19 := X18.at
    refine Gets.via (fun _ k => (XS.ifNo A19 hx rfl (D d38_31) rfl (Jvm.Free.XT.i0_eq_f (by decide)) k)) ?_
    refine Gets.via (fun _ k => (XS.aloadN A19 hx rfl (D d38_34) rfl rfl k)) ?_
    refine X18.getF (host := "") (Or.inl (w24 hw)) Via.refl Pr0.2.2.1 rfl rfl (D d38_35) fun T20 X20 => ?_
    show Gets p e below _ (T20.setTop (mkF m 38 #[vR x, vI (Int32.ofNat i), vI (Int32.ofNat (i + kn)), vI (Int32.ofNat (cs).length), vI (Int32.ofNat kn)] [(.ref b)]))
    have A21 := X20.at
    refine Gets.via (fun _ k => (XS.iloadN A21 hx rfl (D d38_38) rfl (XS.iload A21 hx rfl (D d38_39) rfl k))) ?_
    have u41 : ¬ (i = 0 ∧ i + kn = (cs).length) := fun q => b12 (by rw [q.1]; rfl)
    refine X20.callS (W := 0) (w208 hw) (w209 hw) (w167 hw) (w210 hw) (by decide) (X20.payM (sf := []) (rmNS hcx b kb cs i kn h0 X20.old Pr0.2.2.2.1 Pr1 l4 Pr2 u41) sf0 (w210 hw) (w167 hw)) rfl (sz hml rfl) (argsL := [(.ref b), (.int (Int32.ofNat i)), (.int (Int32.ofNat kn))]) (rest := []) (lenOf pd10 rfl) rfl rfl (mroom rfl rfl) (D d38_41) (by decide) (by decide) fun T22 h22 vm22 v22 X22 C22 z22 q22 => ?_
    obtain ⟨a22, t22, kt22, zl22, ds22, rfl, K22, g22_0, g22_1, g22_2, g22_3, rfl, rfl⟩ := q22
    have l23 := ltA g22_0.lt
    have l24 := ltA g22_3.lt
    have A25 := X22.at
    refine Gets.via (fun _ k => (XS.goto A25 hx rfl (pc0 := 44) (pc' := 57) rfl (D d38_44) (by decide) (by decide) k)) ?_
    have S57 : Str Z h22 a22 t22 kt22 ((cs.drop i).take kn) := ⟨g22_0, g22_1, g22_2, (slc_len Pr1).symm ▸ g22_3, fun z hz => Pr0.2.2.2.2.1 z (List.mem_of_mem_drop (List.mem_of_mem_take hz)), by rw [slc_len Pr1]; omega⟩
    exact X22.retA hret rfl rfl rfl (D d38_57) (by decide) (by decide) (fun vmE CE => ⟨a22, t22, kt22, ((cs.drop i).take kn), rfl, ((Keep.refl h0 []).trans K22 all0), S57, rfl⟩)
abbrev RrmAsb : Room := { frames := 1, cells := 1, slots := 16, locals := 12 }
def QrmAsb (Z : State) (x : Addr) (h0 : Heap) (v : Option Value) (vm : Vm) (h : Heap) : Prop := ∃ (d : Addr) (kd : ClassId), v = none ∧ Keep h0 h [x] ∧ Exa Z h x "java/lang/StringBuilder" ∧ Fld Z h x "java/lang/AbstractStringBuilder" "value" "[B" (.ref d) ∧ Fld Z h x "java/lang/AbstractStringBuilder" "coder" "B" (.int (0 : Int32)) ∧ Fld Z h x "java/lang/AbstractStringBuilder" "count" "I" (.int (Int32.ofNat (([] : List Int32)).length)) ∧ Arv Z h d kd .byte (16 : Int32) ((([] : List Int32).map fun c => c.toInt8.toInt32).map Value.int) (.int (0 : Int32)) ∧ Safe Z consts_1 vm h d ∧ h0.size ≤ d
theorem rmAsb (hcx : Cx Z a0 zc fm) (x : Addr) (h0 : Heap) (O0 : Old Z Z.heap.size h0) (Pr0 : Exa Z h0 x "java/lang/StringBuilder") (Pr1 : Fld Z h0 x "java/lang/AbstractStringBuilder" "value" "[B" .null) (Pr2 : Fld Z h0 x "java/lang/AbstractStringBuilder" "coder" "B" (.int (0 : Int32))) (Pr3 : Fld Z h0 x "java/lang/AbstractStringBuilder" "count" "I" (.int (0 : Int32))) (Pr4 : Z.heap.size ≤ x) : Met l Z consts_1 (⟨"java/lang/AbstractStringBuilder", "<init>", "(I)V"⟩ : MethodName) jdk_68_method_2_code 2 (none) [] RrmAsb [] #[(.ref x), (.int (16 : Int32))] h0 (QrmAsb Z x h0) := by
  have ⟨hw, hEL, O2, P5, O4, P6⟩ := hcx
  refine Met.start (a0 := a0) (Ls := #[vR x, vI (16 : Int32)]) pn10 hEL O0 (fun m => by first | (simp [entryFrame, mkF, argsToLocals, Value.category]; done) | rfl) ?_
  intro p e s m below meth cc T0 vm0 X0 sf0_ D hml hret hnm hx zz A0
  have l1 := ltA Pr0.lt
  refine Gets.via (fun _ k => (XS.aloadN A0 hx rfl (D d10_0) rfl rfl k)) ?_
  refine X0.objInit (w64 hw) (w16 hw) (w17 hw) rfl (sz hml rfl) rfl (D d10_1) (by decide) (W := 0) (mroom rfl rfl) (by decide) fun T2 X2 => ?_
  refine X2.getS (host := "") (Or.inl (w65 hw)) Via.refl (X2.sta O2) rfl (D d10_4) fun T3 X3 => ?_
  have A4 := X3.at
  refine Gets.via (fun _ k => (XS.ifNo A4 hx rfl (D d10_7) rfl (Jvm.Free.XT.i0_eq_f P5) k)) ?_
  refine Gets.via (fun _ k => (XS.aloadN A4 hx rfl (D d10_10) rfl rfl (XS.iloadN A4 hx rfl (D d10_11) rfl k))) ?_
  show Gets p e below _ (T3.setTop (mkF m 12 #[vR x, vI (16 : Int32)] [(.int (16 : Int32)), (.ref x)]))
  refine X3.newA (aty := .byte) (w19 hw) rfl (D d10_12) rfl (by decide) (cap := 16) (by decide) (by decide) (by decide) (by decide) fun T5 h5 a5 k5 X5 C5 E5 g5 S5 V5 => ?_
  have z5 := E5.1
  have l5 := ltA V5.lt
  have f7 := Pr1.ext E5
  have f8 := Pr0.ext E5
  refine X5.putF (host := "") (Or.inl (w66 hw)) Via.refl f7 f8 (Or.inl (w67 hw)) (w53 hw) (ty := (.array .byte)) (by decide) rfl rfl (leA (by omega)) (Safe.exa X5.hZ.alike f8 (by decide) (by decide)) rfl rfl (D d10_14) fun T6 h6 X6 C6 W6 F6 Z6 => ?_
  have z6 := W6.size
  have A9 := X6.at
  refine Gets.via (fun _ k => (XS.aloadN A9 hx rfl (D d10_17) rfl rfl (XS.iconst A9 hx rfl (D d10_18) k))) ?_
  have f11 := Pr2.ext E5
  have f12 := f11.other W6 (Or.inr (slot_ne (t := .byte) (t' := (.array .byte)) (Or.inl (w69 hw)) (Or.inl (w67 hw)) (by decide) (by decide) (by decide)))
  refine X6.putF (host := "") (Or.inl (w68 hw)) Via.refl f12 Z6 (Or.inl (w69 hw)) (w53 hw) (ty := .byte) (by decide) (by decide) (by decide) (leA (by omega)) (Safe.exa X6.hZ.alike Z6 (by decide) (by decide)) rfl rfl (D d10_19) fun T10 h10 X10 C10 W10 F10 Z10 => ?_
  have z10 := W10.size
  have A13 := X10.at
  refine Gets.via (fun _ k => (XS.goto A13 hx rfl (pc0 := 22) (pc' := 38) rfl (D d10_22) (by decide) (by decide) k)) ?_
  show Gets p e below _ (T10.setTop (mkF m 38 #[vR x, vI (16 : Int32)] []))
  have f14 := F6.other W10 (Or.inr (slot_ne (t := (.array .byte)) (t' := .byte) (Or.inl (w67 hw)) (Or.inl (w69 hw)) (by decide) (by decide) (by decide)))
  have f15 := Pr3.ext E5
  have f16 := f15.other W6 (Or.inr (slot_ne (t := .int) (t' := (.array .byte)) (Or.inl (w82 hw)) (Or.inl (w67 hw)) (by decide) (by decide) (by decide)))
  have f17 := f16.other W10 (Or.inr (slot_ne (t := .int) (t' := .byte) (Or.inl (w82 hw)) (Or.inl (w69 hw)) (by decide) (by decide) (by decide)))
  have f18 := V5.other W6 (neA (by omega))
  have f19 := f18.other W10 (neA (by omega))
  have f20 := C6.safe (x := a5) (ltA (by omega)) S5
  have f21 := C10.safe (x := a5) (ltA (by omega)) f20
  exact X10.retV hret (D d10_38) (by decide) (by decide) (fun vmE CE => ⟨a5, k5, rfl, ((((Keep.refl h0 [x]).ext E5).wr W6 (Or.inl (memI (i := 0) rfl))).wr W10 (Or.inl (memI (i := 0) rfl))), Z10, f14, F10, f17, f19, CE.safe (x := a5) (ltA (by omega)) f21, (leA (by omega))⟩)
abbrev RrmSbI : Room := { frames := 2, cells := 1, slots := 16, locals := 25 }
def QrmSbI (Z : State) (x : Addr) (h0 : Heap) (v : Option Value) (vm : Vm) (h : Heap) : Prop := ∃ (d : Addr) (kd : ClassId), v = none ∧ Keep h0 h [x] ∧ Exa Z h x "java/lang/StringBuilder" ∧ Fld Z h x "java/lang/AbstractStringBuilder" "value" "[B" (.ref d) ∧ Fld Z h x "java/lang/AbstractStringBuilder" "coder" "B" (.int (0 : Int32)) ∧ Fld Z h x "java/lang/AbstractStringBuilder" "count" "I" (.int (Int32.ofNat (([] : List Int32)).length)) ∧ Arv Z h d kd .byte (16 : Int32) ((([] : List Int32).map fun c => c.toInt8.toInt32).map Value.int) (.int (0 : Int32)) ∧ Safe Z consts_1 vm h d ∧ h0.size ≤ d
theorem rmSbI (hcx : Cx Z a0 zc fm) (x : Addr) (h0 : Heap) (O0 : Old Z Z.heap.size h0) (Pr0 : Exa Z h0 x "java/lang/StringBuilder") (Pr1 : Fld Z h0 x "java/lang/AbstractStringBuilder" "value" "[B" .null) (Pr2 : Fld Z h0 x "java/lang/AbstractStringBuilder" "coder" "B" (.int (0 : Int32))) (Pr3 : Fld Z h0 x "java/lang/AbstractStringBuilder" "count" "I" (.int (0 : Int32))) (Pr4 : Z.heap.size ≤ x) : Met l Z consts_1 (⟨"java/lang/StringBuilder", "<init>", "()V"⟩ : MethodName) jdk_67_method_1_code 1 (none) [] RrmSbI [] #[(.ref x)] h0 (QrmSbI Z x h0) := by
  have ⟨hw, hEL, O2, P5, O4, P6⟩ := hcx
  refine Met.start (a0 := a0) (Ls := #[vR x]) pn9 hEL O0 (fun m => by first | (simp [entryFrame, mkF, argsToLocals, Value.category]; done) | rfl) ?_
  intro p e s m below meth cc T0 vm0 X0 sf0_ D hml hret hnm hx zz A0
  have l1 := ltA Pr0.lt
  refine Gets.via (fun _ k => (XS.aloadN A0 hx rfl (D d9_0) rfl rfl (XS.bipush A0 hx rfl (D d9_1) k))) ?_
  refine X0.callI (y := (⟨"java/lang/AbstractStringBuilder", "<init>", "(I)V"⟩ : MethodName)) (W := 0) rfl (w58 hw) (w59 hw) (w63 hw) (by decide) (X0.payM (sf := []) (rmAsb hcx x h0 X0.old Pr0 Pr1 Pr2 Pr3 Pr4) sf0 (w63 hw) (w62 hw)) rfl (sz hml rfl) (a := x) (argsL := [(.int (16 : Int32))]) (rest := []) (lenOf pd11 rfl) rfl rfl (mroom rfl rfl) (D d9_3) (by decide) (by decide) fun T2 h2 vm2 v2 X2 C2 z2 q2 => ?_
  obtain ⟨d2, kd2, rfl, K2, g2_0, g2_1, g2_2, g2_3, g2_4, g2_5, g2_6⟩ := q2
  have l3 := ltA g2_0.lt
  have l4 := ltA g2_4.lt
  exact X2.retV hret (D d9_6) (by decide) (by decide) (fun vmE CE => ⟨d2, kd2, rfl, ((Keep.refl h0 [x]).trans K2 (allS (Or.inl (memI (i := 0) rfl)) all0)), g2_0, g2_1, g2_2, g2_3, g2_4, CE.safe (x := d2) (ltA (by omega)) g2_5, g2_6⟩)
abbrev RrmEns0 : Room := { frames := 0, cells := 0, slots := 0, locals := 0 }
def QrmEns0 (Z : State) (x : Addr) (n : Nat) (d : Addr) (kd : ClassId) (vs : List Value) (h0 : Heap) (v : Option Value) (vm : Vm) (h : Heap) : Prop := v = none ∧ h = h0
theorem rmEns0 (hcx : Cx Z a0 zc fm) (x : Addr) (n : Nat) (d : Addr) (kd : ClassId) (vs : List Value) (h0 : Heap) (O0 : Old Z Z.heap.size h0) (Pr0 : Exa Z h0 x "java/lang/StringBuilder") (Pr1 : Fld Z h0 x "java/lang/AbstractStringBuilder" "value" "[B" (.ref d)) (Pr2 : Fld Z h0 x "java/lang/AbstractStringBuilder" "coder" "B" (.int (0 : Int32))) (Pr3 : Arv Z h0 d kd .byte (16 : Int32) vs (.int (0 : Int32))) (Pr4 : n ≤ 16) : Met l Z consts_1 (⟨"java/lang/AbstractStringBuilder", "ensureCapacityInternal", "(I)V"⟩ : MethodName) jdk_68_method_9_code 3 (none) [] RrmEns0 [] #[(.ref x), (.int (Int32.ofNat n))] h0 (QrmEns0 Z x n d kd vs h0) := by
  have ⟨hw, hEL, O2, P5, O4, P6⟩ := hcx
  refine Met.start (a0 := a0) (Ls := #[vR x, vI (Int32.ofNat n), .unset]) pn13 hEL O0 (fun m => by first | (simp [entryFrame, mkF, argsToLocals, Value.category]; done) | rfl) ?_
  intro p e s m below meth cc T0 vm0 X0 sf0_ D hml hret hnm hx zz A0
  have l1 := ltA Pr0.lt
  have l2 := ltA Pr3.lt
  refine Gets.via (fun _ k => (XS.aloadN A0 hx rfl (D d13_0) rfl rfl k)) ?_
  refine X0.getF (host := "") (Or.inl (w66 hw)) Via.refl Pr1 rfl rfl (D d13_1) fun T3 X3 => ?_
  refine X3.alen Pr3 rfl rfl (D d13_4) ?_
  have A4 := X3.at
  refine Gets.via (fun _ k => (XS.aloadN A4 hx rfl (D d13_5) rfl rfl k)) ?_
  refine X3.getF (host := "") (Or.inl (w68 hw)) Via.refl Pr2 rfl rfl (D d13_6) fun T5 X5 => ?_
  show Gets p e below _ (T5.setTop (mkF m 9 #[vR x, vI (Int32.ofNat n), .unset] [(.int (0 : Int32)), (.int (16 : Int32))]))
  have A6 := X5.at
  refine Gets.via (fun _ k => (ishrV A6 hx rfl (D d13_9) rfl (v := (16 : Int32)) (by decide) (XS.istoreN A6 hx rfl (D d13_10) rfl (l' := #[vR x, vI (Int32.ofNat n), vI (16 : Int32)]) rfl (XS.iloadN A6 hx rfl (D d13_11) rfl (XS.iloadN A6 hx rfl (D d13_12) rfl (XS.isub A6 hx rfl (D d13_13) rfl (XS.ifYes A6 hx rfl (pc0 := 14) (pc' := 38) rfl (D d13_14) rfl (Jvm.Free.XT.i0_le_t (sub_np (k := 16) (by omega) (by omega))) (by decide) (by decide) k))))))) ?_
  exact X5.retV hret (D d13_38) (by decide) (by decide) (fun vmE CE => ⟨rfl, rfl⟩)
abbrev RrmSbL0 : Room := { frames := 0, cells := 0, slots := 0, locals := 0 }
def QrmSbL0 (Z : State) (x : Addr) (h0 : Heap) (v : Option Value) (vm : Vm) (h : Heap) : Prop := v = some (.int (1 : Int32)) ∧ h = h0
theorem rmSbL0 (hcx : Cx Z a0 zc fm) (x : Addr) (h0 : Heap) (O0 : Old Z Z.heap.size h0) (Pr0 : Exa Z h0 x "java/lang/StringBuilder") (Pr1 : Fld Z h0 x "java/lang/AbstractStringBuilder" "coder" "B" (.int (0 : Int32))) : Met l Z consts_1 (⟨"java/lang/AbstractStringBuilder", "isLatin1", "()Z"⟩ : MethodName) jdk_68_method_68_code 1 (some .boolean) [] RrmSbL0 [] #[(.ref x)] h0 (QrmSbL0 Z x h0) := by
  have ⟨hw, hEL, O2, P5, O4, P6⟩ := hcx
  refine Met.start (a0 := a0) (Ls := #[vR x]) pn23 hEL O0 (fun m => by first | (simp [entryFrame, mkF, argsToLocals, Value.category]; done) | rfl) ?_
  intro p e s m below meth cc T0 vm0 X0 sf0_ D hml hret hnm hx zz A0
  have l1 := ltA Pr0.lt
  refine X0.getS (host := "") (Or.inl (w65 hw)) Via.refl (X0.sta O2) rfl (D d23_0) fun T2 X2 => ?_
  have A3 := X2.at
  refine Gets.via (fun _ k => (XS.ifNo A3 hx rfl (D d23_3) rfl (Jvm.Free.XT.i0_eq_f P5) k)) ?_
  refine Gets.via (fun _ k => (XS.aloadN A3 hx rfl (D d23_6) rfl rfl k)) ?_
  refine X2.getF (host := "") (Or.inl (w68 hw)) Via.refl Pr1 rfl rfl (D d23_7) fun T4 X4 => ?_
  have A5 := X4.at
  refine Gets.via (fun _ k => (XS.ifNo A5 hx rfl (D d23_10) rfl (Jvm.Free.XT.i0_ne_f (by decide)) k)) ?_
  show Gets p e below _ (T4.setTop (mkF m 13 #[vR x] []))
  refine Gets.via (fun _ k => (XS.iconst A5 hx rfl (D d23_13) (XS.goto A5 hx rfl (pc0 := 14) (pc' := 18) rfl (D d23_14) (by decide) (by decide) k))) ?_
  exact X4.retI hret (by decide) (by simp) (D d23_18) (by decide) (by decide) (fun vmE CE => ⟨rfl, rfl⟩)
abbrev RrmGb0 : Room := { frames := 1, cells := 0, slots := 0, locals := 22 }
def QrmGb0 (Z : State) (s1 : Addr) (d : Addr) (cs : List Int32) (b : Addr) (kb : ClassId) (ds : List Int32) (kd : ClassId) (h0 : Heap) (v : Option Value) (vm : Vm) (h : Heap) : Prop := v = none ∧ Keep h0 h [d] ∧ Arv Z h d kd .byte (16 : Int32) (((cs ++ ds).map fun c => c.toInt8.toInt32).map Value.int) (.int (0 : Int32))
theorem rmGb0 (hcx : Cx Z a0 zc fm) (s1 : Addr) (d : Addr) (cs : List Int32) (b : Addr) (kb : ClassId) (ds : List Int32) (kd : ClassId) (h0 : Heap) (O0 : Old Z Z.heap.size h0) (Pr0 : Str Z h0 s1 b kb ds) (Pr1 : Arv Z h0 d kd .byte (16 : Int32) ((cs.map fun c => c.toInt8.toInt32).map Value.int) (.int (0 : Int32))) (Pr2 : (cs).length + (ds).length ≤ 16) (Pr3 : Z.heap.size ≤ d) : Met l Z consts_1 (⟨"java/lang/String", "getBytes", "([BIB)V"⟩ : MethodName) jdk_42_method_147_code 4 (none) [] RrmGb0 [d] #[(.ref s1), (.ref d), (.int (Int32.ofNat (cs).length)), (.int (0 : Int32))] h0 (QrmGb0 Z s1 d cs b kb ds kd h0) := by
  have ⟨hw, hEL, O2, P5, O4, P6⟩ := hcx
  refine Met.start (a0 := a0) (Ls := #[vR s1, vR d, vI (Int32.ofNat (cs).length), vI (0 : Int32)]) pn16 hEL O0 (fun m => by first | (simp [entryFrame, mkF, argsToLocals, Value.category]; done) | rfl) ?_
  intro p e s m below meth cc T0 vm0 X0 sf0_ D hml hret hnm hx zz A0
  have l1 := ltA Pr0.lt
  have l2 := ltA Pr0.lb
  have l3 := ltA Pr1.lt
  have s4 := sf0_ d (memI (i := 0) rfl)
  have l4 := Pr0.2.2.2.2.2
  refine Gets.via (fun _ k => (XS.aloadN A0 hx rfl (D d16_0) rfl rfl k)) ?_
  refine X0.callV (W := 0) (w46 hw) (w47 hw) (w49 hw) (w48 hw) (nfs rfl (w49 hw)) (by decide) (X0.payM (sf := []) (rmCoder0 hcx s1 h0 X0.old Pr0.1 Pr0.2.1) sf0 (w50 hw) (w6 hw)) Pr0.1 rfl (sz hml rfl) (argsL := []) (rest := []) (lenOf pd1 rfl) rfl rfl (mroom rfl rfl) (D d16_1) (by decide) (by decide) fun T5 h5 vm5 v5 X5 C5 z5 q5 => ?_
  obtain ⟨rfl, K5⟩ := q5
  rw [K5] at X5 C5
  have A6 := X5.at
  refine Gets.via (fun _ k => (XS.iloadN A6 hx rfl (D d16_4) rfl (XS.icmpNo A6 hx rfl (D d16_5) rfl (Jvm.Free.XT.ii_ne_f (by decide)) k))) ?_
  refine Gets.via (fun _ k => (XS.aloadN A6 hx rfl (D d16_8) rfl rfl k)) ?_
  refine X5.getF (host := "") (Or.inl (w24 hw)) Via.refl Pr0.2.2.1 rfl rfl (D d16_9) fun T7 X7 => ?_
  show Gets p e below _ (T7.setTop (mkF m 12 #[vR s1, vR d, vI (Int32.ofNat (cs).length), vI (0 : Int32)] [(.ref b)]))
  have A8 := X7.at
  refine Gets.via (fun _ k => (XS.iconst A8 hx rfl (D d16_12) (XS.aloadN A8 hx rfl (D d16_13) rfl rfl (XS.iloadN A8 hx rfl (D d16_14) rfl (XS.iloadN A8 hx rfl (D d16_15) rfl (ishlV A8 hx rfl (D d16_16) rfl (v := (Int32.ofNat (cs).length)) (shl0 _) (XS.aloadN A8 hx rfl (D d16_17) rfl rfl k))))))) ?_
  refine X7.getF (host := "") (Or.inl (w24 hw)) Via.refl Pr0.2.2.1 rfl rfl (D d16_18) fun T9 X9 => ?_
  refine X9.alen Pr0.2.2.2.1 rfl rfl (D d16_21) ?_
  show Gets p e below _ (T9.setTop (mkF m 22 #[vR s1, vR d, vI (Int32.ofNat (cs).length), vI (0 : Int32)] [(.int (Int32.ofNat (ds).length)), (.int (Int32.ofNat (cs).length)), (.ref d), (.int (0 : Int32)), (.ref b)]))
  have f11 := C5.safe (x := d) (ltA (by omega)) s4
  refine X9.copy (w104 hw) (w107 hw) (w105 hw) (w106 hw) Pr0.2.2.2.1 (Pr1.pad (pad_rep _ _ 16)) (Or.inl ⟨rfl, rfl⟩) (by decide) (of_pos (by omega)) (of_pos (by omega)) (by rw [toN (by omega)]; exact Nat.le_of_eq (Nat.zero_add _)) (by rw [toN (by omega), toN (by omega), show (16 : Int32).toNatClampNeg = 16 from rfl]; omega) rfl (by rw [toN (by omega), toN (by omega), List.length_append, by_len, List.length_replicate]; omega) (leA (by omega)) f11 rfl (sz hml rfl) rfl (D d16_22) (by decide) (W := 0) (mroom rfl rfl) (by decide) fun T10 h10 X10 C10 K10 V10 => ?_
  have z10 := K10.1
  have V10_ : Arv Z h10 d kd .byte (16 : Int32) (((cs ++ ds).map fun c => c.toInt8.toInt32).map Value.int) (.int (0 : Int32)) := (by_app cs ds) ▸ catA V10 rfl (by rw [toN (by omega), by_len]) (by rw [toN (by omega), by_len])
  have A12 := X10.at
  refine Gets.via (fun _ k => (XS.goto A12 hx rfl (pc0 := 25) (pc' := 43) rfl (D d16_25) (by decide) (by decide) k)) ?_
  exact X10.retV hret (D d16_43) (by decide) (by decide) (fun vmE CE => ⟨rfl, ((Keep.refl h0 [d]).trans K10 (allS (Or.inl (memI (i := 0) rfl)) all0)), V10_⟩)
abbrev RrmInf0 : Room := { frames := 1, cells := 0, slots := 0, locals := 13 }
def QrmInf0 (Z : State) (x : Addr) (s1 : Addr) (h0 : Heap) (v : Option Value) (vm : Vm) (h : Heap) : Prop := v = none ∧ h = h0
theorem rmInf0 (hcx : Cx Z a0 zc fm) (x : Addr) (s1 : Addr) (h0 : Heap) (O0 : Old Z Z.heap.size h0) (Pr0 : Exa Z h0 x "java/lang/StringBuilder") (Pr1 : Fld Z h0 x "java/lang/AbstractStringBuilder" "coder" "B" (.int (0 : Int32))) (Pr2 : Exa Z h0 s1 "java/lang/String") (Pr3 : Fld Z h0 s1 "java/lang/String" "coder" "B" (.int (0 : Int32))) : Met l Z consts_1 (⟨"java/lang/AbstractStringBuilder", "inflateIfNeededFor", "(Ljava/lang/String;)V"⟩ : MethodName) jdk_68_method_71_code 2 (none) [] RrmInf0 [] #[(.ref x), (.ref s1)] h0 (QrmInf0 Z x s1 h0) := by
  have ⟨hw, hEL, O2, P5, O4, P6⟩ := hcx
  refine Met.start (a0 := a0) (Ls := #[vR x, vR s1]) pn15 hEL O0 (fun m => by first | (simp [entryFrame, mkF, argsToLocals, Value.category]; done) | rfl) ?_
  intro p e s m below meth cc T0 vm0 X0 sf0_ D hml hret hnm hx zz A0
  have l1 := ltA Pr0.lt
  have l2 := ltA Pr2.lt
  refine X0.getS (host := "") (Or.inl (w65 hw)) Via.refl (X0.sta O2) rfl (D d15_0) fun T3 X3 => ?_
  have A4 := X3.at
  refine Gets.via (fun _ k => (XS.ifNo A4 hx rfl (D d15_3) rfl (Jvm.Free.XT.i0_eq_f P5) k)) ?_
  refine Gets.via (fun _ k => (XS.aloadN A4 hx rfl (D d15_6) rfl rfl k)) ?_
  refine X3.getF (host := "") (Or.inl (w68 hw)) Via.refl Pr1 rfl rfl (D d15_7) fun T5 X5 => ?_
  have A6 := X5.at
  refine Gets.via (fun _ k => (XS.aloadN A6 hx rfl (D d15_10) rfl rfl k)) ?_
  show Gets p e below _ (T5.setTop (mkF m 11 #[vR x, vR s1] [(.ref s1), (.int (0 : Int32))]))
  refine X5.callV (W := 1) (w98 hw) (w47 hw) (w49 hw) (w48 hw) (nfs rfl (w49 hw)) (by decide) (X5.payM (sf := []) (rmCoder0 hcx s1 h0 X5.old Pr2 Pr3) sf0 (w50 hw) (w6 hw)) Pr2 rfl (sz hml rfl) (argsL := []) (rest := [(.int (0 : Int32))]) (lenOf pd1 rfl) rfl rfl (mroom rfl rfl) (D d15_11) (by decide) (by decide) fun T7 h7 vm7 v7 X7 C7 z7 q7 => ?_
  obtain ⟨rfl, K7⟩ := q7
  rw [K7] at X7 C7
  have A8 := X7.at
  refine Gets.via (fun _ k => (XS.icmpYes A8 hx rfl (pc0 := 14) (pc' := 21) rfl (D d15_14) rfl (Jvm.Free.XT.ii_eq_t (by decide)) (by decide) (by decide) k)) ?_
  exact X7.retV hret (D d15_21) (by decide) (by decide) (fun vmE CE => ⟨rfl, rfl⟩)
abbrev RrmPsaL : Room := { frames := 2, cells := 0, slots := 0, locals := 37 }
def QrmPsaL (Z : State) (x : Addr) (s1 : Addr) (d : Addr) (kd : ClassId) (cs : List Int32) (b : Addr) (kb : ClassId) (ds : List Int32) (h0 : Heap) (v : Option Value) (vm : Vm) (h : Heap) : Prop := v = none ∧ Keep h0 h [d] ∧ Arv Z h d kd .byte (16 : Int32) (((cs ++ ds).map fun c => c.toInt8.toInt32).map Value.int) (.int (0 : Int32))
theorem rmPsaL (hcx : Cx Z a0 zc fm) (x : Addr) (s1 : Addr) (d : Addr) (kd : ClassId) (cs : List Int32) (b : Addr) (kb : ClassId) (ds : List Int32) (h0 : Heap) (O0 : Old Z Z.heap.size h0) (Pr0 : Exa Z h0 x "java/lang/StringBuilder") (Pr1 : Fld Z h0 x "java/lang/AbstractStringBuilder" "value" "[B" (.ref d)) (Pr2 : Fld Z h0 x "java/lang/AbstractStringBuilder" "coder" "B" (.int (0 : Int32))) (Pr3 : Fld Z h0 x "java/lang/AbstractStringBuilder" "count" "I" (.int (Int32.ofNat (cs).length))) (Pr4 : Arv Z h0 d kd .byte (16 : Int32) ((cs.map fun c => c.toInt8.toInt32).map Value.int) (.int (0 : Int32))) (Pr5 : Str Z h0 s1 b kb ds) (Pr6 : (cs).length + (ds).length ≤ 16) (Pr7 : Z.heap.size ≤ x) (Pr8 : Z.heap.size ≤ d) (Pr9 : x ≠ d) : Met l Z consts_1 (⟨"java/lang/AbstractStringBuilder", "putStringAt", "(ILjava/lang/String;)V"⟩ : MethodName) jdk_68_method_73_code 3 (none) [] RrmPsaL [d] #[(.ref x), (.int (Int32.ofNat (cs).length)), (.ref s1)] h0 (QrmPsaL Z x s1 d kd cs b kb ds h0) := by
  have ⟨hw, hEL, O2, P5, O4, P6⟩ := hcx
  refine Met.start (a0 := a0) (Ls := #[vR x, vI (Int32.ofNat (cs).length), vR s1]) pn14 hEL O0 (fun m => by first | (simp [entryFrame, mkF, argsToLocals, Value.category]; done) | rfl) ?_
  intro p e s m below meth cc T0 vm0 X0 sf0_ D hml hret hnm hx zz A0
  have l1 := ltA Pr0.lt
  have l2 := ltA Pr4.lt
  have l3 := ltA Pr5.lt
  have l4 := ltA Pr5.lb
  have l5 := neA Pr9
  have s6 := sf0_ d (memI (i := 0) rfl)
  refine Gets.via (fun _ k => (XS.aloadN A0 hx rfl (D d14_0) rfl rfl (XS.aloadN A0 hx rfl (D d14_1) rfl rfl k))) ?_
  refine X0.callP (W := 0) (w93 hw) (w94 hw) (w96 hw) (w95 hw) (w97 hw) (by decide) (X0.payM (sf := []) (rmInf0 hcx x s1 h0 X0.old Pr0 Pr2 Pr5.1 Pr5.2.1) sf0 (w97 hw) (w62 hw)) Pr0 rfl (sz hml rfl) (argsL := [(.ref s1)]) (rest := []) (lenOf pd12 rfl) rfl rfl (mroom rfl rfl) (D d14_2) (by decide) (by decide) fun T7 h7 vm7 v7 X7 C7 z7 q7 => ?_
  obtain ⟨rfl, K7⟩ := q7
  rw [K7] at X7 C7
  have A8 := X7.at
  refine Gets.via (fun _ k => (XS.aloadN A8 hx rfl (D d14_5) rfl rfl (XS.aloadN A8 hx rfl (D d14_6) rfl rfl k))) ?_
  refine X7.getF (host := "") (Or.inl (w66 hw)) Via.refl Pr1 rfl rfl (D d14_7) fun T9 X9 => ?_
  show Gets p e below _ (T9.setTop (mkF m 10 #[vR x, vI (Int32.ofNat (cs).length), vR s1] [(.ref d), (.ref s1)]))
  have A10 := X9.at
  refine Gets.via (fun _ k => (XS.iloadN A10 hx rfl (D d14_10) rfl (XS.aloadN A10 hx rfl (D d14_11) rfl rfl k))) ?_
  refine X9.getF (host := "") (Or.inl (w68 hw)) Via.refl Pr2 rfl rfl (D d14_12) fun T11 X11 => ?_
  have f12 := C7.safe (x := d) (ltA (by omega)) s6
  refine X11.callV (W := 0) (w99 hw) (w100 hw) (w102 hw) (w101 hw) (nfs rfl (w102 hw)) (by decide) (X11.payM (sf := [d]) (rmGb0 hcx s1 d cs b kb ds kd h0 X11.old Pr5 Pr4 Pr6 Pr8) (sfS f12 sf0) (w103 hw) (w6 hw)) Pr5.1 rfl (sz hml rfl) (argsL := [(.ref d), (.int (Int32.ofNat (cs).length)), (.int (0 : Int32))]) (rest := []) (lenOf pd13 rfl) rfl rfl (mroom rfl rfl) (D d14_15) (by decide) (by decide) fun T13 h13 vm13 v13 X13 C13 z13 q13 => ?_
  obtain ⟨rfl, K13, g13_0⟩ := q13
  have l14 := ltA g13_0.lt
  exact X13.retV hret (D d14_18) (by decide) (by decide) (fun vmE CE => ⟨rfl, ((Keep.refl h0 [d]).trans K13 (allS (Or.inl (memI (i := 0) rfl)) all0)), g13_0⟩)
abbrev RrmAapL : Room := { frames := 3, cells := 0, slots := 0, locals := 51 }
def QrmAapL (Z : State) (x : Addr) (s1 : Addr) (d : Addr) (kd : ClassId) (cs : List Int32) (b : Addr) (kb : ClassId) (ds : List Int32) (h0 : Heap) (v : Option Value) (vm : Vm) (h : Heap) : Prop := v = some (.ref x) ∧ Keep h0 h [x, d] ∧ Exa Z h x "java/lang/StringBuilder" ∧ Fld Z h x "java/lang/AbstractStringBuilder" "value" "[B" (.ref d) ∧ Fld Z h x "java/lang/AbstractStringBuilder" "coder" "B" (.int (0 : Int32)) ∧ Fld Z h x "java/lang/AbstractStringBuilder" "count" "I" (.int (Int32.ofNat ((cs ++ ds)).length)) ∧ Arv Z h d kd .byte (16 : Int32) (((cs ++ ds).map fun c => c.toInt8.toInt32).map Value.int) (.int (0 : Int32))
theorem rmAapL (hcx : Cx Z a0 zc fm) (x : Addr) (s1 : Addr) (d : Addr) (kd : ClassId) (cs : List Int32) (b : Addr) (kb : ClassId) (ds : List Int32) (h0 : Heap) (O0 : Old Z Z.heap.size h0) (Pr0 : Exa Z h0 x "java/lang/StringBuilder") (Pr1 : Fld Z h0 x "java/lang/AbstractStringBuilder" "value" "[B" (.ref d)) (Pr2 : Fld Z h0 x "java/lang/AbstractStringBuilder" "coder" "B" (.int (0 : Int32))) (Pr3 : Fld Z h0 x "java/lang/AbstractStringBuilder" "count" "I" (.int (Int32.ofNat (cs).length))) (Pr4 : Arv Z h0 d kd .byte (16 : Int32) ((cs.map fun c => c.toInt8.toInt32).map Value.int) (.int (0 : Int32))) (Pr5 : Str Z h0 s1 b kb ds) (Pr6 : (cs).length + (ds).length ≤ 16) (Pr7 : Z.heap.size ≤ x) (Pr8 : Z.heap.size ≤ d) (Pr9 : x ≠ d) : Met l Z consts_1 (⟨"java/lang/AbstractStringBuilder", "append", "(Ljava/lang/String;)Ljava/lang/AbstractStringBuilder;"⟩ : MethodName) jdk_68_method_22_code 3 (some (.object "java/lang/AbstractStringBuilder")) [] RrmAapL [d] #[(.ref x), (.ref s1)] h0 (QrmAapL Z x s1 d kd cs b kb ds h0) := by
  have ⟨hw, hEL, O2, P5, O4, P6⟩ := hcx
  refine Met.start (a0 := a0) (Ls := #[vR x, vR s1, .unset]) pn12 hEL O0 (fun m => by first | (simp [entryFrame, mkF, argsToLocals, Value.category]; done) | rfl) ?_
  intro p e s m below meth cc T0 vm0 X0 sf0_ D hml hret hnm hx zz A0
  have l1 := ltA Pr0.lt
  have l2 := ltA Pr4.lt
  have l3 := ltA Pr5.lt
  have l4 := ltA Pr5.lb
  have l5 := neA Pr9
  have s6 := sf0_ d (memI (i := 0) rfl)
  have l4 := Pr5.2.2.2.2.2
  refine Gets.via (fun _ k => (XS.aloadN A0 hx rfl (D d12_0) rfl rfl (XS.ifnonnullYes A0 hx rfl (pc0 := 1) (pc' := 9) rfl (D d12_1) rfl (by decide) (by decide) k))) ?_
  refine Gets.via (fun _ k => (XS.aloadN A0 hx rfl (D d12_9) rfl rfl k)) ?_
  refine X0.callV (W := 0) (w80 hw) (w42 hw) (w44 hw) (w43 hw) (nfs rfl (w44 hw)) (by decide) (X0.payM (sf := []) (rmLen0 hcx s1 b kb ds h0 X0.old Pr5) sf0 (w45 hw) (w6 hw)) Pr5.1 rfl (sz hml rfl) (argsL := []) (rest := []) (lenOf pd7 rfl) rfl rfl (mroom rfl rfl) (D d12_10) (by decide) (by decide) fun T7 h7 vm7 v7 X7 C7 z7 q7 => ?_
  obtain ⟨rfl, K7⟩ := q7
  rw [K7] at X7 C7
  have A8 := X7.at
  refine Gets.via (fun _ k => (XS.istoreN A8 hx rfl (D d12_13) rfl (l' := #[vR x, vR s1, vI (Int32.ofNat (ds).length)]) rfl (XS.aloadN A8 hx rfl (D d12_14) rfl rfl (XS.aloadN A8 hx rfl (D d12_15) rfl rfl k)))) ?_
  show Gets p e below _ (T7.setTop (mkF m 16 #[vR x, vR s1, vI (Int32.ofNat (ds).length)] [(.ref x), (.ref x)]))
  refine X7.getF (host := "") (Or.inl (w81 hw)) Via.refl Pr3 rfl rfl (D d12_16) fun T9 X9 => ?_
  have A10 := X9.at
  refine Gets.via (fun _ k => (XS.iloadN A10 hx rfl (D d12_19) rfl (XS.iadd A10 hx rfl (D d12_20) rfl k))) ?_
  show Gets p e below _ (T9.setTop (mkF m 21 #[vR x, vR s1, vI (Int32.ofNat (ds).length)] [(.int ((Int32.ofNat (cs).length) + (Int32.ofNat (ds).length))), (.ref x)]))
  rw [of_add]
  refine X9.callP (W := 0) (w83 hw) (w84 hw) (w86 hw) (w85 hw) (w87 hw) (by decide) (X9.payM (sf := []) (rmEns0 hcx x ((cs).length + (ds).length) d kd ((cs.map fun c => c.toInt8.toInt32).map Value.int) h0 X9.old Pr0 Pr1 Pr2 Pr4 (by omega)) sf0 (w87 hw) (w62 hw)) Pr0 rfl (sz hml rfl) (argsL := [(.int (Int32.ofNat ((cs).length + (ds).length)))]) (rest := []) (lenOf pd11 rfl) rfl rfl (mroom rfl rfl) (D d12_21) (by decide) (by decide) fun T11 h11 vm11 v11 X11 C11 z11 q11 => ?_
  obtain ⟨rfl, K11⟩ := q11
  rw [K11] at X11 C11
  have A12 := X11.at
  refine Gets.via (fun _ k => (XS.aloadN A12 hx rfl (D d12_24) rfl rfl (XS.aloadN A12 hx rfl (D d12_25) rfl rfl k))) ?_
  refine X11.getF (host := "") (Or.inl (w81 hw)) Via.refl Pr3 rfl rfl (D d12_26) fun T13 X13 => ?_
  have A14 := X13.at
  refine Gets.via (fun _ k => (XS.aloadN A14 hx rfl (D d12_29) rfl rfl k)) ?_
  show Gets p e below _ (T13.setTop (mkF m 30 #[vR x, vR s1, vI (Int32.ofNat (ds).length)] [(.ref s1), (.int (Int32.ofNat (cs).length)), (.ref x)]))
  have f15 := C7.safe (x := d) (ltA (by omega)) s6
  have f16 := C11.safe (x := d) (ltA (by omega)) f15
  refine X13.callP (W := 0) (w88 hw) (w89 hw) (w91 hw) (w90 hw) (w92 hw) (by decide) (X13.payM (sf := [d]) (rmPsaL hcx x s1 d kd cs b kb ds h0 X13.old Pr0 Pr1 Pr2 Pr3 Pr4 Pr5 Pr6 Pr7 Pr8 Pr9) (sfS f16 sf0) (w92 hw) (w62 hw)) Pr0 rfl (sz hml rfl) (argsL := [(.int (Int32.ofNat (cs).length)), (.ref s1)]) (rest := []) (lenOf pd14 rfl) rfl rfl (mroom rfl rfl) (D d12_30) (by decide) (by decide) fun T17 h17 vm17 v17 X17 C17 z17 q17 => ?_
  obtain ⟨rfl, K17, g17_0⟩ := q17
  have l18 := ltA g17_0.lt
  have A19 := X17.at
  refine Gets.via (fun _ k => (XS.aloadN A19 hx rfl (D d12_33) rfl rfl (XS.dup A19 hx rfl (D d12_34) rfl rfl k))) ?_
  have f21 := Pr3.keep K17 (ninS (neA (by omega)) nin0)
  refine X17.getF (host := "") (Or.inl (w81 hw)) Via.refl f21 rfl rfl (D d12_35) fun T20 X20 => ?_
  have A22 := X20.at
  refine Gets.via (fun _ k => (XS.iloadN A22 hx rfl (D d12_38) rfl (XS.iadd A22 hx rfl (D d12_39) rfl k))) ?_
  show Gets p e below _ (T20.setTop (mkF m 40 #[vR x, vR s1, vI (Int32.ofNat (ds).length)] [(.int ((Int32.ofNat (cs).length) + (Int32.ofNat (ds).length))), (.ref x)]))
  rw [of_add, ← List.length_append]
  have f24 := Pr0.keep K17
  refine X20.putF (host := "") (Or.inl (w81 hw)) Via.refl f21 f24 (Or.inl (w82 hw)) (w53 hw) (ty := .int) (by decide) rfl rfl (leA (by omega)) (Safe.exa X20.hZ.alike f24 (by decide) (by decide)) rfl rfl (D d12_40) fun T23 h23 X23 C23 W23 F23 Z23 => ?_
  have z23 := W23.size
  have A25 := X23.at
  refine Gets.via (fun _ k => (XS.aloadN A25 hx rfl (D d12_43) rfl rfl k)) ?_
  have f26 := Pr1.keep K17 (ninS (neA (by omega)) nin0)
  have f27 := f26.other W23 (Or.inr (slot_ne (t := (.array .byte)) (t' := .int) (Or.inl (w67 hw)) (Or.inl (w82 hw)) (by decide) (by decide) (by decide)))
  have f28 := Pr2.keep K17 (ninS (neA (by omega)) nin0)
  have f29 := f28.other W23 (Or.inr (slot_ne (t := .byte) (t' := .int) (Or.inl (w69 hw)) (Or.inl (w82 hw)) (by decide) (by decide) (by decide)))
  have f30 := g17_0.other W23 (neA (by omega))
  exact X23.retA hret rfl rfl rfl (D d12_44) (by decide) (by decide) (fun vmE CE => ⟨rfl, (((Keep.refl h0 [x, d]).trans K17 (allS (Or.inl (memI (i := 1) rfl)) all0)).wr W23 (Or.inl (memI (i := 0) rfl))), Z23, f27, f29, F23, f30⟩)
abbrev RrmAppL : Room := { frames := 4, cells := 0, slots := 0, locals := 65 }
def QrmAppL (Z : State) (x : Addr) (s1 : Addr) (d : Addr) (kd : ClassId) (cs : List Int32) (b : Addr) (kb : ClassId) (ds : List Int32) (h0 : Heap) (v : Option Value) (vm : Vm) (h : Heap) : Prop := v = some (.ref x) ∧ Keep h0 h [x, d] ∧ Exa Z h x "java/lang/StringBuilder" ∧ Fld Z h x "java/lang/AbstractStringBuilder" "value" "[B" (.ref d) ∧ Fld Z h x "java/lang/AbstractStringBuilder" "coder" "B" (.int (0 : Int32)) ∧ Fld Z h x "java/lang/AbstractStringBuilder" "count" "I" (.int (Int32.ofNat ((cs ++ ds)).length)) ∧ Arv Z h d kd .byte (16 : Int32) (((cs ++ ds).map fun c => c.toInt8.toInt32).map Value.int) (.int (0 : Int32))
theorem rmAppL (hcx : Cx Z a0 zc fm) (x : Addr) (s1 : Addr) (d : Addr) (kd : ClassId) (cs : List Int32) (b : Addr) (kb : ClassId) (ds : List Int32) (h0 : Heap) (O0 : Old Z Z.heap.size h0) (Pr0 : Exa Z h0 x "java/lang/StringBuilder") (Pr1 : Fld Z h0 x "java/lang/AbstractStringBuilder" "value" "[B" (.ref d)) (Pr2 : Fld Z h0 x "java/lang/AbstractStringBuilder" "coder" "B" (.int (0 : Int32))) (Pr3 : Fld Z h0 x "java/lang/AbstractStringBuilder" "count" "I" (.int (Int32.ofNat (cs).length))) (Pr4 : Arv Z h0 d kd .byte (16 : Int32) ((cs.map fun c => c.toInt8.toInt32).map Value.int) (.int (0 : Int32))) (Pr5 : Str Z h0 s1 b kb ds) (Pr6 : (cs).length + (ds).length ≤ 16) (Pr7 : Z.heap.size ≤ x) (Pr8 : Z.heap.size ≤ d) (Pr9 : x ≠ d) : Met l Z consts_1 (⟨"java/lang/StringBuilder", "append", "(Ljava/lang/String;)Ljava/lang/StringBuilder;"⟩ : MethodName) jdk_67_method_7_code 2 (some (.object "java/lang/StringBuilder")) [] RrmAppL [d] #[(.ref x), (.ref s1)] h0 (QrmAppL Z x s1 d kd cs b kb ds h0) := by
  have ⟨hw, hEL, O2, P5, O4, P6⟩ := hcx
  refine Met.start (a0 := a0) (Ls := #[vR x, vR s1]) pn11 hEL O0 (fun m => by first | (simp [entryFrame, mkF, argsToLocals, Value.category]; done) | rfl) ?_
  intro p e s m below meth cc T0 vm0 X0 sf0_ D hml hret hnm hx zz A0
  have l1 := ltA Pr0.lt
  have l2 := ltA Pr4.lt
  have l3 := ltA Pr5.lt
  have l4 := ltA Pr5.lb
  have l5 := neA Pr9
  have s6 := sf0_ d (memI (i := 0) rfl)
  refine Gets.via (fun _ k => (XS.aloadN A0 hx rfl (D d11_0) rfl rfl (XS.aloadN A0 hx rfl (D d11_1) rfl rfl k))) ?_
  refine X0.callU (W := 0) (by decide) (w75 hw) (same_self (w76 hw) (w86 hw) rfl (by decide)) (w76 hw) (w77 hw) (w79 hw) (X0.payM (sf := [d]) (rmAapL hcx x s1 d kd cs b kb ds h0 X0.old Pr0 Pr1 Pr2 Pr3 Pr4 Pr5 Pr6 Pr7 Pr8 Pr9) (sfS s6 sf0) (w79 hw) (w62 hw)) Pr0 rfl (sz hml rfl) (argsL := [(.ref s1)]) (rest := []) (lenOf pd15 rfl) rfl rfl (mroom rfl rfl) (D d11_2) (by decide) (by decide) fun T7 h7 vm7 v7 X7 C7 z7 q7 => ?_
  obtain ⟨rfl, K7, g7_0, g7_1, g7_2, g7_3, g7_4⟩ := q7
  have l8 := ltA g7_0.lt
  have l9 := ltA g7_4.lt
  have A10 := X7.at
  refine Gets.via (fun _ k => (XS.pop A10 hx rfl (D d11_5) rfl rfl (XS.aloadN A10 hx rfl (D d11_6) rfl rfl k))) ?_
  exact X7.retA hret rfl rfl rfl (D d11_7) (by decide) (by decide) (fun vmE CE => ⟨rfl, ((Keep.refl h0 [x, d]).trans K7 (allS (Or.inl (memI (i := 0) rfl)) (allS (Or.inl (memI (i := 1) rfl)) all0))), g7_0, g7_1, g7_2, g7_3, g7_4⟩)
abbrev RrmGv0 : Room := { frames := 0, cells := 0, slots := 0, locals := 0 }
def QrmGv0 (Z : State) (z : Addr) (d : Addr) (h0 : Heap) (v : Option Value) (vm : Vm) (h : Heap) : Prop := v = some (.ref d) ∧ h = h0
theorem rmGv0 (hcx : Cx Z a0 zc fm) (z : Addr) (d : Addr) (h0 : Heap) (O0 : Old Z Z.heap.size h0) (Pr0 : Exa Z h0 z "java/lang/StringBuilder") (Pr1 : Fld Z h0 z "java/lang/AbstractStringBuilder" "value" "[B" (.ref d)) : Met l Z consts_1 (⟨"java/lang/AbstractStringBuilder", "getValue", "()[B"⟩ : MethodName) jdk_68_method_64_code 1 (some (.array .byte)) [] RrmGv0 [] #[(.ref z)] h0 (QrmGv0 Z z d h0) := by
  have ⟨hw, hEL, O2, P5, O4, P6⟩ := hcx
  refine Met.start (a0 := a0) (Ls := #[vR z]) pn20 hEL O0 (fun m => by first | (simp [entryFrame, mkF, argsToLocals, Value.category]; done) | rfl) ?_
  intro p e s m below meth cc T0 vm0 X0 sf0_ D hml hret hnm hx zz A0
  have l1 := ltA Pr0.lt
  refine Gets.via (fun _ k => (XS.aloadN A0 hx rfl (D d20_0) rfl rfl k)) ?_
  refine X0.getF (host := "") (Or.inl (w66 hw)) Via.refl Pr1 rfl rfl (D d20_1) fun T2 X2 => ?_
  exact X2.retA hret rfl rfl rfl (D d20_4) (by decide) (by decide) (fun vmE CE => ⟨rfl, rfl⟩)
abbrev RrmAl : Room := { frames := 0, cells := 0, slots := 0, locals := 0 }
def QrmAl (Z : State) (z : Addr) (n : Int32) (h0 : Heap) (v : Option Value) (vm : Vm) (h : Heap) : Prop := v = some (.int n) ∧ h = h0
theorem rmAl (hcx : Cx Z a0 zc fm) (z : Addr) (n : Int32) (h0 : Heap) (O0 : Old Z Z.heap.size h0) (Pr0 : Exa Z h0 z "java/lang/StringBuilder") (Pr1 : Fld Z h0 z "java/lang/AbstractStringBuilder" "count" "I" (.int n)) : Met l Z consts_1 (⟨"java/lang/AbstractStringBuilder", "length", "()I"⟩ : MethodName) jdk_68_method_6_code 1 (some .int) [] RrmAl [] #[(.ref z)] h0 (QrmAl Z z n h0) := by
  have ⟨hw, hEL, O2, P5, O4, P6⟩ := hcx
  refine Met.start (a0 := a0) (Ls := #[vR z]) pn22 hEL O0 (fun m => by first | (simp [entryFrame, mkF, argsToLocals, Value.category]; done) | rfl) ?_
  intro p e s m below meth cc T0 vm0 X0 sf0_ D hml hret hnm hx zz A0
  have l1 := ltA Pr0.lt
  refine Gets.via (fun _ k => (XS.aloadN A0 hx rfl (D d22_0) rfl rfl k)) ?_
  refine X0.getF (host := "") (Or.inl (w81 hw)) Via.refl Pr1 rfl rfl (D d22_1) fun T2 X2 => ?_
  exact X2.retI hret rfl (by simp) (D d22_4) (by decide) (by decide) (fun vmE CE => ⟨rfl, rfl⟩)
abbrev RrmSl : Room := { frames := 1, cells := 0, slots := 0, locals := 12 }
def QrmSl (Z : State) (z : Addr) (n : Int32) (h0 : Heap) (v : Option Value) (vm : Vm) (h : Heap) : Prop := v = some (.int n) ∧ h = h0
theorem rmSl (hcx : Cx Z a0 zc fm) (z : Addr) (n : Int32) (h0 : Heap) (O0 : Old Z Z.heap.size h0) (Pr0 : Exa Z h0 z "java/lang/StringBuilder") (Pr1 : Fld Z h0 z "java/lang/AbstractStringBuilder" "count" "I" (.int n)) : Met l Z consts_1 (⟨"java/lang/StringBuilder", "length", "()I"⟩ : MethodName) jdk_67_method_93_code 1 (some .int) [] RrmSl [] #[(.ref z)] h0 (QrmSl Z z n h0) := by
  have ⟨hw, hEL, O2, P5, O4, P6⟩ := hcx
  refine Met.start (a0 := a0) (Ls := #[vR z]) pn21 hEL O0 (fun m => by first | (simp [entryFrame, mkF, argsToLocals, Value.category]; done) | rfl) ?_
  intro p e s m below meth cc T0 vm0 X0 sf0_ D hml hret hnm hx zz A0
  have l1 := ltA Pr0.lt
  refine Gets.via (fun _ k => (XS.aloadN A0 hx rfl (D d21_0) rfl rfl k)) ?_
  refine X0.callU (W := 0) (by decide) (w132 hw) (same_self (w128 hw) (w86 hw) rfl (by decide)) (w128 hw) (w77 hw) (w133 hw) (X0.payM (sf := []) (rmAl hcx z n h0 X0.old Pr0 Pr1) sf0 (w133 hw) (w62 hw)) Pr0 rfl (sz hml rfl) (argsL := []) (rest := []) (lenOf pd7 rfl) rfl rfl (mroom rfl rfl) (D d21_1) (by decide) (by decide) fun T2 h2 vm2 v2 X2 C2 z2 q2 => ?_
  obtain ⟨rfl, K2⟩ := q2
  rw [K2] at X2 C2
  exact X2.retI hret rfl (by simp) (D d21_4) (by decide) (by decide) (fun vmE CE => ⟨rfl, rfl⟩)
abbrev RrmTs4_0 : Room := { frames := 3, cells := 1, slots := 16, locals := 53 }
def QrmTs4_0 (Z : State) (x : Addr) (z : Addr) (d : Addr) (kd : ClassId) (cs : List Int32) (h0 : Heap) (v : Option Value) (vm : Vm) (h : Heap) : Prop := ∃ (t : Addr) (kt : ClassId), v = none ∧ Keep h0 h [x] ∧ Str Z h x t kt cs
theorem rmTs4_0 (hcx : Cx Z a0 zc fm) (x : Addr) (z : Addr) (d : Addr) (kd : ClassId) (cs : List Int32) (h0 : Heap) (O0 : Old Z Z.heap.size h0) (Pr0 : Exa Z h0 x "java/lang/String") (Pr1 : Fld Z h0 x "java/lang/String" "coder" "B" (.int (0 : Int32))) (Pr2 : Fld Z h0 x "java/lang/String" "value" "[B" .null) (Pr3 : Z.heap.size ≤ x) (Pr4 : Exa Z h0 z "java/lang/StringBuilder") (Pr5 : Fld Z h0 z "java/lang/AbstractStringBuilder" "value" "[B" (.ref d)) (Pr6 : Fld Z h0 z "java/lang/AbstractStringBuilder" "coder" "B" (.int (0 : Int32))) (Pr7 : Fld Z h0 z "java/lang/AbstractStringBuilder" "count" "I" (.int (Int32.ofNat (cs).length))) (Pr8 : Arv Z h0 d kd .byte (16 : Int32) ((cs.map fun c => c.toInt8.toInt32).map Value.int) (.int (0 : Int32))) (Pr9 : d ≠ x) (Pr10 : (cs).length ≤ 8) (Pr11 : ∀ z_ ∈ cs, ¬ z_ < 0 ∧ ¬ (255 : Int32) < z_) : Met l Z consts_1 (⟨"java/lang/String", "<init>", "(Ljava/lang/AbstractStringBuilder;Ljava/lang/Void;)V"⟩ : MethodName) jdk_42_method_150_code 5 (none) [] RrmTs4_0 [x] #[(.ref x), (.ref z), .null] h0 (QrmTs4_0 Z x z d kd cs h0) := by
  have ⟨hw, hEL, O2, P5, O4, P6⟩ := hcx
  refine Met.start (a0 := a0) (Ls := #[vR x, vR z, .val .null, .unset, .unset]) pn19 hEL O0 (fun m => by first | (simp [entryFrame, mkF, argsToLocals, Value.category]; done) | rfl) ?_
  intro p e s m below meth cc T0 vm0 X0 sf0_ D hml hret hnm hx zz A0
  have l1 := ltA Pr0.lt
  have l2 := ltA Pr4.lt
  have l3 := ltA Pr8.lt
  have l4 := neA Pr9
  have s5 := sf0_ x (memI (i := 0) rfl)
  refine Gets.via (fun _ k => (XS.aloadN A0 hx rfl (D d19_0) rfl rfl k)) ?_
  refine X0.objInit (w15 hw) (w16 hw) (w17 hw) rfl (sz hml rfl) rfl (D d19_1) (by decide) (W := 0) (mroom rfl rfl) (by decide) fun T6 X6 => ?_
  have A7 := X6.at
  refine Gets.via (fun _ k => (XS.aloadN A7 hx rfl (D d19_4) rfl rfl k)) ?_
  refine X6.callV (W := 0) (w121 hw) (w122 hw) (w124 hw) (w123 hw) (nfs rfl (w124 hw)) (by decide) (X6.payM (sf := []) (rmGv0 hcx z d h0 X6.old Pr4 Pr5) sf0 (w125 hw) (w62 hw)) Pr4 rfl (sz hml rfl) (argsL := []) (rest := []) (lenOf pd16 rfl) rfl rfl (mroom rfl rfl) (D d19_5) (by decide) (by decide) fun T8 h8 vm8 v8 X8 C8 z8 q8 => ?_
  obtain ⟨rfl, K8⟩ := q8
  rw [K8] at X8 C8
  have A9 := X8.at
  refine Gets.via (fun _ k => (XS.astoreN A9 hx rfl (D d19_8) rfl rfl (l' := #[vR x, vR z, .val .null, vR d, .unset]) rfl (XS.aloadN A9 hx rfl (D d19_9) rfl rfl k))) ?_
  show Gets p e below _ (T8.setTop (mkF m 10 #[vR x, vR z, .val .null, vR d, .unset] [(.ref z)]))
  refine X8.callV (W := 0) (w126 hw) (w127 hw) (w129 hw) (w130 hw) (nfs2 (y := (⟨"java/lang/AbstractStringBuilder", "length", "()I"⟩ : MethodName)) (w86 hw) rfl) (by decide) (X8.payM (sf := []) (rmSl hcx z (Int32.ofNat (cs).length) h0 X8.old Pr4 Pr7) sf0 (w131 hw) (w54 hw)) Pr4 rfl (sz hml rfl) (argsL := []) (rest := []) (lenOf pd7 rfl) rfl rfl (mroom rfl rfl) (D d19_10) (by decide) (by decide) fun T10 h10 vm10 v10 X10 C10 z10 q10 => ?_
  obtain ⟨rfl, K10⟩ := q10
  rw [K10] at X10 C10
  have A11 := X10.at
  refine Gets.via (fun _ k => (XS.istore A11 hx rfl (D d19_13) rfl (l' := #[vR x, vR z, .val .null, vR d, vI (Int32.ofNat (cs).length)]) rfl (XS.aloadN A11 hx rfl (D d19_15) rfl rfl k))) ?_
  refine X10.callV (W := 0) (w134 hw) (w135 hw) (w137 hw) (w136 hw) (nfs rfl (w137 hw)) (by decide) (X10.payM (sf := []) (rmSbL0 hcx z h0 X10.old Pr4 Pr6) sf0 (w138 hw) (w62 hw)) Pr4 rfl (sz hml rfl) (argsL := []) (rest := []) (lenOf pd9 rfl) rfl rfl (mroom rfl rfl) (D d19_16) (by decide) (by decide) fun T12 h12 vm12 v12 X12 C12 z12 q12 => ?_
  obtain ⟨rfl, K12⟩ := q12
  rw [K12] at X12 C12
  have A13 := X12.at
  refine Gets.via (fun _ k => (XS.ifNo A13 hx rfl (D d19_19) rfl (Jvm.Free.XT.i0_eq_f (by decide)) k)) ?_
  refine Gets.via (fun _ k => (XS.aloadN A13 hx rfl (D d19_22) rfl rfl (XS.iconst A13 hx rfl (D d19_23) k))) ?_
  have f15 := C8.safe (x := x) (ltA (by omega)) s5
  have f16 := C10.safe (x := x) (ltA (by omega)) f15
  have f17 := C12.safe (x := x) (ltA (by omega)) f16
  refine X12.putF (host := "") (Or.inl (w25 hw)) Via.refl Pr1 Pr0 (Or.inr ⟨(w21 hw), rfl, hnm⟩) (w5 hw) (ty := .byte) (by decide) (by decide) (by decide) (leA (by omega)) f17 rfl rfl (D d19_24) fun T14 h14 X14 C14 W14 F14 Z14 => ?_
  have z14 := W14.size
  show Gets p e below _ (T14.setTop (mkF m 27 #[vR x, vR z, .val .null, vR d, vI (Int32.ofNat (cs).length)] []))
  have A18 := X14.at
  refine Gets.via (fun _ k => (XS.aloadN A18 hx rfl (D d19_27) rfl rfl (XS.aloadN A18 hx rfl (D d19_28) rfl rfl (XS.iconst A18 hx rfl (D d19_29) (XS.iload A18 hx rfl (D d19_30) rfl k))))) ?_
  have f19 := Pr8.other W14 (neA (by omega))
  refine X14.callS (W := 1) (w139 hw) (w140 hw) (w141 hw) (w142 hw) (by decide) (X14.payM (sf := []) (rmCr hcx d kd 16 ((cs.map fun c => c.toInt8.toInt32).map Value.int) 0 ((cs).length) h14 X14.old f19 (by omega) (by omega) (by decide) (by omega) (by omega)) sf0 (w142 hw) (w141 hw)) rfl (sz hml rfl) (argsL := [(.ref d), (.int (0 : Int32)), (.int (Int32.ofNat (cs).length))]) (rest := [(.ref x)]) (lenOf pd5 rfl) rfl rfl (mroom rfl rfl) (D d19_32) (by decide) (by decide) fun T20 h20 vm20 v20 X20 C20 z20 q20 => ?_
  obtain ⟨t20, kt20, rfl, K20, g20_0, g20_1⟩ := q20
  have l21 := ltA g20_0.lt
  have f23 := Pr2.other W14 (Or.inr (slot_ne (t := (.array .byte)) (t' := .byte) (Or.inr (w20 hw)) (Or.inr (w21 hw)) (by decide) (by decide) (by decide)))
  have f24 := f23.keep K20 nin0
  have f25 := Z14.keep K20
  have f26 := C14.safe (x := x) (ltA (by omega)) f17
  have f27 := C20.safe (x := x) (ltA (by omega)) f26
  refine X20.putF (host := "") (Or.inl (w24 hw)) Via.refl f24 f25 (Or.inr ⟨(w20 hw), rfl, hnm⟩) (w5 hw) (ty := (.array .byte)) (by decide) rfl rfl (leA (by omega)) f27 rfl rfl (D d19_35) fun T22 h22 X22 C22 W22 F22 Z22 => ?_
  have z22 := W22.size
  have A28 := X22.at
  refine Gets.via (fun _ k => (XS.goto A28 hx rfl (pc0 := 38) (pc' := 97) rfl (D d19_38) (by decide) (by decide) k)) ?_
  have f29 := F14.keep K20 nin0
  have f30 := f29.other W22 (Or.inr (slot_ne (t := .byte) (t' := (.array .byte)) (Or.inr (w21 hw)) (Or.inr (w20 hw)) (by decide) (by decide) (by decide)))
  have f31 := g20_0.other W22 (neA (by omega))
  have eS : slcV ((cs.map fun c => c.toInt8.toInt32).map Value.int) 0 (cs).length = ((cs.map fun c => c.toInt8.toInt32).map Value.int) := (by_len cs ▸ slc_all0 ((cs.map fun c => c.toInt8.toInt32).map Value.int))
  have SU : Str Z h22 x t20 kt20 cs := ⟨Z22, f30, F22, eS ▸ f31, Pr11, by omega⟩
  exact X22.retV hret (D d19_97) (by decide) (by decide) (fun vmE CE => ⟨t20, kt20, rfl, ((((Keep.refl h0 [x]).wr W14 (Or.inl (memI (i := 0) rfl))).trans K20 all0).wr W22 (Or.inl (memI (i := 0) rfl))), SU⟩)
abbrev RrmTs1_0 : Room := { frames := 4, cells := 1, slots := 16, locals := 69 }
def QrmTs1_0 (Z : State) (x : Addr) (z : Addr) (d : Addr) (kd : ClassId) (cs : List Int32) (h0 : Heap) (v : Option Value) (vm : Vm) (h : Heap) : Prop := ∃ (t : Addr) (kt : ClassId), v = none ∧ Keep h0 h [x] ∧ Str Z h x t kt cs
theorem rmTs1_0 (hcx : Cx Z a0 zc fm) (x : Addr) (z : Addr) (d : Addr) (kd : ClassId) (cs : List Int32) (h0 : Heap) (O0 : Old Z Z.heap.size h0) (Pr0 : Exa Z h0 x "java/lang/String") (Pr1 : Fld Z h0 x "java/lang/String" "coder" "B" (.int (0 : Int32))) (Pr2 : Fld Z h0 x "java/lang/String" "value" "[B" .null) (Pr3 : Z.heap.size ≤ x) (Pr4 : Exa Z h0 z "java/lang/StringBuilder") (Pr5 : Fld Z h0 z "java/lang/AbstractStringBuilder" "value" "[B" (.ref d)) (Pr6 : Fld Z h0 z "java/lang/AbstractStringBuilder" "coder" "B" (.int (0 : Int32))) (Pr7 : Fld Z h0 z "java/lang/AbstractStringBuilder" "count" "I" (.int (Int32.ofNat (cs).length))) (Pr8 : Arv Z h0 d kd .byte (16 : Int32) ((cs.map fun c => c.toInt8.toInt32).map Value.int) (.int (0 : Int32))) (Pr9 : d ≠ x) (Pr10 : (cs).length ≤ 8) (Pr11 : ∀ z_ ∈ cs, ¬ z_ < 0 ∧ ¬ (255 : Int32) < z_) : Met l Z consts_1 (⟨"java/lang/String", "<init>", "(Ljava/lang/StringBuilder;)V"⟩ : MethodName) jdk_42_method_53_code 2 (none) [] RrmTs1_0 [x] #[(.ref x), (.ref z)] h0 (QrmTs1_0 Z x z d kd cs h0) := by
  have ⟨hw, hEL, O2, P5, O4, P6⟩ := hcx
  refine Met.start (a0 := a0) (Ls := #[vR x, vR z]) pn18 hEL O0 (fun m => by first | (simp [entryFrame, mkF, argsToLocals, Value.category]; done) | rfl) ?_
  intro p e s m below meth cc T0 vm0 X0 sf0_ D hml hret hnm hx zz A0
  have l1 := ltA Pr0.lt
  have l2 := ltA Pr4.lt
  have l3 := ltA Pr8.lt
  have l4 := neA Pr9
  have s5 := sf0_ x (memI (i := 0) rfl)
  refine Gets.via (fun _ k => (XS.aloadN A0 hx rfl (D d18_0) rfl rfl (XS.aloadN A0 hx rfl (D d18_1) rfl rfl (XS.aconstNull A0 hx rfl (D d18_2) k)))) ?_
  refine X0.callI (y := (⟨"java/lang/String", "<init>", "(Ljava/lang/AbstractStringBuilder;Ljava/lang/Void;)V"⟩ : MethodName)) (W := 0) rfl (w118 hw) (w119 hw) (w120 hw) (by decide) (X0.payM (sf := [x]) (rmTs4_0 hcx x z d kd cs h0 X0.old Pr0 Pr1 Pr2 Pr3 Pr4 Pr5 Pr6 Pr7 Pr8 Pr9 Pr10 Pr11) (sfS s5 sf0) (w120 hw) (w6 hw)) rfl (sz hml rfl) (a := x) (argsL := [(.ref z), .null]) (rest := []) (lenOf pd17 rfl) rfl rfl (mroom rfl rfl) (D d18_3) (by decide) (by decide) fun T6 h6 vm6 v6 X6 C6 z6 q6 => ?_
  obtain ⟨t6, kt6, rfl, K6, g6_0⟩ := q6
  have l7 := ltA g6_0.lt
  have l8 := ltA g6_0.lb
  exact X6.retV hret (D d18_6) (by decide) (by decide) (fun vmE CE => ⟨t6, kt6, rfl, ((Keep.refl h0 [x]).trans K6 (allS (Or.inl (memI (i := 0) rfl)) all0)), g6_0⟩)
abbrev RrmTs_0 : Room := { frames := 5, cells := 2, slots := 20, locals := 83 }
def QrmTs_0 (Z : State) (z : Addr) (d : Addr) (kd : ClassId) (cs : List Int32) (h0 : Heap) (v : Option Value) (vm : Vm) (h : Heap) : Prop := ∃ (a : Addr) (t : Addr) (kt : ClassId), v = some (.ref a) ∧ Keep h0 h [] ∧ Str Z h a t kt cs
theorem rmTs_0 (hcx : Cx Z a0 zc fm) (z : Addr) (d : Addr) (kd : ClassId) (cs : List Int32) (h0 : Heap) (O0 : Old Z Z.heap.size h0) (Pr0 : Exa Z h0 z "java/lang/StringBuilder") (Pr1 : Fld Z h0 z "java/lang/AbstractStringBuilder" "value" "[B" (.ref d)) (Pr2 : Fld Z h0 z "java/lang/AbstractStringBuilder" "coder" "B" (.int (0 : Int32))) (Pr3 : Fld Z h0 z "java/lang/AbstractStringBuilder" "count" "I" (.int (Int32.ofNat (cs).length))) (Pr4 : Arv Z h0 d kd .byte (16 : Int32) ((cs.map fun c => c.toInt8.toInt32).map Value.int) (.int (0 : Int32))) (Pr5 : (cs).length ≤ 8) (Pr6 : ∀ z_ ∈ cs, ¬ z_ < 0 ∧ ¬ (255 : Int32) < z_) : Met l Z consts_1 (⟨"java/lang/StringBuilder", "toString", "()Ljava/lang/String;"⟩ : MethodName) jdk_67_method_42_code 1 (some (.object "java/lang/String")) [] RrmTs_0 [] #[(.ref z)] h0 (QrmTs_0 Z z d kd cs h0) := by
  have ⟨hw, hEL, O2, P5, O4, P6⟩ := hcx
  refine Met.start (a0 := a0) (Ls := #[vR z]) pn17 hEL O0 (fun m => by first | (simp [entryFrame, mkF, argsToLocals, Value.category]; done) | rfl) ?_
  intro p e s m below meth cc T0 vm0 X0 sf0_ D hml hret hnm hx zz A0
  have l1 := ltA Pr0.lt
  have l2 := ltA Pr4.lt
  refine X0.new (w114 hw) (w5 hw) (w6 hw) rfl (D d17_0) (by decide) (by decide) fun T3 h3 a3 X3 C3 E3 g3 Z3 S3 D3 => ?_
  have z3 := E3.1
  have l3 := ltA Z3.lt
  have A4 := X3.at
  refine Gets.via (fun _ k => (XS.dup A4 hx rfl (D d17_3) rfl rfl (XS.aloadN A4 hx rfl (D d17_4) rfl rfl k))) ?_
  have f5 := Pr3.ext E3
  have f6 := Pr0.ext E3
  have f7 := Pr1.ext E3
  have f8 := Pr2.ext E3
  have f9 := Pr4.ext E3
  refine X3.callI (y := (⟨"java/lang/String", "<init>", "(Ljava/lang/StringBuilder;)V"⟩ : MethodName)) (W := 1) rfl (w115 hw) (w116 hw) (w117 hw) (by decide) (X3.payM (sf := [a3]) (rmTs1_0 hcx a3 z d kd cs h3 X3.old Z3 (D3 (Or.inr (w21 hw)) (ty := .byte) (by decide) : Fld Z h3 a3 "java/lang/String" "coder" "B" (.int (0 : Int32))) ((D3 (Or.inr (w20 hw)) (ty := (.array .byte)) (by decide) : Fld Z h3 a3 "java/lang/String" "value" "[B" .null)) (leA (by omega)) f6 f7 f8 f5 f9 (neA (by omega)) Pr5 Pr6) (sfS S3 sf0) (w117 hw) (w6 hw)) rfl (sz hml rfl) (a := a3) (argsL := [(.ref z)]) (rest := [(.ref a3)]) (lenOf pd18 rfl) rfl rfl (mroom rfl rfl) (D d17_5) (by decide) (by decide) fun T10 h10 vm10 v10 X10 C10 z10 q10 => ?_
  obtain ⟨t10, kt10, rfl, K10, g10_0⟩ := q10
  have l11 := ltA g10_0.lt
  have l12 := ltA g10_0.lb
  exact X10.retA hret rfl rfl rfl (D d17_8) (by decide) (by decide) (fun vmE CE => ⟨a3, t10, kt10, rfl, (((Keep.refl h0 []).ext E3).trans K10 (allS (Or.inr (leA (by omega))) all0)), g10_0⟩)
abbrev RrmMake0 : Room := { frames := 3, cells := 6, slots := 14, locals := 43 }
def QrmMake0 (Z : State) (c0 : Int32) (c1 : Int32) (c2 : Int32) (h0 : Heap) (v : Option Value) (vm : Vm) (h : Heap) : Prop := ∃ (a : Addr) (b : Addr) (kb : ClassId), v = some (.ref a) ∧ Keep h0 h [] ∧ Str Z h a b kb []
theorem rmMake0 (hcx : Cx Z a0 zc fm) (c0 : Int32) (c1 : Int32) (c2 : Int32) (h0 : Heap) (O0 : Old Z Z.heap.size h0)  : Met l Z consts_1 (⟨"com/example/packwright/packwright/io/SourceTreeRoutineFileNamePinLaw", "make", "(ICCC)Ljava/lang/String;"⟩ : MethodName) method_2_code 5 (some (.object "java/lang/String")) [] RrmMake0 [] #[(.int (0 : Int32)), (.int c0), (.int c1), (.int c2)] h0 (QrmMake0 Z c0 c1 c2 h0) := by
  have ⟨hw, hEL, O2, P5, O4, P6⟩ := hcx
  refine Met.start (a0 := a0) (Ls := #[vI (0 : Int32), vI c0, vI c1, vI c2, .unset]) pn0 hEL O0 (fun m => by first | (simp [entryFrame, mkF, argsToLocals, Value.category]; done) | rfl) ?_
  intro p e s m below meth cc T0 vm0 X0 sf0_ D hml hret hnm hx zz A0
  refine Gets.via (fun _ k => (XS.iloadN A0 hx rfl (D d0_0) rfl (XS.ifNo A0 hx rfl (D d0_1) rfl (Jvm.Free.XT.i0_ne_f (by decide)) k))) ?_
  refine X0.new (w4 hw) (w5 hw) (w6 hw) rfl (D d0_4) (by decide) (by decide) fun T1 h1 a1 X1 C1 E1 g1 Z1 S1 D1 => ?_
  have z1 := E1.1
  have l1 := ltA Z1.lt
  have A2 := X1.at
  refine Gets.via (fun _ k => (XS.dup A2 hx rfl (D d0_7) rfl rfl (XS.iconst A2 hx rfl (D d0_8) k))) ?_
  refine X1.newA (aty := .char) (w7 hw) rfl (D d0_9) rfl (by decide) (cap := 0) (by decide) (by decide) (by decide) (by decide) fun T3 h3 a3 k3 X3 C3 E3 g3 S3 V3 => ?_
  have z3 := E3.1
  have l3 := ltA V3.lt
  have V3_ : Arv Z h3 a3 k3 .char (0 : Int32) [] (.int (0 : Int32)) := padN V3 0
  show Gets p e below _ (T3.setTop (mkF m 11 #[vI (0 : Int32), vI c0, vI c1, vI c2, .unset] [(.ref a3), (.ref a1), (.ref a1)]))
  have f4 := Z1.ext E3
  have f5 := (D1 (Or.inr (w21 hw)) (ty := .byte) (by decide) : Fld Z h1 a1 "java/lang/String" "coder" "B" (.int (0 : Int32))).ext E3
  have f6 := (D1 (Or.inr (w20 hw)) (ty := (.array .byte)) (by decide) : Fld Z h1 a1 "java/lang/String" "value" "[B" .null).ext E3
  have f7 := C3.safe (x := a1) (ltA (by omega)) S1
  refine X3.callI (y := (⟨"java/lang/String", "<init>", "([C)V"⟩ : MethodName)) (W := 1) rfl (w8 hw) (w9 hw) (w10 hw) (by decide) (X3.payM (sf := [a1]) (rmE1 hcx a1 a3 k3 h3 X3.old f4 f5 f6 (leA (by omega)) V3_) (sfS f7 sf0) (w10 hw) (w6 hw)) rfl (sz hml rfl) (a := a1) (argsL := [(.ref a3)]) (rest := [(.ref a1)]) (lenOf pd19 rfl) rfl rfl (mroom rfl rfl) (D d0_11) (by decide) (by decide) fun T8 h8 vm8 v8 X8 C8 z8 q8 => ?_
  obtain ⟨t8, kb8, rfl, K8, g8_0⟩ := q8
  have l9 := ltA g8_0.lt
  have l10 := ltA g8_0.lb
  exact X8.retA hret rfl rfl rfl (D d0_14) (by decide) (by decide) (fun vmE CE => ⟨a1, t8, kb8, rfl, ((((Keep.refl h0 []).ext E1).ext E3).trans K8 (allS (Or.inr (leA (by omega))) all0)), g8_0⟩)
abbrev RrmMake1 : Room := { frames := 4, cells := 3, slots := 6, locals := 66 }
def QrmMake1 (Z : State) (c0 : Int32) (c1 : Int32) (c2 : Int32) (h0 : Heap) (v : Option Value) (vm : Vm) (h : Heap) : Prop := ∃ (a : Addr) (b : Addr) (kb : ClassId), v = some (.ref a) ∧ Keep h0 h [] ∧ Str Z h a b kb [c0]
theorem rmMake1 (hcx : Cx Z a0 zc fm) (c0 : Int32) (c1 : Int32) (c2 : Int32) (h0 : Heap) (O0 : Old Z Z.heap.size h0) (Pr0 : ¬ c0 < 0 ∧ ¬ (255 : Int32) < c0) : Met l Z consts_1 (⟨"com/example/packwright/packwright/io/SourceTreeRoutineFileNamePinLaw", "make", "(ICCC)Ljava/lang/String;"⟩ : MethodName) method_2_code 5 (some (.object "java/lang/String")) [] RrmMake1 [] #[(.int (1 : Int32)), (.int c0), (.int c1), (.int c2)] h0 (QrmMake1 Z c0 c1 c2 h0) := by
  have ⟨hw, hEL, O2, P5, O4, P6⟩ := hcx
  refine Met.start (a0 := a0) (Ls := #[vI (1 : Int32), vI c0, vI c1, vI c2, .unset]) pn0 hEL O0 (fun m => by first | (simp [entryFrame, mkF, argsToLocals, Value.category]; done) | rfl) ?_
  intro p e s m below meth cc T0 vm0 X0 sf0_ D hml hret hnm hx zz A0
  refine Gets.via (fun _ k => (XS.iloadN A0 hx rfl (D d0_0) rfl (XS.ifYes A0 hx rfl (pc0 := 1) (pc' := 15) rfl (D d0_1) rfl (Jvm.Free.XT.i0_ne_t (by decide)) (by decide) (by decide) k))) ?_
  refine Gets.via (fun _ k => (XS.iloadN A0 hx rfl (D d0_15) rfl (XS.iconst A0 hx rfl (D d0_16) (XS.icmpNo A0 hx rfl (D d0_17) rfl (Jvm.Free.XT.ii_ne_f (by decide)) k)))) ?_
  refine Gets.via (fun _ k => (XS.iconst A0 hx rfl (D d0_20) k)) ?_
  refine X0.newA (aty := .char) (w7 hw) rfl (D d0_21) rfl (by decide) (cap := 1) (by decide) (by decide) (by decide) (by decide) fun T1 h1 a1 k1 X1 C1 E1 g1 S1 V1 => ?_
  have z1 := E1.1
  have l1 := ltA V1.lt
  have V1_ : Arv Z h1 a1 k1 .char (1 : Int32) [(.int (0 : Int32))] (.int (0 : Int32)) := padN V1 1
  show Gets p e below _ (T1.setTop (mkF m 23 #[vI (1 : Int32), vI c0, vI c1, vI c2, .unset] [(.ref a1)]))
  have A2 := X1.at
  refine Gets.via (fun _ k => (XS.dup A2 hx rfl (D d0_23) rfl rfl (XS.iconst A2 hx rfl (D d0_24) (XS.iloadN A2 hx rfl (D d0_25) rfl k)))) ?_
  refine X1.stC V1_ (i := 0) (by decide) (by decide) (Nat.le_of_ble_eq_true rfl) (by decide) (v := c0) (i2c_small Pr0) (leA (by omega)) rfl rfl (D d0_26) fun T3 h3 X3 C3 K3 V3 => ?_
  have z3 := K3.1
  have V3_ : Arv Z h3 a1 k1 .char (1 : Int32) [(.int c0)] (.int (0 : Int32)) := V3
  have A4 := X3.at
  refine Gets.via (fun _ k => (XS.astore A4 hx rfl (D d0_27) rfl rfl (l' := #[vI (1 : Int32), vI c0, vI c1, vI c2, vR a1]) rfl k)) ?_
  refine X3.new (w4 hw) (w5 hw) (w6 hw) rfl (D d0_29) (by decide) (by decide) fun T5 h5 a5 X5 C5 E5 g5 Z5 S5 D5 => ?_
  have z5 := E5.1
  have l5 := ltA Z5.lt
  have A6 := X5.at
  refine Gets.via (fun _ k => (XS.dup A6 hx rfl (D d0_32) rfl rfl (XS.aload A6 hx rfl (D d0_33) rfl rfl k))) ?_
  show Gets p e below _ (T5.setTop (mkF m 35 #[vI (1 : Int32), vI c0, vI c1, vI c2, vR a1] [(.ref a1), (.ref a5), (.ref a5)]))
  have f7 := V3_.ext E5
  refine X5.callI (y := (⟨"java/lang/String", "<init>", "([C)V"⟩ : MethodName)) (W := 1) rfl (w8 hw) (w9 hw) (w10 hw) (by decide) (payStr X5 hw (w5 hw) [c0] 1 (leA (by omega)) Z5 (D5 (Or.inr (w20 hw)) (ty := (.array .byte)) (by decide) : Fld Z h5 a5 "java/lang/String" "value" "[B" .null) (D5 (Or.inr (w21 hw)) (ty := .byte) (by decide) : Fld Z h5 a5 "java/lang/String" "coder" "B" (.int (0 : Int32))) f7 O2 P5 rfl rfl (by decide) (by decide) (allI Pr0 allN) (by decide) (by decide) S5) rfl (sz hml rfl) (a := a5) (argsL := [(.ref a1)]) (rest := [(.ref a5)]) (lenOf pd19 rfl) rfl rfl (mroom rfl rfl) (D d0_35) (by decide) (by decide) fun T8 h8 vm8 v8 X8 C8 z8 q8 => ?_
  obtain ⟨t8, kb8, rfl, K8, g8_0, g8_1, g8_2, g8_3, g8_4⟩ := q8
  have g8_5 : Str Z h8 a5 t8 kb8 [c0] := ⟨g8_0, g8_1, g8_2, g8_3, (allI Pr0 allN), Nat.le_of_ble_eq_true rfl⟩
  have l9 := ltA g8_5.lt
  have l10 := ltA g8_5.lb
  exact X8.retA hret rfl rfl rfl (D d0_38) (by decide) (by decide) (fun vmE CE => ⟨a5, t8, kb8, rfl, (((((Keep.refl h0 []).ext E1).trans K3 (allS (Or.inr (leA (by omega))) all0)).ext E5).trans K8 (allS (Or.inr (leA (by omega))) all0)), g8_5⟩)
abbrev RrmMake2 : Room := { frames := 4, cells := 3, slots := 8, locals := 66 }
def QrmMake2 (Z : State) (c0 : Int32) (c1 : Int32) (c2 : Int32) (h0 : Heap) (v : Option Value) (vm : Vm) (h : Heap) : Prop := ∃ (a : Addr) (b : Addr) (kb : ClassId), v = some (.ref a) ∧ Keep h0 h [] ∧ Str Z h a b kb [c0, c1]
theorem rmMake2 (hcx : Cx Z a0 zc fm) (c0 : Int32) (c1 : Int32) (c2 : Int32) (h0 : Heap) (O0 : Old Z Z.heap.size h0) (Pr0 : ¬ c0 < 0 ∧ ¬ (255 : Int32) < c0) (Pr1 : ¬ c1 < 0 ∧ ¬ (255 : Int32) < c1) : Met l Z consts_1 (⟨"com/example/packwright/packwright/io/SourceTreeRoutineFileNamePinLaw", "make", "(ICCC)Ljava/lang/String;"⟩ : MethodName) method_2_code 5 (some (.object "java/lang/String")) [] RrmMake2 [] #[(.int (2 : Int32)), (.int c0), (.int c1), (.int c2)] h0 (QrmMake2 Z c0 c1 c2 h0) := by
  have ⟨hw, hEL, O2, P5, O4, P6⟩ := hcx
  refine Met.start (a0 := a0) (Ls := #[vI (2 : Int32), vI c0, vI c1, vI c2, .unset]) pn0 hEL O0 (fun m => by first | (simp [entryFrame, mkF, argsToLocals, Value.category]; done) | rfl) ?_
  intro p e s m below meth cc T0 vm0 X0 sf0_ D hml hret hnm hx zz A0
  refine Gets.via (fun _ k => (XS.iloadN A0 hx rfl (D d0_0) rfl (XS.ifYes A0 hx rfl (pc0 := 1) (pc' := 15) rfl (D d0_1) rfl (Jvm.Free.XT.i0_ne_t (by decide)) (by decide) (by decide) k))) ?_
  refine Gets.via (fun _ k => (XS.iloadN A0 hx rfl (D d0_15) rfl (XS.iconst A0 hx rfl (D d0_16) (XS.icmpYes A0 hx rfl (pc0 := 17) (pc' := 39) rfl (D d0_17) rfl (Jvm.Free.XT.ii_ne_t (by decide)) (by decide) (by decide) k)))) ?_
  refine Gets.via (fun _ k => (XS.iloadN A0 hx rfl (D d0_39) rfl (XS.iconst A0 hx rfl (D d0_40) (XS.icmpNo A0 hx rfl (D d0_41) rfl (Jvm.Free.XT.ii_ne_f (by decide)) k)))) ?_
  refine Gets.via (fun _ k => (XS.iconst A0 hx rfl (D d0_44) k)) ?_
  show Gets p e below _ (T0.setTop (mkF m 45 #[vI (2 : Int32), vI c0, vI c1, vI c2, .unset] [(.int (2 : Int32))]))
  refine X0.newA (aty := .char) (w7 hw) rfl (D d0_45) rfl (by decide) (cap := 2) (by decide) (by decide) (by decide) (by decide) fun T1 h1 a1 k1 X1 C1 E1 g1 S1 V1 => ?_
  have z1 := E1.1
  have l1 := ltA V1.lt
  have V1_ : Arv Z h1 a1 k1 .char (2 : Int32) [(.int (0 : Int32)), (.int (0 : Int32))] (.int (0 : Int32)) := padN V1 2
  have A2 := X1.at
  refine Gets.via (fun _ k => (XS.dup A2 hx rfl (D d0_47) rfl rfl (XS.iconst A2 hx rfl (D d0_48) (XS.iloadN A2 hx rfl (D d0_49) rfl k)))) ?_
  refine X1.stC V1_ (i := 0) (by decide) (by decide) (Nat.le_of_ble_eq_true rfl) (by decide) (v := c0) (i2c_small Pr0) (leA (by omega)) rfl rfl (D d0_50) fun T3 h3 X3 C3 K3 V3 => ?_
  have z3 := K3.1
  have V3_ : Arv Z h3 a1 k1 .char (2 : Int32) [(.int c0), (.int (0 : Int32))] (.int (0 : Int32)) := V3
  have A4 := X3.at
  refine Gets.via (fun _ k => (XS.dup A4 hx rfl (D d0_51) rfl rfl (XS.iconst A4 hx rfl (D d0_52) (XS.iloadN A4 hx rfl (D d0_53) rfl k)))) ?_
  show Gets p e below _ (T3.setTop (mkF m 54 #[vI (2 : Int32), vI c0, vI c1, vI c2, .unset] [(.int c1), (.int (1 : Int32)), (.ref a1), (.ref a1)]))
  refine X3.stC V3_ (i := 1) (by decide) (by decide) (Nat.le_of_ble_eq_true rfl) (by decide) (v := c1) (i2c_small Pr1) (leA (by omega)) rfl rfl (D d0_54) fun T5 h5 X5 C5 K5 V5 => ?_
  have z5 := K5.1
  have V5_ : Arv Z h5 a1 k1 .char (2 : Int32) [(.int c0), (.int c1)] (.int (0 : Int32)) := V5
  have A6 := X5.at
  refine Gets.via (fun _ k => (XS.astore A6 hx rfl (D d0_55) rfl rfl (l' := #[vI (2 : Int32), vI c0, vI c1, vI c2, vR a1]) rfl k)) ?_
  refine X5.new (w4 hw) (w5 hw) (w6 hw) rfl (D d0_57) (by decide) (by decide) fun T7 h7 a7 X7 C7 E7 g7 Z7 S7 D7 => ?_
  have z7 := E7.1
  have l7 := ltA Z7.lt
  have A8 := X7.at
  refine Gets.via (fun _ k => (XS.dup A8 hx rfl (D d0_60) rfl rfl (XS.aload A8 hx rfl (D d0_61) rfl rfl k))) ?_
  have f9 := V5_.ext E7
  refine X7.callI (y := (⟨"java/lang/String", "<init>", "([C)V"⟩ : MethodName)) (W := 1) rfl (w8 hw) (w9 hw) (w10 hw) (by decide) (payStr X7 hw (w5 hw) [c0, c1] 2 (leA (by omega)) Z7 (D7 (Or.inr (w20 hw)) (ty := (.array .byte)) (by decide) : Fld Z h7 a7 "java/lang/String" "value" "[B" .null) (D7 (Or.inr (w21 hw)) (ty := .byte) (by decide) : Fld Z h7 a7 "java/lang/String" "coder" "B" (.int (0 : Int32))) f9 O2 P5 rfl rfl (by decide) (by decide) (allI Pr0 (allI Pr1 allN)) (by decide) (by decide) S7) rfl (sz hml rfl) (a := a7) (argsL := [(.ref a1)]) (rest := [(.ref a7)]) (lenOf pd19 rfl) rfl rfl (mroom rfl rfl) (D d0_63) (by decide) (by decide) fun T10 h10 vm10 v10 X10 C10 z10 q10 => ?_
  obtain ⟨t10, kb10, rfl, K10, g10_0, g10_1, g10_2, g10_3, g10_4⟩ := q10
  have g10_5 : Str Z h10 a7 t10 kb10 [c0, c1] := ⟨g10_0, g10_1, g10_2, g10_3, (allI Pr0 (allI Pr1 allN)), Nat.le_of_ble_eq_true rfl⟩
  have l11 := ltA g10_5.lt
  have l12 := ltA g10_5.lb
  show Gets p e below _ (T10.setTop (mkF m 66 #[vI (2 : Int32), vI c0, vI c1, vI c2, vR a1] [(.ref a7)]))
  exact X10.retA hret rfl rfl rfl (D d0_66) (by decide) (by decide) (fun vmE CE => ⟨a7, t10, kb10, rfl, ((((((Keep.refl h0 []).ext E1).trans K3 (allS (Or.inr (leA (by omega))) all0)).trans K5 (allS (Or.inr (leA (by omega))) all0)).ext E7).trans K10 (allS (Or.inr (leA (by omega))) all0)), g10_5⟩)
abbrev RrmMake3 : Room := { frames := 4, cells := 3, slots := 10, locals := 66 }
def QrmMake3 (Z : State) (c0 : Int32) (c1 : Int32) (c2 : Int32) (h0 : Heap) (v : Option Value) (vm : Vm) (h : Heap) : Prop := ∃ (a : Addr) (b : Addr) (kb : ClassId), v = some (.ref a) ∧ Keep h0 h [] ∧ Str Z h a b kb [c0, c1, c2]
theorem rmMake3 (hcx : Cx Z a0 zc fm) (c0 : Int32) (c1 : Int32) (c2 : Int32) (h0 : Heap) (O0 : Old Z Z.heap.size h0) (Pr0 : ¬ c0 < 0 ∧ ¬ (255 : Int32) < c0) (Pr1 : ¬ c1 < 0 ∧ ¬ (255 : Int32) < c1) (Pr2 : ¬ c2 < 0 ∧ ¬ (255 : Int32) < c2) : Met l Z consts_1 (⟨"com/example/packwright/packwright/io/SourceTreeRoutineFileNamePinLaw", "make", "(ICCC)Ljava/lang/String;"⟩ : MethodName) method_2_code 5 (some (.object "java/lang/String")) [] RrmMake3 [] #[(.int (3 : Int32)), (.int c0), (.int c1), (.int c2)] h0 (QrmMake3 Z c0 c1 c2 h0) := by
  have ⟨hw, hEL, O2, P5, O4, P6⟩ := hcx
  refine Met.start (a0 := a0) (Ls := #[vI (3 : Int32), vI c0, vI c1, vI c2, .unset]) pn0 hEL O0 (fun m => by first | (simp [entryFrame, mkF, argsToLocals, Value.category]; done) | rfl) ?_
  intro p e s m below meth cc T0 vm0 X0 sf0_ D hml hret hnm hx zz A0
  refine Gets.via (fun _ k => (XS.iloadN A0 hx rfl (D d0_0) rfl (XS.ifYes A0 hx rfl (pc0 := 1) (pc' := 15) rfl (D d0_1) rfl (Jvm.Free.XT.i0_ne_t (by decide)) (by decide) (by decide) k))) ?_
  refine Gets.via (fun _ k => (XS.iloadN A0 hx rfl (D d0_15) rfl (XS.iconst A0 hx rfl (D d0_16) (XS.icmpYes A0 hx rfl (pc0 := 17) (pc' := 39) rfl (D d0_17) rfl (Jvm.Free.XT.ii_ne_t (by decide)) (by decide) (by decide) k)))) ?_
  refine Gets.via (fun _ k => (XS.iloadN A0 hx rfl (D d0_39) rfl (XS.iconst A0 hx rfl (D d0_40) (XS.icmpYes A0 hx rfl (pc0 := 41) (pc' := 67) rfl (D d0_41) rfl (Jvm.Free.XT.ii_ne_t (by decide)) (by decide) (by decide) k)))) ?_
  refine Gets.via (fun _ k => (XS.iconst A0 hx rfl (D d0_67) k)) ?_
  show Gets p e below _ (T0.setTop (mkF m 68 #[vI (3 : Int32), vI c0, vI c1, vI c2, .unset] [(.int (3 : Int32))]))
  refine X0.newA (aty := .char) (w7 hw) rfl (D d0_68) rfl (by decide) (cap := 3) (by decide) (by decide) (by decide) (by decide) fun T1 h1 a1 k1 X1 C1 E1 g1 S1 V1 => ?_
  have z1 := E1.1
  have l1 := ltA V1.lt
  have V1_ : Arv Z h1 a1 k1 .char (3 : Int32) [(.int (0 : Int32)), (.int (0 : Int32)), (.int (0 : Int32))] (.int (0 : Int32)) := padN V1 3
  have A2 := X1.at
  refine Gets.via (fun _ k => (XS.dup A2 hx rfl (D d0_70) rfl rfl (XS.iconst A2 hx rfl (D d0_71) (XS.iloadN A2 hx rfl (D d0_72) rfl k)))) ?_
  refine X1.stC V1_ (i := 0) (by decide) (by decide) (Nat.le_of_ble_eq_true rfl) (by decide) (v := c0) (i2c_small Pr0) (leA (by omega)) rfl rfl (D d0_73) fun T3 h3 X3 C3 K3 V3 => ?_
  have z3 := K3.1
  have V3_ : Arv Z h3 a1 k1 .char (3 : Int32) [(.int c0), (.int (0 : Int32)), (.int (0 : Int32))] (.int (0 : Int32)) := V3
  have A4 := X3.at
  refine Gets.via (fun _ k => (XS.dup A4 hx rfl (D d0_74) rfl rfl (XS.iconst A4 hx rfl (D d0_75) (XS.iloadN A4 hx rfl (D d0_76) rfl k)))) ?_
  show Gets p e below _ (T3.setTop (mkF m 77 #[vI (3 : Int32), vI c0, vI c1, vI c2, .unset] [(.int c1), (.int (1 : Int32)), (.ref a1), (.ref a1)]))
  refine X3.stC V3_ (i := 1) (by decide) (by decide) (Nat.le_of_ble_eq_true rfl) (by decide) (v := c1) (i2c_small Pr1) (leA (by omega)) rfl rfl (D d0_77) fun T5 h5 X5 C5 K5 V5 => ?_
  have z5 := K5.1
  have V5_ : Arv Z h5 a1 k1 .char (3 : Int32) [(.int c0), (.int c1), (.int (0 : Int32))] (.int (0 : Int32)) := V5
  have A6 := X5.at
  refine Gets.via (fun _ k => (XS.dup A6 hx rfl (D d0_78) rfl rfl (XS.iconst A6 hx rfl (D d0_79) (XS.iloadN A6 hx rfl (D d0_80) rfl k)))) ?_
  refine X5.stC V5_ (i := 2) (by decide) (by decide) (Nat.le_of_ble_eq_true rfl) (by decide) (v := c2) (i2c_small Pr2) (leA (by omega)) rfl rfl (D d0_81) fun T7 h7 X7 C7 K7 V7 => ?_
  have z7 := K7.1
  have V7_ : Arv Z h7 a1 k1 .char (3 : Int32) [(.int c0), (.int c1), (.int c2)] (.int (0 : Int32)) := V7
  have A8 := X7.at
  refine Gets.via (fun _ k => (XS.astore A8 hx rfl (D d0_82) rfl rfl (l' := #[vI (3 : Int32), vI c0, vI c1, vI c2, vR a1]) rfl k)) ?_
  refine X7.new (w4 hw) (w5 hw) (w6 hw) rfl (D d0_84) (by decide) (by decide) fun T9 h9 a9 X9 C9 E9 g9 Z9 S9 D9 => ?_
  have z9 := E9.1
  have l9 := ltA Z9.lt
  show Gets p e below _ (T9.setTop (mkF m 87 #[vI (3 : Int32), vI c0, vI c1, vI c2, vR a1] [(.ref a9)]))
  have A10 := X9.at
  refine Gets.via (fun _ k => (XS.dup A10 hx rfl (D d0_87) rfl rfl (XS.aload A10 hx rfl (D d0_88) rfl rfl k))) ?_
  have f11 := V7_.ext E9
  refine X9.callI (y := (⟨"java/lang/String", "<init>", "([C)V"⟩ : MethodName)) (W := 1) rfl (w8 hw) (w9 hw) (w10 hw) (by decide) (payStr X9 hw (w5 hw) [c0, c1, c2] 3 (leA (by omega)) Z9 (D9 (Or.inr (w20 hw)) (ty := (.array .byte)) (by decide) : Fld Z h9 a9 "java/lang/String" "value" "[B" .null) (D9 (Or.inr (w21 hw)) (ty := .byte) (by decide) : Fld Z h9 a9 "java/lang/String" "coder" "B" (.int (0 : Int32))) f11 O2 P5 rfl rfl (by decide) (by decide) (allI Pr0 (allI Pr1 (allI Pr2 allN))) (by decide) (by decide) S9) rfl (sz hml rfl) (a := a9) (argsL := [(.ref a1)]) (rest := [(.ref a9)]) (lenOf pd19 rfl) rfl rfl (mroom rfl rfl) (D d0_90) (by decide) (by decide) fun T12 h12 vm12 v12 X12 C12 z12 q12 => ?_
  obtain ⟨t12, kb12, rfl, K12, g12_0, g12_1, g12_2, g12_3, g12_4⟩ := q12
  have g12_5 : Str Z h12 a9 t12 kb12 [c0, c1, c2] := ⟨g12_0, g12_1, g12_2, g12_3, (allI Pr0 (allI Pr1 (allI Pr2 allN))), Nat.le_of_ble_eq_true rfl⟩
  have l13 := ltA g12_5.lt
  have l14 := ltA g12_5.lb
  exact X12.retA hret rfl rfl rfl (D d0_93) (by decide) (by decide) (fun vmE CE => ⟨a9, t12, kb12, rfl, (((((((Keep.refl h0 []).ext E1).trans K3 (allS (Or.inr (leA (by omega))) all0)).trans K5 (allS (Or.inr (leA (by omega))) all0)).trans K7 (allS (Or.inr (leA (by omega))) all0)).ext E9).trans K12 (allS (Or.inr (leA (by omega))) all0)), g12_5⟩)
abbrev RrmSw2_0 : Room := { frames := 2, cells := 0, slots := 0, locals := 27 }
def QrmSw2_0 (Z : State) (x : Addr) (s1 : Addr) (b : Addr) (kb : ClassId) (d : Addr) (kd : ClassId) (h0 : Heap) (v : Option Value) (vm : Vm) (h : Heap) : Prop := v = some (.int (0 : Int32)) ∧ h = h0
theorem rmSw2_0 (hcx : Cx Z a0 zc fm) (x : Addr) (s1 : Addr) (b : Addr) (kb : ClassId) (d : Addr) (kd : ClassId) (h0 : Heap) (O0 : Old Z Z.heap.size h0) (Pr0 : Str Z h0 x b kb []) (Pr1 : Str Z h0 s1 d kd [(37 : Int32)]) : Met l Z consts_1 (⟨"java/lang/String", "startsWith", "(Ljava/lang/String;I)Z"⟩ : MethodName) jdk_42_method_75_code 8 (some .boolean) [] RrmSw2_0 [] #[(.ref x), (.ref s1), (.int (0 : Int32))] h0 (QrmSw2_0 Z x s1 b kb d kd h0) := by
  have ⟨hw, hEL, O2, P5, O4, P6⟩ := hcx
  refine Met.start (a0 := a0) (Ls := #[vR x, vR s1, vI (0 : Int32), .unset, .unset, .unset, .unset, .unset]) pn6 hEL O0 (fun m => by first | (simp [entryFrame, mkF, argsToLocals, Value.category]; done) | rfl) ?_
  intro p e s m below meth cc T0 vm0 X0 sf0_ D hml hret hnm hx zz A0
  have l1 := ltA Pr0.lt
  have l2 := ltA Pr0.lb
  have l3 := ltA Pr1.lt
  have l4 := ltA Pr1.lb
  refine Gets.via (fun _ k => (XS.iloadN A0 hx rfl (D d6_0) rfl (XS.ifNo A0 hx rfl (D d6_1) rfl (Jvm.Free.XT.i0_lt_f (by decide)) k))) ?_
  refine Gets.via (fun _ k => (XS.iloadN A0 hx rfl (D d6_4) rfl (XS.aloadN A0 hx rfl (D d6_5) rfl rfl k))) ?_
  refine X0.callV (W := 1) (w41 hw) (w42 hw) (w44 hw) (w43 hw) (nfs rfl (w44 hw)) (by decide) (X0.payM (sf := []) (rmLen0 hcx x b kb [] h0 X0.old Pr0) sf0 (w45 hw) (w6 hw)) Pr0.1 rfl (sz hml rfl) (argsL := []) (rest := [(.int (0 : Int32))]) (lenOf pd7 rfl) rfl rfl (mroom rfl rfl) (D d6_6) (by decide) (by decide) fun T5 h5 vm5 v5 X5 C5 z5 q5 => ?_
  obtain ⟨rfl, K5⟩ := q5
  rw [K5] at X5 C5
  show Gets p e below _ (T5.setTop (mkF m 9 #[vR x, vR s1, vI (0 : Int32), .unset, .unset, .unset, .unset, .unset] [(.int (0 : Int32)), (.int (0 : Int32))]))
  have A6 := X5.at
  refine Gets.via (fun _ k => (XS.aloadN A6 hx rfl (D d6_9) rfl rfl k)) ?_
  refine X5.callV (W := 2) (w41 hw) (w42 hw) (w44 hw) (w43 hw) (nfs rfl (w44 hw)) (by decide) (X5.payM (sf := []) (rmLen0 hcx s1 d kd [(37 : Int32)] h0 X5.old Pr1) sf0 (w45 hw) (w6 hw)) Pr1.1 rfl (sz hml rfl) (argsL := []) (rest := [(.int (0 : Int32)), (.int (0 : Int32))]) (lenOf pd7 rfl) rfl rfl (mroom rfl rfl) (D d6_10) (by decide) (by decide) fun T7 h7 vm7 v7 X7 C7 z7 q7 => ?_
  obtain ⟨rfl, K7⟩ := q7
  rw [K7] at X7 C7
  show Gets p e below _ (T7.setTop (mkF m 13 #[vR x, vR s1, vI (0 : Int32), .unset, .unset, .unset, .unset, .unset] [(.int (1 : Int32)), (.int (0 : Int32)), (.int (0 : Int32))]))
  have A8 := X7.at
  refine Gets.via (fun _ k => (isubV A8 hx rfl (D d6_13) rfl (v := (-1 : Int32)) (by decide) (XS.icmpNo A8 hx rfl (D d6_14) rfl (Jvm.Free.XT.ii_le_f (by decide)) k))) ?_
  refine Gets.via (fun _ k => (XS.iconst A8 hx rfl (D d6_17) k)) ?_
  exact X7.retI hret (by decide) (by simp) (D d6_18) (by decide) (by decide) (fun vmE CE => ⟨rfl, rfl⟩)
abbrev RrmSw1_0 : Room := { frames := 3, cells := 0, slots := 0, locals := 46 }
def QrmSw1_0 (Z : State) (x : Addr) (s1 : Addr) (b : Addr) (kb : ClassId) (d : Addr) (kd : ClassId) (h0 : Heap) (v : Option Value) (vm : Vm) (h : Heap) : Prop := v = some (.int (0 : Int32)) ∧ h = h0
theorem rmSw1_0 (hcx : Cx Z a0 zc fm) (x : Addr) (s1 : Addr) (b : Addr) (kb : ClassId) (d : Addr) (kd : ClassId) (h0 : Heap) (O0 : Old Z Z.heap.size h0) (Pr0 : Str Z h0 x b kb []) (Pr1 : Str Z h0 s1 d kd [(37 : Int32)]) : Met l Z consts_1 (⟨"java/lang/String", "startsWith", "(Ljava/lang/String;)Z"⟩ : MethodName) jdk_42_method_76_code 2 (some .boolean) [] RrmSw1_0 [] #[(.ref x), (.ref s1)] h0 (QrmSw1_0 Z x s1 b kb d kd h0) := by
  have ⟨hw, hEL, O2, P5, O4, P6⟩ := hcx
  refine Met.start (a0 := a0) (Ls := #[vR x, vR s1]) pn5 hEL O0 (fun m => by first | (simp [entryFrame, mkF, argsToLocals, Value.category]; done) | rfl) ?_
  intro p e s m below meth cc T0 vm0 X0 sf0_ D hml hret hnm hx zz A0
  have l1 := ltA Pr0.lt
  have l2 := ltA Pr0.lb
  have l3 := ltA Pr1.lt
  have l4 := ltA Pr1.lb
  refine Gets.via (fun _ k => (XS.aloadN A0 hx rfl (D d5_0) rfl rfl (XS.aloadN A0 hx rfl (D d5_1) rfl rfl (XS.iconst A0 hx rfl (D d5_2) k)))) ?_
  refine X0.callV (W := 0) (w36 hw) (w37 hw) (w39 hw) (w38 hw) (nfs rfl (w39 hw)) (by decide) (X0.payM (sf := []) (rmSw2_0 hcx x s1 b kb d kd h0 X0.old Pr0 Pr1) sf0 (w40 hw) (w6 hw)) Pr0.1 rfl (sz hml rfl) (argsL := [(.ref s1), (.int (0 : Int32))]) (rest := []) (lenOf pd20 rfl) rfl rfl (mroom rfl rfl) (D d5_3) (by decide) (by decide) fun T5 h5 vm5 v5 X5 C5 z5 q5 => ?_
  obtain ⟨rfl, K5⟩ := q5
  rw [K5] at X5 C5
  exact X5.retI hret (by decide) (by simp) (D d5_6) (by decide) (by decide) (fun vmE CE => ⟨rfl, rfl⟩)
abbrev RrmMis1 : Room := { frames := 0, cells := 0, slots := 0, locals := 0 }
def QrmMis1 (Z : State) (b : Addr) (d : Addr) (kb : ClassId) (kd : ClassId) (y0 : Int32) (h0 : Heap) (v : Option Value) (vm : Vm) (h : Heap) : Prop := ∃ (r : Int32), v = some (.int r) ∧ h = h0 ∧ r = if y0 = (37 : Int32) then (-1) else 0
theorem rmMis1 (hcx : Cx Z a0 zc fm) (b : Addr) (d : Addr) (kb : ClassId) (kd : ClassId) (y0 : Int32) (h0 : Heap) (O0 : Old Z Z.heap.size h0) (Pr0 : Arv Z h0 b kb .byte (1 : Int32) [(.int y0)] (.int (0 : Int32))) (Pr1 : Arv Z h0 d kd .byte (1 : Int32) [(.int (37 : Int32))] (.int (0 : Int32))) : Met l Z consts_1 (⟨"jdk/internal/util/ArraysSupport", "mismatch", "([BI[BII)I"⟩ : MethodName) jdk_48_method_14_code 8 (some .int) [] RrmMis1 [] #[(.ref b), (.int (0 : Int32)), (.ref d), (.int (0 : Int32)), (.int (1 : Int32))] h0 (QrmMis1 Z b d kb kd y0 h0) := by
  have ⟨hw, hEL, O2, P5, O4, P6⟩ := hcx
  refine Met.start (a0 := a0) (Ls := #[vR b, vI (0 : Int32), vR d, vI (0 : Int32), vI (1 : Int32), .unset, .unset, .unset]) pn36 hEL O0 (fun m => by first | (simp [entryFrame, mkF, argsToLocals, Value.category]; done) | rfl) ?_
  intro p e s m below meth cc T0 vm0 X0 sf0_ D hml hret hnm hx zz A0
  have l1 := ltA Pr0.lt
  have l2 := ltA Pr1.lt
  refine Gets.via (fun _ k => (XS.iconst A0 hx rfl (D d36_0) (XS.istore A0 hx rfl (D d36_1) rfl (l' := #[vR b, vI (0 : Int32), vR d, vI (0 : Int32), vI (1 : Int32), vI (0 : Int32), .unset, .unset]) rfl (XS.iload A0 hx rfl (D d36_3) rfl (XS.bipush A0 hx rfl (D d36_5) (XS.icmpYes A0 hx rfl (pc0 := 7) (pc' := 70) rfl (D d36_7) rfl (Jvm.Free.XT.ii_le_t (by decide)) (by decide) (by decide) k)))))) ?_
  refine Gets.via (fun _ k => (XS.iload A0 hx rfl (D d36_70) rfl (XS.iload A0 hx rfl (D d36_72) rfl (XS.icmpNo A0 hx rfl (D d36_74) rfl (Jvm.Free.XT.ii_ge_f (by decide)) k)))) ?_
  refine Gets.via (fun _ k => (XS.aloadN A0 hx rfl (D d36_77) rfl rfl (XS.iloadN A0 hx rfl (D d36_78) rfl (XS.iload A0 hx rfl (D d36_79) rfl (iaddV A0 hx rfl (D d36_81) rfl (v := (0 : Int32)) (by decide) k))))) ?_
  show Gets p e below _ (T0.setTop (mkF m 82 #[vR b, vI (0 : Int32), vR d, vI (0 : Int32), vI (1 : Int32), vI (0 : Int32), .unset, .unset] [(.int (0 : Int32)), (.ref b)]))
  refine X0.ldB Pr0 (j := (0 : Int32)) (i := 0) (by decide) (by decide) (by decide) (v := (.int y0)) rfl rfl rfl (D d36_82) ?_
  refine Gets.via (fun _ k => (XS.aloadN A0 hx rfl (D d36_83) rfl rfl (XS.iloadN A0 hx rfl (D d36_84) rfl (XS.iload A0 hx rfl (D d36_85) rfl (iaddV A0 hx rfl (D d36_87) rfl (v := (0 : Int32)) (by decide) k))))) ?_
  refine X0.ldB Pr1 (j := (0 : Int32)) (i := 0) (by decide) (by decide) (by decide) (v := (.int (37 : Int32))) rfl rfl rfl (D d36_88) ?_
  by_cases b89 : y0 = (37 : Int32)
  · refine Gets.via (fun _ k => (XS.icmpYes A0 hx rfl (pc0 := 89) (pc' := 95) rfl (D d36_89) rfl (Jvm.Free.XT.ii_eq_t b89) (by decide) (by decide) k)) ?_
    refine Gets.via (fun _ k => (iincV A0 hx rfl (D d36_95) rfl (v := (1 : Int32)) (by decide) (l' := #[vR b, vI (0 : Int32), vR d, vI (0 : Int32), vI (1 : Int32), vI (1 : Int32), .unset, .unset]) rfl (XS.goto A0 hx rfl (pc0 := 98) (pc' := 70) rfl (D d36_98) (by decide) (by decide) k))) ?_
    show Gets p e below _ (T0.setTop (mkF m 70 #[vR b, vI (0 : Int32), vR d, vI (0 : Int32), vI (1 : Int32), vI (1 : Int32), .unset, .unset] []))
    refine Gets.via (fun _ k => (XS.iload A0 hx rfl (D d36_70) rfl (XS.iload A0 hx rfl (D d36_72) rfl (XS.icmpYes A0 hx rfl (pc0 := 74) (pc' := 101) rfl (D d36_74) rfl (Jvm.Free.XT.ii_ge_t (by decide)) (by decide) (by decide) k)))) ?_
    refine Gets.via (fun _ k => (XS.iconst A0 hx rfl (D d36_101) k)) ?_
    exact X0.retI hret rfl (by simp) (D d36_102) (by decide) (by decide) (fun vmE CE => ⟨(-1 : Int32), rfl, rfl, (if_pos b89).symm⟩)
  · refine Gets.via (fun _ k => (XS.icmpNo A0 hx rfl (D d36_89) rfl (Jvm.Free.XT.ii_eq_f b89) k)) ?_
    refine Gets.via (fun _ k => (XS.iload A0 hx rfl (D d36_92) rfl k)) ?_
    exact X0.retI hret rfl (by simp) (D d36_94) (by decide) (by decide) (fun vmE CE => ⟨(0 : Int32), rfl, rfl, (if_neg b89).symm⟩)
abbrev RrmSw2_1 : Room := { frames := 2, cells := 0, slots := 0, locals := 27 }
def QrmSw2_1 (Z : State) (x : Addr) (s1 : Addr) (b : Addr) (kb : ClassId) (d : Addr) (kd : ClassId) (c0 : Int32) (h0 : Heap) (v : Option Value) (vm : Vm) (h : Heap) : Prop := ∃ (r : Int32), v = some (.int r) ∧ h = h0 ∧ r = if c0 = (37 : Int32) then 1 else 0
theorem rmSw2_1 (hcx : Cx Z a0 zc fm) (x : Addr) (s1 : Addr) (b : Addr) (kb : ClassId) (d : Addr) (kd : ClassId) (c0 : Int32) (h0 : Heap) (O0 : Old Z Z.heap.size h0) (Pr0 : Str Z h0 x b kb [c0]) (Pr1 : Str Z h0 s1 d kd [(37 : Int32)]) : Met l Z consts_1 (⟨"java/lang/String", "startsWith", "(Ljava/lang/String;I)Z"⟩ : MethodName) jdk_42_method_75_code 8 (some .boolean) [] RrmSw2_1 [] #[(.ref x), (.ref s1), (.int (0 : Int32))] h0 (QrmSw2_1 Z x s1 b kb d kd c0 h0) := by
  have ⟨hw, hEL, O2, P5, O4, P6⟩ := hcx
  refine Met.start (a0 := a0) (Ls := #[vR x, vR s1, vI (0 : Int32), .unset, .unset, .unset, .unset, .unset]) pn6 hEL O0 (fun m => by first | (simp [entryFrame, mkF, argsToLocals, Value.category]; done) | rfl) ?_
  intro p e s m below meth cc T0 vm0 X0 sf0_ D hml hret hnm hx zz A0
  have l1 := ltA Pr0.lt
  have l2 := ltA Pr0.lb
  have l3 := ltA Pr1.lt
  have l4 := ltA Pr1.lb
  refine Gets.via (fun _ k => (XS.iloadN A0 hx rfl (D d6_0) rfl (XS.ifNo A0 hx rfl (D d6_1) rfl (Jvm.Free.XT.i0_lt_f (by decide)) k))) ?_
  refine Gets.via (fun _ k => (XS.iloadN A0 hx rfl (D d6_4) rfl (XS.aloadN A0 hx rfl (D d6_5) rfl rfl k))) ?_
  refine X0.callV (W := 1) (w41 hw) (w42 hw) (w44 hw) (w43 hw) (nfs rfl (w44 hw)) (by decide) (X0.payM (sf := []) (rmLen0 hcx x b kb [c0] h0 X0.old Pr0) sf0 (w45 hw) (w6 hw)) Pr0.1 rfl (sz hml rfl) (argsL := []) (rest := [(.int (0 : Int32))]) (lenOf pd7 rfl) rfl rfl (mroom rfl rfl) (D d6_6) (by decide) (by decide) fun T5 h5 vm5 v5 X5 C5 z5 q5 => ?_
  obtain ⟨rfl, K5⟩ := q5
  rw [K5] at X5 C5
  show Gets p e below _ (T5.setTop (mkF m 9 #[vR x, vR s1, vI (0 : Int32), .unset, .unset, .unset, .unset, .unset] [(.int (1 : Int32)), (.int (0 : Int32))]))
  have A6 := X5.at
  refine Gets.via (fun _ k => (XS.aloadN A6 hx rfl (D d6_9) rfl rfl k)) ?_
  refine X5.callV (W := 2) (w41 hw) (w42 hw) (w44 hw) (w43 hw) (nfs rfl (w44 hw)) (by decide) (X5.payM (sf := []) (rmLen0 hcx s1 d kd [(37 : Int32)] h0 X5.old Pr1) sf0 (w45 hw) (w6 hw)) Pr1.1 rfl (sz hml rfl) (argsL := []) (rest := [(.int (1 : Int32)), (.int (0 : Int32))]) (lenOf pd7 rfl) rfl rfl (mroom rfl rfl) (D d6_10) (by decide) (by decide) fun T7 h7 vm7 v7 X7 C7 z7 q7 => ?_
  obtain ⟨rfl, K7⟩ := q7
  rw [K7] at X7 C7
  show Gets p e below _ (T7.setTop (mkF m 13 #[vR x, vR s1, vI (0 : Int32), .unset, .unset, .unset, .unset, .unset] [(.int (1 : Int32)), (.int (1 : Int32)), (.int (0 : Int32))]))
  have A8 := X7.at
  refine Gets.via (fun _ k => (isubV A8 hx rfl (D d6_13) rfl (v := (0 : Int32)) (by decide) (XS.icmpYes A8 hx rfl (pc0 := 14) (pc' := 19) rfl (D d6_14) rfl (Jvm.Free.XT.ii_le_t (by decide)) (by decide) (by decide) k))) ?_
  refine Gets.via (fun _ k => (XS.aloadN A8 hx rfl (D d6_19) rfl rfl k)) ?_
  refine X7.getF (host := "") (Or.inl (w24 hw)) Via.refl Pr0.2.2.1 rfl rfl (D d6_20) fun T9 X9 => ?_
  have A10 := X9.at
  refine Gets.via (fun _ k => (XS.astoreN A10 hx rfl (D d6_23) rfl rfl (l' := #[vR x, vR s1, vI (0 : Int32), vR b, .unset, .unset, .unset, .unset]) rfl (XS.aloadN A10 hx rfl (D d6_24) rfl rfl k))) ?_
  refine X9.getF (host := "") (Or.inl (w24 hw)) Via.refl Pr1.2.2.1 rfl rfl (D d6_25) fun T11 X11 => ?_
  have A12 := X11.at
  refine Gets.via (fun _ k => (XS.astore A12 hx rfl (D d6_28) rfl rfl (l' := #[vR x, vR s1, vI (0 : Int32), vR b, vR d, .unset, .unset, .unset]) rfl (XS.iconst A12 hx rfl (D d6_30) (XS.istore A12 hx rfl (D d6_31) rfl (l' := #[vR x, vR s1, vI (0 : Int32), vR b, vR d, vI (0 : Int32), .unset, .unset]) rfl (XS.aload A12 hx rfl (D d6_33) rfl rfl k))))) ?_
  show Gets p e below _ (T11.setTop (mkF m 35 #[vR x, vR s1, vI (0 : Int32), vR b, vR d, vI (0 : Int32), .unset, .unset] [(.ref d)]))
  have f13 : Arv Z h0 d kd .byte (1 : Int32) [(.int (37 : Int32))] (.int (0 : Int32)) := Pr1.2.2.2.1
  refine X11.alen f13 rfl rfl (D d6_35) ?_
  refine Gets.via (fun _ k => (XS.istore A12 hx rfl (D d6_36) rfl (l' := #[vR x, vR s1, vI (0 : Int32), vR b, vR d, vI (0 : Int32), vI (1 : Int32), .unset]) rfl (XS.aloadN A12 hx rfl (D d6_38) rfl rfl k))) ?_
  refine X11.callV (W := 0) (w46 hw) (w47 hw) (w49 hw) (w48 hw) (nfs rfl (w49 hw)) (by decide) (X11.payM (sf := []) (rmCoder0 hcx x h0 X11.old Pr0.1 Pr0.2.1) sf0 (w50 hw) (w6 hw)) Pr0.1 rfl (sz hml rfl) (argsL := []) (rest := []) (lenOf pd1 rfl) rfl rfl (mroom rfl rfl) (D d6_39) (by decide) (by decide) fun T14 h14 vm14 v14 X14 C14 z14 q14 => ?_
  obtain ⟨rfl, K14⟩ := q14
  rw [K14] at X14 C14
  have A15 := X14.at
  refine Gets.via (fun _ k => (XS.istore A15 hx rfl (D d6_42) rfl (l' := #[vR x, vR s1, vI (0 : Int32), vR b, vR d, vI (0 : Int32), vI (1 : Int32), vI (0 : Int32)]) rfl (XS.iload A15 hx rfl (D d6_44) rfl (XS.aloadN A15 hx rfl (D d6_46) rfl rfl k)))) ?_
  refine X14.callV (W := 1) (w46 hw) (w47 hw) (w49 hw) (w48 hw) (nfs rfl (w49 hw)) (by decide) (X14.payM (sf := []) (rmCoder0 hcx s1 h0 X14.old Pr1.1 Pr1.2.1) sf0 (w50 hw) (w6 hw)) Pr1.1 rfl (sz hml rfl) (argsL := []) (rest := [(.int (0 : Int32))]) (lenOf pd1 rfl) rfl rfl (mroom rfl rfl) (D d6_47) (by decide) (by decide) fun T16 h16 vm16 v16 X16 C16 z16 q16 => ?_
  obtain ⟨rfl, K16⟩ := q16
  rw [K16] at X16 C16
  show Gets p e below _ (T16.setTop (mkF m 50 #[vR x, vR s1, vI (0 : Int32), vR b, vR d, vI (0 : Int32), vI (1 : Int32), vI (0 : Int32)] [(.int (0 : Int32)), (.int (0 : Int32))]))
  have A17 := X16.at
  refine Gets.via (fun _ k => (XS.icmpNo A17 hx rfl (D d6_50) rfl (Jvm.Free.XT.ii_ne_f (by decide)) k)) ?_
  refine Gets.via (fun _ k => (XS.iload A17 hx rfl (D d6_53) rfl (XS.iconst A17 hx rfl (D d6_55) (XS.icmpYes A17 hx rfl (pc0 := 56) (pc' := 63) rfl (D d6_56) rfl (Jvm.Free.XT.ii_ne_t (by decide)) (by decide) (by decide) k)))) ?_
  refine Gets.via (fun _ k => (XS.aloadN A17 hx rfl (D d6_63) rfl rfl (XS.iloadN A17 hx rfl (D d6_64) rfl (XS.aload A17 hx rfl (D d6_65) rfl rfl (XS.iconst A17 hx rfl (D d6_67) (XS.iload A17 hx rfl (D d6_68) rfl k)))))) ?_
  have f18 : Arv Z h0 b kb .byte (1 : Int32) [(.int (c0.toInt8.toInt32))] (.int (0 : Int32)) := Pr0.2.2.2.1
  refine X16.callS (W := 0) (w187 hw) (w188 hw) (w189 hw) (w190 hw) (by decide) (X16.payM (sf := []) (rmMis1 hcx b d kb kd (c0.toInt8.toInt32) h0 X16.old f18 f13) sf0 (w190 hw) (w189 hw)) rfl (sz hml rfl) (argsL := [(.ref b), (.int (0 : Int32)), (.ref d), (.int (0 : Int32)), (.int (1 : Int32))]) (rest := []) (lenOf pd21 rfl) rfl rfl (mroom rfl rfl) (D d6_70) (by decide) (by decide) fun T19 h19 vm19 v19 X19 C19 z19 q19 => ?_
  obtain ⟨r19, rfl, K19, rfl⟩ := q19
  rw [K19] at X19 C19
  show Gets p e below _ (T19.setTop (mkF m 73 #[vR x, vR s1, vI (0 : Int32), vR b, vR d, vI (0 : Int32), vI (1 : Int32), vI (0 : Int32)] [(.int (if (c0.toInt8.toInt32) = (37 : Int32) then (-1) else 0))]))
  by_cases b73 : (if (c0.toInt8.toInt32) = (37 : Int32) then (-1) else 0) < (0 : Int32)
  · have A20 := X19.at
    refine Gets.via (fun _ k => (XS.ifNo A20 hx rfl (D d6_73) rfl (Jvm.Free.XT.i0_ge_f b73) k)) ?_
    refine Gets.via (fun _ k => (XS.iconst A20 hx rfl (D d6_76) (XS.goto A20 hx rfl (pc0 := 77) (pc' := 81) rfl (D d6_77) (by decide) (by decide) k))) ?_
    exact X19.retI hret (by decide) (by simp) (D d6_81) (by decide) (by decide) (fun vmE CE => ⟨(1 : Int32), rfl, rfl, (sw_yes (Pr0.2.2.2.2.1 c0 (List.mem_of_getElem? (i := 0) rfl)) b73)⟩)
  · have A21 := X19.at
    refine Gets.via (fun _ k => (XS.ifYes A21 hx rfl (pc0 := 73) (pc' := 80) rfl (D d6_73) rfl (Jvm.Free.XT.i0_ge_t b73) (by decide) (by decide) k)) ?_
    refine Gets.via (fun _ k => (XS.iconst A21 hx rfl (D d6_80) k)) ?_
    exact X19.retI hret (by decide) (by simp) (D d6_81) (by decide) (by decide) (fun vmE CE => ⟨(0 : Int32), rfl, rfl, (sw_no (Pr0.2.2.2.2.1 c0 (List.mem_of_getElem? (i := 0) rfl)) b73)⟩)
abbrev RrmSw1_1 : Room := { frames := 3, cells := 0, slots := 0, locals := 46 }
def QrmSw1_1 (Z : State) (x : Addr) (s1 : Addr) (b : Addr) (kb : ClassId) (d : Addr) (kd : ClassId) (c0 : Int32) (h0 : Heap) (v : Option Value) (vm : Vm) (h : Heap) : Prop := ∃ (r : Int32), v = some (.int r) ∧ h = h0 ∧ r = if c0 = (37 : Int32) then 1 else 0
theorem rmSw1_1 (hcx : Cx Z a0 zc fm) (x : Addr) (s1 : Addr) (b : Addr) (kb : ClassId) (d : Addr) (kd : ClassId) (c0 : Int32) (h0 : Heap) (O0 : Old Z Z.heap.size h0) (Pr0 : Str Z h0 x b kb [c0]) (Pr1 : Str Z h0 s1 d kd [(37 : Int32)]) : Met l Z consts_1 (⟨"java/lang/String", "startsWith", "(Ljava/lang/String;)Z"⟩ : MethodName) jdk_42_method_76_code 2 (some .boolean) [] RrmSw1_1 [] #[(.ref x), (.ref s1)] h0 (QrmSw1_1 Z x s1 b kb d kd c0 h0) := by
  have ⟨hw, hEL, O2, P5, O4, P6⟩ := hcx
  refine Met.start (a0 := a0) (Ls := #[vR x, vR s1]) pn5 hEL O0 (fun m => by first | (simp [entryFrame, mkF, argsToLocals, Value.category]; done) | rfl) ?_
  intro p e s m below meth cc T0 vm0 X0 sf0_ D hml hret hnm hx zz A0
  have l1 := ltA Pr0.lt
  have l2 := ltA Pr0.lb
  have l3 := ltA Pr1.lt
  have l4 := ltA Pr1.lb
  refine Gets.via (fun _ k => (XS.aloadN A0 hx rfl (D d5_0) rfl rfl (XS.aloadN A0 hx rfl (D d5_1) rfl rfl (XS.iconst A0 hx rfl (D d5_2) k)))) ?_
  refine X0.callV (W := 0) (w36 hw) (w37 hw) (w39 hw) (w38 hw) (nfs rfl (w39 hw)) (by decide) (X0.payM (sf := []) (rmSw2_1 hcx x s1 b kb d kd c0 h0 X0.old Pr0 Pr1) sf0 (w40 hw) (w6 hw)) Pr0.1 rfl (sz hml rfl) (argsL := [(.ref s1), (.int (0 : Int32))]) (rest := []) (lenOf pd20 rfl) rfl rfl (mroom rfl rfl) (D d5_3) (by decide) (by decide) fun T5 h5 vm5 v5 X5 C5 z5 q5 => ?_
  obtain ⟨r5, rfl, K5, rfl⟩ := q5
  rw [K5] at X5 C5
  exact X5.retI hret (by split <;> rfl) (by simp) (D d5_6) (by decide) (by decide) (fun vmE CE => ⟨(if c0 = (37 : Int32) then 1 else 0), rfl, rfl, rfl⟩)
abbrev RrmMis2 : Room := { frames := 0, cells := 0, slots := 0, locals := 0 }
def QrmMis2 (Z : State) (b : Addr) (d : Addr) (kb : ClassId) (kd : ClassId) (y0 : Int32) (y1 : Int32) (h0 : Heap) (v : Option Value) (vm : Vm) (h : Heap) : Prop := ∃ (r : Int32), v = some (.int r) ∧ h = h0 ∧ r = if y0 = (37 : Int32) then (-1) else 0
theorem rmMis2 (hcx : Cx Z a0 zc fm) (b : Addr) (d : Addr) (kb : ClassId) (kd : ClassId) (y0 : Int32) (y1 : Int32) (h0 : Heap) (O0 : Old Z Z.heap.size h0) (Pr0 : Arv Z h0 b kb .byte (2 : Int32) [(.int y0), (.int y1)] (.int (0 : Int32))) (Pr1 : Arv Z h0 d kd .byte (1 : Int32) [(.int (37 : Int32))] (.int (0 : Int32))) : Met l Z consts_1 (⟨"jdk/internal/util/ArraysSupport", "mismatch", "([BI[BII)I"⟩ : MethodName) jdk_48_method_14_code 8 (some .int) [] RrmMis2 [] #[(.ref b), (.int (0 : Int32)), (.ref d), (.int (0 : Int32)), (.int (1 : Int32))] h0 (QrmMis2 Z b d kb kd y0 y1 h0) := by
  have ⟨hw, hEL, O2, P5, O4, P6⟩ := hcx
  refine Met.start (a0 := a0) (Ls := #[vR b, vI (0 : Int32), vR d, vI (0 : Int32), vI (1 : Int32), .unset, .unset, .unset]) pn36 hEL O0 (fun m => by first | (simp [entryFrame, mkF, argsToLocals, Value.category]; done) | rfl) ?_
  intro p e s m below meth cc T0 vm0 X0 sf0_ D hml hret hnm hx zz A0
  have l1 := ltA Pr0.lt
  have l2 := ltA Pr1.lt
  refine Gets.via (fun _ k => (XS.iconst A0 hx rfl (D d36_0) (XS.istore A0 hx rfl (D d36_1) rfl (l' := #[vR b, vI (0 : Int32), vR d, vI (0 : Int32), vI (1 : Int32), vI (0 : Int32), .unset, .unset]) rfl (XS.iload A0 hx rfl (D d36_3) rfl (XS.bipush A0 hx rfl (D d36_5) (XS.icmpYes A0 hx rfl (pc0 := 7) (pc' := 70) rfl (D d36_7) rfl (Jvm.Free.XT.ii_le_t (by decide)) (by decide) (by decide) k)))))) ?_
  refine Gets.via (fun _ k => (XS.iload A0 hx rfl (D d36_70) rfl (XS.iload A0 hx rfl (D d36_72) rfl (XS.icmpNo A0 hx rfl (D d36_74) rfl (Jvm.Free.XT.ii_ge_f (by decide)) k)))) ?_
  refine Gets.via (fun _ k => (XS.aloadN A0 hx rfl (D d36_77) rfl rfl (XS.iloadN A0 hx rfl (D d36_78) rfl (XS.iload A0 hx rfl (D d36_79) rfl (iaddV A0 hx rfl (D d36_81) rfl (v := (0 : Int32)) (by decide) k))))) ?_
  show Gets p e below _ (T0.setTop (mkF m 82 #[vR b, vI (0 : Int32), vR d, vI (0 : Int32), vI (1 : Int32), vI (0 : Int32), .unset, .unset] [(.int (0 : Int32)), (.ref b)]))
  refine X0.ldB Pr0 (j := (0 : Int32)) (i := 0) (by decide) (by decide) (by decide) (v := (.int y0)) rfl rfl rfl (D d36_82) ?_
  refine Gets.via (fun _ k => (XS.aloadN A0 hx rfl (D d36_83) rfl rfl (XS.iloadN A0 hx rfl (D d36_84) rfl (XS.iload A0 hx rfl (D d36_85) rfl (iaddV A0 hx rfl (D d36_87) rfl (v := (0 : Int32)) (by decide) k))))) ?_
  refine X0.ldB Pr1 (j := (0 : Int32)) (i := 0) (by decide) (by decide) (by decide) (v := (.int (37 : Int32))) rfl rfl rfl (D d36_88) ?_
  by_cases b89 : y0 = (37 : Int32)
  · refine Gets.via (fun _ k => (XS.icmpYes A0 hx rfl (pc0 := 89) (pc' := 95) rfl (D d36_89) rfl (Jvm.Free.XT.ii_eq_t b89) (by decide) (by decide) k)) ?_
    refine Gets.via (fun _ k => (iincV A0 hx rfl (D d36_95) rfl (v := (1 : Int32)) (by decide) (l' := #[vR b, vI (0 : Int32), vR d, vI (0 : Int32), vI (1 : Int32), vI (1 : Int32), .unset, .unset]) rfl (XS.goto A0 hx rfl (pc0 := 98) (pc' := 70) rfl (D d36_98) (by decide) (by decide) k))) ?_
    show Gets p e below _ (T0.setTop (mkF m 70 #[vR b, vI (0 : Int32), vR d, vI (0 : Int32), vI (1 : Int32), vI (1 : Int32), .unset, .unset] []))
    refine Gets.via (fun _ k => (XS.iload A0 hx rfl (D d36_70) rfl (XS.iload A0 hx rfl (D d36_72) rfl (XS.icmpYes A0 hx rfl (pc0 := 74) (pc' := 101) rfl (D d36_74) rfl (Jvm.Free.XT.ii_ge_t (by decide)) (by decide) (by decide) k)))) ?_
    refine Gets.via (fun _ k => (XS.iconst A0 hx rfl (D d36_101) k)) ?_
    exact X0.retI hret rfl (by simp) (D d36_102) (by decide) (by decide) (fun vmE CE => ⟨(-1 : Int32), rfl, rfl, (if_pos b89).symm⟩)
  · refine Gets.via (fun _ k => (XS.icmpNo A0 hx rfl (D d36_89) rfl (Jvm.Free.XT.ii_eq_f b89) k)) ?_
    refine Gets.via (fun _ k => (XS.iload A0 hx rfl (D d36_92) rfl k)) ?_
    exact X0.retI hret rfl (by simp) (D d36_94) (by decide) (by decide) (fun vmE CE => ⟨(0 : Int32), rfl, rfl, (if_neg b89).symm⟩)
abbrev RrmSw2_2 : Room := { frames := 2, cells := 0, slots := 0, locals := 27 }
def QrmSw2_2 (Z : State) (x : Addr) (s1 : Addr) (b : Addr) (kb : ClassId) (d : Addr) (kd : ClassId) (c0 : Int32) (c1 : Int32) (h0 : Heap) (v : Option Value) (vm : Vm) (h : Heap) : Prop := ∃ (r : Int32), v = some (.int r) ∧ h = h0 ∧ r = if c0 = (37 : Int32) then 1 else 0
theorem rmSw2_2 (hcx : Cx Z a0 zc fm) (x : Addr) (s1 : Addr) (b : Addr) (kb : ClassId) (d : Addr) (kd : ClassId) (c0 : Int32) (c1 : Int32) (h0 : Heap) (O0 : Old Z Z.heap.size h0) (Pr0 : Str Z h0 x b kb [c0, c1]) (Pr1 : Str Z h0 s1 d kd [(37 : Int32)]) : Met l Z consts_1 (⟨"java/lang/String", "startsWith", "(Ljava/lang/String;I)Z"⟩ : MethodName) jdk_42_method_75_code 8 (some .boolean) [] RrmSw2_2 [] #[(.ref x), (.ref s1), (.int (0 : Int32))] h0 (QrmSw2_2 Z x s1 b kb d kd c0 c1 h0) := by
  have ⟨hw, hEL, O2, P5, O4, P6⟩ := hcx
  refine Met.start (a0 := a0) (Ls := #[vR x, vR s1, vI (0 : Int32), .unset, .unset, .unset, .unset, .unset]) pn6 hEL O0 (fun m => by first | (simp [entryFrame, mkF, argsToLocals, Value.category]; done) | rfl) ?_
  intro p e s m below meth cc T0 vm0 X0 sf0_ D hml hret hnm hx zz A0
  have l1 := ltA Pr0.lt
  have l2 := ltA Pr0.lb
  have l3 := ltA Pr1.lt
  have l4 := ltA Pr1.lb
  refine Gets.via (fun _ k => (XS.iloadN A0 hx rfl (D d6_0) rfl (XS.ifNo A0 hx rfl (D d6_1) rfl (Jvm.Free.XT.i0_lt_f (by decide)) k))) ?_
  refine Gets.via (fun _ k => (XS.iloadN A0 hx rfl (D d6_4) rfl (XS.aloadN A0 hx rfl (D d6_5) rfl rfl k))) ?_
  refine X0.callV (W := 1) (w41 hw) (w42 hw) (w44 hw) (w43 hw) (nfs rfl (w44 hw)) (by decide) (X0.payM (sf := []) (rmLen0 hcx x b kb [c0, c1] h0 X0.old Pr0) sf0 (w45 hw) (w6 hw)) Pr0.1 rfl (sz hml rfl) (argsL := []) (rest := [(.int (0 : Int32))]) (lenOf pd7 rfl) rfl rfl (mroom rfl rfl) (D d6_6) (by decide) (by decide) fun T5 h5 vm5 v5 X5 C5 z5 q5 => ?_
  obtain ⟨rfl, K5⟩ := q5
  rw [K5] at X5 C5
  show Gets p e below _ (T5.setTop (mkF m 9 #[vR x, vR s1, vI (0 : Int32), .unset, .unset, .unset, .unset, .unset] [(.int (2 : Int32)), (.int (0 : Int32))]))
  have A6 := X5.at
  refine Gets.via (fun _ k => (XS.aloadN A6 hx rfl (D d6_9) rfl rfl k)) ?_
  refine X5.callV (W := 2) (w41 hw) (w42 hw) (w44 hw) (w43 hw) (nfs rfl (w44 hw)) (by decide) (X5.payM (sf := []) (rmLen0 hcx s1 d kd [(37 : Int32)] h0 X5.old Pr1) sf0 (w45 hw) (w6 hw)) Pr1.1 rfl (sz hml rfl) (argsL := []) (rest := [(.int (2 : Int32)), (.int (0 : Int32))]) (lenOf pd7 rfl) rfl rfl (mroom rfl rfl) (D d6_10) (by decide) (by decide) fun T7 h7 vm7 v7 X7 C7 z7 q7 => ?_
  obtain ⟨rfl, K7⟩ := q7
  rw [K7] at X7 C7
  show Gets p e below _ (T7.setTop (mkF m 13 #[vR x, vR s1, vI (0 : Int32), .unset, .unset, .unset, .unset, .unset] [(.int (1 : Int32)), (.int (2 : Int32)), (.int (0 : Int32))]))
  have A8 := X7.at
  refine Gets.via (fun _ k => (isubV A8 hx rfl (D d6_13) rfl (v := (1 : Int32)) (by decide) (XS.icmpYes A8 hx rfl (pc0 := 14) (pc' := 19) rfl (D d6_14) rfl (Jvm.Free.XT.ii_le_t (by decide)) (by decide) (by decide) k))) ?_
  refine Gets.via (fun _ k => (XS.aloadN A8 hx rfl (D d6_19) rfl rfl k)) ?_
  refine X7.getF (host := "") (Or.inl (w24 hw)) Via.refl Pr0.2.2.1 rfl rfl (D d6_20) fun T9 X9 => ?_
  have A10 := X9.at
  refine Gets.via (fun _ k => (XS.astoreN A10 hx rfl (D d6_23) rfl rfl (l' := #[vR x, vR s1, vI (0 : Int32), vR b, .unset, .unset, .unset, .unset]) rfl (XS.aloadN A10 hx rfl (D d6_24) rfl rfl k))) ?_
  refine X9.getF (host := "") (Or.inl (w24 hw)) Via.refl Pr1.2.2.1 rfl rfl (D d6_25) fun T11 X11 => ?_
  have A12 := X11.at
  refine Gets.via (fun _ k => (XS.astore A12 hx rfl (D d6_28) rfl rfl (l' := #[vR x, vR s1, vI (0 : Int32), vR b, vR d, .unset, .unset, .unset]) rfl (XS.iconst A12 hx rfl (D d6_30) (XS.istore A12 hx rfl (D d6_31) rfl (l' := #[vR x, vR s1, vI (0 : Int32), vR b, vR d, vI (0 : Int32), .unset, .unset]) rfl (XS.aload A12 hx rfl (D d6_33) rfl rfl k))))) ?_
  show Gets p e below _ (T11.setTop (mkF m 35 #[vR x, vR s1, vI (0 : Int32), vR b, vR d, vI (0 : Int32), .unset, .unset] [(.ref d)]))
  have f13 : Arv Z h0 d kd .byte (1 : Int32) [(.int (37 : Int32))] (.int (0 : Int32)) := Pr1.2.2.2.1
  refine X11.alen f13 rfl rfl (D d6_35) ?_
  refine Gets.via (fun _ k => (XS.istore A12 hx rfl (D d6_36) rfl (l' := #[vR x, vR s1, vI (0 : Int32), vR b, vR d, vI (0 : Int32), vI (1 : Int32), .unset]) rfl (XS.aloadN A12 hx rfl (D d6_38) rfl rfl k))) ?_
  refine X11.callV (W := 0) (w46 hw) (w47 hw) (w49 hw) (w48 hw) (nfs rfl (w49 hw)) (by decide) (X11.payM (sf := []) (rmCoder0 hcx x h0 X11.old Pr0.1 Pr0.2.1) sf0 (w50 hw) (w6 hw)) Pr0.1 rfl (sz hml rfl) (argsL := []) (rest := []) (lenOf pd1 rfl) rfl rfl (mroom rfl rfl) (D d6_39) (by decide) (by decide) fun T14 h14 vm14 v14 X14 C14 z14 q14 => ?_
  obtain ⟨rfl, K14⟩ := q14
  rw [K14] at X14 C14
  have A15 := X14.at
  refine Gets.via (fun _ k => (XS.istore A15 hx rfl (D d6_42) rfl (l' := #[vR x, vR s1, vI (0 : Int32), vR b, vR d, vI (0 : Int32), vI (1 : Int32), vI (0 : Int32)]) rfl (XS.iload A15 hx rfl (D d6_44) rfl (XS.aloadN A15 hx rfl (D d6_46) rfl rfl k)))) ?_
  refine X14.callV (W := 1) (w46 hw) (w47 hw) (w49 hw) (w48 hw) (nfs rfl (w49 hw)) (by decide) (X14.payM (sf := []) (rmCoder0 hcx s1 h0 X14.old Pr1.1 Pr1.2.1) sf0 (w50 hw) (w6 hw)) Pr1.1 rfl (sz hml rfl) (argsL := []) (rest := [(.int (0 : Int32))]) (lenOf pd1 rfl) rfl rfl (mroom rfl rfl) (D d6_47) (by decide) (by decide) fun T16 h16 vm16 v16 X16 C16 z16 q16 => ?_
  obtain ⟨rfl, K16⟩ := q16
  rw [K16] at X16 C16
  show Gets p e below _ (T16.setTop (mkF m 50 #[vR x, vR s1, vI (0 : Int32), vR b, vR d, vI (0 : Int32), vI (1 : Int32), vI (0 : Int32)] [(.int (0 : Int32)), (.int (0 : Int32))]))
  have A17 := X16.at
  refine Gets.via (fun _ k => (XS.icmpNo A17 hx rfl (D d6_50) rfl (Jvm.Free.XT.ii_ne_f (by decide)) k)) ?_
  refine Gets.via (fun _ k => (XS.iload A17 hx rfl (D d6_53) rfl (XS.iconst A17 hx rfl (D d6_55) (XS.icmpYes A17 hx rfl (pc0 := 56) (pc' := 63) rfl (D d6_56) rfl (Jvm.Free.XT.ii_ne_t (by decide)) (by decide) (by decide) k)))) ?_
  refine Gets.via (fun _ k => (XS.aloadN A17 hx rfl (D d6_63) rfl rfl (XS.iloadN A17 hx rfl (D d6_64) rfl (XS.aload A17 hx rfl (D d6_65) rfl rfl (XS.iconst A17 hx rfl (D d6_67) (XS.iload A17 hx rfl (D d6_68) rfl k)))))) ?_
  have f18 : Arv Z h0 b kb .byte (2 : Int32) [(.int (c0.toInt8.toInt32)), (.int (c1.toInt8.toInt32))] (.int (0 : Int32)) := Pr0.2.2.2.1
  refine X16.callS (W := 0) (w187 hw) (w188 hw) (w189 hw) (w190 hw) (by decide) (X16.payM (sf := []) (rmMis2 hcx b d kb kd (c0.toInt8.toInt32) (c1.toInt8.toInt32) h0 X16.old f18 f13) sf0 (w190 hw) (w189 hw)) rfl (sz hml rfl) (argsL := [(.ref b), (.int (0 : Int32)), (.ref d), (.int (0 : Int32)), (.int (1 : Int32))]) (rest := []) (lenOf pd21 rfl) rfl rfl (mroom rfl rfl) (D d6_70) (by decide) (by decide) fun T19 h19 vm19 v19 X19 C19 z19 q19 => ?_
  obtain ⟨r19, rfl, K19, rfl⟩ := q19
  rw [K19] at X19 C19
  show Gets p e below _ (T19.setTop (mkF m 73 #[vR x, vR s1, vI (0 : Int32), vR b, vR d, vI (0 : Int32), vI (1 : Int32), vI (0 : Int32)] [(.int (if (c0.toInt8.toInt32) = (37 : Int32) then (-1) else 0))]))
  by_cases b73 : (if (c0.toInt8.toInt32) = (37 : Int32) then (-1) else 0) < (0 : Int32)
  · have A20 := X19.at
    refine Gets.via (fun _ k => (XS.ifNo A20 hx rfl (D d6_73) rfl (Jvm.Free.XT.i0_ge_f b73) k)) ?_
    refine Gets.via (fun _ k => (XS.iconst A20 hx rfl (D d6_76) (XS.goto A20 hx rfl (pc0 := 77) (pc' := 81) rfl (D d6_77) (by decide) (by decide) k))) ?_
    exact X19.retI hret (by decide) (by simp) (D d6_81) (by decide) (by decide) (fun vmE CE => ⟨(1 : Int32), rfl, rfl, (sw_yes (Pr0.2.2.2.2.1 c0 (List.mem_of_getElem? (i := 0) rfl)) b73)⟩)
  · have A21 := X19.at
    refine Gets.via (fun _ k => (XS.ifYes A21 hx rfl (pc0 := 73) (pc' := 80) rfl (D d6_73) rfl (Jvm.Free.XT.i0_ge_t b73) (by decide) (by decide) k)) ?_
    refine Gets.via (fun _ k => (XS.iconst A21 hx rfl (D d6_80) k)) ?_
    exact X19.retI hret (by decide) (by simp) (D d6_81) (by decide) (by decide) (fun vmE CE => ⟨(0 : Int32), rfl, rfl, (sw_no (Pr0.2.2.2.2.1 c0 (List.mem_of_getElem? (i := 0) rfl)) b73)⟩)
abbrev RrmSw1_2 : Room := { frames := 3, cells := 0, slots := 0, locals := 46 }
def QrmSw1_2 (Z : State) (x : Addr) (s1 : Addr) (b : Addr) (kb : ClassId) (d : Addr) (kd : ClassId) (c0 : Int32) (c1 : Int32) (h0 : Heap) (v : Option Value) (vm : Vm) (h : Heap) : Prop := ∃ (r : Int32), v = some (.int r) ∧ h = h0 ∧ r = if c0 = (37 : Int32) then 1 else 0
theorem rmSw1_2 (hcx : Cx Z a0 zc fm) (x : Addr) (s1 : Addr) (b : Addr) (kb : ClassId) (d : Addr) (kd : ClassId) (c0 : Int32) (c1 : Int32) (h0 : Heap) (O0 : Old Z Z.heap.size h0) (Pr0 : Str Z h0 x b kb [c0, c1]) (Pr1 : Str Z h0 s1 d kd [(37 : Int32)]) : Met l Z consts_1 (⟨"java/lang/String", "startsWith", "(Ljava/lang/String;)Z"⟩ : MethodName) jdk_42_method_76_code 2 (some .boolean) [] RrmSw1_2 [] #[(.ref x), (.ref s1)] h0 (QrmSw1_2 Z x s1 b kb d kd c0 c1 h0) := by
  have ⟨hw, hEL, O2, P5, O4, P6⟩ := hcx
  refine Met.start (a0 := a0) (Ls := #[vR x, vR s1]) pn5 hEL O0 (fun m => by first | (simp [entryFrame, mkF, argsToLocals, Value.category]; done) | rfl) ?_
  intro p e s m below meth cc T0 vm0 X0 sf0_ D hml hret hnm hx zz A0
  have l1 := ltA Pr0.lt
  have l2 := ltA Pr0.lb
  have l3 := ltA Pr1.lt
  have l4 := ltA Pr1.lb
  refine Gets.via (fun _ k => (XS.aloadN A0 hx rfl (D d5_0) rfl rfl (XS.aloadN A0 hx rfl (D d5_1) rfl rfl (XS.iconst A0 hx rfl (D d5_2) k)))) ?_
  refine X0.callV (W := 0) (w36 hw) (w37 hw) (w39 hw) (w38 hw) (nfs rfl (w39 hw)) (by decide) (X0.payM (sf := []) (rmSw2_2 hcx x s1 b kb d kd c0 c1 h0 X0.old Pr0 Pr1) sf0 (w40 hw) (w6 hw)) Pr0.1 rfl (sz hml rfl) (argsL := [(.ref s1), (.int (0 : Int32))]) (rest := []) (lenOf pd20 rfl) rfl rfl (mroom rfl rfl) (D d5_3) (by decide) (by decide) fun T5 h5 vm5 v5 X5 C5 z5 q5 => ?_
  obtain ⟨r5, rfl, K5, rfl⟩ := q5
  rw [K5] at X5 C5
  exact X5.retI hret (by split <;> rfl) (by simp) (D d5_6) (by decide) (by decide) (fun vmE CE => ⟨(if c0 = (37 : Int32) then 1 else 0), rfl, rfl, rfl⟩)
abbrev RrmMis3 : Room := { frames := 0, cells := 0, slots := 0, locals := 0 }
def QrmMis3 (Z : State) (b : Addr) (d : Addr) (kb : ClassId) (kd : ClassId) (y0 : Int32) (y1 : Int32) (y2 : Int32) (h0 : Heap) (v : Option Value) (vm : Vm) (h : Heap) : Prop := ∃ (r : Int32), v = some (.int r) ∧ h = h0 ∧ r = if y0 = (37 : Int32) then (-1) else 0
theorem rmMis3 (hcx : Cx Z a0 zc fm) (b : Addr) (d : Addr) (kb : ClassId) (kd : ClassId) (y0 : Int32) (y1 : Int32) (y2 : Int32) (h0 : Heap) (O0 : Old Z Z.heap.size h0) (Pr0 : Arv Z h0 b kb .byte (3 : Int32) [(.int y0), (.int y1), (.int y2)] (.int (0 : Int32))) (Pr1 : Arv Z h0 d kd .byte (1 : Int32) [(.int (37 : Int32))] (.int (0 : Int32))) : Met l Z consts_1 (⟨"jdk/internal/util/ArraysSupport", "mismatch", "([BI[BII)I"⟩ : MethodName) jdk_48_method_14_code 8 (some .int) [] RrmMis3 [] #[(.ref b), (.int (0 : Int32)), (.ref d), (.int (0 : Int32)), (.int (1 : Int32))] h0 (QrmMis3 Z b d kb kd y0 y1 y2 h0) := by
  have ⟨hw, hEL, O2, P5, O4, P6⟩ := hcx
  refine Met.start (a0 := a0) (Ls := #[vR b, vI (0 : Int32), vR d, vI (0 : Int32), vI (1 : Int32), .unset, .unset, .unset]) pn36 hEL O0 (fun m => by first | (simp [entryFrame, mkF, argsToLocals, Value.category]; done) | rfl) ?_
  intro p e s m below meth cc T0 vm0 X0 sf0_ D hml hret hnm hx zz A0
  have l1 := ltA Pr0.lt
  have l2 := ltA Pr1.lt
  refine Gets.via (fun _ k => (XS.iconst A0 hx rfl (D d36_0) (XS.istore A0 hx rfl (D d36_1) rfl (l' := #[vR b, vI (0 : Int32), vR d, vI (0 : Int32), vI (1 : Int32), vI (0 : Int32), .unset, .unset]) rfl (XS.iload A0 hx rfl (D d36_3) rfl (XS.bipush A0 hx rfl (D d36_5) (XS.icmpYes A0 hx rfl (pc0 := 7) (pc' := 70) rfl (D d36_7) rfl (Jvm.Free.XT.ii_le_t (by decide)) (by decide) (by decide) k)))))) ?_
  refine Gets.via (fun _ k => (XS.iload A0 hx rfl (D d36_70) rfl (XS.iload A0 hx rfl (D d36_72) rfl (XS.icmpNo A0 hx rfl (D d36_74) rfl (Jvm.Free.XT.ii_ge_f (by decide)) k)))) ?_
  refine Gets.via (fun _ k => (XS.aloadN A0 hx rfl (D d36_77) rfl rfl (XS.iloadN A0 hx rfl (D d36_78) rfl (XS.iload A0 hx rfl (D d36_79) rfl (iaddV A0 hx rfl (D d36_81) rfl (v := (0 : Int32)) (by decide) k))))) ?_
  show Gets p e below _ (T0.setTop (mkF m 82 #[vR b, vI (0 : Int32), vR d, vI (0 : Int32), vI (1 : Int32), vI (0 : Int32), .unset, .unset] [(.int (0 : Int32)), (.ref b)]))
  refine X0.ldB Pr0 (j := (0 : Int32)) (i := 0) (by decide) (by decide) (by decide) (v := (.int y0)) rfl rfl rfl (D d36_82) ?_
  refine Gets.via (fun _ k => (XS.aloadN A0 hx rfl (D d36_83) rfl rfl (XS.iloadN A0 hx rfl (D d36_84) rfl (XS.iload A0 hx rfl (D d36_85) rfl (iaddV A0 hx rfl (D d36_87) rfl (v := (0 : Int32)) (by decide) k))))) ?_
  refine X0.ldB Pr1 (j := (0 : Int32)) (i := 0) (by decide) (by decide) (by decide) (v := (.int (37 : Int32))) rfl rfl rfl (D d36_88) ?_
  by_cases b89 : y0 = (37 : Int32)
  · refine Gets.via (fun _ k => (XS.icmpYes A0 hx rfl (pc0 := 89) (pc' := 95) rfl (D d36_89) rfl (Jvm.Free.XT.ii_eq_t b89) (by decide) (by decide) k)) ?_
    refine Gets.via (fun _ k => (iincV A0 hx rfl (D d36_95) rfl (v := (1 : Int32)) (by decide) (l' := #[vR b, vI (0 : Int32), vR d, vI (0 : Int32), vI (1 : Int32), vI (1 : Int32), .unset, .unset]) rfl (XS.goto A0 hx rfl (pc0 := 98) (pc' := 70) rfl (D d36_98) (by decide) (by decide) k))) ?_
    show Gets p e below _ (T0.setTop (mkF m 70 #[vR b, vI (0 : Int32), vR d, vI (0 : Int32), vI (1 : Int32), vI (1 : Int32), .unset, .unset] []))
    refine Gets.via (fun _ k => (XS.iload A0 hx rfl (D d36_70) rfl (XS.iload A0 hx rfl (D d36_72) rfl (XS.icmpYes A0 hx rfl (pc0 := 74) (pc' := 101) rfl (D d36_74) rfl (Jvm.Free.XT.ii_ge_t (by decide)) (by decide) (by decide) k)))) ?_
    refine Gets.via (fun _ k => (XS.iconst A0 hx rfl (D d36_101) k)) ?_
    exact X0.retI hret rfl (by simp) (D d36_102) (by decide) (by decide) (fun vmE CE => ⟨(-1 : Int32), rfl, rfl, (if_pos b89).symm⟩)
  · refine Gets.via (fun _ k => (XS.icmpNo A0 hx rfl (D d36_89) rfl (Jvm.Free.XT.ii_eq_f b89) k)) ?_
    refine Gets.via (fun _ k => (XS.iload A0 hx rfl (D d36_92) rfl k)) ?_
    exact X0.retI hret rfl (by simp) (D d36_94) (by decide) (by decide) (fun vmE CE => ⟨(0 : Int32), rfl, rfl, (if_neg b89).symm⟩)
abbrev RrmSw2_3 : Room := { frames := 2, cells := 0, slots := 0, locals := 27 }
def QrmSw2_3 (Z : State) (x : Addr) (s1 : Addr) (b : Addr) (kb : ClassId) (d : Addr) (kd : ClassId) (c0 : Int32) (c1 : Int32) (c2 : Int32) (h0 : Heap) (v : Option Value) (vm : Vm) (h : Heap) : Prop := ∃ (r : Int32), v = some (.int r) ∧ h = h0 ∧ r = if c0 = (37 : Int32) then 1 else 0
theorem rmSw2_3 (hcx : Cx Z a0 zc fm) (x : Addr) (s1 : Addr) (b : Addr) (kb : ClassId) (d : Addr) (kd : ClassId) (c0 : Int32) (c1 : Int32) (c2 : Int32) (h0 : Heap) (O0 : Old Z Z.heap.size h0) (Pr0 : Str Z h0 x b kb [c0, c1, c2]) (Pr1 : Str Z h0 s1 d kd [(37 : Int32)]) : Met l Z consts_1 (⟨"java/lang/String", "startsWith", "(Ljava/lang/String;I)Z"⟩ : MethodName) jdk_42_method_75_code 8 (some .boolean) [] RrmSw2_3 [] #[(.ref x), (.ref s1), (.int (0 : Int32))] h0 (QrmSw2_3 Z x s1 b kb d kd c0 c1 c2 h0) := by
  have ⟨hw, hEL, O2, P5, O4, P6⟩ := hcx
  refine Met.start (a0 := a0) (Ls := #[vR x, vR s1, vI (0 : Int32), .unset, .unset, .unset, .unset, .unset]) pn6 hEL O0 (fun m => by first | (simp [entryFrame, mkF, argsToLocals, Value.category]; done) | rfl) ?_
  intro p e s m below meth cc T0 vm0 X0 sf0_ D hml hret hnm hx zz A0
  have l1 := ltA Pr0.lt
  have l2 := ltA Pr0.lb
  have l3 := ltA Pr1.lt
  have l4 := ltA Pr1.lb
  refine Gets.via (fun _ k => (XS.iloadN A0 hx rfl (D d6_0) rfl (XS.ifNo A0 hx rfl (D d6_1) rfl (Jvm.Free.XT.i0_lt_f (by decide)) k))) ?_
  refine Gets.via (fun _ k => (XS.iloadN A0 hx rfl (D d6_4) rfl (XS.aloadN A0 hx rfl (D d6_5) rfl rfl k))) ?_
  refine X0.callV (W := 1) (w41 hw) (w42 hw) (w44 hw) (w43 hw) (nfs rfl (w44 hw)) (by decide) (X0.payM (sf := []) (rmLen0 hcx x b kb [c0, c1, c2] h0 X0.old Pr0) sf0 (w45 hw) (w6 hw)) Pr0.1 rfl (sz hml rfl) (argsL := []) (rest := [(.int (0 : Int32))]) (lenOf pd7 rfl) rfl rfl (mroom rfl rfl) (D d6_6) (by decide) (by decide) fun T5 h5 vm5 v5 X5 C5 z5 q5 => ?_
  obtain ⟨rfl, K5⟩ := q5
  rw [K5] at X5 C5
  show Gets p e below _ (T5.setTop (mkF m 9 #[vR x, vR s1, vI (0 : Int32), .unset, .unset, .unset, .unset, .unset] [(.int (3 : Int32)), (.int (0 : Int32))]))
  have A6 := X5.at
  refine Gets.via (fun _ k => (XS.aloadN A6 hx rfl (D d6_9) rfl rfl k)) ?_
  refine X5.callV (W := 2) (w41 hw) (w42 hw) (w44 hw) (w43 hw) (nfs rfl (w44 hw)) (by decide) (X5.payM (sf := []) (rmLen0 hcx s1 d kd [(37 : Int32)] h0 X5.old Pr1) sf0 (w45 hw) (w6 hw)) Pr1.1 rfl (sz hml rfl) (argsL := []) (rest := [(.int (3 : Int32)), (.int (0 : Int32))]) (lenOf pd7 rfl) rfl rfl (mroom rfl rfl) (D d6_10) (by decide) (by decide) fun T7 h7 vm7 v7 X7 C7 z7 q7 => ?_
  obtain ⟨rfl, K7⟩ := q7
  rw [K7] at X7 C7
  show Gets p e below _ (T7.setTop (mkF m 13 #[vR x, vR s1, vI (0 : Int32), .unset, .unset, .unset, .unset, .unset] [(.int (1 : Int32)), (.int (3 : Int32)), (.int (0 : Int32))]))
  have A8 := X7.at
  refine Gets.via (fun _ k => (isubV A8 hx rfl (D d6_13) rfl (v := (2 : Int32)) (by decide) (XS.icmpYes A8 hx rfl (pc0 := 14) (pc' := 19) rfl (D d6_14) rfl (Jvm.Free.XT.ii_le_t (by decide)) (by decide) (by decide) k))) ?_
  refine Gets.via (fun _ k => (XS.aloadN A8 hx rfl (D d6_19) rfl rfl k)) ?_
  refine X7.getF (host := "") (Or.inl (w24 hw)) Via.refl Pr0.2.2.1 rfl rfl (D d6_20) fun T9 X9 => ?_
  have A10 := X9.at
  refine Gets.via (fun _ k => (XS.astoreN A10 hx rfl (D d6_23) rfl rfl (l' := #[vR x, vR s1, vI (0 : Int32), vR b, .unset, .unset, .unset, .unset]) rfl (XS.aloadN A10 hx rfl (D d6_24) rfl rfl k))) ?_
  refine X9.getF (host := "") (Or.inl (w24 hw)) Via.refl Pr1.2.2.1 rfl rfl (D d6_25) fun T11 X11 => ?_
  have A12 := X11.at
  refine Gets.via (fun _ k => (XS.astore A12 hx rfl (D d6_28) rfl rfl (l' := #[vR x, vR s1, vI (0 : Int32), vR b, vR d, .unset, .unset, .unset]) rfl (XS.iconst A12 hx rfl (D d6_30) (XS.istore A12 hx rfl (D d6_31) rfl (l' := #[vR x, vR s1, vI (0 : Int32), vR b, vR d, vI (0 : Int32), .unset, .unset]) rfl (XS.aload A12 hx rfl (D d6_33) rfl rfl k))))) ?_
  show Gets p e below _ (T11.setTop (mkF m 35 #[vR x, vR s1, vI (0 : Int32), vR b, vR d, vI (0 : Int32), .unset, .unset] [(.ref d)]))
  have f13 : Arv Z h0 d kd .byte (1 : Int32) [(.int (37 : Int32))] (.int (0 : Int32)) := Pr1.2.2.2.1
  refine X11.alen f13 rfl rfl (D d6_35) ?_
  refine Gets.via (fun _ k => (XS.istore A12 hx rfl (D d6_36) rfl (l' := #[vR x, vR s1, vI (0 : Int32), vR b, vR d, vI (0 : Int32), vI (1 : Int32), .unset]) rfl (XS.aloadN A12 hx rfl (D d6_38) rfl rfl k))) ?_
  refine X11.callV (W := 0) (w46 hw) (w47 hw) (w49 hw) (w48 hw) (nfs rfl (w49 hw)) (by decide) (X11.payM (sf := []) (rmCoder0 hcx x h0 X11.old Pr0.1 Pr0.2.1) sf0 (w50 hw) (w6 hw)) Pr0.1 rfl (sz hml rfl) (argsL := []) (rest := []) (lenOf pd1 rfl) rfl rfl (mroom rfl rfl) (D d6_39) (by decide) (by decide) fun T14 h14 vm14 v14 X14 C14 z14 q14 => ?_
  obtain ⟨rfl, K14⟩ := q14
  rw [K14] at X14 C14
  have A15 := X14.at
  refine Gets.via (fun _ k => (XS.istore A15 hx rfl (D d6_42) rfl (l' := #[vR x, vR s1, vI (0 : Int32), vR b, vR d, vI (0 : Int32), vI (1 : Int32), vI (0 : Int32)]) rfl (XS.iload A15 hx rfl (D d6_44) rfl (XS.aloadN A15 hx rfl (D d6_46) rfl rfl k)))) ?_
  refine X14.callV (W := 1) (w46 hw) (w47 hw) (w49 hw) (w48 hw) (nfs rfl (w49 hw)) (by decide) (X14.payM (sf := []) (rmCoder0 hcx s1 h0 X14.old Pr1.1 Pr1.2.1) sf0 (w50 hw) (w6 hw)) Pr1.1 rfl (sz hml rfl) (argsL := []) (rest := [(.int (0 : Int32))]) (lenOf pd1 rfl) rfl rfl (mroom rfl rfl) (D d6_47) (by decide) (by decide) fun T16 h16 vm16 v16 X16 C16 z16 q16 => ?_
  obtain ⟨rfl, K16⟩ := q16
  rw [K16] at X16 C16
  show Gets p e below _ (T16.setTop (mkF m 50 #[vR x, vR s1, vI (0 : Int32), vR b, vR d, vI (0 : Int32), vI (1 : Int32), vI (0 : Int32)] [(.int (0 : Int32)), (.int (0 : Int32))]))
  have A17 := X16.at
  refine Gets.via (fun _ k => (XS.icmpNo A17 hx rfl (D d6_50) rfl (Jvm.Free.XT.ii_ne_f (by decide)) k)) ?_
  refine Gets.via (fun _ k => (XS.iload A17 hx rfl (D d6_53) rfl (XS.iconst A17 hx rfl (D d6_55) (XS.icmpYes A17 hx rfl (pc0 := 56) (pc' := 63) rfl (D d6_56) rfl (Jvm.Free.XT.ii_ne_t (by decide)) (by decide) (by decide) k)))) ?_
  refine Gets.via (fun _ k => (XS.aloadN A17 hx rfl (D d6_63) rfl rfl (XS.iloadN A17 hx rfl (D d6_64) rfl (XS.aload A17 hx rfl (D d6_65) rfl rfl (XS.iconst A17 hx rfl (D d6_67) (XS.iload A17 hx rfl (D d6_68) rfl k)))))) ?_
  have f18 : Arv Z h0 b kb .byte (3 : Int32) [(.int (c0.toInt8.toInt32)), (.int (c1.toInt8.toInt32)), (.int (c2.toInt8.toInt32))] (.int (0 : Int32)) := Pr0.2.2.2.1
  refine X16.callS (W := 0) (w187 hw) (w188 hw) (w189 hw) (w190 hw) (by decide) (X16.payM (sf := []) (rmMis3 hcx b d kb kd (c0.toInt8.toInt32) (c1.toInt8.toInt32) (c2.toInt8.toInt32) h0 X16.old f18 f13) sf0 (w190 hw) (w189 hw)) rfl (sz hml rfl) (argsL := [(.ref b), (.int (0 : Int32)), (.ref d), (.int (0 : Int32)), (.int (1 : Int32))]) (rest := []) (lenOf pd21 rfl) rfl rfl (mroom rfl rfl) (D d6_70) (by decide) (by decide) fun T19 h19 vm19 v19 X19 C19 z19 q19 => ?_
  obtain ⟨r19, rfl, K19, rfl⟩ := q19
  rw [K19] at X19 C19
  show Gets p e below _ (T19.setTop (mkF m 73 #[vR x, vR s1, vI (0 : Int32), vR b, vR d, vI (0 : Int32), vI (1 : Int32), vI (0 : Int32)] [(.int (if (c0.toInt8.toInt32) = (37 : Int32) then (-1) else 0))]))
  by_cases b73 : (if (c0.toInt8.toInt32) = (37 : Int32) then (-1) else 0) < (0 : Int32)
  · have A20 := X19.at
    refine Gets.via (fun _ k => (XS.ifNo A20 hx rfl (D d6_73) rfl (Jvm.Free.XT.i0_ge_f b73) k)) ?_
    refine Gets.via (fun _ k => (XS.iconst A20 hx rfl (D d6_76) (XS.goto A20 hx rfl (pc0 := 77) (pc' := 81) rfl (D d6_77) (by decide) (by decide) k))) ?_
    exact X19.retI hret (by decide) (by simp) (D d6_81) (by decide) (by decide) (fun vmE CE => ⟨(1 : Int32), rfl, rfl, (sw_yes (Pr0.2.2.2.2.1 c0 (List.mem_of_getElem? (i := 0) rfl)) b73)⟩)
  · have A21 := X19.at
    refine Gets.via (fun _ k => (XS.ifYes A21 hx rfl (pc0 := 73) (pc' := 80) rfl (D d6_73) rfl (Jvm.Free.XT.i0_ge_t b73) (by decide) (by decide) k)) ?_
    refine Gets.via (fun _ k => (XS.iconst A21 hx rfl (D d6_80) k)) ?_
    exact X19.retI hret (by decide) (by simp) (D d6_81) (by decide) (by decide) (fun vmE CE => ⟨(0 : Int32), rfl, rfl, (sw_no (Pr0.2.2.2.2.1 c0 (List.mem_of_getElem? (i := 0) rfl)) b73)⟩)
abbrev RrmSw1_3 : Room := { frames := 3, cells := 0, slots := 0, locals := 46 }
def QrmSw1_3 (Z : State) (x : Addr) (s1 : Addr) (b : Addr) (kb : ClassId) (d : Addr) (kd : ClassId) (c0 : Int32) (c1 : Int32) (c2 : Int32) (h0 : Heap) (v : Option Value) (vm : Vm) (h : Heap) : Prop := ∃ (r : Int32), v = some (.int r) ∧ h = h0 ∧ r = if c0 = (37 : Int32) then 1 else 0
theorem rmSw1_3 (hcx : Cx Z a0 zc fm) (x : Addr) (s1 : Addr) (b : Addr) (kb : ClassId) (d : Addr) (kd : ClassId) (c0 : Int32) (c1 : Int32) (c2 : Int32) (h0 : Heap) (O0 : Old Z Z.heap.size h0) (Pr0 : Str Z h0 x b kb [c0, c1, c2]) (Pr1 : Str Z h0 s1 d kd [(37 : Int32)]) : Met l Z consts_1 (⟨"java/lang/String", "startsWith", "(Ljava/lang/String;)Z"⟩ : MethodName) jdk_42_method_76_code 2 (some .boolean) [] RrmSw1_3 [] #[(.ref x), (.ref s1)] h0 (QrmSw1_3 Z x s1 b kb d kd c0 c1 c2 h0) := by
  have ⟨hw, hEL, O2, P5, O4, P6⟩ := hcx
  refine Met.start (a0 := a0) (Ls := #[vR x, vR s1]) pn5 hEL O0 (fun m => by first | (simp [entryFrame, mkF, argsToLocals, Value.category]; done) | rfl) ?_
  intro p e s m below meth cc T0 vm0 X0 sf0_ D hml hret hnm hx zz A0
  have l1 := ltA Pr0.lt
  have l2 := ltA Pr0.lb
  have l3 := ltA Pr1.lt
  have l4 := ltA Pr1.lb
  refine Gets.via (fun _ k => (XS.aloadN A0 hx rfl (D d5_0) rfl rfl (XS.aloadN A0 hx rfl (D d5_1) rfl rfl (XS.iconst A0 hx rfl (D d5_2) k)))) ?_
  refine X0.callV (W := 0) (w36 hw) (w37 hw) (w39 hw) (w38 hw) (nfs rfl (w39 hw)) (by decide) (X0.payM (sf := []) (rmSw2_3 hcx x s1 b kb d kd c0 c1 c2 h0 X0.old Pr0 Pr1) sf0 (w40 hw) (w6 hw)) Pr0.1 rfl (sz hml rfl) (argsL := [(.ref s1), (.int (0 : Int32))]) (rest := []) (lenOf pd20 rfl) rfl rfl (mroom rfl rfl) (D d5_3) (by decide) (by decide) fun T5 h5 vm5 v5 X5 C5 z5 q5 => ?_
  obtain ⟨r5, rfl, K5, rfl⟩ := q5
  rw [K5] at X5 C5
  exact X5.retI hret (by split <;> rfl) (by simp) (D d5_6) (by decide) (by decide) (fun vmE CE => ⟨(if c0 = (37 : Int32) then 1 else 0), rfl, rfl, rfl⟩)
abbrev RrmSub1_1 : Room := { frames := 5, cells := 2, slots := 20, locals := 84 }
def QrmSub1_1 (Z : State) (x : Addr) (b : Addr) (kb : ClassId) (c0 : Int32) (h0 : Heap) (v : Option Value) (vm : Vm) (h : Heap) : Prop := ∃ (a : Addr) (t : Addr) (kt : ClassId), v = some (.ref a) ∧ Keep h0 h [] ∧ Str Z h a t kt []
theorem rmSub1_1 (hcx : Cx Z a0 zc fm) (x : Addr) (b : Addr) (kb : ClassId) (c0 : Int32) (h0 : Heap) (O0 : Old Z Z.heap.size h0) (Pr0 : Str Z h0 x b kb [c0]) : Met l Z consts_1 (⟨"java/lang/String", "substring", "(I)Ljava/lang/String;"⟩ : MethodName) jdk_42_method_91_code 2 (some (.object "java/lang/String")) [] RrmSub1_1 [] #[(.ref x), (.int (1 : Int32))] h0 (QrmSub1_1 Z x b kb c0 h0) := by
  have ⟨hw, hEL, O2, P5, O4, P6⟩ := hcx
  refine Met.start (a0 := a0) (Ls := #[vR x, vI (1 : Int32)]) pn37 hEL O0 (fun m => by first | (simp [entryFrame, mkF, argsToLocals, Value.category]; done) | rfl) ?_
  intro p e s m below meth cc T0 vm0 X0 sf0_ D hml hret hnm hx zz A0
  have l1 := ltA Pr0.lt
  have l2 := ltA Pr0.lb
  refine Gets.via (fun _ k => (XS.aloadN A0 hx rfl (D d37_0) rfl rfl (XS.iloadN A0 hx rfl (D d37_1) rfl (XS.aloadN A0 hx rfl (D d37_2) rfl rfl k)))) ?_
  refine X0.callV (W := 2) (w41 hw) (w42 hw) (w44 hw) (w43 hw) (nfs rfl (w44 hw)) (by decide) (X0.payM (sf := []) (rmLen0 hcx x b kb [c0] h0 X0.old Pr0) sf0 (w45 hw) (w6 hw)) Pr0.1 rfl (sz hml rfl) (argsL := []) (rest := [(.int (1 : Int32)), (.ref x)]) (lenOf pd7 rfl) rfl rfl (mroom rfl rfl) (D d37_3) (by decide) (by decide) fun T3 h3 vm3 v3 X3 C3 z3 q3 => ?_
  obtain ⟨rfl, K3⟩ := q3
  rw [K3] at X3 C3
  show Gets p e below _ (T3.setTop (mkF m 6 #[vR x, vI (1 : Int32)] [(.int (1 : Int32)), (.int (1 : Int32)), (.ref x)]))
  refine X3.callV (W := 0) (w197 hw) (w198 hw) (w200 hw) (w199 hw) (nfs rfl (w200 hw)) (by decide) (X3.payM (sf := []) (rmSubs hcx x b kb [c0] 1 0 h0 X3.old Pr0 (by first | exact Nat.le_of_ble_eq_true rfl | omega) (by decide)) sf0 (w201 hw) (w6 hw)) Pr0.1 rfl (sz hml rfl) (argsL := [(.int (1 : Int32)), (.int (1 : Int32))]) (rest := []) (lenOf pd22 rfl) rfl rfl (mroom rfl rfl) (D d37_6) (by decide) (by decide) fun T4 h4 vm4 v4 X4 C4 z4 q4 => ?_
  obtain ⟨a4, t4, kt4, ds4, rfl, K4, g4_0, rfl⟩ := q4
  have l5 := ltA g4_0.lt
  have l6 := ltA g4_0.lb
  exact X4.retA hret rfl rfl rfl (D d37_9) (by decide) (by decide) (fun vmE CE => ⟨a4, t4, kt4, rfl, ((Keep.refl h0 []).trans K4 all0), g4_0⟩)
abbrev RrmSub1_2 : Room := { frames := 5, cells := 2, slots := 20, locals := 84 }
def QrmSub1_2 (Z : State) (x : Addr) (b : Addr) (kb : ClassId) (c0 : Int32) (c1 : Int32) (h0 : Heap) (v : Option Value) (vm : Vm) (h : Heap) : Prop := ∃ (a : Addr) (t : Addr) (kt : ClassId), v = some (.ref a) ∧ Keep h0 h [] ∧ Str Z h a t kt [c1]
theorem rmSub1_2 (hcx : Cx Z a0 zc fm) (x : Addr) (b : Addr) (kb : ClassId) (c0 : Int32) (c1 : Int32) (h0 : Heap) (O0 : Old Z Z.heap.size h0) (Pr0 : Str Z h0 x b kb [c0, c1]) : Met l Z consts_1 (⟨"java/lang/String", "substring", "(I)Ljava/lang/String;"⟩ : MethodName) jdk_42_method_91_code 2 (some (.object "java/lang/String")) [] RrmSub1_2 [] #[(.ref x), (.int (1 : Int32))] h0 (QrmSub1_2 Z x b kb c0 c1 h0) := by
  have ⟨hw, hEL, O2, P5, O4, P6⟩ := hcx
  refine Met.start (a0 := a0) (Ls := #[vR x, vI (1 : Int32)]) pn37 hEL O0 (fun m => by first | (simp [entryFrame, mkF, argsToLocals, Value.category]; done) | rfl) ?_
  intro p e s m below meth cc T0 vm0 X0 sf0_ D hml hret hnm hx zz A0
  have l1 := ltA Pr0.lt
  have l2 := ltA Pr0.lb
  refine Gets.via (fun _ k => (XS.aloadN A0 hx rfl (D d37_0) rfl rfl (XS.iloadN A0 hx rfl (D d37_1) rfl (XS.aloadN A0 hx rfl (D d37_2) rfl rfl k)))) ?_
  refine X0.callV (W := 2) (w41 hw) (w42 hw) (w44 hw) (w43 hw) (nfs rfl (w44 hw)) (by decide) (X0.payM (sf := []) (rmLen0 hcx x b kb [c0, c1] h0 X0.old Pr0) sf0 (w45 hw) (w6 hw)) Pr0.1 rfl (sz hml rfl) (argsL := []) (rest := [(.int (1 : Int32)), (.ref x)]) (lenOf pd7 rfl) rfl rfl (mroom rfl rfl) (D d37_3) (by decide) (by decide) fun T3 h3 vm3 v3 X3 C3 z3 q3 => ?_
  obtain ⟨rfl, K3⟩ := q3
  rw [K3] at X3 C3
  show Gets p e below _ (T3.setTop (mkF m 6 #[vR x, vI (1 : Int32)] [(.int (2 : Int32)), (.int (1 : Int32)), (.ref x)]))
  refine X3.callV (W := 0) (w197 hw) (w198 hw) (w200 hw) (w199 hw) (nfs rfl (w200 hw)) (by decide) (X3.payM (sf := []) (rmSubs hcx x b kb [c0, c1] 1 1 h0 X3.old Pr0 (by first | exact Nat.le_of_ble_eq_true rfl | omega) (by decide)) sf0 (w201 hw) (w6 hw)) Pr0.1 rfl (sz hml rfl) (argsL := [(.int (1 : Int32)), (.int (2 : Int32))]) (rest := []) (lenOf pd22 rfl) rfl rfl (mroom rfl rfl) (D d37_6) (by decide) (by decide) fun T4 h4 vm4 v4 X4 C4 z4 q4 => ?_
  obtain ⟨a4, t4, kt4, ds4, rfl, K4, g4_0, rfl⟩ := q4
  have l5 := ltA g4_0.lt
  have l6 := ltA g4_0.lb
  exact X4.retA hret rfl rfl rfl (D d37_9) (by decide) (by decide) (fun vmE CE => ⟨a4, t4, kt4, rfl, ((Keep.refl h0 []).trans K4 all0), g4_0⟩)
abbrev RrmSub1_3 : Room := { frames := 5, cells := 2, slots := 20, locals := 84 }
def QrmSub1_3 (Z : State) (x : Addr) (b : Addr) (kb : ClassId) (c0 : Int32) (c1 : Int32) (c2 : Int32) (h0 : Heap) (v : Option Value) (vm : Vm) (h : Heap) : Prop := ∃ (a : Addr) (t : Addr) (kt : ClassId), v = some (.ref a) ∧ Keep h0 h [] ∧ Str Z h a t kt [c1, c2]
theorem rmSub1_3 (hcx : Cx Z a0 zc fm) (x : Addr) (b : Addr) (kb : ClassId) (c0 : Int32) (c1 : Int32) (c2 : Int32) (h0 : Heap) (O0 : Old Z Z.heap.size h0) (Pr0 : Str Z h0 x b kb [c0, c1, c2]) : Met l Z consts_1 (⟨"java/lang/String", "substring", "(I)Ljava/lang/String;"⟩ : MethodName) jdk_42_method_91_code 2 (some (.object "java/lang/String")) [] RrmSub1_3 [] #[(.ref x), (.int (1 : Int32))] h0 (QrmSub1_3 Z x b kb c0 c1 c2 h0) := by
  have ⟨hw, hEL, O2, P5, O4, P6⟩ := hcx
  refine Met.start (a0 := a0) (Ls := #[vR x, vI (1 : Int32)]) pn37 hEL O0 (fun m => by first | (simp [entryFrame, mkF, argsToLocals, Value.category]; done) | rfl) ?_
  intro p e s m below meth cc T0 vm0 X0 sf0_ D hml hret hnm hx zz A0
  have l1 := ltA Pr0.lt
  have l2 := ltA Pr0.lb
  refine Gets.via (fun _ k => (XS.aloadN A0 hx rfl (D d37_0) rfl rfl (XS.iloadN A0 hx rfl (D d37_1) rfl (XS.aloadN A0 hx rfl (D d37_2) rfl rfl k)))) ?_
  refine X0.callV (W := 2) (w41 hw) (w42 hw) (w44 hw) (w43 hw) (nfs rfl (w44 hw)) (by decide) (X0.payM (sf := []) (rmLen0 hcx x b kb [c0, c1, c2] h0 X0.old Pr0) sf0 (w45 hw) (w6 hw)) Pr0.1 rfl (sz hml rfl) (argsL := []) (rest := [(.int (1 : Int32)), (.ref x)]) (lenOf pd7 rfl) rfl rfl (mroom rfl rfl) (D d37_3) (by decide) (by decide) fun T3 h3 vm3 v3 X3 C3 z3 q3 => ?_
  obtain ⟨rfl, K3⟩ := q3
  rw [K3] at X3 C3
  show Gets p e below _ (T3.setTop (mkF m 6 #[vR x, vI (1 : Int32)] [(.int (3 : Int32)), (.int (1 : Int32)), (.ref x)]))
  refine X3.callV (W := 0) (w197 hw) (w198 hw) (w200 hw) (w199 hw) (nfs rfl (w200 hw)) (by decide) (X3.payM (sf := []) (rmSubs hcx x b kb [c0, c1, c2] 1 2 h0 X3.old Pr0 (by first | exact Nat.le_of_ble_eq_true rfl | omega) (by decide)) sf0 (w201 hw) (w6 hw)) Pr0.1 rfl (sz hml rfl) (argsL := [(.int (1 : Int32)), (.int (3 : Int32))]) (rest := []) (lenOf pd22 rfl) rfl rfl (mroom rfl rfl) (D d37_6) (by decide) (by decide) fun T4 h4 vm4 v4 X4 C4 z4 q4 => ?_
  obtain ⟨a4, t4, kt4, ds4, rfl, K4, g4_0, rfl⟩ := q4
  have l5 := ltA g4_0.lt
  have l6 := ltA g4_0.lb
  exact X4.retA hret rfl rfl rfl (D d37_9) (by decide) (by decide) (fun vmE CE => ⟨a4, t4, kt4, rfl, ((Keep.refl h0 []).trans K4 all0), g4_0⟩)
abbrev RrmRf0 : Room := { frames := 6, cells := 8, slots := 60, locals := 95 }
def QrmRf0 (Z : State) (x : Addr) (b : Addr) (kb : ClassId) (h0 : Heap) (v : Option Value) (vm : Vm) (h : Heap) : Prop := ∃ (a : Addr) (t : Addr) (kt : ClassId), v = some (.ref a) ∧ Keep h0 h [] ∧ Str Z h a t kt [(46 : Int32), (109 : Int32)]
theorem rmRf0 (hcx : Cx Z a0 zc fm) (x : Addr) (b : Addr) (kb : ClassId) (h0 : Heap) (O0 : Old Z Z.heap.size h0) (Pr0 : Str Z h0 x b kb []) : Met l Z consts_1 (⟨"com/example/packwright/packwright/io/SourceTree", "routineFileName", "(Ljava/lang/String;)Ljava/lang/String;"⟩ : MethodName) prog_22_method_21_code 2 (some (.object "java/lang/String")) [] RrmRf0 [] #[(.ref x)] h0 (QrmRf0 Z x b kb h0) := by
  have ⟨hw, hEL, O2, P5, O4, P6⟩ := hcx
  refine Met.start (a0 := a0) (Ls := #[vR x, .unset]) pn4 hEL O0 (fun m => by first | (simp [entryFrame, mkF, argsToLocals, Value.category]; done) | rfl) ?_
  intro p e s m below meth cc T0 vm0 X0 sf0_ D hml hret hnm hx zz A0
  have l1 := ltA Pr0.lt
  have l2 := ltA Pr0.lb
  refine Gets.via (fun _ k => (XS.aloadN A0 hx rfl (D d4_0) rfl rfl k)) ?_
  refine X0.ldcCW (w30 hw) (wSt hw) (by decide) (vs := [(.int (37 : Int32))]) (z := (1 : Int32)) ⟨by decide, by decide⟩ (by decide) (by decide) rfl (D d4_1) (n := 4) (by decide) (by decide) (by decide) (by decide) fun T3 h3 vm3 a3 yb3 k3 X3 C3 E3 Z3 Fc3 Fv3 V3 q3 => ?_
  have z3 := E3.1
  have l3 := ltA Z3.lt
  have lb3 := ltA V3.lt
  have f4 : Str Z h3 x b kb [] := Pr0.ext E3
  have f5 : Str Z h3 a3 yb3 k3 [(37 : Int32)] := ⟨Z3, Fc3, Fv3, V3, (allI ⟨by decide, by decide⟩ allN), Nat.le_of_ble_eq_true rfl⟩
  refine X3.callV (W := 0) (w31 hw) (w32 hw) (w34 hw) (w33 hw) (nfs rfl (w34 hw)) (by decide) (X3.payM (sf := []) (rmSw1_0 hcx x a3 b kb yb3 k3 h3 X3.old f4 f5) sf0 (w35 hw) (w6 hw)) f4.1 rfl (sz hml rfl) (argsL := [(.ref a3)]) (rest := []) (lenOf pd23 rfl) rfl rfl (mroom rfl rfl) (D d4_4) (by decide) (by decide) fun T6 h6 vm6 v6 X6 C6 z6 q6 => ?_
  obtain ⟨rfl, K6⟩ := q6
  rw [K6] at X6 C6
  have A7 := X6.at
  refine Gets.via (fun _ k => (XS.ifYes A7 hx rfl (pc0 := 7) (pc' := 37) rfl (D d4_7) rfl (Jvm.Free.XT.i0_eq_t (by decide)) (by decide) (by decide) k)) ?_
  refine Gets.via (fun _ k => (XS.aloadN A7 hx rfl (D d4_37) rfl rfl (XS.astoreN A7 hx rfl (D d4_38) rfl rfl (l' := #[vR x, vR x]) rfl k))) ?_
  show Gets p e below _ (T6.setTop (mkF m 39 #[vR x, vR x] []))
  refine X6.new (w52 hw) (w53 hw) (w54 hw) rfl (D d4_39) (by decide) (by decide) fun T8 h8 a8 X8 C8 E8 g8 Z8 S8 D8 => ?_
  have z8 := E8.1
  have l8 := ltA Z8.lt
  have A9 := X8.at
  refine Gets.via (fun _ k => (XS.dup A9 hx rfl (D d4_42) rfl rfl k)) ?_
  refine X8.callI (y := (⟨"java/lang/StringBuilder", "<init>", "()V"⟩ : MethodName)) (W := 1) rfl (w55 hw) (w56 hw) (w57 hw) (by decide) (X8.payM (sf := []) (rmSbI hcx a8 h8 X8.old Z8 ((D8 (Or.inl (w67 hw)) (ty := (.array .byte)) (by decide) : Fld Z h8 a8 "java/lang/AbstractStringBuilder" "value" "[B" .null)) (D8 (Or.inl (w69 hw)) (ty := .byte) (by decide) : Fld Z h8 a8 "java/lang/AbstractStringBuilder" "coder" "B" (.int (0 : Int32))) (D8 (Or.inl (w82 hw)) (ty := .int) (by decide) : Fld Z h8 a8 "java/lang/AbstractStringBuilder" "count" "I" (.int (0 : Int32))) (leA (by omega))) sf0 (w57 hw) (w54 hw)) rfl (sz hml rfl) (a := a8) (argsL := []) (rest := [(.ref a8)]) (lenOf pd24 rfl) rfl rfl (mroom rfl rfl) (D d4_43) (by decide) (by decide) fun T10 h10 vm10 v10 X10 C10 z10 q10 => ?_
  obtain ⟨d10, kd10, rfl, K10, g10_0, g10_1, g10_2, g10_3, g10_4, g10_5, g10_6⟩ := q10
  have l11 := ltA g10_0.lt
  have l12 := ltA g10_4.lt
  have A13 := X10.at
  refine Gets.via (fun _ k => (XS.aloadN A13 hx rfl (D d4_46) rfl rfl k)) ?_
  have f14 : Str Z h8 x b kb [] := f4.ext E8
  have l15 := neA (Exa.ne f14.1 Z8 (by decide))
  have f16 : Str Z h10 x b kb [] := f14.keep K10 (ninS (neA (by omega)) nin0) (ninS (neA (by omega)) nin0)
  refine X10.callV (W := 0) (w70 hw) (w71 hw) (w73 hw) (w72 hw) (nfs rfl (w73 hw)) (by decide) (X10.payM (sf := [d10]) (rmAppL hcx a8 x d10 kd10 ([] : List Int32) b kb [] h10 X10.old g10_0 g10_1 g10_2 g10_3 g10_4 f16 (by first | exact Nat.le_of_ble_eq_true rfl | omega) (leA (by omega)) (leA (by omega)) (neA (by omega))) (sfS g10_5 sf0) (w74 hw) (w54 hw)) g10_0 rfl (sz hml rfl) (argsL := [(.ref x)]) (rest := []) (lenOf pd25 rfl) rfl rfl (mroom rfl rfl) (D d4_47) (by decide) (by decide) fun T17 h17 vm17 v17 X17 C17 z17 q17 => ?_
  obtain ⟨rfl, K17, g17_0, g17_1, g17_2, g17_3, g17_4⟩ := q17
  have l18 := ltA g17_0.lt
  have l19 := ltA g17_4.lt
  refine X17.ldcCW (w108 hw) (wSt hw) (by decide) (vs := [(.int (46 : Int32)), (.int (109 : Int32))]) (z := (2 : Int32)) ⟨by decide, by decide⟩ (by decide) (by decide) rfl (D d4_50) (n := 8) (by decide) (by decide) (by decide) (by decide) fun T20 h20 vm20 a20 yb20 k20 X20 C20 E20 Z20 Fc20 Fv20 V20 q20 => ?_
  have z20 := E20.1
  have l20 := ltA Z20.lt
  have lb20 := ltA V20.lt
  have f21 := C10.safe (x := a8) (ltA (by omega)) S8
  have f22 := C17.safe (x := a8) (ltA (by omega)) f21
  have f23 := C20.safe (x := a8) (ltA (by omega)) f22
  have ne24 := neA (q20 a8 f23).1
  have nf24 := neA (q20 a8 f23).2
  have f25 := C17.safe (x := d10) (ltA (by omega)) g10_5
  have f26 := C20.safe (x := d10) (ltA (by omega)) f25
  have ne27 := neA (q20 d10 f26).1
  have nf27 := neA (q20 d10 f26).2
  show Gets p e below _ (T20.setTop (mkF m 53 #[vR x, vR x] [(.ref a20), (.ref a8)]))
  have f28 := g17_0.ext E20
  have f29 := g17_3.ext E20
  have f30 : Str Z h20 a20 yb20 k20 [(46 : Int32), (109 : Int32)] := ⟨Z20, Fc20, Fv20, V20, (allI ⟨by decide, by decide⟩ (allI ⟨by decide, by decide⟩ allN)), Nat.le_of_ble_eq_true rfl⟩
  have f31 := g17_1.ext E20
  have f32 := g17_2.ext E20
  have f33 := g17_4.ext E20
  refine X20.callV (W := 0) (w70 hw) (w71 hw) (w73 hw) (w72 hw) (nfs rfl (w73 hw)) (by decide) (X20.payM (sf := [d10]) (rmAppL hcx a8 a20 d10 kd10 (([] : List Int32) ++ []) yb20 k20 [(46 : Int32), (109 : Int32)] h20 X20.old f28 f31 f32 f29 f33 f30 (by first | exact Nat.le_of_ble_eq_true rfl | omega) (leA (by omega)) (leA (by omega)) (neA (by omega))) (sfS f26 sf0) (w74 hw) (w54 hw)) f28 rfl (sz hml rfl) (argsL := [(.ref a20)]) (rest := []) (lenOf pd25 rfl) rfl rfl (mroom rfl rfl) (D d4_53) (by decide) (by decide) fun T34 h34 vm34 v34 X34 C34 z34 q34 => ?_
  obtain ⟨rfl, K34, g34_0, g34_1, g34_2, g34_3, g34_4⟩ := q34
  have l35 := ltA g34_0.lt
  have l36 := ltA g34_4.lt
  have f37 : Fld Z h34 a8 "java/lang/AbstractStringBuilder" "count" "I" (.int (Int32.ofNat ([(46 : Int32), (109 : Int32)]).length)) := g34_3
  have f38 : Arv Z h34 d10 kd10 .byte (16 : Int32) (([(46 : Int32), (109 : Int32)].map fun c => c.toInt8.toInt32).map Value.int) (.int (0 : Int32)) := g34_4
  have u39 : ∀ z_ ∈ [(46 : Int32), (109 : Int32)], ¬ z_ < 0 ∧ ¬ (255 : Int32) < z_ := allI ⟨by decide, by decide⟩ (allI ⟨by decide, by decide⟩ (allN))
  refine X34.callV (W := 0) (w109 hw) (w110 hw) (w112 hw) (w111 hw) (nfs rfl (w112 hw)) (by decide) (X34.payM (sf := []) (rmTs_0 hcx a8 d10 kd10 [(46 : Int32), (109 : Int32)] h34 X34.old g34_0 g34_1 g34_2 f37 f38 (by first | exact Nat.le_of_ble_eq_true rfl | omega) u39) sf0 (w113 hw) (w54 hw)) g34_0 rfl (sz hml rfl) (argsL := []) (rest := []) (lenOf pd26 rfl) rfl rfl (mroom rfl rfl) (D d4_56) (by decide) (by decide) fun T40 h40 vm40 v40 X40 C40 z40 q40 => ?_
  obtain ⟨a40, t40, kt40, rfl, K40, g40_0⟩ := q40
  have l41 := ltA g40_0.lt
  have l42 := ltA g40_0.lb
  exact X40.retA hret rfl rfl rfl (D d4_59) (by decide) (by decide) (fun vmE CE => ⟨a40, t40, kt40, rfl, ((((((((Keep.refl h0 []).ext E3).ext E8).trans K10 (allS (Or.inr (leA (by omega))) all0)).trans K17 (allS (Or.inr (leA (by omega))) (allS (Or.inr (leA (by omega))) all0))).ext E20).trans K34 (allS (Or.inr (leA (by omega))) (allS (Or.inr (leA (by omega))) all0))).trans K40 all0), g40_0⟩)
abbrev RrmRf1 : Room := { frames := 6, cells := 8, slots := 60, locals := 95 }
def QrmRf1 (Z : State) (x : Addr) (b : Addr) (kb : ClassId) (c0 : Int32) (h0 : Heap) (v : Option Value) (vm : Vm) (h : Heap) : Prop := ∃ (a : Addr) (t : Addr) (kt : ClassId), v = some (.ref a) ∧ Keep h0 h [] ∧ Str Z h a t kt [c0, (46 : Int32), (109 : Int32)]
theorem rmRf1 (hcx : Cx Z a0 zc fm) (x : Addr) (b : Addr) (kb : ClassId) (c0 : Int32) (h0 : Heap) (O0 : Old Z Z.heap.size h0) (Pr0 : Str Z h0 x b kb [c0]) (Pr1 : ¬ c0 = (37 : Int32)) : Met l Z consts_1 (⟨"com/example/packwright/packwright/io/SourceTree", "routineFileName", "(Ljava/lang/String;)Ljava/lang/String;"⟩ : MethodName) prog_22_method_21_code 2 (some (.object "java/lang/String")) [] RrmRf1 [] #[(.ref x)] h0 (QrmRf1 Z x b kb c0 h0) := by
  have ⟨hw, hEL, O2, P5, O4, P6⟩ := hcx
  refine Met.start (a0 := a0) (Ls := #[vR x, .unset]) pn4 hEL O0 (fun m => by first | (simp [entryFrame, mkF, argsToLocals, Value.category]; done) | rfl) ?_
  intro p e s m below meth cc T0 vm0 X0 sf0_ D hml hret hnm hx zz A0
  have l1 := ltA Pr0.lt
  have l2 := ltA Pr0.lb
  refine Gets.via (fun _ k => (XS.aloadN A0 hx rfl (D d4_0) rfl rfl k)) ?_
  refine X0.ldcCW (w30 hw) (wSt hw) (by decide) (vs := [(.int (37 : Int32))]) (z := (1 : Int32)) ⟨by decide, by decide⟩ (by decide) (by decide) rfl (D d4_1) (n := 4) (by decide) (by decide) (by decide) (by decide) fun T3 h3 vm3 a3 yb3 k3 X3 C3 E3 Z3 Fc3 Fv3 V3 q3 => ?_
  have z3 := E3.1
  have l3 := ltA Z3.lt
  have lb3 := ltA V3.lt
  have f4 : Str Z h3 x b kb [c0] := Pr0.ext E3
  have f5 : Str Z h3 a3 yb3 k3 [(37 : Int32)] := ⟨Z3, Fc3, Fv3, V3, (allI ⟨by decide, by decide⟩ allN), Nat.le_of_ble_eq_true rfl⟩
  refine X3.callV (W := 0) (w31 hw) (w32 hw) (w34 hw) (w33 hw) (nfs rfl (w34 hw)) (by decide) (X3.payM (sf := []) (rmSw1_1 hcx x a3 b kb yb3 k3 c0 h3 X3.old f4 f5) sf0 (w35 hw) (w6 hw)) f4.1 rfl (sz hml rfl) (argsL := [(.ref a3)]) (rest := []) (lenOf pd23 rfl) rfl rfl (mroom rfl rfl) (D d4_4) (by decide) (by decide) fun T6 h6 vm6 v6 X6 C6 z6 q6 => ?_
  obtain ⟨r6, rfl, K6, rfl⟩ := q6
  rw [K6] at X6 C6
  have A7 := X6.at
  refine Gets.via (fun _ k => (XS.ifYes A7 hx rfl (pc0 := 7) (pc' := 37) rfl (D d4_7) rfl (Jvm.Free.XT.i0_eq_t (if_neg Pr1)) (by decide) (by decide) k)) ?_
  refine Gets.via (fun _ k => (XS.aloadN A7 hx rfl (D d4_37) rfl rfl (XS.astoreN A7 hx rfl (D d4_38) rfl rfl (l' := #[vR x, vR x]) rfl k))) ?_
  show Gets p e below _ (T6.setTop (mkF m 39 #[vR x, vR x] []))
  refine X6.new (w52 hw) (w53 hw) (w54 hw) rfl (D d4_39) (by decide) (by decide) fun T8 h8 a8 X8 C8 E8 g8 Z8 S8 D8 => ?_
  have z8 := E8.1
  have l8 := ltA Z8.lt
  have A9 := X8.at
  refine Gets.via (fun _ k => (XS.dup A9 hx rfl (D d4_42) rfl rfl k)) ?_
  refine X8.callI (y := (⟨"java/lang/StringBuilder", "<init>", "()V"⟩ : MethodName)) (W := 1) rfl (w55 hw) (w56 hw) (w57 hw) (by decide) (X8.payM (sf := []) (rmSbI hcx a8 h8 X8.old Z8 ((D8 (Or.inl (w67 hw)) (ty := (.array .byte)) (by decide) : Fld Z h8 a8 "java/lang/AbstractStringBuilder" "value" "[B" .null)) (D8 (Or.inl (w69 hw)) (ty := .byte) (by decide) : Fld Z h8 a8 "java/lang/AbstractStringBuilder" "coder" "B" (.int (0 : Int32))) (D8 (Or.inl (w82 hw)) (ty := .int) (by decide) : Fld Z h8 a8 "java/lang/AbstractStringBuilder" "count" "I" (.int (0 : Int32))) (leA (by omega))) sf0 (w57 hw) (w54 hw)) rfl (sz hml rfl) (a := a8) (argsL := []) (rest := [(.ref a8)]) (lenOf pd24 rfl) rfl rfl (mroom rfl rfl) (D d4_43) (by decide) (by decide) fun T10 h10 vm10 v10 X10 C10 z10 q10 => ?_
  obtain ⟨d10, kd10, rfl, K10, g10_0, g10_1, g10_2, g10_3, g10_4, g10_5, g10_6⟩ := q10
  have l11 := ltA g10_0.lt
  have l12 := ltA g10_4.lt
  have A13 := X10.at
  refine Gets.via (fun _ k => (XS.aloadN A13 hx rfl (D d4_46) rfl rfl k)) ?_
  have f14 : Str Z h8 x b kb [c0] := f4.ext E8
  have l15 := neA (Exa.ne f14.1 Z8 (by decide))
  have f16 : Str Z h10 x b kb [c0] := f14.keep K10 (ninS (neA (by omega)) nin0) (ninS (neA (by omega)) nin0)
  refine X10.callV (W := 0) (w70 hw) (w71 hw) (w73 hw) (w72 hw) (nfs rfl (w73 hw)) (by decide) (X10.payM (sf := [d10]) (rmAppL hcx a8 x d10 kd10 ([] : List Int32) b kb [c0] h10 X10.old g10_0 g10_1 g10_2 g10_3 g10_4 f16 (by first | exact Nat.le_of_ble_eq_true rfl | omega) (leA (by omega)) (leA (by omega)) (neA (by omega))) (sfS g10_5 sf0) (w74 hw) (w54 hw)) g10_0 rfl (sz hml rfl) (argsL := [(.ref x)]) (rest := []) (lenOf pd25 rfl) rfl rfl (mroom rfl rfl) (D d4_47) (by decide) (by decide) fun T17 h17 vm17 v17 X17 C17 z17 q17 => ?_
  obtain ⟨rfl, K17, g17_0, g17_1, g17_2, g17_3, g17_4⟩ := q17
  have l18 := ltA g17_0.lt
  have l19 := ltA g17_4.lt
  refine X17.ldcCW (w108 hw) (wSt hw) (by decide) (vs := [(.int (46 : Int32)), (.int (109 : Int32))]) (z := (2 : Int32)) ⟨by decide, by decide⟩ (by decide) (by decide) rfl (D d4_50) (n := 8) (by decide) (by decide) (by decide) (by decide) fun T20 h20 vm20 a20 yb20 k20 X20 C20 E20 Z20 Fc20 Fv20 V20 q20 => ?_
  have z20 := E20.1
  have l20 := ltA Z20.lt
  have lb20 := ltA V20.lt
  have f21 := C10.safe (x := a8) (ltA (by omega)) S8
  have f22 := C17.safe (x := a8) (ltA (by omega)) f21
  have f23 := C20.safe (x := a8) (ltA (by omega)) f22
  have ne24 := neA (q20 a8 f23).1
  have nf24 := neA (q20 a8 f23).2
  have f25 := C17.safe (x := d10) (ltA (by omega)) g10_5
  have f26 := C20.safe (x := d10) (ltA (by omega)) f25
  have ne27 := neA (q20 d10 f26).1
  have nf27 := neA (q20 d10 f26).2
  show Gets p e below _ (T20.setTop (mkF m 53 #[vR x, vR x] [(.ref a20), (.ref a8)]))
  have f28 := g17_0.ext E20
  have f29 := g17_3.ext E20
  have f30 : Str Z h20 a20 yb20 k20 [(46 : Int32), (109 : Int32)] := ⟨Z20, Fc20, Fv20, V20, (allI ⟨by decide, by decide⟩ (allI ⟨by decide, by decide⟩ allN)), Nat.le_of_ble_eq_true rfl⟩
  have f31 := g17_1.ext E20
  have f32 := g17_2.ext E20
  have f33 := g17_4.ext E20
  refine X20.callV (W := 0) (w70 hw) (w71 hw) (w73 hw) (w72 hw) (nfs rfl (w73 hw)) (by decide) (X20.payM (sf := [d10]) (rmAppL hcx a8 a20 d10 kd10 (([] : List Int32) ++ [c0]) yb20 k20 [(46 : Int32), (109 : Int32)] h20 X20.old f28 f31 f32 f29 f33 f30 (by first | exact Nat.le_of_ble_eq_true rfl | omega) (leA (by omega)) (leA (by omega)) (neA (by omega))) (sfS f26 sf0) (w74 hw) (w54 hw)) f28 rfl (sz hml rfl) (argsL := [(.ref a20)]) (rest := []) (lenOf pd25 rfl) rfl rfl (mroom rfl rfl) (D d4_53) (by decide) (by decide) fun T34 h34 vm34 v34 X34 C34 z34 q34 => ?_
  obtain ⟨rfl, K34, g34_0, g34_1, g34_2, g34_3, g34_4⟩ := q34
  have l35 := ltA g34_0.lt
  have l36 := ltA g34_4.lt
  have f37 : Fld Z h34 a8 "java/lang/AbstractStringBuilder" "count" "I" (.int (Int32.ofNat ([c0, (46 : Int32), (109 : Int32)]).length)) := g34_3
  have f38 : Arv Z h34 d10 kd10 .byte (16 : Int32) (([c0, (46 : Int32), (109 : Int32)].map fun c => c.toInt8.toInt32).map Value.int) (.int (0 : Int32)) := g34_4
  have u39 : ∀ z_ ∈ [c0, (46 : Int32), (109 : Int32)], ¬ z_ < 0 ∧ ¬ (255 : Int32) < z_ := allI (Pr0.2.2.2.2.1 c0 (memI (i := 0) rfl)) (allI ⟨by decide, by decide⟩ (allI ⟨by decide, by decide⟩ (allN)))
  refine X34.callV (W := 0) (w109 hw) (w110 hw) (w112 hw) (w111 hw) (nfs rfl (w112 hw)) (by decide) (X34.payM (sf := []) (rmTs_0 hcx a8 d10 kd10 [c0, (46 : Int32), (109 : Int32)] h34 X34.old g34_0 g34_1 g34_2 f37 f38 (by first | exact Nat.le_of_ble_eq_true rfl | omega) u39) sf0 (w113 hw) (w54 hw)) g34_0 rfl (sz hml rfl) (argsL := []) (rest := []) (lenOf pd26 rfl) rfl rfl (mroom rfl rfl) (D d4_56) (by decide) (by decide) fun T40 h40 vm40 v40 X40 C40 z40 q40 => ?_
  obtain ⟨a40, t40, kt40, rfl, K40, g40_0⟩ := q40
  have l41 := ltA g40_0.lt
  have l42 := ltA g40_0.lb
  exact X40.retA hret rfl rfl rfl (D d4_59) (by decide) (by decide) (fun vmE CE => ⟨a40, t40, kt40, rfl, ((((((((Keep.refl h0 []).ext E3).ext E8).trans K10 (allS (Or.inr (leA (by omega))) all0)).trans K17 (allS (Or.inr (leA (by omega))) (allS (Or.inr (leA (by omega))) all0))).ext E20).trans K34 (allS (Or.inr (leA (by omega))) (allS (Or.inr (leA (by omega))) all0))).trans K40 all0), g40_0⟩)
abbrev RrmRf1p : Room := { frames := 6, cells := 16, slots := 128, locals := 98 }
def QrmRf1p (Z : State) (x : Addr) (b : Addr) (kb : ClassId) (c0 : Int32) (h0 : Heap) (v : Option Value) (vm : Vm) (h : Heap) : Prop := ∃ (a : Addr) (t : Addr) (kt : ClassId), v = some (.ref a) ∧ Keep h0 h [] ∧ Str Z h a t kt [(95 : Int32), (46 : Int32), (109 : Int32)]
theorem rmRf1p (hcx : Cx Z a0 zc fm) (x : Addr) (b : Addr) (kb : ClassId) (c0 : Int32) (h0 : Heap) (O0 : Old Z Z.heap.size h0) (Pr0 : Str Z h0 x b kb [c0]) (Pr1 : c0 = (37 : Int32)) : Met l Z consts_1 (⟨"com/example/packwright/packwright/io/SourceTree", "routineFileName", "(Ljava/lang/String;)Ljava/lang/String;"⟩ : MethodName) prog_22_method_21_code 2 (some (.object "java/lang/String")) [] RrmRf1p [] #[(.ref x)] h0 (QrmRf1p Z x b kb c0 h0) := by
  have ⟨hw, hEL, O2, P5, O4, P6⟩ := hcx
  refine Met.start (a0 := a0) (Ls := #[vR x, .unset]) pn4 hEL O0 (fun m => by first | (simp [entryFrame, mkF, argsToLocals, Value.category]; done) | rfl) ?_
  intro p e s m below meth cc T0 vm0 X0 sf0_ D hml hret hnm hx zz A0
  have l1 := ltA Pr0.lt
  have l2 := ltA Pr0.lb
  refine Gets.via (fun _ k => (XS.aloadN A0 hx rfl (D d4_0) rfl rfl k)) ?_
  refine X0.ldcCW (w30 hw) (wSt hw) (by decide) (vs := [(.int (37 : Int32))]) (z := (1 : Int32)) ⟨by decide, by decide⟩ (by decide) (by decide) rfl (D d4_1) (n := 4) (by decide) (by decide) (by decide) (by decide) fun T3 h3 vm3 a3 yb3 k3 X3 C3 E3 Z3 Fc3 Fv3 V3 q3 => ?_
  have z3 := E3.1
  have l3 := ltA Z3.lt
  have lb3 := ltA V3.lt
  have f4 : Str Z h3 x b kb [c0] := Pr0.ext E3
  have f5 : Str Z h3 a3 yb3 k3 [(37 : Int32)] := ⟨Z3, Fc3, Fv3, V3, (allI ⟨by decide, by decide⟩ allN), Nat.le_of_ble_eq_true rfl⟩
  refine X3.callV (W := 0) (w31 hw) (w32 hw) (w34 hw) (w33 hw) (nfs rfl (w34 hw)) (by decide) (X3.payM (sf := []) (rmSw1_1 hcx x a3 b kb yb3 k3 c0 h3 X3.old f4 f5) sf0 (w35 hw) (w6 hw)) f4.1 rfl (sz hml rfl) (argsL := [(.ref a3)]) (rest := []) (lenOf pd23 rfl) rfl rfl (mroom rfl rfl) (D d4_4) (by decide) (by decide) fun T6 h6 vm6 v6 X6 C6 z6 q6 => ?_
  obtain ⟨r6, rfl, K6, rfl⟩ := q6
  rw [K6] at X6 C6
  have A7 := X6.at
  refine Gets.via (fun _ k => (XS.ifNo A7 hx rfl (D d4_7) rfl (Jvm.Free.XT.i0_eq_f (by rw [if_pos Pr1]; decide)) k)) ?_
  refine X6.new (w52 hw) (w53 hw) (w54 hw) rfl (D d4_10) (by decide) (by decide) fun T8 h8 a8 X8 C8 E8 g8 Z8 S8 D8 => ?_
  have z8 := E8.1
  have l8 := ltA Z8.lt
  show Gets p e below _ (T8.setTop (mkF m 13 #[vR x, .unset] [(.ref a8)]))
  have A9 := X8.at
  refine Gets.via (fun _ k => (XS.dup A9 hx rfl (D d4_13) rfl rfl k)) ?_
  refine X8.callI (y := (⟨"java/lang/StringBuilder", "<init>", "()V"⟩ : MethodName)) (W := 1) rfl (w55 hw) (w56 hw) (w57 hw) (by decide) (X8.payM (sf := []) (rmSbI hcx a8 h8 X8.old Z8 ((D8 (Or.inl (w67 hw)) (ty := (.array .byte)) (by decide) : Fld Z h8 a8 "java/lang/AbstractStringBuilder" "value" "[B" .null)) (D8 (Or.inl (w69 hw)) (ty := .byte) (by decide) : Fld Z h8 a8 "java/lang/AbstractStringBuilder" "coder" "B" (.int (0 : Int32))) (D8 (Or.inl (w82 hw)) (ty := .int) (by decide) : Fld Z h8 a8 "java/lang/AbstractStringBuilder" "count" "I" (.int (0 : Int32))) (leA (by omega))) sf0 (w57 hw) (w54 hw)) rfl (sz hml rfl) (a := a8) (argsL := []) (rest := [(.ref a8)]) (lenOf pd24 rfl) rfl rfl (mroom rfl rfl) (D d4_14) (by decide) (by decide) fun T10 h10 vm10 v10 X10 C10 z10 q10 => ?_
  obtain ⟨d10, kd10, rfl, K10, g10_0, g10_1, g10_2, g10_3, g10_4, g10_5, g10_6⟩ := q10
  have l11 := ltA g10_0.lt
  have l12 := ltA g10_4.lt
  refine X10.ldcCW (w191 hw) (wSt hw) (by decide) (vs := [(.int (95 : Int32))]) (z := (1 : Int32)) ⟨by decide, by decide⟩ (by decide) (by decide) rfl (D d4_17) (n := 4) (by decide) (by decide) (by decide) (by decide) fun T13 h13 vm13 a13 yb13 k13 X13 C13 E13 Z13 Fc13 Fv13 V13 q13 => ?_
  have z13 := E13.1
  have l13 := ltA Z13.lt
  have lb13 := ltA V13.lt
  have f14 := C10.safe (x := a8) (ltA (by omega)) S8
  have f15 := C13.safe (x := a8) (ltA (by omega)) f14
  have ne16 := neA (q13 a8 f15).1
  have nf16 := neA (q13 a8 f15).2
  have f17 := C13.safe (x := d10) (ltA (by omega)) g10_5
  have ne18 := neA (q13 d10 f17).1
  have nf18 := neA (q13 d10 f17).2
  have f19 := g10_0.ext E13
  have f20 := g10_3.ext E13
  have f21 : Str Z h13 a13 yb13 k13 [(95 : Int32)] := ⟨Z13, Fc13, Fv13, V13, (allI ⟨by decide, by decide⟩ allN), Nat.le_of_ble_eq_true rfl⟩
  have f22 := g10_1.ext E13
  have f23 := g10_2.ext E13
  have f24 := g10_4.ext E13
  refine X13.callV (W := 0) (w70 hw) (w71 hw) (w73 hw) (w72 hw) (nfs rfl (w73 hw)) (by decide) (X13.payM (sf := [d10]) (rmAppL hcx a8 a13 d10 kd10 ([] : List Int32) yb13 k13 [(95 : Int32)] h13 X13.old f19 f22 f23 f20 f24 f21 (by first | exact Nat.le_of_ble_eq_true rfl | omega) (leA (by omega)) (leA (by omega)) (neA (by omega))) (sfS f17 sf0) (w74 hw) (w54 hw)) f19 rfl (sz hml rfl) (argsL := [(.ref a13)]) (rest := []) (lenOf pd25 rfl) rfl rfl (mroom rfl rfl) (D d4_20) (by decide) (by decide) fun T25 h25 vm25 v25 X25 C25 z25 q25 => ?_
  obtain ⟨rfl, K25, g25_0, g25_1, g25_2, g25_3, g25_4⟩ := q25
  have l26 := ltA g25_0.lt
  have l27 := ltA g25_4.lt
  have A28 := X25.at
  refine Gets.via (fun _ k => (XS.aloadN A28 hx rfl (D d4_23) rfl rfl (XS.iconst A28 hx rfl (D d4_24) k))) ?_
  show Gets p e below _ (T25.setTop (mkF m 25 #[vR x, .unset] [(.int (1 : Int32)), (.ref x), (.ref a8)]))
  have f29 : Str Z h8 x b kb [c0] := f4.ext E8
  have l30 := neA (Exa.ne f29.1 Z8 (by decide))
  have f31 : Str Z h10 x b kb [c0] := f29.keep K10 (ninS (neA (by omega)) nin0) (ninS (neA (by omega)) nin0)
  have f32 : Str Z h13 x b kb [c0] := f31.ext E13
  have f33 : Str Z h25 x b kb [c0] := f32.keep K25 (ninS (neA (by omega)) (ninS (neA (by omega)) nin0)) (ninS (neA (by omega)) (ninS (neA (by omega)) nin0))
  refine X25.callV (W := 1) (w192 hw) (w193 hw) (w195 hw) (w194 hw) (nfs rfl (w195 hw)) (by decide) (X25.payM (sf := []) (rmSub1_1 hcx x b kb c0 h25 X25.old f33) sf0 (w196 hw) (w6 hw)) f33.1 rfl (sz hml rfl) (argsL := [(.int (1 : Int32))]) (rest := [(.ref a8)]) (lenOf pd27 rfl) rfl rfl (mroom rfl rfl) (D d4_25) (by decide) (by decide) fun T34 h34 vm34 v34 X34 C34 z34 q34 => ?_
  obtain ⟨a34, t34, kt34, rfl, K34, g34_0⟩ := q34
  have l35 := ltA g34_0.lt
  have l36 := ltA g34_0.lb
  have f37 := g25_0.keep K34
  have f38 := g25_3.keep K34 nin0
  have f39 := g25_1.keep K34 nin0
  have f40 := g25_2.keep K34 nin0
  have f41 := g25_4.keep K34 nin0
  have f42 := C25.safe (x := d10) (ltA (by omega)) f17
  have f43 := C34.safe (x := d10) (ltA (by omega)) f42
  refine X34.callV (W := 0) (w70 hw) (w71 hw) (w73 hw) (w72 hw) (nfs rfl (w73 hw)) (by decide) (X34.payM (sf := [d10]) (rmAppL hcx a8 a34 d10 kd10 (([] : List Int32) ++ [(95 : Int32)]) t34 kt34 [] h34 X34.old f37 f39 f40 f38 f41 g34_0 (by first | exact Nat.le_of_ble_eq_true rfl | omega) (leA (by omega)) (leA (by omega)) (neA (by omega))) (sfS f43 sf0) (w74 hw) (w54 hw)) f37 rfl (sz hml rfl) (argsL := [(.ref a34)]) (rest := []) (lenOf pd25 rfl) rfl rfl (mroom rfl rfl) (D d4_28) (by decide) (by decide) fun T44 h44 vm44 v44 X44 C44 z44 q44 => ?_
  obtain ⟨rfl, K44, g44_0, g44_1, g44_2, g44_3, g44_4⟩ := q44
  have l45 := ltA g44_0.lt
  have l46 := ltA g44_4.lt
  have f47 : Fld Z h44 a8 "java/lang/AbstractStringBuilder" "count" "I" (.int (Int32.ofNat ([(95 : Int32)]).length)) := g44_3
  have f48 : Arv Z h44 d10 kd10 .byte (16 : Int32) (([(95 : Int32)].map fun c => c.toInt8.toInt32).map Value.int) (.int (0 : Int32)) := g44_4
  have u49 : ∀ z_ ∈ [(95 : Int32)], ¬ z_ < 0 ∧ ¬ (255 : Int32) < z_ := allI ⟨by decide, by decide⟩ (allN)
  refine X44.callV (W := 0) (w109 hw) (w110 hw) (w112 hw) (w111 hw) (nfs rfl (w112 hw)) (by decide) (X44.payM (sf := []) (rmTs_0 hcx a8 d10 kd10 [(95 : Int32)] h44 X44.old g44_0 g44_1 g44_2 f47 f48 (by first | exact Nat.le_of_ble_eq_true rfl | omega) u49) sf0 (w113 hw) (w54 hw)) g44_0 rfl (sz hml rfl) (argsL := []) (rest := []) (lenOf pd26 rfl) rfl rfl (mroom rfl rfl) (D d4_31) (by decide) (by decide) fun T50 h50 vm50 v50 X50 C50 z50 q50 => ?_
  obtain ⟨a50, t50, kt50, rfl, K50, g50_0⟩ := q50
  have l51 := ltA g50_0.lt
  have l52 := ltA g50_0.lb
  have A53 := X50.at
  refine Gets.via (fun _ k => (XS.goto A53 hx rfl (pc0 := 34) (pc' := 38) rfl (D d4_34) (by decide) (by decide) k)) ?_
  refine Gets.via (fun _ k => (XS.astoreN A53 hx rfl (D d4_38) rfl rfl (l' := #[vR x, vR a50]) rfl k)) ?_
  refine X50.new (w52 hw) (w53 hw) (w54 hw) rfl (D d4_39) (by decide) (by decide) fun T54 h54 a54 X54 C54 E54 g54 Z54 S54 D54 => ?_
  have z54 := E54.1
  have l54 := ltA Z54.lt
  show Gets p e below _ (T54.setTop (mkF m 42 #[vR x, vR a50] [(.ref a54)]))
  have A55 := X54.at
  refine Gets.via (fun _ k => (XS.dup A55 hx rfl (D d4_42) rfl rfl k)) ?_
  refine X54.callI (y := (⟨"java/lang/StringBuilder", "<init>", "()V"⟩ : MethodName)) (W := 1) rfl (w55 hw) (w56 hw) (w57 hw) (by decide) (X54.payM (sf := []) (rmSbI hcx a54 h54 X54.old Z54 ((D54 (Or.inl (w67 hw)) (ty := (.array .byte)) (by decide) : Fld Z h54 a54 "java/lang/AbstractStringBuilder" "value" "[B" .null)) (D54 (Or.inl (w69 hw)) (ty := .byte) (by decide) : Fld Z h54 a54 "java/lang/AbstractStringBuilder" "coder" "B" (.int (0 : Int32))) (D54 (Or.inl (w82 hw)) (ty := .int) (by decide) : Fld Z h54 a54 "java/lang/AbstractStringBuilder" "count" "I" (.int (0 : Int32))) (leA (by omega))) sf0 (w57 hw) (w54 hw)) rfl (sz hml rfl) (a := a54) (argsL := []) (rest := [(.ref a54)]) (lenOf pd24 rfl) rfl rfl (mroom rfl rfl) (D d4_43) (by decide) (by decide) fun T56 h56 vm56 v56 X56 C56 z56 q56 => ?_
  obtain ⟨d56, kd56, rfl, K56, g56_0, g56_1, g56_2, g56_3, g56_4, g56_5, g56_6⟩ := q56
  have l57 := ltA g56_0.lt
  have l58 := ltA g56_4.lt
  have A59 := X56.at
  refine Gets.via (fun _ k => (XS.aloadN A59 hx rfl (D d4_46) rfl rfl k)) ?_
  have f60 : Str Z h54 a50 t50 kt50 [(95 : Int32)] := g50_0.ext E54
  have l61 := neA (Exa.ne f60.1 Z54 (by decide))
  have f62 : Str Z h56 a50 t50 kt50 [(95 : Int32)] := f60.keep K56 (ninS (neA (by omega)) nin0) (ninS (neA (by omega)) nin0)
  refine X56.callV (W := 0) (w70 hw) (w71 hw) (w73 hw) (w72 hw) (nfs rfl (w73 hw)) (by decide) (X56.payM (sf := [d56]) (rmAppL hcx a54 a50 d56 kd56 ([] : List Int32) t50 kt50 [(95 : Int32)] h56 X56.old g56_0 g56_1 g56_2 g56_3 g56_4 f62 (by first | exact Nat.le_of_ble_eq_true rfl | omega) (leA (by omega)) (leA (by omega)) (neA (by omega))) (sfS g56_5 sf0) (w74 hw) (w54 hw)) g56_0 rfl (sz hml rfl) (argsL := [(.ref a50)]) (rest := []) (lenOf pd25 rfl) rfl rfl (mroom rfl rfl) (D d4_47) (by decide) (by decide) fun T63 h63 vm63 v63 X63 C63 z63 q63 => ?_
  obtain ⟨rfl, K63, g63_0, g63_1, g63_2, g63_3, g63_4⟩ := q63
  have l64 := ltA g63_0.lt
  have l65 := ltA g63_4.lt
  refine X63.ldcCW (w108 hw) (wSt hw) (by decide) (vs := [(.int (46 : Int32)), (.int (109 : Int32))]) (z := (2 : Int32)) ⟨by decide, by decide⟩ (by decide) (by decide) rfl (D d4_50) (n := 8) (by decide) (by decide) (by decide) (by decide) fun T66 h66 vm66 a66 yb66 k66 X66 C66 E66 Z66 Fc66 Fv66 V66 q66 => ?_
  have z66 := E66.1
  have l66 := ltA Z66.lt
  have lb66 := ltA V66.lt
  have f67 := C25.safe (x := a8) (ltA (by omega)) f15
  have f68 := C34.safe (x := a8) (ltA (by omega)) f67
  have f69 := C44.safe (x := a8) (ltA (by omega)) f68
  have f70 := C50.safe (x := a8) (ltA (by omega)) f69
  have f71 := C54.safe (x := a8) (ltA (by omega)) f70
  have f72 := C56.safe (x := a8) (ltA (by omega)) f71
  have f73 := C63.safe (x := a8) (ltA (by omega)) f72
  have f74 := C66.safe (x := a8) (ltA (by omega)) f73
  have ne75 := neA (q66 a8 f74).1
  have nf75 := neA (q66 a8 f74).2
  have f76 := C44.safe (x := d10) (ltA (by omega)) f43
  have f77 := C50.safe (x := d10) (ltA (by omega)) f76
  have f78 := C54.safe (x := d10) (ltA (by omega)) f77
  have f79 := C56.safe (x := d10) (ltA (by omega)) f78
  have f80 := C63.safe (x := d10) (ltA (by omega)) f79
  have f81 := C66.safe (x := d10) (ltA (by omega)) f80
  have ne82 := neA (q66 d10 f81).1
  have nf82 := neA (q66 d10 f81).2
  have f83 := C56.safe (x := a54) (ltA (by omega)) S54
  have f84 := C63.safe (x := a54) (ltA (by omega)) f83
  have f85 := C66.safe (x := a54) (ltA (by omega)) f84
  have ne86 := neA (q66 a54 f85).1
  have nf86 := neA (q66 a54 f85).2
  have f87 := C63.safe (x := d56) (ltA (by omega)) g56_5
  have f88 := C66.safe (x := d56) (ltA (by omega)) f87
  have ne89 := neA (q66 d56 f88).1
  have nf89 := neA (q66 d56 f88).2
  have f90 := g63_0.ext E66
  have f91 := g63_3.ext E66
  have f92 : Str Z h66 a66 yb66 k66 [(46 : Int32), (109 : Int32)] := ⟨Z66, Fc66, Fv66, V66, (allI ⟨by decide, by decide⟩ (allI ⟨by decide, by decide⟩ allN)), Nat.le_of_ble_eq_true rfl⟩
  have f93 := g63_1.ext E66
  have f94 := g63_2.ext E66
  have f95 := g63_4.ext E66
  refine X66.callV (W := 0) (w70 hw) (w71 hw) (w73 hw) (w72 hw) (nfs rfl (w73 hw)) (by decide) (X66.payM (sf := [d56]) (rmAppL hcx a54 a66 d56 kd56 (([] : List Int32) ++ [(95 : Int32)]) yb66 k66 [(46 : Int32), (109 : Int32)] h66 X66.old f90 f93 f94 f91 f95 f92 (by first | exact Nat.le_of_ble_eq_true rfl | omega) (leA (by omega)) (leA (by omega)) (neA (by omega))) (sfS f88 sf0) (w74 hw) (w54 hw)) f90 rfl (sz hml rfl) (argsL := [(.ref a66)]) (rest := []) (lenOf pd25 rfl) rfl rfl (mroom rfl rfl) (D d4_53) (by decide) (by decide) fun T96 h96 vm96 v96 X96 C96 z96 q96 => ?_
  obtain ⟨rfl, K96, g96_0, g96_1, g96_2, g96_3, g96_4⟩ := q96
  have l97 := ltA g96_0.lt
  have l98 := ltA g96_4.lt
  show Gets p e below _ (T96.setTop (mkF m 56 #[vR x, vR a50] [(.ref a54)]))
  have f99 : Fld Z h96 a54 "java/lang/AbstractStringBuilder" "count" "I" (.int (Int32.ofNat ([(95 : Int32), (46 : Int32), (109 : Int32)]).length)) := g96_3
  have f100 : Arv Z h96 d56 kd56 .byte (16 : Int32) (([(95 : Int32), (46 : Int32), (109 : Int32)].map fun c => c.toInt8.toInt32).map Value.int) (.int (0 : Int32)) := g96_4
  have u101 : ∀ z_ ∈ [(95 : Int32), (46 : Int32), (109 : Int32)], ¬ z_ < 0 ∧ ¬ (255 : Int32) < z_ := allI ⟨by decide, by decide⟩ (allI ⟨by decide, by decide⟩ (allI ⟨by decide, by decide⟩ (allN)))
  refine X96.callV (W := 0) (w109 hw) (w110 hw) (w112 hw) (w111 hw) (nfs rfl (w112 hw)) (by decide) (X96.payM (sf := []) (rmTs_0 hcx a54 d56 kd56 [(95 : Int32), (46 : Int32), (109 : Int32)] h96 X96.old g96_0 g96_1 g96_2 f99 f100 (by first | exact Nat.le_of_ble_eq_true rfl | omega) u101) sf0 (w113 hw) (w54 hw)) g96_0 rfl (sz hml rfl) (argsL := []) (rest := []) (lenOf pd26 rfl) rfl rfl (mroom rfl rfl) (D d4_56) (by decide) (by decide) fun T102 h102 vm102 v102 X102 C102 z102 q102 => ?_
  obtain ⟨a102, t102, kt102, rfl, K102, g102_0⟩ := q102
  have l103 := ltA g102_0.lt
  have l104 := ltA g102_0.lb
  exact X102.retA hret rfl rfl rfl (D d4_59) (by decide) (by decide) (fun vmE CE => ⟨a102, t102, kt102, rfl, (((((((((((((((Keep.refl h0 []).ext E3).ext E8).trans K10 (allS (Or.inr (leA (by omega))) all0)).ext E13).trans K25 (allS (Or.inr (leA (by omega))) (allS (Or.inr (leA (by omega))) all0))).trans K34 all0).trans K44 (allS (Or.inr (leA (by omega))) (allS (Or.inr (leA (by omega))) all0))).trans K50 all0).ext E54).trans K56 (allS (Or.inr (leA (by omega))) all0)).trans K63 (allS (Or.inr (leA (by omega))) (allS (Or.inr (leA (by omega))) all0))).ext E66).trans K96 (allS (Or.inr (leA (by omega))) (allS (Or.inr (leA (by omega))) all0))).trans K102 all0), g102_0⟩)
abbrev RrmRf2 : Room := { frames := 6, cells := 8, slots := 60, locals := 95 }
def QrmRf2 (Z : State) (x : Addr) (b : Addr) (kb : ClassId) (c0 : Int32) (c1 : Int32) (h0 : Heap) (v : Option Value) (vm : Vm) (h : Heap) : Prop := ∃ (a : Addr) (t : Addr) (kt : ClassId), v = some (.ref a) ∧ Keep h0 h [] ∧ Str Z h a t kt [c0, c1, (46 : Int32), (109 : Int32)]
theorem rmRf2 (hcx : Cx Z a0 zc fm) (x : Addr) (b : Addr) (kb : ClassId) (c0 : Int32) (c1 : Int32) (h0 : Heap) (O0 : Old Z Z.heap.size h0) (Pr0 : Str Z h0 x b kb [c0, c1]) (Pr1 : ¬ c0 = (37 : Int32)) : Met l Z consts_1 (⟨"com/example/packwright/packwright/io/SourceTree", "routineFileName", "(Ljava/lang/String;)Ljava/lang/String;"⟩ : MethodName) prog_22_method_21_code 2 (some (.object "java/lang/String")) [] RrmRf2 [] #[(.ref x)] h0 (QrmRf2 Z x b kb c0 c1 h0) := by
  have ⟨hw, hEL, O2, P5, O4, P6⟩ := hcx
  refine Met.start (a0 := a0) (Ls := #[vR x, .unset]) pn4 hEL O0 (fun m => by first | (simp [entryFrame, mkF, argsToLocals, Value.category]; done) | rfl) ?_
  intro p e s m below meth cc T0 vm0 X0 sf0_ D hml hret hnm hx zz A0
  have l1 := ltA Pr0.lt
  have l2 := ltA Pr0.lb
  refine Gets.via (fun _ k => (XS.aloadN A0 hx rfl (D d4_0) rfl rfl k)) ?_
  refine X0.ldcCW (w30 hw) (wSt hw) (by decide) (vs := [(.int (37 : Int32))]) (z := (1 : Int32)) ⟨by decide, by decide⟩ (by decide) (by decide) rfl (D d4_1) (n := 4) (by decide) (by decide) (by decide) (by decide) fun T3 h3 vm3 a3 yb3 k3 X3 C3 E3 Z3 Fc3 Fv3 V3 q3 => ?_
  have z3 := E3.1
  have l3 := ltA Z3.lt
  have lb3 := ltA V3.lt
  have f4 : Str Z h3 x b kb [c0, c1] := Pr0.ext E3
  have f5 : Str Z h3 a3 yb3 k3 [(37 : Int32)] := ⟨Z3, Fc3, Fv3, V3, (allI ⟨by decide, by decide⟩ allN), Nat.le_of_ble_eq_true rfl⟩
  refine X3.callV (W := 0) (w31 hw) (w32 hw) (w34 hw) (w33 hw) (nfs rfl (w34 hw)) (by decide) (X3.payM (sf := []) (rmSw1_2 hcx x a3 b kb yb3 k3 c0 c1 h3 X3.old f4 f5) sf0 (w35 hw) (w6 hw)) f4.1 rfl (sz hml rfl) (argsL := [(.ref a3)]) (rest := []) (lenOf pd23 rfl) rfl rfl (mroom rfl rfl) (D d4_4) (by decide) (by decide) fun T6 h6 vm6 v6 X6 C6 z6 q6 => ?_
  obtain ⟨r6, rfl, K6, rfl⟩ := q6
  rw [K6] at X6 C6
  have A7 := X6.at
  refine Gets.via (fun _ k => (XS.ifYes A7 hx rfl (pc0 := 7) (pc' := 37) rfl (D d4_7) rfl (Jvm.Free.XT.i0_eq_t (if_neg Pr1)) (by decide) (by decide) k)) ?_
  refine Gets.via (fun _ k => (XS.aloadN A7 hx rfl (D d4_37) rfl rfl (XS.astoreN A7 hx rfl (D d4_38) rfl rfl (l' := #[vR x, vR x]) rfl k))) ?_
  show Gets p e below _ (T6.setTop (mkF m 39 #[vR x, vR x] []))
  refine X6.new (w52 hw) (w53 hw) (w54 hw) rfl (D d4_39) (by decide) (by decide) fun T8 h8 a8 X8 C8 E8 g8 Z8 S8 D8 => ?_
  have z8 := E8.1
  have l8 := ltA Z8.lt
  have A9 := X8.at
  refine Gets.via (fun _ k => (XS.dup A9 hx rfl (D d4_42) rfl rfl k)) ?_
  refine X8.callI (y := (⟨"java/lang/StringBuilder", "<init>", "()V"⟩ : MethodName)) (W := 1) rfl (w55 hw) (w56 hw) (w57 hw) (by decide) (X8.payM (sf := []) (rmSbI hcx a8 h8 X8.old Z8 ((D8 (Or.inl (w67 hw)) (ty := (.array .byte)) (by decide) : Fld Z h8 a8 "java/lang/AbstractStringBuilder" "value" "[B" .null)) (D8 (Or.inl (w69 hw)) (ty := .byte) (by decide) : Fld Z h8 a8 "java/lang/AbstractStringBuilder" "coder" "B" (.int (0 : Int32))) (D8 (Or.inl (w82 hw)) (ty := .int) (by decide) : Fld Z h8 a8 "java/lang/AbstractStringBuilder" "count" "I" (.int (0 : Int32))) (leA (by omega))) sf0 (w57 hw) (w54 hw)) rfl (sz hml rfl) (a := a8) (argsL := []) (rest := [(.ref a8)]) (lenOf pd24 rfl) rfl rfl (mroom rfl rfl) (D d4_43) (by decide) (by decide) fun T10 h10 vm10 v10 X10 C10 z10 q10 => ?_
  obtain ⟨d10, kd10, rfl, K10, g10_0, g10_1, g10_2, g10_3, g10_4, g10_5, g10_6⟩ := q10
  have l11 := ltA g10_0.lt
  have l12 := ltA g10_4.lt
  have A13 := X10.at
  refine Gets.via (fun _ k => (XS.aloadN A13 hx rfl (D d4_46) rfl rfl k)) ?_
  have f14 : Str Z h8 x b kb [c0, c1] := f4.ext E8
  have l15 := neA (Exa.ne f14.1 Z8 (by decide))
  have f16 : Str Z h10 x b kb [c0, c1] := f14.keep K10 (ninS (neA (by omega)) nin0) (ninS (neA (by omega)) nin0)
  refine X10.callV (W := 0) (w70 hw) (w71 hw) (w73 hw) (w72 hw) (nfs rfl (w73 hw)) (by decide) (X10.payM (sf := [d10]) (rmAppL hcx a8 x d10 kd10 ([] : List Int32) b kb [c0, c1] h10 X10.old g10_0 g10_1 g10_2 g10_3 g10_4 f16 (by first | exact Nat.le_of_ble_eq_true rfl | omega) (leA (by omega)) (leA (by omega)) (neA (by omega))) (sfS g10_5 sf0) (w74 hw) (w54 hw)) g10_0 rfl (sz hml rfl) (argsL := [(.ref x)]) (rest := []) (lenOf pd25 rfl) rfl rfl (mroom rfl rfl) (D d4_47) (by decide) (by decide) fun T17 h17 vm17 v17 X17 C17 z17 q17 => ?_
  obtain ⟨rfl, K17, g17_0, g17_1, g17_2, g17_3, g17_4⟩ := q17
  have l18 := ltA g17_0.lt
  have l19 := ltA g17_4.lt
  refine X17.ldcCW (w108 hw) (wSt hw) (by decide) (vs := [(.int (46 : Int32)), (.int (109 : Int32))]) (z := (2 : Int32)) ⟨by decide, by decide⟩ (by decide) (by decide) rfl (D d4_50) (n := 8) (by decide) (by decide) (by decide) (by decide) fun T20 h20 vm20 a20 yb20 k20 X20 C20 E20 Z20 Fc20 Fv20 V20 q20 => ?_
  have z20 := E20.1
  have l20 := ltA Z20.lt
  have lb20 := ltA V20.lt
  have f21 := C10.safe (x := a8) (ltA (by omega)) S8
  have f22 := C17.safe (x := a8) (ltA (by omega)) f21
  have f23 := C20.safe (x := a8) (ltA (by omega)) f22
  have ne24 := neA (q20 a8 f23).1
  have nf24 := neA (q20 a8 f23).2
  have f25 := C17.safe (x := d10) (ltA (by omega)) g10_5
  have f26 := C20.safe (x := d10) (ltA (by omega)) f25
  have ne27 := neA (q20 d10 f26).1
  have nf27 := neA (q20 d10 f26).2
  show Gets p e below _ (T20.setTop (mkF m 53 #[vR x, vR x] [(.ref a20), (.ref a8)]))
  have f28 := g17_0.ext E20
  have f29 := g17_3.ext E20
  have f30 : Str Z h20 a20 yb20 k20 [(46 : Int32), (109 : Int32)] := ⟨Z20, Fc20, Fv20, V20, (allI ⟨by decide, by decide⟩ (allI ⟨by decide, by decide⟩ allN)), Nat.le_of_ble_eq_true rfl⟩
  have f31 := g17_1.ext E20
  have f32 := g17_2.ext E20
  have f33 := g17_4.ext E20
  refine X20.callV (W := 0) (w70 hw) (w71 hw) (w73 hw) (w72 hw) (nfs rfl (w73 hw)) (by decide) (X20.payM (sf := [d10]) (rmAppL hcx a8 a20 d10 kd10 (([] : List Int32) ++ [c0, c1]) yb20 k20 [(46 : Int32), (109 : Int32)] h20 X20.old f28 f31 f32 f29 f33 f30 (by first | exact Nat.le_of_ble_eq_true rfl | omega) (leA (by omega)) (leA (by omega)) (neA (by omega))) (sfS f26 sf0) (w74 hw) (w54 hw)) f28 rfl (sz hml rfl) (argsL := [(.ref a20)]) (rest := []) (lenOf pd25 rfl) rfl rfl (mroom rfl rfl) (D d4_53) (by decide) (by decide) fun T34 h34 vm34 v34 X34 C34 z34 q34 => ?_
  obtain ⟨rfl, K34, g34_0, g34_1, g34_2, g34_3, g34_4⟩ := q34
  have l35 := ltA g34_0.lt
  have l36 := ltA g34_4.lt
  have f37 : Fld Z h34 a8 "java/lang/AbstractStringBuilder" "count" "I" (.int (Int32.ofNat ([c0, c1, (46 : Int32), (109 : Int32)]).length)) := g34_3
  have f38 : Arv Z h34 d10 kd10 .byte (16 : Int32) (([c0, c1, (46 : Int32), (109 : Int32)].map fun c => c.toInt8.toInt32).map Value.int) (.int (0 : Int32)) := g34_4
  have u39 : ∀ z_ ∈ [c0, c1, (46 : Int32), (109 : Int32)], ¬ z_ < 0 ∧ ¬ (255 : Int32) < z_ := allI (Pr0.2.2.2.2.1 c0 (memI (i := 0) rfl)) (allI (Pr0.2.2.2.2.1 c1 (memI (i := 1) rfl)) (allI ⟨by decide, by decide⟩ (allI ⟨by decide, by decide⟩ (allN))))
  refine X34.callV (W := 0) (w109 hw) (w110 hw) (w112 hw) (w111 hw) (nfs rfl (w112 hw)) (by decide) (X34.payM (sf := []) (rmTs_0 hcx a8 d10 kd10 [c0, c1, (46 : Int32), (109 : Int32)] h34 X34.old g34_0 g34_1 g34_2 f37 f38 (by first | exact Nat.le_of_ble_eq_true rfl | omega) u39) sf0 (w113 hw) (w54 hw)) g34_0 rfl (sz hml rfl) (argsL := []) (rest := []) (lenOf pd26 rfl) rfl rfl (mroom rfl rfl) (D d4_56) (by decide) (by decide) fun T40 h40 vm40 v40 X40 C40 z40 q40 => ?_
  obtain ⟨a40, t40, kt40, rfl, K40, g40_0⟩ := q40
  have l41 := ltA g40_0.lt
  have l42 := ltA g40_0.lb
  exact X40.retA hret rfl rfl rfl (D d4_59) (by decide) (by decide) (fun vmE CE => ⟨a40, t40, kt40, rfl, ((((((((Keep.refl h0 []).ext E3).ext E8).trans K10 (allS (Or.inr (leA (by omega))) all0)).trans K17 (allS (Or.inr (leA (by omega))) (allS (Or.inr (leA (by omega))) all0))).ext E20).trans K34 (allS (Or.inr (leA (by omega))) (allS (Or.inr (leA (by omega))) all0))).trans K40 all0), g40_0⟩)
abbrev RrmRf2p : Room := { frames := 6, cells := 16, slots := 128, locals := 98 }
def QrmRf2p (Z : State) (x : Addr) (b : Addr) (kb : ClassId) (c0 : Int32) (c1 : Int32) (h0 : Heap) (v : Option Value) (vm : Vm) (h : Heap) : Prop := ∃ (a : Addr) (t : Addr) (kt : ClassId), v = some (.ref a) ∧ Keep h0 h [] ∧ Str Z h a t kt [(95 : Int32), c1, (46 : Int32), (109 : Int32)]
theorem rmRf2p (hcx : Cx Z a0 zc fm) (x : Addr) (b : Addr) (kb : ClassId) (c0 : Int32) (c1 : Int32) (h0 : Heap) (O0 : Old Z Z.heap.size h0) (Pr0 : Str Z h0 x b kb [c0, c1]) (Pr1 : c0 = (37 : Int32)) : Met l Z consts_1 (⟨"com/example/packwright/packwright/io/SourceTree", "routineFileName", "(Ljava/lang/String;)Ljava/lang/String;"⟩ : MethodName) prog_22_method_21_code 2 (some (.object "java/lang/String")) [] RrmRf2p [] #[(.ref x)] h0 (QrmRf2p Z x b kb c0 c1 h0) := by
  have ⟨hw, hEL, O2, P5, O4, P6⟩ := hcx
  refine Met.start (a0 := a0) (Ls := #[vR x, .unset]) pn4 hEL O0 (fun m => by first | (simp [entryFrame, mkF, argsToLocals, Value.category]; done) | rfl) ?_
  intro p e s m below meth cc T0 vm0 X0 sf0_ D hml hret hnm hx zz A0
  have l1 := ltA Pr0.lt
  have l2 := ltA Pr0.lb
  refine Gets.via (fun _ k => (XS.aloadN A0 hx rfl (D d4_0) rfl rfl k)) ?_
  refine X0.ldcCW (w30 hw) (wSt hw) (by decide) (vs := [(.int (37 : Int32))]) (z := (1 : Int32)) ⟨by decide, by decide⟩ (by decide) (by decide) rfl (D d4_1) (n := 4) (by decide) (by decide) (by decide) (by decide) fun T3 h3 vm3 a3 yb3 k3 X3 C3 E3 Z3 Fc3 Fv3 V3 q3 => ?_
  have z3 := E3.1
  have l3 := ltA Z3.lt
  have lb3 := ltA V3.lt
  have f4 : Str Z h3 x b kb [c0, c1] := Pr0.ext E3
  have f5 : Str Z h3 a3 yb3 k3 [(37 : Int32)] := ⟨Z3, Fc3, Fv3, V3, (allI ⟨by decide, by decide⟩ allN), Nat.le_of_ble_eq_true rfl⟩
  refine X3.callV (W := 0) (w31 hw) (w32 hw) (w34 hw) (w33 hw) (nfs rfl (w34 hw)) (by decide) (X3.payM (sf := []) (rmSw1_2 hcx x a3 b kb yb3 k3 c0 c1 h3 X3.old f4 f5) sf0 (w35 hw) (w6 hw)) f4.1 rfl (sz hml rfl) (argsL := [(.ref a3)]) (rest := []) (lenOf pd23 rfl) rfl rfl (mroom rfl rfl) (D d4_4) (by decide) (by decide) fun T6 h6 vm6 v6 X6 C6 z6 q6 => ?_
  obtain ⟨r6, rfl, K6, rfl⟩ := q6
  rw [K6] at X6 C6
  have A7 := X6.at
  refine Gets.via (fun _ k => (XS.ifNo A7 hx rfl (D d4_7) rfl (Jvm.Free.XT.i0_eq_f (by rw [if_pos Pr1]; decide)) k)) ?_
  refine X6.new (w52 hw) (w53 hw) (w54 hw) rfl (D d4_10) (by decide) (by decide) fun T8 h8 a8 X8 C8 E8 g8 Z8 S8 D8 => ?_
  have z8 := E8.1
  have l8 := ltA Z8.lt
  show Gets p e below _ (T8.setTop (mkF m 13 #[vR x, .unset] [(.ref a8)]))
  have A9 := X8.at
  refine Gets.via (fun _ k => (XS.dup A9 hx rfl (D d4_13) rfl rfl k)) ?_
  refine X8.callI (y := (⟨"java/lang/StringBuilder", "<init>", "()V"⟩ : MethodName)) (W := 1) rfl (w55 hw) (w56 hw) (w57 hw) (by decide) (X8.payM (sf := []) (rmSbI hcx a8 h8 X8.old Z8 ((D8 (Or.inl (w67 hw)) (ty := (.array .byte)) (by decide) : Fld Z h8 a8 "java/lang/AbstractStringBuilder" "value" "[B" .null)) (D8 (Or.inl (w69 hw)) (ty := .byte) (by decide) : Fld Z h8 a8 "java/lang/AbstractStringBuilder" "coder" "B" (.int (0 : Int32))) (D8 (Or.inl (w82 hw)) (ty := .int) (by decide) : Fld Z h8 a8 "java/lang/AbstractStringBuilder" "count" "I" (.int (0 : Int32))) (leA (by omega))) sf0 (w57 hw) (w54 hw)) rfl (sz hml rfl) (a := a8) (argsL := []) (rest := [(.ref a8)]) (lenOf pd24 rfl) rfl rfl (mroom rfl rfl) (D d4_14) (by decide) (by decide) fun T10 h10 vm10 v10 X10 C10 z10 q10 => ?_
  obtain ⟨d10, kd10, rfl, K10, g10_0, g10_1, g10_2, g10_3, g10_4, g10_5, g10_6⟩ := q10
  have l11 := ltA g10_0.lt
  have l12 := ltA g10_4.lt
  refine X10.ldcCW (w191 hw) (wSt hw) (by decide) (vs := [(.int (95 : Int32))]) (z := (1 : Int32)) ⟨by decide, by decide⟩ (by decide) (by decide) rfl (D d4_17) (n := 4) (by decide) (by decide) (by decide) (by decide) fun T13 h13 vm13 a13 yb13 k13 X13 C13 E13 Z13 Fc13 Fv13 V13 q13 => ?_
  have z13 := E13.1
  have l13 := ltA Z13.lt
  have lb13 := ltA V13.lt
  have f14 := C10.safe (x := a8) (ltA (by omega)) S8
  have f15 := C13.safe (x := a8) (ltA (by omega)) f14
  have ne16 := neA (q13 a8 f15).1
  have nf16 := neA (q13 a8 f15).2
  have f17 := C13.safe (x := d10) (ltA (by omega)) g10_5
  have ne18 := neA (q13 d10 f17).1
  have nf18 := neA (q13 d10 f17).2
  have f19 := g10_0.ext E13
  have f20 := g10_3.ext E13
  have f21 : Str Z h13 a13 yb13 k13 [(95 : Int32)] := ⟨Z13, Fc13, Fv13, V13, (allI ⟨by decide, by decide⟩ allN), Nat.le_of_ble_eq_true rfl⟩
  have f22 := g10_1.ext E13
  have f23 := g10_2.ext E13
  have f24 := g10_4.ext E13
  refine X13.callV (W := 0) (w70 hw) (w71 hw) (w73 hw) (w72 hw) (nfs rfl (w73 hw)) (by decide) (X13.payM (sf := [d10]) (rmAppL hcx a8 a13 d10 kd10 ([] : List Int32) yb13 k13 [(95 : Int32)] h13 X13.old f19 f22 f23 f20 f24 f21 (by first | exact Nat.le_of_ble_eq_true rfl | omega) (leA (by omega)) (leA (by omega)) (neA (by omega))) (sfS f17 sf0) (w74 hw) (w54 hw)) f19 rfl (sz hml rfl) (argsL := [(.ref a13)]) (rest := []) (lenOf pd25 rfl) rfl rfl (mroom rfl rfl) (D d4_20) (by decide) (by decide) fun T25 h25 vm25 v25 X25 C25 z25 q25 => ?_
  obtain ⟨rfl, K25, g25_0, g25_1, g25_2, g25_3, g25_4⟩ := q25
  have l26 := ltA g25_0.lt
  have l27 := ltA g25_4.lt
  have A28 := X25.at
  refine Gets.via (fun _ k => (XS.aloadN A28 hx rfl (D d4_23) rfl rfl (XS.iconst A28 hx rfl (D d4_24) k))) ?_
  show Gets p e below _ (T25.setTop (mkF m 25 #[vR x, .unset] [(.int (1 : Int32)), (.ref x), (.ref a8)]))
  have f29 : Str Z h8 x b kb [c0, c1] := f4.ext E8
  have l30 := neA (Exa.ne f29.1 Z8 (by decide))
  have f31 : Str Z h10 x b kb [c0, c1] := f29.keep K10 (ninS (neA (by omega)) nin0) (ninS (neA (by omega)) nin0)
  have f32 : Str Z h13 x b kb [c0, c1] := f31.ext E13
  have f33 : Str Z h25 x b kb [c0, c1] := f32.keep K25 (ninS (neA (by omega)) (ninS (neA (by omega)) nin0)) (ninS (neA (by omega)) (ninS (neA (by omega)) nin0))
  refine X25.callV (W := 1) (w192 hw) (w193 hw) (w195 hw) (w194 hw) (nfs rfl (w195 hw)) (by decide) (X25.payM (sf := []) (rmSub1_2 hcx x b kb c0 c1 h25 X25.old f33) sf0 (w196 hw) (w6 hw)) f33.1 rfl (sz hml rfl) (argsL := [(.int (1 : Int32))]) (rest := [(.ref a8)]) (lenOf pd27 rfl) rfl rfl (mroom rfl rfl) (D d4_25) (by decide) (by decide) fun T34 h34 vm34 v34 X34 C34 z34 q34 => ?_
  obtain ⟨a34, t34, kt34, rfl, K34, g34_0⟩ := q34
  have l35 := ltA g34_0.lt
  have l36 := ltA g34_0.lb
  have f37 := g25_0.keep K34
  have f38 := g25_3.keep K34 nin0
  have f39 := g25_1.keep K34 nin0
  have f40 := g25_2.keep K34 nin0
  have f41 := g25_4.keep K34 nin0
  have f42 := C25.safe (x := d10) (ltA (by omega)) f17
  have f43 := C34.safe (x := d10) (ltA (by omega)) f42
  refine X34.callV (W := 0) (w70 hw) (w71 hw) (w73 hw) (w72 hw) (nfs rfl (w73 hw)) (by decide) (X34.payM (sf := [d10]) (rmAppL hcx a8 a34 d10 kd10 (([] : List Int32) ++ [(95 : Int32)]) t34 kt34 [c1] h34 X34.old f37 f39 f40 f38 f41 g34_0 (by first | exact Nat.le_of_ble_eq_true rfl | omega) (leA (by omega)) (leA (by omega)) (neA (by omega))) (sfS f43 sf0) (w74 hw) (w54 hw)) f37 rfl (sz hml rfl) (argsL := [(.ref a34)]) (rest := []) (lenOf pd25 rfl) rfl rfl (mroom rfl rfl) (D d4_28) (by decide) (by decide) fun T44 h44 vm44 v44 X44 C44 z44 q44 => ?_
  obtain ⟨rfl, K44, g44_0, g44_1, g44_2, g44_3, g44_4⟩ := q44
  have l45 := ltA g44_0.lt
  have l46 := ltA g44_4.lt
  have f47 : Fld Z h44 a8 "java/lang/AbstractStringBuilder" "count" "I" (.int (Int32.ofNat ([(95 : Int32), c1]).length)) := g44_3
  have f48 : Arv Z h44 d10 kd10 .byte (16 : Int32) (([(95 : Int32), c1].map fun c => c.toInt8.toInt32).map Value.int) (.int (0 : Int32)) := g44_4
  have u49 : ∀ z_ ∈ [(95 : Int32), c1], ¬ z_ < 0 ∧ ¬ (255 : Int32) < z_ := allI ⟨by decide, by decide⟩ (allI (g34_0.2.2.2.2.1 c1 (memI (i := 0) rfl)) (allN))
  refine X44.callV (W := 0) (w109 hw) (w110 hw) (w112 hw) (w111 hw) (nfs rfl (w112 hw)) (by decide) (X44.payM (sf := []) (rmTs_0 hcx a8 d10 kd10 [(95 : Int32), c1] h44 X44.old g44_0 g44_1 g44_2 f47 f48 (by first | exact Nat.le_of_ble_eq_true rfl | omega) u49) sf0 (w113 hw) (w54 hw)) g44_0 rfl (sz hml rfl) (argsL := []) (rest := []) (lenOf pd26 rfl) rfl rfl (mroom rfl rfl) (D d4_31) (by decide) (by decide) fun T50 h50 vm50 v50 X50 C50 z50 q50 => ?_
  obtain ⟨a50, t50, kt50, rfl, K50, g50_0⟩ := q50
  have l51 := ltA g50_0.lt
  have l52 := ltA g50_0.lb
  have A53 := X50.at
  refine Gets.via (fun _ k => (XS.goto A53 hx rfl (pc0 := 34) (pc' := 38) rfl (D d4_34) (by decide) (by decide) k)) ?_
  refine Gets.via (fun _ k => (XS.astoreN A53 hx rfl (D d4_38) rfl rfl (l' := #[vR x, vR a50]) rfl k)) ?_
  refine X50.new (w52 hw) (w53 hw) (w54 hw) rfl (D d4_39) (by decide) (by decide) fun T54 h54 a54 X54 C54 E54 g54 Z54 S54 D54 => ?_
  have z54 := E54.1
  have l54 := ltA Z54.lt
  show Gets p e below _ (T54.setTop (mkF m 42 #[vR x, vR a50] [(.ref a54)]))
  have A55 := X54.at
  refine Gets.via (fun _ k => (XS.dup A55 hx rfl (D d4_42) rfl rfl k)) ?_
  refine X54.callI (y := (⟨"java/lang/StringBuilder", "<init>", "()V"⟩ : MethodName)) (W := 1) rfl (w55 hw) (w56 hw) (w57 hw) (by decide) (X54.payM (sf := []) (rmSbI hcx a54 h54 X54.old Z54 ((D54 (Or.inl (w67 hw)) (ty := (.array .byte)) (by decide) : Fld Z h54 a54 "java/lang/AbstractStringBuilder" "value" "[B" .null)) (D54 (Or.inl (w69 hw)) (ty := .byte) (by decide) : Fld Z h54 a54 "java/lang/AbstractStringBuilder" "coder" "B" (.int (0 : Int32))) (D54 (Or.inl (w82 hw)) (ty := .int) (by decide) : Fld Z h54 a54 "java/lang/AbstractStringBuilder" "count" "I" (.int (0 : Int32))) (leA (by omega))) sf0 (w57 hw) (w54 hw)) rfl (sz hml rfl) (a := a54) (argsL := []) (rest := [(.ref a54)]) (lenOf pd24 rfl) rfl rfl (mroom rfl rfl) (D d4_43) (by decide) (by decide) fun T56 h56 vm56 v56 X56 C56 z56 q56 => ?_
  obtain ⟨d56, kd56, rfl, K56, g56_0, g56_1, g56_2, g56_3, g56_4, g56_5, g56_6⟩ := q56
  have l57 := ltA g56_0.lt
  have l58 := ltA g56_4.lt
  have A59 := X56.at
  refine Gets.via (fun _ k => (XS.aloadN A59 hx rfl (D d4_46) rfl rfl k)) ?_
  have f60 : Str Z h54 a50 t50 kt50 [(95 : Int32), c1] := g50_0.ext E54
  have l61 := neA (Exa.ne f60.1 Z54 (by decide))
  have f62 : Str Z h56 a50 t50 kt50 [(95 : Int32), c1] := f60.keep K56 (ninS (neA (by omega)) nin0) (ninS (neA (by omega)) nin0)
  refine X56.callV (W := 0) (w70 hw) (w71 hw) (w73 hw) (w72 hw) (nfs rfl (w73 hw)) (by decide) (X56.payM (sf := [d56]) (rmAppL hcx a54 a50 d56 kd56 ([] : List Int32) t50 kt50 [(95 : Int32), c1] h56 X56.old g56_0 g56_1 g56_2 g56_3 g56_4 f62 (by first | exact Nat.le_of_ble_eq_true rfl | omega) (leA (by omega)) (leA (by omega)) (neA (by omega))) (sfS g56_5 sf0) (w74 hw) (w54 hw)) g56_0 rfl (sz hml rfl) (argsL := [(.ref a50)]) (rest := []) (lenOf pd25 rfl) rfl rfl (mroom rfl rfl) (D d4_47) (by decide) (by decide) fun T63 h63 vm63 v63 X63 C63 z63 q63 => ?_
  obtain ⟨rfl, K63, g63_0, g63_1, g63_2, g63_3, g63_4⟩ := q63
  have l64 := ltA g63_0.lt
  have l65 := ltA g63_4.lt
  refine X63.ldcCW (w108 hw) (wSt hw) (by decide) (vs := [(.int (46 : Int32)), (.int (109 : Int32))]) (z := (2 : Int32)) ⟨by decide, by decide⟩ (by decide) (by decide) rfl (D d4_50) (n := 8) (by decide) (by decide) (by decide) (by decide) fun T66 h66 vm66 a66 yb66 k66 X66 C66 E66 Z66 Fc66 Fv66 V66 q66 => ?_
  have z66 := E66.1
  have l66 := ltA Z66.lt
  have lb66 := ltA V66.lt
  have f67 := C25.safe (x := a8) (ltA (by omega)) f15
  have f68 := C34.safe (x := a8) (ltA (by omega)) f67
  have f69 := C44.safe (x := a8) (ltA (by omega)) f68
  have f70 := C50.safe (x := a8) (ltA (by omega)) f69
  have f71 := C54.safe (x := a8) (ltA (by omega)) f70
  have f72 := C56.safe (x := a8) (ltA (by omega)) f71
  have f73 := C63.safe (x := a8) (ltA (by omega)) f72
  have f74 := C66.safe (x := a8) (ltA (by omega)) f73
  have ne75 := neA (q66 a8 f74).1
  have nf75 := neA (q66 a8 f74).2
  have f76 := C44.safe (x := d10) (ltA (by omega)) f43
  have f77 := C50.safe (x := d10) (ltA (by omega)) f76
  have f78 := C54.safe (x := d10) (ltA (by omega)) f77
  have f79 := C56.safe (x := d10) (ltA (by omega)) f78
  have f80 := C63.safe (x := d10) (ltA (by omega)) f79
  have f81 := C66.safe (x := d10) (ltA (by omega)) f80
  have ne82 := neA (q66 d10 f81).1
  have nf82 := neA (q66 d10 f81).2
  have f83 := C56.safe (x := a54) (ltA (by omega)) S54
  have f84 := C63.safe (x := a54) (ltA (by omega)) f83
  have f85 := C66.safe (x := a54) (ltA (by omega)) f84
  have ne86 := neA (q66 a54 f85).1
  have nf86 := neA (q66 a54 f85).2
  have f87 := C63.safe (x := d56) (ltA (by omega)) g56_5
  have f88 := C66.safe (x := d56) (ltA (by omega)) f87
  have ne89 := neA (q66 d56 f88).1
  have nf89 := neA (q66 d56 f88).2
  have f90 := g63_0.ext E66
  have f91 := g63_3.ext E66
  have f92 : Str Z h66 a66 yb66 k66 [(46 : Int32), (109 : Int32)] := ⟨Z66, Fc66, Fv66, V66, (allI ⟨by decide, by decide⟩ (allI ⟨by decide, by decide⟩ allN)), Nat.le_of_ble_eq_true rfl⟩
  have f93 := g63_1.ext E66
  have f94 := g63_2.ext E66
  have f95 := g63_4.ext E66
  refine X66.callV (W := 0) (w70 hw) (w71 hw) (w73 hw) (w72 hw) (nfs rfl (w73 hw)) (by decide) (X66.payM (sf := [d56]) (rmAppL hcx a54 a66 d56 kd56 (([] : List Int32) ++ [(95 : Int32), c1]) yb66 k66 [(46 : Int32), (109 : Int32)] h66 X66.old f90 f93 f94 f91 f95 f92 (by first | exact Nat.le_of_ble_eq_true rfl | omega) (leA (by omega)) (leA (by omega)) (neA (by omega))) (sfS f88 sf0) (w74 hw) (w54 hw)) f90 rfl (sz hml rfl) (argsL := [(.ref a66)]) (rest := []) (lenOf pd25 rfl) rfl rfl (mroom rfl rfl) (D d4_53) (by decide) (by decide) fun T96 h96 vm96 v96 X96 C96 z96 q96 => ?_
  obtain ⟨rfl, K96, g96_0, g96_1, g96_2, g96_3, g96_4⟩ := q96
  have l97 := ltA g96_0.lt
  have l98 := ltA g96_4.lt
  show Gets p e below _ (T96.setTop (mkF m 56 #[vR x, vR a50] [(.ref a54)]))
  have f99 : Fld Z h96 a54 "java/lang/AbstractStringBuilder" "count" "I" (.int (Int32.ofNat ([(95 : Int32), c1, (46 : Int32), (109 : Int32)]).length)) := g96_3
  have f100 : Arv Z h96 d56 kd56 .byte (16 : Int32) (([(95 : Int32), c1, (46 : Int32), (109 : Int32)].map fun c => c.toInt8.toInt32).map Value.int) (.int (0 : Int32)) := g96_4
  have u101 : ∀ z_ ∈ [(95 : Int32), c1, (46 : Int32), (109 : Int32)], ¬ z_ < 0 ∧ ¬ (255 : Int32) < z_ := allI ⟨by decide, by decide⟩ (allI (g50_0.2.2.2.2.1 c1 (memI (i := 1) rfl)) (allI ⟨by decide, by decide⟩ (allI ⟨by decide, by decide⟩ (allN))))
  refine X96.callV (W := 0) (w109 hw) (w110 hw) (w112 hw) (w111 hw) (nfs rfl (w112 hw)) (by decide) (X96.payM (sf := []) (rmTs_0 hcx a54 d56 kd56 [(95 : Int32), c1, (46 : Int32), (109 : Int32)] h96 X96.old g96_0 g96_1 g96_2 f99 f100 (by first | exact Nat.le_of_ble_eq_true rfl | omega) u101) sf0 (w113 hw) (w54 hw)) g96_0 rfl (sz hml rfl) (argsL := []) (rest := []) (lenOf pd26 rfl) rfl rfl (mroom rfl rfl) (D d4_56) (by decide) (by decide) fun T102 h102 vm102 v102 X102 C102 z102 q102 => ?_
  obtain ⟨a102, t102, kt102, rfl, K102, g102_0⟩ := q102
  have l103 := ltA g102_0.lt
  have l104 := ltA g102_0.lb
  exact X102.retA hret rfl rfl rfl (D d4_59) (by decide) (by decide) (fun vmE CE => ⟨a102, t102, kt102, rfl, (((((((((((((((Keep.refl h0 []).ext E3).ext E8).trans K10 (allS (Or.inr (leA (by omega))) all0)).ext E13).trans K25 (allS (Or.inr (leA (by omega))) (allS (Or.inr (leA (by omega))) all0))).trans K34 all0).trans K44 (allS (Or.inr (leA (by omega))) (allS (Or.inr (leA (by omega))) all0))).trans K50 all0).ext E54).trans K56 (allS (Or.inr (leA (by omega))) all0)).trans K63 (allS (Or.inr (leA (by omega))) (allS (Or.inr (leA (by omega))) all0))).ext E66).trans K96 (allS (Or.inr (leA (by omega))) (allS (Or.inr (leA (by omega))) all0))).trans K102 all0), g102_0⟩)
abbrev RrmRf3 : Room := { frames := 6, cells := 8, slots := 60, locals := 95 }
def QrmRf3 (Z : State) (x : Addr) (b : Addr) (kb : ClassId) (c0 : Int32) (c1 : Int32) (c2 : Int32) (h0 : Heap) (v : Option Value) (vm : Vm) (h : Heap) : Prop := ∃ (a : Addr) (t : Addr) (kt : ClassId), v = some (.ref a) ∧ Keep h0 h [] ∧ Str Z h a t kt [c0, c1, c2, (46 : Int32), (109 : Int32)]
theorem rmRf3 (hcx : Cx Z a0 zc fm) (x : Addr) (b : Addr) (kb : ClassId) (c0 : Int32) (c1 : Int32) (c2 : Int32) (h0 : Heap) (O0 : Old Z Z.heap.size h0) (Pr0 : Str Z h0 x b kb [c0, c1, c2]) (Pr1 : ¬ c0 = (37 : Int32)) : Met l Z consts_1 (⟨"com/example/packwright/packwright/io/SourceTree", "routineFileName", "(Ljava/lang/String;)Ljava/lang/String;"⟩ : MethodName) prog_22_method_21_code 2 (some (.object "java/lang/String")) [] RrmRf3 [] #[(.ref x)] h0 (QrmRf3 Z x b kb c0 c1 c2 h0) := by
  have ⟨hw, hEL, O2, P5, O4, P6⟩ := hcx
  refine Met.start (a0 := a0) (Ls := #[vR x, .unset]) pn4 hEL O0 (fun m => by first | (simp [entryFrame, mkF, argsToLocals, Value.category]; done) | rfl) ?_
  intro p e s m below meth cc T0 vm0 X0 sf0_ D hml hret hnm hx zz A0
  have l1 := ltA Pr0.lt
  have l2 := ltA Pr0.lb
  refine Gets.via (fun _ k => (XS.aloadN A0 hx rfl (D d4_0) rfl rfl k)) ?_
  refine X0.ldcCW (w30 hw) (wSt hw) (by decide) (vs := [(.int (37 : Int32))]) (z := (1 : Int32)) ⟨by decide, by decide⟩ (by decide) (by decide) rfl (D d4_1) (n := 4) (by decide) (by decide) (by decide) (by decide) fun T3 h3 vm3 a3 yb3 k3 X3 C3 E3 Z3 Fc3 Fv3 V3 q3 => ?_
  have z3 := E3.1
  have l3 := ltA Z3.lt
  have lb3 := ltA V3.lt
  have f4 : Str Z h3 x b kb [c0, c1, c2] := Pr0.ext E3
  have f5 : Str Z h3 a3 yb3 k3 [(37 : Int32)] := ⟨Z3, Fc3, Fv3, V3, (allI ⟨by decide, by decide⟩ allN), Nat.le_of_ble_eq_true rfl⟩
  refine X3.callV (W := 0) (w31 hw) (w32 hw) (w34 hw) (w33 hw) (nfs rfl (w34 hw)) (by decide) (X3.payM (sf := []) (rmSw1_3 hcx x a3 b kb yb3 k3 c0 c1 c2 h3 X3.old f4 f5) sf0 (w35 hw) (w6 hw)) f4.1 rfl (sz hml rfl) (argsL := [(.ref a3)]) (rest := []) (lenOf pd23 rfl) rfl rfl (mroom rfl rfl) (D d4_4) (by decide) (by decide) fun T6 h6 vm6 v6 X6 C6 z6 q6 => ?_
  obtain ⟨r6, rfl, K6, rfl⟩ := q6
  rw [K6] at X6 C6
  have A7 := X6.at
  refine Gets.via (fun _ k => (XS.ifYes A7 hx rfl (pc0 := 7) (pc' := 37) rfl (D d4_7) rfl (Jvm.Free.XT.i0_eq_t (if_neg Pr1)) (by decide) (by decide) k)) ?_
  refine Gets.via (fun _ k => (XS.aloadN A7 hx rfl (D d4_37) rfl rfl (XS.astoreN A7 hx rfl (D d4_38) rfl rfl (l' := #[vR x, vR x]) rfl k))) ?_
  show Gets p e below _ (T6.setTop (mkF m 39 #[vR x, vR x] []))
  refine X6.new (w52 hw) (w53 hw) (w54 hw) rfl (D d4_39) (by decide) (by decide) fun T8 h8 a8 X8 C8 E8 g8 Z8 S8 D8 => ?_
  have z8 := E8.1
  have l8 := ltA Z8.lt
  have A9 := X8.at
  refine Gets.via (fun _ k => (XS.dup A9 hx rfl (D d4_42) rfl rfl k)) ?_
  refine X8.callI (y := (⟨"java/lang/StringBuilder", "<init>", "()V"⟩ : MethodName)) (W := 1) rfl (w55 hw) (w56 hw) (w57 hw) (by decide) (X8.payM (sf := []) (rmSbI hcx a8 h8 X8.old Z8 ((D8 (Or.inl (w67 hw)) (ty := (.array .byte)) (by decide) : Fld Z h8 a8 "java/lang/AbstractStringBuilder" "value" "[B" .null)) (D8 (Or.inl (w69 hw)) (ty := .byte) (by decide) : Fld Z h8 a8 "java/lang/AbstractStringBuilder" "coder" "B" (.int (0 : Int32))) (D8 (Or.inl (w82 hw)) (ty := .int) (by decide) : Fld Z h8 a8 "java/lang/AbstractStringBuilder" "count" "I" (.int (0 : Int32))) (leA (by omega))) sf0 (w57 hw) (w54 hw)) rfl (sz hml rfl) (a := a8) (argsL := []) (rest := [(.ref a8)]) (lenOf pd24 rfl) rfl rfl (mroom rfl rfl) (D d4_43) (by decide) (by decide) fun T10 h10 vm10 v10 X10 C10 z10 q10 => ?_
  obtain ⟨d10, kd10, rfl, K10, g10_0, g10_1, g10_2, g10_3, g10_4, g10_5, g10_6⟩ := q10
  have l11 := ltA g10_0.lt
  have l12 := ltA g10_4.lt
  have A13 := X10.at
  refine Gets.via (fun _ k => (XS.aloadN A13 hx rfl (D d4_46) rfl rfl k)) ?_
  have f14 : Str Z h8 x b kb [c0, c1, c2] := f4.ext E8
  have l15 := neA (Exa.ne f14.1 Z8 (by decide))
  have f16 : Str Z h10 x b kb [c0, c1, c2] := f14.keep K10 (ninS (neA (by omega)) nin0) (ninS (neA (by omega)) nin0)
  refine X10.callV (W := 0) (w70 hw) (w71 hw) (w73 hw) (w72 hw) (nfs rfl (w73 hw)) (by decide) (X10.payM (sf := [d10]) (rmAppL hcx a8 x d10 kd10 ([] : List Int32) b kb [c0, c1, c2] h10 X10.old g10_0 g10_1 g10_2 g10_3 g10_4 f16 (by first | exact Nat.le_of_ble_eq_true rfl | omega) (leA (by omega)) (leA (by omega)) (neA (by omega))) (sfS g10_5 sf0) (w74 hw) (w54 hw)) g10_0 rfl (sz hml rfl) (argsL := [(.ref x)]) (rest := []) (lenOf pd25 rfl) rfl rfl (mroom rfl rfl) (D d4_47) (by decide) (by decide) fun T17 h17 vm17 v17 X17 C17 z17 q17 => ?_
  obtain ⟨rfl, K17, g17_0, g17_1, g17_2, g17_3, g17_4⟩ := q17
  have l18 := ltA g17_0.lt
  have l19 := ltA g17_4.lt
  refine X17.ldcCW (w108 hw) (wSt hw) (by decide) (vs := [(.int (46 : Int32)), (.int (109 : Int32))]) (z := (2 : Int32)) ⟨by decide, by decide⟩ (by decide) (by decide) rfl (D d4_50) (n := 8) (by decide) (by decide) (by decide) (by decide) fun T20 h20 vm20 a20 yb20 k20 X20 C20 E20 Z20 Fc20 Fv20 V20 q20 => ?_
  have z20 := E20.1
  have l20 := ltA Z20.lt
  have lb20 := ltA V20.lt
  have f21 := C10.safe (x := a8) (ltA (by omega)) S8
  have f22 := C17.safe (x := a8) (ltA (by omega)) f21
  have f23 := C20.safe (x := a8) (ltA (by omega)) f22
  have ne24 := neA (q20 a8 f23).1
  have nf24 := neA (q20 a8 f23).2
  have f25 := C17.safe (x := d10) (ltA (by omega)) g10_5
  have f26 := C20.safe (x := d10) (ltA (by omega)) f25
  have ne27 := neA (q20 d10 f26).1
  have nf27 := neA (q20 d10 f26).2
  show Gets p e below _ (T20.setTop (mkF m 53 #[vR x, vR x] [(.ref a20), (.ref a8)]))
  have f28 := g17_0.ext E20
  have f29 := g17_3.ext E20
  have f30 : Str Z h20 a20 yb20 k20 [(46 : Int32), (109 : Int32)] := ⟨Z20, Fc20, Fv20, V20, (allI ⟨by decide, by decide⟩ (allI ⟨by decide, by decide⟩ allN)), Nat.le_of_ble_eq_true rfl⟩
  have f31 := g17_1.ext E20
  have f32 := g17_2.ext E20
  have f33 := g17_4.ext E20
  refine X20.callV (W := 0) (w70 hw) (w71 hw) (w73 hw) (w72 hw) (nfs rfl (w73 hw)) (by decide) (X20.payM (sf := [d10]) (rmAppL hcx a8 a20 d10 kd10 (([] : List Int32) ++ [c0, c1, c2]) yb20 k20 [(46 : Int32), (109 : Int32)] h20 X20.old f28 f31 f32 f29 f33 f30 (by first | exact Nat.le_of_ble_eq_true rfl | omega) (leA (by omega)) (leA (by omega)) (neA (by omega))) (sfS f26 sf0) (w74 hw) (w54 hw)) f28 rfl (sz hml rfl) (argsL := [(.ref a20)]) (rest := []) (lenOf pd25 rfl) rfl rfl (mroom rfl rfl) (D d4_53) (by decide) (by decide) fun T34 h34 vm34 v34 X34 C34 z34 q34 => ?_
  obtain ⟨rfl, K34, g34_0, g34_1, g34_2, g34_3, g34_4⟩ := q34
  have l35 := ltA g34_0.lt
  have l36 := ltA g34_4.lt
  have f37 : Fld Z h34 a8 "java/lang/AbstractStringBuilder" "count" "I" (.int (Int32.ofNat ([c0, c1, c2, (46 : Int32), (109 : Int32)]).length)) := g34_3
  have f38 : Arv Z h34 d10 kd10 .byte (16 : Int32) (([c0, c1, c2, (46 : Int32), (109 : Int32)].map fun c => c.toInt8.toInt32).map Value.int) (.int (0 : Int32)) := g34_4
  have u39 : ∀ z_ ∈ [c0, c1, c2, (46 : Int32), (109 : Int32)], ¬ z_ < 0 ∧ ¬ (255 : Int32) < z_ := allI (Pr0.2.2.2.2.1 c0 (memI (i := 0) rfl)) (allI (Pr0.2.2.2.2.1 c1 (memI (i := 1) rfl)) (allI (Pr0.2.2.2.2.1 c2 (memI (i := 2) rfl)) (allI ⟨by decide, by decide⟩ (allI ⟨by decide, by decide⟩ (allN)))))
  refine X34.callV (W := 0) (w109 hw) (w110 hw) (w112 hw) (w111 hw) (nfs rfl (w112 hw)) (by decide) (X34.payM (sf := []) (rmTs_0 hcx a8 d10 kd10 [c0, c1, c2, (46 : Int32), (109 : Int32)] h34 X34.old g34_0 g34_1 g34_2 f37 f38 (by first | exact Nat.le_of_ble_eq_true rfl | omega) u39) sf0 (w113 hw) (w54 hw)) g34_0 rfl (sz hml rfl) (argsL := []) (rest := []) (lenOf pd26 rfl) rfl rfl (mroom rfl rfl) (D d4_56) (by decide) (by decide) fun T40 h40 vm40 v40 X40 C40 z40 q40 => ?_
  obtain ⟨a40, t40, kt40, rfl, K40, g40_0⟩ := q40
  have l41 := ltA g40_0.lt
  have l42 := ltA g40_0.lb
  exact X40.retA hret rfl rfl rfl (D d4_59) (by decide) (by decide) (fun vmE CE => ⟨a40, t40, kt40, rfl, ((((((((Keep.refl h0 []).ext E3).ext E8).trans K10 (allS (Or.inr (leA (by omega))) all0)).trans K17 (allS (Or.inr (leA (by omega))) (allS (Or.inr (leA (by omega))) all0))).ext E20).trans K34 (allS (Or.inr (leA (by omega))) (allS (Or.inr (leA (by omega))) all0))).trans K40 all0), g40_0⟩)
abbrev RrmRf3p : Room := { frames := 6, cells := 16, slots := 128, locals := 98 }
def QrmRf3p (Z : State) (x : Addr) (b : Addr) (kb : ClassId) (c0 : Int32) (c1 : Int32) (c2 : Int32) (h0 : Heap) (v : Option Value) (vm : Vm) (h : Heap) : Prop := ∃ (a : Addr) (t : Addr) (kt : ClassId), v = some (.ref a) ∧ Keep h0 h [] ∧ Str Z h a t kt [(95 : Int32), c1, c2, (46 : Int32), (109 : Int32)]
theorem rmRf3p (hcx : Cx Z a0 zc fm) (x : Addr) (b : Addr) (kb : ClassId) (c0 : Int32) (c1 : Int32) (c2 : Int32) (h0 : Heap) (O0 : Old Z Z.heap.size h0) (Pr0 : Str Z h0 x b kb [c0, c1, c2]) (Pr1 : c0 = (37 : Int32)) : Met l Z consts_1 (⟨"com/example/packwright/packwright/io/SourceTree", "routineFileName", "(Ljava/lang/String;)Ljava/lang/String;"⟩ : MethodName) prog_22_method_21_code 2 (some (.object "java/lang/String")) [] RrmRf3p [] #[(.ref x)] h0 (QrmRf3p Z x b kb c0 c1 c2 h0) := by
  have ⟨hw, hEL, O2, P5, O4, P6⟩ := hcx
  refine Met.start (a0 := a0) (Ls := #[vR x, .unset]) pn4 hEL O0 (fun m => by first | (simp [entryFrame, mkF, argsToLocals, Value.category]; done) | rfl) ?_
  intro p e s m below meth cc T0 vm0 X0 sf0_ D hml hret hnm hx zz A0
  have l1 := ltA Pr0.lt
  have l2 := ltA Pr0.lb
  refine Gets.via (fun _ k => (XS.aloadN A0 hx rfl (D d4_0) rfl rfl k)) ?_
  refine X0.ldcCW (w30 hw) (wSt hw) (by decide) (vs := [(.int (37 : Int32))]) (z := (1 : Int32)) ⟨by decide, by decide⟩ (by decide) (by decide) rfl (D d4_1) (n := 4) (by decide) (by decide) (by decide) (by decide) fun T3 h3 vm3 a3 yb3 k3 X3 C3 E3 Z3 Fc3 Fv3 V3 q3 => ?_
  have z3 := E3.1
  have l3 := ltA Z3.lt
  have lb3 := ltA V3.lt
  have f4 : Str Z h3 x b kb [c0, c1, c2] := Pr0.ext E3
  have f5 : Str Z h3 a3 yb3 k3 [(37 : Int32)] := ⟨Z3, Fc3, Fv3, V3, (allI ⟨by decide, by decide⟩ allN), Nat.le_of_ble_eq_true rfl⟩
  refine X3.callV (W := 0) (w31 hw) (w32 hw) (w34 hw) (w33 hw) (nfs rfl (w34 hw)) (by decide) (X3.payM (sf := []) (rmSw1_3 hcx x a3 b kb yb3 k3 c0 c1 c2 h3 X3.old f4 f5) sf0 (w35 hw) (w6 hw)) f4.1 rfl (sz hml rfl) (argsL := [(.ref a3)]) (rest := []) (lenOf pd23 rfl) rfl rfl (mroom rfl rfl) (D d4_4) (by decide) (by decide) fun T6 h6 vm6 v6 X6 C6 z6 q6 => ?_
  obtain ⟨r6, rfl, K6, rfl⟩ := q6
  rw [K6] at X6 C6
  have A7 := X6.at
  refine Gets.via (fun _ k => (XS.ifNo A7 hx rfl (D d4_7) rfl (Jvm.Free.XT.i0_eq_f (by rw [if_pos Pr1]; decide)) k)) ?_
  refine X6.new (w52 hw) (w53 hw) (w54 hw) rfl (D d4_10) (by decide) (by decide) fun T8 h8 a8 X8 C8 E8 g8 Z8 S8 D8 => ?_
  have z8 := E8.1
  have l8 := ltA Z8.lt
  show Gets p e below _ (T8.setTop (mkF m 13 #[vR x, .unset] [(.ref a8)]))
  have A9 := X8.at
  refine Gets.via (fun _ k => (XS.dup A9 hx rfl (D d4_13) rfl rfl k)) ?_
  refine X8.callI (y := (⟨"java/lang/StringBuilder", "<init>", "()V"⟩ : MethodName)) (W := 1) rfl (w55 hw) (w56 hw) (w57 hw) (by decide) (X8.payM (sf := []) (rmSbI hcx a8 h8 X8.old Z8 ((D8 (Or.inl (w67 hw)) (ty := (.array .byte)) (by decide) : Fld Z h8 a8 "java/lang/AbstractStringBuilder" "value" "[B" .null)) (D8 (Or.inl (w69 hw)) (ty := .byte) (by decide) : Fld Z h8 a8 "java/lang/AbstractStringBuilder" "coder" "B" (.int (0 : Int32))) (D8 (Or.inl (w82 hw)) (ty := .int) (by decide) : Fld Z h8 a8 "java/lang/AbstractStringBuilder" "count" "I" (.int (0 : Int32))) (leA (by omega))) sf0 (w57 hw) (w54 hw)) rfl (sz hml rfl) (a := a8) (argsL := []) (rest := [(.ref a8)]) (lenOf pd24 rfl) rfl rfl (mroom rfl rfl) (D d4_14) (by decide) (by decide) fun T10 h10 vm10 v10 X10 C10 z10 q10 => ?_
  obtain ⟨d10, kd10, rfl, K10, g10_0, g10_1, g10_2, g10_3, g10_4, g10_5, g10_6⟩ := q10
  have l11 := ltA g10_0.lt
  have l12 := ltA g10_4.lt
  refine X10.ldcCW (w191 hw) (wSt hw) (by decide) (vs := [(.int (95 : Int32))]) (z := (1 : Int32)) ⟨by decide, by decide⟩ (by decide) (by decide) rfl (D d4_17) (n := 4) (by decide) (by decide) (by decide) (by decide) fun T13 h13 vm13 a13 yb13 k13 X13 C13 E13 Z13 Fc13 Fv13 V13 q13 => ?_
  have z13 := E13.1
  have l13 := ltA Z13.lt
  have lb13 := ltA V13.lt
  have f14 := C10.safe (x := a8) (ltA (by omega)) S8
  have f15 := C13.safe (x := a8) (ltA (by omega)) f14
  have ne16 := neA (q13 a8 f15).1
  have nf16 := neA (q13 a8 f15).2
  have f17 := C13.safe (x := d10) (ltA (by omega)) g10_5
  have ne18 := neA (q13 d10 f17).1
  have nf18 := neA (q13 d10 f17).2
  have f19 := g10_0.ext E13
  have f20 := g10_3.ext E13
  have f21 : Str Z h13 a13 yb13 k13 [(95 : Int32)] := ⟨Z13, Fc13, Fv13, V13, (allI ⟨by decide, by decide⟩ allN), Nat.le_of_ble_eq_true rfl⟩
  have f22 := g10_1.ext E13
  have f23 := g10_2.ext E13
  have f24 := g10_4.ext E13
  refine X13.callV (W := 0) (w70 hw) (w71 hw) (w73 hw) (w72 hw) (nfs rfl (w73 hw)) (by decide) (X13.payM (sf := [d10]) (rmAppL hcx a8 a13 d10 kd10 ([] : List Int32) yb13 k13 [(95 : Int32)] h13 X13.old f19 f22 f23 f20 f24 f21 (by first | exact Nat.le_of_ble_eq_true rfl | omega) (leA (by omega)) (leA (by omega)) (neA (by omega))) (sfS f17 sf0) (w74 hw) (w54 hw)) f19 rfl (sz hml rfl) (argsL := [(.ref a13)]) (rest := []) (lenOf pd25 rfl) rfl rfl (mroom rfl rfl) (D d4_20) (by decide) (by decide) fun T25 h25 vm25 v25 X25 C25 z25 q25 => ?_
  obtain ⟨rfl, K25, g25_0, g25_1, g25_2, g25_3, g25_4⟩ := q25
  have l26 := ltA g25_0.lt
  have l27 := ltA g25_4.lt
  have A28 := X25.at
  refine Gets.via (fun _ k => (XS.aloadN A28 hx rfl (D d4_23) rfl rfl (XS.iconst A28 hx rfl (D d4_24) k))) ?_
  show Gets p e below _ (T25.setTop (mkF m 25 #[vR x, .unset] [(.int (1 : Int32)), (.ref x), (.ref a8)]))
  have f29 : Str Z h8 x b kb [c0, c1, c2] := f4.ext E8
  have l30 := neA (Exa.ne f29.1 Z8 (by decide))
  have f31 : Str Z h10 x b kb [c0, c1, c2] := f29.keep K10 (ninS (neA (by omega)) nin0) (ninS (neA (by omega)) nin0)
  have f32 : Str Z h13 x b kb [c0, c1, c2] := f31.ext E13
  have f33 : Str Z h25 x b kb [c0, c1, c2] := f32.keep K25 (ninS (neA (by omega)) (ninS (neA (by omega)) nin0)) (ninS (neA (by omega)) (ninS (neA (by omega)) nin0))
  refine X25.callV (W := 1) (w192 hw) (w193 hw) (w195 hw) (w194 hw) (nfs rfl (w195 hw)) (by decide) (X25.payM (sf := []) (rmSub1_3 hcx x b kb c0 c1 c2 h25 X25.old f33) sf0 (w196 hw) (w6 hw)) f33.1 rfl (sz hml rfl) (argsL := [(.int (1 : Int32))]) (rest := [(.ref a8)]) (lenOf pd27 rfl) rfl rfl (mroom rfl rfl) (D d4_25) (by decide) (by decide) fun T34 h34 vm34 v34 X34 C34 z34 q34 => ?_
  obtain ⟨a34, t34, kt34, rfl, K34, g34_0⟩ := q34
  have l35 := ltA g34_0.lt
  have l36 := ltA g34_0.lb
  have f37 := g25_0.keep K34
  have f38 := g25_3.keep K34 nin0
  have f39 := g25_1.keep K34 nin0
  have f40 := g25_2.keep K34 nin0
  have f41 := g25_4.keep K34 nin0
  have f42 := C25.safe (x := d10) (ltA (by omega)) f17
  have f43 := C34.safe (x := d10) (ltA (by omega)) f42
  refine X34.callV (W := 0) (w70 hw) (w71 hw) (w73 hw) (w72 hw) (nfs rfl (w73 hw)) (by decide) (X34.payM (sf := [d10]) (rmAppL hcx a8 a34 d10 kd10 (([] : List Int32) ++ [(95 : Int32)]) t34 kt34 [c1, c2] h34 X34.old f37 f39 f40 f38 f41 g34_0 (by first | exact Nat.le_of_ble_eq_true rfl | omega) (leA (by omega)) (leA (by omega)) (neA (by omega))) (sfS f43 sf0) (w74 hw) (w54 hw)) f37 rfl (sz hml rfl) (argsL := [(.ref a34)]) (rest := []) (lenOf pd25 rfl) rfl rfl (mroom rfl rfl) (D d4_28) (by decide) (by decide) fun T44 h44 vm44 v44 X44 C44 z44 q44 => ?_
  obtain ⟨rfl, K44, g44_0, g44_1, g44_2, g44_3, g44_4⟩ := q44
  have l45 := ltA g44_0.lt
  have l46 := ltA g44_4.lt
  have f47 : Fld Z h44 a8 "java/lang/AbstractStringBuilder" "count" "I" (.int (Int32.ofNat ([(95 : Int32), c1, c2]).length)) := g44_3
  have f48 : Arv Z h44 d10 kd10 .byte (16 : Int32) (([(95 : Int32), c1, c2].map fun c => c.toInt8.toInt32).map Value.int) (.int (0 : Int32)) := g44_4
  have u49 : ∀ z_ ∈ [(95 : Int32), c1, c2], ¬ z_ < 0 ∧ ¬ (255 : Int32) < z_ := allI ⟨by decide, by decide⟩ (allI (g34_0.2.2.2.2.1 c1 (memI (i := 0) rfl)) (allI (g34_0.2.2.2.2.1 c2 (memI (i := 1) rfl)) (allN)))
  refine X44.callV (W := 0) (w109 hw) (w110 hw) (w112 hw) (w111 hw) (nfs rfl (w112 hw)) (by decide) (X44.payM (sf := []) (rmTs_0 hcx a8 d10 kd10 [(95 : Int32), c1, c2] h44 X44.old g44_0 g44_1 g44_2 f47 f48 (by first | exact Nat.le_of_ble_eq_true rfl | omega) u49) sf0 (w113 hw) (w54 hw)) g44_0 rfl (sz hml rfl) (argsL := []) (rest := []) (lenOf pd26 rfl) rfl rfl (mroom rfl rfl) (D d4_31) (by decide) (by decide) fun T50 h50 vm50 v50 X50 C50 z50 q50 => ?_
  obtain ⟨a50, t50, kt50, rfl, K50, g50_0⟩ := q50
  have l51 := ltA g50_0.lt
  have l52 := ltA g50_0.lb
  have A53 := X50.at
  refine Gets.via (fun _ k => (XS.goto A53 hx rfl (pc0 := 34) (pc' := 38) rfl (D d4_34) (by decide) (by decide) k)) ?_
  refine Gets.via (fun _ k => (XS.astoreN A53 hx rfl (D d4_38) rfl rfl (l' := #[vR x, vR a50]) rfl k)) ?_
  refine X50.new (w52 hw) (w53 hw) (w54 hw) rfl (D d4_39) (by decide) (by decide) fun T54 h54 a54 X54 C54 E54 g54 Z54 S54 D54 => ?_
  have z54 := E54.1
  have l54 := ltA Z54.lt
  show Gets p e below _ (T54.setTop (mkF m 42 #[vR x, vR a50] [(.ref a54)]))
  have A55 := X54.at
  refine Gets.via (fun _ k => (XS.dup A55 hx rfl (D d4_42) rfl rfl k)) ?_
  refine X54.callI (y := (⟨"java/lang/StringBuilder", "<init>", "()V"⟩ : MethodName)) (W := 1) rfl (w55 hw) (w56 hw) (w57 hw) (by decide) (X54.payM (sf := []) (rmSbI hcx a54 h54 X54.old Z54 ((D54 (Or.inl (w67 hw)) (ty := (.array .byte)) (by decide) : Fld Z h54 a54 "java/lang/AbstractStringBuilder" "value" "[B" .null)) (D54 (Or.inl (w69 hw)) (ty := .byte) (by decide) : Fld Z h54 a54 "java/lang/AbstractStringBuilder" "coder" "B" (.int (0 : Int32))) (D54 (Or.inl (w82 hw)) (ty := .int) (by decide) : Fld Z h54 a54 "java/lang/AbstractStringBuilder" "count" "I" (.int (0 : Int32))) (leA (by omega))) sf0 (w57 hw) (w54 hw)) rfl (sz hml rfl) (a := a54) (argsL := []) (rest := [(.ref a54)]) (lenOf pd24 rfl) rfl rfl (mroom rfl rfl) (D d4_43) (by decide) (by decide) fun T56 h56 vm56 v56 X56 C56 z56 q56 => ?_
  obtain ⟨d56, kd56, rfl, K56, g56_0, g56_1, g56_2, g56_3, g56_4, g56_5, g56_6⟩ := q56
  have l57 := ltA g56_0.lt
  have l58 := ltA g56_4.lt
  have A59 := X56.at
  refine Gets.via (fun _ k => (XS.aloadN A59 hx rfl (D d4_46) rfl rfl k)) ?_
  have f60 : Str Z h54 a50 t50 kt50 [(95 : Int32), c1, c2] := g50_0.ext E54
  have l61 := neA (Exa.ne f60.1 Z54 (by decide))
  have f62 : Str Z h56 a50 t50 kt50 [(95 : Int32), c1, c2] := f60.keep K56 (ninS (neA (by omega)) nin0) (ninS (neA (by omega)) nin0)
  refine X56.callV (W := 0) (w70 hw) (w71 hw) (w73 hw) (w72 hw) (nfs rfl (w73 hw)) (by decide) (X56.payM (sf := [d56]) (rmAppL hcx a54 a50 d56 kd56 ([] : List Int32) t50 kt50 [(95 : Int32), c1, c2] h56 X56.old g56_0 g56_1 g56_2 g56_3 g56_4 f62 (by first | exact Nat.le_of_ble_eq_true rfl | omega) (leA (by omega)) (leA (by omega)) (neA (by omega))) (sfS g56_5 sf0) (w74 hw) (w54 hw)) g56_0 rfl (sz hml rfl) (argsL := [(.ref a50)]) (rest := []) (lenOf pd25 rfl) rfl rfl (mroom rfl rfl) (D d4_47) (by decide) (by decide) fun T63 h63 vm63 v63 X63 C63 z63 q63 => ?_
  obtain ⟨rfl, K63, g63_0, g63_1, g63_2, g63_3, g63_4⟩ := q63
  have l64 := ltA g63_0.lt
  have l65 := ltA g63_4.lt
  refine X63.ldcCW (w108 hw) (wSt hw) (by decide) (vs := [(.int (46 : Int32)), (.int (109 : Int32))]) (z := (2 : Int32)) ⟨by decide, by decide⟩ (by decide) (by decide) rfl (D d4_50) (n := 8) (by decide) (by decide) (by decide) (by decide) fun T66 h66 vm66 a66 yb66 k66 X66 C66 E66 Z66 Fc66 Fv66 V66 q66 => ?_
  have z66 := E66.1
  have l66 := ltA Z66.lt
  have lb66 := ltA V66.lt
  have f67 := C25.safe (x := a8) (ltA (by omega)) f15
  have f68 := C34.safe (x := a8) (ltA (by omega)) f67
  have f69 := C44.safe (x := a8) (ltA (by omega)) f68
  have f70 := C50.safe (x := a8) (ltA (by omega)) f69
  have f71 := C54.safe (x := a8) (ltA (by omega)) f70
  have f72 := C56.safe (x := a8) (ltA (by omega)) f71
  have f73 := C63.safe (x := a8) (ltA (by omega)) f72
  have f74 := C66.safe (x := a8) (ltA (by omega)) f73
  have ne75 := neA (q66 a8 f74).1
  have nf75 := neA (q66 a8 f74).2
  have f76 := C44.safe (x := d10) (ltA (by omega)) f43
  have f77 := C50.safe (x := d10) (ltA (by omega)) f76
  have f78 := C54.safe (x := d10) (ltA (by omega)) f77
  have f79 := C56.safe (x := d10) (ltA (by omega)) f78
  have f80 := C63.safe (x := d10) (ltA (by omega)) f79
  have f81 := C66.safe (x := d10) (ltA (by omega)) f80
  have ne82 := neA (q66 d10 f81).1
  have nf82 := neA (q66 d10 f81).2
  have f83 := C56.safe (x := a54) (ltA (by omega)) S54
  have f84 := C63.safe (x := a54) (ltA (by omega)) f83
  have f85 := C66.safe (x := a54) (ltA (by omega)) f84
  have ne86 := neA (q66 a54 f85).1
  have nf86 := neA (q66 a54 f85).2
  have f87 := C63.safe (x := d56) (ltA (by omega)) g56_5
  have f88 := C66.safe (x := d56) (ltA (by omega)) f87
  have ne89 := neA (q66 d56 f88).1
  have nf89 := neA (q66 d56 f88).2
  have f90 := g63_0.ext E66
  have f91 := g63_3.ext E66
  have f92 : Str Z h66 a66 yb66 k66 [(46 : Int32), (109 : Int32)] := ⟨Z66, Fc66, Fv66, V66, (allI ⟨by decide, by decide⟩ (allI ⟨by decide, by decide⟩ allN)), Nat.le_of_ble_eq_true rfl⟩
  have f93 := g63_1.ext E66
  have f94 := g63_2.ext E66
  have f95 := g63_4.ext E66
  refine X66.callV (W := 0) (w70 hw) (w71 hw) (w73 hw) (w72 hw) (nfs rfl (w73 hw)) (by decide) (X66.payM (sf := [d56]) (rmAppL hcx a54 a66 d56 kd56 (([] : List Int32) ++ [(95 : Int32), c1, c2]) yb66 k66 [(46 : Int32), (109 : Int32)] h66 X66.old f90 f93 f94 f91 f95 f92 (by first | exact Nat.le_of_ble_eq_true rfl | omega) (leA (by omega)) (leA (by omega)) (neA (by omega))) (sfS f88 sf0) (w74 hw) (w54 hw)) f90 rfl (sz hml rfl) (argsL := [(.ref a66)]) (rest := []) (lenOf pd25 rfl) rfl rfl (mroom rfl rfl) (D d4_53) (by decide) (by decide) fun T96 h96 vm96 v96 X96 C96 z96 q96 => ?_
  obtain ⟨rfl, K96, g96_0, g96_1, g96_2, g96_3, g96_4⟩ := q96
  have l97 := ltA g96_0.lt
  have l98 := ltA g96_4.lt
  show Gets p e below _ (T96.setTop (mkF m 56 #[vR x, vR a50] [(.ref a54)]))
  have f99 : Fld Z h96 a54 "java/lang/AbstractStringBuilder" "count" "I" (.int (Int32.ofNat ([(95 : Int32), c1, c2, (46 : Int32), (109 : Int32)]).length)) := g96_3
  have f100 : Arv Z h96 d56 kd56 .byte (16 : Int32) (([(95 : Int32), c1, c2, (46 : Int32), (109 : Int32)].map fun c => c.toInt8.toInt32).map Value.int) (.int (0 : Int32)) := g96_4
  have u101 : ∀ z_ ∈ [(95 : Int32), c1, c2, (46 : Int32), (109 : Int32)], ¬ z_ < 0 ∧ ¬ (255 : Int32) < z_ := allI ⟨by decide, by decide⟩ (allI (g50_0.2.2.2.2.1 c1 (memI (i := 1) rfl)) (allI (g50_0.2.2.2.2.1 c2 (memI (i := 2) rfl)) (allI ⟨by decide, by decide⟩ (allI ⟨by decide, by decide⟩ (allN)))))
  refine X96.callV (W := 0) (w109 hw) (w110 hw) (w112 hw) (w111 hw) (nfs rfl (w112 hw)) (by decide) (X96.payM (sf := []) (rmTs_0 hcx a54 d56 kd56 [(95 : Int32), c1, c2, (46 : Int32), (109 : Int32)] h96 X96.old g96_0 g96_1 g96_2 f99 f100 (by first | exact Nat.le_of_ble_eq_true rfl | omega) u101) sf0 (w113 hw) (w54 hw)) g96_0 rfl (sz hml rfl) (argsL := []) (rest := []) (lenOf pd26 rfl) rfl rfl (mroom rfl rfl) (D d4_56) (by decide) (by decide) fun T102 h102 vm102 v102 X102 C102 z102 q102 => ?_
  obtain ⟨a102, t102, kt102, rfl, K102, g102_0⟩ := q102
  have l103 := ltA g102_0.lt
  have l104 := ltA g102_0.lb
  exact X102.retA hret rfl rfl rfl (D d4_59) (by decide) (by decide) (fun vmE CE => ⟨a102, t102, kt102, rfl, (((((((((((((((Keep.refl h0 []).ext E3).ext E8).trans K10 (allS (Or.inr (leA (by omega))) all0)).ext E13).trans K25 (allS (Or.inr (leA (by omega))) (allS (Or.inr (leA (by omega))) all0))).trans K34 all0).trans K44 (allS (Or.inr (leA (by omega))) (allS (Or.inr (leA (by omega))) all0))).trans K50 all0).ext E54).trans K56 (allS (Or.inr (leA (by omega))) all0)).trans K63 (allS (Or.inr (leA (by omega))) (allS (Or.inr (leA (by omega))) all0))).ext E66).trans K96 (allS (Or.inr (leA (by omega))) (allS (Or.inr (leA (by omega))) all0))).trans K102 all0), g102_0⟩)
abbrev RrmLaw : Room := room_1
def QrmLaw (Z : State) (p0 : Int32) (p1 : Int32) (p2 : Int32) (p3 : Int32) (h0 : Heap) (v : Option Value) (vm : Vm) (h : Heap) : Prop := v = some (.int (1 : Int32)) ∧ Keep h0 h []
theorem rmLaw (hcx : Cx Z a0 zc fm) (p0 : Int32) (p1 : Int32) (p2 : Int32) (p3 : Int32) (h0 : Heap) (O0 : Old Z Z.heap.size h0)  : Met l Z consts_1 x code maxLocals ret tables_1 RrmLaw [] #[(.int p0), (.int p1), (.int p2), (.int p3)] h0 (QrmLaw Z p0 p1 p2 p3 h0) := by
  have ⟨hw, hEL, O2, P5, O4, P6⟩ := hcx
  refine Met.start (a0 := a0) (Ls := #[vI p0, vI p1, vI p2, vI p3, .unset, .unset, .unset, .unset, .unset, .unset, .unset]) pn43 hEL O0 (fun m => by first | (simp [entryFrame, mkF, argsToLocals, Value.category, maxLocals]; done) | rfl) ?_
  intro p e s m below meth cc T0 vm0 X0 sf0_ D hml hret hnm hx zz A0
  refine Gets.via (fun _ k => (XS.iloadN A0 hx rfl (D at_0) rfl (XS.iconst A0 hx rfl (D at_1) (XS.iand A0 hx rfl (D at_2) rfl (XS.istore A0 hx rfl (D at_3) rfl (l' := #[vI p0, vI p1, vI p2, vI p3, vI (p0 &&& (3 : Int32)), .unset, .unset, .unset, .unset, .unset, .unset]) rfl (XS.iload A0 hx rfl (D at_5) rfl (XS.iconst A0 hx rfl (D at_7) k))))))) ?_
  have j24 : ∀ (T1 : State) (X1 : Wk p l e RrmLaw s m #[(.int p0), (.int p1), (.int p2), (.int p3)] below meth cc x.cls Z a0 consts_1 h0 T1 h0 vm0 0 0) (nn : Int32) (hn : nn = 0 ∨ nn = 1 ∨ nn = 2 ∨ nn = 3), Gets p e below (Jvm.Ow.Out s Z consts_1 RrmLaw (QrmLaw Z p0 p1 p2 p3 h0)) (T1.setTop (mkF m 24 #[vI p0, vI p1, vI p2, vI p3, vI nn, .unset, .unset, .unset, .unset, .unset, .unset] [])) := by
    intro T1 X1 nn hn
    have A2 := X1.at
    refine Gets.via (fun _ k => (XS.iloadN A2 hx rfl (D at_24) rfl (XS.sipush A2 hx rfl (D at_25) (XS.iand A2 hx rfl (D at_28) rfl k)))) ?_
    show Gets p e below _ (T1.setTop (mkF m 29 #[vI p0, vI p1, vI p2, vI p3, vI nn, .unset, .unset, .unset, .unset, .unset, .unset] [(.int (p1 &&& (256 : Int32)))]))
    have j43 : ∀ (T3 : State) (X3 : Wk p l e RrmLaw s m #[(.int p0), (.int p1), (.int p2), (.int p3)] below meth cc x.cls Z a0 consts_1 h0 T3 h0 vm0 0 0) (q5 : Int32) (hq5 : ¬ q5 < 0 ∧ ¬ (255 : Int32) < q5), Gets p e below (Jvm.Ow.Out s Z consts_1 RrmLaw (QrmLaw Z p0 p1 p2 p3 h0)) (T3.setTop (mkF m 43 #[vI p0, vI p1, vI p2, vI p3, vI nn, .unset, .unset, .unset, .unset, .unset, .unset] [(.int q5)])) := by
      intro T3 X3 q5 hq5
      have A4 := X3.at
      refine Gets.via (fun _ k => (XS.istore A4 hx rfl (D at_43) rfl (l' := #[vI p0, vI p1, vI p2, vI p3, vI nn, vI q5, .unset, .unset, .unset, .unset, .unset]) rfl (XS.iloadN A4 hx rfl (D at_45) rfl (XS.sipush A4 hx rfl (D at_46) (XS.iand A4 hx rfl (D at_49) rfl k))))) ?_
      have j64 : ∀ (T5 : State) (X5 : Wk p l e RrmLaw s m #[(.int p0), (.int p1), (.int p2), (.int p3)] below meth cc x.cls Z a0 consts_1 h0 T5 h0 vm0 0 0) (q6 : Int32) (hq6 : ¬ q6 < 0 ∧ ¬ (255 : Int32) < q6), Gets p e below (Jvm.Ow.Out s Z consts_1 RrmLaw (QrmLaw Z p0 p1 p2 p3 h0)) (T5.setTop (mkF m 64 #[vI p0, vI p1, vI p2, vI p3, vI nn, vI q5, .unset, .unset, .unset, .unset, .unset] [(.int q6)])) := by
        intro T5 X5 q6 hq6
        have A6 := X5.at
        refine Gets.via (fun _ k => (XS.istore A6 hx rfl (D at_64) rfl (l' := #[vI p0, vI p1, vI p2, vI p3, vI nn, vI q5, vI q6, .unset, .unset, .unset, .unset]) rfl (XS.iloadN A6 hx rfl (D at_66) rfl (XS.sipush A6 hx rfl (D at_67) (XS.iand A6 hx rfl (D at_70) rfl (i2cV A6 hx rfl (D at_71) rfl (v := (p3 &&& (255 : Int32))) (i2c_m255 _) (XS.istore A6 hx rfl (D at_72) rfl (l' := #[vI p0, vI p1, vI p2, vI p3, vI nn, vI q5, vI q6, vI (p3 &&& (255 : Int32)), .unset, .unset, .unset]) rfl k))))))) ?_
        rcases hn with rfl | rfl | rfl | rfl
        · skip
          skip
          refine Gets.via (fun _ k => (XS.iload A6 hx rfl (D at_74) rfl (XS.iload A6 hx rfl (D at_76) rfl (XS.iload A6 hx rfl (D at_78) rfl (XS.iload A6 hx rfl (D at_80) rfl k))))) ?_
          show Gets p e below _ (T5.setTop (mkF m 82 #[vI p0, vI p1, vI p2, vI p3, vI (0 : Int32), vI q5, vI q6, vI (p3 &&& (255 : Int32)), .unset, .unset, .unset] [(.int (p3 &&& (255 : Int32))), (.int q6), (.int q5), (.int (0 : Int32))]))
          refine X5.callS (W := 0) (w0 hw) (w1 hw) (w2 hw) (w3 hw) (by decide) (X5.payM (sf := []) (rmMake0 hcx q5 q6 (p3 &&& (255 : Int32)) h0 X5.old ) sf0 (w3 hw) (w2 hw)) rfl (sz hml rfl) (argsL := [(.int (0 : Int32)), (.int q5), (.int q6), (.int (p3 &&& (255 : Int32)))]) (rest := []) (lenOf pd28 rfl) rfl rfl (mroom rfl rfl) (D at_82) (by decide) (by decide) fun T7 h7 vm7 v7 X7 C7 z7 q7 => ?_
          obtain ⟨a7, b7, kb7, rfl, K7, g7_0⟩ := q7
          have l8 := ltA g7_0.lt
          have l9 := ltA g7_0.lb
          have A10 := X7.at
          refine Gets.via (fun _ k => (XS.astore A10 hx rfl (D at_85) rfl rfl (l' := #[vI p0, vI p1, vI p2, vI p3, vI (0 : Int32), vI q5, vI q6, vI (p3 &&& (255 : Int32)), vR a7, .unset, .unset]) rfl (XS.aload A10 hx rfl (D at_87) rfl rfl k))) ?_
          refine X7.callS (W := 0) (w26 hw) (w27 hw) (w28 hw) (w29 hw) (by decide) (X7.payM (sf := []) (rmRf0 hcx a7 b7 kb7 h7 X7.old g7_0) sf0 (w29 hw) (w28 hw)) rfl (sz hml rfl) (argsL := [(.ref a7)]) (rest := []) (lenOf pd29 rfl) rfl rfl (mroom rfl rfl) (D at_89) (by decide) (by decide) fun T11 h11 vm11 v11 X11 C11 z11 q11 => ?_
          obtain ⟨a11, t11, kt11, rfl, K11, g11_0⟩ := q11
          have l12 := ltA g11_0.lt
          have l13 := ltA g11_0.lb
          have A14 := X11.at
          refine Gets.via (fun _ k => (XS.astore A14 hx rfl (D at_92) rfl rfl (l' := #[vI p0, vI p1, vI p2, vI p3, vI (0 : Int32), vI q5, vI q6, vI (p3 &&& (255 : Int32)), vR a7, vR a11, .unset]) rfl (XS.aload A14 hx rfl (D at_94) rfl rfl (XS.ifnullNo A14 hx rfl (D at_96) rfl k)))) ?_
          refine Gets.via (fun _ k => (XS.aload A14 hx rfl (D at_99) rfl rfl k)) ?_
          show Gets p e below _ (T11.setTop (mkF m 101 #[vI p0, vI p1, vI p2, vI p3, vI (0 : Int32), vI q5, vI q6, vI (p3 &&& (255 : Int32)), vR a7, vR a11, .unset] [(.ref a11)]))
          refine X11.callV (W := 0) (w154 hw) (w42 hw) (w44 hw) (w43 hw) (nfs rfl (w44 hw)) (by decide) (X11.payM (sf := []) (rmLen0 hcx a11 t11 kt11 [(46 : Int32), (109 : Int32)] h11 X11.old g11_0) sf0 (w45 hw) (w6 hw)) g11_0.1 rfl (sz hml rfl) (argsL := []) (rest := []) (lenOf pd7 rfl) rfl rfl (mroom rfl rfl) (D at_101) (by decide) (by decide) fun T15 h15 vm15 v15 X15 C15 z15 q15 => ?_
          obtain ⟨rfl, K15⟩ := q15
          rw [K15] at X15 C15
          show Gets p e below _ (T15.setTop (mkF m 104 #[vI p0, vI p1, vI p2, vI p3, vI (0 : Int32), vI q5, vI q6, vI (p3 &&& (255 : Int32)), vR a7, vR a11, .unset] [(.int (2 : Int32))]))
          have A16 := X15.at
          refine Gets.via (fun _ k => (XS.iload A16 hx rfl (D at_104) rfl (XS.iconst A16 hx rfl (D at_106) (iaddV A16 hx rfl (D at_107) rfl (v := (2 : Int32)) (by decide) (XS.icmpYes A16 hx rfl (pc0 := 108) (pc' := 113) rfl (D at_108) rfl (Jvm.Free.XT.ii_eq_t (by decide)) (by decide) (by decide) k))))) ?_
          refine Gets.via (fun _ k => (XS.iload A16 hx rfl (D at_113) rfl (XS.iconst A16 hx rfl (D at_115) (XS.icmpYes A16 hx rfl (pc0 := 116) (pc' := 148) rfl (D at_116) rfl (Jvm.Free.XT.ii_lt_t (by decide)) (by decide) (by decide) k)))) ?_
          refine Gets.via (fun _ k => (XS.iload A16 hx rfl (D at_148) rfl (XS.iconst A16 hx rfl (D at_150) (XS.icmpYes A16 hx rfl (pc0 := 151) (pc' := 167) rfl (D at_151) rfl (Jvm.Free.XT.ii_lt_t (by decide)) (by decide) (by decide) k)))) ?_
          refine Gets.via (fun _ k => (XS.iload A16 hx rfl (D at_167) rfl (XS.iconst A16 hx rfl (D at_169) (XS.icmpYes A16 hx rfl (pc0 := 170) (pc' := 186) rfl (D at_170) rfl (Jvm.Free.XT.ii_lt_t (by decide)) (by decide) (by decide) k)))) ?_
          show Gets p e below _ (T15.setTop (mkF m 186 #[vI p0, vI p1, vI p2, vI p3, vI (0 : Int32), vI q5, vI q6, vI (p3 &&& (255 : Int32)), vR a7, vR a11, .unset] []))
          refine Gets.via (fun _ k => (XS.aload A16 hx rfl (D at_186) rfl rfl (XS.iload A16 hx rfl (D at_188) rfl k))) ?_
          refine X15.callV (W := 0) (w155 hw) (w156 hw) (w158 hw) (w157 hw) (nfs rfl (w158 hw)) (by decide) (payCh X15 hw (w5 hw) g11_0 O2 P5 O4 P6 (0) (Nat.le_of_ble_eq_true rfl) rfl (by decide) (by decide)) g11_0.1 rfl (sz hml rfl) (argsL := [(.int (0 : Int32))]) (rest := []) (lenOf pd30 rfl) rfl rfl (mroom rfl rfl) (D at_190) (by decide) (by decide) fun T17 h17 vm17 v17 X17 C17 z17 q17 => ?_
          obtain ⟨rfl, K17⟩ := q17
          rw [K17] at X17 C17
          show Gets p e below _ (T17.setTop (mkF m 193 #[vI p0, vI p1, vI p2, vI p3, vI (0 : Int32), vI q5, vI q6, vI (p3 &&& (255 : Int32)), vR a7, vR a11, .unset] [(.int (46 : Int32))]))
          have A18 := X17.at
          refine Gets.via (fun _ k => (XS.bipush A18 hx rfl (D at_193) (XS.icmpNo A18 hx rfl (D at_195) rfl (Jvm.Free.XT.ii_ne_f (by decide)) k))) ?_
          refine Gets.via (fun _ k => (XS.aload A18 hx rfl (D at_198) rfl rfl (XS.iload A18 hx rfl (D at_200) rfl (XS.iconst A18 hx rfl (D at_202) (iaddV A18 hx rfl (D at_203) rfl (v := (1 : Int32)) (by decide) k))))) ?_
          refine X17.callV (W := 0) (w155 hw) (w156 hw) (w158 hw) (w157 hw) (nfs rfl (w158 hw)) (by decide) (payCh X17 hw (w5 hw) g11_0 O2 P5 O4 P6 (1) (Nat.le_of_ble_eq_true rfl) rfl (by decide) (by decide)) g11_0.1 rfl (sz hml rfl) (argsL := [(.int (1 : Int32))]) (rest := []) (lenOf pd30 rfl) rfl rfl (mroom rfl rfl) (D at_204) (by decide) (by decide) fun T19 h19 vm19 v19 X19 C19 z19 q19 => ?_
          obtain ⟨rfl, K19⟩ := q19
          rw [K19] at X19 C19
          show Gets p e below _ (T19.setTop (mkF m 207 #[vI p0, vI p1, vI p2, vI p3, vI (0 : Int32), vI q5, vI q6, vI (p3 &&& (255 : Int32)), vR a7, vR a11, .unset] [(.int (109 : Int32))]))
          have A20 := X19.at
          refine Gets.via (fun _ k => (XS.bipush A20 hx rfl (D at_207) (XS.icmpNo A20 hx rfl (D at_209) rfl (Jvm.Free.XT.ii_ne_f (by decide)) k))) ?_
          refine Gets.via (fun _ k => (XS.iconst A20 hx rfl (D at_212) (XS.goto A20 hx rfl (pc0 := 213) (pc' := 217) rfl (D at_213) (by decide) (by decide) k))) ?_
          exact X19.retI hret (by decide) (by simp) (D at_217) (by decide) (by decide) (fun vmE CE => ⟨rfl, (((Keep.refl h0 []).trans K7 all0).trans K11 all0)⟩)
        · skip
          rcases Classical.em (q5 = (37 : Int32)) with rfl | hq
          · skip
            refine Gets.via (fun _ k => (XS.iload A6 hx rfl (D at_74) rfl (XS.iload A6 hx rfl (D at_76) rfl (XS.iload A6 hx rfl (D at_78) rfl (XS.iload A6 hx rfl (D at_80) rfl k))))) ?_
            refine X5.callS (W := 0) (w0 hw) (w1 hw) (w2 hw) (w3 hw) (by decide) (X5.payM (sf := []) (rmMake1 hcx (37 : Int32) q6 (p3 &&& (255 : Int32)) h0 X5.old (⟨by decide, by decide⟩)) sf0 (w3 hw) (w2 hw)) rfl (sz hml rfl) (argsL := [(.int (1 : Int32)), (.int (37 : Int32)), (.int q6), (.int (p3 &&& (255 : Int32)))]) (rest := []) (lenOf pd28 rfl) rfl rfl (mroom rfl rfl) (D at_82) (by decide) (by decide) fun T21 h21 vm21 v21 X21 C21 z21 q21 => ?_
            obtain ⟨a21, b21, kb21, rfl, K21, g21_0⟩ := q21
            have l22 := ltA g21_0.lt
            have l23 := ltA g21_0.lb
            have A24 := X21.at
            refine Gets.via (fun _ k => (XS.astore A24 hx rfl (D at_85) rfl rfl (l' := #[vI p0, vI p1, vI p2, vI p3, vI (1 : Int32), vI (37 : Int32), vI q6, vI (p3 &&& (255 : Int32)), vR a21, .unset, .unset]) rfl (XS.aload A24 hx rfl (D at_87) rfl rfl k))) ?_
            show Gets p e below _ (T21.setTop (mkF m 89 #[vI p0, vI p1, vI p2, vI p3, vI (1 : Int32), vI (37 : Int32), vI q6, vI (p3 &&& (255 : Int32)), vR a21, .unset, .unset] [(.ref a21)]))
            refine X21.callS (W := 0) (w26 hw) (w27 hw) (w28 hw) (w29 hw) (by decide) (X21.payM (sf := []) (rmRf1p hcx a21 b21 kb21 (37 : Int32) h21 X21.old g21_0 (by decide)) sf0 (w29 hw) (w28 hw)) rfl (sz hml rfl) (argsL := [(.ref a21)]) (rest := []) (lenOf pd29 rfl) rfl rfl (mroom rfl rfl) (D at_89) (by decide) (by decide) fun T25 h25 vm25 v25 X25 C25 z25 q25 => ?_
            obtain ⟨a25, t25, kt25, rfl, K25, g25_0⟩ := q25
            have l26 := ltA g25_0.lt
            have l27 := ltA g25_0.lb
            have A28 := X25.at
            refine Gets.via (fun _ k => (XS.astore A28 hx rfl (D at_92) rfl rfl (l' := #[vI p0, vI p1, vI p2, vI p3, vI (1 : Int32), vI (37 : Int32), vI q6, vI (p3 &&& (255 : Int32)), vR a21, vR a25, .unset]) rfl (XS.aload A28 hx rfl (D at_94) rfl rfl (XS.ifnullNo A28 hx rfl (D at_96) rfl k)))) ?_
            refine Gets.via (fun _ k => (XS.aload A28 hx rfl (D at_99) rfl rfl k)) ?_
            refine X25.callV (W := 0) (w154 hw) (w42 hw) (w44 hw) (w43 hw) (nfs rfl (w44 hw)) (by decide) (X25.payM (sf := []) (rmLen0 hcx a25 t25 kt25 [(95 : Int32), (46 : Int32), (109 : Int32)] h25 X25.old g25_0) sf0 (w45 hw) (w6 hw)) g25_0.1 rfl (sz hml rfl) (argsL := []) (rest := []) (lenOf pd7 rfl) rfl rfl (mroom rfl rfl) (D at_101) (by decide) (by decide) fun T29 h29 vm29 v29 X29 C29 z29 q29 => ?_
            obtain ⟨rfl, K29⟩ := q29
            rw [K29] at X29 C29
            show Gets p e below _ (T29.setTop (mkF m 104 #[vI p0, vI p1, vI p2, vI p3, vI (1 : Int32), vI (37 : Int32), vI q6, vI (p3 &&& (255 : Int32)), vR a21, vR a25, .unset] [(.int (3 : Int32))]))
            have A30 := X29.at
            refine Gets.via (fun _ k => (XS.iload A30 hx rfl (D at_104) rfl (XS.iconst A30 hx rfl (D at_106) (iaddV A30 hx rfl (D at_107) rfl (v := (3 : Int32)) (by decide) (XS.icmpYes A30 hx rfl (pc0 := 108) (pc' := 113) rfl (D at_108) rfl (Jvm.Free.XT.ii_eq_t (by decide)) (by decide) (by decide) k))))) ?_
            refine Gets.via (fun _ k => (XS.iload A30 hx rfl (D at_113) rfl (XS.iconst A30 hx rfl (D at_115) (XS.icmpNo A30 hx rfl (D at_116) rfl (Jvm.Free.XT.ii_lt_f (by decide)) k)))) ?_
            refine Gets.via (fun _ k => (XS.iload A30 hx rfl (D at_119) rfl (XS.bipush A30 hx rfl (D at_121) (XS.icmpNo A30 hx rfl (D at_123) rfl (Jvm.Free.XT.ii_ne_f (by decide)) k)))) ?_
            refine Gets.via (fun _ k => (XS.bipush A30 hx rfl (D at_126) (XS.goto A30 hx rfl (pc0 := 128) (pc' := 133) rfl (D at_128) (by decide) (by decide) k))) ?_
            show Gets p e below _ (T29.setTop (mkF m 133 #[vI p0, vI p1, vI p2, vI p3, vI (1 : Int32), vI (37 : Int32), vI q6, vI (p3 &&& (255 : Int32)), vR a21, vR a25, .unset] [(.int (95 : Int32))]))
            refine Gets.via (fun _ k => (XS.istore A30 hx rfl (D at_133) rfl (l' := #[vI p0, vI p1, vI p2, vI p3, vI (1 : Int32), vI (37 : Int32), vI q6, vI (p3 &&& (255 : Int32)), vR a21, vR a25, vI (95 : Int32)]) rfl (XS.aload A30 hx rfl (D at_135) rfl rfl (XS.iconst A30 hx rfl (D at_137) k)))) ?_
            refine X29.callV (W := 0) (w155 hw) (w156 hw) (w158 hw) (w157 hw) (nfs rfl (w158 hw)) (by decide) (payCh X29 hw (w5 hw) g25_0 O2 P5 O4 P6 (0) (Nat.le_of_ble_eq_true rfl) rfl (by decide) (by decide)) g25_0.1 rfl (sz hml rfl) (argsL := [(.int (0 : Int32))]) (rest := []) (lenOf pd30 rfl) rfl rfl (mroom rfl rfl) (D at_138) (by decide) (by decide) fun T31 h31 vm31 v31 X31 C31 z31 q31 => ?_
            obtain ⟨rfl, K31⟩ := q31
            rw [K31] at X31 C31
            show Gets p e below _ (T31.setTop (mkF m 141 #[vI p0, vI p1, vI p2, vI p3, vI (1 : Int32), vI (37 : Int32), vI q6, vI (p3 &&& (255 : Int32)), vR a21, vR a25, vI (95 : Int32)] [(.int (95 : Int32))]))
            have A32 := X31.at
            refine Gets.via (fun _ k => (XS.iload A32 hx rfl (D at_141) rfl (XS.icmpYes A32 hx rfl (pc0 := 143) (pc' := 148) rfl (D at_143) rfl (Jvm.Free.XT.ii_eq_t rfl) (by decide) (by decide) k))) ?_
            refine Gets.via (fun _ k => (XS.iload A32 hx rfl (D at_148) rfl (XS.iconst A32 hx rfl (D at_150) (XS.icmpYes A32 hx rfl (pc0 := 151) (pc' := 167) rfl (D at_151) rfl (Jvm.Free.XT.ii_lt_t (by decide)) (by decide) (by decide) k)))) ?_
            refine Gets.via (fun _ k => (XS.iload A32 hx rfl (D at_167) rfl (XS.iconst A32 hx rfl (D at_169) (XS.icmpYes A32 hx rfl (pc0 := 170) (pc' := 186) rfl (D at_170) rfl (Jvm.Free.XT.ii_lt_t (by decide)) (by decide) (by decide) k)))) ?_
            refine Gets.via (fun _ k => (XS.aload A32 hx rfl (D at_186) rfl rfl (XS.iload A32 hx rfl (D at_188) rfl k))) ?_
            refine X31.callV (W := 0) (w155 hw) (w156 hw) (w158 hw) (w157 hw) (nfs rfl (w158 hw)) (by decide) (payCh X31 hw (w5 hw) g25_0 O2 P5 O4 P6 (1) (Nat.le_of_ble_eq_true rfl) rfl (by decide) (by decide)) g25_0.1 rfl (sz hml rfl) (argsL := [(.int (1 : Int32))]) (rest := []) (lenOf pd30 rfl) rfl rfl (mroom rfl rfl) (D at_190) (by decide) (by decide) fun T33 h33 vm33 v33 X33 C33 z33 q33 => ?_
            obtain ⟨rfl, K33⟩ := q33
            rw [K33] at X33 C33
            show Gets p e below _ (T33.setTop (mkF m 193 #[vI p0, vI p1, vI p2, vI p3, vI (1 : Int32), vI (37 : Int32), vI q6, vI (p3 &&& (255 : Int32)), vR a21, vR a25, vI (95 : Int32)] [(.int (46 : Int32))]))
            have A34 := X33.at
            refine Gets.via (fun _ k => (XS.bipush A34 hx rfl (D at_193) (XS.icmpNo A34 hx rfl (D at_195) rfl (Jvm.Free.XT.ii_ne_f (by decide)) k))) ?_
            refine Gets.via (fun _ k => (XS.aload A34 hx rfl (D at_198) rfl rfl (XS.iload A34 hx rfl (D at_200) rfl (XS.iconst A34 hx rfl (D at_202) (iaddV A34 hx rfl (D at_203) rfl (v := (2 : Int32)) (by decide) k))))) ?_
            refine X33.callV (W := 0) (w155 hw) (w156 hw) (w158 hw) (w157 hw) (nfs rfl (w158 hw)) (by decide) (payCh X33 hw (w5 hw) g25_0 O2 P5 O4 P6 (2) (Nat.le_of_ble_eq_true rfl) rfl (by decide) (by decide)) g25_0.1 rfl (sz hml rfl) (argsL := [(.int (2 : Int32))]) (rest := []) (lenOf pd30 rfl) rfl rfl (mroom rfl rfl) (D at_204) (by decide) (by decide) fun T35 h35 vm35 v35 X35 C35 z35 q35 => ?_
            obtain ⟨rfl, K35⟩ := q35
            rw [K35] at X35 C35
            show Gets p e below _ (T35.setTop (mkF m 207 #[vI p0, vI p1, vI p2, vI p3, vI (1 : Int32), vI (37 : Int32), vI q6, vI (p3 &&& (255 : Int32)), vR a21, vR a25, vI (95 : Int32)] [(.int (109 : Int32))]))
            have A36 := X35.at
            refine Gets.via (fun _ k => (XS.bipush A36 hx rfl (D at_207) (XS.icmpNo A36 hx rfl (D at_209) rfl (Jvm.Free.XT.ii_ne_f (by decide)) k))) ?_
            refine Gets.via (fun _ k => (XS.iconst A36 hx rfl (D at_212) (XS.goto A36 hx rfl (pc0 := 213) (pc' := 217) rfl (D at_213) (by decide) (by decide) k))) ?_
            exact X35.retI hret (by decide) (by simp) (D at_217) (by decide) (by decide) (fun vmE CE => ⟨rfl, (((Keep.refl h0 []).trans K21 all0).trans K25 all0)⟩)
          · skip
            refine Gets.via (fun _ k => (XS.iload A6 hx rfl (D at_74) rfl (XS.iload A6 hx rfl (D at_76) rfl (XS.iload A6 hx rfl (D at_78) rfl (XS.iload A6 hx rfl (D at_80) rfl k))))) ?_
            refine X5.callS (W := 0) (w0 hw) (w1 hw) (w2 hw) (w3 hw) (by decide) (X5.payM (sf := []) (rmMake1 hcx q5 q6 (p3 &&& (255 : Int32)) h0 X5.old hq5) sf0 (w3 hw) (w2 hw)) rfl (sz hml rfl) (argsL := [(.int (1 : Int32)), (.int q5), (.int q6), (.int (p3 &&& (255 : Int32)))]) (rest := []) (lenOf pd28 rfl) rfl rfl (mroom rfl rfl) (D at_82) (by decide) (by decide) fun T37 h37 vm37 v37 X37 C37 z37 q37 => ?_
            obtain ⟨a37, b37, kb37, rfl, K37, g37_0⟩ := q37
            have l38 := ltA g37_0.lt
            have l39 := ltA g37_0.lb
            have A40 := X37.at
            refine Gets.via (fun _ k => (XS.astore A40 hx rfl (D at_85) rfl rfl (l' := #[vI p0, vI p1, vI p2, vI p3, vI (1 : Int32), vI q5, vI q6, vI (p3 &&& (255 : Int32)), vR a37, .unset, .unset]) rfl (XS.aload A40 hx rfl (D at_87) rfl rfl k))) ?_
            show Gets p e below _ (T37.setTop (mkF m 89 #[vI p0, vI p1, vI p2, vI p3, vI (1 : Int32), vI q5, vI q6, vI (p3 &&& (255 : Int32)), vR a37, .unset, .unset] [(.ref a37)]))
            refine X37.callS (W := 0) (w26 hw) (w27 hw) (w28 hw) (w29 hw) (by decide) (X37.payM (sf := []) (rmRf1 hcx a37 b37 kb37 q5 h37 X37.old g37_0 hq) sf0 (w29 hw) (w28 hw)) rfl (sz hml rfl) (argsL := [(.ref a37)]) (rest := []) (lenOf pd29 rfl) rfl rfl (mroom rfl rfl) (D at_89) (by decide) (by decide) fun T41 h41 vm41 v41 X41 C41 z41 q41 => ?_
            obtain ⟨a41, t41, kt41, rfl, K41, g41_0⟩ := q41
            have l42 := ltA g41_0.lt
            have l43 := ltA g41_0.lb
            have A44 := X41.at
            refine Gets.via (fun _ k => (XS.astore A44 hx rfl (D at_92) rfl rfl (l' := #[vI p0, vI p1, vI p2, vI p3, vI (1 : Int32), vI q5, vI q6, vI (p3 &&& (255 : Int32)), vR a37, vR a41, .unset]) rfl (XS.aload A44 hx rfl (D at_94) rfl rfl (XS.ifnullNo A44 hx rfl (D at_96) rfl k)))) ?_
            refine Gets.via (fun _ k => (XS.aload A44 hx rfl (D at_99) rfl rfl k)) ?_
            refine X41.callV (W := 0) (w154 hw) (w42 hw) (w44 hw) (w43 hw) (nfs rfl (w44 hw)) (by decide) (X41.payM (sf := []) (rmLen0 hcx a41 t41 kt41 [q5, (46 : Int32), (109 : Int32)] h41 X41.old g41_0) sf0 (w45 hw) (w6 hw)) g41_0.1 rfl (sz hml rfl) (argsL := []) (rest := []) (lenOf pd7 rfl) rfl rfl (mroom rfl rfl) (D at_101) (by decide) (by decide) fun T45 h45 vm45 v45 X45 C45 z45 q45 => ?_
            obtain ⟨rfl, K45⟩ := q45
            rw [K45] at X45 C45
            show Gets p e below _ (T45.setTop (mkF m 104 #[vI p0, vI p1, vI p2, vI p3, vI (1 : Int32), vI q5, vI q6, vI (p3 &&& (255 : Int32)), vR a37, vR a41, .unset] [(.int (3 : Int32))]))
            have A46 := X45.at
            refine Gets.via (fun _ k => (XS.iload A46 hx rfl (D at_104) rfl (XS.iconst A46 hx rfl (D at_106) (iaddV A46 hx rfl (D at_107) rfl (v := (3 : Int32)) (by decide) (XS.icmpYes A46 hx rfl (pc0 := 108) (pc' := 113) rfl (D at_108) rfl (Jvm.Free.XT.ii_eq_t (by decide)) (by decide) (by decide) k))))) ?_
            refine Gets.via (fun _ k => (XS.iload A46 hx rfl (D at_113) rfl (XS.iconst A46 hx rfl (D at_115) (XS.icmpNo A46 hx rfl (D at_116) rfl (Jvm.Free.XT.ii_lt_f (by decide)) k)))) ?_
            refine Gets.via (fun _ k => (XS.iload A46 hx rfl (D at_119) rfl (XS.bipush A46 hx rfl (D at_121) (XS.icmpYes A46 hx rfl (pc0 := 123) (pc' := 131) rfl (D at_123) rfl (Jvm.Free.XT.ii_ne_t hq) (by decide) (by decide) k)))) ?_
            refine Gets.via (fun _ k => (XS.iload A46 hx rfl (D at_131) rfl (XS.istore A46 hx rfl (D at_133) rfl (l' := #[vI p0, vI p1, vI p2, vI p3, vI (1 : Int32), vI q5, vI q6, vI (p3 &&& (255 : Int32)), vR a37, vR a41, vI q5]) rfl (XS.aload A46 hx rfl (D at_135) rfl rfl (XS.iconst A46 hx rfl (D at_137) k))))) ?_
            show Gets p e below _ (T45.setTop (mkF m 138 #[vI p0, vI p1, vI p2, vI p3, vI (1 : Int32), vI q5, vI q6, vI (p3 &&& (255 : Int32)), vR a37, vR a41, vI q5] [(.int (0 : Int32)), (.ref a41)]))
            refine X45.callV (W := 0) (w155 hw) (w156 hw) (w158 hw) (w157 hw) (nfs rfl (w158 hw)) (by decide) (payCh X45 hw (w5 hw) g41_0 O2 P5 O4 P6 (0) (Nat.le_of_ble_eq_true rfl) rfl (by decide) (by decide)) g41_0.1 rfl (sz hml rfl) (argsL := [(.int (0 : Int32))]) (rest := []) (lenOf pd30 rfl) rfl rfl (mroom rfl rfl) (D at_138) (by decide) (by decide) fun T47 h47 vm47 v47 X47 C47 z47 q47 => ?_
            obtain ⟨rfl, K47⟩ := q47
            rw [K47] at X47 C47
            show Gets p e below _ (T47.setTop (mkF m 141 #[vI p0, vI p1, vI p2, vI p3, vI (1 : Int32), vI q5, vI q6, vI (p3 &&& (255 : Int32)), vR a37, vR a41, vI q5] [(.int q5)]))
            have A48 := X47.at
            refine Gets.via (fun _ k => (XS.iload A48 hx rfl (D at_141) rfl (XS.icmpYes A48 hx rfl (pc0 := 143) (pc' := 148) rfl (D at_143) rfl (Jvm.Free.XT.ii_eq_t rfl) (by decide) (by decide) k))) ?_
            refine Gets.via (fun _ k => (XS.iload A48 hx rfl (D at_148) rfl (XS.iconst A48 hx rfl (D at_150) (XS.icmpYes A48 hx rfl (pc0 := 151) (pc' := 167) rfl (D at_151) rfl (Jvm.Free.XT.ii_lt_t (by decide)) (by decide) (by decide) k)))) ?_
            refine Gets.via (fun _ k => (XS.iload A48 hx rfl (D at_167) rfl (XS.iconst A48 hx rfl (D at_169) (XS.icmpYes A48 hx rfl (pc0 := 170) (pc' := 186) rfl (D at_170) rfl (Jvm.Free.XT.ii_lt_t (by decide)) (by decide) (by decide) k)))) ?_
            refine Gets.via (fun _ k => (XS.aload A48 hx rfl (D at_186) rfl rfl (XS.iload A48 hx rfl (D at_188) rfl k))) ?_
            refine X47.callV (W := 0) (w155 hw) (w156 hw) (w158 hw) (w157 hw) (nfs rfl (w158 hw)) (by decide) (payCh X47 hw (w5 hw) g41_0 O2 P5 O4 P6 (1) (Nat.le_of_ble_eq_true rfl) rfl (by decide) (by decide)) g41_0.1 rfl (sz hml rfl) (argsL := [(.int (1 : Int32))]) (rest := []) (lenOf pd30 rfl) rfl rfl (mroom rfl rfl) (D at_190) (by decide) (by decide) fun T49 h49 vm49 v49 X49 C49 z49 q49 => ?_
            obtain ⟨rfl, K49⟩ := q49
            rw [K49] at X49 C49
            show Gets p e below _ (T49.setTop (mkF m 193 #[vI p0, vI p1, vI p2, vI p3, vI (1 : Int32), vI q5, vI q6, vI (p3 &&& (255 : Int32)), vR a37, vR a41, vI q5] [(.int (46 : Int32))]))
            have A50 := X49.at
            refine Gets.via (fun _ k => (XS.bipush A50 hx rfl (D at_193) (XS.icmpNo A50 hx rfl (D at_195) rfl (Jvm.Free.XT.ii_ne_f (by decide)) k))) ?_
            refine Gets.via (fun _ k => (XS.aload A50 hx rfl (D at_198) rfl rfl (XS.iload A50 hx rfl (D at_200) rfl (XS.iconst A50 hx rfl (D at_202) (iaddV A50 hx rfl (D at_203) rfl (v := (2 : Int32)) (by decide) k))))) ?_
            refine X49.callV (W := 0) (w155 hw) (w156 hw) (w158 hw) (w157 hw) (nfs rfl (w158 hw)) (by decide) (payCh X49 hw (w5 hw) g41_0 O2 P5 O4 P6 (2) (Nat.le_of_ble_eq_true rfl) rfl (by decide) (by decide)) g41_0.1 rfl (sz hml rfl) (argsL := [(.int (2 : Int32))]) (rest := []) (lenOf pd30 rfl) rfl rfl (mroom rfl rfl) (D at_204) (by decide) (by decide) fun T51 h51 vm51 v51 X51 C51 z51 q51 => ?_
            obtain ⟨rfl, K51⟩ := q51
            rw [K51] at X51 C51
            show Gets p e below _ (T51.setTop (mkF m 207 #[vI p0, vI p1, vI p2, vI p3, vI (1 : Int32), vI q5, vI q6, vI (p3 &&& (255 : Int32)), vR a37, vR a41, vI q5] [(.int (109 : Int32))]))
            have A52 := X51.at
            refine Gets.via (fun _ k => (XS.bipush A52 hx rfl (D at_207) (XS.icmpNo A52 hx rfl (D at_209) rfl (Jvm.Free.XT.ii_ne_f (by decide)) k))) ?_
            refine Gets.via (fun _ k => (XS.iconst A52 hx rfl (D at_212) (XS.goto A52 hx rfl (pc0 := 213) (pc' := 217) rfl (D at_213) (by decide) (by decide) k))) ?_
            exact X51.retI hret (by decide) (by simp) (D at_217) (by decide) (by decide) (fun vmE CE => ⟨rfl, (((Keep.refl h0 []).trans K37 all0).trans K41 all0)⟩)
        · skip
          rcases Classical.em (q5 = (37 : Int32)) with rfl | hq
          · skip
            refine Gets.via (fun _ k => (XS.iload A6 hx rfl (D at_74) rfl (XS.iload A6 hx rfl (D at_76) rfl (XS.iload A6 hx rfl (D at_78) rfl (XS.iload A6 hx rfl (D at_80) rfl k))))) ?_
            refine X5.callS (W := 0) (w0 hw) (w1 hw) (w2 hw) (w3 hw) (by decide) (X5.payM (sf := []) (rmMake2 hcx (37 : Int32) q6 (p3 &&& (255 : Int32)) h0 X5.old (⟨by decide, by decide⟩) hq6) sf0 (w3 hw) (w2 hw)) rfl (sz hml rfl) (argsL := [(.int (2 : Int32)), (.int (37 : Int32)), (.int q6), (.int (p3 &&& (255 : Int32)))]) (rest := []) (lenOf pd28 rfl) rfl rfl (mroom rfl rfl) (D at_82) (by decide) (by decide) fun T53 h53 vm53 v53 X53 C53 z53 q53 => ?_
            obtain ⟨a53, b53, kb53, rfl, K53, g53_0⟩ := q53
            have l54 := ltA g53_0.lt
            have l55 := ltA g53_0.lb
            have A56 := X53.at
            refine Gets.via (fun _ k => (XS.astore A56 hx rfl (D at_85) rfl rfl (l' := #[vI p0, vI p1, vI p2, vI p3, vI (2 : Int32), vI (37 : Int32), vI q6, vI (p3 &&& (255 : Int32)), vR a53, .unset, .unset]) rfl (XS.aload A56 hx rfl (D at_87) rfl rfl k))) ?_
            show Gets p e below _ (T53.setTop (mkF m 89 #[vI p0, vI p1, vI p2, vI p3, vI (2 : Int32), vI (37 : Int32), vI q6, vI (p3 &&& (255 : Int32)), vR a53, .unset, .unset] [(.ref a53)]))
            refine X53.callS (W := 0) (w26 hw) (w27 hw) (w28 hw) (w29 hw) (by decide) (X53.payM (sf := []) (rmRf2p hcx a53 b53 kb53 (37 : Int32) q6 h53 X53.old g53_0 (by decide)) sf0 (w29 hw) (w28 hw)) rfl (sz hml rfl) (argsL := [(.ref a53)]) (rest := []) (lenOf pd29 rfl) rfl rfl (mroom rfl rfl) (D at_89) (by decide) (by decide) fun T57 h57 vm57 v57 X57 C57 z57 q57 => ?_
            obtain ⟨a57, t57, kt57, rfl, K57, g57_0⟩ := q57
            have l58 := ltA g57_0.lt
            have l59 := ltA g57_0.lb
            have A60 := X57.at
            refine Gets.via (fun _ k => (XS.astore A60 hx rfl (D at_92) rfl rfl (l' := #[vI p0, vI p1, vI p2, vI p3, vI (2 : Int32), vI (37 : Int32), vI q6, vI (p3 &&& (255 : Int32)), vR a53, vR a57, .unset]) rfl (XS.aload A60 hx rfl (D at_94) rfl rfl (XS.ifnullNo A60 hx rfl (D at_96) rfl k)))) ?_
            refine Gets.via (fun _ k => (XS.aload A60 hx rfl (D at_99) rfl rfl k)) ?_
            refine X57.callV (W := 0) (w154 hw) (w42 hw) (w44 hw) (w43 hw) (nfs rfl (w44 hw)) (by decide) (X57.payM (sf := []) (rmLen0 hcx a57 t57 kt57 [(95 : Int32), q6, (46 : Int32), (109 : Int32)] h57 X57.old g57_0) sf0 (w45 hw) (w6 hw)) g57_0.1 rfl (sz hml rfl) (argsL := []) (rest := []) (lenOf pd7 rfl) rfl rfl (mroom rfl rfl) (D at_101) (by decide) (by decide) fun T61 h61 vm61 v61 X61 C61 z61 q61 => ?_
            obtain ⟨rfl, K61⟩ := q61
            rw [K61] at X61 C61
            show Gets p e below _ (T61.setTop (mkF m 104 #[vI p0, vI p1, vI p2, vI p3, vI (2 : Int32), vI (37 : Int32), vI q6, vI (p3 &&& (255 : Int32)), vR a53, vR a57, .unset] [(.int (4 : Int32))]))
            have A62 := X61.at
            refine Gets.via (fun _ k => (XS.iload A62 hx rfl (D at_104) rfl (XS.iconst A62 hx rfl (D at_106) (iaddV A62 hx rfl (D at_107) rfl (v := (4 : Int32)) (by decide) (XS.icmpYes A62 hx rfl (pc0 := 108) (pc' := 113) rfl (D at_108) rfl (Jvm.Free.XT.ii_eq_t (by decide)) (by decide) (by decide) k))))) ?_
            refine Gets.via (fun _ k => (XS.iload A62 hx rfl (D at_113) rfl (XS.iconst A62 hx rfl (D at_115) (XS.icmpNo A62 hx rfl (D at_116) rfl (Jvm.Free.XT.ii_lt_f (by decide)) k)))) ?_
            refine Gets.via (fun _ k => (XS.iload A62 hx rfl (D at_119) rfl (XS.bipush A62 hx rfl (D at_121) (XS.icmpNo A62 hx rfl (D at_123) rfl (Jvm.Free.XT.ii_ne_f (by decide)) k)))) ?_
            refine Gets.via (fun _ k => (XS.bipush A62 hx rfl (D at_126) (XS.goto A62 hx rfl (pc0 := 128) (pc' := 133) rfl (D at_128) (by decide) (by decide) k))) ?_
            show Gets p e below _ (T61.setTop (mkF m 133 #[vI p0, vI p1, vI p2, vI p3, vI (2 : Int32), vI (37 : Int32), vI q6, vI (p3 &&& (255 : Int32)), vR a53, vR a57, .unset] [(.int (95 : Int32))]))
            refine Gets.via (fun _ k => (XS.istore A62 hx rfl (D at_133) rfl (l' := #[vI p0, vI p1, vI p2, vI p3, vI (2 : Int32), vI (37 : Int32), vI q6, vI (p3 &&& (255 : Int32)), vR a53, vR a57, vI (95 : Int32)]) rfl (XS.aload A62 hx rfl (D at_135) rfl rfl (XS.iconst A62 hx rfl (D at_137) k)))) ?_
            refine X61.callV (W := 0) (w155 hw) (w156 hw) (w158 hw) (w157 hw) (nfs rfl (w158 hw)) (by decide) (payCh X61 hw (w5 hw) g57_0 O2 P5 O4 P6 (0) (Nat.le_of_ble_eq_true rfl) rfl (by decide) (by decide)) g57_0.1 rfl (sz hml rfl) (argsL := [(.int (0 : Int32))]) (rest := []) (lenOf pd30 rfl) rfl rfl (mroom rfl rfl) (D at_138) (by decide) (by decide) fun T63 h63 vm63 v63 X63 C63 z63 q63 => ?_
            obtain ⟨rfl, K63⟩ := q63
            rw [K63] at X63 C63
            show Gets p e below _ (T63.setTop (mkF m 141 #[vI p0, vI p1, vI p2, vI p3, vI (2 : Int32), vI (37 : Int32), vI q6, vI (p3 &&& (255 : Int32)), vR a53, vR a57, vI (95 : Int32)] [(.int (95 : Int32))]))
            have A64 := X63.at
            refine Gets.via (fun _ k => (XS.iload A64 hx rfl (D at_141) rfl (XS.icmpYes A64 hx rfl (pc0 := 143) (pc' := 148) rfl (D at_143) rfl (Jvm.Free.XT.ii_eq_t rfl) (by decide) (by decide) k))) ?_
            refine Gets.via (fun _ k => (XS.iload A64 hx rfl (D at_148) rfl (XS.iconst A64 hx rfl (D at_150) (XS.icmpNo A64 hx rfl (D at_151) rfl (Jvm.Free.XT.ii_lt_f (by decide)) k)))) ?_
            refine Gets.via (fun _ k => (XS.aload A64 hx rfl (D at_154) rfl rfl (XS.iconst A64 hx rfl (D at_156) k))) ?_
            refine X63.callV (W := 0) (w155 hw) (w156 hw) (w158 hw) (w157 hw) (nfs rfl (w158 hw)) (by decide) (payCh X63 hw (w5 hw) g57_0 O2 P5 O4 P6 (1) (Nat.le_of_ble_eq_true rfl) rfl (by decide) (by decide)) g57_0.1 rfl (sz hml rfl) (argsL := [(.int (1 : Int32))]) (rest := []) (lenOf pd30 rfl) rfl rfl (mroom rfl rfl) (D at_157) (by decide) (by decide) fun T65 h65 vm65 v65 X65 C65 z65 q65 => ?_
            obtain ⟨rfl, K65⟩ := q65
            rw [K65] at X65 C65
            show Gets p e below _ (T65.setTop (mkF m 160 #[vI p0, vI p1, vI p2, vI p3, vI (2 : Int32), vI (37 : Int32), vI q6, vI (p3 &&& (255 : Int32)), vR a53, vR a57, vI (95 : Int32)] [(.int q6)]))
            have A66 := X65.at
            refine Gets.via (fun _ k => (XS.iload A66 hx rfl (D at_160) rfl (XS.icmpYes A66 hx rfl (pc0 := 162) (pc' := 167) rfl (D at_162) rfl (Jvm.Free.XT.ii_eq_t rfl) (by decide) (by decide) k))) ?_
            refine Gets.via (fun _ k => (XS.iload A66 hx rfl (D at_167) rfl (XS.iconst A66 hx rfl (D at_169) (XS.icmpYes A66 hx rfl (pc0 := 170) (pc' := 186) rfl (D at_170) rfl (Jvm.Free.XT.ii_lt_t (by decide)) (by decide) (by decide) k)))) ?_
            refine Gets.via (fun _ k => (XS.aload A66 hx rfl (D at_186) rfl rfl (XS.iload A66 hx rfl (D at_188) rfl k))) ?_
            refine X65.callV (W := 0) (w155 hw) (w156 hw) (w158 hw) (w157 hw) (nfs rfl (w158 hw)) (by decide) (payCh X65 hw (w5 hw) g57_0 O2 P5 O4 P6 (2) (Nat.le_of_ble_eq_true rfl) rfl (by decide) (by decide)) g57_0.1 rfl (sz hml rfl) (argsL := [(.int (2 : Int32))]) (rest := []) (lenOf pd30 rfl) rfl rfl (mroom rfl rfl) (D at_190) (by decide) (by decide) fun T67 h67 vm67 v67 X67 C67 z67 q67 => ?_
            obtain ⟨rfl, K67⟩ := q67
            rw [K67] at X67 C67
            show Gets p e below _ (T67.setTop (mkF m 193 #[vI p0, vI p1, vI p2, vI p3, vI (2 : Int32), vI (37 : Int32), vI q6, vI (p3 &&& (255 : Int32)), vR a53, vR a57, vI (95 : Int32)] [(.int (46 : Int32))]))
            have A68 := X67.at
            refine Gets.via (fun _ k => (XS.bipush A68 hx rfl (D at_193) (XS.icmpNo A68 hx rfl (D at_195) rfl (Jvm.Free.XT.ii_ne_f (by decide)) k))) ?_
            refine Gets.via (fun _ k => (XS.aload A68 hx rfl (D at_198) rfl rfl (XS.iload A68 hx rfl (D at_200) rfl (XS.iconst A68 hx rfl (D at_202) (iaddV A68 hx rfl (D at_203) rfl (v := (3 : Int32)) (by decide) k))))) ?_
            refine X67.callV (W := 0) (w155 hw) (w156 hw) (w158 hw) (w157 hw) (nfs rfl (w158 hw)) (by decide) (payCh X67 hw (w5 hw) g57_0 O2 P5 O4 P6 (3) (Nat.le_of_ble_eq_true rfl) rfl (by decide) (by decide)) g57_0.1 rfl (sz hml rfl) (argsL := [(.int (3 : Int32))]) (rest := []) (lenOf pd30 rfl) rfl rfl (mroom rfl rfl) (D at_204) (by decide) (by decide) fun T69 h69 vm69 v69 X69 C69 z69 q69 => ?_
            obtain ⟨rfl, K69⟩ := q69
            rw [K69] at X69 C69
            show Gets p e below _ (T69.setTop (mkF m 207 #[vI p0, vI p1, vI p2, vI p3, vI (2 : Int32), vI (37 : Int32), vI q6, vI (p3 &&& (255 : Int32)), vR a53, vR a57, vI (95 : Int32)] [(.int (109 : Int32))]))
            have A70 := X69.at
            refine Gets.via (fun _ k => (XS.bipush A70 hx rfl (D at_207) (XS.icmpNo A70 hx rfl (D at_209) rfl (Jvm.Free.XT.ii_ne_f (by decide)) k))) ?_
            refine Gets.via (fun _ k => (XS.iconst A70 hx rfl (D at_212) (XS.goto A70 hx rfl (pc0 := 213) (pc' := 217) rfl (D at_213) (by decide) (by decide) k))) ?_
            exact X69.retI hret (by decide) (by simp) (D at_217) (by decide) (by decide) (fun vmE CE => ⟨rfl, (((Keep.refl h0 []).trans K53 all0).trans K57 all0)⟩)
          · skip
            refine Gets.via (fun _ k => (XS.iload A6 hx rfl (D at_74) rfl (XS.iload A6 hx rfl (D at_76) rfl (XS.iload A6 hx rfl (D at_78) rfl (XS.iload A6 hx rfl (D at_80) rfl k))))) ?_
            refine X5.callS (W := 0) (w0 hw) (w1 hw) (w2 hw) (w3 hw) (by decide) (X5.payM (sf := []) (rmMake2 hcx q5 q6 (p3 &&& (255 : Int32)) h0 X5.old hq5 hq6) sf0 (w3 hw) (w2 hw)) rfl (sz hml rfl) (argsL := [(.int (2 : Int32)), (.int q5), (.int q6), (.int (p3 &&& (255 : Int32)))]) (rest := []) (lenOf pd28 rfl) rfl rfl (mroom rfl rfl) (D at_82) (by decide) (by decide) fun T71 h71 vm71 v71 X71 C71 z71 q71 => ?_
            obtain ⟨a71, b71, kb71, rfl, K71, g71_0⟩ := q71
            have l72 := ltA g71_0.lt
            have l73 := ltA g71_0.lb
            have A74 := X71.at
            refine Gets.via (fun _ k => (XS.astore A74 hx rfl (D at_85) rfl rfl (l' := #[vI p0, vI p1, vI p2, vI p3, vI (2 : Int32), vI q5, vI q6, vI (p3 &&& (255 : Int32)), vR a71, .unset, .unset]) rfl (XS.aload A74 hx rfl (D at_87) rfl rfl k))) ?_
            show Gets p e below _ (T71.setTop (mkF m 89 #[vI p0, vI p1, vI p2, vI p3, vI (2 : Int32), vI q5, vI q6, vI (p3 &&& (255 : Int32)), vR a71, .unset, .unset] [(.ref a71)]))
            refine X71.callS (W := 0) (w26 hw) (w27 hw) (w28 hw) (w29 hw) (by decide) (X71.payM (sf := []) (rmRf2 hcx a71 b71 kb71 q5 q6 h71 X71.old g71_0 hq) sf0 (w29 hw) (w28 hw)) rfl (sz hml rfl) (argsL := [(.ref a71)]) (rest := []) (lenOf pd29 rfl) rfl rfl (mroom rfl rfl) (D at_89) (by decide) (by decide) fun T75 h75 vm75 v75 X75 C75 z75 q75 => ?_
            obtain ⟨a75, t75, kt75, rfl, K75, g75_0⟩ := q75
            have l76 := ltA g75_0.lt
            have l77 := ltA g75_0.lb
            have A78 := X75.at
            refine Gets.via (fun _ k => (XS.astore A78 hx rfl (D at_92) rfl rfl (l' := #[vI p0, vI p1, vI p2, vI p3, vI (2 : Int32), vI q5, vI q6, vI (p3 &&& (255 : Int32)), vR a71, vR a75, .unset]) rfl (XS.aload A78 hx rfl (D at_94) rfl rfl (XS.ifnullNo A78 hx rfl (D at_96) rfl k)))) ?_
            refine Gets.via (fun _ k => (XS.aload A78 hx rfl (D at_99) rfl rfl k)) ?_
            refine X75.callV (W := 0) (w154 hw) (w42 hw) (w44 hw) (w43 hw) (nfs rfl (w44 hw)) (by decide) (X75.payM (sf := []) (rmLen0 hcx a75 t75 kt75 [q5, q6, (46 : Int32), (109 : Int32)] h75 X75.old g75_0) sf0 (w45 hw) (w6 hw)) g75_0.1 rfl (sz hml rfl) (argsL := []) (rest := []) (lenOf pd7 rfl) rfl rfl (mroom rfl rfl) (D at_101) (by decide) (by decide) fun T79 h79 vm79 v79 X79 C79 z79 q79 => ?_
            obtain ⟨rfl, K79⟩ := q79
            rw [K79] at X79 C79
            show Gets p e below _ (T79.setTop (mkF m 104 #[vI p0, vI p1, vI p2, vI p3, vI (2 : Int32), vI q5, vI q6, vI (p3 &&& (255 : Int32)), vR a71, vR a75, .unset] [(.int (4 : Int32))]))
            have A80 := X79.at
            refine Gets.via (fun _ k => (XS.iload A80 hx rfl (D at_104) rfl (XS.iconst A80 hx rfl (D at_106) (iaddV A80 hx rfl (D at_107) rfl (v := (4 : Int32)) (by decide) (XS.icmpYes A80 hx rfl (pc0 := 108) (pc' := 113) rfl (D at_108) rfl (Jvm.Free.XT.ii_eq_t (by decide)) (by decide) (by decide) k))))) ?_
            refine Gets.via (fun _ k => (XS.iload A80 hx rfl (D at_113) rfl (XS.iconst A80 hx rfl (D at_115) (XS.icmpNo A80 hx rfl (D at_116) rfl (Jvm.Free.XT.ii_lt_f (by decide)) k)))) ?_
            refine Gets.via (fun _ k => (XS.iload A80 hx rfl (D at_119) rfl (XS.bipush A80 hx rfl (D at_121) (XS.icmpYes A80 hx rfl (pc0 := 123) (pc' := 131) rfl (D at_123) rfl (Jvm.Free.XT.ii_ne_t hq) (by decide) (by decide) k)))) ?_
            refine Gets.via (fun _ k => (XS.iload A80 hx rfl (D at_131) rfl (XS.istore A80 hx rfl (D at_133) rfl (l' := #[vI p0, vI p1, vI p2, vI p3, vI (2 : Int32), vI q5, vI q6, vI (p3 &&& (255 : Int32)), vR a71, vR a75, vI q5]) rfl (XS.aload A80 hx rfl (D at_135) rfl rfl (XS.iconst A80 hx rfl (D at_137) k))))) ?_
            show Gets p e below _ (T79.setTop (mkF m 138 #[vI p0, vI p1, vI p2, vI p3, vI (2 : Int32), vI q5, vI q6, vI (p3 &&& (255 : Int32)), vR a71, vR a75, vI q5] [(.int (0 : Int32)), (.ref a75)]))
            refine X79.callV (W := 0) (w155 hw) (w156 hw) (w158 hw) (w157 hw) (nfs rfl (w158 hw)) (by decide) (payCh X79 hw (w5 hw) g75_0 O2 P5 O4 P6 (0) (Nat.le_of_ble_eq_true rfl) rfl (by decide) (by decide)) g75_0.1 rfl (sz hml rfl) (argsL := [(.int (0 : Int32))]) (rest := []) (lenOf pd30 rfl) rfl rfl (mroom rfl rfl) (D at_138) (by decide) (by decide) fun T81 h81 vm81 v81 X81 C81 z81 q81 => ?_
            obtain ⟨rfl, K81⟩ := q81
            rw [K81] at X81 C81
            show Gets p e below _ (T81.setTop (mkF m 141 #[vI p0, vI p1, vI p2, vI p3, vI (2 : Int32), vI q5, vI q6, vI (p3 &&& (255 : Int32)), vR a71, vR a75, vI q5] [(.int q5)]))
            have A82 := X81.at
            refine Gets.via (fun _ k => (XS.iload A82 hx rfl (D at_141) rfl (XS.icmpYes A82 hx rfl (pc0 := 143) (pc' := 148) rfl (D at_143) rfl (Jvm.Free.XT.ii_eq_t rfl) (by decide) (by decide) k))) ?_
            refine Gets.via (fun _ k => (XS.iload A82 hx rfl (D at_148) rfl (XS.iconst A82 hx rfl (D at_150) (XS.icmpNo A82 hx rfl (D at_151) rfl (Jvm.Free.XT.ii_lt_f (by decide)) k)))) ?_
            refine Gets.via (fun _ k => (XS.aload A82 hx rfl (D at_154) rfl rfl (XS.iconst A82 hx rfl (D at_156) k))) ?_
            refine X81.callV (W := 0) (w155 hw) (w156 hw) (w158 hw) (w157 hw) (nfs rfl (w158 hw)) (by decide) (payCh X81 hw (w5 hw) g75_0 O2 P5 O4 P6 (1) (Nat.le_of_ble_eq_true rfl) rfl (by decide) (by decide)) g75_0.1 rfl (sz hml rfl) (argsL := [(.int (1 : Int32))]) (rest := []) (lenOf pd30 rfl) rfl rfl (mroom rfl rfl) (D at_157) (by decide) (by decide) fun T83 h83 vm83 v83 X83 C83 z83 q83 => ?_
            obtain ⟨rfl, K83⟩ := q83
            rw [K83] at X83 C83
            show Gets p e below _ (T83.setTop (mkF m 160 #[vI p0, vI p1, vI p2, vI p3, vI (2 : Int32), vI q5, vI q6, vI (p3 &&& (255 : Int32)), vR a71, vR a75, vI q5] [(.int q6)]))
            have A84 := X83.at
            refine Gets.via (fun _ k => (XS.iload A84 hx rfl (D at_160) rfl (XS.icmpYes A84 hx rfl (pc0 := 162) (pc' := 167) rfl (D at_162) rfl (Jvm.Free.XT.ii_eq_t rfl) (by decide) (by decide) k))) ?_
            refine Gets.via (fun _ k => (XS.iload A84 hx rfl (D at_167) rfl (XS.iconst A84 hx rfl (D at_169) (XS.icmpYes A84 hx rfl (pc0 := 170) (pc' := 186) rfl (D at_170) rfl (Jvm.Free.XT.ii_lt_t (by decide)) (by decide) (by decide) k)))) ?_
            refine Gets.via (fun _ k => (XS.aload A84 hx rfl (D at_186) rfl rfl (XS.iload A84 hx rfl (D at_188) rfl k))) ?_
            refine X83.callV (W := 0) (w155 hw) (w156 hw) (w158 hw) (w157 hw) (nfs rfl (w158 hw)) (by decide) (payCh X83 hw (w5 hw) g75_0 O2 P5 O4 P6 (2) (Nat.le_of_ble_eq_true rfl) rfl (by decide) (by decide)) g75_0.1 rfl (sz hml rfl) (argsL := [(.int (2 : Int32))]) (rest := []) (lenOf pd30 rfl) rfl rfl (mroom rfl rfl) (D at_190) (by decide) (by decide) fun T85 h85 vm85 v85 X85 C85 z85 q85 => ?_
            obtain ⟨rfl, K85⟩ := q85
            rw [K85] at X85 C85
            show Gets p e below _ (T85.setTop (mkF m 193 #[vI p0, vI p1, vI p2, vI p3, vI (2 : Int32), vI q5, vI q6, vI (p3 &&& (255 : Int32)), vR a71, vR a75, vI q5] [(.int (46 : Int32))]))
            have A86 := X85.at
            refine Gets.via (fun _ k => (XS.bipush A86 hx rfl (D at_193) (XS.icmpNo A86 hx rfl (D at_195) rfl (Jvm.Free.XT.ii_ne_f (by decide)) k))) ?_
            refine Gets.via (fun _ k => (XS.aload A86 hx rfl (D at_198) rfl rfl (XS.iload A86 hx rfl (D at_200) rfl (XS.iconst A86 hx rfl (D at_202) (iaddV A86 hx rfl (D at_203) rfl (v := (3 : Int32)) (by decide) k))))) ?_
            refine X85.callV (W := 0) (w155 hw) (w156 hw) (w158 hw) (w157 hw) (nfs rfl (w158 hw)) (by decide) (payCh X85 hw (w5 hw) g75_0 O2 P5 O4 P6 (3) (Nat.le_of_ble_eq_true rfl) rfl (by decide) (by decide)) g75_0.1 rfl (sz hml rfl) (argsL := [(.int (3 : Int32))]) (rest := []) (lenOf pd30 rfl) rfl rfl (mroom rfl rfl) (D at_204) (by decide) (by decide) fun T87 h87 vm87 v87 X87 C87 z87 q87 => ?_
            obtain ⟨rfl, K87⟩ := q87
            rw [K87] at X87 C87
            show Gets p e below _ (T87.setTop (mkF m 207 #[vI p0, vI p1, vI p2, vI p3, vI (2 : Int32), vI q5, vI q6, vI (p3 &&& (255 : Int32)), vR a71, vR a75, vI q5] [(.int (109 : Int32))]))
            have A88 := X87.at
            refine Gets.via (fun _ k => (XS.bipush A88 hx rfl (D at_207) (XS.icmpNo A88 hx rfl (D at_209) rfl (Jvm.Free.XT.ii_ne_f (by decide)) k))) ?_
            refine Gets.via (fun _ k => (XS.iconst A88 hx rfl (D at_212) (XS.goto A88 hx rfl (pc0 := 213) (pc' := 217) rfl (D at_213) (by decide) (by decide) k))) ?_
            exact X87.retI hret (by decide) (by simp) (D at_217) (by decide) (by decide) (fun vmE CE => ⟨rfl, (((Keep.refl h0 []).trans K71 all0).trans K75 all0)⟩)
        · skip
          rcases Classical.em (q5 = (37 : Int32)) with rfl | hq
          · skip
            refine Gets.via (fun _ k => (XS.iload A6 hx rfl (D at_74) rfl (XS.iload A6 hx rfl (D at_76) rfl (XS.iload A6 hx rfl (D at_78) rfl (XS.iload A6 hx rfl (D at_80) rfl k))))) ?_
            refine X5.callS (W := 0) (w0 hw) (w1 hw) (w2 hw) (w3 hw) (by decide) (X5.payM (sf := []) (rmMake3 hcx (37 : Int32) q6 (p3 &&& (255 : Int32)) h0 X5.old (⟨by decide, by decide⟩) hq6 (m255 _)) sf0 (w3 hw) (w2 hw)) rfl (sz hml rfl) (argsL := [(.int (3 : Int32)), (.int (37 : Int32)), (.int q6), (.int (p3 &&& (255 : Int32)))]) (rest := []) (lenOf pd28 rfl) rfl rfl (mroom rfl rfl) (D at_82) (by decide) (by decide) fun T89 h89 vm89 v89 X89 C89 z89 q89 => ?_
            obtain ⟨a89, b89, kb89, rfl, K89, g89_0⟩ := q89
            have l90 := ltA g89_0.lt
            have l91 := ltA g89_0.lb
            have A92 := X89.at
            refine Gets.via (fun _ k => (XS.astore A92 hx rfl (D at_85) rfl rfl (l' := #[vI p0, vI p1, vI p2, vI p3, vI (3 : Int32), vI (37 : Int32), vI q6, vI (p3 &&& (255 : Int32)), vR a89, .unset, .unset]) rfl (XS.aload A92 hx rfl (D at_87) rfl rfl k))) ?_
            show Gets p e below _ (T89.setTop (mkF m 89 #[vI p0, vI p1, vI p2, vI p3, vI (3 : Int32), vI (37 : Int32), vI q6, vI (p3 &&& (255 : Int32)), vR a89, .unset, .unset] [(.ref a89)]))
            refine X89.callS (W := 0) (w26 hw) (w27 hw) (w28 hw) (w29 hw) (by decide) (X89.payM (sf := []) (rmRf3p hcx a89 b89 kb89 (37 : Int32) q6 (p3 &&& (255 : Int32)) h89 X89.old g89_0 (by decide)) sf0 (w29 hw) (w28 hw)) rfl (sz hml rfl) (argsL := [(.ref a89)]) (rest := []) (lenOf pd29 rfl) rfl rfl (mroom rfl rfl) (D at_89) (by decide) (by decide) fun T93 h93 vm93 v93 X93 C93 z93 q93 => ?_
            obtain ⟨a93, t93, kt93, rfl, K93, g93_0⟩ := q93
            have l94 := ltA g93_0.lt
            have l95 := ltA g93_0.lb
            have A96 := X93.at
            refine Gets.via (fun _ k => (XS.astore A96 hx rfl (D at_92) rfl rfl (l' := #[vI p0, vI p1, vI p2, vI p3, vI (3 : Int32), vI (37 : Int32), vI q6, vI (p3 &&& (255 : Int32)), vR a89, vR a93, .unset]) rfl (XS.aload A96 hx rfl (D at_94) rfl rfl (XS.ifnullNo A96 hx rfl (D at_96) rfl k)))) ?_
            refine Gets.via (fun _ k => (XS.aload A96 hx rfl (D at_99) rfl rfl k)) ?_
            refine X93.callV (W := 0) (w154 hw) (w42 hw) (w44 hw) (w43 hw) (nfs rfl (w44 hw)) (by decide) (X93.payM (sf := []) (rmLen0 hcx a93 t93 kt93 [(95 : Int32), q6, (p3 &&& (255 : Int32)), (46 : Int32), (109 : Int32)] h93 X93.old g93_0) sf0 (w45 hw) (w6 hw)) g93_0.1 rfl (sz hml rfl) (argsL := []) (rest := []) (lenOf pd7 rfl) rfl rfl (mroom rfl rfl) (D at_101) (by decide) (by decide) fun T97 h97 vm97 v97 X97 C97 z97 q97 => ?_
            obtain ⟨rfl, K97⟩ := q97
            rw [K97] at X97 C97
            show Gets p e below _ (T97.setTop (mkF m 104 #[vI p0, vI p1, vI p2, vI p3, vI (3 : Int32), vI (37 : Int32), vI q6, vI (p3 &&& (255 : Int32)), vR a89, vR a93, .unset] [(.int (5 : Int32))]))
            have A98 := X97.at
            refine Gets.via (fun _ k => (XS.iload A98 hx rfl (D at_104) rfl (XS.iconst A98 hx rfl (D at_106) (iaddV A98 hx rfl (D at_107) rfl (v := (5 : Int32)) (by decide) (XS.icmpYes A98 hx rfl (pc0 := 108) (pc' := 113) rfl (D at_108) rfl (Jvm.Free.XT.ii_eq_t (by decide)) (by decide) (by decide) k))))) ?_
            refine Gets.via (fun _ k => (XS.iload A98 hx rfl (D at_113) rfl (XS.iconst A98 hx rfl (D at_115) (XS.icmpNo A98 hx rfl (D at_116) rfl (Jvm.Free.XT.ii_lt_f (by decide)) k)))) ?_
            refine Gets.via (fun _ k => (XS.iload A98 hx rfl (D at_119) rfl (XS.bipush A98 hx rfl (D at_121) (XS.icmpNo A98 hx rfl (D at_123) rfl (Jvm.Free.XT.ii_ne_f (by decide)) k)))) ?_
            refine Gets.via (fun _ k => (XS.bipush A98 hx rfl (D at_126) (XS.goto A98 hx rfl (pc0 := 128) (pc' := 133) rfl (D at_128) (by decide) (by decide) k))) ?_
            show Gets p e below _ (T97.setTop (mkF m 133 #[vI p0, vI p1, vI p2, vI p3, vI (3 : Int32), vI (37 : Int32), vI q6, vI (p3 &&& (255 : Int32)), vR a89, vR a93, .unset] [(.int (95 : Int32))]))
            refine Gets.via (fun _ k => (XS.istore A98 hx rfl (D at_133) rfl (l' := #[vI p0, vI p1, vI p2, vI p3, vI (3 : Int32), vI (37 : Int32), vI q6, vI (p3 &&& (255 : Int32)), vR a89, vR a93, vI (95 : Int32)]) rfl (XS.aload A98 hx rfl (D at_135) rfl rfl (XS.iconst A98 hx rfl (D at_137) k)))) ?_
            refine X97.callV (W := 0) (w155 hw) (w156 hw) (w158 hw) (w157 hw) (nfs rfl (w158 hw)) (by decide) (payCh X97 hw (w5 hw) g93_0 O2 P5 O4 P6 (0) (Nat.le_of_ble_eq_true rfl) rfl (by decide) (by decide)) g93_0.1 rfl (sz hml rfl) (argsL := [(.int (0 : Int32))]) (rest := []) (lenOf pd30 rfl) rfl rfl (mroom rfl rfl) (D at_138) (by decide) (by decide) fun T99 h99 vm99 v99 X99 C99 z99 q99 => ?_
            obtain ⟨rfl, K99⟩ := q99
            rw [K99] at X99 C99
            show Gets p e below _ (T99.setTop (mkF m 141 #[vI p0, vI p1, vI p2, vI p3, vI (3 : Int32), vI (37 : Int32), vI q6, vI (p3 &&& (255 : Int32)), vR a89, vR a93, vI (95 : Int32)] [(.int (95 : Int32))]))
            have A100 := X99.at
            refine Gets.via (fun _ k => (XS.iload A100 hx rfl (D at_141) rfl (XS.icmpYes A100 hx rfl (pc0 := 143) (pc' := 148) rfl (D at_143) rfl (Jvm.Free.XT.ii_eq_t rfl) (by decide) (by decide) k))) ?_
            refine Gets.via (fun _ k => (XS.iload A100 hx rfl (D at_148) rfl (XS.iconst A100 hx rfl (D at_150) (XS.icmpNo A100 hx rfl (D at_151) rfl (Jvm.Free.XT.ii_lt_f (by decide)) k)))) ?_
            refine Gets.via (fun _ k => (XS.aload A100 hx rfl (D at_154) rfl rfl (XS.iconst A100 hx rfl (D at_156) k))) ?_
            refine X99.callV (W := 0) (w155 hw) (w156 hw) (w158 hw) (w157 hw) (nfs rfl (w158 hw)) (by decide) (payCh X99 hw (w5 hw) g93_0 O2 P5 O4 P6 (1) (Nat.le_of_ble_eq_true rfl) rfl (by decide) (by decide)) g93_0.1 rfl (sz hml rfl) (argsL := [(.int (1 : Int32))]) (rest := []) (lenOf pd30 rfl) rfl rfl (mroom rfl rfl) (D at_157) (by decide) (by decide) fun T101 h101 vm101 v101 X101 C101 z101 q101 => ?_
            obtain ⟨rfl, K101⟩ := q101
            rw [K101] at X101 C101
            show Gets p e below _ (T101.setTop (mkF m 160 #[vI p0, vI p1, vI p2, vI p3, vI (3 : Int32), vI (37 : Int32), vI q6, vI (p3 &&& (255 : Int32)), vR a89, vR a93, vI (95 : Int32)] [(.int q6)]))
            have A102 := X101.at
            refine Gets.via (fun _ k => (XS.iload A102 hx rfl (D at_160) rfl (XS.icmpYes A102 hx rfl (pc0 := 162) (pc' := 167) rfl (D at_162) rfl (Jvm.Free.XT.ii_eq_t rfl) (by decide) (by decide) k))) ?_
            refine Gets.via (fun _ k => (XS.iload A102 hx rfl (D at_167) rfl (XS.iconst A102 hx rfl (D at_169) (XS.icmpNo A102 hx rfl (D at_170) rfl (Jvm.Free.XT.ii_lt_f (by decide)) k)))) ?_
            refine Gets.via (fun _ k => (XS.aload A102 hx rfl (D at_173) rfl rfl (XS.iconst A102 hx rfl (D at_175) k))) ?_
            refine X101.callV (W := 0) (w155 hw) (w156 hw) (w158 hw) (w157 hw) (nfs rfl (w158 hw)) (by decide) (payCh X101 hw (w5 hw) g93_0 O2 P5 O4 P6 (2) (Nat.le_of_ble_eq_true rfl) rfl (by decide) (by decide)) g93_0.1 rfl (sz hml rfl) (argsL := [(.int (2 : Int32))]) (rest := []) (lenOf pd30 rfl) rfl rfl (mroom rfl rfl) (D at_176) (by decide) (by decide) fun T103 h103 vm103 v103 X103 C103 z103 q103 => ?_
            obtain ⟨rfl, K103⟩ := q103
            rw [K103] at X103 C103
            show Gets p e below _ (T103.setTop (mkF m 179 #[vI p0, vI p1, vI p2, vI p3, vI (3 : Int32), vI (37 : Int32), vI q6, vI (p3 &&& (255 : Int32)), vR a89, vR a93, vI (95 : Int32)] [(.int (p3 &&& (255 : Int32)))]))
            have A104 := X103.at
            refine Gets.via (fun _ k => (XS.iload A104 hx rfl (D at_179) rfl (XS.icmpYes A104 hx rfl (pc0 := 181) (pc' := 186) rfl (D at_181) rfl (Jvm.Free.XT.ii_eq_t rfl) (by decide) (by decide) k))) ?_
            refine Gets.via (fun _ k => (XS.aload A104 hx rfl (D at_186) rfl rfl (XS.iload A104 hx rfl (D at_188) rfl k))) ?_
            refine X103.callV (W := 0) (w155 hw) (w156 hw) (w158 hw) (w157 hw) (nfs rfl (w158 hw)) (by decide) (payCh X103 hw (w5 hw) g93_0 O2 P5 O4 P6 (3) (Nat.le_of_ble_eq_true rfl) rfl (by decide) (by decide)) g93_0.1 rfl (sz hml rfl) (argsL := [(.int (3 : Int32))]) (rest := []) (lenOf pd30 rfl) rfl rfl (mroom rfl rfl) (D at_190) (by decide) (by decide) fun T105 h105 vm105 v105 X105 C105 z105 q105 => ?_
            obtain ⟨rfl, K105⟩ := q105
            rw [K105] at X105 C105
            show Gets p e below _ (T105.setTop (mkF m 193 #[vI p0, vI p1, vI p2, vI p3, vI (3 : Int32), vI (37 : Int32), vI q6, vI (p3 &&& (255 : Int32)), vR a89, vR a93, vI (95 : Int32)] [(.int (46 : Int32))]))
            have A106 := X105.at
            refine Gets.via (fun _ k => (XS.bipush A106 hx rfl (D at_193) (XS.icmpNo A106 hx rfl (D at_195) rfl (Jvm.Free.XT.ii_ne_f (by decide)) k))) ?_
            refine Gets.via (fun _ k => (XS.aload A106 hx rfl (D at_198) rfl rfl (XS.iload A106 hx rfl (D at_200) rfl (XS.iconst A106 hx rfl (D at_202) (iaddV A106 hx rfl (D at_203) rfl (v := (4 : Int32)) (by decide) k))))) ?_
            refine X105.callV (W := 0) (w155 hw) (w156 hw) (w158 hw) (w157 hw) (nfs rfl (w158 hw)) (by decide) (payCh X105 hw (w5 hw) g93_0 O2 P5 O4 P6 (4) (Nat.le_of_ble_eq_true rfl) rfl (by decide) (by decide)) g93_0.1 rfl (sz hml rfl) (argsL := [(.int (4 : Int32))]) (rest := []) (lenOf pd30 rfl) rfl rfl (mroom rfl rfl) (D at_204) (by decide) (by decide) fun T107 h107 vm107 v107 X107 C107 z107 q107 => ?_
            obtain ⟨rfl, K107⟩ := q107
            rw [K107] at X107 C107
            show Gets p e below _ (T107.setTop (mkF m 207 #[vI p0, vI p1, vI p2, vI p3, vI (3 : Int32), vI (37 : Int32), vI q6, vI (p3 &&& (255 : Int32)), vR a89, vR a93, vI (95 : Int32)] [(.int (109 : Int32))]))
            have A108 := X107.at
            refine Gets.via (fun _ k => (XS.bipush A108 hx rfl (D at_207) (XS.icmpNo A108 hx rfl (D at_209) rfl (Jvm.Free.XT.ii_ne_f (by decide)) k))) ?_
            refine Gets.via (fun _ k => (XS.iconst A108 hx rfl (D at_212) (XS.goto A108 hx rfl (pc0 := 213) (pc' := 217) rfl (D at_213) (by decide) (by decide) k))) ?_
            exact X107.retI hret (by decide) (by simp) (D at_217) (by decide) (by decide) (fun vmE CE => ⟨rfl, (((Keep.refl h0 []).trans K89 all0).trans K93 all0)⟩)
          · skip
            refine Gets.via (fun _ k => (XS.iload A6 hx rfl (D at_74) rfl (XS.iload A6 hx rfl (D at_76) rfl (XS.iload A6 hx rfl (D at_78) rfl (XS.iload A6 hx rfl (D at_80) rfl k))))) ?_
            refine X5.callS (W := 0) (w0 hw) (w1 hw) (w2 hw) (w3 hw) (by decide) (X5.payM (sf := []) (rmMake3 hcx q5 q6 (p3 &&& (255 : Int32)) h0 X5.old hq5 hq6 (m255 _)) sf0 (w3 hw) (w2 hw)) rfl (sz hml rfl) (argsL := [(.int (3 : Int32)), (.int q5), (.int q6), (.int (p3 &&& (255 : Int32)))]) (rest := []) (lenOf pd28 rfl) rfl rfl (mroom rfl rfl) (D at_82) (by decide) (by decide) fun T109 h109 vm109 v109 X109 C109 z109 q109 => ?_
            obtain ⟨a109, b109, kb109, rfl, K109, g109_0⟩ := q109
            have l110 := ltA g109_0.lt
            have l111 := ltA g109_0.lb
            have A112 := X109.at
            refine Gets.via (fun _ k => (XS.astore A112 hx rfl (D at_85) rfl rfl (l' := #[vI p0, vI p1, vI p2, vI p3, vI (3 : Int32), vI q5, vI q6, vI (p3 &&& (255 : Int32)), vR a109, .unset, .unset]) rfl (XS.aload A112 hx rfl (D at_87) rfl rfl k))) ?_
            show Gets p e below _ (T109.setTop (mkF m 89 #[vI p0, vI p1, vI p2, vI p3, vI (3 : Int32), vI q5, vI q6, vI (p3 &&& (255 : Int32)), vR a109, .unset, .unset] [(.ref a109)]))
            refine X109.callS (W := 0) (w26 hw) (w27 hw) (w28 hw) (w29 hw) (by decide) (X109.payM (sf := []) (rmRf3 hcx a109 b109 kb109 q5 q6 (p3 &&& (255 : Int32)) h109 X109.old g109_0 hq) sf0 (w29 hw) (w28 hw)) rfl (sz hml rfl) (argsL := [(.ref a109)]) (rest := []) (lenOf pd29 rfl) rfl rfl (mroom rfl rfl) (D at_89) (by decide) (by decide) fun T113 h113 vm113 v113 X113 C113 z113 q113 => ?_
            obtain ⟨a113, t113, kt113, rfl, K113, g113_0⟩ := q113
            have l114 := ltA g113_0.lt
            have l115 := ltA g113_0.lb
            have A116 := X113.at
            refine Gets.via (fun _ k => (XS.astore A116 hx rfl (D at_92) rfl rfl (l' := #[vI p0, vI p1, vI p2, vI p3, vI (3 : Int32), vI q5, vI q6, vI (p3 &&& (255 : Int32)), vR a109, vR a113, .unset]) rfl (XS.aload A116 hx rfl (D at_94) rfl rfl (XS.ifnullNo A116 hx rfl (D at_96) rfl k)))) ?_
            refine Gets.via (fun _ k => (XS.aload A116 hx rfl (D at_99) rfl rfl k)) ?_
            refine X113.callV (W := 0) (w154 hw) (w42 hw) (w44 hw) (w43 hw) (nfs rfl (w44 hw)) (by decide) (X113.payM (sf := []) (rmLen0 hcx a113 t113 kt113 [q5, q6, (p3 &&& (255 : Int32)), (46 : Int32), (109 : Int32)] h113 X113.old g113_0) sf0 (w45 hw) (w6 hw)) g113_0.1 rfl (sz hml rfl) (argsL := []) (rest := []) (lenOf pd7 rfl) rfl rfl (mroom rfl rfl) (D at_101) (by decide) (by decide) fun T117 h117 vm117 v117 X117 C117 z117 q117 => ?_
            obtain ⟨rfl, K117⟩ := q117
            rw [K117] at X117 C117
            show Gets p e below _ (T117.setTop (mkF m 104 #[vI p0, vI p1, vI p2, vI p3, vI (3 : Int32), vI q5, vI q6, vI (p3 &&& (255 : Int32)), vR a109, vR a113, .unset] [(.int (5 : Int32))]))
            have A118 := X117.at
            refine Gets.via (fun _ k => (XS.iload A118 hx rfl (D at_104) rfl (XS.iconst A118 hx rfl (D at_106) (iaddV A118 hx rfl (D at_107) rfl (v := (5 : Int32)) (by decide) (XS.icmpYes A118 hx rfl (pc0 := 108) (pc' := 113) rfl (D at_108) rfl (Jvm.Free.XT.ii_eq_t (by decide)) (by decide) (by decide) k))))) ?_
            refine Gets.via (fun _ k => (XS.iload A118 hx rfl (D at_113) rfl (XS.iconst A118 hx rfl (D at_115) (XS.icmpNo A118 hx rfl (D at_116) rfl (Jvm.Free.XT.ii_lt_f (by decide)) k)))) ?_
            refine Gets.via (fun _ k => (XS.iload A118 hx rfl (D at_119) rfl (XS.bipush A118 hx rfl (D at_121) (XS.icmpYes A118 hx rfl (pc0 := 123) (pc' := 131) rfl (D at_123) rfl (Jvm.Free.XT.ii_ne_t hq) (by decide) (by decide) k)))) ?_
            refine Gets.via (fun _ k => (XS.iload A118 hx rfl (D at_131) rfl (XS.istore A118 hx rfl (D at_133) rfl (l' := #[vI p0, vI p1, vI p2, vI p3, vI (3 : Int32), vI q5, vI q6, vI (p3 &&& (255 : Int32)), vR a109, vR a113, vI q5]) rfl (XS.aload A118 hx rfl (D at_135) rfl rfl (XS.iconst A118 hx rfl (D at_137) k))))) ?_
            show Gets p e below _ (T117.setTop (mkF m 138 #[vI p0, vI p1, vI p2, vI p3, vI (3 : Int32), vI q5, vI q6, vI (p3 &&& (255 : Int32)), vR a109, vR a113, vI q5] [(.int (0 : Int32)), (.ref a113)]))
            refine X117.callV (W := 0) (w155 hw) (w156 hw) (w158 hw) (w157 hw) (nfs rfl (w158 hw)) (by decide) (payCh X117 hw (w5 hw) g113_0 O2 P5 O4 P6 (0) (Nat.le_of_ble_eq_true rfl) rfl (by decide) (by decide)) g113_0.1 rfl (sz hml rfl) (argsL := [(.int (0 : Int32))]) (rest := []) (lenOf pd30 rfl) rfl rfl (mroom rfl rfl) (D at_138) (by decide) (by decide) fun T119 h119 vm119 v119 X119 C119 z119 q119 => ?_
            obtain ⟨rfl, K119⟩ := q119
            rw [K119] at X119 C119
            show Gets p e below _ (T119.setTop (mkF m 141 #[vI p0, vI p1, vI p2, vI p3, vI (3 : Int32), vI q5, vI q6, vI (p3 &&& (255 : Int32)), vR a109, vR a113, vI q5] [(.int q5)]))
            have A120 := X119.at
            refine Gets.via (fun _ k => (XS.iload A120 hx rfl (D at_141) rfl (XS.icmpYes A120 hx rfl (pc0 := 143) (pc' := 148) rfl (D at_143) rfl (Jvm.Free.XT.ii_eq_t rfl) (by decide) (by decide) k))) ?_
            refine Gets.via (fun _ k => (XS.iload A120 hx rfl (D at_148) rfl (XS.iconst A120 hx rfl (D at_150) (XS.icmpNo A120 hx rfl (D at_151) rfl (Jvm.Free.XT.ii_lt_f (by decide)) k)))) ?_
            refine Gets.via (fun _ k => (XS.aload A120 hx rfl (D at_154) rfl rfl (XS.iconst A120 hx rfl (D at_156) k))) ?_
            refine X119.callV (W := 0) (w155 hw) (w156 hw) (w158 hw) (w157 hw) (nfs rfl (w158 hw)) (by decide) (payCh X119 hw (w5 hw) g113_0 O2 P5 O4 P6 (1) (Nat.le_of_ble_eq_true rfl) rfl (by decide) (by decide)) g113_0.1 rfl (sz hml rfl) (argsL := [(.int (1 : Int32))]) (rest := []) (lenOf pd30 rfl) rfl rfl (mroom rfl rfl) (D at_157) (by decide) (by decide) fun T121 h121 vm121 v121 X121 C121 z121 q121 => ?_
            obtain ⟨rfl, K121⟩ := q121
            rw [K121] at X121 C121
            show Gets p e below _ (T121.setTop (mkF m 160 #[vI p0, vI p1, vI p2, vI p3, vI (3 : Int32), vI q5, vI q6, vI (p3 &&& (255 : Int32)), vR a109, vR a113, vI q5] [(.int q6)]))
            have A122 := X121.at
            refine Gets.via (fun _ k => (XS.iload A122 hx rfl (D at_160) rfl (XS.icmpYes A122 hx rfl (pc0 := 162) (pc' := 167) rfl (D at_162) rfl (Jvm.Free.XT.ii_eq_t rfl) (by decide) (by decide) k))) ?_
            refine Gets.via (fun _ k => (XS.iload A122 hx rfl (D at_167) rfl (XS.iconst A122 hx rfl (D at_169) (XS.icmpNo A122 hx rfl (D at_170) rfl (Jvm.Free.XT.ii_lt_f (by decide)) k)))) ?_
            refine Gets.via (fun _ k => (XS.aload A122 hx rfl (D at_173) rfl rfl (XS.iconst A122 hx rfl (D at_175) k))) ?_
            refine X121.callV (W := 0) (w155 hw) (w156 hw) (w158 hw) (w157 hw) (nfs rfl (w158 hw)) (by decide) (payCh X121 hw (w5 hw) g113_0 O2 P5 O4 P6 (2) (Nat.le_of_ble_eq_true rfl) rfl (by decide) (by decide)) g113_0.1 rfl (sz hml rfl) (argsL := [(.int (2 : Int32))]) (rest := []) (lenOf pd30 rfl) rfl rfl (mroom rfl rfl) (D at_176) (by decide) (by decide) fun T123 h123 vm123 v123 X123 C123 z123 q123 => ?_
            obtain ⟨rfl, K123⟩ := q123
            rw [K123] at X123 C123
            show Gets p e below _ (T123.setTop (mkF m 179 #[vI p0, vI p1, vI p2, vI p3, vI (3 : Int32), vI q5, vI q6, vI (p3 &&& (255 : Int32)), vR a109, vR a113, vI q5] [(.int (p3 &&& (255 : Int32)))]))
            have A124 := X123.at
            refine Gets.via (fun _ k => (XS.iload A124 hx rfl (D at_179) rfl (XS.icmpYes A124 hx rfl (pc0 := 181) (pc' := 186) rfl (D at_181) rfl (Jvm.Free.XT.ii_eq_t rfl) (by decide) (by decide) k))) ?_
            refine Gets.via (fun _ k => (XS.aload A124 hx rfl (D at_186) rfl rfl (XS.iload A124 hx rfl (D at_188) rfl k))) ?_
            refine X123.callV (W := 0) (w155 hw) (w156 hw) (w158 hw) (w157 hw) (nfs rfl (w158 hw)) (by decide) (payCh X123 hw (w5 hw) g113_0 O2 P5 O4 P6 (3) (Nat.le_of_ble_eq_true rfl) rfl (by decide) (by decide)) g113_0.1 rfl (sz hml rfl) (argsL := [(.int (3 : Int32))]) (rest := []) (lenOf pd30 rfl) rfl rfl (mroom rfl rfl) (D at_190) (by decide) (by decide) fun T125 h125 vm125 v125 X125 C125 z125 q125 => ?_
            obtain ⟨rfl, K125⟩ := q125
            rw [K125] at X125 C125
            show Gets p e below _ (T125.setTop (mkF m 193 #[vI p0, vI p1, vI p2, vI p3, vI (3 : Int32), vI q5, vI q6, vI (p3 &&& (255 : Int32)), vR a109, vR a113, vI q5] [(.int (46 : Int32))]))
            have A126 := X125.at
            refine Gets.via (fun _ k => (XS.bipush A126 hx rfl (D at_193) (XS.icmpNo A126 hx rfl (D at_195) rfl (Jvm.Free.XT.ii_ne_f (by decide)) k))) ?_
            refine Gets.via (fun _ k => (XS.aload A126 hx rfl (D at_198) rfl rfl (XS.iload A126 hx rfl (D at_200) rfl (XS.iconst A126 hx rfl (D at_202) (iaddV A126 hx rfl (D at_203) rfl (v := (4 : Int32)) (by decide) k))))) ?_
            refine X125.callV (W := 0) (w155 hw) (w156 hw) (w158 hw) (w157 hw) (nfs rfl (w158 hw)) (by decide) (payCh X125 hw (w5 hw) g113_0 O2 P5 O4 P6 (4) (Nat.le_of_ble_eq_true rfl) rfl (by decide) (by decide)) g113_0.1 rfl (sz hml rfl) (argsL := [(.int (4 : Int32))]) (rest := []) (lenOf pd30 rfl) rfl rfl (mroom rfl rfl) (D at_204) (by decide) (by decide) fun T127 h127 vm127 v127 X127 C127 z127 q127 => ?_
            obtain ⟨rfl, K127⟩ := q127
            rw [K127] at X127 C127
            show Gets p e below _ (T127.setTop (mkF m 207 #[vI p0, vI p1, vI p2, vI p3, vI (3 : Int32), vI q5, vI q6, vI (p3 &&& (255 : Int32)), vR a109, vR a113, vI q5] [(.int (109 : Int32))]))
            have A128 := X127.at
            refine Gets.via (fun _ k => (XS.bipush A128 hx rfl (D at_207) (XS.icmpNo A128 hx rfl (D at_209) rfl (Jvm.Free.XT.ii_ne_f (by decide)) k))) ?_
            refine Gets.via (fun _ k => (XS.iconst A128 hx rfl (D at_212) (XS.goto A128 hx rfl (pc0 := 213) (pc' := 217) rfl (D at_213) (by decide) (by decide) k))) ?_
            exact X127.retI hret (by decide) (by simp) (D at_217) (by decide) (by decide) (fun vmE CE => ⟨rfl, (((Keep.refl h0 []).trans K109 all0).trans K113 all0)⟩)
      by_cases b50 : (p1 &&& (512 : Int32)) = (0 : Int32)
      · refine Gets.via (fun _ k => (XS.ifYes A4 hx rfl (pc0 := 50) (pc' := 58) rfl (D at_50) rfl (Jvm.Free.XT.i0_eq_t b50) (by decide) (by decide) k)) ?_
        refine Gets.via (fun _ k => (XS.iloadN A4 hx rfl (D at_58) rfl (XS.sipush A4 hx rfl (D at_59) (XS.iand A4 hx rfl (D at_62) rfl (i2cV A4 hx rfl (D at_63) rfl (v := (p2 &&& (255 : Int32))) (i2c_m255 _) k))))) ?_
        exact j64 T3 X3 _ (m255 _)
      · refine Gets.via (fun _ k => (XS.ifNo A4 hx rfl (D at_50) rfl (Jvm.Free.XT.i0_eq_f b50) k)) ?_
        refine Gets.via (fun _ k => (XS.bipush A4 hx rfl (D at_53) (XS.goto A4 hx rfl (pc0 := 55) (pc' := 64) rfl (D at_55) (by decide) (by decide) k))) ?_
        show Gets p e below _ (T3.setTop (mkF m 64 #[vI p0, vI p1, vI p2, vI p3, vI nn, vI q5, .unset, .unset, .unset, .unset, .unset] [(.int (37 : Int32))]))
        exact j64 T3 X3 _ ⟨by decide, by decide⟩
    by_cases b29 : (p1 &&& (256 : Int32)) = (0 : Int32)
    · refine Gets.via (fun _ k => (XS.ifYes A2 hx rfl (pc0 := 29) (pc' := 37) rfl (D at_29) rfl (Jvm.Free.XT.i0_eq_t b29) (by decide) (by decide) k)) ?_
      refine Gets.via (fun _ k => (XS.iloadN A2 hx rfl (D at_37) rfl (XS.sipush A2 hx rfl (D at_38) (XS.iand A2 hx rfl (D at_41) rfl (i2cV A2 hx rfl (D at_42) rfl (v := (p1 &&& (255 : Int32))) (i2c_m255 _) k))))) ?_
      exact j43 T1 X1 _ (m255 _)
    · refine Gets.via (fun _ k => (XS.ifNo A2 hx rfl (D at_29) rfl (Jvm.Free.XT.i0_eq_f b29) k)) ?_
      refine Gets.via (fun _ k => (XS.bipush A2 hx rfl (D at_32) (XS.goto A2 hx rfl (pc0 := 34) (pc' := 43) rfl (D at_34) (by decide) (by decide) k))) ?_
      exact j43 T1 X1 _ ⟨by decide, by decide⟩
  by_cases b8 : (p0 &&& (3 : Int32)) = (3 : Int32)
  · refine Gets.via (fun _ k => (XS.icmpNo A0 hx rfl (D at_8) rfl (Jvm.Free.XT.ii_ne_f b8) k)) ?_
    refine Gets.via (fun _ k => (XS.iloadN A0 hx rfl (D at_11) rfl (XS.iconst A0 hx rfl (D at_12) (XS.iand A0 hx rfl (D at_13) rfl k)))) ?_
    show Gets p e below _ (T0.setTop (mkF m 14 #[vI p0, vI p1, vI p2, vI p3, vI (p0 &&& (3 : Int32)), .unset, .unset, .unset, .unset, .unset, .unset] [(.int (p0 &&& (4 : Int32)))]))
    by_cases b14 : (p0 &&& (4 : Int32)) = (0 : Int32)
    · refine Gets.via (fun _ k => (XS.ifYes A0 hx rfl (pc0 := 14) (pc' := 21) rfl (D at_14) rfl (Jvm.Free.XT.i0_eq_t b14) (by decide) (by decide) k)) ?_
      refine Gets.via (fun _ k => (XS.iconst A0 hx rfl (D at_21) (XS.istore A0 hx rfl (D at_22) rfl (l' := #[vI p0, vI p1, vI p2, vI p3, vI (2 : Int32), .unset, .unset, .unset, .unset, .unset, .unset]) rfl k))) ?_
      exact j24 T0 X0 _ (by decide)
    · refine Gets.via (fun _ k => (XS.ifNo A0 hx rfl (D at_14) rfl (Jvm.Free.XT.i0_eq_f b14) k)) ?_
      refine Gets.via (fun _ k => (XS.iconst A0 hx rfl (D at_17) (XS.goto A0 hx rfl (pc0 := 18) (pc' := 22) rfl (D at_18) (by decide) (by decide) k))) ?_
      refine Gets.via (fun _ k => (XS.istore A0 hx rfl (D at_22) rfl (l' := #[vI p0, vI p1, vI p2, vI p3, vI (3 : Int32), .unset, .unset, .unset, .unset, .unset, .unset]) rfl k)) ?_
      exact j24 T0 X0 _ (by decide)
  · refine Gets.via (fun _ k => (XS.icmpYes A0 hx rfl (pc0 := 8) (pc' := 24) rfl (D at_8) rfl (Jvm.Free.XT.ii_ne_t b8) (by decide) (by decide) k)) ?_
    exact j24 T0 X0 _ (sz4 _)
set_option maxRecDepth 65536 in
set_option maxHeartbeats 40000000 in
theorem comes_1 {Post : Tables → Env → Array Value → State → Outcome → State → Prop} (hpost : ∀ tb e args s v u, (limb_1_1.after args s (.returned v) u = true ∧ limb_1_2.after args s (.returned v) u = true ∧ True) → FramedW s (.returned v) u (Jvm.fieldLocs frame_1_writes args s ++ Jvm.arrayLocs frame_1_arrays args s ++ Jvm.staticLocs frame_1_statics s) 48 5376 → Post tb e args s (.returned v) u) :
    ArmFor flags0 classFile x code maxLocals ret World_1 tables_1 room_1 Calls_1 rest_1 Pre_1 Post := by
  intro l hfl _ _ p e ha hc hk s m args below hf hA hF happ hP
  obtain ⟨hcalls, hrest, hpre⟩ := hP
  obtain ⟨-, -, -, hnamed, -, -, -, hat⟩ := (Spec.applies_iff hf).mp happ
  obtain ⟨hg, hn⟩ := and_e (Cond.before_iff.mp (show (Jvm.Cond.and given_1 narrow_1).before args s = true from hpre))
  obtain ⟨h1, h2⟩ := and_e hg
  obtain ⟨w0, w1, w2, w3, rfl⟩ : ∃ w0 w1 w2 w3 : Value, args = #[w0, w1, w2, w3] := by
    have hs : args.size = 4 := by simpa [Cond.value, given_1] using h1
    obtain ⟨L⟩ := args
    match L, hs with
    | [w0, w1, w2, w3], _ => exact ⟨w0, w1, w2, w3, rfl⟩
  have hw := fun d (hd : d ∈ tables_1) => atoms_spec (ws := Jvm.Cond.code x code maxLocals ret :: tables_1) hat d (List.mem_cons_of_mem _ hd)
  obtain ⟨u0, r0⟩ := and_e h2
  obtain ⟨i0, e0⟩ := is_v u0
  obtain rfl : w0 = (.int i0) := Option.some.inj e0
  obtain ⟨u1, r1⟩ := and_e r0
  obtain ⟨i1, e1⟩ := is_v u1
  obtain rfl : w1 = (.int i1) := Option.some.inj e1
  obtain ⟨u2, r2⟩ := and_e r1
  obtain ⟨i2, e2⟩ := is_v u2
  obtain rfl : w2 = (.int i2) := Option.some.inj e2
  obtain ⟨i3, e3⟩ := is_v r2
  obtain rfl : w3 = (.int i3) := Option.some.inj e3
  obtain ⟨hst, hown0⟩ := atoms_of _ (rest_1_c_eq ▸ (show rest_1_c.before _ s = true from hrest))
  obtain ⟨zc, ez⟩ := is_v (Cond.before_iff.mp (hst _ (List.mem_of_getElem? (i := 1) rfl)))
  have O2 : Sta s s.heap "java/lang/String" "COMPACT_STRINGS" "Z" (.int zc) := Sta.start ez (Or.inl (hst _ (List.mem_of_getElem? (i := 0) rfl)))
  have P5 : ¬ zc = 0 := gotF (Cond.eq_ints ez (Term.int_eval (0))) (not_v (Cond.before_iff.mp (hst _ (List.mem_of_getElem? (i := 2) rfl))))
  have hEL : EW s _ consts_1 := (EW.cons (w108 hw) (by decide) (EW.cons (w191 hw) (by decide) (EW.cons (w30 hw) (by decide) (EW.cons (w18 hw) (by decide) (EW.cons (w211 hw) (by decide) EW.nil)))))
  have hCH : CHv s consts_1 s.vm s.heap := CHv.start hEL hcalls.1 (hst _ (List.mem_of_getElem? (i := 2) rfl)) (w19 hw) (w5 hw)
  obtain ⟨fm, v4, P6⟩ := isR_v (Cond.before_iff.mp (hst _ (List.mem_of_getElem? (i := 8) rfl)))
  have O4 : Sta s s.heap "jdk/internal/util/Preconditions" "SIOOBE_FORMATTER" "Ljava/util/function/BiFunction;" fm := Sta.start v4 (Or.inl (hst _ (List.mem_of_getElem? (i := 7) rfl)))
  obtain ⟨n, o, h1, h2, h3, v, L, rfl, ⟨⟨rfl, -⟩, N, -⟩, -, hq⟩ := rmLaw ⟨hw, hEL, O2, P5, O4, P6⟩ i0 i1 i2 i3 s.heap (Old.start s) p e ha hc hk s m _ below hf ((Spec.applies_iff_loose hf).mp happ).1 ⟨rfl, State.Warmed39.refl s, rfl, hCH, fun _ q => nomatch q⟩ trivial
  refine ⟨n, _, h1, h2, h3, hpost _ _ _ _ _ _ ⟨Cond.after_iff.mpr rfl, Cond.after_iff.mpr (eq_i res_at (Term.int_eval (1)) rfl), trivial⟩ ⟨hq.1, hq.2.1, hq.2.2.1, (hq.2.2.2.sift fun y hy => Or.inr (N y hy)).mono (by decide) (by decide)⟩⟩
theorem main_1_1 : Claimed_1_1 := comes_1 fun _ _ _ _ _ _ h hF => ⟨h.1, hF⟩
theorem main_1_2 : Claimed_1_2 := comes_1 fun _ _ _ _ _ _ h hF => ⟨h.2.1, hF⟩
end Jvm.Pilot.@@N@@
namespace Jvm.Pilot.@@N@@
open Jvm Jvm.ClassFile Sem Op Lib Jvm.Free Jvm.Stand Jvm.Pilot.@@N@@.Jvm.D
/-! MADE BY PROGRAM (witnessworld.py) out of the Statement's table words and the real class files: 24 classes; the members and pool entries that the words name. The judged class is class 1, her method 2. -/
namespace start1
open Jvm.ClassFile
def u (s : String) : CpInfo := .utf8 (stringToUtf16 s)
/-- a pool by its gaps: so many unusable entries, then the entry; so many at the end -/
def gap : Nat → List CpInfo → List CpInfo
  | 0, r => r
  | n + 1, r => .unusable :: gap n r
def poolList (es : List (Nat × CpInfo)) (last : Nat) : List CpInfo := es.foldr (fun e r => gap e.1 (e.2 :: r)) (gap last [])
def pool (es : List (Nat × CpInfo)) (last : Nat) : Array CpInfo := ⟨poolList es last⟩
def fileOf (pool : Array CpInfo) (this : Nat) (attrs : Array Attribute := #[]) (ms : Array MethodInfo := #[]) (fl : Nat := 33) (sup : Nat := 0) (ifs : Array Nat := #[]) (fds : Array FieldInfo := #[]) : ClassFile where
  minorVersion := 0
  majorVersion := 65
  constantPool := pool
  accessFlags := fl
  thisClass := this
  superClass := sup
  interfaces := ifs
  fields := fds
  methods := ms
  attributes := attrs
def plain (name : String) (sup : Option ClassId) : Class where
  name := name
  kind := .ordinary
  loader := none
  accessFlags := 33
  super := sup
  interfaces := #[]
  cf := none
  fields := #[]
  methods := #[]
  instanceTypes := #[]
  staticTypes := #[]
  resolved := #[]
  callSites := []
  init := .initialized
  statics := none
  mirror := none

def pool0 : Array CpInfo := pool [(5, u "<init>"), (0, u "()V"), (1, .class_ 10), (1, u "java/lang/Object")] 113

def k0c0 : Code := { maxStack := 0, maxLocals := 1, code := object_method_1_code, exceptionTable := #[], attributes := #[] }
def k0m0 : Method := { name := "<init>", desc := "()V", sig := { parameters := [], returnType := none }, accessFlags := 1, code := some k0c0 }
/-- java/lang/Object -/
def k0 : Class := { plain "java/lang/Object" none with
  accessFlags := 33
  interfaces := #[]
  cf := some (fileOf pool0 8 #[] #[{ accessFlags := 1, nameIndex := 5, descriptorIndex := 6, attributes := #[] }] 33 0 #[] #[])
  fields := #[]
  methods := #[k0m0]
  instanceTypes := #[]
  staticTypes := #[]
  resolved := Array.replicate 124 none
  statics := none }

def pool1 : Array CpInfo := pool [(2, .class_ 4), (1, u "java/lang/Object"), (0, u "<init>"), (0, u "()V"), (0, .class_ 8), (0, u "java/lang/String"), (0, .methodref 7 10), (0, .nameAndType 5 11), (0, u "([C)V"), (0, .methodref 13 14), (0, .class_ 15), (0, .nameAndType 16 17), (0, u "com/example/packwright/packwright/io/SourceTreeRoutineFileNamePinLaw"), (0, u "make"), (0, u "(ICCC)Ljava/lang/String;"), (0, .methodref 19 20), (0, .class_ 21), (0, .nameAndType 22 23), (0, u "com/example/packwright/packwright/io/SourceTree"), (0, u "routineFileName"), (0, u "(Ljava/lang/String;)Ljava/lang/String;"), (0, .methodref 7 25), (0, .nameAndType 26 27), (0, u "length"), (0, u "()I"), (0, .methodref 7 29), (0, .nameAndType 30 31), (0, u "charAt"), (0, u "(I)C"), (3, u "law"), (0, u "(IIII)Z")] 2

def k1m0 : Method := { name := "<init>", desc := "()V", sig := { parameters := [], returnType := none }, accessFlags := 2, code := none }
def k1c1 : Code := { maxStack := 4, maxLocals := 5, code := method_2_code, exceptionTable := #[], attributes := #[] }
def k1m1 : Method := { name := "make", desc := "(ICCC)Ljava/lang/String;", sig := { parameters := [.int, .char, .char, .char], returnType := some (.object "java/lang/String") }, accessFlags := 10, code := some k1c1 }
def k1c2 : Code := { maxStack := 4, maxLocals := 11, code := code, exceptionTable := #[], attributes := #[] }
def k1m2 : Method := { name := "law", desc := "(IIII)Z", sig := { parameters := [.int, .int, .int, .int], returnType := some .boolean }, accessFlags := 9, code := some k1c2 }
/-- com/example/packwright/packwright/io/SourceTreeRoutineFileNamePinLaw -/
def k1 : Class := { plain "com/example/packwright/packwright/io/SourceTreeRoutineFileNamePinLaw" (some 0) with
  accessFlags := 49
  interfaces := #[]
  cf := some (fileOf pool1 13 #[] #[{ accessFlags := 2, nameIndex := 5, descriptorIndex := 6, attributes := #[] }, { accessFlags := 10, nameIndex := 16, descriptorIndex := 17, attributes := #[] }, { accessFlags := 9, nameIndex := 35, descriptorIndex := 36, attributes := #[] }] 49 2 #[] #[])
  fields := #[]
  methods := #[k1m0, k1m1, k1m2]
  instanceTypes := #[]
  staticTypes := #[]
  resolved := Array.replicate 39 none
  statics := none }

def pool2 : Array CpInfo := pool [(1, .class_ 2), (0, u "java/io/Serializable"), (0, .class_ 4), (0, u "java/lang/Object")] 2

/-- java/io/Serializable -/
def k2 : Class := { plain "java/io/Serializable" (some 0) with
  accessFlags := 1537
  interfaces := #[]
  cf := some (fileOf pool2 1 #[] #[] 1537 3 #[] #[])
  fields := #[]
  methods := #[]
  instanceTypes := #[]
  staticTypes := #[]
  resolved := Array.replicate 7 none
  statics := none }

def pool3 : Array CpInfo := pool [(1, .class_ 2), (0, u "java/lang/Comparable"), (0, .class_ 4), (0, u "java/lang/Object")] 7

/-- java/lang/Comparable -/
def k3 : Class := { plain "java/lang/Comparable" (some 0) with
  accessFlags := 1537
  interfaces := #[]
  cf := some (fileOf pool3 1 #[] #[] 1537 3 #[] #[])
  fields := #[]
  methods := #[]
  instanceTypes := #[]
  staticTypes := #[]
  resolved := Array.replicate 12 none
  statics := none }

def pool4 : Array CpInfo := pool [(2, .class_ 4), (1, u "java/lang/CharSequence"), (42, .class_ 48), (0, u "java/lang/CharSequence$1CodePointIterator"), (10, .class_ 60), (0, u "java/lang/CharSequence$1CharIterator"), (5, .class_ 67), (0, u "java/lang/Object")] 63

/-- java/lang/CharSequence -/
def k4 : Class := { plain "java/lang/CharSequence" (some 0) with
  accessFlags := 1537
  interfaces := #[]
  cf := some (fileOf pool4 2 #[.nestMembers #[47, 59]] #[] 1537 66 #[] #[])
  fields := #[]
  methods := #[]
  instanceTypes := #[]
  staticTypes := #[]
  resolved := Array.replicate 131 none
  statics := none }

def pool5 : Array CpInfo := pool [(1, .class_ 2), (0, u "java/lang/constant/Constable"), (0, .class_ 4), (0, u "java/lang/Object")] 6

/-- java/lang/constant/Constable -/
def k5 : Class := { plain "java/lang/constant/Constable" (some 0) with
  accessFlags := 1537
  interfaces := #[]
  cf := some (fileOf pool5 1 #[] #[] 1537 3 #[] #[])
  fields := #[]
  methods := #[]
  instanceTypes := #[]
  staticTypes := #[]
  resolved := Array.replicate 11 none
  statics := none }

def pool6 : Array CpInfo := pool [(1, .class_ 2), (0, u "java/lang/constant/ConstantDesc"), (0, .class_ 4), (0, u "java/lang/Object")] 32

/-- java/lang/constant/ConstantDesc -/
def k6 : Class := { plain "java/lang/constant/ConstantDesc" (some 0) with
  accessFlags := 1537
  interfaces := #[]
  cf := some (fileOf pool6 1 #[] #[] 1537 3 #[] #[])
  fields := #[]
  methods := #[]
  instanceTypes := #[]
  staticTypes := #[]
  resolved := Array.replicate 37 none
  statics := none }

def pool7 : Array CpInfo := pool [(1, .methodref 2 3), (0, .class_ 4), (0, .nameAndType 5 6), (0, u "java/lang/Object"), (0, u "<init>"), (0, u "()V"), (0, .string 8), (0, u ""), (0, .fieldref 10 11), (0, .class_ 12), (0, .nameAndType 13 14), (0, u "java/lang/String"), (0, u "value"), (0, u "[B"), (0, .fieldref 10 16), (0, .nameAndType 17 18), (0, u "coder"), (0, u "B"), (2, u "hash"), (0, u "I"), (2, u "hashIsZero"), (0, u "Z"), (0, .methodref 10 28), (0, .nameAndType 5 29), (0, u "([CIILjava/lang/Void;)V"), (8, .fieldref 10 39), (0, .nameAndType 40 26), (0, u "COMPACT_STRINGS"), (1, .class_ 44), (1, u "java/lang/StringUTF16"), (0, u "compress"), (1, .methodref 42 48), (0, .nameAndType 49 50), (0, u "coderFromArrayLen"), (0, u "([BI)B"), (3, .methodref 55 56), (0, .class_ 57), (0, .nameAndType 58 59), (0, u "java/util/Arrays"), (0, u "copyOfRange"), (0, u "([BII)[B"), (47, .class_ 109), (1, u "java/lang/StringLatin1"), (32, u "()Z"), (34, .methodref 42 178), (0, .nameAndType 45 179), (0, u "([CII)[B"), (13, .class_ 195), (1, u "java/lang/System"), (15, u "([BB)V"), (0, .methodref 193 213), (0, .nameAndType 214 215), (0, u "arraycopy"), (0, u "(Ljava/lang/Object;ILjava/lang/Object;II)V"), (118, u "()I"), (0, .methodref 10 336), (0, .nameAndType 17 337), (0, u "()B"), (2, u "()[B"), (22, u "([BI)C"), (12, u "([BI[BII)I"), (14, u "(II)V"), (35, u "(I)C"), (61, .methodref 10 490), (0, .nameAndType 5 491), (0, u "(Ljava/lang/AbstractStringBuilder;Ljava/lang/Void;)V"), (0, .methodref 10 493), (0, .nameAndType 494 142), (0, u "isLatin1"), (0, .methodref 107 496), (0, .nameAndType 497 363), (0, u "charAt"), (3, u "checkIndex"), (3, .methodref 10 506), (0, .nameAndType 507 334), (0, u "length"), (5, u "checkFromToIndex"), (7, .methodref 10 522), (0, .nameAndType 523 524), (0, u "checkBoundsBeginEnd"), (0, u "(III)V"), (7, u "getBytes"), (16, .methodref 550 506), (0, .class_ 551), (0, u "java/lang/AbstractStringBuilder"), (0, .methodref 550 553), (0, .nameAndType 554 340), (0, u "getValue"), (4, .class_ 561), (1, u "jdk/internal/util/ArraysSupport"), (0, u "mismatch"), (12, .class_ 576), (0, u "java/lang/CharSequence"), (22, u "CASE_INSENSITIVE_ORDER"), (0, u "Ljava/util/Comparator;"), (6, .methodref 559 608), (0, .nameAndType 562 376), (15, .methodref 10 625), (0, .nameAndType 626 627), (0, u "startsWith"), (0, u "(Ljava/lang/String;I)Z"), (53, .methodref 10 682), (0, .nameAndType 683 684), (0, u "substring"), (0, u "(II)Ljava/lang/String;"), (0, .methodref 107 686), (0, .nameAndType 687 688), (0, u "newString"), (0, u "([BII)Ljava/lang/String;"), (132, u "([BIB)V"), (70, u "(I)Ljava/lang/String;"), (117, u "([C)V"), (36, .methodref 550 493), (5, .fieldref 1054 1055), (0, .class_ 1056), (0, .nameAndType 1057 1058), (0, u "jdk/internal/util/Preconditions"), (0, u "SIOOBE_FORMATTER"), (0, u "Ljava/util/function/BiFunction;"), (0, .methodref 1054 1060), (0, .nameAndType 501 1061), (0, u "(IILjava/util/function/BiFunction;)I"), (0, .methodref 1054 1063), (0, .nameAndType 513 1064), (0, u "(IIILjava/util/function/BiFunction;)I"), (36, u "serialPersistentFields"), (0, u "[Ljava/io/ObjectStreamField;"), (0, .class_ 1104), (0, u "java/lang/String$CaseInsensitiveComparator"), (1, .class_ 1107), (0, u "java/io/Serializable"), (0, .class_ 1109), (0, u "java/lang/Comparable"), (0, .class_ 1111), (0, u "java/lang/constant/Constable"), (0, .class_ 1113), (0, u "java/lang/constant/ConstantDesc"), (2, u "serialVersionUID"), (0, u "J"), (3, u "REPL"), (0, u "C"), (2, u "LATIN1"), (1, u "UTF16"), (105, u "(Ljava/lang/StringBuilder;)V"), (23, u "(Ljava/lang/String;)Z")] 193

def k7m0 : Method := { name := "<init>", desc := "()V", sig := { parameters := [], returnType := none }, accessFlags := 1, code := none }
def k7c1 : Code := { maxStack := 5, maxLocals := 2, code := jdk_42_method_3_code, exceptionTable := #[], attributes := #[] }
def k7m1 : Method := { name := "<init>", desc := "([C)V", sig := { parameters := [(.array .char)], returnType := none }, accessFlags := 1, code := some k7c1 }
def k7c2 : Code := { maxStack := 3, maxLocals := 2, code := jdk_42_method_53_code, exceptionTable := #[], attributes := #[] }
def k7m2 : Method := { name := "<init>", desc := "(Ljava/lang/StringBuilder;)V", sig := { parameters := [(.object "java/lang/StringBuilder")], returnType := none }, accessFlags := 1, code := some k7c2 }
def k7c3 : Code := { maxStack := 2, maxLocals := 1, code := jdk_42_method_54_code, exceptionTable := #[], attributes := #[] }
def k7m3 : Method := { name := "length", desc := "()I", sig := { parameters := [], returnType := some .int }, accessFlags := 1, code := some k7c3 }
def k7c4 : Code := { maxStack := 2, maxLocals := 2, code := jdk_42_method_56_code, exceptionTable := #[], attributes := #[] }
def k7m4 : Method := { name := "charAt", desc := "(I)C", sig := { parameters := [.int], returnType := some .char }, accessFlags := 1, code := some k7c4 }
def k7c5 : Code := { maxStack := 5, maxLocals := 8, code := jdk_42_method_75_code, exceptionTable := #[], attributes := #[] }
def k7m5 : Method := { name := "startsWith", desc := "(Ljava/lang/String;I)Z", sig := { parameters := [(.object "java/lang/String"), .int], returnType := some .boolean }, accessFlags := 1, code := some k7c5 }
def k7c6 : Code := { maxStack := 3, maxLocals := 2, code := jdk_42_method_76_code, exceptionTable := #[], attributes := #[] }
def k7m6 : Method := { name := "startsWith", desc := "(Ljava/lang/String;)Z", sig := { parameters := [(.object "java/lang/String")], returnType := some .boolean }, accessFlags := 1, code := some k7c6 }
def k7c7 : Code := { maxStack := 3, maxLocals := 2, code := jdk_42_method_91_code, exceptionTable := #[], attributes := #[] }
def k7m7 : Method := { name := "substring", desc := "(I)Ljava/lang/String;", sig := { parameters := [.int], returnType := some (.object "java/lang/String") }, accessFlags := 1, code := some k7c7 }
def k7c8 : Code := { maxStack := 3, maxLocals := 5, code := jdk_42_method_92_code, exceptionTable := #[], attributes := #[] }
def k7m8 : Method := { name := "substring", desc := "(II)Ljava/lang/String;", sig := { parameters := [.int, .int], returnType := some (.object "java/lang/String") }, accessFlags := 1, code := some k7c8 }
def k7c9 : Code := { maxStack := 5, maxLocals := 4, code := jdk_42_method_147_code, exceptionTable := #[], attributes := #[] }
def k7m9 : Method := { name := "getBytes", desc := "([BIB)V", sig := { parameters := [(.array .byte), .int, .byte], returnType := none }, accessFlags := 0, code := some k7c9 }
def k7c10 : Code := { maxStack := 4, maxLocals := 6, code := jdk_42_method_149_code, exceptionTable := #[], attributes := #[] }
def k7m10 : Method := { name := "<init>", desc := "([CIILjava/lang/Void;)V", sig := { parameters := [(.array .char), .int, .int, (.object "java/lang/Void")], returnType := none }, accessFlags := 2, code := some k7c10 }
def k7c11 : Code := { maxStack := 5, maxLocals := 5, code := jdk_42_method_150_code, exceptionTable := #[], attributes := #[] }
def k7m11 : Method := { name := "<init>", desc := "(Ljava/lang/AbstractStringBuilder;Ljava/lang/Void;)V", sig := { parameters := [(.object "java/lang/AbstractStringBuilder"), (.object "java/lang/Void")], returnType := none }, accessFlags := 0, code := some k7c11 }
def k7c12 : Code := { maxStack := 2, maxLocals := 3, code := jdk_42_method_151_code, exceptionTable := #[], attributes := #[] }
def k7m12 : Method := { name := "<init>", desc := "([BB)V", sig := { parameters := [(.array .byte), .byte], returnType := none }, accessFlags := 0, code := some k7c12 }
def k7c13 : Code := { maxStack := 1, maxLocals := 1, code := jdk_42_method_152_code, exceptionTable := #[], attributes := #[] }
def k7m13 : Method := { name := "coder", desc := "()B", sig := { parameters := [], returnType := some .byte }, accessFlags := 0, code := some k7c13 }
def k7c14 : Code := { maxStack := 1, maxLocals := 1, code := jdk_42_method_154_code, exceptionTable := #[], attributes := #[] }
def k7m14 : Method := { name := "isLatin1", desc := "()Z", sig := { parameters := [], returnType := some .boolean }, accessFlags := 0, code := some k7c14 }
def k7c15 : Code := { maxStack := 3, maxLocals := 2, code := jdk_42_method_155_code, exceptionTable := #[], attributes := #[] }
def k7m15 : Method := { name := "checkIndex", desc := "(II)V", sig := { parameters := [.int, .int], returnType := none }, accessFlags := 8, code := some k7c15 }
def k7c16 : Code := { maxStack := 4, maxLocals := 3, code := jdk_42_method_158_code, exceptionTable := #[], attributes := #[] }
def k7m16 : Method := { name := "checkBoundsBeginEnd", desc := "(III)V", sig := { parameters := [.int, .int, .int], returnType := none }, accessFlags := 8, code := some k7c16 }
/-- java/lang/String -/
def k7 : Class := { plain "java/lang/String" (some 0) with
  accessFlags := 49
  interfaces := #[2, 3, 4, 5, 6]
  cf := some (fileOf pool7 10 #[.nestMembers #[1103]] #[{ accessFlags := 1, nameIndex := 5, descriptorIndex := 6, attributes := #[] }, { accessFlags := 1, nameIndex := 5, descriptorIndex := 1010, attributes := #[] }, { accessFlags := 1, nameIndex := 5, descriptorIndex := 1233, attributes := #[] }, { accessFlags := 1, nameIndex := 507, descriptorIndex := 334, attributes := #[] }, { accessFlags := 1, nameIndex := 497, descriptorIndex := 427, attributes := #[] }, { accessFlags := 1, nameIndex := 626, descriptorIndex := 627, attributes := #[] }, { accessFlags := 1, nameIndex := 626, descriptorIndex := 1257, attributes := #[] }, { accessFlags := 1, nameIndex := 683, descriptorIndex := 892, attributes := #[] }, { accessFlags := 1, nameIndex := 683, descriptorIndex := 684, attributes := #[] }, { accessFlags := 0, nameIndex := 532, descriptorIndex := 821, attributes := #[] }, { accessFlags := 2, nameIndex := 5, descriptorIndex := 29, attributes := #[] }, { accessFlags := 0, nameIndex := 5, descriptorIndex := 491, attributes := #[] }, { accessFlags := 0, nameIndex := 5, descriptorIndex := 211, attributes := #[] }, { accessFlags := 0, nameIndex := 17, descriptorIndex := 337, attributes := #[] }, { accessFlags := 0, nameIndex := 494, descriptorIndex := 142, attributes := #[] }, { accessFlags := 8, nameIndex := 501, descriptorIndex := 391, attributes := #[] }, { accessFlags := 8, nameIndex := 523, descriptorIndex := 524, attributes := #[] }] 49 2 #[1106, 1108, 575, 1110, 1112] #[{ accessFlags := 18, nameIndex := 13, descriptorIndex := 14, attributes := #[] }, { accessFlags := 18, nameIndex := 17, descriptorIndex := 18, attributes := #[] }, { accessFlags := 2, nameIndex := 21, descriptorIndex := 22, attributes := #[] }, { accessFlags := 2, nameIndex := 25, descriptorIndex := 26, attributes := #[] }, { accessFlags := 26, nameIndex := 1116, descriptorIndex := 1117, attributes := #[] }, { accessFlags := 24, nameIndex := 40, descriptorIndex := 26, attributes := #[] }, { accessFlags := 26, nameIndex := 1101, descriptorIndex := 1102, attributes := #[] }, { accessFlags := 26, nameIndex := 1121, descriptorIndex := 1122, attributes := #[] }, { accessFlags := 25, nameIndex := 599, descriptorIndex := 600, attributes := #[] }, { accessFlags := 24, nameIndex := 1125, descriptorIndex := 18, attributes := #[] }, { accessFlags := 24, nameIndex := 1127, descriptorIndex := 18, attributes := #[] }])
  fields := #[{ name := "value", type := (.array .byte), accessFlags := 18, slot := 0, constantValue := 0 }, { name := "coder", type := .byte, accessFlags := 18, slot := 1, constantValue := 0 }, { name := "hash", type := .int, accessFlags := 2, slot := 2, constantValue := 0 }, { name := "hashIsZero", type := .boolean, accessFlags := 2, slot := 3, constantValue := 0 }, { name := "serialVersionUID", type := .long, accessFlags := 26, slot := 0, constantValue := 0 }, { name := "COMPACT_STRINGS", type := .boolean, accessFlags := 24, slot := 1, constantValue := 0 }, { name := "serialPersistentFields", type := (.array (.object "java/io/ObjectStreamField")), accessFlags := 26, slot := 2, constantValue := 0 }, { name := "REPL", type := .char, accessFlags := 26, slot := 3, constantValue := 0 }, { name := "CASE_INSENSITIVE_ORDER", type := (.object "java/util/Comparator"), accessFlags := 25, slot := 4, constantValue := 0 }, { name := "LATIN1", type := .byte, accessFlags := 24, slot := 5, constantValue := 0 }, { name := "UTF16", type := .byte, accessFlags := 24, slot := 6, constantValue := 0 }]
  methods := #[k7m0, k7m1, k7m2, k7m3, k7m4, k7m5, k7m6, k7m7, k7m8, k7m9, k7m10, k7m11, k7m12, k7m13, k7m14, k7m15, k7m16]
  instanceTypes := #[(.array .byte), .byte, .int, .boolean]
  staticTypes := #[.long, .boolean, (.array (.object "java/io/ObjectStreamField")), .char, (.object "java/util/Comparator"), .byte, .byte]
  resolved := Array.replicate 1451 none
  statics := some 0 }

def pool8 : Array CpInfo := pool [(2, .class_ 4), (0, .nameAndType 5 6), (0, u "java/lang/Object"), (0, u "<init>"), (0, u "()V"), (4, .class_ 13), (1, u "com/example/packwright/packwright/io/SourceTree"), (0, u "files"), (0, u "Lcom/example/packwright/packwright/io/OutputFiles;"), (2, u "root"), (0, u "Ljava/nio/file/Path;"), (27, .class_ 48), (0, u "java/lang/StringBuilder"), (0, .methodref 47 3), (20, .class_ 71), (0, u "java/lang/String"), (6, .methodref 47 79), (0, .nameAndType 80 81), (0, u "append"), (0, u "(Ljava/lang/String;)Ljava/lang/StringBuilder;"), (3, .class_ 86), (0, u "com/example/packwright/packwright/io/SourceTree$SourceFile"), (2, .methodref 47 90), (0, .nameAndType 91 92), (0, u "toString"), (0, u "()Ljava/lang/String;"), (73, u "routineFileName"), (0, u "(Ljava/lang/String;)Ljava/lang/String;"), (0, .class_ 169), (0, u "com/example/packwright/packwright/io/SourceTree$RoutineFile"), (9, .class_ 180), (0, u "com/example/packwright/packwright/io/SourceTree$Layout"), (180, u "PLACEMENT"), (0, u "Ljava/util/regex/Pattern;"), (14, u "(I)Ljava/lang/String;"), (3, u "(Ljava/lang/String;)Z"), (211, .string 594), (0, u ".m"), (2, u "substring"), (1, .string 600), (0, u "_"), (0, .methodref 70 602), (0, .nameAndType 603 381), (0, u "startsWith"), (0, .string 605), (0, u "%"), (0, .methodref 70 607), (0, .nameAndType 597 377), (15, u "ROUTINES"), (0, u "Ljava/lang/String;"), (1, u "NODES"), (0, u "HEADER"), (0, u "TRAILER"), (0, u "HOST_FILE"), (0, u "ROUTINE_FILE")] 73

def k8c0 : Code := { maxStack := 3, maxLocals := 2, code := prog_22_method_21_code, exceptionTable := #[], attributes := #[] }
def k8m0 : Method := { name := "routineFileName", desc := "(Ljava/lang/String;)Ljava/lang/String;", sig := { parameters := [(.object "java/lang/String")], returnType := some (.object "java/lang/String") }, accessFlags := 9, code := some k8c0 }
/-- com/example/packwright/packwright/io/SourceTree -/
def k8 : Class := { plain "com/example/packwright/packwright/io/SourceTree" (some 0) with
  accessFlags := 49
  interfaces := #[]
  cf := some (fileOf pool8 11 #[.nestMembers #[179, 85, 168]] #[{ accessFlags := 9, nameIndex := 166, descriptorIndex := 167, attributes := #[] }] 49 2 #[] #[{ accessFlags := 26, nameIndex := 623, descriptorIndex := 624, attributes := #[] }, { accessFlags := 26, nameIndex := 626, descriptorIndex := 624, attributes := #[] }, { accessFlags := 26, nameIndex := 627, descriptorIndex := 624, attributes := #[] }, { accessFlags := 26, nameIndex := 628, descriptorIndex := 624, attributes := #[] }, { accessFlags := 26, nameIndex := 629, descriptorIndex := 624, attributes := #[] }, { accessFlags := 26, nameIndex := 630, descriptorIndex := 624, attributes := #[] }, { accessFlags := 26, nameIndex := 361, descriptorIndex := 362, attributes := #[] }, { accessFlags := 18, nameIndex := 18, descriptorIndex := 19, attributes := #[] }, { accessFlags := 18, nameIndex := 14, descriptorIndex := 15, attributes := #[] }])
  fields := #[{ name := "ROUTINES", type := (.object "java/lang/String"), accessFlags := 26, slot := 0, constantValue := 0 }, { name := "NODES", type := (.object "java/lang/String"), accessFlags := 26, slot := 1, constantValue := 0 }, { name := "HEADER", type := (.object "java/lang/String"), accessFlags := 26, slot := 2, constantValue := 0 }, { name := "TRAILER", type := (.object "java/lang/String"), accessFlags := 26, slot := 3, constantValue := 0 }, { name := "HOST_FILE", type := (.object "java/lang/String"), accessFlags := 26, slot := 4, constantValue := 0 }, { name := "ROUTINE_FILE", type := (.object "java/lang/String"), accessFlags := 26, slot := 5, constantValue := 0 }, { name := "PLACEMENT", type := (.object "java/util/regex/Pattern"), accessFlags := 26, slot := 6, constantValue := 0 }, { name := "root", type := (.object "java/nio/file/Path"), accessFlags := 18, slot := 0, constantValue := 0 }, { name := "files", type := (.object "com/example/packwright/packwright/io/OutputFiles"), accessFlags := 18, slot := 1, constantValue := 0 }]
  methods := #[k8m0]
  instanceTypes := #[(.object "java/nio/file/Path"), (.object "com/example/packwright/packwright/io/OutputFiles")]
  staticTypes := #[(.object "java/lang/String"), (.object "java/lang/String"), (.object "java/lang/String"), (.object "java/lang/String"), (.object "java/lang/String"), (.object "java/lang/String"), (.object "java/util/regex/Pattern")]
  resolved := Array.replicate 704 none
  statics := none }

def pool9 : Array CpInfo := pool [(1, .class_ 2), (0, u "java/lang/Appendable"), (0, .class_ 4), (0, u "java/lang/Object")] 9

/-- java/lang/Appendable -/
def k9 : Class := { plain "java/lang/Appendable" (some 0) with
  accessFlags := 1537
  interfaces := #[]
  cf := some (fileOf pool9 1 #[] #[] 1537 3 #[] #[])
  fields := #[]
  methods := #[]
  instanceTypes := #[]
  staticTypes := #[]
  resolved := Array.replicate 14 none
  statics := none }

def pool10 : Array CpInfo := pool [(1, .class_ 2), (0, u "java/lang/String"), (0, .methodref 4 5), (0, .class_ 6), (0, .nameAndType 7 8), (0, u "java/lang/Object"), (0, u "<init>"), (0, u "()V"), (1, .class_ 12), (1, u "java/lang/AbstractStringBuilder"), (0, u "EMPTYVALUE"), (0, u "[B"), (0, .fieldref 10 16), (0, .nameAndType 17 14), (0, u "value"), (0, .fieldref 1 19), (0, .nameAndType 20 21), (0, u "COMPACT_STRINGS"), (0, u "Z"), (0, .fieldref 10 23), (0, .nameAndType 24 25), (0, u "coder"), (0, u "B"), (6, .methodref 1 33), (0, .nameAndType 34 35), (0, u "length"), (0, u "()I"), (4, .methodref 1 41), (0, .nameAndType 24 42), (0, u "()B"), (2, u "append"), (0, u "(Ljava/lang/String;)Ljava/lang/AbstractStringBuilder;"), (1, .class_ 49), (0, u "java/lang/CharSequence"), (19, u "(Ljava/lang/String;)V"), (5, u "maybeLatin1"), (3, .fieldref 10 80), (0, .nameAndType 81 82), (0, u "count"), (0, u "I"), (2, u "isLatin1"), (0, u "()Z"), (13, .methodref 10 101), (0, .nameAndType 102 103), (0, u "ensureCapacityInternal"), (0, u "(I)V"), (104, .methodref 10 209), (0, .nameAndType 210 211), (0, u "putStringAt"), (0, u "(ILjava/lang/String;)V"), (5, u "inflateIfNeededFor"), (2, .nameAndType 221 222), (0, u "getBytes"), (0, u "([BIB)V"), (174, .methodref 10 398), (0, .nameAndType 217 69), (0, .methodref 1 220), (3, u "()[B"), (40, .class_ 445), (0, u "java/lang/Appendable"), (106, u "getValue")] 56

def k10m0 : Method := { name := "<init>", desc := "()V", sig := { parameters := [], returnType := none }, accessFlags := 0, code := none }
def k10c1 : Code := { maxStack := 2, maxLocals := 2, code := jdk_68_method_2_code, exceptionTable := #[], attributes := #[] }
def k10m1 : Method := { name := "<init>", desc := "(I)V", sig := { parameters := [.int], returnType := none }, accessFlags := 0, code := some k10c1 }
def k10c2 : Code := { maxStack := 1, maxLocals := 1, code := jdk_68_method_6_code, exceptionTable := #[], attributes := #[] }
def k10m2 : Method := { name := "length", desc := "()I", sig := { parameters := [], returnType := some .int }, accessFlags := 1, code := some k10c2 }
def k10c3 : Code := { maxStack := 4, maxLocals := 3, code := jdk_68_method_9_code, exceptionTable := #[], attributes := #[] }
def k10m3 : Method := { name := "ensureCapacityInternal", desc := "(I)V", sig := { parameters := [.int], returnType := none }, accessFlags := 2, code := some k10c3 }
def k10c4 : Code := { maxStack := 3, maxLocals := 3, code := jdk_68_method_22_code, exceptionTable := #[], attributes := #[] }
def k10m4 : Method := { name := "append", desc := "(Ljava/lang/String;)Ljava/lang/AbstractStringBuilder;", sig := { parameters := [(.object "java/lang/String")], returnType := some (.object "java/lang/AbstractStringBuilder") }, accessFlags := 1, code := some k10c4 }
def k10c5 : Code := { maxStack := 1, maxLocals := 1, code := jdk_68_method_64_code, exceptionTable := #[], attributes := #[] }
def k10m5 : Method := { name := "getValue", desc := "()[B", sig := { parameters := [], returnType := some (.array .byte) }, accessFlags := 16, code := some k10c5 }
def k10c6 : Code := { maxStack := 1, maxLocals := 1, code := jdk_68_method_68_code, exceptionTable := #[], attributes := #[] }
def k10m6 : Method := { name := "isLatin1", desc := "()Z", sig := { parameters := [], returnType := some .boolean }, accessFlags := 16, code := some k10c6 }
def k10c7 : Code := { maxStack := 2, maxLocals := 2, code := jdk_68_method_71_code, exceptionTable := #[], attributes := #[] }
def k10m7 : Method := { name := "inflateIfNeededFor", desc := "(Ljava/lang/String;)V", sig := { parameters := [(.object "java/lang/String")], returnType := none }, accessFlags := 2, code := some k10c7 }
def k10c8 : Code := { maxStack := 4, maxLocals := 3, code := jdk_68_method_73_code, exceptionTable := #[], attributes := #[] }
def k10m8 : Method := { name := "putStringAt", desc := "(ILjava/lang/String;)V", sig := { parameters := [.int, (.object "java/lang/String")], returnType := none }, accessFlags := 2, code := some k10c8 }
/-- java/lang/AbstractStringBuilder -/
def k10 : Class := { plain "java/lang/AbstractStringBuilder" (some 0) with
  accessFlags := 1056
  interfaces := #[9, 4]
  cf := some (fileOf pool10 10 #[] #[{ accessFlags := 0, nameIndex := 7, descriptorIndex := 8, attributes := #[] }, { accessFlags := 0, nameIndex := 7, descriptorIndex := 103, attributes := #[] }, { accessFlags := 1, nameIndex := 34, descriptorIndex := 35, attributes := #[] }, { accessFlags := 2, nameIndex := 102, descriptorIndex := 103, attributes := #[] }, { accessFlags := 1, nameIndex := 45, descriptorIndex := 46, attributes := #[] }, { accessFlags := 16, nameIndex := 552, descriptorIndex := 403, attributes := #[] }, { accessFlags := 16, nameIndex := 85, descriptorIndex := 86, attributes := #[] }, { accessFlags := 2, nameIndex := 217, descriptorIndex := 69, attributes := #[] }, { accessFlags := 2, nameIndex := 210, descriptorIndex := 211, attributes := #[] }] 1056 4 #[444, 48] #[{ accessFlags := 0, nameIndex := 17, descriptorIndex := 14, attributes := #[] }, { accessFlags := 0, nameIndex := 24, descriptorIndex := 25, attributes := #[] }, { accessFlags := 0, nameIndex := 75, descriptorIndex := 21, attributes := #[] }, { accessFlags := 0, nameIndex := 81, descriptorIndex := 82, attributes := #[] }, { accessFlags := 26, nameIndex := 13, descriptorIndex := 14, attributes := #[] }])
  fields := #[{ name := "value", type := (.array .byte), accessFlags := 0, slot := 0, constantValue := 0 }, { name := "coder", type := .byte, accessFlags := 0, slot := 1, constantValue := 0 }, { name := "maybeLatin1", type := .boolean, accessFlags := 0, slot := 2, constantValue := 0 }, { name := "count", type := .int, accessFlags := 0, slot := 3, constantValue := 0 }, { name := "EMPTYVALUE", type := (.array .byte), accessFlags := 26, slot := 0, constantValue := 0 }]
  methods := #[k10m0, k10m1, k10m2, k10m3, k10m4, k10m5, k10m6, k10m7, k10m8]
  instanceTypes := #[(.array .byte), .byte, .boolean, .int]
  staticTypes := #[(.array .byte)]
  resolved := Array.replicate 609 none
  statics := none }

def pool11 : Array CpInfo := pool [(1, .methodref 2 3), (0, .class_ 4), (0, .nameAndType 5 6), (0, u "java/lang/AbstractStringBuilder"), (0, u "<init>"), (0, u "(I)V"), (11, .class_ 20), (1, u "java/lang/String"), (3, .class_ 26), (1, u "java/lang/StringBuilder"), (0, u "append"), (0, u "(Ljava/lang/String;)Ljava/lang/StringBuilder;"), (0, .methodref 2 30), (0, .nameAndType 27 31), (0, u "(Ljava/lang/String;)Ljava/lang/AbstractStringBuilder;"), (105, .methodref 18 138), (0, .nameAndType 5 139), (0, u "(Ljava/lang/StringBuilder;)V"), (5, u "()V"), (10, u "()I"), (186, .methodref 2 344), (0, .nameAndType 345 156), (0, u "length"), (3, .class_ 350), (0, u "java/lang/Appendable"), (0, .class_ 352), (0, u "java/io/Serializable"), (0, .class_ 354), (0, u "java/lang/Comparable"), (0, .class_ 356), (0, u "java/lang/CharSequence"), (0, u "serialVersionUID"), (0, u "J"), (40, u "toString"), (0, u "()Ljava/lang/String;")] 21

def k11c0 : Code := { maxStack := 2, maxLocals := 1, code := jdk_67_method_1_code, exceptionTable := #[], attributes := #[] }
def k11m0 : Method := { name := "<init>", desc := "()V", sig := { parameters := [], returnType := none }, accessFlags := 1, code := some k11c0 }
def k11c1 : Code := { maxStack := 2, maxLocals := 2, code := jdk_67_method_7_code, exceptionTable := #[], attributes := #[] }
def k11m1 : Method := { name := "append", desc := "(Ljava/lang/String;)Ljava/lang/StringBuilder;", sig := { parameters := [(.object "java/lang/String")], returnType := some (.object "java/lang/StringBuilder") }, accessFlags := 1, code := some k11c1 }
def k11c2 : Code := { maxStack := 3, maxLocals := 1, code := jdk_67_method_42_code, exceptionTable := #[], attributes := #[] }
def k11m2 : Method := { name := "toString", desc := "()Ljava/lang/String;", sig := { parameters := [], returnType := some (.object "java/lang/String") }, accessFlags := 1, code := some k11c2 }
def k11c3 : Code := { maxStack := 1, maxLocals := 1, code := jdk_67_method_93_code, exceptionTable := #[], attributes := #[] }
def k11m3 : Method := { name := "length", desc := "()I", sig := { parameters := [], returnType := some .int }, accessFlags := 4161, code := some k11c3 }
/-- java/lang/StringBuilder -/
def k11 : Class := { plain "java/lang/StringBuilder" (some 10) with
  accessFlags := 49
  interfaces := #[9, 2, 3, 4]
  cf := some (fileOf pool11 24 #[] #[{ accessFlags := 1, nameIndex := 5, descriptorIndex := 145, attributes := #[] }, { accessFlags := 1, nameIndex := 27, descriptorIndex := 28, attributes := #[] }, { accessFlags := 1, nameIndex := 399, descriptorIndex := 400, attributes := #[] }, { accessFlags := 4161, nameIndex := 345, descriptorIndex := 156, attributes := #[] }] 49 2 #[349, 351, 353, 355] #[{ accessFlags := 24, nameIndex := 357, descriptorIndex := 358, attributes := #[] }])
  fields := #[{ name := "serialVersionUID", type := .long, accessFlags := 24, slot := 0, constantValue := 0 }]
  methods := #[k11m0, k11m1, k11m2, k11m3]
  instanceTypes := #[(.array .byte), .byte, .boolean, .int]
  staticTypes := #[.long]
  resolved := Array.replicate 422 none
  statics := none }

def pool12 : Array CpInfo := pool [(2, .class_ 4), (1, u "java/lang/Object"), (0, u "<init>"), (0, u "()V"), (1, .class_ 10), (1, u "java/lang/System"), (0, u "allowSecurityManager"), (0, u "I"), (16, u "cons"), (0, u "Ljava/io/Console;"), (77, .class_ 110), (1, u "java/lang/System$CallersHolder"), (43, u "initialErrStream"), (0, u "Ljava/io/PrintStream;"), (19, u "security"), (0, u "Ljava/lang/SecurityManager;"), (31, .class_ 209), (0, u "java/lang/System$1"), (7, u "props"), (0, u "Ljava/util/Properties;"), (2, u "lineSeparator"), (0, u "Ljava/lang/String;"), (96, .class_ 321), (1, u "java/lang/System$LoggerFinder"), (5, .class_ 328), (0, u "java/lang/System$Logger"), (67, u "err"), (2, u "out"), (91, u "notSupportedJnuEncoding"), (15, u "in"), (17, u "initialIn"), (0, u "Ljava/io/InputStream;"), (35, u "bootLayer"), (0, u "Ljava/lang/ModuleLayer;"), (99, .class_ 664), (0, u "java/lang/System$2"), (9, u "NEVER"), (2, u "MAYBE"), (49, u "arraycopy"), (0, u "(Ljava/lang/Object;ILjava/lang/Object;II)V"), (72, .class_ 802), (0, u "java/lang/System$Logger$Level")] 31

def k12m0 : Method := { name := "<init>", desc := "()V", sig := { parameters := [], returnType := none }, accessFlags := 2, code := none }
def k12m1 : Method := { name := "arraycopy", desc := "(Ljava/lang/Object;ILjava/lang/Object;II)V", sig := { parameters := [(.object "java/lang/Object"), .int, (.object "java/lang/Object"), .int, .int], returnType := none }, accessFlags := 265, code := none }
/-- java/lang/System -/
def k12 : Class := { plain "java/lang/System" (some 0) with
  accessFlags := 49
  interfaces := #[]
  cf := some (fileOf pool12 8 #[.nestMembers #[319, 327, 801, 108, 663, 208]] #[{ accessFlags := 2, nameIndex := 5, descriptorIndex := 6, attributes := #[] }, { accessFlags := 265, nameIndex := 727, descriptorIndex := 728, attributes := #[] }] 49 2 #[] #[{ accessFlags := 25, nameIndex := 507, descriptorIndex := 526, attributes := #[] }, { accessFlags := 25, nameIndex := 399, descriptorIndex := 155, attributes := #[] }, { accessFlags := 25, nameIndex := 396, descriptorIndex := 155, attributes := #[] }, { accessFlags := 10, nameIndex := 525, descriptorIndex := 526, attributes := #[] }, { accessFlags := 26, nameIndex := 674, descriptorIndex := 12, attributes := #[] }, { accessFlags := 26, nameIndex := 677, descriptorIndex := 12, attributes := #[] }, { accessFlags := 10, nameIndex := 11, descriptorIndex := 12, attributes := #[] }, { accessFlags := 74, nameIndex := 175, descriptorIndex := 176, attributes := #[] }, { accessFlags := 10, nameIndex := 491, descriptorIndex := 222, attributes := #[] }, { accessFlags := 74, nameIndex := 29, descriptorIndex := 30, attributes := #[] }, { accessFlags := 74, nameIndex := 154, descriptorIndex := 155, attributes := #[] }, { accessFlags := 10, nameIndex := 217, descriptorIndex := 218, attributes := #[] }, { accessFlags := 10, nameIndex := 221, descriptorIndex := 222, attributes := #[] }, { accessFlags := 8, nameIndex := 562, descriptorIndex := 563, attributes := #[] }])
  fields := #[{ name := "in", type := (.object "java/io/InputStream"), accessFlags := 25, slot := 0, constantValue := 0 }, { name := "out", type := (.object "java/io/PrintStream"), accessFlags := 25, slot := 1, constantValue := 0 }, { name := "err", type := (.object "java/io/PrintStream"), accessFlags := 25, slot := 2, constantValue := 0 }, { name := "initialIn", type := (.object "java/io/InputStream"), accessFlags := 10, slot := 3, constantValue := 0 }, { name := "NEVER", type := .int, accessFlags := 26, slot := 4, constantValue := 0 }, { name := "MAYBE", type := .int, accessFlags := 26, slot := 5, constantValue := 0 }, { name := "allowSecurityManager", type := .int, accessFlags := 10, slot := 6, constantValue := 0 }, { name := "security", type := (.object "java/lang/SecurityManager"), accessFlags := 74, slot := 7, constantValue := 0 }, { name := "notSupportedJnuEncoding", type := (.object "java/lang/String"), accessFlags := 10, slot := 8, constantValue := 0 }, { name := "cons", type := (.object "java/io/Console"), accessFlags := 74, slot := 9, constantValue := 0 }, { name := "initialErrStream", type := (.object "java/io/PrintStream"), accessFlags := 74, slot := 10, constantValue := 0 }, { name := "props", type := (.object "java/util/Properties"), accessFlags := 10, slot := 11, constantValue := 0 }, { name := "lineSeparator", type := (.object "java/lang/String"), accessFlags := 10, slot := 12, constantValue := 0 }, { name := "bootLayer", type := (.object "java/lang/ModuleLayer"), accessFlags := 8, slot := 13, constantValue := 0 }]
  methods := #[k12m0, k12m1]
  instanceTypes := #[]
  staticTypes := #[(.object "java/io/InputStream"), (.object "java/io/PrintStream"), (.object "java/io/PrintStream"), (.object "java/io/InputStream"), .int, .int, .int, (.object "java/lang/SecurityManager"), (.object "java/lang/String"), (.object "java/io/Console"), (.object "java/io/PrintStream"), (.object "java/util/Properties"), (.object "java/lang/String"), (.object "java/lang/ModuleLayer")]
  resolved := Array.replicate 834 none
  statics := none }

def pool13 : Array CpInfo := pool [(2, .class_ 4), (1, u "java/lang/Object"), (0, u "<init>"), (0, u "()V"), (7, .class_ 16), (1, u "java/util/Arrays"), (57, .class_ 76), (1, u "java/util/Arrays$NaturalOrder"), (36, .class_ 115), (1, u "java/util/Arrays$LegacyMergeSort"), (1, u "Z"), (21, u "copyOfRange"), (10, .methodref 151 152), (0, .class_ 153), (0, .nameAndType 154 155), (0, u "java/lang/System"), (0, u "arraycopy"), (0, u "(Ljava/lang/Object;ILjava/lang/Object;II)V"), (148, .methodref 305 306), (0, .class_ 307), (0, .nameAndType 308 309), (0, u "java/lang/Math"), (0, u "min"), (0, u "(II)I"), (29, .methodref 14 340), (0, .nameAndType 341 342), (0, u "copyOfRangeByte"), (0, u "([BII)[B"), (0, .methodref 14 344), (0, .nameAndType 345 346), (0, u "checkLength"), (0, u "(II)V"), (28, .class_ 376), (0, u "java/util/Arrays$ArrayList"), (68, u "$assertionsDisabled"), (269, u "MIN_ARRAY_SORT_GRAN"), (0, u "I"), (2, u "INSERTIONSORT_THRESHOLD"), (255, .class_ 976), (0, u "java/util/Arrays$ArrayItr")] 52

def k13m0 : Method := { name := "<init>", desc := "()V", sig := { parameters := [], returnType := none }, accessFlags := 2, code := none }
def k13c1 : Code := { maxStack := 4, maxLocals := 2, code := jdk_65_method_131_code, exceptionTable := #[], attributes := #[] }
def k13m1 : Method := { name := "checkLength", desc := "(II)V", sig := { parameters := [.int, .int], returnType := none }, accessFlags := 10, code := some k13c1 }
def k13c2 : Code := { maxStack := 3, maxLocals := 3, code := jdk_65_method_132_code, exceptionTable := #[], attributes := #[] }
def k13m2 : Method := { name := "copyOfRange", desc := "([BII)[B", sig := { parameters := [(.array .byte), .int, .int], returnType := some (.array .byte) }, accessFlags := 9, code := some k13c2 }
def k13c3 : Code := { maxStack := 6, maxLocals := 5, code := jdk_65_method_133_code, exceptionTable := #[], attributes := #[] }
def k13m3 : Method := { name := "copyOfRangeByte", desc := "([BII)[B", sig := { parameters := [(.array .byte), .int, .int], returnType := some (.array .byte) }, accessFlags := 10, code := some k13c3 }
/-- java/util/Arrays -/
def k13 : Class := { plain "java/util/Arrays" (some 0) with
  accessFlags := 49
  interfaces := #[]
  cf := some (fileOf pool13 14 #[.nestMembers #[975, 375, 113, 74]] #[{ accessFlags := 2, nameIndex := 5, descriptorIndex := 6, attributes := #[] }, { accessFlags := 10, nameIndex := 345, descriptorIndex := 346, attributes := #[] }, { accessFlags := 9, nameIndex := 139, descriptorIndex := 342, attributes := #[] }, { accessFlags := 10, nameIndex := 341, descriptorIndex := 342, attributes := #[] }] 49 2 #[] #[{ accessFlags := 26, nameIndex := 715, descriptorIndex := 716, attributes := #[] }, { accessFlags := 26, nameIndex := 719, descriptorIndex := 716, attributes := #[] }, { accessFlags := 4120, nameIndex := 445, descriptorIndex := 117, attributes := #[] }])
  fields := #[{ name := "MIN_ARRAY_SORT_GRAN", type := .int, accessFlags := 26, slot := 0, constantValue := 0 }, { name := "INSERTIONSORT_THRESHOLD", type := .int, accessFlags := 26, slot := 1, constantValue := 0 }, { name := "$assertionsDisabled", type := .boolean, accessFlags := 4120, slot := 2, constantValue := 0 }]
  methods := #[k13m0, k13m1, k13m2, k13m3]
  instanceTypes := #[]
  staticTypes := #[.int, .int, .boolean]
  resolved := Array.replicate 1029 none
  statics := none }

def pool14 : Array CpInfo := pool [(1, .class_ 2), (0, u "java/lang/Math"), (1, .class_ 6), (1, u "java/lang/Object"), (0, u "<init>"), (0, u "()V"), (89, .class_ 100), (1, u "java/lang/Math$RandomNumberGeneratorHolder"), (71, u "negativeZeroFloatBits"), (0, u "J"), (2, u "negativeZeroDoubleBits"), (24, u "min"), (43, u "$assertionsDisabled"), (0, u "Z"), (88, u "(II)I"), (2, u "twoToTheDoubleScaleDown"), (0, u "D"), (4, u "twoToTheDoubleScaleUp"), (9, u "E"), (3, u "PI"), (2, u "TAU"), (2, u "DEGREES_TO_RADIANS"), (0, u "RADIANS_TO_DEGREES")] 94

def k14m0 : Method := { name := "<init>", desc := "()V", sig := { parameters := [], returnType := none }, accessFlags := 2, code := none }
def k14c1 : Code := { maxStack := 2, maxLocals := 2, code := jdk_29_method_69_code, exceptionTable := #[], attributes := #[] }
def k14m1 : Method := { name := "min", desc := "(II)I", sig := { parameters := [.int, .int], returnType := some .int }, accessFlags := 9, code := some k14c1 }
/-- java/lang/Math -/
def k14 : Class := { plain "java/lang/Math" (some 0) with
  accessFlags := 49
  interfaces := #[]
  cf := some (fileOf pool14 1 #[.nestMembers #[98]] #[{ accessFlags := 2, nameIndex := 7, descriptorIndex := 8, attributes := #[] }, { accessFlags := 9, nameIndex := 201, descriptorIndex := 335, attributes := #[] }] 49 4 #[] #[{ accessFlags := 25, nameIndex := 354, descriptorIndex := 339, attributes := #[] }, { accessFlags := 25, nameIndex := 358, descriptorIndex := 339, attributes := #[] }, { accessFlags := 25, nameIndex := 361, descriptorIndex := 339, attributes := #[] }, { accessFlags := 26, nameIndex := 364, descriptorIndex := 339, attributes := #[] }, { accessFlags := 26, nameIndex := 365, descriptorIndex := 339, attributes := #[] }, { accessFlags := 26, nameIndex := 172, descriptorIndex := 173, attributes := #[] }, { accessFlags := 26, nameIndex := 176, descriptorIndex := 173, attributes := #[] }, { accessFlags := 8, nameIndex := 344, descriptorIndex := 339, attributes := #[] }, { accessFlags := 8, nameIndex := 338, descriptorIndex := 339, attributes := #[] }, { accessFlags := 4120, nameIndex := 245, descriptorIndex := 246, attributes := #[] }])
  fields := #[{ name := "E", type := .double, accessFlags := 25, slot := 0, constantValue := 0 }, { name := "PI", type := .double, accessFlags := 25, slot := 1, constantValue := 0 }, { name := "TAU", type := .double, accessFlags := 25, slot := 2, constantValue := 0 }, { name := "DEGREES_TO_RADIANS", type := .double, accessFlags := 26, slot := 3, constantValue := 0 }, { name := "RADIANS_TO_DEGREES", type := .double, accessFlags := 26, slot := 4, constantValue := 0 }, { name := "negativeZeroFloatBits", type := .long, accessFlags := 26, slot := 5, constantValue := 0 }, { name := "negativeZeroDoubleBits", type := .long, accessFlags := 26, slot := 6, constantValue := 0 }, { name := "twoToTheDoubleScaleUp", type := .double, accessFlags := 8, slot := 7, constantValue := 0 }, { name := "twoToTheDoubleScaleDown", type := .double, accessFlags := 8, slot := 8, constantValue := 0 }, { name := "$assertionsDisabled", type := .boolean, accessFlags := 4120, slot := 9, constantValue := 0 }]
  methods := #[k14m0, k14m1]
  instanceTypes := #[]
  staticTypes := #[.double, .double, .double, .double, .double, .long, .long, .double, .double, .boolean]
  resolved := Array.replicate 460 none
  statics := none }

def pool15 : Array CpInfo := pool [(1, .class_ 2), (0, u "java/lang/String"), (1, .class_ 6), (1, u "java/lang/Object"), (0, u "<init>"), (0, u "()V"), (0, .methodref 1 10), (0, .nameAndType 11 12), (0, u "checkIndex"), (0, u "(II)V"), (1, .class_ 16), (1, u "java/lang/StringLatin1"), (36, u "([BI)C"), (58, .methodref 1 113), (0, .nameAndType 7 114), (0, u "([BB)V"), (6, u "$assertionsDisabled"), (0, u "Z"), (8, .class_ 133), (1, u "java/util/Arrays"), (17, .string 152), (0, u ""), (43, u "newString"), (0, u "([BII)Ljava/lang/String;"), (23, .class_ 223), (1, u "java/lang/StringLatin1$LinesSpliterator"), (8, .methodref 131 233), (0, .nameAndType 234 235), (0, u "copyOfRange"), (0, u "([BII)[B"), (16, u "charAt"), (137, .class_ 391), (0, u "java/lang/StringLatin1$CharsSpliterator")] 3

def k15m0 : Method := { name := "<init>", desc := "()V", sig := { parameters := [], returnType := none }, accessFlags := 0, code := none }
def k15c1 : Code := { maxStack := 2, maxLocals := 2, code := jdk_43_method_2_code, exceptionTable := #[], attributes := #[] }
def k15m1 : Method := { name := "charAt", desc := "([BI)C", sig := { parameters := [(.array .byte), .int], returnType := some .char }, accessFlags := 9, code := some k15c1 }
def k15c2 : Code := { maxStack := 6, maxLocals := 3, code := jdk_43_method_47_code, exceptionTable := #[], attributes := #[] }
def k15m2 : Method := { name := "newString", desc := "([BII)Ljava/lang/String;", sig := { parameters := [(.array .byte), .int, .int], returnType := some (.object "java/lang/String") }, accessFlags := 9, code := some k15c2 }
/-- java/lang/StringLatin1 -/
def k15 : Class := { plain "java/lang/StringLatin1" (some 0) with
  accessFlags := 48
  interfaces := #[]
  cf := some (fileOf pool15 14 #[.nestMembers #[390, 221]] #[{ accessFlags := 0, nameIndex := 7, descriptorIndex := 8, attributes := #[] }, { accessFlags := 9, nameIndex := 252, descriptorIndex := 53, attributes := #[] }, { accessFlags := 9, nameIndex := 196, descriptorIndex := 197, attributes := #[] }] 48 4 #[] #[{ accessFlags := 4120, nameIndex := 121, descriptorIndex := 122, attributes := #[] }])
  fields := #[{ name := "$assertionsDisabled", type := .boolean, accessFlags := 4120, slot := 0, constantValue := 0 }]
  methods := #[k15m0, k15m1, k15m2]
  instanceTypes := #[]
  staticTypes := #[.boolean]
  resolved := Array.replicate 395 none
  statics := none }

def pool16 : Array CpInfo := pool [(2, .class_ 4), (1, u "java/lang/Object"), (0, u "<init>"), (0, u "()V"), (17, .class_ 26), (1, u "jdk/internal/util/Preconditions"), (6, u "checkIndex"), (13, u "checkFromToIndex"), (7, .class_ 56), (0, u "jdk/internal/util/Preconditions$4"), (57, .class_ 115), (0, u "jdk/internal/util/Preconditions$1"), (7, u "SIOOBE_FORMATTER"), (0, u "Ljava/util/function/BiFunction;"), (0, .class_ 126), (0, u "jdk/internal/util/Preconditions$2"), (3, u "AIOOBE_FORMATTER"), (0, .class_ 132), (0, u "jdk/internal/util/Preconditions$3"), (3, u "IOOBE_FORMATTER"), (41, u "(IILjava/util/function/BiFunction;)I"), (4, u "(IIILjava/util/function/BiFunction;)I")] 10

def k16m0 : Method := { name := "<init>", desc := "()V", sig := { parameters := [], returnType := none }, accessFlags := 1, code := none }
def k16c1 : Code := { maxStack := 3, maxLocals := 3, code := jdk_41_method_11_code, exceptionTable := #[], attributes := #[] }
def k16m1 : Method := { name := "checkIndex", desc := "(IILjava/util/function/BiFunction;)I", sig := { parameters := [.int, .int, (.object "java/util/function/BiFunction")], returnType := some .int }, accessFlags := 9, code := some k16c1 }
def k16c2 : Code := { maxStack := 4, maxLocals := 4, code := jdk_41_method_12_code, exceptionTable := #[], attributes := #[] }
def k16m2 : Method := { name := "checkFromToIndex", desc := "(IIILjava/util/function/BiFunction;)I", sig := { parameters := [.int, .int, .int, (.object "java/util/function/BiFunction")], returnType := some .int }, accessFlags := 9, code := some k16c2 }
/-- jdk/internal/util/Preconditions -/
def k16 : Class := { plain "jdk/internal/util/Preconditions" (some 0) with
  accessFlags := 33
  interfaces := #[]
  cf := some (fileOf pool16 24 #[.nestMembers #[55, 131, 125, 114]] #[{ accessFlags := 1, nameIndex := 5, descriptorIndex := 6, attributes := #[] }, { accessFlags := 9, nameIndex := 33, descriptorIndex := 178, attributes := #[] }, { accessFlags := 9, nameIndex := 47, descriptorIndex := 183, attributes := #[] }] 33 2 #[] #[{ accessFlags := 25, nameIndex := 123, descriptorIndex := 124, attributes := #[] }, { accessFlags := 25, nameIndex := 130, descriptorIndex := 124, attributes := #[] }, { accessFlags := 25, nameIndex := 136, descriptorIndex := 124, attributes := #[] }])
  fields := #[{ name := "SIOOBE_FORMATTER", type := (.object "java/util/function/BiFunction"), accessFlags := 25, slot := 0, constantValue := 0 }, { name := "AIOOBE_FORMATTER", type := (.object "java/util/function/BiFunction"), accessFlags := 25, slot := 1, constantValue := 0 }, { name := "IOOBE_FORMATTER", type := (.object "java/util/function/BiFunction"), accessFlags := 25, slot := 2, constantValue := 0 }]
  methods := #[k16m0, k16m1, k16m2]
  instanceTypes := #[]
  staticTypes := #[(.object "java/util/function/BiFunction"), (.object "java/util/function/BiFunction"), (.object "java/util/function/BiFunction")]
  resolved := Array.replicate 194 none
  statics := some 1 }

def pool17 : Array CpInfo := pool [(6, .class_ 8), (1, u "java/lang/Object"), (0, u "<init>"), (0, u "()V"), (1, .class_ 14), (1, u "java/lang/StringUTF16"), (31, u "$assertionsDisabled"), (0, u "Z"), (13, u "HI_BYTE_SHIFT"), (0, u "I"), (2, u "LO_BYTE_SHIFT"), (49, .methodref 12 116), (0, .nameAndType 117 118), (0, u "compress"), (0, u "([CI[BII)I"), (3, u "([CII)[B"), (138, u "coderFromArrayLen"), (0, u "([BI)B"), (106, .class_ 371), (1, u "java/lang/StringUTF16$LinesSpliterator"), (58, u "MAX_LENGTH"), (196, .class_ 628), (0, u "java/lang/StringUTF16$CodePointsSpliterator"), (0, .class_ 630), (0, u "java/lang/StringUTF16$CharsSpliterator")] 4

def k17m0 : Method := { name := "<init>", desc := "()V", sig := { parameters := [], returnType := none }, accessFlags := 0, code := none }
def k17c1 : Code := { maxStack := 2, maxLocals := 2, code := jdk_52_method_15_code, exceptionTable := #[], attributes := #[] }
def k17m1 : Method := { name := "coderFromArrayLen", desc := "([BI)B", sig := { parameters := [(.array .byte), .int], returnType := some .byte }, accessFlags := 8, code := some k17c1 }
def k17c2 : Code := { maxStack := 5, maxLocals := 6, code := jdk_52_method_16_code, exceptionTable := #[], attributes := #[] }
def k17m2 : Method := { name := "compress", desc := "([CII)[B", sig := { parameters := [(.array .char), .int, .int], returnType := some (.array .byte) }, accessFlags := 9, code := some k17c2 }
def k17c3 : Code := { maxStack := 3, maxLocals := 7, code := jdk_52_method_21_code, exceptionTable := #[], attributes := #[] }
def k17m3 : Method := { name := "compress", desc := "([CI[BII)I", sig := { parameters := [(.array .char), .int, (.array .byte), .int, .int], returnType := some .int }, accessFlags := 9, code := some k17c3 }
/-- java/lang/StringUTF16 -/
def k17 : Class := { plain "java/lang/StringUTF16" (some 0) with
  accessFlags := 48
  interfaces := #[]
  cf := some (fileOf pool17 12 #[.nestMembers #[627, 629, 369]] #[{ accessFlags := 0, nameIndex := 9, descriptorIndex := 10, attributes := #[] }, { accessFlags := 8, nameIndex := 261, descriptorIndex := 262, attributes := #[] }, { accessFlags := 9, nameIndex := 117, descriptorIndex := 122, attributes := #[] }, { accessFlags := 9, nameIndex := 117, descriptorIndex := 118, attributes := #[] }] 48 6 #[] #[{ accessFlags := 26, nameIndex := 61, descriptorIndex := 62, attributes := #[] }, { accessFlags := 26, nameIndex := 65, descriptorIndex := 62, attributes := #[] }, { accessFlags := 24, nameIndex := 430, descriptorIndex := 62, attributes := #[] }, { accessFlags := 4120, nameIndex := 46, descriptorIndex := 47, attributes := #[] }])
  fields := #[{ name := "HI_BYTE_SHIFT", type := .int, accessFlags := 26, slot := 0, constantValue := 0 }, { name := "LO_BYTE_SHIFT", type := .int, accessFlags := 26, slot := 1, constantValue := 0 }, { name := "MAX_LENGTH", type := .int, accessFlags := 24, slot := 2, constantValue := 0 }, { name := "$assertionsDisabled", type := .boolean, accessFlags := 4120, slot := 3, constantValue := 0 }]
  methods := #[k17m0, k17m1, k17m2, k17m3]
  instanceTypes := #[]
  staticTypes := #[.int, .int, .int, .boolean]
  resolved := Array.replicate 635 none
  statics := none }

def pool18 : Array CpInfo := pool [(9, u "<init>"), (6, .class_ 18), (1, u "java/lang/Object"), (0, u "()V"), (1, .class_ 23), (1, u "jdk/internal/util/ArraysSupport"), (0, u "LOG2_ARRAY_LONG_INDEX_SCALE"), (0, u "I"), (2, u "U"), (0, u "Ljdk/internal/misc/Unsafe;"), (8, u "BIG_ENDIAN"), (0, u "Z"), (8, u "LOG2_BYTE_BIT_SIZE"), (4, u "LOG2_ARRAY_INT_INDEX_SCALE"), (54, u "JLA"), (0, u "Ljdk/internal/access/JavaLangAccess;"), (11, u "LOG2_ARRAY_BOOLEAN_INDEX_SCALE"), (9, u "LOG2_ARRAY_BYTE_INDEX_SCALE"), (5, u "LOG2_ARRAY_CHAR_INDEX_SCALE"), (5, u "LOG2_ARRAY_SHORT_INDEX_SCALE"), (5, u "mismatch"), (12, u "LOG2_ARRAY_FLOAT_INDEX_SCALE"), (24, u "LOG2_ARRAY_DOUBLE_INDEX_SCALE"), (89, u "T_BOOLEAN"), (2, u "T_CHAR"), (1, u "T_FLOAT"), (1, u "T_DOUBLE"), (1, u "T_BYTE"), (1, u "T_SHORT"), (1, u "T_INT"), (1, u "T_LONG"), (1, u "SOFT_MAX_ARRAY_LENGTH"), (42, u "([BI[BII)I")] 40

def k18m0 : Method := { name := "<init>", desc := "()V", sig := { parameters := [], returnType := none }, accessFlags := 2, code := none }
def k18c1 : Code := { maxStack := 8, maxLocals := 8, code := jdk_48_method_14_code, exceptionTable := #[], attributes := #[] }
def k18m1 : Method := { name := "mismatch", desc := "([BI[BII)I", sig := { parameters := [(.array .byte), .int, (.array .byte), .int, .int], returnType := some .int }, accessFlags := 9, code := some k18c1 }
/-- jdk/internal/util/ArraysSupport -/
def k18 : Class := { plain "jdk/internal/util/ArraysSupport" (some 0) with
  accessFlags := 33
  interfaces := #[]
  cf := some (fileOf pool18 21 #[] #[{ accessFlags := 2, nameIndex := 9, descriptorIndex := 19, attributes := #[] }, { accessFlags := 9, nameIndex := 149, descriptorIndex := 337, attributes := #[] }] 33 16 #[] #[{ accessFlags := 24, nameIndex := 28, descriptorIndex := 29, attributes := #[] }, { accessFlags := 26, nameIndex := 38, descriptorIndex := 39, attributes := #[] }, { accessFlags := 25, nameIndex := 121, descriptorIndex := 25, attributes := #[] }, { accessFlags := 25, nameIndex := 131, descriptorIndex := 25, attributes := #[] }, { accessFlags := 25, nameIndex := 137, descriptorIndex := 25, attributes := #[] }, { accessFlags := 25, nameIndex := 143, descriptorIndex := 25, attributes := #[] }, { accessFlags := 25, nameIndex := 53, descriptorIndex := 25, attributes := #[] }, { accessFlags := 25, nameIndex := 24, descriptorIndex := 25, attributes := #[] }, { accessFlags := 25, nameIndex := 162, descriptorIndex := 25, attributes := #[] }, { accessFlags := 25, nameIndex := 187, descriptorIndex := 25, attributes := #[] }, { accessFlags := 26, nameIndex := 48, descriptorIndex := 25, attributes := #[] }, { accessFlags := 25, nameIndex := 277, descriptorIndex := 25, attributes := #[] }, { accessFlags := 25, nameIndex := 280, descriptorIndex := 25, attributes := #[] }, { accessFlags := 25, nameIndex := 282, descriptorIndex := 25, attributes := #[] }, { accessFlags := 25, nameIndex := 284, descriptorIndex := 25, attributes := #[] }, { accessFlags := 25, nameIndex := 286, descriptorIndex := 25, attributes := #[] }, { accessFlags := 25, nameIndex := 288, descriptorIndex := 25, attributes := #[] }, { accessFlags := 25, nameIndex := 290, descriptorIndex := 25, attributes := #[] }, { accessFlags := 25, nameIndex := 292, descriptorIndex := 25, attributes := #[] }, { accessFlags := 26, nameIndex := 108, descriptorIndex := 109, attributes := #[] }, { accessFlags := 25, nameIndex := 294, descriptorIndex := 25, attributes := #[] }])
  fields := #[{ name := "U", type := (.object "jdk/internal/misc/Unsafe"), accessFlags := 24, slot := 0, constantValue := 0 }, { name := "BIG_ENDIAN", type := .boolean, accessFlags := 26, slot := 1, constantValue := 0 }, { name := "LOG2_ARRAY_BOOLEAN_INDEX_SCALE", type := .int, accessFlags := 25, slot := 2, constantValue := 0 }, { name := "LOG2_ARRAY_BYTE_INDEX_SCALE", type := .int, accessFlags := 25, slot := 3, constantValue := 0 }, { name := "LOG2_ARRAY_CHAR_INDEX_SCALE", type := .int, accessFlags := 25, slot := 4, constantValue := 0 }, { name := "LOG2_ARRAY_SHORT_INDEX_SCALE", type := .int, accessFlags := 25, slot := 5, constantValue := 0 }, { name := "LOG2_ARRAY_INT_INDEX_SCALE", type := .int, accessFlags := 25, slot := 6, constantValue := 0 }, { name := "LOG2_ARRAY_LONG_INDEX_SCALE", type := .int, accessFlags := 25, slot := 7, constantValue := 0 }, { name := "LOG2_ARRAY_FLOAT_INDEX_SCALE", type := .int, accessFlags := 25, slot := 8, constantValue := 0 }, { name := "LOG2_ARRAY_DOUBLE_INDEX_SCALE", type := .int, accessFlags := 25, slot := 9, constantValue := 0 }, { name := "LOG2_BYTE_BIT_SIZE", type := .int, accessFlags := 26, slot := 10, constantValue := 0 }, { name := "T_BOOLEAN", type := .int, accessFlags := 25, slot := 11, constantValue := 0 }, { name := "T_CHAR", type := .int, accessFlags := 25, slot := 12, constantValue := 0 }, { name := "T_FLOAT", type := .int, accessFlags := 25, slot := 13, constantValue := 0 }, { name := "T_DOUBLE", type := .int, accessFlags := 25, slot := 14, constantValue := 0 }, { name := "T_BYTE", type := .int, accessFlags := 25, slot := 15, constantValue := 0 }, { name := "T_SHORT", type := .int, accessFlags := 25, slot := 16, constantValue := 0 }, { name := "T_INT", type := .int, accessFlags := 25, slot := 17, constantValue := 0 }, { name := "T_LONG", type := .int, accessFlags := 25, slot := 18, constantValue := 0 }, { name := "JLA", type := (.object "jdk/internal/access/JavaLangAccess"), accessFlags := 26, slot := 19, constantValue := 0 }, { name := "SOFT_MAX_ARRAY_LENGTH", type := .int, accessFlags := 25, slot := 20, constantValue := 0 }]
  methods := #[k18m0, k18m1]
  instanceTypes := #[]
  staticTypes := #[(.object "jdk/internal/misc/Unsafe"), .boolean, .int, .int, .int, .int, .int, .int, .int, .int, .int, .int, .int, .int, .int, .int, .int, .int, .int, (.object "jdk/internal/access/JavaLangAccess"), .int]
  resolved := Array.replicate 378 none
  statics := none }

def pool19 : Array CpInfo := pool [(1, u "java/lang/Cloneable"), (0, .class_ 1), (0, u "java/lang/Object"), (0, .class_ 3)] 3

/-- java/lang/Cloneable -/
def k19 : Class := { plain "java/lang/Cloneable" (some 0) with
  accessFlags := 1537
  interfaces := #[]
  cf := some (fileOf pool19 2 #[] #[] 1537 4 #[] #[])
  fields := #[]
  methods := #[]
  instanceTypes := #[]
  staticTypes := #[]
  resolved := Array.replicate 8 none
  statics := none }

/-- the primitive byte -/
def k20 : Class := { plain "byte" none with kind := .primitive 'B', accessFlags := 0x411 }
/-- [B -/
def k21 : Class := { plain "[B" (some 0) with kind := .array 20 .byte, interfaces := #[19, 2], accessFlags := 1041 }

/-- the primitive char -/
def k22 : Class := { plain "char" none with kind := .primitive 'C', accessFlags := 0x411 }
/-- [C -/
def k23 : Class := { plain "[C" (some 0) with kind := .array 22 .char, interfaces := #[19, 2], accessFlags := 1041 }

def heap : Heap := #[{ cls := 7, slots := #[.long 0, .int 1, .null, .int 0, .null, .int 0, .int 0], vm := .statics 7 },
  { cls := 16, slots := #[.null, .null, .null], vm := .statics 16 }]
def classes : Array Class := #[k0, k1, k2, k3, k4, k5, k6, k7, k8, k9, k10, k11, k12, k13, k14, k15, k16, k17, k18, k19, k20, k21, k22, k23]
def interned : List (Array UInt16 × Addr) := []
def slotsUsed : Nat := 10
def theMethod : MethodId := ⟨1, 2⟩
def args0 : Array Value := #[.int 5, .int 5, .int 5, .int 5]
def aboutOver (below : List Frame) : State where
  vm := { classes := classes, interned := interned.toArray }
  heap := heap
  slotsUsed := slotsUsed
  threads := #[{ frames := .invoking theMethod args0 :: below }]
def below0 : List Frame := [.native { method := ⟨0, 0⟩, args := #[] }]
def about1 : State := aboutOver below0
def p0 : Program := .bare "" "" ""
def e0 : Env := launch0.env 0 0 0
theorem w_frames : about1.frames = Frame.invoking theMethod args0 :: below0 := rfl
set_option maxRecDepth 65536 in
theorem w_args : argsFit about1.vm theMethod args0 = true := by decide +kernel
set_option maxRecDepth 65536 in
theorem w_heap : heapFits about1 = true := by decide +kernel
set_option maxRecDepth 65536 in
theorem w_runnable : about1.curStatus? = some .runnable := by decide +kernel
set_option maxRecDepth 65536 in
theorem w_alone : about1.alone = true := by decide +kernel
set_option maxRecDepth 65536 in
theorem w_named : about1.methodNamed? x = some theMethod := by decide +kernel
set_option maxRecDepth 65536 in
theorem w_hears : about1.hears theMethod below0 = true := by decide +kernel
set_option maxRecDepth 65536 in
theorem w_ripe : about1.ripe theMethod args0 below0 = true := by decide +kernel
theorem w_running : about1.status = .running := rfl
set_option maxRecDepth 65536 in
theorem w_room : about1.hasRoom e0.platform room_1 = true :=
  launch0.hasRoom_least _ room_1 (by decide +kernel) (by decide +kernel) (by decide +kernel) (by decide +kernel) (by decide +kernel) (by decide +kernel)
theorem allAtoms_all (ts : List Jvm.Cond) (a : Array Jvm.Value) (st : Jvm.State) : (allAtoms ts).before a st = ts.all (fun c => c.before a st) := by
  induction ts with
  | nil => rfl
  | cons c t ih =>
    show (Jvm.Cond.and c (allAtoms t)).before a st = _
    rw [Jvm.Cond.before_and, ih, List.all_cons]
def words1 : List Jvm.Cond := Jvm.Cond.code x code maxLocals ret :: tables_1
/-- a 'code' word, met by the world's own term for the bytes: nothing is compared byte by byte -/
theorem code_word {y : MethodName} {bytes : ByteArray} {mx : Nat} {rt : Option FieldType} {a : Array Value} {s : State} {m : MethodId} {meth : Method} {c : Code} (h1 : s.methodNamed? y = some m) (h2 : s.vm.method? m = some meth) (h3 : meth.code = some c) (h4 : c.code = bytes)
    (h5 : (c.maxLocals == mx && c.exceptionTable.isEmpty && decide (c.maxStack ≤ mostOperands) && decide (meth.sig.returnType = rt) && !meth.locks && decide (parseMethodDescriptor y.desc = some meth.sig)) = true) : (Jvm.Cond.code y bytes mx rt).before a s = true := by
  simp only [Bool.and_eq_true, beq_iff_eq, Bool.not_eq_true', decide_eq_true_eq] at h5
  obtain ⟨⟨⟨⟨⟨g1, g2⟩, g3⟩, g4⟩, g5⟩, g6⟩ := h5
  simp [Cond.before, Cond.holds, Cond.value, h1, h2, h3, h4, g1, g2, g3, g4, g5, g6]
def isCode : Jvm.Cond → Bool
  | .code _ _ _ _ => true
  | _ => false
theorem all_split {L : List Jvm.Cond} {P : Jvm.Cond → Bool} (h1 : L.all (fun c => isCode c || P c) = true) (h2 : ∀ c ∈ L.filter isCode, P c = true) : L.all P = true := by
  refine List.all_eq_true.mpr fun c hc => ?_
  have h := List.all_eq_true.mp h1 c hc
  rcases Bool.eq_false_or_eq_true (isCode c) with hi | hi
  · exact h2 c (List.mem_filter.mpr ⟨hc, hi⟩)
  · simpa [hi] using h
set_option maxRecDepth 65536 in
theorem w_c0 : (Jvm.Cond.code x code maxLocals ret).before args0 about1 = true := code_word (m := ⟨1, 2⟩) (meth := k1m2) (c := k1c2) (by decide +kernel) rfl rfl rfl (by decide +kernel)
set_option maxRecDepth 65536 in
theorem w_c1 : (Jvm.Cond.code ({ cls := "com/example/packwright/packwright/io/SourceTreeRoutineFileNamePinLaw", name := "make", desc := "(ICCC)Ljava/lang/String;" } : Jvm.MethodName) method_2_code (5 : Nat) (Option.some (Jvm.ClassFile.FieldType.object "java/lang/String"))).before args0 about1 = true := code_word (m := ⟨1, 1⟩) (meth := k1m1) (c := k1c1) (by decide +kernel) rfl rfl rfl (by decide +kernel)
set_option maxRecDepth 65536 in
theorem w_c2 : (Jvm.Cond.code ({ cls := "java/lang/String", name := "<init>", desc := "([C)V" } : Jvm.MethodName) jdk_42_method_3_code (2 : Nat) (Option.none : Option Jvm.ClassFile.FieldType)).before args0 about1 = true := code_word (m := ⟨7, 1⟩) (meth := k7m1) (c := k7c1) (by decide +kernel) rfl rfl rfl (by decide +kernel)
set_option maxRecDepth 65536 in
theorem w_c3 : (Jvm.Cond.code ({ cls := "java/lang/String", name := "<init>", desc := "([CIILjava/lang/Void;)V" } : Jvm.MethodName) jdk_42_method_149_code (6 : Nat) (Option.none : Option Jvm.ClassFile.FieldType)).before args0 about1 = true := code_word (m := ⟨7, 10⟩) (meth := k7m10) (c := k7c10) (by decide +kernel) rfl rfl rfl (by decide +kernel)
set_option maxRecDepth 65536 in
theorem w_c4 : (Jvm.Cond.code ({ cls := "java/lang/Object", name := "<init>", desc := "()V" } : Jvm.MethodName) object_method_1_code (1 : Nat) (Option.none : Option Jvm.ClassFile.FieldType)).before args0 about1 = true := code_word (m := ⟨0, 0⟩) (meth := k0m0) (c := k0c0) (by decide +kernel) rfl rfl rfl (by decide +kernel)
set_option maxRecDepth 65536 in
theorem w_c5 : (Jvm.Cond.code ({ cls := "com/example/packwright/packwright/io/SourceTree", name := "routineFileName", desc := "(Ljava/lang/String;)Ljava/lang/String;" } : Jvm.MethodName) prog_22_method_21_code (2 : Nat) (Option.some (Jvm.ClassFile.FieldType.object "java/lang/String"))).before args0 about1 = true := code_word (m := ⟨8, 0⟩) (meth := k8m0) (c := k8c0) (by decide +kernel) rfl rfl rfl (by decide +kernel)
set_option maxRecDepth 65536 in
theorem w_c6 : (Jvm.Cond.code ({ cls := "java/lang/String", name := "startsWith", desc := "(Ljava/lang/String;)Z" } : Jvm.MethodName) jdk_42_method_76_code (2 : Nat) (Option.some Jvm.ClassFile.FieldType.boolean)).before args0 about1 = true := code_word (m := ⟨7, 6⟩) (meth := k7m6) (c := k7c6) (by decide +kernel) rfl rfl rfl (by decide +kernel)
set_option maxRecDepth 65536 in
theorem w_c7 : (Jvm.Cond.code ({ cls := "java/lang/String", name := "startsWith", desc := "(Ljava/lang/String;I)Z" } : Jvm.MethodName) jdk_42_method_75_code (8 : Nat) (Option.some Jvm.ClassFile.FieldType.boolean)).before args0 about1 = true := code_word (m := ⟨7, 5⟩) (meth := k7m5) (c := k7c5) (by decide +kernel) rfl rfl rfl (by decide +kernel)
set_option maxRecDepth 65536 in
theorem w_c8 : (Jvm.Cond.code ({ cls := "java/lang/String", name := "length", desc := "()I" } : Jvm.MethodName) jdk_42_method_54_code (1 : Nat) (Option.some Jvm.ClassFile.FieldType.int)).before args0 about1 = true := code_word (m := ⟨7, 3⟩) (meth := k7m3) (c := k7c3) (by decide +kernel) rfl rfl rfl (by decide +kernel)
set_option maxRecDepth 65536 in
theorem w_c9 : (Jvm.Cond.code ({ cls := "java/lang/String", name := "coder", desc := "()B" } : Jvm.MethodName) jdk_42_method_152_code (1 : Nat) (Option.some Jvm.ClassFile.FieldType.byte)).before args0 about1 = true := code_word (m := ⟨7, 13⟩) (meth := k7m13) (c := k7c13) (by decide +kernel) rfl rfl rfl (by decide +kernel)
set_option maxRecDepth 65536 in
theorem w_c10 : (Jvm.Cond.code ({ cls := "java/lang/StringBuilder", name := "<init>", desc := "()V" } : Jvm.MethodName) jdk_67_method_1_code (1 : Nat) (Option.none : Option Jvm.ClassFile.FieldType)).before args0 about1 = true := code_word (m := ⟨11, 0⟩) (meth := k11m0) (c := k11c0) (by decide +kernel) rfl rfl rfl (by decide +kernel)
set_option maxRecDepth 65536 in
theorem w_c11 : (Jvm.Cond.code ({ cls := "java/lang/AbstractStringBuilder", name := "<init>", desc := "(I)V" } : Jvm.MethodName) jdk_68_method_2_code (2 : Nat) (Option.none : Option Jvm.ClassFile.FieldType)).before args0 about1 = true := code_word (m := ⟨10, 1⟩) (meth := k10m1) (c := k10c1) (by decide +kernel) rfl rfl rfl (by decide +kernel)
set_option maxRecDepth 65536 in
theorem w_c12 : (Jvm.Cond.code ({ cls := "java/lang/StringBuilder", name := "append", desc := "(Ljava/lang/String;)Ljava/lang/StringBuilder;" } : Jvm.MethodName) jdk_67_method_7_code (2 : Nat) (Option.some (Jvm.ClassFile.FieldType.object "java/lang/StringBuilder"))).before args0 about1 = true := code_word (m := ⟨11, 1⟩) (meth := k11m1) (c := k11c1) (by decide +kernel) rfl rfl rfl (by decide +kernel)
set_option maxRecDepth 65536 in
theorem w_c13 : (Jvm.Cond.code ({ cls := "java/lang/AbstractStringBuilder", name := "append", desc := "(Ljava/lang/String;)Ljava/lang/AbstractStringBuilder;" } : Jvm.MethodName) jdk_68_method_22_code (3 : Nat) (Option.some (Jvm.ClassFile.FieldType.object "java/lang/AbstractStringBuilder"))).before args0 about1 = true := code_word (m := ⟨10, 4⟩) (meth := k10m4) (c := k10c4) (by decide +kernel) rfl rfl rfl (by decide +kernel)
set_option maxRecDepth 65536 in
theorem w_c14 : (Jvm.Cond.code ({ cls := "java/lang/AbstractStringBuilder", name := "ensureCapacityInternal", desc := "(I)V" } : Jvm.MethodName) jdk_68_method_9_code (3 : Nat) (Option.none : Option Jvm.ClassFile.FieldType)).before args0 about1 = true := code_word (m := ⟨10, 3⟩) (meth := k10m3) (c := k10c3) (by decide +kernel) rfl rfl rfl (by decide +kernel)
set_option maxRecDepth 65536 in
theorem w_c15 : (Jvm.Cond.code ({ cls := "java/lang/AbstractStringBuilder", name := "putStringAt", desc := "(ILjava/lang/String;)V" } : Jvm.MethodName) jdk_68_method_73_code (3 : Nat) (Option.none : Option Jvm.ClassFile.FieldType)).before args0 about1 = true := code_word (m := ⟨10, 8⟩) (meth := k10m8) (c := k10c8) (by decide +kernel) rfl rfl rfl (by decide +kernel)
set_option maxRecDepth 65536 in
theorem w_c16 : (Jvm.Cond.code ({ cls := "java/lang/AbstractStringBuilder", name := "inflateIfNeededFor", desc := "(Ljava/lang/String;)V" } : Jvm.MethodName) jdk_68_method_71_code (2 : Nat) (Option.none : Option Jvm.ClassFile.FieldType)).before args0 about1 = true := code_word (m := ⟨10, 7⟩) (meth := k10m7) (c := k10c7) (by decide +kernel) rfl rfl rfl (by decide +kernel)
set_option maxRecDepth 65536 in
theorem w_c17 : (Jvm.Cond.code ({ cls := "java/lang/String", name := "getBytes", desc := "([BIB)V" } : Jvm.MethodName) jdk_42_method_147_code (4 : Nat) (Option.none : Option Jvm.ClassFile.FieldType)).before args0 about1 = true := code_word (m := ⟨7, 9⟩) (meth := k7m9) (c := k7c9) (by decide +kernel) rfl rfl rfl (by decide +kernel)
set_option maxRecDepth 65536 in
theorem w_c18 : (Jvm.Cond.code ({ cls := "java/lang/StringBuilder", name := "toString", desc := "()Ljava/lang/String;" } : Jvm.MethodName) jdk_67_method_42_code (1 : Nat) (Option.some (Jvm.ClassFile.FieldType.object "java/lang/String"))).before args0 about1 = true := code_word (m := ⟨11, 2⟩) (meth := k11m2) (c := k11c2) (by decide +kernel) rfl rfl rfl (by decide +kernel)
set_option maxRecDepth 65536 in
theorem w_c19 : (Jvm.Cond.code ({ cls := "java/lang/String", name := "<init>", desc := "(Ljava/lang/StringBuilder;)V" } : Jvm.MethodName) jdk_42_method_53_code (2 : Nat) (Option.none : Option Jvm.ClassFile.FieldType)).before args0 about1 = true := code_word (m := ⟨7, 2⟩) (meth := k7m2) (c := k7c2) (by decide +kernel) rfl rfl rfl (by decide +kernel)
set_option maxRecDepth 65536 in
theorem w_c20 : (Jvm.Cond.code ({ cls := "java/lang/String", name := "<init>", desc := "(Ljava/lang/AbstractStringBuilder;Ljava/lang/Void;)V" } : Jvm.MethodName) jdk_42_method_150_code (5 : Nat) (Option.none : Option Jvm.ClassFile.FieldType)).before args0 about1 = true := code_word (m := ⟨7, 11⟩) (meth := k7m11) (c := k7c11) (by decide +kernel) rfl rfl rfl (by decide +kernel)
set_option maxRecDepth 65536 in
theorem w_c21 : (Jvm.Cond.code ({ cls := "java/lang/AbstractStringBuilder", name := "getValue", desc := "()[B" } : Jvm.MethodName) jdk_68_method_64_code (1 : Nat) (Option.some (Jvm.ClassFile.FieldType.array Jvm.ClassFile.FieldType.byte))).before args0 about1 = true := code_word (m := ⟨10, 5⟩) (meth := k10m5) (c := k10c5) (by decide +kernel) rfl rfl rfl (by decide +kernel)
set_option maxRecDepth 65536 in
theorem w_c22 : (Jvm.Cond.code ({ cls := "java/lang/StringBuilder", name := "length", desc := "()I" } : Jvm.MethodName) jdk_67_method_93_code (1 : Nat) (Option.some Jvm.ClassFile.FieldType.int)).before args0 about1 = true := code_word (m := ⟨11, 3⟩) (meth := k11m3) (c := k11c3) (by decide +kernel) rfl rfl rfl (by decide +kernel)
set_option maxRecDepth 65536 in
theorem w_c23 : (Jvm.Cond.code ({ cls := "java/lang/AbstractStringBuilder", name := "length", desc := "()I" } : Jvm.MethodName) jdk_68_method_6_code (1 : Nat) (Option.some Jvm.ClassFile.FieldType.int)).before args0 about1 = true := code_word (m := ⟨10, 2⟩) (meth := k10m2) (c := k10c2) (by decide +kernel) rfl rfl rfl (by decide +kernel)
set_option maxRecDepth 65536 in
theorem w_c24 : (Jvm.Cond.code ({ cls := "java/lang/AbstractStringBuilder", name := "isLatin1", desc := "()Z" } : Jvm.MethodName) jdk_68_method_68_code (1 : Nat) (Option.some Jvm.ClassFile.FieldType.boolean)).before args0 about1 = true := code_word (m := ⟨10, 6⟩) (meth := k10m6) (c := k10c6) (by decide +kernel) rfl rfl rfl (by decide +kernel)
set_option maxRecDepth 65536 in
theorem w_c25 : (Jvm.Cond.code ({ cls := "java/util/Arrays", name := "copyOfRange", desc := "([BII)[B" } : Jvm.MethodName) jdk_65_method_132_code (3 : Nat) (Option.some (Jvm.ClassFile.FieldType.array Jvm.ClassFile.FieldType.byte))).before args0 about1 = true := code_word (m := ⟨13, 2⟩) (meth := k13m2) (c := k13c2) (by decide +kernel) rfl rfl rfl (by decide +kernel)
set_option maxRecDepth 65536 in
theorem w_c26 : (Jvm.Cond.code ({ cls := "java/util/Arrays", name := "copyOfRangeByte", desc := "([BII)[B" } : Jvm.MethodName) jdk_65_method_133_code (5 : Nat) (Option.some (Jvm.ClassFile.FieldType.array Jvm.ClassFile.FieldType.byte))).before args0 about1 = true := code_word (m := ⟨13, 3⟩) (meth := k13m3) (c := k13c3) (by decide +kernel) rfl rfl rfl (by decide +kernel)
set_option maxRecDepth 65536 in
theorem w_c27 : (Jvm.Cond.code ({ cls := "java/util/Arrays", name := "checkLength", desc := "(II)V" } : Jvm.MethodName) jdk_65_method_131_code (2 : Nat) (Option.none : Option Jvm.ClassFile.FieldType)).before args0 about1 = true := code_word (m := ⟨13, 1⟩) (meth := k13m1) (c := k13c1) (by decide +kernel) rfl rfl rfl (by decide +kernel)
set_option maxRecDepth 65536 in
theorem w_c28 : (Jvm.Cond.code ({ cls := "java/lang/Math", name := "min", desc := "(II)I" } : Jvm.MethodName) jdk_29_method_69_code (2 : Nat) (Option.some Jvm.ClassFile.FieldType.int)).before args0 about1 = true := code_word (m := ⟨14, 1⟩) (meth := k14m1) (c := k14c1) (by decide +kernel) rfl rfl rfl (by decide +kernel)
set_option maxRecDepth 65536 in
theorem w_c29 : (Jvm.Cond.code ({ cls := "java/lang/String", name := "charAt", desc := "(I)C" } : Jvm.MethodName) jdk_42_method_56_code (2 : Nat) (Option.some Jvm.ClassFile.FieldType.char)).before args0 about1 = true := code_word (m := ⟨7, 4⟩) (meth := k7m4) (c := k7c4) (by decide +kernel) rfl rfl rfl (by decide +kernel)
set_option maxRecDepth 65536 in
theorem w_c30 : (Jvm.Cond.code ({ cls := "java/lang/String", name := "isLatin1", desc := "()Z" } : Jvm.MethodName) jdk_42_method_154_code (1 : Nat) (Option.some Jvm.ClassFile.FieldType.boolean)).before args0 about1 = true := code_word (m := ⟨7, 14⟩) (meth := k7m14) (c := k7c14) (by decide +kernel) rfl rfl rfl (by decide +kernel)
set_option maxRecDepth 65536 in
theorem w_c31 : (Jvm.Cond.code ({ cls := "java/lang/StringLatin1", name := "charAt", desc := "([BI)C" } : Jvm.MethodName) jdk_43_method_2_code (2 : Nat) (Option.some Jvm.ClassFile.FieldType.char)).before args0 about1 = true := code_word (m := ⟨15, 1⟩) (meth := k15m1) (c := k15c1) (by decide +kernel) rfl rfl rfl (by decide +kernel)
set_option maxRecDepth 65536 in
theorem w_c32 : (Jvm.Cond.code ({ cls := "java/lang/String", name := "checkIndex", desc := "(II)V" } : Jvm.MethodName) jdk_42_method_155_code (2 : Nat) (Option.none : Option Jvm.ClassFile.FieldType)).before args0 about1 = true := code_word (m := ⟨7, 15⟩) (meth := k7m15) (c := k7c15) (by decide +kernel) rfl rfl rfl (by decide +kernel)
set_option maxRecDepth 65536 in
theorem w_c33 : (Jvm.Cond.code ({ cls := "jdk/internal/util/Preconditions", name := "checkIndex", desc := "(IILjava/util/function/BiFunction;)I" } : Jvm.MethodName) jdk_41_method_11_code (3 : Nat) (Option.some Jvm.ClassFile.FieldType.int)).before args0 about1 = true := code_word (m := ⟨16, 1⟩) (meth := k16m1) (c := k16c1) (by decide +kernel) rfl rfl rfl (by decide +kernel)
set_option maxRecDepth 65536 in
theorem w_c34 : (Jvm.Cond.code ({ cls := "java/lang/StringUTF16", name := "compress", desc := "([CII)[B" } : Jvm.MethodName) jdk_52_method_16_code (6 : Nat) (Option.some (Jvm.ClassFile.FieldType.array Jvm.ClassFile.FieldType.byte))).before args0 about1 = true := code_word (m := ⟨17, 2⟩) (meth := k17m2) (c := k17c2) (by decide +kernel) rfl rfl rfl (by decide +kernel)
set_option maxRecDepth 65536 in
theorem w_c35 : (Jvm.Cond.code ({ cls := "java/lang/StringUTF16", name := "compress", desc := "([CI[BII)I" } : Jvm.MethodName) jdk_52_method_21_code (7 : Nat) (Option.some Jvm.ClassFile.FieldType.int)).before args0 about1 = true := code_word (m := ⟨17, 3⟩) (meth := k17m3) (c := k17c3) (by decide +kernel) rfl rfl rfl (by decide +kernel)
set_option maxRecDepth 65536 in
theorem w_c36 : (Jvm.Cond.code ({ cls := "java/lang/StringUTF16", name := "coderFromArrayLen", desc := "([BI)B" } : Jvm.MethodName) jdk_52_method_15_code (2 : Nat) (Option.some Jvm.ClassFile.FieldType.byte)).before args0 about1 = true := code_word (m := ⟨17, 1⟩) (meth := k17m1) (c := k17c1) (by decide +kernel) rfl rfl rfl (by decide +kernel)
set_option maxRecDepth 65536 in
theorem w_c37 : (Jvm.Cond.code ({ cls := "jdk/internal/util/ArraysSupport", name := "mismatch", desc := "([BI[BII)I" } : Jvm.MethodName) jdk_48_method_14_code (8 : Nat) (Option.some Jvm.ClassFile.FieldType.int)).before args0 about1 = true := code_word (m := ⟨18, 1⟩) (meth := k18m1) (c := k18c1) (by decide +kernel) rfl rfl rfl (by decide +kernel)
set_option maxRecDepth 65536 in
theorem w_c38 : (Jvm.Cond.code ({ cls := "java/lang/String", name := "substring", desc := "(I)Ljava/lang/String;" } : Jvm.MethodName) jdk_42_method_91_code (2 : Nat) (Option.some (Jvm.ClassFile.FieldType.object "java/lang/String"))).before args0 about1 = true := code_word (m := ⟨7, 7⟩) (meth := k7m7) (c := k7c7) (by decide +kernel) rfl rfl rfl (by decide +kernel)
set_option maxRecDepth 65536 in
theorem w_c39 : (Jvm.Cond.code ({ cls := "java/lang/String", name := "substring", desc := "(II)Ljava/lang/String;" } : Jvm.MethodName) jdk_42_method_92_code (5 : Nat) (Option.some (Jvm.ClassFile.FieldType.object "java/lang/String"))).before args0 about1 = true := code_word (m := ⟨7, 8⟩) (meth := k7m8) (c := k7c8) (by decide +kernel) rfl rfl rfl (by decide +kernel)
set_option maxRecDepth 65536 in
theorem w_c40 : (Jvm.Cond.code ({ cls := "java/lang/String", name := "checkBoundsBeginEnd", desc := "(III)V" } : Jvm.MethodName) jdk_42_method_158_code (3 : Nat) (Option.none : Option Jvm.ClassFile.FieldType)).before args0 about1 = true := code_word (m := ⟨7, 16⟩) (meth := k7m16) (c := k7c16) (by decide +kernel) rfl rfl rfl (by decide +kernel)
set_option maxRecDepth 65536 in
theorem w_c41 : (Jvm.Cond.code ({ cls := "jdk/internal/util/Preconditions", name := "checkFromToIndex", desc := "(IIILjava/util/function/BiFunction;)I" } : Jvm.MethodName) jdk_41_method_12_code (4 : Nat) (Option.some Jvm.ClassFile.FieldType.int)).before args0 about1 = true := code_word (m := ⟨16, 2⟩) (meth := k16m2) (c := k16c2) (by decide +kernel) rfl rfl rfl (by decide +kernel)
set_option maxRecDepth 65536 in
theorem w_c42 : (Jvm.Cond.code ({ cls := "java/lang/StringLatin1", name := "newString", desc := "([BII)Ljava/lang/String;" } : Jvm.MethodName) jdk_43_method_47_code (3 : Nat) (Option.some (Jvm.ClassFile.FieldType.object "java/lang/String"))).before args0 about1 = true := code_word (m := ⟨15, 2⟩) (meth := k15m2) (c := k15c2) (by decide +kernel) rfl rfl rfl (by decide +kernel)
set_option maxRecDepth 65536 in
theorem w_c43 : (Jvm.Cond.code ({ cls := "java/lang/String", name := "<init>", desc := "([BB)V" } : Jvm.MethodName) jdk_42_method_151_code (3 : Nat) (Option.none : Option Jvm.ClassFile.FieldType)).before args0 about1 = true := code_word (m := ⟨7, 12⟩) (meth := k7m12) (c := k7c12) (by decide +kernel) rfl rfl rfl (by decide +kernel)
def codes1 : List Jvm.Cond := [Jvm.Cond.code x code maxLocals ret, Jvm.Cond.code ({ cls := "com/example/packwright/packwright/io/SourceTreeRoutineFileNamePinLaw", name := "make", desc := "(ICCC)Ljava/lang/String;" } : Jvm.MethodName) method_2_code (5 : Nat) (Option.some (Jvm.ClassFile.FieldType.object "java/lang/String")), Jvm.Cond.code ({ cls := "java/lang/String", name := "<init>", desc := "([C)V" } : Jvm.MethodName) jdk_42_method_3_code (2 : Nat) (Option.none : Option Jvm.ClassFile.FieldType), Jvm.Cond.code ({ cls := "java/lang/String", name := "<init>", desc := "([CIILjava/lang/Void;)V" } : Jvm.MethodName) jdk_42_method_149_code (6 : Nat) (Option.none : Option Jvm.ClassFile.FieldType), Jvm.Cond.code ({ cls := "java/lang/Object", name := "<init>", desc := "()V" } : Jvm.MethodName) object_method_1_code (1 : Nat) (Option.none : Option Jvm.ClassFile.FieldType), Jvm.Cond.code ({ cls := "com/example/packwright/packwright/io/SourceTree", name := "routineFileName", desc := "(Ljava/lang/String;)Ljava/lang/String;" } : Jvm.MethodName) prog_22_method_21_code (2 : Nat) (Option.some (Jvm.ClassFile.FieldType.object "java/lang/String")), Jvm.Cond.code ({ cls := "java/lang/String", name := "startsWith", desc := "(Ljava/lang/String;)Z" } : Jvm.MethodName) jdk_42_method_76_code (2 : Nat) (Option.some Jvm.ClassFile.FieldType.boolean), Jvm.Cond.code ({ cls := "java/lang/String", name := "startsWith", desc := "(Ljava/lang/String;I)Z" } : Jvm.MethodName) jdk_42_method_75_code (8 : Nat) (Option.some Jvm.ClassFile.FieldType.boolean), Jvm.Cond.code ({ cls := "java/lang/String", name := "length", desc := "()I" } : Jvm.MethodName) jdk_42_method_54_code (1 : Nat) (Option.some Jvm.ClassFile.FieldType.int), Jvm.Cond.code ({ cls := "java/lang/String", name := "coder", desc := "()B" } : Jvm.MethodName) jdk_42_method_152_code (1 : Nat) (Option.some Jvm.ClassFile.FieldType.byte), Jvm.Cond.code ({ cls := "java/lang/StringBuilder", name := "<init>", desc := "()V" } : Jvm.MethodName) jdk_67_method_1_code (1 : Nat) (Option.none : Option Jvm.ClassFile.FieldType), Jvm.Cond.code ({ cls := "java/lang/AbstractStringBuilder", name := "<init>", desc := "(I)V" } : Jvm.MethodName) jdk_68_method_2_code (2 : Nat) (Option.none : Option Jvm.ClassFile.FieldType), Jvm.Cond.code ({ cls := "java/lang/StringBuilder", name := "append", desc := "(Ljava/lang/String;)Ljava/lang/StringBuilder;" } : Jvm.MethodName) jdk_67_method_7_code (2 : Nat) (Option.some (Jvm.ClassFile.FieldType.object "java/lang/StringBuilder")), Jvm.Cond.code ({ cls := "java/lang/AbstractStringBuilder", name := "append", desc := "(Ljava/lang/String;)Ljava/lang/AbstractStringBuilder;" } : Jvm.MethodName) jdk_68_method_22_code (3 : Nat) (Option.some (Jvm.ClassFile.FieldType.object "java/lang/AbstractStringBuilder")), Jvm.Cond.code ({ cls := "java/lang/AbstractStringBuilder", name := "ensureCapacityInternal", desc := "(I)V" } : Jvm.MethodName) jdk_68_method_9_code (3 : Nat) (Option.none : Option Jvm.ClassFile.FieldType), Jvm.Cond.code ({ cls := "java/lang/AbstractStringBuilder", name := "putStringAt", desc := "(ILjava/lang/String;)V" } : Jvm.MethodName) jdk_68_method_73_code (3 : Nat) (Option.none : Option Jvm.ClassFile.FieldType), Jvm.Cond.code ({ cls := "java/lang/AbstractStringBuilder", name := "inflateIfNeededFor", desc := "(Ljava/lang/String;)V" } : Jvm.MethodName) jdk_68_method_71_code (2 : Nat) (Option.none : Option Jvm.ClassFile.FieldType), Jvm.Cond.code ({ cls := "java/lang/String", name := "getBytes", desc := "([BIB)V" } : Jvm.MethodName) jdk_42_method_147_code (4 : Nat) (Option.none : Option Jvm.ClassFile.FieldType), Jvm.Cond.code ({ cls := "java/lang/StringBuilder", name := "toString", desc := "()Ljava/lang/String;" } : Jvm.MethodName) jdk_67_method_42_code (1 : Nat) (Option.some (Jvm.ClassFile.FieldType.object "java/lang/String")), Jvm.Cond.code ({ cls := "java/lang/String", name := "<init>", desc := "(Ljava/lang/StringBuilder;)V" } : Jvm.MethodName) jdk_42_method_53_code (2 : Nat) (Option.none : Option Jvm.ClassFile.FieldType), Jvm.Cond.code ({ cls := "java/lang/String", name := "<init>", desc := "(Ljava/lang/AbstractStringBuilder;Ljava/lang/Void;)V" } : Jvm.MethodName) jdk_42_method_150_code (5 : Nat) (Option.none : Option Jvm.ClassFile.FieldType), Jvm.Cond.code ({ cls := "java/lang/AbstractStringBuilder", name := "getValue", desc := "()[B" } : Jvm.MethodName) jdk_68_method_64_code (1 : Nat) (Option.some (Jvm.ClassFile.FieldType.array Jvm.ClassFile.FieldType.byte)), Jvm.Cond.code ({ cls := "java/lang/StringBuilder", name := "length", desc := "()I" } : Jvm.MethodName) jdk_67_method_93_code (1 : Nat) (Option.some Jvm.ClassFile.FieldType.int), Jvm.Cond.code ({ cls := "java/lang/AbstractStringBuilder", name := "length", desc := "()I" } : Jvm.MethodName) jdk_68_method_6_code (1 : Nat) (Option.some Jvm.ClassFile.FieldType.int), Jvm.Cond.code ({ cls := "java/lang/AbstractStringBuilder", name := "isLatin1", desc := "()Z" } : Jvm.MethodName) jdk_68_method_68_code (1 : Nat) (Option.some Jvm.ClassFile.FieldType.boolean), Jvm.Cond.code ({ cls := "java/util/Arrays", name := "copyOfRange", desc := "([BII)[B" } : Jvm.MethodName) jdk_65_method_132_code (3 : Nat) (Option.some (Jvm.ClassFile.FieldType.array Jvm.ClassFile.FieldType.byte)), Jvm.Cond.code ({ cls := "java/util/Arrays", name := "copyOfRangeByte", desc := "([BII)[B" } : Jvm.MethodName) jdk_65_method_133_code (5 : Nat) (Option.some (Jvm.ClassFile.FieldType.array Jvm.ClassFile.FieldType.byte)), Jvm.Cond.code ({ cls := "java/util/Arrays", name := "checkLength", desc := "(II)V" } : Jvm.MethodName) jdk_65_method_131_code (2 : Nat) (Option.none : Option Jvm.ClassFile.FieldType), Jvm.Cond.code ({ cls := "java/lang/Math", name := "min", desc := "(II)I" } : Jvm.MethodName) jdk_29_method_69_code (2 : Nat) (Option.some Jvm.ClassFile.FieldType.int), Jvm.Cond.code ({ cls := "java/lang/String", name := "charAt", desc := "(I)C" } : Jvm.MethodName) jdk_42_method_56_code (2 : Nat) (Option.some Jvm.ClassFile.FieldType.char), Jvm.Cond.code ({ cls := "java/lang/String", name := "isLatin1", desc := "()Z" } : Jvm.MethodName) jdk_42_method_154_code (1 : Nat) (Option.some Jvm.ClassFile.FieldType.boolean), Jvm.Cond.code ({ cls := "java/lang/StringLatin1", name := "charAt", desc := "([BI)C" } : Jvm.MethodName) jdk_43_method_2_code (2 : Nat) (Option.some Jvm.ClassFile.FieldType.char), Jvm.Cond.code ({ cls := "java/lang/String", name := "checkIndex", desc := "(II)V" } : Jvm.MethodName) jdk_42_method_155_code (2 : Nat) (Option.none : Option Jvm.ClassFile.FieldType), Jvm.Cond.code ({ cls := "jdk/internal/util/Preconditions", name := "checkIndex", desc := "(IILjava/util/function/BiFunction;)I" } : Jvm.MethodName) jdk_41_method_11_code (3 : Nat) (Option.some Jvm.ClassFile.FieldType.int), Jvm.Cond.code ({ cls := "java/lang/StringUTF16", name := "compress", desc := "([CII)[B" } : Jvm.MethodName) jdk_52_method_16_code (6 : Nat) (Option.some (Jvm.ClassFile.FieldType.array Jvm.ClassFile.FieldType.byte)), Jvm.Cond.code ({ cls := "java/lang/StringUTF16", name := "compress", desc := "([CI[BII)I" } : Jvm.MethodName) jdk_52_method_21_code (7 : Nat) (Option.some Jvm.ClassFile.FieldType.int), Jvm.Cond.code ({ cls := "java/lang/StringUTF16", name := "coderFromArrayLen", desc := "([BI)B" } : Jvm.MethodName) jdk_52_method_15_code (2 : Nat) (Option.some Jvm.ClassFile.FieldType.byte), Jvm.Cond.code ({ cls := "jdk/internal/util/ArraysSupport", name := "mismatch", desc := "([BI[BII)I" } : Jvm.MethodName) jdk_48_method_14_code (8 : Nat) (Option.some Jvm.ClassFile.FieldType.int), Jvm.Cond.code ({ cls := "java/lang/String", name := "substring", desc := "(I)Ljava/lang/String;" } : Jvm.MethodName) jdk_42_method_91_code (2 : Nat) (Option.some (Jvm.ClassFile.FieldType.object "java/lang/String")), Jvm.Cond.code ({ cls := "java/lang/String", name := "substring", desc := "(II)Ljava/lang/String;" } : Jvm.MethodName) jdk_42_method_92_code (5 : Nat) (Option.some (Jvm.ClassFile.FieldType.object "java/lang/String")), Jvm.Cond.code ({ cls := "java/lang/String", name := "checkBoundsBeginEnd", desc := "(III)V" } : Jvm.MethodName) jdk_42_method_158_code (3 : Nat) (Option.none : Option Jvm.ClassFile.FieldType), Jvm.Cond.code ({ cls := "jdk/internal/util/Preconditions", name := "checkFromToIndex", desc := "(IIILjava/util/function/BiFunction;)I" } : Jvm.MethodName) jdk_41_method_12_code (4 : Nat) (Option.some Jvm.ClassFile.FieldType.int), Jvm.Cond.code ({ cls := "java/lang/StringLatin1", name := "newString", desc := "([BII)Ljava/lang/String;" } : Jvm.MethodName) jdk_43_method_47_code (3 : Nat) (Option.some (Jvm.ClassFile.FieldType.object "java/lang/String")), Jvm.Cond.code ({ cls := "java/lang/String", name := "<init>", desc := "([BB)V" } : Jvm.MethodName) jdk_42_method_151_code (3 : Nat) (Option.none : Option Jvm.ClassFile.FieldType)]
set_option maxRecDepth 65536 in
theorem codes_eq : words1.filter isCode = codes1 := rfl
theorem w_codes : ∀ c ∈ words1.filter isCode, c.before args0 about1 = true := by
  rw [codes_eq]
  intro c hc
  simp only [codes1, List.mem_cons, List.not_mem_nil, or_false] at hc
  rcases hc with rfl | rfl | rfl | rfl | rfl | rfl | rfl | rfl | rfl | rfl | rfl | rfl | rfl | rfl | rfl | rfl | rfl | rfl | rfl | rfl | rfl | rfl | rfl | rfl | rfl | rfl | rfl | rfl | rfl | rfl | rfl | rfl | rfl | rfl | rfl | rfl | rfl | rfl | rfl | rfl | rfl | rfl | rfl | rfl
  · exact w_c0
  · exact w_c1
  · exact w_c2
  · exact w_c3
  · exact w_c4
  · exact w_c5
  · exact w_c6
  · exact w_c7
  · exact w_c8
  · exact w_c9
  · exact w_c10
  · exact w_c11
  · exact w_c12
  · exact w_c13
  · exact w_c14
  · exact w_c15
  · exact w_c16
  · exact w_c17
  · exact w_c18
  · exact w_c19
  · exact w_c20
  · exact w_c21
  · exact w_c22
  · exact w_c23
  · exact w_c24
  · exact w_c25
  · exact w_c26
  · exact w_c27
  · exact w_c28
  · exact w_c29
  · exact w_c30
  · exact w_c31
  · exact w_c32
  · exact w_c33
  · exact w_c34
  · exact w_c35
  · exact w_c36
  · exact w_c37
  · exact w_c38
  · exact w_c39
  · exact w_c40
  · exact w_c41
  · exact w_c42
  · exact w_c43
set_option maxRecDepth 65536 in
theorem w_t1 : (words1.take 24).all (fun c => isCode c || c.before args0 about1) = true := by decide +kernel
set_option maxRecDepth 65536 in
theorem w_t2 : ((words1.drop 24).take 24).all (fun c => isCode c || c.before args0 about1) = true := by decide +kernel
set_option maxRecDepth 65536 in
theorem w_t3 : (((words1.drop 24).drop 24).take 24).all (fun c => isCode c || c.before args0 about1) = true := by decide +kernel
set_option maxRecDepth 65536 in
theorem w_t4 : ((((words1.drop 24).drop 24).drop 24).take 24).all (fun c => isCode c || c.before args0 about1) = true := by decide +kernel
set_option maxRecDepth 65536 in
theorem w_t5 : (((((words1.drop 24).drop 24).drop 24).drop 24).take 24).all (fun c => isCode c || c.before args0 about1) = true := by decide +kernel
set_option maxRecDepth 65536 in
theorem w_t6 : ((((((words1.drop 24).drop 24).drop 24).drop 24).drop 24).take 24).all (fun c => isCode c || c.before args0 about1) = true := by decide +kernel
set_option maxRecDepth 65536 in
theorem w_t7 : (((((((words1.drop 24).drop 24).drop 24).drop 24).drop 24).drop 24).take 24).all (fun c => isCode c || c.before args0 about1) = true := by decide +kernel
set_option maxRecDepth 65536 in
theorem w_t8 : ((((((((words1.drop 24).drop 24).drop 24).drop 24).drop 24).drop 24).drop 24).take 24).all (fun c => isCode c || c.before args0 about1) = true := by decide +kernel
set_option maxRecDepth 65536 in
theorem w_t9 : (((((((((words1.drop 24).drop 24).drop 24).drop 24).drop 24).drop 24).drop 24).drop 24).take 24).all (fun c => isCode c || c.before args0 about1) = true := by decide +kernel
set_option maxRecDepth 65536 in
theorem w_t10 : (((((((((words1.drop 24).drop 24).drop 24).drop 24).drop 24).drop 24).drop 24).drop 24).drop 24).all (fun c => isCode c || c.before args0 about1) = true := by decide +kernel
theorem w_tables : (allAtoms (Jvm.Cond.code x code maxLocals ret :: tables_1)).before args0 about1 = true := by
  rw [allAtoms_all]
  show words1.all (fun c => c.before args0 about1) = true
  refine all_split ?_ w_codes
  rw [← List.take_append_drop 24 words1, List.all_append, w_t1, ← List.take_append_drop 24 (words1.drop 24), List.all_append, w_t2, ← List.take_append_drop 24 ((words1.drop 24).drop 24), List.all_append, w_t3, ← List.take_append_drop 24 (((words1.drop 24).drop 24).drop 24), List.all_append, w_t4, ← List.take_append_drop 24 ((((words1.drop 24).drop 24).drop 24).drop 24), List.all_append, w_t5, ← List.take_append_drop 24 (((((words1.drop 24).drop 24).drop 24).drop 24).drop 24), List.all_append, w_t6, ← List.take_append_drop 24 ((((((words1.drop 24).drop 24).drop 24).drop 24).drop 24).drop 24), List.all_append, w_t7, ← List.take_append_drop 24 (((((((words1.drop 24).drop 24).drop 24).drop 24).drop 24).drop 24).drop 24), List.all_append, w_t8, ← List.take_append_drop 24 ((((((((words1.drop 24).drop 24).drop 24).drop 24).drop 24).drop 24).drop 24).drop 24), List.all_append, w_t9, w_t10]
  rfl
set_option maxRecDepth 65536 in
theorem w_rest : rest_1_c.before args0 about1 = true := by decide +kernel
set_option maxRecDepth 65536 in
theorem w_case : (Jvm.Cond.and given_1 narrow_1).before args0 about1 = true := by decide +kernel
set_option maxRecDepth 65536 in
theorem w_consts : constsHeld consts_1 about1 := Jvm.Lit.constsHeldB_iff.mp (by decide +kernel)
theorem w_applies : (headSpec (Jvm.Cond.code x code maxLocals ret :: tables_1) room_1).applies x e0.platform about1 = true :=
  (Spec.applies_iff w_frames).mpr ⟨w_running, w_runnable, w_alone, w_named, w_hears, w_ripe, w_room, w_tables⟩
theorem atStart : AtStart classFile x code maxLocals ret World_1 tables_1 room_1 Calls_1 rest_1 Pre_1 launch0 p0 e0 about1 theMethod args0 below0 :=
  ⟨lists_1, trivial, launch0.admits_env _ _ _, launch0.least_env, fairChoices_fair.cas, fairChoices_fair.clock, w_frames, w_args, w_heap, w_applies, ⟨w_consts, trivial⟩, w_rest, w_case⟩
end start1
theorem witness_1 : WitnessClaimed_1 := ⟨start1.p0, start1.e0, start1.about1, start1.theMethod, start1.args0, start1.below0, start1.atStart⟩
end Jvm.Pilot.@@N@@
