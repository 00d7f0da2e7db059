import JvmDerived
import JvmDerived.Pilot.@@N@@Statement
import JvmDerived.Pilot.@@N@@Code
set_option linter.unusedVariables false
set_option linter.unusedSimpArgs false
set_option maxRecDepth 65536
set_option maxHeartbeats 40000000
namespace Jvm.Ow
open Jvm Jvm.ClassFile Sem Op Lib Jvm.Free Jvm.Stand Jvm.LawKit Jvm.RoadKit Bundle
theorem ltA {a b : Nat} (h : a < b) : a < b := h
theorem leA {a b : Nat} (h : a ≤ b) : a ≤ b := h
theorem neA {a b : Nat} (h : a ≠ b) : a ≠ b := h
abbrev vI (x : Int32) : Slot := .val (.int x)
abbrev vR (a : Addr) : Slot := .val (.ref a)
theorem mroom {x W : Nat} {rest : List Value} (hx : x = 0) (h : (rest.map fun v => v.category).sum = W) : 2 * x + (rest.map fun v => v.category).sum ≤ W := by subst hx; omega
theorem sz {n k x : Nat} (h : x = k) (q : n = k) : n = x := q.trans h.symm
theorem memI {α : Type} {l : List α} {i : Nat} {a : α} (h : l[i]? = some a) : a ∈ l := List.mem_of_getElem? h
theorem orA {a b c : Nat} (h : a = b ∨ c ≤ a) : a = b ∨ c ≤ a := h
section Base
variable {p : Program} {l : Launch} {e : Env} {R : Room} {s : State} {m : MethodId} {args : Array Value} {below : List Frame} {meth : Method} {c : Code} {own : String} {Z : State} {a0 : Array Value} {EL : List (String × Nat)} {h0 : Heap} {T : State} {h h' : Heap} {vm vm' : Vm} {cells slots : Nat} {P : Outcome → State → Prop} {g : JFrame}
/-- from t the invocation comes to an end at which P holds -/
def Gets (p : Program) (e : Env) (below : List Frame) (P : Outcome → State → Prop) (t : State) : Prop := ∃ u o, Steps p.tables e below t u ∧ u.status = .running ∧ Ended u below o ∧ P o u
theorem Gets.via {t t' : State} (h : ∀ u, Steps p.tables e below t' u → Steps p.tables e below t u) (k : Gets p e below P t') : Gets p e below P t := by
  obtain ⟨u, o, h1, h2⟩ := k
  exact ⟨u, o, h _ h1, h2⟩
theorem Gets.steps {t t' : State} (h : Steps p.tables e below t t') (k : Gets p e below P t') : Gets p e below P t := k.via fun _ q => h.trans q
/-- where a walk stands: over the start with the tables at hand; what it may have interned; what the literals hold; nothing of the law's start written -/
def Wk (p : Program) (l : Launch) (e : Env) (R : Room) (s : State) (m : MethodId) (args : Array Value) (below : List Frame) (meth : Method) (c : Code) (own : String) (Z : State) (a0 : Array Value) (EL : List (String × Nat)) (h0 : Heap) (T : State) (h : Heap) (vm : Vm) (cells slots : Nat) : Prop :=
  ∃ (locs : List Loc) (k : Nat), Stand p l e R (s.setVm vm) m args below meth c T locs cells slots ∧ T.heap = h ∧ s.Since vm k ∧ k ≤ h.size ∧ Z.Warmed39 vm ∧ vm.findClass own = some m.cls ∧ CHr Z EL s.vm h0 vm h ∧ Fr Z.heap.size locs ∧ Old Z Z.heap.size h ∧ p.tables.exec = Jvm.exec ∧ EW Z a0 EL ∧ s.heap = h0 ∧ meth.locks = false
/-- what an invocation leaves -/
def Out (s : State) (Z : State) (EL : List (String × Nat)) (rm : Room) (Q : Option Value → Vm → Heap → Prop) (o : Outcome) (u : State) : Prop :=
  ∃ (v : Option Value) (L : List Loc), o = .returned v ∧ (Q v u.vm u.heap ∧ Fr Z.heap.size L ∧ Old Z Z.heap.size u.heap) ∧ CHr Z EL s.vm s.heap u.vm u.heap ∧ ReturnedEndW s o u L rm.cells rm.slots
/-- a contract -/
def Met (l : Launch) (Z : State) (EL : List (String × Nat)) (y : MethodName) (bytes : ByteArray) (maxL : Nat) (ret : Option FieldType) (ws : List Jvm.Cond) (rm : Room) (sf : List Addr) (as : Array Value) (h : Heap) (Q : Option Value → Vm → Heap → Prop) : Prop :=
  MetFree l y (head1 (Jvm.Cond.code y bytes maxL ret :: ws) rm) (fun a U => a = as ∧ Z.Warmed39 U.vm ∧ U.heap = h ∧ CHv Z EL U.vm h ∧ ∀ x ∈ sf, Safe Z EL U.vm h x) (fun _ _ _ _ _ => True) (fun _ U o U' => Out U Z EL rm Q o U')
theorem Met.start {y : MethodName} {bytes : ByteArray} {maxL : Nat} {ret : Option FieldType} {ws : List Jvm.Cond} {rm : Room} {sf : List Addr} {as : Array Value} {Q : Option Value → Vm → Heap → Prop} (hp : plainFor y = true) (hEL : EW Z a0 EL) (hO : Old Z Z.heap.size h) {Ls : Array Slot} (hent : ∀ m, entryFrame m as maxL = mkF m 0 Ls [])
    (body : ∀ p e s m below meth c T vm, Wk p l e rm s m as below meth c y.cls Z a0 EL h T h vm 0 0 → (∀ x ∈ sf, Safe Z EL vm h x) → (∀ {n : Nat} {r : Except DecodeError (Instr × Nat)}, decode bytes n = r → decode c.code n = r) → c.maxLocals = maxL → meth.sig.returnType = ret → meth.name = y.name → p.tables.exec = Jvm.exec → Z.heap.size ≤ h.size → At T m c below → Gets p e below (Out s Z EL rm Q) (T.setTop (mkF m 0 Ls []))) :
    Met l Z EL y bytes maxL ret ws rm sf as h Q := by
  refine MetFree.of_bodySF hp hisR ?_
  intro p e s m args below meth c s₁ Bd hml0 hP hK
  obtain ⟨rfl, hZ, hh, hC, hsf⟩ := hP
  have e0 : s₁.heap = h := by rw [← hh, Bd.state]; rfl
  have X0 : Stand p l e rm s m args below meth c s₁ [] 0 0 := Stand.of_body Bd
  have hown : s.vm.findClass y.cls = some m.cls := findClass_of_methodNamed Bd.named
  have W0 : Wk p l e rm s m args below meth c y.cls Z a0 EL h s₁ h s.vm 0 0 :=
    ⟨[], 0, X0, e0, ⟨State.Warmed39.refl s, fun j q hj hq => absurd (Array.getElem?_eq_some_iff.mp hq).1 (Nat.not_lt.mpr hj)⟩, Nat.zero_le _, hZ, hown, CHr.refl hC, Fr.nil _, hO, Bd.exec, hEL, hh, Bd.notSynchronized⟩
  have k := body p e s m below meth c s₁ s.vm W0 hsf (fun d => hb Bd.bytes d) hml0 Bd.returns (name_of_methodNamed Bd.named Bd.method).1 Bd.exec hO.2.1 X0.here
  obtain ⟨u, o, h1, h2, h3, h4⟩ := k
  exact ⟨u, o, castTop (hent m) h1, h2, h3, h4⟩
theorem Wk.at (X : Wk p l e R s m args below meth c own Z a0 EL h0 T h vm cells slots) : At T m c below := by obtain ⟨_, _, X, -⟩ := X; exact X.here
theorem Wk.hx (X : Wk p l e R s m args below meth c own Z a0 EL h0 T h vm cells slots) : p.tables.exec = Jvm.exec := by obtain ⟨_, _, -, -, -, -, -, -, -, -, -, q, -⟩ := X; exact q
theorem Wk.hZ (X : Wk p l e R s m args below meth c own Z a0 EL h0 T h vm cells slots) : Z.Warmed39 vm := by obtain ⟨_, _, -, -, -, -, q, -⟩ := X; exact q
theorem Wk.eT (X : Wk p l e R s m args below meth c own Z a0 EL h0 T h vm cells slots) : T.heap = h := by obtain ⟨_, _, -, q, -⟩ := X; exact q
theorem Wk.old (X : Wk p l e R s m args below meth c own Z a0 EL h0 T h vm cells slots) : Old Z Z.heap.size h := by obtain ⟨_, _, -, -, -, -, -, -, -, -, q, -⟩ := X; exact q
theorem Wk.chv (X : Wk p l e R s m args below meth c own Z a0 EL h0 T h vm cells slots) : CHv Z EL vm h := by obtain ⟨_, _, -, -, -, -, -, -, q, -⟩ := X; exact q.1
theorem Wk.ew (X : Wk p l e R s m args below meth c own Z a0 EL h0 T h vm cells slots) : EW Z a0 EL := by obtain ⟨_, _, -, -, -, -, -, -, -, -, -, -, q, -⟩ := X; exact q
theorem Wk.ge (X : Wk p l e R s m args below meth c own Z a0 EL h0 T h vm cells slots) : Z.heap.size ≤ h.size := X.old.2.1
theorem Wk.sta (X : Wk p l e R s m args below meth c own Z a0 EL h0 T h vm cells slots) {C n d : String} {v : Value} (F : Sta Z Z.heap C n d v) : Sta Z h C n d v := F.ext X.old.2
theorem Wk.more (X : Wk p l e R s m args below meth c own Z a0 EL h0 T h vm cells slots) {cells' slots' : Nat} (q1 : cells ≤ cells') (q2 : slots ≤ slots') : Wk p l e R s m args below meth c own Z a0 EL h0 T h vm cells' slots' := by
  obtain ⟨locs, k, Y, r⟩ := X; exact ⟨locs, k, Y.mono q1 q2, r⟩
theorem Wk.getF (X : Wk p l e R s m args below meth c own Z a0 EL h0 T h vm cells slots) {R0 O n d host : String} {index : Nat} (w : (Jvm.Cond.fieldLink own index R0 n d).before a0 Z = true ∨ (Jvm.Cond.fieldLinkNest own index R0 n d host).before a0 Z = true) (via : Via Z R0 O n d) {a : Addr} {v : Value} (F : Fld Z h a O n d v)
    (hg : g.method = m) {rest : List Value} (hs : g.stack = .ref a :: rest) (hd : decode c.code g.pc = .ok (.getfield index, 3))
    (k : ∀ T', Wk p l e R s m args below meth c own Z a0 EL h0 T' h vm cells slots → Gets p e below P (T'.setTop { g with pc := g.pc + 3, stack := v :: rest })) : Gets p e below P (T.setTop g) := by
  obtain ⟨locs, j, Y, eT, hS, hk, hZ, hown, hC, N, hO, hx, r⟩ := X
  obtain ⟨T', Y', e', st⟩ := RoadKit.getF Y hx hZ hown w via eT F hg hs hd
  exact (k T' ⟨locs, j, Y', e', hS, hk, hZ, hown, hC, N, hO, hx, r⟩).via st
theorem Wk.getS (X : Wk p l e R s m args below meth c own Z a0 EL h0 T h vm cells slots) {R0 O n d host : String} {index : Nat} (w : (Jvm.Cond.fieldLink own index R0 n d).before a0 Z = true ∨ (Jvm.Cond.fieldLinkNest own index R0 n d host).before a0 Z = true) (via : Via Z R0 O n d) {v : Value} (F : Sta Z h O n d v)
    (hg : g.method = m) (hd : decode c.code g.pc = .ok (.getstatic index, 3))
    (k : ∀ T', Wk p l e R s m args below meth c own Z a0 EL h0 T' h vm cells slots → Gets p e below P (T'.setTop { g with pc := g.pc + 3, stack := v :: g.stack })) : Gets p e below P (T.setTop g) := by
  obtain ⟨locs, j, Y, eT, hS, hk, hZ, hown, hC, N, hO, hx, r⟩ := X
  obtain ⟨T', Y', e', st⟩ := RoadKit.getS2 Y hx hZ hown w via eT F hg hd
  exact (k T' ⟨locs, j, Y', e', hS, hk, hZ, hown, hC, N, hO, hx, r⟩).via st
theorem Wk.cast (X : Wk p l e R s m args below meth c own Z a0 EL h0 T h vm cells slots) {K : String} {index : Nat} (w : (Jvm.Cond.classLink own index K).before a0 Z = true) {a : Addr} (F : Ins Z h a K true)
    (hg : g.method = m) {rest : List Value} (hs : g.stack = .ref a :: rest) (hd : decode c.code g.pc = .ok (.checkcast index, 3))
    (k : ∀ T', Wk p l e R s m args below meth c own Z a0 EL h0 T' h vm cells slots → Gets p e below P (T'.setTop { g with pc := g.pc + 3 })) : Gets p e below P (T.setTop g) := by
  obtain ⟨locs, j, Y, eT, hS, hk, hZ, hown, hC, N, hO, hx, r⟩ := X
  obtain ⟨T', Y', e', st⟩ := RoadKit.castY Y hx hZ hown w eT F hg hs hd
  exact (k T' ⟨locs, j, Y', e', hS, hk, hZ, hown, hC, N, hO, hx, r⟩).via st
theorem Wk.objInit (X : Wk p l e R s m args below meth c own Z a0 EL h0 T h vm cells slots) {idx : Nat} (w1 : (Jvm.Cond.methodLink own idx Lib.objectInit).before a0 Z = true) (w2 : (Jvm.Cond.instanceMethod Lib.objectInit).before a0 Z = true) (w3 : (Jvm.Cond.code Lib.objectInit ⟨#[0xb1]⟩ 1 none).before a0 Z = true)
    (hg : g.method = m) (hsize : g.locals.size = c.maxLocals) {a : Addr} {rest : List Value} (hs : g.stack = .ref a :: rest) (hd : decode c.code g.pc = .ok (.invokespecial idx, 3)) (hf : 1 ≤ R.frames) {W : Nat} (hW : 2 * g.monitorRoom + (rest.map fun v => v.category).sum ≤ W) (hl : W + 12 ≤ R.locals)
    (k : ∀ T', Wk p l e R s m args below meth c own Z a0 EL h0 T' h vm cells slots → Gets p e below P (T'.setTop { g with pc := g.pc + 3, stack := rest })) : Gets p e below P (T.setTop g) := by
  obtain ⟨locs, j, Y, eT, hS, hk, hZ, hown, hC, N, hO, hx, r⟩ := X
  obtain ⟨T', Y', e', st⟩ := RoadKit.initO Y hx hZ hown w1 w2 w3 eT hg hsize hs hd hf hW hl
  exact (k T' ⟨locs, j, Y', e', hS, hk, hZ, hown, hC, N, hO, hx, r⟩).via st
theorem Wk.new (X : Wk p l e R s m args below meth c own Z a0 EL h0 T h vm cells slots) {C : String} {index n : Nat} (w : (Jvm.Cond.classLink own index C).before a0 Z = true) (wi : (Jvm.Cond.instantiable C n).before a0 Z = true) (wz : (Jvm.Cond.initialized C).before a0 Z = true)
    (hg : g.method = m) (hd : decode c.code g.pc = .ok (.new index, 3)) (hc : cells + 1 ≤ R.cells) (hl : slots + n ≤ R.slots)
    (k : ∀ T' h' a, Wk p l e R s m args below meth c own Z a0 EL h0 T' h' vm (cells + 1) (slots + n) → CHr Z EL vm h vm h' → Ext h h' → a = h.size → Exa Z h' a C → Safe Z EL vm h' a → (∀ {O nm d : String} {ty : FieldType}, Laid Z a0 C O nm d → parseFieldDescriptor d = some ty → Fld Z h' a O nm d (defaultValue ty)) → Gets p e below P (T'.setTop { g with pc := g.pc + 3, stack := .ref a :: g.stack })) : Gets p e below P (T.setTop g) := by
  obtain ⟨locs, j, Y, eT, hS, hk, hZ, hown, hC, N, hO, hx, r⟩ := X
  obtain ⟨T', h', Y', e', E, A, D, -, st⟩ := RoadKit.newO Y hx hZ hown w wi wz eT hg hd hc hl
  have C1 : CHr Z EL vm h vm h' := CHr.ext E hC.1
  exact (k T' h' h.size ⟨locs, j, Y', e', hS, Nat.le_trans hk E.1, hZ, hown, hC.trans C1, N, hO.ext E, hx, r⟩ C1 E rfl A (Safe.ext E hC.1 (Safe.new (Nat.le_refl _))) D).via st
theorem Wk.newA (X : Wk p l e R s m args below meth c own Z a0 EL h0 T h vm cells slots) {aty : ArrayType} (w : (Jvm.Cond.arrayClass (newarray.typeOf aty)).before a0 Z = true) (hg : g.method = m) (hd : decode c.code g.pc = .ok (.newarray aty, 2)) {n : Int32} {rest : List Value} (hs : g.stack = .int n :: rest)
    (hn : ¬ n < 0) {cap : Nat} (hcap : n.toNatClampNeg ≤ cap) (hb : cap * 8 ≤ 536870912) (hc : cells + 1 ≤ R.cells) (hl : slots + cap ≤ R.slots)
    (k : ∀ T' h' a kc, Wk p l e R s m args below meth c own Z a0 EL h0 T' h' vm (cells + 1) (slots + cap) → CHr Z EL vm h vm h' → Ext h h' → a = h.size → Safe Z EL vm h' a → Arv Z h' a kc (newarray.typeOf aty) n [] (defaultValue (newarray.typeOf aty)) → Gets p e below P (T'.setTop { g with pc := g.pc + 2, stack := .ref a :: rest })) : Gets p e below P (T.setTop g) := by
  obtain ⟨locs, j, Y, eT, hS, hk, hZ, hown, hC, N, hO, hx, r⟩ := X
  obtain ⟨T', h', kc, Y', e', E, A, st⟩ := RoadKit.newP Y hx hZ w eT hg hd hs hn hcap hb hc hl
  have C1 : CHr Z EL vm h vm h' := CHr.ext E hC.1
  exact (k T' h' h.size kc ⟨locs, j, Y', e', hS, Nat.le_trans hk E.1, hZ, hown, hC.trans C1, N, hO.ext E, hx, r⟩ C1 E rfl (Safe.ext E hC.1 (Safe.new (Nat.le_refl _))) (Arv.new A hn)).via st
theorem Wk.putF (X : Wk p l e R s m args below meth c own Z a0 EL h0 T h vm cells slots) {R0 O n d host C : String} {index kk : Nat} {ty : FieldType} (w : (Jvm.Cond.fieldLink own index R0 n d).before a0 Z = true ∨ (Jvm.Cond.fieldLinkNest own index R0 n d host).before a0 Z = true) (via : Via Z R0 O n d)
    {a : Addr} {v old : Value} (F : Fld Z h a O n d old) (E : Exa Z h a C) (L : (Jvm.Cond.lays C O n d).before a0 Z = true ∨ ((Jvm.Cond.laysFinal C O n d).before a0 Z = true ∧ own = O ∧ meth.name = "<init>")) (wi : (Jvm.Cond.instantiable C kk).before a0 Z = true)
    (hty : parseFieldDescriptor d = some ty) (hn : narrow ty v = v) (hf : fits ty v = true) (hge : Z.heap.size ≤ a) (S : Safe Z EL vm h a) (hg : g.method = m) {rest : List Value} (hs : g.stack = v :: .ref a :: rest) (hd : decode c.code g.pc = .ok (.putfield index, 3))
    (k : ∀ T' h', Wk p l e R s m args below meth c own Z a0 EL h0 T' h' vm cells slots → CHr Z EL vm h vm h' → Wr h h' a (RoadKit.slotOf Z O n d) v → Fld Z h' a O n d v → Exa Z h' a C → Gets p e below P (T'.setTop { g with pc := g.pc + 3, stack := rest })) : Gets p e below P (T.setTop g) := by
  obtain ⟨locs, j, Y, eT, hS, hk, hZ, hown, hC, N, hO, hx, r⟩ := X
  obtain ⟨T', h', Y', e', W, st⟩ := RoadKit.putF Y hx hZ hown w via eT F E L wi hty hn hf hg hs hd
  have C1 : CHr Z EL vm h vm h' := CHr.wr W S hC.1
  exact (k T' h' ⟨_, j, Y', e', hS, Nat.le_trans hk (Nat.le_of_eq W.size.symm), hZ, hown, hC.trans C1, Fr.snoc Y' N hge, hO.wr W hge, hx, r⟩ C1 W (F.same W) (E.wr W)).via st
theorem padN {k : ClassId} {ty : FieldType} {z : Int32} {d : Value} {a : Addr} (F : Arv Z h a k ty z [] d) (n : Nat) : Arv Z h a k ty z (List.replicate n d) d := F.pad fun i => by
  rw [List.getD_eq_getElem?_getD, List.getElem?_replicate]; split <;> simp
theorem Wk.stC (X : Wk p l e R s m args below meth c own Z a0 EL h0 T h vm cells slots) {a : Addr} {kc : ClassId} {n : Int32} {vs : List Value} {dv : Value} (A : Arv Z h a kc .char n vs dv) {j x : Int32} {i : Nat} (hj0 : ¬ j < 0) (hj : j.toNatClampNeg = i) (hi : i < vs.length) (hin : i < n.toNatClampNeg) {v : Int32} (hv : nar .char x = v)
    (hge : Z.heap.size ≤ a) (hg : g.method = m) {rest : List Value} (hs : g.stack = .int x :: .int j :: .ref a :: rest) (hd : decode c.code g.pc = .ok (.castore, 1))
    (k : ∀ T' h', Wk p l e R s m args below meth c own Z a0 EL h0 T' h' vm cells slots → CHr Z EL vm h vm h' → Keep h h' [a] → Arv Z h' a kc .char n (vs.set i (.int v)) dv → Gets p e below P (T'.setTop { g with pc := g.pc + 1, stack := rest })) : Gets p e below P (T.setTop g) := by
  obtain ⟨locs, j', Y, eT, hS, hk, hZ, hown, hC, N, hO, hx, r⟩ := X
  obtain ⟨cl, A1, A2, A3, A4, A5, A6⟩ := A
  obtain ⟨T', h', Y', e', W, st⟩ := RoadKit.stC Y hx hZ eT A1 (j := j) (x := x) (fun q => q.elim hj0 (fun q => by rw [A3, hj] at q; omega)) hg hs hd
  have C1 : CHr Z EL vm h vm h' := CHr.wr W (Safe.arr hZ.alike A1 (by decide)) hC.1
  subst hv
  exact (k T' h' ⟨_, j', Y', e', hS, Nat.le_trans hk (Nat.le_of_eq W.size.symm), hZ, hown, hC.trans C1, Fr.snoc Y' N hge, hO.wr W hge, hx, r⟩ C1 (Keep.of_wr W) (Arv.set A1 A2 A3 A4 A5 A6 (fits_nar_char x) W i hj hi)).via st
theorem Wk.stB (X : Wk p l e R s m args below meth c own Z a0 EL h0 T h vm cells slots) {a : Addr} {kc : ClassId} {n : Int32} {vs : List Value} {dv : Value} (A : Arv Z h a kc .byte n vs dv) {j x : Int32} {i : Nat} (hj0 : ¬ j < 0) (hj : j.toNatClampNeg = i) (hi : i < vs.length) (hin : i < n.toNatClampNeg) {v : Int32} (hv : nar .byte x = v) (S : Safe Z EL vm h a)
    (hge : Z.heap.size ≤ a) (hg : g.method = m) {rest : List Value} (hs : g.stack = .int x :: .int j :: .ref a :: rest) (hd : decode c.code g.pc = .ok (.bastore, 1))
    (k : ∀ T' h', Wk p l e R s m args below meth c own Z a0 EL h0 T' h' vm cells slots → CHr Z EL vm h vm h' → Keep h h' [a] → Arv Z h' a kc .byte n (vs.set i (.int v)) dv → Gets p e below P (T'.setTop { g with pc := g.pc + 1, stack := rest })) : Gets p e below P (T.setTop g) := by
  obtain ⟨locs, j', Y, eT, hS, hk, hZ, hown, hC, N, hO, hx, r⟩ := X
  obtain ⟨cl, A1, A2, A3, A4, A5, A6⟩ := A
  obtain ⟨T', h', Y', e', W, st⟩ := RoadKit.stB Y hx hZ eT A1 (j := j) (x := x) (fun q => q.elim hj0 (fun q => by rw [A3, hj] at q; omega)) hg hs hd
  have C1 : CHr Z EL vm h vm h' := CHr.wr W S hC.1
  subst hv
  exact (k T' h' ⟨_, j', Y', e', hS, Nat.le_trans hk (Nat.le_of_eq W.size.symm), hZ, hown, hC.trans C1, Fr.snoc Y' N hge, hO.wr W hge, hx, r⟩ C1 (Keep.of_wr W) (Arv.set A1 A2 A3 A4 A5 A6 (fits_nar_byte x) W i hj hi)).via st
theorem Wk.alen (X : Wk p l e R s m args below meth c own Z a0 EL h0 T h vm cells slots) {a : Addr} {kc : ClassId} {ty : FieldType} {n : Int32} {vs : List Value} {dv : Value} (A : Arv Z h a kc ty n vs dv)
    (hg : g.method = m) {rest : List Value} (hs : g.stack = .ref a :: rest) (hd : decode c.code g.pc = .ok (.arraylength, 1))
    (k : Gets p e below P (T.setTop { g with pc := g.pc + 1, stack := .int n :: rest })) : Gets p e below P (T.setTop g) := by
  obtain ⟨locs, j', Y, eT, hS, hk, hZ, hown, hC, N, hO, hx, r⟩ := X
  obtain ⟨cl, A1, A2, A3, A4, A5, A6⟩ := A
  refine k.via fun u q => ?_
  refine Y.arraylength hx (by rw [eT]; exact A1.1) (State.isArrayOf_alike hZ.alike A1.2.1) hg hs hd _ ?_
  rw [A3, (back32 A4).1]; exact q
theorem Wk.ldC (X : Wk p l e R s m args below meth c own Z a0 EL h0 T h vm cells slots) {a : Addr} {kc : ClassId} {n : Int32} {vs : List Value} {dv v : Value} (A : Arv Z h a kc .char n vs dv) {j : Int32} {i : Nat} (hj0 : ¬ j < 0) (hj : j.toNatClampNeg = i) (hin : i < n.toNatClampNeg) (hv : vs.getD i dv = v)
    (hg : g.method = m) {rest : List Value} (hs : g.stack = .int j :: .ref a :: rest) (hd : decode c.code g.pc = .ok (.caload, 1))
    (k : Gets p e below P (T.setTop { g with pc := g.pc + 1, stack := v :: rest })) : Gets p e below P (T.setTop g) := by
  obtain ⟨locs, j', Y, eT, hS, hk, hZ, hown, hC, N, hO, hx, r⟩ := X
  obtain ⟨cl, A1, A2, A3, A4, A5, A6⟩ := A
  refine k.via fun u q => ?_
  exact Y.caload hx (j := j) (v := v) (by rw [eT]; exact A1.1) (State.isArrayOf_alike hZ.alike A1.2.1) A1.2.2 (fun q => q.elim hj0 (fun q => by rw [A3, hj] at q; omega)) (by rw [hj, A5 i (by rw [A3]; exact hin), hv]) hg hs hd _ q
theorem Wk.ldB (X : Wk p l e R s m args below meth c own Z a0 EL h0 T h vm cells slots) {a : Addr} {kc : ClassId} {n : Int32} {vs : List Value} {dv v : Value} (A : Arv Z h a kc .byte n vs dv) {j : Int32} {i : Nat} (hj0 : ¬ j < 0) (hj : j.toNatClampNeg = i) (hin : i < n.toNatClampNeg) (hv : vs.getD i dv = v)
    (hg : g.method = m) {rest : List Value} (hs : g.stack = .int j :: .ref a :: rest) (hd : decode c.code g.pc = .ok (.baload, 1))
    (k : Gets p e below P (T.setTop { g with pc := g.pc + 1, stack := v :: rest })) : Gets p e below P (T.setTop g) := by
  obtain ⟨locs, j', Y, eT, hS, hk, hZ, hown, hC, N, hO, hx, r⟩ := X
  obtain ⟨cl, A1, A2, A3, A4, A5, A6⟩ := A
  refine k.via fun u q => ?_
  exact Y.baloadBytes hx (j := j) (v := v) (by rw [eT]; exact A1.1) (State.isArrayOf_alike hZ.alike A1.2.1) A1.2.2 (fun q => q.elim hj0 (fun q => by rw [A3, hj] at q; omega)) (by rw [hj, A5 i (by rw [A3]; exact hin), hv]) hg hs hd _ q
theorem Wk.ldcI (X : Wk p l e R s m args below meth c own Z a0 EL h0 T h vm cells slots) {index : Nat} {v : Int32} (w : (Jvm.Cond.constant own index v).before a0 Z = true) (hg : g.method = m) (hd : decode c.code g.pc = .ok (.ldc index, 2))
    (k : Gets p e below P (T.setTop { g with pc := g.pc + 2, stack := .int v :: g.stack })) : Gets p e below P (T.setTop g) := by
  obtain ⟨locs, j', Y, eT, hS, hk, hZ, hown, hC, N, hO, hx, r⟩ := X
  exact k.via fun u q => Y.ldcI hx hown (mv (s := s.setVm vm) hZ w) hg hd q
theorem Wk.copy (X : Wk p l e R s m args below meth c own Z a0 EL h0 T h vm cells slots) {index : Nat}
    (w1 : (Jvm.Cond.methodLink own index Jvm.Stand.acN).before a0 Z = true) (w2 : (Jvm.Cond.native Jvm.Stand.acN).before a0 Z = true) (w3 : (Jvm.Cond.static Jvm.Stand.acN).before a0 Z = true) (w4 : (Jvm.Cond.initialized "java/lang/System").before a0 Z = true)
    {a b : Addr} {k k' : ClassId} {ty ty' : FieldType} {z z' sp dp nn : Int32} {vs vd us : List Value} {dv dd : Value} (A : Arv Z h a k ty z vs dv) (B : Arv Z h b k' ty' z' vd dd) (hty : (ty = ty' ∧ refKind ty = false) ∨ (refKind ty = true ∧ refKind ty' = true ∧ StoL Z h b us))
    (h1 : ¬ sp < 0) (h2 : ¬ dp < 0) (h3 : ¬ nn < 0) (h4 : sp.toNatClampNeg + nn.toNatClampNeg ≤ z.toNatClampNeg) (h5 : dp.toNatClampNeg + nn.toNatClampNeg ≤ z'.toNatClampNeg)
    (hus : us = (List.range nn.toNatClampNeg).map fun i => vs.getD (sp.toNatClampNeg + i) dv) (hl : dp.toNatClampNeg + nn.toNatClampNeg ≤ vd.length) (ge : Z.heap.size ≤ b) (S : Safe Z EL vm h b)
    (hg : g.method = m) (hsize : g.locals.size = c.maxLocals) {rest : List Value} (hs : g.stack = .int nn :: .int dp :: .ref b :: .int sp :: .ref a :: rest) (hd : decode c.code g.pc = .ok (.invokestatic index, 3))
    (hf : 1 ≤ R.frames) {W : Nat} (hW : 2 * g.monitorRoom + (rest.map fun v => v.category).sum ≤ W) (hlo : W + (nativeFrameWords "java/lang/System" "arraycopy" 5 + 11) ≤ R.locals)
    (kk : ∀ T' h', Wk p l e R s m args below meth c own Z a0 EL h0 T' h' vm cells slots → CHr Z EL vm h vm h' → Keep h h' [b] → Arv Z h' b k' ty' z' (vd.take dp.toNatClampNeg ++ us ++ vd.drop (dp.toNatClampNeg + nn.toNatClampNeg)) dd → Gets p e below P (T'.setTop { g with pc := g.pc + 3, stack := rest })) : Gets p e below P (T.setTop g) := by
  obtain ⟨locs, j, Y, eT, hS, hk, hZ, hown, hC, N, hO, hx, r⟩ := X
  obtain ⟨T', h', L, Y', e', N', K, B', st⟩ := RoadKit.cpA Y hx hZ hown w1 w2 w3 w4 eT A B hty h1 h2 h3 h4 h5 hus hl N ge hg hsize hs hd hf hW hlo
  have C1 : CHr Z EL vm h vm h' := CHr.keep K (sfS S sf0) hC.1
  exact (kk T' h' ⟨L, j, Y', e', hS, Nat.le_trans hk K.1, hZ, hown, hC.trans C1, N', hO.keep K (allS ge all0), hx, r⟩ C1 K B').via st
/-- ldc of a String constant that is read -/
theorem Wk.ldcC (X : Wk p l e R s m args below meth c own Z a0 EL h0 T h vm cells slots) {text : String} {index : Nat} (w : (Jvm.Cond.stringLink own index text).before a0 Z = true) (wS : ∀ a ∈ Bundle.stringAtoms, a.before a0 Z = true) (hmem : (own, index) ∈ EL)
    {vs : List Value} {z : Int32} (ht : (∀ c ∈ text.toList, c.toNat < 256) ∧ text.toList.map (fun c => Value.int (Jvm.Lit.byteI c.toNat.toUInt16)) = vs) (hz : ¬ z < 0) (hvl : z.toNatClampNeg = vs.length)
    (hg : g.method = m) (hd : decode c.code g.pc = .ok (.ldc index, 2)) {n : Nat} (hn : 4 * text.toList.length ≤ n) (hbig : n ≤ 536870912) (hc : cells + 2 ≤ R.cells) (hl : slots + (n + 4) ≤ R.slots)
    (k : ∀ T' h' vm' a b kb, Wk p l e R s m args below meth c own Z a0 EL h0 T' h' vm' (cells + 2) (slots + (n + 4)) → CHr Z EL vm h vm' h' → Ext h h' → Exa Z h' a "java/lang/String" → Fld Z h' a "java/lang/String" "coder" "B" (.int 0) → Fld Z h' a "java/lang/String" "value" "[B" (.ref b) → Arv Z h' b kb .byte z vs (.int 0) → (∀ x, Safe Z EL vm' h' x → x ≠ a ∧ x ≠ b) → Gets p e below P (T'.setTop { g with pc := g.pc + 2, stack := .ref a :: g.stack })) : Gets p e below P (T.setTop g) := by
  obtain ⟨locs, j, Y, eT, hS, hk, hZ, hown, hC, N, hO, hx, hEL, r⟩ := X
  obtain ⟨a, T', h', k1, b, kb, Y', e', E, hS', hk', hZ', hown', q1, q2, q3, q4, -, -, C1, -, q5, st⟩ := RoadKit.ldcCH Y hx hZ hown w wS eT hS hk hEL hmem hC.1 ht hz hvl hg hd hn hbig hc hl
  exact (k T' h' T'.vm a b kb ⟨locs, k1, Y', e', hS', hk', hZ', hown', hC.trans C1, N, hO.ext E, hx, hEL, r⟩ C1 E q1 q2 q3 q4 q5).via st
/-- who pays a call, in one shape -/
def Pay (l : Launch) (R : Room) (p : Program) (e : Env) (below : List Frame) (s : State) (args : Array Value) (y : MethodName) (len W : Nat) (Z : State) (EL : List (String × Nat)) (vm : Vm) (h : Heap) (as : Array Value) (rc rs : Nat) (Q : Option Value → Vm → Heap → Prop) : Prop :=
  BackS l R p e below (s.setVm vm) args y len W (fun A a => a = as ∧ A.U.heap = h ∧ A.cells + rc ≤ R.cells ∧ A.slots + rs ≤ R.slots)
    (fun A _ v B => ∃ L, (Q v B.U.vm B.U.heap ∧ Fr Z.heap.size L ∧ Old Z Z.heap.size B.U.heap) ∧ B.locs = A.locs ++ L ∧ B.cells = A.cells + rc ∧ B.slots = A.slots + rs ∧ CHr Z EL vm h B.U.vm B.U.heap)
theorem safe_later {x : Addr} (C : CHr Z EL vm h vm' h) (S : Safe Z EL vm h x) : Safe Z EL vm' h x := by
  by_cases q : x < h.size
  · exact C.safe q S
  · exact Safe.new (Nat.not_lt.mp q)
theorem Wk.payM (X : Wk p l e R s m args below meth c own Z a0 EL h0 T h vm cells slots) {y : MethodName} {bytes : ByteArray} {maxL : Nat} {ret : Option FieldType} {rm : Room} {sf : List Addr} {as : Array Value} {Q : Option Value → Vm → Heap → Prop} {len W : Nat} (M : Met l Z EL y bytes maxL ret [] rm sf as h Q) (hsf : ∀ x ∈ sf, Safe Z EL vm h x)
    (wc : (Jvm.Cond.code y bytes maxL ret).before a0 Z = true) (wz : (Jvm.Cond.initialized y.cls).before a0 Z = true) (hf : rm.frames + 1 ≤ R.frames := by decide) (hl : W + (maxL + 11) + rm.locals ≤ R.locals := by decide) : Pay l R p e below s args y len W Z EL vm h as rm.cells rm.slots Q := by
  have hZ := X.hZ
  have hEL := X.ew
  have H := X.chv
  exact BackS.of_freeW (bytes := bytes) (maxL := maxL) (ret := ret) (E := fun _ first o t L k n => k = rm.cells ∧ n = rm.slots ∧ (∃ v, o = .returned v ∧ (Q v t.vm t.heap ∧ Fr Z.heap.size L ∧ Old Z Z.heap.size t.heap)) ∧ CHr Z EL first.vm first.heap t.vm t.heap) M hf hl
    (fun m meth c A a Y hp => have hU : Z.Warmed39 A.U.vm := wtrans (s := s.setVm vm) hZ Y.warmed
      ⟨by show (Jvm.Cond.and _ .tt).before a A.U = true; rw [Cond.before_and, mv hU wc]; rfl, mv hU wc, mv hU wz, hp.2.2.1, hp.2.2.2⟩)
    (fun m meth c A a g mk Y hp => ⟨hp.1, wtrans (s := s.setVm vm) hZ Y.warmed, hp.2.1, (CHv.at Y hZ hEL H).1, fun x hx => safe_later (vm' := A.U.vm) (CHv.at Y hZ hEL H) (hsf x hx)⟩) (fun _ _ _ _ _ _ _ _ _ => trivial)
    (fun _ _ _ _ ⟨v, L, h1, h2, h3, h4⟩ => ⟨L, _, _, h4, rfl, rfl, ⟨v, h1, h2⟩, h3⟩)
    (fun m meth c A a g mk v t L k n Y hp _ _ ⟨e1, e2, ⟨v', e3, e4⟩, e5⟩ => by
      cases e3; subst e1 e2
      refine ⟨L, e4, rfl, rfl, rfl, (CHv.at Y hZ hEL H).trans ?_⟩
      rw [← hp.2.1]; exact e5)
/-- a narrow payer of the library's -/
theorem Wk.payN (X : Wk p l e R s m args below meth c own Z a0 EL h0 T h vm cells slots) {y : MethodName} {as : Array Value} {rc rs : Nat} {Qn : Option Value → Heap → List Loc → Prop} {Q : Option Value → Heap → Prop} {len W : Nat} {ws : List Addr}
    (hK : Back l R p e below (s.setVm vm) args y len W (fun A a => a = as ∧ A.U.heap = h ∧ A.cells + rc ≤ R.cells ∧ A.slots + rs ≤ R.slots) (fun A _ v B => ∃ L, Qn v B.U.heap L ∧ B.locs = A.locs ++ L ∧ B.cells = A.cells + rc ∧ B.slots = A.slots + rs))
    (hq : ∀ v u L, Qn v u L → Fr Z.heap.size L ∧ Keep h u ws ∧ Q v u) (hws : ∀ x ∈ ws, Z.heap.size ≤ x) (hsafe : ∀ x ∈ ws, Safe Z EL vm h x) : Pay l R p e below s args y len W Z EL vm h as rc rs (fun v _ u => Q v u) := by
  intro m' meth' c' A g' ig mk a Y hg hsize hd hW hn hpre
  obtain ⟨v, B, Y', ⟨L, q1, q2, q3, q4⟩, hsteps⟩ := hK m' meth' c' A g' ig mk a Y hg hsize hd hW hn hpre
  obtain ⟨N, K, q5⟩ := hq _ _ _ q1
  have C1 : CHr Z EL vm h vm B.U.heap := CHr.keep K hsafe X.chv
  have C2 := CHv.at Y' X.hZ X.ew C1.1
  exact ⟨v, B, Y'.retabled Y'.warmed.wide, Y'.warmed.since _, by rw [hpre.2.1]; exact K.1, ⟨L, ⟨q5, N, X.old.keep K hws⟩, q2, q3, q4, C1.trans C2⟩, hsteps⟩
theorem Wk.after (X : Wk p l e R s m args below meth c own Z a0 EL h0 T h vm cells slots) {locs : List Loc} {j : Nat} (hS : s.Since vm j) (hk : j ≤ h.size) (hC : CHr Z EL s.vm h0 vm h) (N : Fr Z.heap.size locs) (hO : Old Z Z.heap.size h) (hown : vm.findClass own = some m.cls)
    {B : Pt} {L : List Loc} {rc rs : Nat} (Y : Stand p l e R ((s.setVm vm).setVm B.U.vm) m args below meth c B.U B.locs B.cells B.slots) (S : (s.setVm vm).Since B.U.vm B.U.heap.size) (hgr : h.size ≤ B.U.heap.size) (q2 : B.locs = locs ++ L) (q3 : B.cells = cells + rc) (q4 : B.slots = slots + rs) (NL : Fr Z.heap.size L) (OL : Old Z Z.heap.size B.U.heap) (C1 : CHr Z EL vm h B.U.vm B.U.heap) :
    Wk p l e R s m args below meth c own Z a0 EL h0 B.U B.U.heap B.U.vm (cells + rc) (slots + rs) := by
  refine ⟨locs ++ L, B.U.heap.size, ?_, rfl, hS.trans S (Nat.le_trans hk hgr), Nat.le_refl _, State.Warmed39.trans (t := s.setVm vm) X.hZ S.1, ?_, hC.trans C1, N.app NL, OL, X.hx, X.ew, ?_⟩
  · rw [← q2, ← q3, ← q4]; exact Y
  · rw [S.1.alike.findClass]; exact hown
  · obtain ⟨_, _, -, -, -, -, -, -, -, -, -, -, -, r⟩ := X; exact r
theorem Wk.callS (X : Wk p l e R s m args below meth c own Z a0 EL h0 T h vm cells slots) {index : Nat} {y : MethodName} {bytes : ByteArray} {maxL : Nat} {ret : Option FieldType} (w1 : (Jvm.Cond.methodLink own index y).before a0 Z = true) (w2 : (Jvm.Cond.static y).before a0 Z = true) (w3 : (Jvm.Cond.initialized y.cls).before a0 Z = true) (w4 : (Jvm.Cond.code y bytes maxL ret).before a0 Z = true)
    (hy : y.cls ≠ "java/lang/invoke/MethodHandle" ∧ y.cls ≠ "java/lang/invoke/VarHandle") {W rc rs : Nat} {as : Array Value} {Q : Option Value → Vm → Heap → Prop} (hK : Pay l R p e below s args y 3 W Z EL vm h as rc rs Q)
    (hg : g.method = m) (hsize : g.locals.size = c.maxLocals) {argsL rest : List Value} (hlen : ∀ sig, parseMethodDescriptor y.desc = some sig → argsL.length = sig.parameters.length) (hstack : g.stack = argsL.reverse ++ rest) (has : argsL.toArray = as) (hW : 2 * g.monitorRoom + (rest.map fun v => v.category).sum ≤ W)
    (hdg : decode c.code g.pc = .ok (.invokestatic index, 3)) (hc : cells + rc ≤ R.cells) (hs : slots + rs ≤ R.slots)
    (k : ∀ T' h' vm' v, Wk p l e R s m args below meth c own Z a0 EL h0 T' h' vm' (cells + rc) (slots + rs) → CHr Z EL vm h vm' h' → h.size ≤ h'.size → Q v vm' h' → Gets p e below P (T'.setTop { g with pc := g.pc + 3, stack := v.toList ++ rest })) : Gets p e below P (T.setTop g) := by
  have X' := X
  obtain ⟨locs, j, Y, eT, hS, hk, hZ, hown, hC, N, hO, hx, r⟩ := X
  obtain ⟨v, vm₁, B, hW1, Y', S, hgr, ⟨L, ⟨q1, NL, OL⟩, q2, q3, q4, C1⟩, st⟩ := RoadKit.callSS Y hx hown (mv (s := s.setVm vm) hZ w1) (mv (s := s.setVm vm) hZ w2) (mv (s := s.setVm vm) hZ w3) (mv (s := s.setVm vm) hZ w4) hy hK hg hsize hlen hstack hW hdg (fun vm₁ _ => ⟨has, eT, hc, hs⟩)
  exact (k B.U B.U.heap B.U.vm v (X'.after hS hk hC N hO hown Y' S (eT ▸ hgr) q2 q3 q4 NL OL C1) C1 (eT ▸ hgr) q1).steps st
theorem Wk.callI (X : Wk p l e R s m args below meth c own Z a0 EL h0 T h vm cells slots) {index : Nat} {y : MethodName} {bytes : ByteArray} {maxL : Nat} (hy1 : y.name = "<init>") (w1 : (Jvm.Cond.methodLink own index y).before a0 Z = true) (w2 : (Jvm.Cond.instanceMethod y).before a0 Z = true) (w4 : (Jvm.Cond.code y bytes maxL none).before a0 Z = true)
    (hy : y.cls ≠ "java/lang/invoke/MethodHandle" ∧ y.cls ≠ "java/lang/invoke/VarHandle") {W rc rs : Nat} {as : Array Value} {Q : Option Value → Vm → Heap → Prop} (hK : Pay l R p e below s args y 3 W Z EL vm h as rc rs Q)
    (hg : g.method = m) (hsize : g.locals.size = c.maxLocals) {a : Addr} {argsL rest : List Value} (hlen : ∀ sig, parseMethodDescriptor y.desc = some sig → argsL.length = sig.parameters.length) (hstack : g.stack = argsL.reverse ++ .ref a :: rest) (has : (Value.ref a :: argsL).toArray = as) (hW : 2 * g.monitorRoom + (rest.map fun v => v.category).sum ≤ W)
    (hdg : decode c.code g.pc = .ok (.invokespecial index, 3)) (hc : cells + rc ≤ R.cells) (hs : slots + rs ≤ R.slots)
    (k : ∀ T' h' vm' v, Wk p l e R s m args below meth c own Z a0 EL h0 T' h' vm' (cells + rc) (slots + rs) → CHr Z EL vm h vm' h' → h.size ≤ h'.size → Q v vm' h' → Gets p e below P (T'.setTop { g with pc := g.pc + 3, stack := v.toList ++ rest })) : Gets p e below P (T.setTop g) := by
  have X' := X
  obtain ⟨locs, j, Y, eT, hS, hk, hZ, hown, hC, N, hO, hx, r⟩ := X
  obtain ⟨v, vm₁, B, hW1, Y', S, hgr, ⟨L, ⟨q1, NL, OL⟩, q2, q3, q4, C1⟩, st⟩ := Y.specialBackS hx hy1 hown (mv (s := s.setVm vm) hZ w1) (mv (s := s.setVm vm) hZ w2) (mv (s := s.setVm vm) hZ w4) hy hK hg hsize (Steps.refl _) hlen hstack hW hdg (fun vm₁ _ => ⟨has, eT, hc, hs⟩)
  exact (k B.U B.U.heap B.U.vm v (X'.after hS hk hC N hO hown Y' S (eT ▸ hgr) q2 q3 q4 NL OL C1) C1 (eT ▸ hgr) q1).steps st
theorem Wk.callV (X : Wk p l e R s m args below meth c own Z a0 EL h0 T h vm cells slots) {C : String} {index : Nat} {y z : MethodName} (w1 : (Jvm.Cond.methodLink own index y).before a0 Z = true) (w2 : (Jvm.Cond.declares y).before a0 Z = true) (w3 : (Jvm.Cond.selects C y z).before a0 Z = true) (w4 : (Jvm.Cond.instanceMethod z).before a0 Z = true)
    (hnf : ∀ s' : State, Z.Warmed39 s'.vm → NotFace s' y)
    (hy : y.cls ≠ "java/lang/invoke/MethodHandle" ∧ y.cls ≠ "java/lang/invoke/VarHandle") {W rc rs : Nat} {as : Array Value} {Q : Option Value → Vm → Heap → Prop} (hK : Pay l R p e below s args z 3 W Z EL vm h as rc rs Q) {b : Addr} (E : Exa Z h b C)
    (hg : g.method = m) (hsize : g.locals.size = c.maxLocals) {argsL rest : List Value} (hlen : ∀ sig, parseMethodDescriptor y.desc = some sig → argsL.length = sig.parameters.length) (hstack : g.stack = argsL.reverse ++ .ref b :: rest) (has : (Value.ref b :: argsL).toArray = as) (hW : 2 * g.monitorRoom + (rest.map fun v => v.category).sum ≤ W)
    (hdg : decode c.code g.pc = .ok (.invokevirtual index, 3)) (hc : cells + rc ≤ R.cells) (hs : slots + rs ≤ R.slots)
    (k : ∀ T' h' vm' v, Wk p l e R s m args below meth c own Z a0 EL h0 T' h' vm' (cells + rc) (slots + rs) → CHr Z EL vm h vm' h' → h.size ≤ h'.size → Q v vm' h' → Gets p e below P (T'.setTop { g with pc := g.pc + 3, stack := v.toList ++ rest })) : Gets p e below P (T.setTop g) := by
  have X' := X
  obtain ⟨locs, j, Y, eT, hS, hk, hZ, hown, hC, N, hO, hx, r⟩ := X
  obtain ⟨cq, kq, qa, qb, qc⟩ := RoadKit.isOf (s := s.setVm vm) hZ eT E
  obtain ⟨v, vm₁, B, hW1, Y', S, hgr, ⟨L, ⟨q1, NL, OL⟩, q2, q3, q4, C1⟩, st⟩ := Y.virtualBackS hx hown (mv (s := s.setVm vm) hZ w1) (mv (s := s.setVm vm) hZ w2) (hnf (s.setVm vm) hZ) (mv (s := s.setVm vm) hZ w3) (mv (s := s.setVm vm) hZ w4) hy hK qa qc hg hsize (Steps.refl _) hlen hstack hW hdg (fun vm₁ _ => ⟨has, eT, hc, hs⟩)
  exact (k B.U B.U.heap B.U.vm v (X'.after hS hk hC N hO hown Y' S (eT ▸ hgr) q2 q3 q4 NL OL C1) C1 (eT ▸ hgr) q1).steps st
theorem same_self {y y' : MethodName} {C : String} (w3 : (Jvm.Cond.instanceMethod y).before a0 Z = true) (ws : (Jvm.Cond.selects C y' y').before a0 Z = true) (hc : y.cls = y'.cls) (hy : y.cls ≠ "java/lang/invoke/MethodHandle" ∧ y.cls ≠ "java/lang/invoke/VarHandle") : (Jvm.Cond.sameMethod y.cls y.cls y.name y.desc).before a0 Z = true := by
  obtain ⟨mk, methM, hnamed, hmethM, -, -⟩ := Cond.instanceMethod_spec w3
  obtain ⟨c2, r2, m2, q1, q2, q3, q4, kP, hkP, hkPi⟩ := Cond.selects_spec ws
  have hcn := findClass_of_methodNamed hnamed
  have hf := State.methodFound?_of_named hnamed hy
  have e2 := findClass_of_methodNamed q3
  rw [← hc, hcn] at e2
  have e3 : mk.cls = m2.cls := Option.some.inj e2
  have hn' : Z.methodNamed? ⟨y.cls, y.name, y.desc⟩ = some mk := hnamed
  simp only [Cond.before, Cond.holds, Cond.value, hcn, hf, hn', e3, hkP]
  simp [hkPi]
theorem Wk.callU (X : Wk p l e R s m args below meth c own Z a0 EL h0 T h vm cells slots) {K : String} {index : Nat} {y : MethodName} {bytes : ByteArray} {maxL : Nat} {ret : Option FieldType} (hn : y.name ≠ "<init>") (w1 : (Jvm.Cond.methodLink own index y).before a0 Z = true) (w2 : (Jvm.Cond.sameMethod y.cls y.cls y.name y.desc).before a0 Z = true) (w3 : (Jvm.Cond.instanceMethod y).before a0 Z = true) (w4 : (Jvm.Cond.superclass own y.cls).before a0 Z = true) (wc : (Jvm.Cond.code y bytes maxL ret).before a0 Z = true)
    {W rc rs : Nat} {as : Array Value} {Q : Option Value → Vm → Heap → Prop} (hK : Pay l R p e below s args y 3 W Z EL vm h as rc rs Q) {b : Addr} (E : Exa Z h b K)
    (hg : g.method = m) (hsize : g.locals.size = c.maxLocals) {argsL rest : List Value} (hlen : ∀ sig, parseMethodDescriptor y.desc = some sig → argsL.length = sig.parameters.length) (hstack : g.stack = argsL.reverse ++ .ref b :: rest) (has : (Value.ref b :: argsL).toArray = as) (hW : 2 * g.monitorRoom + (rest.map fun v => v.category).sum ≤ W)
    (hdg : decode c.code g.pc = .ok (.invokespecial index, 3)) (hc : cells + rc ≤ R.cells) (hs : slots + rs ≤ R.slots)
    (k : ∀ T' h' vm' v, Wk p l e R s m args below meth c own Z a0 EL h0 T' h' vm' (cells + rc) (slots + rs) → CHr Z EL vm h vm' h' → h.size ≤ h'.size → Q v vm' h' → Gets p e below P (T'.setTop { g with pc := g.pc + 3, stack := v.toList ++ rest })) : Gets p e below P (T.setTop g) := by
  have X' := X
  obtain ⟨locs, j, Y, eT, hS, hk, hZ, hown, hC, N, hO, hx, r⟩ := X
  obtain ⟨v, vm₁, B, hW1, Y', S, hgr, ⟨L, ⟨q1, NL, OL⟩, q2, q3, q4, C1⟩, st⟩ := RoadKit.superBackS Y hx (s := s.setVm vm) hZ hown w1 w2 w3 w4 hn hK eT (Ins.self E) hg hsize wc hlen hstack hW hdg (fun vm₁ _ => ⟨has, eT, hc, hs⟩)
  exact (k B.U B.U.heap B.U.vm v (X'.after hS hk hC N hO hown Y' S (eT ▸ hgr) q2 q3 q4 NL OL C1) C1 (eT ▸ hgr) q1).steps st
theorem Wk.callP (X : Wk p l e R s m args below meth c own Z a0 EL h0 T h vm cells slots) {C C2 : String} {index : Nat} {y : MethodName} {bytes : ByteArray} {maxL : Nat} {ret : Option FieldType} (w1 : (Jvm.Cond.methodLink own index y).before a0 Z = true) (w2 : (Jvm.Cond.instanceMethod y).before a0 Z = true) (w3 : (Jvm.Cond.selects C2 y y).before a0 Z = true) (w4 : (Jvm.Cond.privateMethod y).before a0 Z = true) (w5 : (Jvm.Cond.code y bytes maxL ret).before a0 Z = true)
    (hy : y.cls ≠ "java/lang/invoke/MethodHandle" ∧ y.cls ≠ "java/lang/invoke/VarHandle") {W rc rs : Nat} {as : Array Value} {Q : Option Value → Vm → Heap → Prop} (hK : Pay l R p e below s args y 3 W Z EL vm h as rc rs Q) {b : Addr} (E : Exa Z h b C)
    (hg : g.method = m) (hsize : g.locals.size = c.maxLocals) {argsL rest : List Value} (hlen : ∀ sig, parseMethodDescriptor y.desc = some sig → argsL.length = sig.parameters.length) (hstack : g.stack = argsL.reverse ++ .ref b :: rest) (has : (Value.ref b :: argsL).toArray = as) (hW : 2 * g.monitorRoom + (rest.map fun v => v.category).sum ≤ W)
    (hdg : decode c.code g.pc = .ok (.invokevirtual index, 3)) (hc : cells + rc ≤ R.cells) (hs : slots + rs ≤ R.slots)
    (k : ∀ T' h' vm' v, Wk p l e R s m args below meth c own Z a0 EL h0 T' h' vm' (cells + rc) (slots + rs) → CHr Z EL vm h vm' h' → h.size ≤ h'.size → Q v vm' h' → Gets p e below P (T'.setTop { g with pc := g.pc + 3, stack := v.toList ++ rest })) : Gets p e below P (T.setTop g) := by
  have X' := X
  obtain ⟨locs, j, Y, eT, hS, hk, hZ, hown, hC, N, hO, hx, r⟩ := X
  obtain ⟨cell, hcell, hobj⟩ := Exa.cell E
  obtain ⟨c2, r2, m2, u1, u2, u3, u4, kP, hkP, hkPi⟩ := Cond.selects_spec (mv (s := s.setVm vm) (args := args) hZ w3)
  have hsel := Jvm.Stand.selects_self_of_private (findClass_of_methodNamed u3) hkP hkPi (Cond.privateMethod_at (mvP (s := s.setVm vm) hZ w4 (args := #[]))) (mv (s := s.setVm vm) (args := args) hZ w2) hy
  obtain ⟨v, vm₁, B, hW1, Y', S, hgr, ⟨L, ⟨q1, NL, OL⟩, q2, q3, q4, C1⟩, st⟩ := Y.privateBackS hx hown (mv (s := s.setVm vm) hZ w1) (mv (s := s.setVm vm) hZ w2) hsel (Cond.privateMethod_at (mvP (s := s.setVm vm) hZ w4 (args := #[]))) (mv (s := s.setVm vm) hZ w5) hy hK hg hsize (Steps.refl _) (a := b) (by rw [eT]; exact hcell) hobj hlen hstack hW hdg (fun vm₁ _ => ⟨has, eT, hc, hs⟩)
  exact (k B.U B.U.heap B.U.vm v (X'.after hS hk hC N hO hown Y' S (eT ▸ hgr) q2 q3 q4 NL OL C1) C1 (eT ▸ hgr) q1).steps st
theorem nfs {y z : MethodName} {C : String} (hc : y = z) (w : (Jvm.Cond.selects C y z).before a0 Z = true) : ∀ s' : State, Z.Warmed39 s'.vm → NotFace s' y := fun s' hZ => by
  subst hc; exact notFace_of_selects (args := #[]) (mv (s := s') hZ w)
theorem nfs2 {y y' : MethodName} {C : String} (w : (Jvm.Cond.selects C y' y').before a0 Z = true) (hc : y.cls = y'.cls) : ∀ s' : State, Z.Warmed39 s'.vm → NotFace s' y := fun s' hZ r0 h0 => by
  obtain ⟨c2, r2, m2, q1, q2, q3, q4, kP, hkP, hkPi⟩ := Cond.selects_spec (mv (s := s') (args := #[]) hZ w)
  have e1 := findClass_of_methodNamed h0
  have e2 := findClass_of_methodNamed q3
  rw [hc, e2] at e1
  exact ⟨kP, by rw [← Option.some.inj e1]; exact hkP, hkPi⟩
theorem Wk.done (X : Wk p l e R s m args below meth c own Z a0 EL h0 T h vm cells slots) {Q : Option Value → Vm → Heap → Prop} {rm : Room} {v : Option Value} (hv : meth.sig.returnType = none → v = none) (hc : cells ≤ rm.cells) (hs : slots ≤ rm.slots) (q : ∀ vm', CHr Z EL vm h vm' h → Q v vm' h)
    (st : ∀ fs, Stand p l e R (s.setVm vm) m args below meth c T [] cells slots ∨ True → (∀ (f : JFrame) (acts : List Action), f.method = m → f.locked = none → f.entered = [] → (doReturn e (T.setTop f) acts v).1 = T.setFrames fs) → Steps p.tables e below (T.setTop g) (T.setFrames fs)) : Gets p e below (Out s Z EL rm Q) (T.setTop g) := by
  obtain ⟨locs, j, Y, eT, hS, hk, hZ, hown, hC, N, hO, hx, hEL, hh, hlk⟩ := X
  obtain ⟨fs, hr, hrun, hended, hq⟩ := Y.leaveW hS (by rw [eT]; exact hk) (v := v) hv
  refine ⟨_, _, st fs (Or.inr trivial) hr, hrun, hended, v, locs, rfl, ⟨?_, N, ?_⟩, ?_, ?_⟩
  · show Q v T.vm T.heap; rw [eT]; exact q _ (CHv.at Y hZ hEL hC.1)
  · show Old Z Z.heap.size T.heap; rw [eT]; exact hO
  · show CHr Z EL s.vm s.heap T.vm T.heap
    rw [hh, eT]
    exact hC.trans (CHv.at Y hZ hEL hC.1)
  · obtain ⟨r1, r2, r3, r4⟩ := hq
    exact ⟨r1, r2, r3, r4.mono hc hs⟩
theorem Wk.retV (X : Wk p l e R s m args below meth c own Z a0 EL h0 T h vm cells slots) {Q : Option Value → Vm → Heap → Prop} {rm : Room} (hret : meth.sig.returnType = none) {pc : Nat} {Ls : Array Slot} (hd : decode c.code pc = .ok (.return_, 1)) (hc : cells ≤ rm.cells) (hs : slots ≤ rm.slots) (q : ∀ vm', CHr Z EL vm h vm' h → Q none vm' h) : Gets p e below (Out s Z EL rm Q) (T.setTop (mkF m pc Ls [])) := by
  have X' := X
  obtain ⟨locs, j, Y, -⟩ := X'
  exact X.done (fun _ => rfl) hc hs q fun fs _ hr => Y.returnOut X.hx hret hd hr
theorem Wk.ret (X : Wk p l e R s m args below meth c own Z a0 EL h0 T h vm cells slots) {Q : Option Value → Vm → Heap → Prop} {rm : Room} {t : FieldType} {w : Value} {i : Instr} (hret : meth.sig.returnType = some t) {pc : Nat} {Ls : Array Slot} {rest : List Value} (hn : narrow t w = w)
    (hi : (i = .ireturn ∧ (t = .int ∨ t = .boolean ∨ t = .byte ∨ t = .char ∨ t = .short) ∧ ∃ z, w = .int z) ∨ (i = .lreturn ∧ t = .long ∧ ∃ z, w = .long z) ∨ (i = .dreturn ∧ t = .double ∧ ∃ z, w = .double z) ∨ (i = .freturn ∧ t = .float ∧ ∃ z, w = .float z) ∨ (i = .areturn ∧ t.isReference = true ∧ w.isRef = true))
    (hd : decode c.code pc = .ok (i, 1)) (hc : cells ≤ rm.cells) (hs : slots ≤ rm.slots) (q : ∀ vm', CHr Z EL vm h vm' h → Q (some w) vm' h) : Gets p e below (Out s Z EL rm Q) (T.setTop (mkF m pc Ls (w :: rest))) := by
  have X' := X
  obtain ⟨locs, j, Y, -⟩ := X'
  exact X.done (fun z => by rw [hret] at z; cases z) hc hs q fun fs _ hr => RoadKit.retOut Y X.hx hret hn hi hd hr
theorem Wk.retA (X : Wk p l e R s m args below meth c own Z a0 EL h0 T h vm cells slots) {Q : Option Value → Vm → Heap → Prop} {rm : Room} {t : FieldType} {w : Value} (hret : meth.sig.returnType = some t) {pc : Nat} {Ls : Array Slot} {rest : List Value} (hn : narrow t w = w) (ht : t.isReference = true) (hw : w.isRef = true)
    (hd : decode c.code pc = .ok (.areturn, 1)) (hc : cells ≤ rm.cells) (hs : slots ≤ rm.slots) (q : ∀ vm', CHr Z EL vm h vm' h → Q (some w) vm' h) : Gets p e below (Out s Z EL rm Q) (T.setTop (mkF m pc Ls (w :: rest))) :=
  X.ret hret hn (Or.inr (Or.inr (Or.inr (Or.inr ⟨rfl, ht, hw⟩)))) hd hc hs q
theorem Wk.retI (X : Wk p l e R s m args below meth c own Z a0 EL h0 T h vm cells slots) {Q : Option Value → Vm → Heap → Prop} {rm : Room} {t : FieldType} {x : Int32} (hret : meth.sig.returnType = some t) {pc : Nat} {Ls : Array Slot} {rest : List Value} (hn : narrow t (.int x) = .int x) (ht : t = .int ∨ t = .boolean ∨ t = .byte ∨ t = .char ∨ t = .short)
    (hd : decode c.code pc = .ok (.ireturn, 1)) (hc : cells ≤ rm.cells) (hs : slots ≤ rm.slots) (q : ∀ vm', CHr Z EL vm h vm' h → Q (some (.int x)) vm' h) : Gets p e below (Out s Z EL rm Q) (T.setTop (mkF m pc Ls (.int x :: rest))) :=
  X.ret hret hn (Or.inl ⟨rfl, ht, x, rfl⟩) hd hc hs q
variable {a b : Addr} {k : ClassId} {cs : List Int32} {ws : List Addr}
/-- a Latin-1 String at a, its bytes at b, spelling cs -/
def Str (Z : State) (h : Heap) (a b : Addr) (k : ClassId) (cs : List Int32) : Prop := Exa Z h a "java/lang/String" ∧ Fld Z h a "java/lang/String" "coder" "B" (.int (0 : Int32)) ∧ Fld Z h a "java/lang/String" "value" "[B" (.ref b) ∧ Arv Z h b k .byte (Int32.ofNat cs.length) ((cs.map fun c => c.toInt8.toInt32).map Value.int) (.int (0 : Int32)) ∧ (∀ c ∈ cs, ¬ c < 0 ∧ ¬ (255 : Int32) < c) ∧ cs.length ≤ 4000
theorem Str.ext (F : Str Z h a b k cs) (E : Ext h h') : Str Z h' a b k cs := ⟨F.1.ext E, F.2.1.ext E, F.2.2.1.ext E, F.2.2.2.1.ext E, F.2.2.2.2⟩
theorem Str.keep (F : Str Z h a b k cs) (K : Keep h h' ws) (q : a ∉ ws) (r : b ∉ ws) : Str Z h' a b k cs := ⟨F.1.keep K, F.2.1.keep K q, F.2.2.1.keep K q, F.2.2.2.1.keep K r, F.2.2.2.2⟩
theorem Str.lt (F : Str Z h a b k cs) : a < h.size := F.1.lt
theorem Str.lb (F : Str Z h a b k cs) : b < h.size := F.2.2.2.1.lt
end Base
section Vals
variable {tb : Tables} [Ours tb] {e : Env} {below : List Frame} {T target : State} {m : MethodId} {c : Code} {g : JFrame}
theorem i2cV (h : At T m c below) (hx : tb.exec = Jvm.exec) (hg : g.method = m) {x v : Int32} {rest : List Value} (hd : decode c.code g.pc = .ok (.i2c, 1)) (hs : g.stack = .int x :: rest) (hv : x.toUInt32.toUInt16.toUInt32.toInt32 = v)
    (hr : Steps tb e below (T.setTop { g with pc := g.pc + 1, stack := .int v :: rest }) target) : Steps tb e below (T.setTop g) target := by subst hv; exact XS.i2c h hx hg hd hs hr
theorem iincV (h : At T m c below) (hx : tb.exec = Jvm.exec) (hg : g.method = m) {k : Nat} {cst : Int} {x v : Int32} {l' : Array Slot} (hd : decode c.code g.pc = .ok (.iinc k cst, 3)) (hl : g.locals[k]? = some (.val (.int x))) (hv : x + Int32.ofInt cst = v) (hl' : storeLocals g.locals k (.int v) = some l')
    (hr : Steps tb e below (T.setTop { g with pc := g.pc + 3, locals := l' }) target) : Steps tb e below (T.setTop g) target := by subst hv; exact XS.iinc h hx hg hd hl hl' hr
theorem iaddV (h : At T m c below) (hx : tb.exec = Jvm.exec) (hg : g.method = m) {x y v : Int32} {rest : List Value} (hd : decode c.code g.pc = .ok (.iadd, 1)) (hs : g.stack = .int y :: .int x :: rest) (hv : x + y = v)
    (hr : Steps tb e below (T.setTop { g with pc := g.pc + 1, stack := .int v :: rest }) target) : Steps tb e below (T.setTop g) target := by subst hv; exact XS.iadd h hx hg hd hs hr
theorem isubV (h : At T m c below) (hx : tb.exec = Jvm.exec) (hg : g.method = m) {x y v : Int32} {rest : List Value} (hd : decode c.code g.pc = .ok (.isub, 1)) (hs : g.stack = .int y :: .int x :: rest) (hv : x - y = v)
    (hr : Steps tb e below (T.setTop { g with pc := g.pc + 1, stack := .int v :: rest }) target) : Steps tb e below (T.setTop g) target := by subst hv; exact XS.isub h hx hg hd hs hr
theorem iushrV (h : At T m c below) (hx : tb.exec = Jvm.exec) (hg : g.method = m) {x y v : Int32} {rest : List Value} (hd : decode c.code g.pc = .ok (.iushr, 1)) (hs : g.stack = .int y :: .int x :: rest) (hv : Jvm.Free.XT.ushr x y = v)
    (hr : Steps tb e below (T.setTop { g with pc := g.pc + 1, stack := .int v :: rest }) target) : Steps tb e below (T.setTop g) target := by subst hv; exact Jvm.Free.XT.iushr h hx hg hd hs hr
theorem ishlV (h : At T m c below) (hx : tb.exec = Jvm.exec) (hg : g.method = m) {x y v : Int32} {rest : List Value} (hd : decode c.code g.pc = .ok (.ishl, 1)) (hs : g.stack = .int y :: .int x :: rest) (hv : x <<< (y &&& (31 : Int32)) = v)
    (hr : Steps tb e below (T.setTop { g with pc := g.pc + 1, stack := .int v :: rest }) target) : Steps tb e below (T.setTop g) target := by subst hv; exact Jvm.Free.XT.ishl h hx hg hd hs hr
theorem ishrV (h : At T m c below) (hx : tb.exec = Jvm.exec) (hg : g.method = m) {x y v : Int32} {rest : List Value} (hd : decode c.code g.pc = .ok (.ishr, 1)) (hs : g.stack = .int y :: .int x :: rest) (hv : x >>> (y &&& (31 : Int32)) = v)
    (hr : Steps tb e below (T.setTop { g with pc := g.pc + 1, stack := .int v :: rest }) target) : Steps tb e below (T.setTop g) target := by subst hv; exact Jvm.Free.XT.ishr h hx hg hd hs hr
theorem i2bV (h : At T m c below) (hx : tb.exec = Jvm.exec) (hg : g.method = m) {x v : Int32} {rest : List Value} (hd : decode c.code g.pc = .ok (.i2b, 1)) (hs : g.stack = .int x :: rest) (hv : x.toInt8.toInt32 = v)
    (hr : Steps tb e below (T.setTop { g with pc := g.pc + 1, stack := .int v :: rest }) target) : Steps tb e below (T.setTop g) target := by subst hv; exact XS.i2b h hx hg hd hs hr
/-- (char) of an int -/
def i2c (x : Int32) : Int32 := x.toUInt32.toUInt16.toUInt32.toInt32
theorem i2c_in {x : Int32} (h0 : ¬ x < 0) (h1 : ¬ (65535 : Int32) < x) : x.toUInt32.toUInt16.toUInt32.toInt32 = x := by
  have q := c_i2c x
  apply Int32.toInt_inj.mp
  have e0 : (0 : Int32).toInt = 0 := by decide
  have e1 : (65535 : Int32).toInt = 65535 := by decide
  rw [Int32.lt_iff_toInt_lt, e0] at h0
  rw [Int32.lt_iff_toInt_lt, e1] at h1
  omega
theorem i2c_small {x : Int32} (h : ¬ x < 0 ∧ ¬ (255 : Int32) < x) : x.toUInt32.toUInt16.toUInt32.toInt32 = x := i2c_in h.1 fun q => h.2 (by
  have e1 : (255 : Int32).toInt = 255 := by decide
  have e2 : (65535 : Int32).toInt = 65535 := by decide
  rw [Int32.lt_iff_toInt_lt] at q ⊢; omega)
theorem nar_small {x : Int32} (h : ¬ x < 0 ∧ ¬ (255 : Int32) < x) : narrow .char (.int x) = .int x := by
  show Value.int _ = _
  rw [i2c_small h]
theorem nar_b (x : Int32) : nar .byte x.toInt8.toInt32 = x.toInt8.toInt32 := by simp [nar]
theorem allI {P : Int32 → Prop} {y : Int32} {L : List Int32} (q : P y) (r : ∀ x ∈ L, P x) : ∀ x ∈ y :: L, P x := fun x z => (List.mem_cons.mp z).elim (fun u => u ▸ q) (r x)
theorem allN {P : Int32 → Prop} : ∀ x ∈ ([] : List Int32), P x := fun _ q => nomatch q
end Vals
end Jvm.Ow

namespace Jvm.Ow
open Jvm Jvm.ClassFile Sem Op Lib Jvm.Free Jvm.Stand Jvm.LawKit Jvm.RoadKit Bundle
section Grow
variable {p : Program} {l : Launch} {e : Env} {R : Room} {s : State} {m : MethodId} {args : Array Value} {below : List Frame} {meth : Method} {c : Code} {own : String} {Z : State} {a0 : Array Value} {EL : List (String × Nat)} {h0 : Heap} {T : State} {h h' : Heap} {vm vm' : Vm} {cells slots : Nat} {P : Outcome → State → Prop} {g : JFrame}
/-- a new byte[], its class said -/
theorem Wk.newAB (X : Wk p l e R s m args below meth c own Z a0 EL h0 T h vm cells slots) (w : (Jvm.Cond.arrayClass .byte).before a0 Z = true) (hg : g.method = m) (hd : decode c.code g.pc = .ok (.newarray .byte, 2)) {n : Int32} {rest : List Value} (hs : g.stack = .int n :: rest)
    (hn : ¬ n < 0) {cap : Nat} (hcap : n.toNatClampNeg ≤ cap) (hb : cap * 8 ≤ 536870912) (hc : cells + 1 ≤ R.cells) (hl : slots + cap ≤ R.slots)
    (k : ∀ T' h' a kc, Wk p l e R s m args below meth c own Z a0 EL h0 T' h' vm (cells + 1) (slots + cap) → CHr Z EL vm h vm h' → Ext h h' → a = h.size → Safe Z EL vm h' a → Arv Z h' a kc .byte n [] (.int 0) → Exa Z h' a "[B" → Gets p e below P (T'.setTop { g with pc := g.pc + 2, stack := .ref a :: rest })) : Gets p e below P (T.setTop g) := by
  obtain ⟨locs, j, Y, eT, hS, hk, hZ, hown, hC, N, hO, hx, r⟩ := X
  obtain ⟨T', h', kc, Y', e', E, A, B, st⟩ := RoadKit.newPE Y hx hZ (aty := .byte) w eT hg hd hs hn hcap hb hc hl (ad := "[B") rfl
  have C1 : CHr Z EL vm h vm h' := CHr.ext E hC.1
  exact (k T' h' h.size kc ⟨locs, j, Y', e', hS, Nat.le_trans hk E.1, hZ, hown, hC.trans C1, N, hO.ext E, hx, r⟩ C1 E rfl (Safe.ext E hC.1 (Safe.new (Nat.le_refl _))) (Arv.new A hn) B).via st
/-- clone of a byte[] -/
theorem Wk.cloneB (X : Wk p l e R s m args below meth c own Z a0 EL h0 T h vm cells slots) {index : Nat} (w1 : (Jvm.Cond.methodLink own index ⟨"[B", "clone", "()Ljava/lang/Object;"⟩).before a0 Z = true) (w2 : (Jvm.Cond.sameMethod "[B" "java/lang/Object" "clone" "()Ljava/lang/Object;").before a0 Z = true) (w3 : (Jvm.Cond.native ⟨"java/lang/Object", "clone", "()Ljava/lang/Object;"⟩).before a0 Z = true)
    (w4 : (Jvm.Cond.instanceMethod ⟨"java/lang/Object", "clone", "()Ljava/lang/Object;"⟩).before a0 Z = true) (w5 : (Jvm.Cond.selects "[B" ⟨"[B", "clone", "()Ljava/lang/Object;"⟩ ⟨"java/lang/Object", "clone", "()Ljava/lang/Object;"⟩).before a0 Z = true) (w6 : (Jvm.Cond.castable "[B" "java/lang/Cloneable").before a0 Z = true)
    {a : Addr} {k : ClassId} {ty : FieldType} {z : Int32} {vs : List Value} {dv : Value} (F : Arv Z h a k ty z vs dv) (E : Exa Z h a "[B") (hg : g.method = m) (hsize : g.locals.size = c.maxLocals) {rest : List Value} (hst : g.stack = .ref a :: rest) (hd : decode c.code g.pc = .ok (.invokevirtual index, 3))
    (hf : 1 ≤ R.frames) {W : Nat} (hW : 2 * g.monitorRoom + (rest.map fun v => v.category).sum ≤ W) (hl : W + 14 ≤ R.locals) {cap : Nat} (hcap : z.toNatClampNeg ≤ cap) (hc : cells + 1 ≤ R.cells) (hsl : slots + cap ≤ R.slots)
    (kk : ∀ T' h' b, Wk p l e R s m args below meth c own Z a0 EL h0 T' h' vm (cells + 1) (slots + cap) → CHr Z EL vm h vm h' → Ext h h' → b = h.size → Safe Z EL vm h' b → Arv Z h' b k ty z vs dv → Exa Z h' b "[B" → Gets p e below P (T'.setTop { g with pc := g.pc + 3, stack := .ref b :: rest })) : Gets p e below P (T.setTop g) := by
  obtain ⟨locs, j, Y, eT, hS, hk, hZ, hown, hC, N, hO, hx, r⟩ := X
  obtain ⟨cl, A, q1, S, q3, H, G⟩ := F
  have FC : FitC Z cl := fitC_of A fun i hi v hv => by rw [H i hi] at hv; cases hv; exact G i hi
  obtain ⟨T', h', Y', e', E1, A', B, st⟩ := RoadKit.cloneA Y hx hZ hown w1 w2 w3 w4 w5 w6 eT A E FC hg hsize hst hd hf hW hl (by rw [S]; exact hcap) hc hsl
  have C1 : CHr Z EL vm h vm h' := CHr.ext E1 hC.1
  exact (kk T' h' h.size ⟨locs, j, Y', e', hS, Nat.le_trans hk E1.1, hZ, hown, hC.trans C1, N, hO.ext E1, hx, r⟩ C1 E1 rfl (Safe.ext E1 hC.1 (Safe.new (Nat.le_refl _))) ⟨cloneOf cl, A', q1, S, q3, H, G⟩ B).via st
theorem Wk.lswH (X : Wk p l e R s m args below meth c own Z a0 EL h0 T h vm cells slots) (hg : g.method = m) {x : Int32} {rest : List Value} (hs : g.stack = .int x :: rest) {df : Int} {pairs : Array (Int × Int)} {len : Nat} (hd : decode c.code g.pc = .ok (.lookupswitch df pairs, len)) (ho : (pairs.toList.zip (pairs.toList.drop 1)).all (fun (a, next) => a.1 < next.1) = true) {a off : Int} (hf : pairs.find? (·.1 == x.toInt) = some (a, off)) {pc' : Nat} (h1 : 0 ≤ (g.pc : Int) + off) (h2 : ((g.pc : Int) + off).toNat = pc')
    (k : Gets p e below P (T.setTop { g with pc := pc', stack := rest })) : Gets p e below P (T.setTop g) := by
  obtain ⟨locs, j, Y, eT, hS, hk, hZ, hown, hC, N, hO, hx, r⟩ := X
  subst h2
  exact k.via fun u q => Y.lookupswitchHit hx hg hs hd ho hf h1 _ q
theorem Wk.lswM (X : Wk p l e R s m args below meth c own Z a0 EL h0 T h vm cells slots) (hg : g.method = m) {x : Int32} {rest : List Value} (hs : g.stack = .int x :: rest) {df : Int} {pairs : Array (Int × Int)} {len : Nat} (hd : decode c.code g.pc = .ok (.lookupswitch df pairs, len)) (ho : (pairs.toList.zip (pairs.toList.drop 1)).all (fun (a, next) => a.1 < next.1) = true) (hf : pairs.find? (·.1 == x.toInt) = none) {pc' : Nat} (h1 : 0 ≤ (g.pc : Int) + df) (h2 : ((g.pc : Int) + df).toNat = pc')
    (k : Gets p e below P (T.setTop { g with pc := pc', stack := rest })) : Gets p e below P (T.setTop g) := by
  obtain ⟨locs, j, Y, eT, hS, hk, hZ, hown, hC, N, hO, hx, r⟩ := X
  subst h2
  exact k.via fun u q => Y.lookupswitchMiss hx hg hs hd ho hf h1 _ q
end Grow
end Jvm.Ow
/- laws to paste: Road.backV, pair_says, shr1, chr8_lo8, lo8_mask (cut by pick.py; bodies as the Statement names them) -/
namespace Jvm.Pilot.@@N@@
namespace StrChars
open Jvm Sem ClassFile Op Lib Jvm.Stand Jvm.Free.XT Jvm.Free.ALB Jvm.Free.JM Jvm.Free
open Jvm.Lib.Cold (StaticIs)
/-- a char array whose places are chars -/
def Ch (a : Addr) (A : Cell) (U : State) : Prop := Arr .char a A U ∧ Typed .char A
theorem Ch.mv {a : Addr} {A : Cell} {U U' : State} (h : Ch a A U) (hal : U.vm.Alike U'.vm) (hh : U'.heap = U.heap) : Ch a A U' := ⟨h.1.mv hal hh, h.2⟩
theorem Ch.keep {a : Addr} {A : Cell} {U U' : State} (h : Ch a A U) (hal : U.vm.Alike U'.vm) (hk : U'.heap[a]? = some A) : Ch a A U' := ⟨h.1.keep hal hk, h.2⟩
/-- what place i of a char[]'s cell holds -/
def cv (A : Cell) (i : Nat) : Int32 := match A.slots[i]? with | some (.int x) => x | _ => 0
theorem Ch.get {a : Addr} {A : Cell} {U : State} (h : Ch a A U) {i : Nat} (hi : i < A.slots.size) : A.slots[i]? = some (.int (cv A i)) := by
  have e := Array.getElem?_eq_getElem hi
  have f := h.2 i _ e
  unfold cv; rw [e]
  generalize A.slots[i] = v at f
  cases v <;> simp [fits] at f ⊢
/-- the byte that i2b leaves of a char -/
def lo8 (x : Int32) : Int32 := x.toInt8.toInt32
theorem fits_lo8 (y : Int32) : fits .byte (.int (lo8 y)) = true := by
  have h1 := y.toInt8.le_toInt
  have h2 := y.toInt8.toInt_lt
  simp only [lo8, fits, Bool.and_eq_true, decide_eq_true_eq, Int32.le_iff_toInt_le, Int8.toInt_toInt32, show (-128 : Int32).toInt = -128 from by decide, show (127 : Int32).toInt = 127 from by decide]
  omega
/-- A' is A but that each place j of lo .. hi - 1 holds f j -/
def Laid (A A' : Cell) (lo hi : Nat) (f : Nat → Value) : Prop := A'.cls = A.cls ∧ A'.vm = A.vm ∧ A'.slots.size = A.slots.size ∧ ∀ i, A'.slots[i]? = if lo ≤ i ∧ i < hi then some (f i) else A.slots[i]?
theorem Laid.zero (A : Cell) (lo : Nat) (f : Nat → Value) : Laid A A lo (lo + 0) f := ⟨rfl, rfl, rfl, fun i => by rw [if_neg (by omega)]⟩
theorem Laid.step {A Ak : Cell} {lo k : Nat} {f : Nat → Value} {v : Value} (h : Laid A Ak lo k f) (hlo : lo ≤ k) (hk : k < Ak.slots.size) (hv : v = f k) : Laid A (Ak.setSlot k v) lo (k + 1) f := by
  refine ⟨h.1, h.2.1, by simpa [Cell.setSlot] using h.2.2.1, fun i => ?_⟩
  by_cases e : k = i
  · subst e; rw [Cell.slots_setSlot_self v hk, if_pos (by omega), hv]
  · rw [Cell.slots_setSlot_ne v e, h.2.2.2 i]
    by_cases q : lo ≤ i ∧ i < k
    · rw [if_pos q, if_pos (by omega)]
    · rw [if_neg q, if_neg (by omega)]
def U16 : String := "java/lang/StringUTF16"
namespace Cmp5
def yN : MethodName := ⟨"java/lang/StringUTF16", "compress", "([CI[BII)I"⟩
abbrev yB : ByteArray := jdk_52_method_21_code
theorem d0 : decode yB 0 = .ok (.iconst 0, 1) := by decide +kernel
theorem d1 : decode yB 1 = .ok (.istore 5, 2) := by decide +kernel
theorem d3 : decode yB 3 = .ok (.iload 5, 2) := by decide +kernel
theorem d5 : decode yB 5 = .ok (.iload 4, 2) := by decide +kernel
theorem d7 : decode yB 7 = .ok (.if_icmp (.ge) 37, 3) := by decide +kernel
theorem d10 : decode yB 10 = .ok (.aload_n 0, 1) := by decide +kernel
theorem d11 : decode yB 11 = .ok (.iload_n 1, 1) := by decide +kernel
theorem d12 : decode yB 12 = .ok (.caload, 1) := by decide +kernel
theorem d13 : decode yB 13 = .ok (.istore 6, 2) := by decide +kernel
theorem d15 : decode yB 15 = .ok (.iload 6, 2) := by decide +kernel
theorem d17 : decode yB 17 = .ok (.sipush 255, 3) := by decide +kernel
theorem d20 : decode yB 20 = .ok (.if_icmp (.le) 6, 3) := by decide +kernel
theorem d26 : decode yB 26 = .ok (.aload_n 2, 1) := by decide +kernel
theorem d27 : decode yB 27 = .ok (.iload_n 3, 1) := by decide +kernel
theorem d28 : decode yB 28 = .ok (.iload 6, 2) := by decide +kernel
theorem d30 : decode yB 30 = .ok (.i2b, 1) := by decide +kernel
theorem d31 : decode yB 31 = .ok (.bastore, 1) := by decide +kernel
theorem d32 : decode yB 32 = .ok (.iinc 1 1, 3) := by decide +kernel
theorem d35 : decode yB 35 = .ok (.iinc 3 1, 3) := by decide +kernel
theorem d38 : decode yB 38 = .ok (.iinc 5 1, 3) := by decide +kernel
theorem d41 : decode yB 41 = .ok (.goto (-38), 3) := by decide +kernel
theorem d44 : decode yB 44 = .ok (.iload 4, 2) := by decide +kernel
theorem d46 : decode yB 46 = .ok (.ireturn, 1) := by decide +kernel
def site : List Cond := []
def tab : Cond := tabOf yN yB 7 (some .int) site
def P (b : Addr) (A : Cell) (d : Addr) (B : Cell) (o q len : Nat) (args : Array Value) (s : State) : Prop := args = #[.ref b, .int (Int32.ofNat o), .ref d, .int (Int32.ofNat q), .int (Int32.ofNat len)] ∧ Ch b A s ∧ Arr .byte d B s ∧ b ≠ d ∧ o + len ≤ A.slots.size ∧ q + len ≤ B.slots.size ∧ ∀ i, i < len → ¬ 255 < cv A (o + i)
def E (b : Addr) (A : Cell) (d : Addr) (B : Cell) (o q len : Nat) (r : Option Value) (s u : State) : Prop := r = some (.int (Int32.ofNat len)) ∧ ∃ B', Put d B' s u ∧ Laid B B' q (q + len) (fun j => Value.int (lo8 (cv A (o + (j - q)))))
/-- no char of the range above 255: len; the places written hold each char's low byte -/
theorem law (l : Launch) (b : Addr) (A : Cell) (d : Addr) (B : Cell) (o q len : Nat) : Law l yN 5 5 0 0 yB 7 (some .int) site (P b A d B o q len) (E b A d B o q len) (copyLocs d q len) 0 0 := by
  refine Law.of_walk (plainFor_of_name (by decide +kernel)) (by decide +kernel) (by decide +kernel) (by decide) (fun _ _ h => by rw [h.1]; rfl) (fun _ U U' hal hh h => ⟨h.1, h.2.1.mv hal hh, h.2.2.1.mv hal hh, h.2.2.2⟩) (fun r U U' V V' h1 hal h2 h => ⟨h.1, h.2.elim fun B' q => ⟨B', q.1.mv h1 h2, q.2⟩⟩) ?_
  intro p e s m args below meth c s₁ X0 hexec hbytes hml hret hlk hnm hown hh0 W hP
  obtain ⟨rfl, hA, hB, hne, l1, l2, hp⟩ := hP
  have c1 : Steps p.tables e below (s₁.setTop (entryFrame m #[.ref b, .int (Int32.ofNat o), .ref d, .int (Int32.ofNat q), .int (Int32.ofNat len)] 7)) (s₁.setTop (mkF m 0 #[.val (.ref b), .val (.int (Int32.ofNat o)), .val (.ref d), .val (.int (Int32.ofNat q)), .val (.int (Int32.ofNat len)), .unset, .unset] [])) := entry rfl
  have hA0 := hA.1.mv X0.warmed.alike hh0
  have hB0 := hB.mv X0.warmed.alike hh0
  have a31 := hA.1.2.2.2
  have c2 : Steps p.tables e below (s₁.setTop (entryFrame m #[.ref b, .int (Int32.ofNat o), .ref d, .int (Int32.ofNat q), .int (Int32.ofNat len)] 7)) (s₁.setTop (mkF m 3 #[.val (.ref b), .val (.int (Int32.ofNat o)), .val (.ref d), .val (.int (Int32.ofNat q)), .val (.int (Int32.ofNat len)), .val (.int 0), .unset] [])) := c1.trans (by
    refine iconstV X0.here hexec rfl 0 (hb hbytes d0) (by decide) ?_
    refine XS.istore X0.here hexec rfl (hb hbytes d1) rfl rfl ?_
    exact Steps.refl _)
  have loop : ∀ (r i : Nat), i + r = len → ∀ (z : Slot), (z = .unset ∨ ∃ w, z = .val w ∧ w.category = 1) → ∀ (Tl : State) (Bk : Cell), Stand p l e { frames := 0, locals := 0, cells := 0, slots := 0 } s m #[.ref b, .int (Int32.ofNat o), .ref d, .int (Int32.ofNat q), .int (Int32.ofNat len)] below meth c Tl ([] ++ copyLocs d q i) 0 0 → Put d Bk s₁ Tl → Laid B Bk q (q + i) (fun j => Value.int (lo8 (cv A (o + (j - q))))) →
      Steps p.tables e below (s₁.setTop (entryFrame m #[.ref b, .int (Int32.ofNat o), .ref d, .int (Int32.ofNat q), .int (Int32.ofNat len)] 7)) (Tl.setTop (mkF m 3 #[.val (.ref b), .val (.int (Int32.ofNat (o + i))), .val (.ref d), .val (.int (Int32.ofNat (q + i))), .val (.int (Int32.ofNat len)), .val (.int (Int32.ofNat i)), z] [])) → ∃ (T' : State) (B' : Cell) (z' : Slot), Stand p l e { frames := 0, locals := 0, cells := 0, slots := 0 } s m #[.ref b, .int (Int32.ofNat o), .ref d, .int (Int32.ofNat q), .int (Int32.ofNat len)] below meth c T' ([] ++ copyLocs d q len) 0 0 ∧ Put d B' s₁ T' ∧ Laid B B' q (q + len) (fun j => Value.int (lo8 (cv A (o + (j - q))))) ∧
      Steps p.tables e below (s₁.setTop (entryFrame m #[.ref b, .int (Int32.ofNat o), .ref d, .int (Int32.ofNat q), .int (Int32.ofNat len)] 7)) (T'.setTop (mkF m 3 #[.val (.ref b), .val (.int (Int32.ofNat (o + len))), .val (.ref d), .val (.int (Int32.ofNat (q + len))), .val (.int (Int32.ofNat len)), .val (.int (Int32.ofNat len)), z'] [])) := by
    intro r
    induction r with
    | zero =>
      intro i hi z hz Tl Bk Xl pl fl cl
      have hil : i = len := by omega
      rw [hil] at Xl fl cl
      exact ⟨Tl, Bk, z, Xl, pl, fl, cl⟩
    | succ r ih =>
      intro i hi z hz Tl Bk Xl pl fl cl
      have all := X0.warmed.alike.symm.trans Xl.warmed.alike
      have hAl := hA0.keep all (pl.other hne hA0.1)
      have hBk := hB0.like all pl.1 fl.1 fl.2.1 fl.2.2.1
      have hlt : q + i < Bk.slots.size := by rw [fl.2.2.1]; omega
      have c3 : Steps p.tables e below (s₁.setTop (entryFrame m #[.ref b, .int (Int32.ofNat o), .ref d, .int (Int32.ofNat q), .int (Int32.ofNat len)] 7)) (Tl.setTop (mkF m 12 #[.val (.ref b), .val (.int (Int32.ofNat (o + i))), .val (.ref d), .val (.int (Int32.ofNat (q + i))), .val (.int (Int32.ofNat len)), .val (.int (Int32.ofNat i)), z] [.int (Int32.ofNat (o + i)), .ref b])) := cl.trans (by
        refine XS.iload Xl.here hexec rfl (hb hbytes d3) rfl ?_
        refine XS.iload Xl.here hexec rfl (hb hbytes d5) rfl ?_
        refine XS.icmpNo Xl.here hexec rfl (hb hbytes d7) rfl (ii_ge_f (lt32 (by omega) (by omega))) ?_
        refine XS.aloadN Xl.here hexec rfl (hb hbytes d10) rfl rfl ?_
        refine XS.iloadN Xl.here hexec rfl (hb hbytes d11) rfl ?_
        exact Steps.refl _)
      have c4 : Steps p.tables e below (s₁.setTop (entryFrame m #[.ref b, .int (Int32.ofNat o), .ref d, .int (Int32.ofNat q), .int (Int32.ofNat len)] 7)) (Tl.setTop (mkF m 13 #[.val (.ref b), .val (.int (Int32.ofNat (o + i))), .val (.ref d), .val (.int (Int32.ofNat (q + i))), .val (.int (Int32.ofNat len)), .val (.int (Int32.ofNat i)), z] [.int (cv A (o + i))])) := c3.trans (by
        refine Xl.aget hexec hAl rfl (hA.get (i := o + i) (by omega)) rfl rfl (hb hbytes d12) ?_
        exact Steps.refl _)
      have c5 : Steps p.tables e below (s₁.setTop (entryFrame m #[.ref b, .int (Int32.ofNat o), .ref d, .int (Int32.ofNat q), .int (Int32.ofNat len)] 7)) (Tl.setTop (mkF m 15 #[.val (.ref b), .val (.int (Int32.ofNat (o + i))), .val (.ref d), .val (.int (Int32.ofNat (q + i))), .val (.int (Int32.ofNat len)), .val (.int (Int32.ofNat i)), .val (.int (cv A (o + i)))] [])) := c4.trans (by
        refine XS.istoreS Xl.here hexec rfl (hb hbytes d13) rfl rfl hz ?_
        exact Steps.refl _)
      have c6 : Steps p.tables e below (s₁.setTop (entryFrame m #[.ref b, .int (Int32.ofNat o), .ref d, .int (Int32.ofNat q), .int (Int32.ofNat len)] 7)) (Tl.setTop (mkF m 31 #[.val (.ref b), .val (.int (Int32.ofNat (o + i))), .val (.ref d), .val (.int (Int32.ofNat (q + i))), .val (.int (Int32.ofNat len)), .val (.int (Int32.ofNat i)), .val (.int (cv A (o + i)))] [.int (lo8 (cv A (o + i))), .int (Int32.ofNat (q + i)), .ref d])) := c5.trans (by
        refine XS.iload Xl.here hexec rfl (hb hbytes d15) rfl ?_
        refine sipushV Xl.here hexec rfl 255 (hb hbytes d17) (by decide) ?_
        refine XS.icmpYes Xl.here hexec rfl (pc0 := 20) rfl (hb hbytes d20) rfl (ii_le_t (hp i (by omega))) (by decide) rfl ?_
        refine XS.aloadN Xl.here hexec rfl (hb hbytes d26) rfl rfl ?_
        refine XS.iloadN Xl.here hexec rfl (hb hbytes d27) rfl ?_
        refine XS.iload Xl.here hexec rfl (hb hbytes d28) rfl ?_
        refine i2b Xl.here hexec rfl (hb hbytes d30) rfl ?_
        exact Steps.refl _)
      obtain ⟨T7, X7, p7, st7⟩ := Xl.aput hexec hBk rfl hlt rfl (fits_lo8 (cv A (o + i))) (g := (mkF m 31 #[.val (.ref b), .val (.int (Int32.ofNat (o + i))), .val (.ref d), .val (.int (Int32.ofNat (q + i))), .val (.int (Int32.ofNat len)), .val (.int (Int32.ofNat i)), .val (.int (cv A (o + i)))] [.int (lo8 (cv A (o + i))), .int (Int32.ofNat (q + i)), .ref d])) rfl (rest := []) rfl (hb hbytes d31)
      have c8 : Steps p.tables e below (s₁.setTop (entryFrame m #[.ref b, .int (Int32.ofNat o), .ref d, .int (Int32.ofNat q), .int (Int32.ofNat len)] 7)) (T7.setTop (mkF m 32 #[.val (.ref b), .val (.int (Int32.ofNat (o + i))), .val (.ref d), .val (.int (Int32.ofNat (q + i))), .val (.int (Int32.ofNat len)), .val (.int (Int32.ofNat i)), .val (.int (cv A (o + i)))] [])) := c6.trans (st7 _ (Steps.refl _))
      have c9 : Steps p.tables e below (s₁.setTop (entryFrame m #[.ref b, .int (Int32.ofNat o), .ref d, .int (Int32.ofNat q), .int (Int32.ofNat len)] 7)) (T7.setTop (mkF m 3 #[.val (.ref b), .val (.int (Int32.ofNat (o + i) + 1)), .val (.ref d), .val (.int (Int32.ofNat (q + i) + 1)), .val (.int (Int32.ofNat len)), .val (.int (Int32.ofNat i + 1)), .val (.int (cv A (o + i)))] [])) := c8.trans (by
        refine iincV X7.here hexec rfl 1 (hb hbytes d32) (by decide) rfl rfl ?_
        refine iincV X7.here hexec rfl 1 (hb hbytes d35) (by decide) rfl rfl ?_
        refine iincV X7.here hexec rfl 1 (hb hbytes d38) (by decide) rfl rfl ?_
        refine XS.goto X7.here hexec rfl (pc0 := 41) rfl (hb hbytes d41) (by decide) rfl ?_
        exact Steps.refl _)
      have c10 : Steps p.tables e below (s₁.setTop (entryFrame m #[.ref b, .int (Int32.ofNat o), .ref d, .int (Int32.ofNat q), .int (Int32.ofNat len)] 7)) (T7.setTop (mkF m 3 #[.val (.ref b), .val (.int (Int32.ofNat (o + (i + 1)))), .val (.ref d), .val (.int (Int32.ofNat (q + (i + 1)))), .val (.int (Int32.ofNat len)), .val (.int (Int32.ofNat (i + 1))), .val (.int (cv A (o + i)))] [])) := by
        have := c9
        rw [succ32, succ32, succ32] at this
        exact this
      exact ih (i + 1) (by omega) _ (Or.inr ⟨_, rfl, rfl⟩) T7 _ (by rw [copyLocs_step, ← List.append_assoc]; exact X7) (pl.trans p7) (fl.step (by omega) hlt (by simp)) c10
  obtain ⟨T9, B9, z9, X9, p9, f9, g9⟩ := loop len 0 (by omega) .unset (Or.inl rfl) s₁ B (by simpa [copyLocs] using X0) ⟨hB0.1, fun _ _ => rfl, rfl⟩ (Laid.zero _ _ _) c2
  have c11 : Steps p.tables e below (s₁.setTop (entryFrame m #[.ref b, .int (Int32.ofNat o), .ref d, .int (Int32.ofNat q), .int (Int32.ofNat len)] 7)) (T9.setTop (mkF m 46 #[.val (.ref b), .val (.int (Int32.ofNat (o + len))), .val (.ref d), .val (.int (Int32.ofNat (q + len))), .val (.int (Int32.ofNat len)), .val (.int (Int32.ofNat len)), z9] [.int (Int32.ofNat len)])) := g9.trans (by
    refine XS.iload X9.here hexec rfl (hb hbytes d3) rfl ?_
    refine XS.iload X9.here hexec rfl (hb hbytes d5) rfl ?_
    refine XS.icmpYes X9.here hexec rfl (pc0 := 7) rfl (hb hbytes d7) rfl (ii_ge_t (nlt32 (by omega) (Nat.le_refl _))) (by decide) rfl ?_
    refine XS.iload X9.here hexec rfl (hb hbytes d44) rfl ?_
    exact Steps.refl _)
  exact ⟨T9, some (.int (Int32.ofNat len)), _, _, _, X9, by simp, rfl, rfl, (fun h => by cases h), ⟨rfl, B9, p9.from hh0, f9⟩, fun fs hl => c11.trans (X9.ireturnOut hexec hret rfl (Or.inl rfl) (hb hbytes d46) hl)⟩
end Cmp5
namespace Cmp3
def yN : MethodName := ⟨"java/lang/StringUTF16", "compress", "([CII)[B"⟩
abbrev yB : ByteArray := jdk_52_method_16_code
theorem d0 : decode yB 0 = .ok (.iload_n 2, 1) := by decide +kernel
theorem d1 : decode yB 1 = .ok (.newarray .byte, 2) := by decide +kernel
theorem d3 : decode yB 3 = .ok (.astore_n 3, 1) := by decide +kernel
theorem d4 : decode yB 4 = .ok (.aload_n 0, 1) := by decide +kernel
theorem d5 : decode yB 5 = .ok (.iload_n 1, 1) := by decide +kernel
theorem d6 : decode yB 6 = .ok (.aload_n 3, 1) := by decide +kernel
theorem d7 : decode yB 7 = .ok (.iconst 0, 1) := by decide +kernel
theorem d8 : decode yB 8 = .ok (.iload_n 2, 1) := by decide +kernel
theorem d9 : decode yB 9 = .ok (.invokestatic 115, 3) := by decide +kernel
theorem d12 : decode yB 12 = .ok (.istore 4, 2) := by decide +kernel
theorem d14 : decode yB 14 = .ok (.iload 4, 2) := by decide +kernel
theorem d16 : decode yB 16 = .ok (.iload_n 2, 1) := by decide +kernel
theorem d17 : decode yB 17 = .ok (.if_icmp (.eq) 40, 3) := by decide +kernel
theorem d57 : decode yB 57 = .ok (.aload_n 3, 1) := by decide +kernel
theorem d58 : decode yB 58 = .ok (.areturn, 1) := by decide +kernel
def site : List Cond := [.arrayClass .byte, Cmp5.tab] ++ staticW U16 115 Cmp5.yN
def tab : Cond := tabOf yN yB 6 (some (.array .byte)) site
def P (b : Addr) (A : Cell) (o len : Nat) (args : Array Value) (s : State) : Prop := args = #[.ref b, .int (Int32.ofNat o), .int (Int32.ofNat len)] ∧ Ch b A s ∧ o + len ≤ A.slots.size ∧ len ≤ 536870912 ∧ ∀ i, i < len → ¬ 255 < cv A (o + i)
def E (b : Addr) (A : Cell) (o len : Nat) (r : Option Value) (s u : State) : Prop := NewArr .byte "[B" len (fun j => .int (lo8 (cv A (o + j)))) r s u ∧ u.heap.size = s.heap.size + 1
/-- no char of the range above 255: a new byte[] of their low bytes -/
theorem law (l : Launch) (b : Addr) (A : Cell) (o len : Nat) : Law l yN 3 3 1 18 yB 6 (some (.array .byte)) site (P b A o len) (E b A o len) [] 1 len := by
  refine Law.of_walk (plainFor_of_name (by decide +kernel)) (by decide +kernel) (by decide +kernel) (by decide) (fun _ _ h => by rw [h.1]; rfl) (fun _ U U' hal hh h => ⟨h.1, h.2.1.mv hal hh, h.2.2⟩) (fun r U U' V V' h1 hal h2 h => ⟨NewArr.mv r U U' V V' h1 hal h2 h.1, by rw [h1, h2]; exact h.2⟩) ?_
  intro p e s m args below meth c s₁ X0 hexec hbytes hml hret hlk hnm hown hh0 W hP
  obtain ⟨rfl, hA, l1, l2, hp⟩ := hP
  have a31 := hA.1.2.2.2
  have c1 : Steps p.tables e below (s₁.setTop (entryFrame m #[.ref b, .int (Int32.ofNat o), .int (Int32.ofNat len)] 6)) (s₁.setTop (mkF m 0 #[.val (.ref b), .val (.int (Int32.ofNat o)), .val (.int (Int32.ofNat len)), .unset, .unset, .unset] [])) := entry rfl
  have c2 : Steps p.tables e below (s₁.setTop (entryFrame m #[.ref b, .int (Int32.ofNat o), .int (Int32.ofNat len)] 6)) (s₁.setTop (mkF m 1 #[.val (.ref b), .val (.int (Int32.ofNat o)), .val (.int (Int32.ofNat len)), .unset, .unset, .unset] [.int (Int32.ofNat len)])) := c1.trans (by
    refine XS.iloadN X0.here hexec rfl (hb hbytes d0) rfl ?_
    exact Steps.refl _)
  obtain ⟨T3, B3, X3, ba3, bs3, bv3, bh3, bf3, st3⟩ := X0.anew hexec (atype := .byte) (wk W (.arrayClass .byte)) rfl (by show len * 1 ≤ _; omega) (by omega) (g := (mkF m 1 #[.val (.ref b), .val (.int (Int32.ofNat o)), .val (.int (Int32.ofNat len)), .unset, .unset, .unset] [.int (Int32.ofNat len)])) rfl (hb hbytes d1) (rest := []) rfl (Nat.le_refl _) (by show 0 + len ≤ len; omega)
  rw [hh0] at ba3 st3
  have kp3 : XT.Kept s T3 := (XT.Kept.of_eq hh0).push bh3
  have hA3 := hA.keep X3.warmed.alike (kp3 _ _ hA.1.1)
  have hne : b ≠ s.heap.size := hA.1.ne
  have c4 : Steps p.tables e below (s₁.setTop (entryFrame m #[.ref b, .int (Int32.ofNat o), .int (Int32.ofNat len)] 6)) (T3.setTop (mkF m 3 #[.val (.ref b), .val (.int (Int32.ofNat o)), .val (.int (Int32.ofNat len)), .unset, .unset, .unset] [.ref s.heap.size])) := c2.trans (st3 _ (Steps.refl _))
  have c5 : Steps p.tables e below (s₁.setTop (entryFrame m #[.ref b, .int (Int32.ofNat o), .int (Int32.ofNat len)] 6)) (T3.setTop (mkF m 9 #[.val (.ref b), .val (.int (Int32.ofNat o)), .val (.int (Int32.ofNat len)), .val (.ref s.heap.size), .unset, .unset] [.int (Int32.ofNat len), .int 0, .ref s.heap.size, .int (Int32.ofNat o), .ref b])) := c4.trans (by
    refine XS.astoreN X3.here hexec rfl (hb hbytes d3) rfl rfl rfl ?_
    refine XS.aloadN X3.here hexec rfl (hb hbytes d4) rfl rfl ?_
    refine XS.iloadN X3.here hexec rfl (hb hbytes d5) rfl ?_
    refine XS.aloadN X3.here hexec rfl (hb hbytes d6) rfl rfl ?_
    refine iconstV X3.here hexec rfl 0 (hb hbytes d7) (by decide) ?_
    refine XS.iloadN X3.here hexec rfl (hb hbytes d8) rfl ?_
    exact Steps.refl _)
  obtain ⟨v6, T6, X6, E6, g6⟩ := X3.callS hexec (Cmp5.law l b A s.heap.size B3 o 0 len) hown (wks W (staticW U16 115 Cmp5.yN)) (wk W Cmp5.tab) (W := 0) (Nat.le_of_ble_eq_true rfl) (Nat.le_of_ble_eq_true rfl) (Nat.le_refl _) (by show 0 + len + 0 ≤ len; omega) (g := (mkF m 9 #[.val (.ref b), .val (.int (Int32.ofNat o)), .val (.int (Int32.ofNat len)), .val (.ref s.heap.size), .unset, .unset] [.int (Int32.ofNat len), .int (Int32.ofNat 0), .ref s.heap.size, .int (Int32.ofNat o), .ref b])) rfl (by rw [hml]; rfl) c5 (argsL := [.ref b, .int (Int32.ofNat o), .ref s.heap.size, .int (Int32.ofNat 0), .int (Int32.ofNat len)]) (rest := []) rfl rfl (by show 2 * 0 + 0 ≤ _; decide) (hb hbytes d9) (⟨rfl, hA3, ba3, hne, l1, by rw [bs3]; simp, hp⟩)
  obtain ⟨rfl, B6, p6, f6⟩ := E6
  have c7 : Steps p.tables e below (s₁.setTop (entryFrame m #[.ref b, .int (Int32.ofNat o), .int (Int32.ofNat len)] 6)) (T6.setTop (mkF m 12 #[.val (.ref b), .val (.int (Int32.ofNat o)), .val (.int (Int32.ofNat len)), .val (.ref s.heap.size), .unset, .unset] [.int (Int32.ofNat len)])) := g6
  have c8 : Steps p.tables e below (s₁.setTop (entryFrame m #[.ref b, .int (Int32.ofNat o), .int (Int32.ofNat len)] 6)) (T6.setTop (mkF m 58 #[.val (.ref b), .val (.int (Int32.ofNat o)), .val (.int (Int32.ofNat len)), .val (.ref s.heap.size), .val (.int (Int32.ofNat len)), .unset] [.ref s.heap.size])) := c7.trans (by
    refine XS.istore X6.here hexec rfl (hb hbytes d12) rfl rfl ?_
    refine XS.iload X6.here hexec rfl (hb hbytes d14) rfl ?_
    refine XS.iloadN X6.here hexec rfl (hb hbytes d16) rfl ?_
    refine XS.icmpYes X6.here hexec rfl (pc0 := 17) rfl (hb hbytes d17) rfl (ii_eq_t rfl) (by decide) rfl ?_
    refine XS.aloadN X6.here hexec rfl (hb hbytes d57) rfl rfl ?_
    exact Steps.refl _)
  have X8 := X6.wide (L' := []) (cells' := 1) (slots' := len) (fun x hx hlt => by
    simp only [List.nil_append, copyLocs, List.mem_map, List.mem_range] at hx
    obtain ⟨i, -, rfl⟩ := hx
    exact absurd hlt (Nat.lt_irrefl _)) (Nat.le_refl _) (by omega)
  exact ⟨T6, some (.ref s.heap.size), _, _, _, X8, rfl, rfl, rfl, (fun h => by cases h), ⟨⟨rfl, B6, ba3.like (X3.warmed.alike.symm.trans X6.warmed.alike) p6.1 f6.1 f6.2.1 f6.2.2.1, f6.2.1.trans bv3, by rw [X6.warmed.alike.findClass, f6.1]; exact bf3, by rw [f6.2.2.1, bs3]; simp, fun j hj => by rw [f6.2.2.2 j, if_pos (by omega)]; rfl, kp3.put p6 (Nat.le_refl _)⟩, by rw [p6.2.2, bh3, hh0]; simp⟩, fun fs hl => c8.trans (X8.areturnOut hexec rfl hret rfl (hb hbytes d58) hl)⟩
end Cmp3
namespace CodL
def yN : MethodName := ⟨"java/lang/StringUTF16", "coderFromArrayLen", "([BI)B"⟩
abbrev yB : ByteArray := jdk_52_method_15_code
theorem d0 : decode yB 0 = .ok (.iload_n 1, 1) := by decide +kernel
theorem d1 : decode yB 1 = .ok (.aload_n 0, 1) := by decide +kernel
theorem d2 : decode yB 2 = .ok (.arraylength, 1) := by decide +kernel
theorem d3 : decode yB 3 = .ok (.isub, 1) := by decide +kernel
theorem d4 : decode yB 4 = .ok (.bipush 31, 2) := by decide +kernel
theorem d6 : decode yB 6 = .ok (.iushr, 1) := by decide +kernel
theorem d7 : decode yB 7 = .ok (.i2b, 1) := by decide +kernel
theorem d8 : decode yB 8 = .ok (.ireturn, 1) := by decide +kernel
def site : List Cond := []
def tab : Cond := tabOf yN yB 2 (some .byte) site
def P (d : Addr) (B : Cell) (args : Array Value) (s : State) : Prop := args = #[.ref d, .int (Int32.ofNat B.slots.size)] ∧ Arr .byte d B s
def E (r : Option Value) (s u : State) : Prop := XT.PureE (some (.int 0)) r s u
/-- an array as long as the number of chars: LATIN1 -/
theorem law (l : Launch) (d : Addr) (B : Cell) : Law l yN 2 2 0 0 yB 2 (some .byte) site (P d B) E [] 0 0 := by
  refine Law.of_walk (plainFor_of_name (by decide +kernel)) (by decide +kernel) (by decide +kernel) (by decide) (fun _ _ h => by rw [h.1]; rfl) (fun _ U U' hal hh h => ⟨h.1, h.2.mv hal hh⟩) (fun r U U' V V' h1 hal h2 h => XT.PureE.mv r U U' V V' h1 hal h2 h) ?_
  intro p e s m args below meth c s₁ X0 hexec hbytes hml hret hlk hnm hown hh0 W hP
  obtain ⟨rfl, hB⟩ := hP
  have hB0 := hB.mv X0.warmed.alike hh0
  have c1 : Steps p.tables e below (s₁.setTop (entryFrame m #[.ref d, .int (Int32.ofNat B.slots.size)] 2)) (s₁.setTop (mkF m 0 #[.val (.ref d), .val (.int (Int32.ofNat B.slots.size))] [])) := entry rfl
  have c2 : Steps p.tables e below (s₁.setTop (entryFrame m #[.ref d, .int (Int32.ofNat B.slots.size)] 2)) (s₁.setTop (mkF m 2 #[.val (.ref d), .val (.int (Int32.ofNat B.slots.size))] [.ref d, .int (Int32.ofNat B.slots.size)])) := c1.trans (by
    refine XS.iloadN X0.here hexec rfl (hb hbytes d0) rfl ?_
    refine XS.aloadN X0.here hexec rfl (hb hbytes d1) rfl rfl ?_
    exact Steps.refl _)
  have c3 : Steps p.tables e below (s₁.setTop (entryFrame m #[.ref d, .int (Int32.ofNat B.slots.size)] 2)) (s₁.setTop (mkF m 8 #[.val (.ref d), .val (.int (Int32.ofNat B.slots.size))] [.int (lo8 (ushr (Int32.ofNat B.slots.size - Int32.ofNat B.slots.size) 31))])) := c2.trans (by
    refine X0.alen hexec hB0 rfl rfl (hb hbytes d2) ?_
    refine XS.isub X0.here hexec rfl (hb hbytes d3) rfl ?_
    refine bipushV X0.here hexec rfl 31 (hb hbytes d4) (by decide) ?_
    refine iushr X0.here hexec rfl (hb hbytes d6) rfl ?_
    refine i2b X0.here hexec rfl (hb hbytes d7) rfl ?_
    exact Steps.refl _)
  have e0 : lo8 (ushr (Int32.ofNat B.slots.size - Int32.ofNat B.slots.size) 31) = 0 := by rw [Int32.sub_self]; decide
  rw [e0] at c3
  exact ⟨s₁, some (.int 0), _, _, _, X0, rfl, rfl, rfl, (fun h => by cases h), ⟨rfl, hh0⟩, fun fs hl => c3.trans (X0.ireturnOut hexec hret rfl (Or.inr (Or.inr (Or.inl rfl))) (hb hbytes d8) hl)⟩
end CodL
/-- the String at a is Latin-1 over a new byte[] (the heap's one new cell): the low bytes of the len chars of A from o on; every cell but a is kept -/
def Got (a : Addr) (D : Cell) (fV fC : Field) (A : Cell) (o len : Nat) (r : Option Value) (s u : State) : Prop := r = none ∧ ∃ D' V : Cell, Blank "java/lang/String" a D' u ∧ Same D D' [fV.slot, fC.slot] ∧ D'.slots[fV.slot]? = some (.ref s.heap.size) ∧ D'.slots[fC.slot]? = some (.int 0) ∧ Arr .byte s.heap.size V u ∧ V.vm = .none ∧ u.vm.findClass "[B" = some V.cls ∧ V.slots.size = len ∧ (∀ j, j < len → V.slots[j]? = some (.int (lo8 (cv A (o + j))))) ∧ (∀ (y : Addr) (c : Cell), y ≠ a → s.heap[y]? = some c → u.heap[y]? = some c) ∧ u.heap.size = s.heap.size + 1
theorem Got.mv {a : Addr} {D A : Cell} {fV fC : Field} {o len : Nat} : ∀ r (U U' V V' : State), U'.heap = U.heap → V.vm.Alike V'.vm → V'.heap = V.heap → Got a D fV fC A o len r U V → Got a D fV fC A o len r U' V' :=
  fun r U U' V V' h1 hal h2 ⟨e0, D', X, a1, a2, a3, a4, a5, a6, a7, a8, a9, a10, a11⟩ => ⟨e0, D', X, a1.mv hal h2, a2, by rw [h1]; exact a3, a4, by rw [h1]; exact a5.mv hal h2, a6, by rw [hal.findClass]; exact a7, a8, a9, by rw [h1, h2]; exact a10, by rw [h1, h2]; exact a11⟩
namespace New4
def yN : MethodName := ⟨"java/lang/String", "<init>", "([CIILjava/lang/Void;)V"⟩
abbrev yB : ByteArray := jdk_42_method_149_code
theorem d0 : decode yB 0 = .ok (.aload_n 0, 1) := by decide +kernel
theorem d1 : decode yB 1 = .ok (.invokespecial 1, 3) := by decide +kernel
theorem d4 : decode yB 4 = .ok (.iload_n 3, 1) := by decide +kernel
theorem d5 : decode yB 5 = .ok (.ifCond (.ne) 22, 3) := by decide +kernel
theorem d27 : decode yB 27 = .ok (.getstatic 38, 3) := by decide +kernel
theorem d30 : decode yB 30 = .ok (.ifCond (.eq) 28, 3) := by decide +kernel
theorem d33 : decode yB 33 = .ok (.aload_n 1, 1) := by decide +kernel
theorem d34 : decode yB 34 = .ok (.iload_n 2, 1) := by decide +kernel
theorem d35 : decode yB 35 = .ok (.iload_n 3, 1) := by decide +kernel
theorem d36 : decode yB 36 = .ok (.invokestatic 177, 3) := by decide +kernel
theorem d39 : decode yB 39 = .ok (.astore 5, 2) := by decide +kernel
theorem d41 : decode yB 41 = .ok (.aload_n 0, 1) := by decide +kernel
theorem d42 : decode yB 42 = .ok (.aload 5, 2) := by decide +kernel
theorem d44 : decode yB 44 = .ok (.iload_n 3, 1) := by decide +kernel
theorem d45 : decode yB 45 = .ok (.invokestatic 47, 3) := by decide +kernel
theorem d48 : decode yB 48 = .ok (.putfield 15, 3) := by decide +kernel
theorem d51 : decode yB 51 = .ok (.aload_n 0, 1) := by decide +kernel
theorem d52 : decode yB 52 = .ok (.aload 5, 2) := by decide +kernel
theorem d54 : decode yB 54 = .ok (.putfield 9, 3) := by decide +kernel
theorem d57 : decode yB 57 = .ok (.return_, 1) := by decide +kernel
def site : List Cond := [.fieldLink "java/lang/String" 38 "java/lang/String" "COMPACT_STRINGS" "Z", Cmp3.tab, CodL.tab, .laysFinal "java/lang/String" "java/lang/String" "value" "[B", .fieldLink "java/lang/String" 9 "java/lang/String" "value" "[B", .laysFinal "java/lang/String" "java/lang/String" "coder" "B", .fieldLink "java/lang/String" 15 "java/lang/String" "coder" "B"] ++ objW "java/lang/String" 1 ++ staticW "java/lang/String" 177 Cmp3.yN ++ staticW "java/lang/String" 47 CodL.yN
def tab : Cond := tabOf yN yB 6 none site
def P (a : Addr) (D : Cell) (fV fC : Field) (b : Addr) (A : Cell) (z : Int32) (o len : Nat) (args : Array Value) (s : State) : Prop := args = #[.ref a, .ref b, .int (Int32.ofNat o), .int (Int32.ofNat len), .null] ∧ Blank "java/lang/String" a D s ∧ Found "java/lang/String" "value" "[B" fV s ∧ Found "java/lang/String" "coder" "B" fC s ∧ Ch b A s ∧ StaticIs s "java/lang/String" "COMPACT_STRINGS" "Z" (.int z) ∧ ¬ z = 0 ∧ 0 < len ∧ o + len ≤ A.slots.size ∧ len ≤ 536870912 ∧ ∀ i, i < len → ¬ 255 < cv A (o + i)
def E (a : Addr) (D : Cell) (fV fC : Field) (A : Cell) (o len : Nat) (r : Option Value) (s u : State) : Prop := Got a D fV fC A o len r s u
/-- len > 0, no char of the range above 255: a Latin-1 String of their low bytes -/
theorem law (l : Launch) (a : Addr) (D : Cell) (fV fC : Field) (b : Addr) (A : Cell) (z : Int32) (o len : Nat) : Law l yN 5 4 2 35 yB 6 none site (P a D fV fC b A z o len) (E a D fV fC A o len) [⟨a, fC.slot⟩, ⟨a, fV.slot⟩] 1 len := by
  refine Law.of_walk (plainFor_of_name (by decide +kernel)) (by decide +kernel) (by decide +kernel) (by decide) (fun _ _ h => by rw [h.1]; rfl) (fun _ U U' hal hh h => ⟨h.1, h.2.1.mv hal hh, h.2.2.1.al hal, h.2.2.2.1.al hal, h.2.2.2.2.1.mv hal hh, h.2.2.2.2.2.1.there hal hh, h.2.2.2.2.2.2⟩) (fun r U U' V V' h1 hal h2 h => Got.mv r U U' V V' h1 hal h2 h) ?_
  intro p e s m args below meth c s₁ X0 hexec hbytes hml hret hlk hnm hown hh0 W hP
  obtain ⟨rfl, hB, f1, f2, hA, s1, hz, l0, l1, l2, hp⟩ := hP
  have a31 := hA.1.2.2.2
  have c1 : Steps p.tables e below (s₁.setTop (entryFrame m #[.ref a, .ref b, .int (Int32.ofNat o), .int (Int32.ofNat len), .null] 6)) (s₁.setTop (mkF m 0 #[.val (.ref a), .val (.ref b), .val (.int (Int32.ofNat o)), .val (.int (Int32.ofNat len)), .val .null, .unset] [])) := entry rfl
  have c2 : Steps p.tables e below (s₁.setTop (entryFrame m #[.ref a, .ref b, .int (Int32.ofNat o), .int (Int32.ofNat len), .null] 6)) (s₁.setTop (mkF m 1 #[.val (.ref a), .val (.ref b), .val (.int (Int32.ofNat o)), .val (.int (Int32.ofNat len)), .val .null, .unset] [.ref a])) := c1.trans (by
    refine XS.aloadN X0.here hexec rfl (hb hbytes d0) rfl rfl ?_
    exact Steps.refl _)
  obtain ⟨T3, X3, q3, st3⟩ := X0.oinit hexec hown (wks W (objW "java/lang/String" 1)) (g := (mkF m 1 #[.val (.ref a), .val (.ref b), .val (.int (Int32.ofNat o)), .val (.int (Int32.ofNat len)), .val .null, .unset] [.ref a])) rfl (by rw [hml]; rfl) (rest := []) rfl (hb hbytes d1) (W := 0) (by show 2 * 0 + 0 ≤ _; decide) (Nat.le_of_ble_eq_true rfl) (Nat.le_of_ble_eq_true rfl)
  have hh3 := q3.trans hh0
  have c4 : Steps p.tables e below (s₁.setTop (entryFrame m #[.ref a, .ref b, .int (Int32.ofNat o), .int (Int32.ofNat len), .null] 6)) (T3.setTop (mkF m 27 #[.val (.ref a), .val (.ref b), .val (.int (Int32.ofNat o)), .val (.int (Int32.ofNat len)), .val .null, .unset] [])) := (c2.trans (st3 _ (Steps.refl _))).trans (by
    refine XS.iloadN X3.here hexec rfl (hb hbytes d4) rfl ?_
    refine XS.ifYes X3.here hexec rfl (pc0 := 5) rfl (hb hbytes d5) rfl (i0_ne_t (nz32 (by omega) l0)) (by decide) rfl ?_
    exact Steps.refl _)
  obtain ⟨T5, X5, q5, st5⟩ := X3.sget hexec hown (wk W (.fieldLink "java/lang/String" 38 "java/lang/String" "COMPACT_STRINGS" "Z")) s1 (fun _ _ h => by rw [hh3]; exact h) (g := (mkF m 27 #[.val (.ref a), .val (.ref b), .val (.int (Int32.ofNat o)), .val (.int (Int32.ofNat len)), .val .null, .unset] [])) rfl (hb hbytes d27)
  have hh5 := q5.trans hh3
  have c6 : Steps p.tables e below (s₁.setTop (entryFrame m #[.ref a, .ref b, .int (Int32.ofNat o), .int (Int32.ofNat len), .null] 6)) (T5.setTop (mkF m 30 #[.val (.ref a), .val (.ref b), .val (.int (Int32.ofNat o)), .val (.int (Int32.ofNat len)), .val .null, .unset] [.int z])) := c4.trans (st5 _ (Steps.refl _))
  have c7 : Steps p.tables e below (s₁.setTop (entryFrame m #[.ref a, .ref b, .int (Int32.ofNat o), .int (Int32.ofNat len), .null] 6)) (T5.setTop (mkF m 36 #[.val (.ref a), .val (.ref b), .val (.int (Int32.ofNat o)), .val (.int (Int32.ofNat len)), .val .null, .unset] [.int (Int32.ofNat len), .int (Int32.ofNat o), .ref b])) := c6.trans (by
    refine XS.ifNo X5.here hexec rfl (hb hbytes d30) rfl (i0_eq_f hz) ?_
    refine XS.aloadN X5.here hexec rfl (hb hbytes d33) rfl rfl ?_
    refine XS.iloadN X5.here hexec rfl (hb hbytes d34) rfl ?_
    refine XS.iloadN X5.here hexec rfl (hb hbytes d35) rfl ?_
    exact Steps.refl _)
  obtain ⟨v8, T8, X8, E8, g8⟩ := X5.callS hexec (Cmp3.law l b A o len) hown (wks W (staticW "java/lang/String" 177 Cmp3.yN)) (wk W Cmp3.tab) (W := 0) (Nat.le_of_ble_eq_true rfl) (Nat.le_of_ble_eq_true rfl) (Nat.le_refl _) (by show 0 + len ≤ len; omega) (g := (mkF m 36 #[.val (.ref a), .val (.ref b), .val (.int (Int32.ofNat o)), .val (.int (Int32.ofNat len)), .val .null, .unset] [.int (Int32.ofNat len), .int (Int32.ofNat o), .ref b])) rfl (by rw [hml]; rfl) c7 (argsL := [.ref b, .int (Int32.ofNat o), .int (Int32.ofNat len)]) (rest := []) rfl rfl (by show 2 * 0 + 0 ≤ _; decide) (hb hbytes d36) (⟨rfl, hA.mv X5.warmed.alike hh5, l1, l2, hp⟩)
  obtain ⟨e8, z8⟩ := E8
  obtain ⟨rfl, N, n1, n2, n3, n4, n5, n6⟩ := NewArr.mv _ T5 s _ _ hh5.symm (Vm.Alike.refl _) rfl e8
  rw [hh5] at z8
  have hB1 := hB.keep X8.warmed.alike (n6 _ _ hB.1)
  have hne : s.heap.size ≠ a := (Nat.ne_of_lt (Array.getElem?_eq_some_iff.mp hB.1).1).symm
  have c9 : Steps p.tables e below (s₁.setTop (entryFrame m #[.ref a, .ref b, .int (Int32.ofNat o), .int (Int32.ofNat len), .null] 6)) (T8.setTop (mkF m 39 #[.val (.ref a), .val (.ref b), .val (.int (Int32.ofNat o)), .val (.int (Int32.ofNat len)), .val .null, .unset] [.ref s.heap.size])) := g8
  have c10 : Steps p.tables e below (s₁.setTop (entryFrame m #[.ref a, .ref b, .int (Int32.ofNat o), .int (Int32.ofNat len), .null] 6)) (T8.setTop (mkF m 45 #[.val (.ref a), .val (.ref b), .val (.int (Int32.ofNat o)), .val (.int (Int32.ofNat len)), .val .null, .val (.ref s.heap.size)] [.int (Int32.ofNat N.slots.size), .ref s.heap.size, .ref a])) := by
    have hc : Steps p.tables e below (s₁.setTop (entryFrame m #[.ref a, .ref b, .int (Int32.ofNat o), .int (Int32.ofNat len), .null] 6)) (T8.setTop (mkF m 45 #[.val (.ref a), .val (.ref b), .val (.int (Int32.ofNat o)), .val (.int (Int32.ofNat len)), .val .null, .val (.ref s.heap.size)] [.int (Int32.ofNat len), .ref s.heap.size, .ref a])) := c9.trans (by
      refine XS.astore X8.here hexec rfl (hb hbytes d39) rfl rfl rfl ?_
      refine XS.aloadN X8.here hexec rfl (hb hbytes d41) rfl rfl ?_
      refine XS.aload X8.here hexec rfl (hb hbytes d42) rfl rfl ?_
      refine XS.iloadN X8.here hexec rfl (hb hbytes d44) rfl ?_
      exact Steps.refl _)
    rw [n4]; exact hc
  obtain ⟨v11, T11, X11, E11, g11⟩ := X8.callS hexec (CodL.law l s.heap.size N) hown (wks W (staticW "java/lang/String" 47 CodL.yN)) (wk W CodL.tab) (W := 1) (Nat.le_of_ble_eq_true rfl) (Nat.le_of_ble_eq_true rfl) (Nat.le_refl _) (by show 0 + len + 0 ≤ len; omega) (g := (mkF m 45 #[.val (.ref a), .val (.ref b), .val (.int (Int32.ofNat o)), .val (.int (Int32.ofNat len)), .val .null, .val (.ref s.heap.size)] [.int (Int32.ofNat N.slots.size), .ref s.heap.size, .ref a])) rfl (by rw [hml]; rfl) c10 (argsL := [.ref s.heap.size, .int (Int32.ofNat N.slots.size)]) (rest := [.ref a]) rfl rfl (by show 2 * 0 + (1 + 0) ≤ _; decide) (hb hbytes d45) (⟨rfl, n1⟩)
  obtain ⟨rfl, q11⟩ := E11
  have hB11 := hB1.mv (X8.warmed.alike.symm.trans X11.warmed.alike) q11
  have c12 : Steps p.tables e below (s₁.setTop (entryFrame m #[.ref a, .ref b, .int (Int32.ofNat o), .int (Int32.ofNat len), .null] 6)) (T11.setTop (mkF m 48 #[.val (.ref a), .val (.ref b), .val (.int (Int32.ofNat o)), .val (.int (Int32.ofNat len)), .val .null, .val (.ref s.heap.size)] [.int 0, .ref a])) := g11
  obtain ⟨T13, X13, p13, bl13, sl13, st13⟩ := X11.finit hexec hown (wk W (.fieldLink "java/lang/String" 15 "java/lang/String" "coder" "B")) (Or.inr ⟨_, (wk W (.laysFinal "java/lang/String" "java/lang/String" "coder" "B"))⟩) (Or.inl ⟨rfl, hnm⟩) f2 (Or.inl rfl) hB11 (t := .byte) (by decide +kernel) rfl (g := (mkF m 48 #[.val (.ref a), .val (.ref b), .val (.int (Int32.ofNat o)), .val (.int (Int32.ofNat len)), .val .null, .val (.ref s.heap.size)] [.int 0, .ref a])) rfl (rest := []) rfl (hb hbytes d48)
  have c14 : Steps p.tables e below (s₁.setTop (entryFrame m #[.ref a, .ref b, .int (Int32.ofNat o), .int (Int32.ofNat len), .null] 6)) (T13.setTop (mkF m 54 #[.val (.ref a), .val (.ref b), .val (.int (Int32.ofNat o)), .val (.int (Int32.ofNat len)), .val .null, .val (.ref s.heap.size)] [.ref s.heap.size, .ref a])) := (c12.trans (st13 _ (Steps.refl _))).trans (by
    refine XS.aloadN X13.here hexec rfl (hb hbytes d51) rfl rfl ?_
    refine XS.aload X13.here hexec rfl (hb hbytes d52) rfl rfl ?_
    exact Steps.refl _)
  obtain ⟨T15, X15, p15, bl15, sl15, st15⟩ := X13.finit hexec hown (wk W (.fieldLink "java/lang/String" 9 "java/lang/String" "value" "[B")) (Or.inr ⟨_, (wk W (.laysFinal "java/lang/String" "java/lang/String" "value" "[B"))⟩) (Or.inl ⟨rfl, hnm⟩) f1 (Or.inl rfl) bl13 (t := (.array .byte)) (by decide +kernel) rfl (g := (mkF m 54 #[.val (.ref a), .val (.ref b), .val (.int (Int32.ofNat o)), .val (.int (Int32.ofNat len)), .val .null, .val (.ref s.heap.size)] [.ref s.heap.size, .ref a])) rfl (rest := []) rfl (hb hbytes d54)
  have c16 : Steps p.tables e below (s₁.setTop (entryFrame m #[.ref a, .ref b, .int (Int32.ofNat o), .int (Int32.ofNat len), .null] 6)) (T15.setTop (mkF m 57 #[.val (.ref a), .val (.ref b), .val (.int (Int32.ofNat o)), .val (.int (Int32.ofNat len)), .val .null, .val (.ref s.heap.size)] [])) := c14.trans (st15 _ (Steps.refl _))
  have ap := apart (Or.inr ⟨_, (wk W (.laysFinal "java/lang/String" "java/lang/String" "value" "[B"))⟩) (Or.inr ⟨_, (wk W (.laysFinal "java/lang/String" "java/lang/String" "coder" "B"))⟩) f1 f2 (t₁ := .array .byte) (t₂ := .byte) (by decide +kernel) (by decide +kernel) (by decide)
  have al := X8.warmed.alike.symm.trans X15.warmed.alike
  have n7 : T11.heap[s.heap.size]? = some N := by rw [q11]; exact n1.1
  exact ⟨T15, none, _, _, _, X15, by simp, rfl, by omega, (fun _ => rfl), ⟨rfl, _, N, bl15, ((Same.refl D _).set _ (by simp)).set _ (by simp), sl15, (Cell.slots_setSlot_ne _ ap).trans sl13, n1.keep al (p15.other hne (p13.other hne n7)), n2, by rw [al.findClass]; exact n3, n4, n5, fun y c h1 h2 => p15.other h1 (p13.other h1 (by rw [q11]; exact n6 y c h2)), by rw [p15.2.2, p13.2.2, q11]; exact z8⟩, fun fs hl => c16.trans (X15.returnOut hexec hret (hb hbytes d57) hl)⟩
end New4
namespace New1
def yN : MethodName := ⟨"java/lang/String", "<init>", "([C)V"⟩
abbrev yB : ByteArray := jdk_42_method_3_code
theorem d0 : decode yB 0 = .ok (.aload_n 0, 1) := by decide +kernel
theorem d1 : decode yB 1 = .ok (.aload_n 1, 1) := by decide +kernel
theorem d2 : decode yB 2 = .ok (.iconst 0, 1) := by decide +kernel
theorem d3 : decode yB 3 = .ok (.aload_n 1, 1) := by decide +kernel
theorem d4 : decode yB 4 = .ok (.arraylength, 1) := by decide +kernel
theorem d5 : decode yB 5 = .ok (.aconst_null, 1) := by decide +kernel
theorem d6 : decode yB 6 = .ok (.invokespecial 27, 3) := by decide +kernel
theorem d9 : decode yB 9 = .ok (.return_, 1) := by decide +kernel
def site : List Cond := [New4.tab] ++ initW "java/lang/String" 27 New4.yN
def tab : Cond := tabOf yN yB 2 none site
def P (a : Addr) (D : Cell) (fV fC : Field) (b : Addr) (A : Cell) (z : Int32) (args : Array Value) (s : State) : Prop := args = #[.ref a, .ref b] ∧ Blank "java/lang/String" a D s ∧ Found "java/lang/String" "value" "[B" fV s ∧ Found "java/lang/String" "coder" "B" fC s ∧ Ch b A s ∧ StaticIs s "java/lang/String" "COMPACT_STRINGS" "Z" (.int z) ∧ ¬ z = 0 ∧ 0 < A.slots.size ∧ A.slots.size ≤ 536870912 ∧ ∀ i, i < A.slots.size → ¬ 255 < cv A i
def E (a : Addr) (D : Cell) (fV fC : Field) (A : Cell) (r : Option Value) (s u : State) : Prop := Got a D fV fC A 0 A.slots.size r s u
/-- new String(chars), not empty, no char above 255: a Latin-1 String of their low bytes -/
theorem law (l : Launch) (a : Addr) (D : Cell) (fV fC : Field) (b : Addr) (A : Cell) (z : Int32) : Law l yN 2 1 3 52 yB 2 none site (P a D fV fC b A z) (E a D fV fC A) [⟨a, fC.slot⟩, ⟨a, fV.slot⟩] 1 A.slots.size := by
  refine Law.of_walk (plainFor_of_name (by decide +kernel)) (by decide +kernel) (by decide +kernel) (by decide) (fun _ _ h => by rw [h.1]; rfl) (fun _ U U' hal hh h => ⟨h.1, h.2.1.mv hal hh, h.2.2.1.al hal, h.2.2.2.1.al hal, h.2.2.2.2.1.mv hal hh, h.2.2.2.2.2.1.there hal hh, h.2.2.2.2.2.2⟩) (fun r U U' V V' h1 hal h2 h => Got.mv r U U' V V' h1 hal h2 h) ?_
  intro p e s m args below meth c s₁ X0 hexec hbytes hml hret hlk hnm hown hh0 W hP
  obtain ⟨rfl, hB, f1, f2, hA, s1, hz, l0, l2, hp⟩ := hP
  have c1 : Steps p.tables e below (s₁.setTop (entryFrame m #[.ref a, .ref b] 2)) (s₁.setTop (mkF m 0 #[.val (.ref a), .val (.ref b)] [])) := entry rfl
  have c2 : Steps p.tables e below (s₁.setTop (entryFrame m #[.ref a, .ref b] 2)) (s₁.setTop (mkF m 6 #[.val (.ref a), .val (.ref b)] [.null, .int (Int32.ofNat A.slots.size), .int 0, .ref b, .ref a])) := c1.trans (by
    refine XS.aloadN X0.here hexec rfl (hb hbytes d0) rfl rfl ?_
    refine XS.aloadN X0.here hexec rfl (hb hbytes d1) rfl rfl ?_
    refine iconstV X0.here hexec rfl 0 (hb hbytes d2) (by decide) ?_
    refine XS.aloadN X0.here hexec rfl (hb hbytes d3) rfl rfl ?_
    refine X0.alen hexec (hA.1.mv X0.warmed.alike hh0) rfl rfl (hb hbytes d4) ?_
    refine XS.aconstNull X0.here hexec rfl (hb hbytes d5) ?_
    exact Steps.refl _)
  obtain ⟨v3, T3, X3, E3, g3⟩ := X0.callN hexec (New4.law l a D fV fC b A z 0 A.slots.size) rfl hown (wks W (initW "java/lang/String" 27 New4.yN)) (W New4.tab (by simp only [site, List.mem_cons, List.mem_append, true_or, or_true])) (W := 0) (Nat.le_of_ble_eq_true rfl) (Nat.le_of_ble_eq_true rfl) (Nat.le_refl _) (by show 0 + A.slots.size ≤ A.slots.size; omega) (g := (mkF m 6 #[.val (.ref a), .val (.ref b)] [.null, .int (Int32.ofNat A.slots.size), .int (Int32.ofNat 0), .ref b, .ref a])) rfl (by rw [hml]; rfl) c2 (argsL := [.ref b, .int (Int32.ofNat 0), .int (Int32.ofNat A.slots.size), .null]) (rest := []) rfl rfl (by show 2 * 0 + 0 ≤ _; decide) (hb hbytes d6) (⟨rfl, hB.mv X0.warmed.alike hh0, f1.al X0.warmed.alike, f2.al X0.warmed.alike, hA.mv X0.warmed.alike hh0, s1.there X0.warmed.alike hh0, hz, l0, by omega, l2, fun i hi => by rw [Nat.zero_add]; exact hp i hi⟩)
  have e0 := Got.mv _ s₁ s _ _ hh0.symm (Vm.Alike.refl _) rfl E3
  obtain rfl := e0.1
  have c4 : Steps p.tables e below (s₁.setTop (entryFrame m #[.ref a, .ref b] 2)) (T3.setTop (mkF m 9 #[.val (.ref a), .val (.ref b)] [])) := g3
  exact ⟨T3, none, _, _, _, X3, by simp, rfl, by omega, (fun _ => rfl), e0, fun fs hl => c4.trans (X3.returnOut hexec hret (hb hbytes d9) hl)⟩
theorem pays {l : Launch} {R : Room} {p : Program} {e : Env} {below : List Frame} {s : State} {sargs : Array Value} {len W : Nat} (a : Addr) (D : Cell) (fV fC : Field) (b : Addr) (A : Cell) (z : Int32) (htab : tab.before sargs s = true) (hfr : 4 ≤ R.frames) (hlo : W + 65 ≤ R.locals) :
    Back l R p e below s sargs yN len W (fun A₁ a₁ => A₁.cells + 1 ≤ R.cells ∧ A₁.slots + A.slots.size ≤ R.slots ∧ P a D fV fC b A z a₁ A₁.U) (fun A₁ _ v₁ B₁ => E a D fV fC A v₁ A₁.U B₁.U ∧ B₁.locs = A₁.locs ++ [⟨a, fC.slot⟩, ⟨a, fV.slot⟩] ∧ B₁.cells = A₁.cells + 1 ∧ B₁.slots = A₁.slots + A.slots.size) :=
  (law l a D fV fC b A z).pays htab hfr (by omega)
end New1
/-- the byte, read back as charAt reads it, is the char -/
theorem lo8_mask {x : Int32} (h0 : ¬ x < 0) (h1 : ¬ 255 < x) : lo8 x &&& 255 = x := by
  have t : ∀ k : Fin 256, lo8 (Int32.ofNat k.val) &&& 255 = Int32.ofNat k.val := by decide +kernel
  rw [Int32.lt_iff_toInt_lt] at h0 h1
  have e0 : (0 : Int32).toInt = 0 := rfl
  have e1 : (255 : Int32).toInt = 255 := rfl
  obtain ⟨k, hk⟩ : ∃ k : Nat, x.toInt = k := ⟨x.toInt.toNat, by omega⟩
  have hx : x = Int32.ofNat k := Int32.toInt_inj.mp (by rw [hk, Int32.toInt_ofNat_small (by omega)])
  rw [hx]
  exact t ⟨k, by omega⟩
end StrChars
namespace StrChars.Road
open Jvm Sem ClassFile Op Lib Jvm.Stand Jvm.Free Jvm.Free.XT
open Jvm.Lib.Cold (StaticIs)
abbrev ST : String := "java/lang/String"
/-- every table word that New1's law asks, flat -/
abbrev words : List Jvm.Cond := [.code New1.yN New1.yB 2 none, .initialized ST, .methodLink ST 27 New4.yN, .instanceMethod New4.yN,
  .code New4.yN New4.yB 6 none, .fieldLink ST 38 ST "COMPACT_STRINGS" "Z", .laysFinal ST ST "value" "[B", .fieldLink ST 9 ST "value" "[B", .laysFinal ST ST "coder" "B", .fieldLink ST 15 ST "coder" "B",
  .methodLink ST 1 Lib.objectInit, .instanceMethod Lib.objectInit, .code Lib.objectInit ⟨#[0xb1]⟩ 1 none, .methodLink ST 177 Cmp3.yN, .static Cmp3.yN, .methodLink ST 47 CodL.yN, .static CodL.yN,
  .code Cmp3.yN Cmp3.yB 6 (some (.array .byte)), .initialized U16, .arrayClass .byte, .methodLink U16 115 Cmp5.yN, .static Cmp5.yN, .code Cmp5.yN Cmp5.yB 7 (some .int), .code CodL.yN CodL.yB 2 (some .byte)]
theorem tab_of {a : Array Value} {s : State} (h : ∀ w ∈ words, w.before a s = true) : New1.tab.before a s = true := by
  have h5 : Cmp5.tab.before a s = true := unparts (wk h (.code Cmp5.yN Cmp5.yB 7 (some .int))) (wks h (.initialized Cmp5.yN.cls :: Cmp5.site))
  have hc : CodL.tab.before a s = true := unparts (wk h (.code CodL.yN CodL.yB 2 (some .byte))) (wks h (.initialized CodL.yN.cls :: CodL.site))
  have q5 : ∀ w ∈ Cmp5.tab :: words, w.before a s = true := fun w hw => (List.mem_cons.mp hw).elim (fun e => e ▸ h5) (h w)
  have h3 : Cmp3.tab.before a s = true := unparts (wk q5 (.code Cmp3.yN Cmp3.yB 6 (some (.array .byte)))) (wks q5 (.initialized Cmp3.yN.cls :: Cmp3.site))
  have q3 : ∀ w ∈ Cmp3.tab :: CodL.tab :: words, w.before a s = true := fun w hw => (List.mem_cons.mp hw).elim (fun e => e ▸ h3) fun hw => (List.mem_cons.mp hw).elim (fun e => e ▸ hc) (h w)
  have h4 : New4.tab.before a s = true := unparts (wk q3 (.code New4.yN New4.yB 6 none)) (wks q3 (.initialized New4.yN.cls :: New4.site))
  have q4 : ∀ w ∈ New4.tab :: words, w.before a s = true := fun w hw => (List.mem_cons.mp hw).elim (fun e => e ▸ h4) (h w)
  exact unparts (wk q4 (.code New1.yN New1.yB 2 none)) (wks q4 (.initialized New1.yN.cls :: New1.site))
/-- the words ride from the start Z to the walk's own state -/
theorem moved {Z s : State} {a0 args : Array Value} (hZ : Z.Warmed39 s.vm) (hw : ∀ d ∈ words, d.before a0 Z = true) : ∀ d ∈ words, d.before args s = true := fun d hd => by
  have q := hw d hd
  have t : ∀ d ∈ words, d = .arrayClass .byte ∨ (d.onTables && d.keepsFace) = true := by decide +kernel
  rcases t d hd with rfl | t
  · exact RoadKit.mvA hZ q
  · exact RoadKit.mv hZ q t
/-- WHAT COMES BACK, over the tables of the start Z: h the heap at the call, h' behind it -/
def Q (Z : State) (x : Addr) (A : Cell) (h : Heap) (v : Option Value) (h' : Heap) (L : List Loc) : Prop := v = none ∧ (∀ y ∈ L, y.base = x) ∧ RoadKit.Keep h h' [x] ∧ h'.size = h.size + 1 ∧ RoadKit.Exa Z h' x ST ∧ RoadKit.Fld Z h' x ST "value" "[B" (.ref h.size) ∧ RoadKit.Fld Z h' x ST "coder" "B" (.int 0) ∧
  (∃ V : Cell, RoadKit.Arr Z h' h.size V .byte ∧ V.vm = .none ∧ Z.vm.findClass "[B" = some V.cls ∧ V.slots.size = A.slots.size ∧ ∀ j, j < A.slots.size → V.slots[j]? = some (.int (lo8 (cv A j)))) ∧
  ∀ (O n d : String) (w : Value), RoadKit.Fld Z h x O n d w → RoadKit.slotOf Z O n d ≠ RoadKit.slotOf Z ST "value" "[B" → RoadKit.slotOf Z O n d ≠ RoadKit.slotOf Z ST "coder" "B" → RoadKit.Fld Z h' x O n d w
/-- **new String(chars) AT A CALL, IN THE ROAD'S FORM**: for specialBack behind newO: x the fresh String, b the char[] with the cell A -/
theorem back {p : Program} {l : Launch} {e : Env} {R : Room} {s : State} {args : Array Value} {below : List Frame} {len W : Nat} {Z : State} {a0 : Array Value} {h : Heap} (hZ : Z.Warmed39 s.vm) (hw : ∀ d ∈ words, d.before a0 Z = true) {kI : Nat} (wi : (Jvm.Cond.instantiable ST kI).before a0 Z = true)
    {x b : Addr} {A : Cell} {z : Int32} {v0 c0 : Value} (E : RoadKit.Exa Z h x ST) (V : RoadKit.Fld Z h x ST "value" "[B" v0) (C : RoadKit.Fld Z h x ST "coder" "B" c0) (K : RoadKit.Arr Z h b A .char) (hty : Typed .char A) (S : RoadKit.Sta Z h ST "COMPACT_STRINGS" "Z" (.int z)) (hz : ¬ z = 0)
    (l0 : 0 < A.slots.size) (l2 : A.slots.size ≤ 536870912) (hp : ∀ i, i < A.slots.size → ¬ 255 < cv A i) (hfr : 4 ≤ R.frames) (hlo : W + 65 ≤ R.locals) :
    Back l R p e below s args New1.yN len W (fun P a => a = #[.ref x, .ref b] ∧ P.U.heap = h ∧ P.cells + 1 ≤ R.cells ∧ P.slots + A.slots.size ≤ R.slots)
      (fun P _ v B => ∃ L, Q Z x A h v B.U.heap L ∧ B.locs = P.locs ++ L ∧ B.cells = P.cells + 1 ∧ B.slots = P.slots + A.slots.size) := by
  intro m meth c P g ig mk a X hg hsize hdg hW hn hp'
  obtain ⟨rfl, rfl, r1, r2⟩ := hp'
  have al : Z.vm.Alike P.U.vm := hZ.alike.trans X.warmed.alike
  obtain ⟨D, cfV, kV, iV, fV, hD, gV, stV, knV, obV, asV, slV⟩ := id V
  obtain ⟨D', cfC, kC, iC, fC, hD', gC, stC, -, -, asC, slC⟩ := id C
  cases hD.symm.trans hD'
  obtain ⟨D2, kD, e1, e2, e3, e4, e5⟩ := id E
  cases hD.symm.trans e1
  obtain ⟨c2, k2, i1, i2, i3, -⟩ := Cond.instantiable_spec wi
  cases e2.symm.trans i1
  cases e3.symm.trans i2
  obtain ⟨kU, u1, u2⟩ := al.2.2 _ _ e3
  have hB : Blank ST x D P.U := ⟨hD, ⟨knV, fun q hq => by rw [hq] at obV; cases obV⟩, by rw [al.findClass]; exact e2, kU, u1, by rw [u2]; exact i3, by rw [u2]; exact e5 i3⟩
  have F1 : Found ST "value" "[B" fV P.U := ⟨SBG.found_only al ⟨cfV, kV, iV, gV⟩, stV⟩
  have F2 : Found ST "coder" "B" fC P.U := ⟨SBG.found_only al ⟨cfC, kC, iC, gC⟩, stC⟩
  have hA : Ch b A P.U := ⟨⟨K.1, State.isArrayOf_alike al K.2.1, K.2.2, by omega⟩, hty⟩
  have hS : StaticIs P.U ST "COMPACT_STRINGS" "Z" (.int z) := by
    obtain ⟨cfS, iS, kS, fS, st, cS, t1, t2, t3, t4, t5, t6, t7⟩ := S
    exact StaticIs.there (s := { Z with heap := P.U.heap }) ⟨cfS, iS, kS, fS, st, cS, t1, t2, t3, t4, t5, (fun q => by rw [q] at t6; cases t6), t7⟩ al rfl
  obtain ⟨v, B, X', ⟨⟨hv, E', V', q1, q2, q3, q4, q5, q6, q7, q8, q9, q10, q11⟩, hl, hc, hs⟩, st⟩ := New1.pays x D fV fC b A z (tab_of (moved hZ hw)) hfr hlo m meth c P g ig mk _ X hg hsize hdg hW hn ⟨r1, r2, rfl, hB, F1, F2, hA, hS, hz, l0, l2, hp⟩
  have al' : Z.vm.Alike B.U.vm := hZ.alike.trans X'.warmed.alike
  have hsz : E'.slots.size = D.slots.size := by
    obtain ⟨-, -, -, kB, w1, w2, w3⟩ := q1
    obtain ⟨kB', y1, y2⟩ := al'.2.2 _ _ e3
    rw [q2.2.1] at w1
    cases w1.symm.trans y1
    rw [w3, e5 i3, y2]
  refine ⟨v, B, X', ⟨_, ⟨hv, ?_, ⟨by omega, fun y cy hy hn' => q10 y cy (by simpa using hn') hy, fun y cy hy => ?_⟩, q11, ⟨E', _, q1.1, by rw [q2.2.1]; exact e2, by rw [q2.2.1]; exact e3, by rw [q2.1]; exact obV, fun _ => by rw [hsz]; exact e5 i3⟩,
    ⟨E', cfV, kV, iV, fV, q1.1, gV, stV, by rw [q2.1]; exact knV, by rw [q2.1]; exact obV, by rw [q2.2.1]; exact asV, q3⟩, ⟨E', cfC, kC, iC, fC, q1.1, gC, stC, by rw [q2.1]; exact knV, by rw [q2.1]; exact obV, by rw [q2.2.1]; exact asC, q4⟩,
    ⟨V', ⟨q5.1, State.isArrayOf_alike al'.symm q5.2.1, q5.2.2.1⟩, q6, by rw [← al'.findClass]; exact q7, q8, fun j hj => by have := q9 j hj; rwa [Nat.zero_add] at this⟩, fun O n d w F n1 n2 => ?_⟩, hl, hc, hs⟩, st⟩
  · intro y hy
    simp only [List.mem_cons, List.not_mem_nil, or_false] at hy
    rcases hy with rfl | rfl <;> rfl
  · by_cases q : y = x
    · subst q
      cases hD.symm.trans hy
      exact ⟨E', q1.1, q2.2.1, q2.1, hsz⟩
    · exact ⟨cy, q10 y cy q hy, rfl, rfl, rfl⟩
  · obtain ⟨D3, cf, k, i, f, g1, g2, g3, g4, g5, g6, g7⟩ := F
    cases hD.symm.trans g1
    simp only [RoadKit.slotOf, g2, gV, gC, Option.map_some, Option.getD_some] at n1 n2
    exact ⟨E', cf, k, i, f, q1.1, g2, g3, by rw [q2.1]; exact g4, by rw [q2.1]; exact g5, by rw [q2.2.1]; exact g6, by rw [q2.2.2 f.slot (by simp [n1, n2])]; exact g7⟩
end StrChars.Road
namespace StrChars.Road
open Jvm Sem ClassFile Op Lib Jvm.Stand Jvm.Free Jvm.Free.XT
/-- WHAT COMES BACK, the byte[] as a list of values -/
def QA (Z : State) (x : Addr) (zn : Int32) (cs : List Int32) (h : Heap) (v : Option Value) (h' : Heap) (L : List Loc) : Prop := v = none ∧ (∀ y ∈ L, y.base = x) ∧ RoadKit.Keep h h' [x] ∧ h'.size = h.size + 1 ∧ RoadKit.Exa Z h' x ST ∧ RoadKit.Fld Z h' x ST "value" "[B" (.ref h.size) ∧ RoadKit.Fld Z h' x ST "coder" "B" (.int 0) ∧
  (∃ kb, Z.vm.findClass "[B" = some kb ∧ RoadKit.Arv Z h' h.size kb .byte zn (cs.map fun c => .int (lo8 c)) (.int 0)) ∧
  ∀ (O n d : String) (w : Value), RoadKit.Fld Z h x O n d w → RoadKit.slotOf Z O n d ≠ RoadKit.slotOf Z ST "value" "[B" → RoadKit.slotOf Z O n d ≠ RoadKit.slotOf Z ST "coder" "B" → RoadKit.Fld Z h' x O n d w
/-- **new String(chars) AT A CALL, THE ARRAYS AS LISTS**: the char[] at b holds cs, not empty, no char above 255 -/
theorem backArv {p : Program} {l : Launch} {e : Env} {R : Room} {s : State} {args : Array Value} {below : List Frame} {len W : Nat} {Z : State} {a0 : Array Value} {h : Heap} (hZ : Z.Warmed39 s.vm) (hw : ∀ d ∈ words, d.before a0 Z = true) {kI : Nat} (wi : (Jvm.Cond.instantiable ST kI).before a0 Z = true)
    {x b : Addr} {k : ClassId} {zn z : Int32} {cs : List Int32} {dv v0 c0 : Value} (E : RoadKit.Exa Z h x ST) (V : RoadKit.Fld Z h x ST "value" "[B" v0) (C : RoadKit.Fld Z h x ST "coder" "B" c0) (K : RoadKit.Arv Z h b k .char zn (cs.map Value.int) dv) (S : RoadKit.Sta Z h ST "COMPACT_STRINGS" "Z" (.int z)) (hz : ¬ z = 0)
    (hlen : zn.toNatClampNeg = cs.length) (h0 : 0 < cs.length) (hbig : cs.length ≤ 536870912) (hall : ∀ c ∈ cs, ¬ 255 < c) (hfr : 4 ≤ R.frames) (hlo : W + 65 ≤ R.locals) :
    Back l R p e below s args New1.yN len W (fun P a => a = #[.ref x, .ref b] ∧ P.U.heap = h ∧ P.cells + 1 ≤ R.cells ∧ P.slots + cs.length ≤ R.slots)
      (fun P _ v B => ∃ L, QA Z x zn cs h v B.U.heap L ∧ B.locs = P.locs ++ L ∧ B.cells = P.cells + 1 ∧ B.slots = P.slots + cs.length) := by
  obtain ⟨A, K1, K2, K3, K4, K5, K6⟩ := K
  have e : A.slots.size = cs.length := K3.trans hlen
  have hat : ∀ (i : Nat) (hi : i < cs.length), A.slots[i]? = some (.int cs[i]) := fun i hi => by rw [K5 i (by omega)]; simp [List.getD_eq_getElem?_getD, hi]
  have hcv : ∀ (i : Nat) (hi : i < cs.length), cv A i = cs[i] := fun i hi => by unfold cv; rw [hat i hi]
  have hty : Typed .char A := fun i v hv => by
    have hi : i < A.slots.size := (Array.getElem?_eq_some_iff.mp hv).1
    have q := K5 i hi
    rw [hv] at q
    rw [Option.some.inj q]
    exact K6 i hi
  refine Back.mono (back hZ hw wi E V C K1 hty S hz (by omega) (by omega) (fun i hi => by rw [hcv i (by omega)]; exact hall _ (List.getElem_mem _)) hfr hlo) (fun P a hp => ⟨hp.1, hp.2.1, hp.2.2.1, by rw [e]; exact hp.2.2.2⟩) (fun P a v B hp hq => ?_)
  obtain ⟨L, ⟨q1, q2, q3, q4, q5, q6, q7, ⟨V', v1, v2, v3, v4, v5⟩, q9⟩, hl, hc, hs⟩ := hq
  refine ⟨L, ⟨q1, q2, q3, q4, q5, q6, q7, ⟨V'.cls, v3, V', v1, rfl, by rw [v4, e, hlen], K4, fun i hi => ?_, fun i hi => ?_⟩, q9⟩, hl, hc, by rw [hs, e]⟩
  · have hi' : i < cs.length := by omega
    rw [v5 i (by omega), hcv i hi']; simp [List.getD_eq_getElem?_getD, hi']
  · have hi' : i < cs.length := by omega
    simp only [List.getD_eq_getElem?_getD, List.getElem?_map, List.getElem?_eq_getElem hi', Option.map_some, Option.getD_some]
    exact fits_lo8 _
end StrChars.Road
namespace StrChars.Road
open Jvm Sem ClassFile Op Lib Jvm.Stand Jvm.Free Jvm.Free.XT
/-- WHAT COMES BACK, in the writer's own shape -/
def QV (Z : State) (x : Addr) (N : Int32) (bs : List Int32) (h : Heap) (n0 : Nat) (v : Option Value) (h' : Heap) (L : List Loc) : Prop := v = none ∧ RoadKit.Fr n0 L ∧ RoadKit.Keep h h' [x] ∧ RoadKit.Exa Z h' x ST ∧ RoadKit.Fld Z h' x ST "coder" "B" (.int 0) ∧
  ∃ (t : Addr) (kb : ClassId), n0 ≤ t ∧ h.size ≤ t ∧ ¬ t = x ∧ RoadKit.Fld Z h' x ST "value" "[B" (.ref t) ∧ RoadKit.Arv Z h' t kb .byte N (bs.map Value.int) (.int 0)
/-- **new String(chars) AT A CALL, FOR THE WRITER**: a char[] of n known ints, each 0 to 255 -/
theorem backV {p : Program} {l : Launch} {e : Env} {R : Room} {s : State} {args : Array Value} {below : List Frame} {len W : Nat} {Z : State} {a0 : Array Value} {h : Heap} (hZ : Z.Warmed39 s.vm) (hw : ∀ d ∈ words, d.before a0 Z = true) {kI : Nat} (wi : (Jvm.Cond.instantiable ST kI).before a0 Z = true)
    {x b : Addr} {kC : ClassId} {cs bs : List Int32} {d v0 c0 : Value} {z N : Int32} {n n0 : Nat} (hx0 : n0 ≤ x) (hh0 : n0 ≤ h.size) (E : RoadKit.Exa Z h x ST) (V : RoadKit.Fld Z h x ST "value" "[B" v0) (C : RoadKit.Fld Z h x ST "coder" "B" c0) (K : RoadKit.Arv Z h b kC .char N (cs.map Value.int) d) (S : RoadKit.Sta Z h ST "COMPACT_STRINGS" "Z" (.int z)) (hz : ¬ z = 0)
    (hn : cs.length = n) (hN : N = Int32.ofNat n) (l0 : 0 < n) (l2 : n ≤ 4000) (hp : ∀ c ∈ cs, ¬ c < 0 ∧ ¬ (255 : Int32) < c) (hb : bs = cs.map (fun c => c.toInt8.toInt32)) (hfr : 4 ≤ R.frames) (hlo : W + 65 ≤ R.locals) :
    Back l R p e below s args (⟨"java/lang/String", "<init>", "([C)V"⟩ : MethodName) len W (fun P a => a = #[.ref x, .ref b] ∧ P.U.heap = h ∧ P.cells + 1 ≤ R.cells ∧ P.slots + n ≤ R.slots)
      (fun P _ v B => ∃ L, QV Z x N bs h n0 v B.U.heap L ∧ B.locs = P.locs ++ L ∧ B.cells = P.cells + 1 ∧ B.slots = P.slots + n) := by
  subst hn hN hb
  refine Back.mono (backArv hZ hw wi E V C K S hz (n32 (by omega)) l0 (by omega) (fun c hc => (hp c hc).2) hfr hlo) (fun P a hp => hp) (fun P a v B hp hq => ?_)
  obtain ⟨L, ⟨q1, q2, q3, q4, q5, q6, q7, ⟨kb, v1, v2⟩, q9⟩, hl, hc, hs⟩ := hq
  exact ⟨L, ⟨q1, fun y hy => by rw [q2 y hy]; exact hx0, q3, q5, q7, h.size, kb, hh0, Nat.le_refl _, Nat.ne_of_gt E.lt, q6, by rw [List.map_map]; exact v2⟩, hl, hc, hs⟩
end StrChars.Road
namespace StrChars
open Jvm Sem ClassFile Op Lib Jvm.Stand Jvm.Free.XT Jvm.Free.ALB Jvm.Free.JM Jvm.Free
open Jvm.Lib.Cold (StaticIs)
def hi8 (x : Int32) : Int32 := lo8 (x >>> ((8 : Int32) &&& 31))
/-- what StringUTF16.getChar makes of two bytes -/
def pairCh (u v : Int32) : Int32 := (((u &&& 255) <<< ((0 : Int32) &&& 31)) ||| ((v &&& 255) <<< ((8 : Int32) &&& 31))).toUInt32.toUInt16.toUInt32.toInt32
theorem lo8_and (x : Int32) : (lo8 x &&& 255).toBitVec.toNat = x.toBitVec.toNat % 256 := by
  have h : (lo8 x).toBitVec = (x.toBitVec.signExtend 8).signExtend 32 := by rw [lo8, Int8.toBitVec_toInt32, Int32.toBitVec_toInt8]
  rw [Int32.toBitVec_and, BitVec.toNat_and, h]
  have e : ((x.toBitVec.signExtend 8).signExtend 32).toNat % 256 = x.toBitVec.toNat % 256 := by
    rw [BitVec.toNat_signExtend]
    have hlt := x.toBitVec.isLt
    simp only [BitVec.toNat_setWidth, BitVec.toNat_signExtend]
    split <;> split <;> omega
  rw [← e]
  exact Nat.and_two_pow_sub_one_eq_mod _ 8
theorem pair_says {c : Int32} (h0 : ¬ c < 0) (h1 : ¬ 65535 < c) : pairCh (lo8 c) (hi8 c) = c := by
  rw [Int32.lt_iff_toInt_lt] at h0 h1
  have e0 : (0 : Int32).toInt = 0 := rfl
  have e1 : (65535 : Int32).toInt = 65535 := rfl
  have hc : c.toInt = c.toBitVec.toNat := by
    have := c.toBitVec.isLt
    have e : c.toInt = c.toBitVec.toInt := rfl
    rw [e] at h0 h1
    rw [e]
    rw [BitVec.toInt_eq_toNat_cond] at h0 h1 ⊢
    split at h0 <;> split <;> omega
  have hn : c.toBitVec.toNat < 65536 := by omega
  have a1 := lo8_and c
  have a2 : (hi8 c &&& 255).toBitVec.toNat = c.toBitVec.toNat / 256 := by
    rw [hi8, lo8_and]
    have e : ((8 : Int32) &&& 31) = 8 := by decide
    rw [e, Int32.toBitVec_shiftRight]
    have e2 : ((8 : Int32).toBitVec.smod 32) = 8#32 := by decide
    rw [e2, BitVec.sshiftRight_eq', BitVec.toNat_sshiftRight_of_msb_false (by rw [BitVec.msb_eq_false_iff_two_mul_lt]; omega)]
    show c.toBitVec.toNat >>> 8 % 256 = _
    rw [Nat.shiftRight_eq_div_pow]
    omega
  unfold pairCh
  apply Int32.toBitVec_inj.mp
  apply BitVec.eq_of_toNat_eq
  have f0 : ((0 : Int32) &&& 31) = 0 := by decide
  have f8 : ((8 : Int32) &&& 31) = 8 := by decide
  rw [f0, f8]
  have g : (((lo8 c &&& 255) <<< (0 : Int32)) ||| ((hi8 c &&& 255) <<< (8 : Int32))).toBitVec.toNat = c.toBitVec.toNat := by
    rw [Int32.toBitVec_or, Int32.toBitVec_shiftLeft, Int32.toBitVec_shiftLeft]
    have s0 : ((0 : Int32).toBitVec.smod 32) = 0#32 := by decide
    have s8 : ((8 : Int32).toBitVec.smod 32) = 8#32 := by decide
    rw [s0, s8, BitVec.toNat_or]
    simp only [BitVec.shiftLeft_eq', BitVec.toNat_shiftLeft, a1, a2]
    show (c.toBitVec.toNat % 256) <<< 0 % 2 ^ 32 ||| (c.toBitVec.toNat / 256) <<< 8 % 2 ^ 32 = _
    rw [Nat.shiftLeft_zero, Nat.mod_eq_of_lt (show c.toBitVec.toNat % 256 < 2 ^ 32 by omega), Nat.mod_eq_of_lt (show (c.toBitVec.toNat / 256) <<< 8 < 2 ^ 32 by rw [Nat.shiftLeft_eq]; omega), Nat.or_comm, ← Nat.shiftLeft_add_eq_or_of_lt (by omega), Nat.shiftLeft_eq]
    omega
  show BitVec.toNat (((((lo8 c &&& 255) <<< (0 : Int32)) ||| ((hi8 c &&& 255) <<< (8 : Int32))).toBitVec.setWidth 16).setWidth 32) = _
  rw [BitVec.toNat_setWidth, BitVec.toNat_setWidth, g]
  omega
end StrChars
namespace StrChars
open Jvm Sem ClassFile Op Lib Jvm.Stand Jvm.Free.XT Jvm.Free.ALB Jvm.Free.JM Jvm.Free
open Jvm.Lib.Cold (StaticIs)
theorem shr1 {n : Nat} (h : 2 * n < 2 ^ 31) : Int32.ofNat (2 * n) >>> ((1 : Int32) &&& 31) = Int32.ofNat n := by
  have e : ((1 : Int32) &&& 31) = 1 := by decide
  rw [e]
  apply Int32.toBitVec_inj.mp
  rw [Int32.toBitVec_shiftRight]
  have e1 : ((1 : Int32).toBitVec.smod 32) = 1#32 := by decide
  have hm : (BitVec.ofNat 32 (2 * n)).toNat = 2 * n := by rw [BitVec.toNat_ofNat, Nat.mod_eq_of_lt (by omega)]
  rw [e1, BitVec.sshiftRight_eq']
  apply BitVec.eq_of_toNat_eq
  show ((BitVec.ofNat 32 (2 * n)).sshiftRight 1).toNat = (BitVec.ofNat 32 n).toNat
  rw [BitVec.toNat_sshiftRight_of_msb_false (by rw [BitVec.msb_eq_false_iff_two_mul_lt, hm]; omega), hm, BitVec.toNat_ofNat, Nat.shiftRight_eq_div_pow]
  omega
/-- charAt's cast of a byte read back -/
def chr8 (u : Int32) : Int32 := (u &&& 255).toUInt32.toUInt16.toUInt32.toInt32
theorem chr8_lo8 {c : Int32} (h0 : ¬ c < 0) (h1 : ¬ 255 < c) : chr8 (lo8 c) = c := by
  have t : ∀ k : Fin 256, (Int32.ofNat k.val).toUInt32.toUInt16.toUInt32.toInt32 = Int32.ofNat k.val := by decide +kernel
  unfold chr8
  rw [lo8_mask h0 h1]
  rw [Int32.lt_iff_toInt_lt] at h0 h1
  have e0 : (0 : Int32).toInt = 0 := rfl
  have e1 : (255 : Int32).toInt = 255 := rfl
  obtain ⟨k, hk⟩ : ∃ k : Nat, c.toInt = k := ⟨c.toInt.toNat, by omega⟩
  have hx : c = Int32.ofNat k := Int32.toInt_inj.mp (by rw [hk, Int32.toInt_ofNat_small (by omega)])
  rw [hx]
  exact t ⟨k, by omega⟩
end StrChars
end Jvm.Pilot.@@N@@

namespace Jvm.Pilot.@@N@@
open Jvm Jvm.ClassFile Sem Op Lib Jvm.Free Jvm.Stand Jvm.LawKit Jvm.RoadKit Bundle Jvm.Ow Jvm.Pilot.@@N@@.Jvm.D
theorem wSt {a0 : Array Value} {Z : State} (hw : ∀ d ∈ tables_1, d.before a0 Z = true) : ∀ d ∈ Bundle.stringAtoms, d.before a0 Z = true := fun d hd => hw d ((by decide +kernel : ∀ d ∈ Bundle.stringAtoms, d ∈ tables_1) d hd)
theorem nref {t : FieldType} {w : Value} (h : w.isRef = true) : narrow t w = w := by cases w <;> first | (cases t <;> rfl) | cases h
theorem fref {C : String} {w : Value} (h : w.isRef = true) : fits (.object C) w = true := by cases w <;> first | rfl | cases h

theorem wCh {a0 : Array Value} {Z : State} (hw : ∀ d ∈ tables_1, d.before a0 Z = true) : ∀ d ∈ StrChars.Road.words, d.before a0 Z = true := fun d hd => hw d ((by decide +kernel : ∀ d ∈ StrChars.Road.words, d ∈ tables_1) d hd)
/-- what new String(chars) leaves -/
def QStr (Z : State) (x : Addr) (N : Int32) (cs : List Int32) (h : Heap) (v : Option Value) (u : Heap) : Prop := ∃ (t : Addr) (kb : ClassId), v = none ∧ Keep h u [x] ∧ Exa Z u x "java/lang/String" ∧ Fld Z u x "java/lang/String" "coder" "B" (.int (0 : Int32)) ∧ Fld Z u x "java/lang/String" "value" "[B" (.ref t) ∧ Arv Z u t kb .byte N ((cs.map fun c => c.toInt8.toInt32).map Value.int) (.int (0 : Int32)) ∧ h.size ≤ t
theorem payStr {p : Program} {l : Launch} {e : Env} {R : Room} {s : State} {m : MethodId} {args : Array Value} {below : List Frame} {meth : Method} {c : Code} {own : String} {Z : State} {a0 : Array Value} {EL : List (String × Nat)} {h0 : Heap} {T : State} {h : Heap} {vm : Vm} {cells slots : Nat} (X : Wk p l e R s m args below meth c own Z a0 EL h0 T h vm cells slots) {len W : Nat} (hw : ∀ d ∈ tables_1, d.before a0 Z = true) (wi : (Jvm.Cond.instantiable "java/lang/String" 4).before a0 Z = true)
    {x b : Addr} {kC : ClassId} (cs : List Int32) {d v0 c0 : Value} {z N : Int32} (n : Nat) (hx0 : Z.heap.size ≤ x) (E : Exa Z h x "java/lang/String") (V : Fld Z h x "java/lang/String" "value" "[B" v0) (C : Fld Z h x "java/lang/String" "coder" "B" c0) (K : Arv Z h b kC .char N (cs.map Value.int) d) (S : Sta Z Z.heap "java/lang/String" "COMPACT_STRINGS" "Z" (.int z)) (hz : ¬ z = 0)
    (hn : cs.length = n) (hN : N = Int32.ofNat n) (l0 : 0 < n) (l2 : n ≤ 4000) (hp : ∀ c ∈ cs, ¬ c < 0 ∧ ¬ (255 : Int32) < c) (hfr : 4 ≤ R.frames) (hlo : W + 65 ≤ R.locals) (sf : Safe Z EL vm h x) :
    Pay l R p e below s args (⟨"java/lang/String", "<init>", "([C)V"⟩ : MethodName) len W Z EL vm h #[.ref x, .ref b] 1 n (fun v _ u => QStr Z x N cs h v u) :=
  X.payN (ws := [x]) (StrChars.Road.backV (s := s.setVm vm) (n0 := Z.heap.size) X.hZ (wCh hw) wi hx0 X.ge E V C K (X.sta S) hz hn hN l0 l2 hp rfl hfr hlo)
    (fun v u L q => by obtain ⟨q1, q2, q3, q4, q5, t, kb, q6, q7, q8, q9, q10⟩ := q; exact ⟨q2, q3, t, kb, q1, q3, q4, q5, q9, q10, q7⟩) (allS hx0 all0) (sfS sf sf0)

theorem toN {n : Nat} (h : n ≤ 4000) : (Int32.ofNat n).toNatClampNeg = n := by
  have e1 := Int32.toInt_ofNat_small (n := n) (by omega)
  show (Int32.ofNat n).toInt.toNat = n
  rw [show (Int32.ofNat n).toInt = (n : Int) from e1]; rfl
theorem toI {n : Nat} (h : n ≤ 4000) : (Int32.ofNat n).toInt = (n : Int) := Int32.toInt_ofNat_small (n := n) (by omega)
theorem of_nlt {a b : Nat} (ha : a ≤ 4000) (hb : b ≤ 4000) (h : a ≤ b) : ¬ Int32.ofNat b < Int32.ofNat a := by
  rw [Int32.lt_iff_toInt_lt, toI ha, toI hb]; omega
theorem of_pos {a : Nat} (ha : a ≤ 4000) : ¬ Int32.ofNat a < (0 : Int32) := of_nlt (a := 0) (by omega) ha (Nat.zero_le _)
theorem of_inj {a b : Nat} (ha : a ≤ 4000) (hb : b ≤ 4000) (h : Int32.ofNat a = Int32.ofNat b) : a = b := by
  have := congrArg Int32.toInt h
  rw [toI ha, toI hb] at this; omega
theorem of_add (i k : Nat) : Int32.ofNat i + Int32.ofNat k = Int32.ofNat (i + k) := (Int32.ofNat_add i k).symm
theorem of_sub {i j : Nat} (h : i ≤ j) (hj : j ≤ 4000) : Int32.ofNat j - Int32.ofNat i = Int32.ofNat (j - i) := by
  apply Int32.toInt_inj.mp
  rw [Int32.toInt_sub, toI hj, toI (by omega), toI (by omega)]
  exact (Int.bmod_eq_of_le (by omega) (by omega)).trans (by omega)
theorem of_subl {i k n : Nat} (h : i + k ≤ n) (hn : n ≤ 4000) : ¬ (Int32.ofNat n - Int32.ofNat i) < Int32.ofNat k := by
  rw [Int32.lt_iff_toInt_lt, Int32.toInt_sub, toI hn, toI (by omega), toI (by omega), Int.bmod_eq_of_le (by omega) (by omega)]; omega
def slcV (vs : List Value) (i k : Nat) : List Value := (List.range k).map fun q => vs.getD (i + q) (Value.int (0 : Int32))
theorem copied {vs : List Value} {i k : Nat} (hi : i ≤ 4000) (hk : k ≤ 4000) : (List.replicate k (Value.int (0 : Int32))).take (0 : Int32).toNatClampNeg ++ (List.range (Int32.ofNat k).toNatClampNeg).map (fun q => vs.getD ((Int32.ofNat i).toNatClampNeg + q) (Value.int (0 : Int32))) ++ (List.replicate k (Value.int (0 : Int32))).drop ((0 : Int32).toNatClampNeg + (Int32.ofNat k).toNatClampNeg) = slcV vs i k := by
  rw [toN hk, toN hi, show (0 : Int32).toNatClampNeg = 0 from rfl]
  simp only [List.take_zero, List.nil_append, Nat.zero_add]
  rw [List.drop_of_length_le (by simp), List.append_nil]; rfl
theorem slc_by {cs : List Int32} {i k : Nat} (h : i + k ≤ cs.length) : slcV ((cs.map fun c => c.toInt8.toInt32).map Value.int) i k = ((((cs.drop i).take k).map fun c => c.toInt8.toInt32).map Value.int) := by
  unfold slcV
  apply List.ext_getElem
  · simp; omega
  · intro n h1 h2
    simp at h1
    simp [List.getD_eq_getElem?_getD, show i + n < cs.length by omega]
theorem slc_len {cs : List Int32} {i k : Nat} (h : i + k ≤ cs.length) : ((cs.drop i).take k).length = k := by simp; omega
theorem eq_of_le {a b : Int32} (h : ¬ b < a) (k : ¬ a < b) : a = b := by
  apply Int32.toInt_inj.mp
  rw [Int32.lt_iff_toInt_lt] at h k; omega

def enc16 (cs : List Int32) : List Value := cs.flatMap fun c => [Value.int c.toInt8.toInt32, Value.int ((c >>> ((8 : Int32) &&& (31 : Int32))).toInt8.toInt32)]
theorem enc16_len (cs : List Int32) : (enc16 cs).length = 2 * cs.length := by
  induction cs with
  | nil => rfl
  | cons c cs ih => show (enc16 cs).length + 2 = _; rw [ih, List.length_cons]; omega
theorem by_len (cs : List Int32) : ((cs.map fun c => c.toInt8.toInt32).map Value.int).length = cs.length := by simp
theorem enc16_app (cs ds : List Int32) : enc16 cs ++ enc16 ds = enc16 (cs ++ ds) := by simp [enc16]
theorem by_app (cs ds : List Int32) : ((cs.map fun c => c.toInt8.toInt32).map Value.int) ++ ((ds.map fun c => c.toInt8.toInt32).map Value.int) = (((cs ++ ds).map fun c => c.toInt8.toInt32).map Value.int) := by simp
theorem shl0 (x : Int32) : x <<< ((0 : Int32) &&& (31 : Int32)) = x := by
  apply Int32.toBitVec_inj.mp
  simp
theorem shr0 (x : Int32) : x >>> ((0 : Int32) &&& (31 : Int32)) = x := by
  apply Int32.toBitVec_inj.mp
  simp
theorem shl1 (n : Nat) : Int32.ofNat n <<< ((1 : Int32) &&& (31 : Int32)) = Int32.ofNat (2 * n) := by
  apply Int32.toBitVec_inj.mp
  rw [Int32.toBitVec_shiftLeft]
  apply BitVec.eq_of_toNat_eq
  simp [BitVec.toNat_shiftLeft, Nat.shiftLeft_eq, Nat.mul_comm]
theorem shr1 {n : Nat} (h : n ≤ 2000) : Int32.ofNat (2 * n) >>> ((1 : Int32) &&& (31 : Int32)) = Int32.ofNat n := StrChars.shr1 (by omega)
theorem range_getD {us : List Value} {dv : Value} : (List.range us.length).map (fun i => us.getD (0 + i) dv) = us := by
  apply List.ext_getElem
  · simp
  · intro n h1 h2; simp [List.getD_eq_getElem?_getD, h2]
theorem slc_all0 (vs : List Value) : slcV vs 0 vs.length = vs := range_getD
theorem sub_np {n k : Nat} (h : n ≤ k) (hk : k ≤ 4000) : ¬ (0 : Int32) < Int32.ofNat n - Int32.ofNat k := by
  have e0 : (0 : Int32).toInt = 0 := by decide
  rw [Int32.lt_iff_toInt_lt, Int32.toInt_sub, toI (by omega), toI hk, Int.bmod_eq_of_le (by omega) (by omega), e0]; omega
theorem of_lt {a b : Nat} (hb : b ≤ 4000) (h : a < b) : Int32.ofNat a < Int32.ofNat b := by
  rw [Int32.lt_iff_toInt_lt, toI (by omega), toI hb]; omega
section Arrs
variable {Z : State} {h : Heap} {a d : Addr} {kd : ClassId} {ty : FieldType} {z : Int32} {dv : Value}
theorem catA {vs us : List Value} {k : Nat} {sp dp nn : Int32} (F : Arv Z h d kd ty z ((vs ++ List.replicate k dv).take dp.toNatClampNeg ++ (List.range nn.toNatClampNeg).map (fun i => us.getD (sp.toNatClampNeg + i) dv) ++ (vs ++ List.replicate k dv).drop (dp.toNatClampNeg + nn.toNatClampNeg)) dv) (hs : sp.toNatClampNeg = 0) (h1 : dp.toNatClampNeg = vs.length) (h2 : nn.toNatClampNeg = us.length) : Arv Z h d kd ty z (vs ++ us) dv := by
  rw [hs, h1, h2, range_getD] at F
  refine F.pad fun i => ?_
  rw [List.take_left, List.drop_append, List.drop_of_length_le (by omega), List.nil_append, List.drop_replicate]
  exact (pad_rep _ _ _ i).symm
theorem setA {vs : List Value} {v : Value} {i : Nat} (F : Arv Z h d kd ty z ((vs ++ List.replicate 1 dv).set i v) dv) (hi : i = vs.length) : Arv Z h d kd ty z (vs ++ [v]) dv := by
  subst hi
  have e : (vs ++ List.replicate 1 dv).set vs.length v = vs ++ [v] := by simp [List.set_append]
  rw [e] at F; exact F
/-- a UTF-16 String -/
def StrU (Z : State) (h : Heap) (a b : Addr) (k : ClassId) (cs : List Int32) : Prop := Exa Z h a "java/lang/String" ∧ Fld Z h a "java/lang/String" "coder" "B" (.int (1 : Int32)) ∧ Fld Z h a "java/lang/String" "value" "[B" (.ref b) ∧ Arv Z h b k .byte (Int32.ofNat (2 * cs.length)) (enc16 cs) (.int (0 : Int32)) ∧ (∀ c ∈ cs, ¬ c < 0 ∧ ¬ (65535 : Int32) < c) ∧ cs.length ≤ 2000
variable {b : Addr} {k : ClassId} {cs : List Int32} {ws : List Addr} {h' : Heap}
theorem StrU.ext (F : StrU Z h a b k cs) (E : Ext h h') : StrU Z h' a b k cs := ⟨F.1.ext E, F.2.1.ext E, F.2.2.1.ext E, F.2.2.2.1.ext E, F.2.2.2.2⟩
theorem StrU.keep (F : StrU Z h a b k cs) (K : Keep h h' ws) (q : a ∉ ws) (r : b ∉ ws) : StrU Z h' a b k cs := ⟨F.1.keep K, F.2.1.keep K q, F.2.2.1.keep K q, F.2.2.2.1.keep K r, F.2.2.2.2⟩
theorem StrU.lt (F : StrU Z h a b k cs) : a < h.size := F.1.lt
theorem StrU.lb (F : StrU Z h a b k cs) : b < h.size := F.2.2.2.1.lt
/-- either -/
def Any (Z : State) (h : Heap) (a : Addr) (cs : List Int32) : Prop := (∃ b k, Str Z h a b k cs) ∨ ∃ b k, StrU Z h a b k cs
theorem Any.exa (F : Any Z h a cs) : Exa Z h a "java/lang/String" := F.elim (fun ⟨_, _, q⟩ => q.1) fun ⟨_, _, q⟩ => q.1
theorem Any.lt (F : Any Z h a cs) : a < h.size := F.exa.lt
theorem Any.len (F : Any Z h a cs) : cs.length ≤ 4000 := F.elim (fun ⟨_, _, q⟩ => q.2.2.2.2.2) fun ⟨_, _, q⟩ => Nat.le_trans q.2.2.2.2.2 (by decide)
theorem Any.ext (F : Any Z h a cs) (E : Ext h h') : Any Z h' a cs := F.imp (fun ⟨b, k, q⟩ => ⟨b, k, q.ext E⟩) fun ⟨b, k, q⟩ => ⟨b, k, q.ext E⟩
theorem Any.keep (F : Any Z h a cs) (K : Keep h h' []) : Any Z h' a cs := F.imp (fun ⟨b, k, q⟩ => ⟨b, k, q.keep K nin0 nin0⟩) fun ⟨b, k, q⟩ => ⟨b, k, q.keep K nin0 nin0⟩
end Arrs
theorem e16_lo {cs : List Int32} {i : Nat} (h : i < cs.length) : (enc16 cs).getD (2 * i) (.int 0) = .int ((cs.getD i 0).toInt8.toInt32) := by
  induction cs generalizing i with
  | nil => simp at h
  | cons c cs ih =>
    cases i with
    | zero => rfl
    | succ i => exact ih (by simpa using h)
theorem e16_hi {cs : List Int32} {i : Nat} (h : i < cs.length) : (enc16 cs).getD (2 * i + 1) (.int 0) = .int (((cs.getD i 0) >>> ((8 : Int32) &&& (31 : Int32))).toInt8.toInt32) := by
  induction cs generalizing i with
  | nil => simp at h
  | cons c cs ih =>
    cases i with
    | zero => rfl
    | succ i => exact ih (by simpa using h)
theorem by_get {cs : List Int32} {i : Nat} (h : i < cs.length) : ((cs.map fun c => c.toInt8.toInt32).map Value.int).getD i (.int 0) = .int ((cs.getD i 0).toInt8.toInt32) := by
  simp [List.getD_eq_getElem?_getD, h]
theorem mem_getD {cs : List Int32} {i : Nat} {P : Int32 → Prop} (h : i < cs.length) (H : ∀ c ∈ cs, P c) : P (cs.getD i 0) := by
  rw [List.getD_eq_getElem?_getD, List.getElem?_eq_getElem h]; exact H _ (List.getElem_mem h)
theorem nar16 {x : Int32} (h : ¬ x < 0 ∧ ¬ (65535 : Int32) < x) : narrow .char (.int x) = .int x := by
  show Value.int _ = _
  rw [i2c_in h.1 h.2]

theorem fst1 {A : Prop} (h : A) : A := h
theorem fst2 {A B : Prop} (h : A ∨ B) : A ∨ ¬ A ∧ B := by by_cases q : A; exact Or.inl q; exact Or.inr ⟨q, h.resolve_left q⟩
theorem fst3 {A B C : Prop} (h : A ∨ B ∨ C) : A ∨ (¬ A ∧ B) ∨ ¬ A ∧ ¬ B ∧ C := by
  by_cases q : A
  · exact Or.inl q
  · by_cases r : B
    · exact Or.inr (Or.inl ⟨q, r⟩)
    · exact Or.inr (Or.inr ⟨q, r, (h.resolve_left q).resolve_left r⟩)

theorem encL1 (c0 : Int32) : ((([] ++ [(.int (c0.toInt8.toInt32))]) ++ [(.int ((c0 >>> ((8 : Int32) &&& (31 : Int32))).toInt8.toInt32))]) : List Value) = enc16 [c0] := by simp [enc16]
theorem encL2 (c0 c1 : Int32) : ((((([] ++ [(.int (c0.toInt8.toInt32))]) ++ [(.int ((c0 >>> ((8 : Int32) &&& (31 : Int32))).toInt8.toInt32))]) ++ [(.int (c1.toInt8.toInt32))]) ++ [(.int ((c1 >>> ((8 : Int32) &&& (31 : Int32))).toInt8.toInt32))]) : List Value) = enc16 [c0, c1] := by simp [enc16]
theorem encL3 (c0 c1 c2 : Int32) : ((((((([] ++ [(.int (c0.toInt8.toInt32))]) ++ [(.int ((c0 >>> ((8 : Int32) &&& (31 : Int32))).toInt8.toInt32))]) ++ [(.int (c1.toInt8.toInt32))]) ++ [(.int ((c1 >>> ((8 : Int32) &&& (31 : Int32))).toInt8.toInt32))]) ++ [(.int (c2.toInt8.toInt32))]) ++ [(.int ((c2 >>> ((8 : Int32) &&& (31 : Int32))).toInt8.toInt32))]) : List Value) = enc16 [c0, c1, c2] := by simp [enc16]
theorem encL4 (c0 c1 c2 c3 : Int32) : ((((((((([] ++ [(.int (c0.toInt8.toInt32))]) ++ [(.int ((c0 >>> ((8 : Int32) &&& (31 : Int32))).toInt8.toInt32))]) ++ [(.int (c1.toInt8.toInt32))]) ++ [(.int ((c1 >>> ((8 : Int32) &&& (31 : Int32))).toInt8.toInt32))]) ++ [(.int (c2.toInt8.toInt32))]) ++ [(.int ((c2 >>> ((8 : Int32) &&& (31 : Int32))).toInt8.toInt32))]) ++ [(.int (c3.toInt8.toInt32))]) ++ [(.int ((c3 >>> ((8 : Int32) &&& (31 : Int32))).toInt8.toInt32))]) : List Value) = enc16 [c0, c1, c2, c3] := by simp [enc16]
theorem enc16_snoc (cs : List Int32) (u : Int32) : (enc16 cs ++ [Value.int u.toInt8.toInt32]) ++ [Value.int ((u >>> ((8 : Int32) &&& (31 : Int32))).toInt8.toInt32)] = enc16 (cs ++ [u]) := by simp [enc16]
theorem wd16 {x : Int32} (h : ¬ x < 0 ∧ ¬ (255 : Int32) < x) : ¬ x < 0 ∧ ¬ (65535 : Int32) < x := ⟨h.1, fun q => h.2 (by
  have e1 : (255 : Int32).toInt = 255 := by decide
  have e2 : (65535 : Int32).toInt = 65535 := by decide
  rw [Int32.lt_iff_toInt_lt] at q ⊢; omega)⟩
theorem i2c_rng (x : Int32) : ¬ i2c x < 0 ∧ ¬ (65535 : Int32) < i2c x := by
  have q := c_i2c x
  have e0 : (0 : Int32).toInt = 0 := by decide
  have e1 : (65535 : Int32).toInt = 65535 := by decide
  constructor
  · rw [Int32.lt_iff_toInt_lt, e0]; unfold i2c; omega
  · rw [Int32.lt_iff_toInt_lt, e1]; unfold i2c; omega

theorem of_maxr {a b : Nat} (ha : a ≤ 4000) (hb : b ≤ 4000) (h : Int32.ofNat a < Int32.ofNat b) : Int32.ofNat b = Int32.ofNat (max a b) := by
  rw [Int32.lt_iff_toInt_lt, toI ha, toI hb] at h; rw [show max a b = b by omega]
theorem of_maxl {a b : Nat} (ha : a ≤ 4000) (hb : b ≤ 4000) (h : ¬ Int32.ofNat a < Int32.ofNat b) : Int32.ofNat a = Int32.ofNat (max a b) := by
  rw [Int32.lt_iff_toInt_lt, toI ha, toI hb] at h; rw [show max a b = a by omega]
theorem of_nbig {a : Nat} (ha : a ≤ 4000) : ¬ (2147483639 : Int32) < Int32.ofNat a := by
  have e : (2147483639 : Int32).toInt = 2147483639 := by decide
  rw [Int32.lt_iff_toInt_lt, toI ha, e]; omega
theorem of_nmax {a : Nat} (ha : a ≤ 4000) : ¬ Int32.ofNat a = (2147483647 : Int32) := fun q => by
  have e : (2147483647 : Int32).toInt = 2147483647 := by decide
  have := congrArg Int32.toInt q
  rw [toI ha, e] at this; omega
theorem of_lbig {a : Nat} (ha : a ≤ 4000) : Int32.ofNat a < (1073741823 : Int32) := by
  have e : (1073741823 : Int32).toInt = 1073741823 := by decide
  rw [Int32.lt_iff_toInt_lt, toI ha, e]; omega
section GArr
variable {Z : State} {h : Heap} {d : Addr} {kd : ClassId} {ty : FieldType} {z : Int32} {dv : Value}
theorem cpyZ {vs : List Value} {k L : Nat} {sp dp nn : Int32} (F : Arv Z h d kd ty z (([] ++ List.replicate k dv).take dp.toNatClampNeg ++ (List.range nn.toNatClampNeg).map (fun i => vs.getD (sp.toNatClampNeg + i) dv) ++ ([] ++ List.replicate k dv).drop (dp.toNatClampNeg + nn.toNatClampNeg)) dv) (hs : sp.toNatClampNeg = 0) (h1 : dp.toNatClampNeg = 0) (h2 : nn.toNatClampNeg = L) (hv : vs.length ≤ L) : Arv Z h d kd ty z vs dv := by
  rw [hs, h1, h2] at F
  refine F.pad fun i => ?_
  simp only [List.nil_append, List.take_zero, Nat.zero_add, List.drop_replicate]
  rw [pad_rep, List.getD_eq_getElem?_getD, List.getD_eq_getElem?_getD, List.getElem?_map]
  by_cases q : i < L
  · rw [List.getElem?_range q]; simp [List.getD_eq_getElem?_getD]
  · rw [List.getElem?_eq_none (by omega), List.getElem?_eq_none (by simp; omega)]; rfl
end GArr

theorem snocT {es ds : List Int32} {i : Nat} (h : i < ds.length) : (enc16 (es ++ ds.take i) ++ [Value.int (ds.getD i 0).toInt8.toInt32]) ++ [Value.int (((ds.getD i 0) >>> ((8 : Int32) &&& (31 : Int32))).toInt8.toInt32)] = enc16 (es ++ ds.take (i + 1)) := by
  rw [enc16_snoc, List.take_add_one, List.getElem?_eq_getElem h, List.append_assoc, List.getD_eq_getElem?_getD, List.getElem?_eq_getElem h]; rfl
theorem of_or {a b : Int32} (ha : ¬ a < 0) (hb : ¬ b < 0) : ¬ (a ||| b) < 0 := by
  have e0 : (0 : Int32).toInt = 0 := by decide
  rw [Int32.lt_iff_toInt_lt, e0] at ha hb ⊢
  have h1 : a.toBitVec.msb = false := by rw [BitVec.msb_eq_toInt, decide_eq_false_iff_not]; exact ha
  have h2 : b.toBitVec.msb = false := by rw [BitVec.msb_eq_toInt, decide_eq_false_iff_not]; exact hb
  have h3 : (a.toBitVec ||| b.toBitVec).msb = false := by rw [BitVec.msb_or, h1, h2]; rfl
  show ¬ (a ||| b).toBitVec.toInt < 0
  rw [BitVec.msb_eq_toInt, decide_eq_false_iff_not] at h3
  rw [Int32.toBitVec_or]; exact h3

theorem allA {P : Int32 → Prop} {a b : List Int32} (h : ∀ x ∈ a, P x) (k : ∀ x ∈ b, P x) : ∀ x ∈ a ++ b, P x := fun x q => (List.mem_append.mp q).elim (h x) (k x)
theorem len_snoc (cs : List Int32) (u : Int32) : (cs).length + 1 = ((cs ++ [u])).length := by rw [List.length_append]; rfl

section SbAs
variable {Z : State} {h h' : Heap} {x d : Addr} {kd : ClassId} {cs : List Int32} {ws : List Addr}
/-- a builder of either kind -/
def SbA (Z : State) (h : Heap) (x d : Addr) (kd : ClassId) (cs : List Int32) : Prop := (∃ cap : Nat, Exa Z h x "java/lang/StringBuilder" ∧ Fld Z h x "java/lang/AbstractStringBuilder" "value" "[B" (.ref d) ∧ Fld Z h x "java/lang/AbstractStringBuilder" "coder" "B" (.int (0 : Int32)) ∧ Fld Z h x "java/lang/AbstractStringBuilder" "count" "I" (.int (Int32.ofNat (cs).length)) ∧ Fld Z h x "java/lang/AbstractStringBuilder" "maybeLatin1" "Z" (.int (0 : Int32)) ∧ Arv Z h d kd .byte (Int32.ofNat cap) ((cs.map fun c => c.toInt8.toInt32).map Value.int) (.int (0 : Int32)) ∧ Exa Z h d "[B" ∧ (cs).length ≤ cap ∧ cap ≤ 2 * (cs).length + 3 ∧ (∀ z_ ∈ cs, ¬ z_ < 0 ∧ ¬ (255 : Int32) < z_)) ∨ (∃ cap : Nat, Exa Z h x "java/lang/StringBuilder" ∧ Fld Z h x "java/lang/AbstractStringBuilder" "value" "[B" (.ref d) ∧ Fld Z h x "java/lang/AbstractStringBuilder" "coder" "B" (.int (1 : Int32)) ∧ Fld Z h x "java/lang/AbstractStringBuilder" "count" "I" (.int (Int32.ofNat (cs).length)) ∧ Fld Z h x "java/lang/AbstractStringBuilder" "maybeLatin1" "Z" (.int (0 : Int32)) ∧ Arv Z h d kd .byte (Int32.ofNat (2 * cap)) (enc16 cs) (.int (0 : Int32)) ∧ Exa Z h d "[B" ∧ (cs).length ≤ cap ∧ cap ≤ 2 * (cs).length + 3 ∧ (∀ z_ ∈ cs, ¬ z_ < 0 ∧ ¬ (65535 : Int32) < z_))
theorem SbA.lt (F : SbA Z h x d kd cs) : x < h.size := F.elim (fun ⟨_, q, _⟩ => q.lt) fun ⟨_, q, _⟩ => q.lt
theorem SbA.exa (F : SbA Z h x d kd cs) : Exa Z h x "java/lang/StringBuilder" := F.elim (fun ⟨_, q, _⟩ => q) fun ⟨_, q, _⟩ => q
theorem SbA.lb (F : SbA Z h x d kd cs) : d < h.size := F.elim (fun ⟨_, _, _, _, _, _, q, _⟩ => q.lt) fun ⟨_, _, _, _, _, _, q, _⟩ => q.lt
theorem SbA.ext (F : SbA Z h x d kd cs) (E : Ext h h') : SbA Z h' x d kd cs := F.imp (fun ⟨cap, q0, q1, q2, q3, q4, q5, q6, q7⟩ => ⟨cap, q0.ext E, q1.ext E, q2.ext E, q3.ext E, q4.ext E, q5.ext E, q6.ext E, q7⟩) (fun ⟨cap, q0, q1, q2, q3, q4, q5, q6, q7⟩ => ⟨cap, q0.ext E, q1.ext E, q2.ext E, q3.ext E, q4.ext E, q5.ext E, q6.ext E, q7⟩)
theorem SbA.keep (F : SbA Z h x d kd cs) (K : Keep h h' ws) (q : x ∉ ws) (r : d ∉ ws) : SbA Z h' x d kd cs := F.imp (fun ⟨cap, q0, q1, q2, q3, q4, q5, q6, q7⟩ => ⟨cap, q0.keep K, q1.keep K q, q2.keep K q, q3.keep K q, q4.keep K q, q5.keep K r, q6.keep K, q7⟩) (fun ⟨cap, q0, q1, q2, q3, q4, q5, q6, q7⟩ => ⟨cap, q0.keep K, q1.keep K q, q2.keep K q, q3.keep K q, q4.keep K q, q5.keep K r, q6.keep K, q7⟩)
end SbAs
/-- a sign's piece -/
def pcL (u : Int32) : List Int32 := if u = 38 then [38, 97, 109, 112, 59] else if u = 60 then [38, 108, 116, 59] else if u = 62 then [38, 103, 116, 59] else if u = 34 then [38, 113, 117, 111, 116, 59] else [u]
def esc (cs : List Int32) : List Int32 := cs.flatMap pcL
theorem esc_snoc (cs : List Int32) (u : Int32) : esc (cs ++ [u]) = esc cs ++ pcL u := by simp [esc]
theorem pc_34 {u : Int32} (h : u = 34) : pcL u = [(38 : Int32), (113 : Int32), (117 : Int32), (111 : Int32), (116 : Int32), (59 : Int32)] := by subst h; rfl
theorem pc_38 {u : Int32} (h : u = 38) : pcL u = [(38 : Int32), (97 : Int32), (109 : Int32), (112 : Int32), (59 : Int32)] := by subst h; rfl
theorem pc_60 {u : Int32} (h : u = 60) : pcL u = [(38 : Int32), (108 : Int32), (116 : Int32), (59 : Int32)] := by subst h; rfl
theorem pc_62 {u : Int32} (h : u = 62) : pcL u = [(38 : Int32), (103 : Int32), (116 : Int32), (59 : Int32)] := by subst h; rfl
theorem pc_o {u : Int32} (h1 : ¬ u = 34) (h2 : ¬ u = 38) (h3 : ¬ u = 60) (h4 : ¬ u = 62) : pcL u = [u] := by rw [pcL, if_neg h2, if_neg h3, if_neg h4, if_neg h1]
theorem esc_take {ev cs l : List Int32} {i : Nat} (hi : i < (cs).length) (h : ev = esc (cs.take i)) (hp : pcL (cs.getD i 0) = l) : ev ++ l = esc (cs.take (i + 1)) := by
  rw [List.take_add_one, List.getElem?_eq_getElem hi, show (some cs[i]).toList = [cs[i]] from rfl, esc_snoc, ← h]
  rw [List.getD_eq_getElem?_getD, List.getElem?_eq_getElem hi] at hp
  rw [← hp]; rfl
theorem esc_all {ev cs : List Int32} {i : Nat} (h : ev = esc (cs.take i)) (hi : (cs).length ≤ i) : ev = esc cs := by rw [h, List.take_of_length_le hi]
theorem of_lt_inv {a b : Nat} (hb : b ≤ 4000) (h : Int32.ofNat a < Int32.ofNat b) (ha : a ≤ 4000 := by decide) : a < b := by
  rw [Int32.lt_iff_toInt_lt, toI ha, toI hb] at h; omega
theorem of_ge_inv {a b : Nat} (hb : b ≤ 4000) (h : ¬ Int32.ofNat a < Int32.ofNat b) (ha : a ≤ 4000 := by decide) : b ≤ a := by
  rw [Int32.lt_iff_toInt_lt, toI ha, toI hb] at h; omega
theorem esc_step {ev cs l : List Int32} {u : Int32} (h : ev = esc cs) (hp : pcL u = l) : ev ++ l = esc (cs ++ [u]) := by rw [esc_snoc, h, hp]
theorem ls_none {u : Int32} (h1 : ¬ u = 34) (h2 : ¬ u = 38) (h3 : ¬ u = 60) (h4 : ¬ u = 62) : (#[((34 : Int), (73 : Int)), ((38 : Int), (43 : Int)), ((60 : Int), (53 : Int)), ((62 : Int), (63 : Int))] : Array (Int × Int)).find? (·.1 == u.toInt) = none := by
  have k : ∀ v : Int32, ¬ u = v → ¬ v.toInt = u.toInt := fun v q z => q (Int32.toInt_inj.mp z.symm)
  have a1 : ¬ (34 : Int) = u.toInt := k 34 h1
  have a2 : ¬ (38 : Int) = u.toInt := k 38 h2
  have a3 : ¬ (60 : Int) = u.toInt := k 60 h3
  have a4 : ¬ (62 : Int) = u.toInt := k 62 h4
  simp [a1, a2, a3, a4]

/-- at os, from j on, stands ps -/
def AtOk (os : List Int32) (j : Int32) (ps : List Int32) : Prop := (ps).length ≤ 6 ∧ ∀ i : Nat, i < (ps).length → (j + Int32.ofNat i) = Int32.ofNat (j + Int32.ofNat i).toNatClampNeg ∧ (j + Int32.ofNat i).toNatClampNeg < (os).length ∧ (os.getD (j + Int32.ofNat i).toNatClampNeg 0) = (ps.getD i 0)
theorem at_mid {pre ps post : List Int32} (h : (pre ++ ps ++ post).length ≤ 4000) (h6 : (ps).length ≤ 6) : AtOk (pre ++ ps ++ post) (Int32.ofNat pre.length) ps := by
  have e : (pre ++ ps ++ post).length = pre.length + ps.length + post.length := by simp [Nat.add_assoc]
  refine ⟨h6, fun i hi => ?_⟩
  rw [of_add, toN (by omega)]
  refine ⟨rfl, by omega, ?_⟩
  rw [List.getD_eq_getElem?_getD, List.getD_eq_getElem?_getD, List.append_assoc, List.getElem?_append_right (by omega), Nat.add_sub_cancel_left, List.getElem?_append_left hi]
theorem pcL_len (u : Int32) : 1 ≤ (pcL u).length ∧ (pcL u).length ≤ 6 := by
  unfold pcL; split <;> (try split) <;> (try split) <;> (try split) <;> simp
theorem sz4 (x : Int32) : (x &&& (3 : Int32)) = 0 ∨ (x &&& (3 : Int32)) = 1 ∨ (x &&& (3 : Int32)) = 2 ∨ (x &&& (3 : Int32)) = 3 := by
  have q := c_and x (3 : Int32) (by decide)
  have e0 : (0 : Int32).toInt = 0 := by decide
  have e1 : (1 : Int32).toInt = 1 := by decide
  have e2 : (2 : Int32).toInt = 2 := by decide
  have e3 : (3 : Int32).toInt = 3 := by decide
  simp only [← Int32.toInt_inj, e0, e1, e2, e3]; omega
/-- the law's lengths and places -/
theorem fin3 {N c0 c1 c2 l0 l1 l2 : Int32} {os : List Int32} (hN : N = 0 ∨ N = 1 ∨ N = 2 ∨ N = 3) (ho : os = esc ([c0, c1, c2].take N.toNatClampNeg)) (q0 : l0 = if N < (1 : Int32) then (0 : Int32) else Int32.ofNat (pcL c0).length) (q1 : l1 = if N < (2 : Int32) then (0 : Int32) else Int32.ofNat (pcL c1).length) (q2 : l2 = if N < (3 : Int32) then (0 : Int32) else Int32.ofNat (pcL c2).length) :
    Int32.ofNat (os).length = ((l0 + l1) + l2) ∧ (¬ N < (1 : Int32) → AtOk os (0 : Int32) (pcL c0)) ∧ (¬ N < (2 : Int32) → AtOk os l0 (pcL c1)) ∧ (¬ N < (3 : Int32) → AtOk os (l0 + l1) (pcL c2)) := by
  have k0 := pcL_len c0
  have k1 := pcL_len c1
  have k2 := pcL_len c2
  rcases hN with rfl | rfl | rfl | rfl
  · rw [if_pos (by decide)] at q0 q1 q2; subst q0 q1 q2 ho
    exact ⟨by show Int32.ofNat 0 = _; decide, fun h => absurd (by decide) h, fun h => absurd (by decide) h, fun h => absurd (by decide) h⟩
  · rw [if_neg (by decide)] at q0; rw [if_pos (by decide)] at q1 q2; subst q0 q1 q2
    have e : os = [] ++ pcL c0 ++ [] := by rw [ho]; simp [esc, show (1 : Int32).toNatClampNeg = 1 from rfl]
    subst e
    refine ⟨by simp, fun _ => at_mid (by simp; omega) k0.2, fun h => absurd (by decide) h, fun h => absurd (by decide) h⟩
  · rw [if_neg (by decide)] at q0 q1; rw [if_pos (by decide)] at q2; subst q0 q1 q2
    have e : os = [] ++ pcL c0 ++ pcL c1 := by rw [ho]; simp [esc, show (2 : Int32).toNatClampNeg = 2 from rfl]
    have e2 : os = pcL c0 ++ pcL c1 ++ [] := by rw [e]; simp
    refine ⟨by rw [e2, of_add]; simp, fun _ => e ▸ at_mid (by simp; omega) k0.2, fun _ => e2 ▸ at_mid (by simp; omega) k1.2, fun h => absurd (by decide) h⟩
  · rw [if_neg (by decide)] at q0 q1 q2; subst q0 q1 q2
    have e : os = [] ++ pcL c0 ++ (pcL c1 ++ pcL c2) := by rw [ho]; simp [esc, show (3 : Int32).toNatClampNeg = 3 from rfl]
    have e2 : os = pcL c0 ++ pcL c1 ++ pcL c2 := by rw [e]; simp
    have e3 : os = (pcL c0 ++ pcL c1) ++ pcL c2 ++ [] := by rw [e2]; simp
    have e4 : Int32.ofNat (pcL c0).length + Int32.ofNat (pcL c1).length = Int32.ofNat (pcL c0 ++ pcL c1).length := by rw [of_add, List.length_append]
    refine ⟨by rw [e2, of_add, of_add]; simp [Nat.add_assoc], fun _ => e ▸ at_mid (by simp; omega) k0.2, fun _ => e2 ▸ at_mid (by simp; omega) k1.2, fun _ => by rw [e4, e3]; exact at_mid (by simp; omega) k2.2⟩

abbrev HW (a0 : Array Value) (Z : State) : Prop := ∀ d ∈ tables_1, d.before a0 Z = true
theorem hw_at {a0 : Array Value} {Z : State} (hw : HW a0 Z) (i : Nat) {d : Jvm.Cond} (h : tables_1[i]? = some d) : d.before a0 Z = true := hw _ (List.mem_of_getElem? h)
abbrev Cx (Z : State) (a0 : Array Value) (zc : Int32) (fm : Value) : Prop := HW a0 Z ∧ (EW Z a0 consts_1) ∧ (Sta Z Z.heap "java/lang/String" "COMPACT_STRINGS" "Z" (.int zc)) ∧ (¬ zc = 0) ∧ (Sta Z Z.heap "jdk/internal/util/Preconditions" "SIOOBE_FORMATTER" "Ljava/util/function/BiFunction;" fm) ∧ (fm.isRef = true) ∧ (Sta Z Z.heap "java/lang/StringUTF16" "$assertionsDisabled" "Z" (.int (1 : Int32))) ∧ (Sta Z Z.heap "java/lang/StringUTF16" "HI_BYTE_SHIFT" "I" (.int (0 : Int32))) ∧ (Sta Z Z.heap "java/lang/StringUTF16" "LO_BYTE_SHIFT" "I" (.int (8 : Int32)))
variable {l : Launch} {Z : State} {a0 : Array Value} {zc : Int32} {fm : Value}
theorem w0 (hw : HW a0 Z) : (Jvm.Cond.methodLink "com/example/carve/carve/http/HtmlEscapePinLaw" 29 ⟨"com/example/carve/carve/http/HtmlEscapePinLaw", "pick", "(I)C"⟩).before a0 Z = true := hw_at hw 0 rfl
theorem w1 (hw : HW a0 Z) : (Jvm.Cond.static ⟨"com/example/carve/carve/http/HtmlEscapePinLaw", "pick", "(I)C"⟩).before a0 Z = true := hw_at hw 1 rfl
theorem w2 (hw : HW a0 Z) : (Jvm.Cond.initialized "com/example/carve/carve/http/HtmlEscapePinLaw").before a0 Z = true := hw_at hw 2 rfl
theorem w3 (hw : HW a0 Z) : (Jvm.Cond.code ⟨"com/example/carve/carve/http/HtmlEscapePinLaw", "pick", "(I)C"⟩ method_2_code 2 (Option.some Jvm.ClassFile.FieldType.char)).before a0 Z = true := hw_at hw 3 rfl
theorem w4 (hw : HW a0 Z) : (Jvm.Cond.arrayClass Jvm.ClassFile.FieldType.char).before a0 Z = true := hw_at hw 4 rfl
theorem w5 (hw : HW a0 Z) : (Jvm.Cond.classLink "com/example/carve/carve/http/HtmlEscapePinLaw" 16 "java/lang/String").before a0 Z = true := hw_at hw 5 rfl
theorem w6 (hw : HW a0 Z) : (Jvm.Cond.instantiable "java/lang/String" 4).before a0 Z = true := hw_at hw 6 rfl
theorem w7 (hw : HW a0 Z) : (Jvm.Cond.initialized "java/lang/String").before a0 Z = true := hw_at hw 7 rfl
theorem w8 (hw : HW a0 Z) : (Jvm.Cond.methodLink "com/example/carve/carve/http/HtmlEscapePinLaw" 34 ⟨"java/lang/String", "<init>", "([C)V"⟩).before a0 Z = true := hw_at hw 8 rfl
theorem w9 (hw : HW a0 Z) : (Jvm.Cond.instanceMethod ⟨"java/lang/String", "<init>", "([C)V"⟩).before a0 Z = true := hw_at hw 9 rfl
theorem w10 (hw : HW a0 Z) : (Jvm.Cond.code ⟨"java/lang/String", "<init>", "([C)V"⟩ jdk_42_method_3_code 2 (Option.none : Option Jvm.ClassFile.FieldType)).before a0 Z = true := hw_at hw 10 rfl
theorem w11 (hw : HW a0 Z) : (Jvm.Cond.methodLink "java/lang/String" 27 ⟨"java/lang/String", "<init>", "([CIILjava/lang/Void;)V"⟩).before a0 Z = true := hw_at hw 11 rfl
theorem w12 (hw : HW a0 Z) : (Jvm.Cond.instanceMethod ⟨"java/lang/String", "<init>", "([CIILjava/lang/Void;)V"⟩).before a0 Z = true := hw_at hw 12 rfl
theorem w14 (hw : HW a0 Z) : (Jvm.Cond.code ⟨"java/lang/String", "<init>", "([CIILjava/lang/Void;)V"⟩ jdk_42_method_149_code 6 (Option.none : Option Jvm.ClassFile.FieldType)).before a0 Z = true := hw_at hw 14 rfl
theorem w15 (hw : HW a0 Z) : (Jvm.Cond.methodLink "java/lang/String" 1 ⟨"java/lang/Object", "<init>", "()V"⟩).before a0 Z = true := hw_at hw 15 rfl
theorem w16 (hw : HW a0 Z) : (Jvm.Cond.instanceMethod ⟨"java/lang/Object", "<init>", "()V"⟩).before a0 Z = true := hw_at hw 16 rfl
theorem w17 (hw : HW a0 Z) : (Jvm.Cond.code ⟨"java/lang/Object", "<init>", "()V"⟩ object_method_1_code 1 (Option.none : Option Jvm.ClassFile.FieldType)).before a0 Z = true := hw_at hw 17 rfl
theorem w18 (hw : HW a0 Z) : (Jvm.Cond.fieldLink "java/lang/String" 38 "java/lang/String" "COMPACT_STRINGS" "Z").before a0 Z = true := hw_at hw 18 rfl
theorem w19 (hw : HW a0 Z) : (Jvm.Cond.methodLink "java/lang/String" 177 ⟨"java/lang/StringUTF16", "compress", "([CII)[B"⟩).before a0 Z = true := hw_at hw 19 rfl
theorem w20 (hw : HW a0 Z) : (Jvm.Cond.static ⟨"java/lang/StringUTF16", "compress", "([CII)[B"⟩).before a0 Z = true := hw_at hw 20 rfl
theorem w21 (hw : HW a0 Z) : (Jvm.Cond.initialized "java/lang/StringUTF16").before a0 Z = true := hw_at hw 21 rfl
theorem w22 (hw : HW a0 Z) : (Jvm.Cond.code ⟨"java/lang/StringUTF16", "compress", "([CII)[B"⟩ jdk_52_method_16_code 6 (Option.some (Jvm.ClassFile.FieldType.array Jvm.ClassFile.FieldType.byte))).before a0 Z = true := hw_at hw 22 rfl
theorem w23 (hw : HW a0 Z) : (Jvm.Cond.arrayClass Jvm.ClassFile.FieldType.byte).before a0 Z = true := hw_at hw 23 rfl
theorem w24 (hw : HW a0 Z) : (Jvm.Cond.methodLink "java/lang/StringUTF16" 115 ⟨"java/lang/StringUTF16", "compress", "([CI[BII)I"⟩).before a0 Z = true := hw_at hw 24 rfl
theorem w25 (hw : HW a0 Z) : (Jvm.Cond.static ⟨"java/lang/StringUTF16", "compress", "([CI[BII)I"⟩).before a0 Z = true := hw_at hw 25 rfl
theorem w26 (hw : HW a0 Z) : (Jvm.Cond.code ⟨"java/lang/StringUTF16", "compress", "([CI[BII)I"⟩ jdk_52_method_21_code 7 (Option.some Jvm.ClassFile.FieldType.int)).before a0 Z = true := hw_at hw 26 rfl
theorem w27 (hw : HW a0 Z) : (Jvm.Cond.methodLink "java/lang/String" 47 ⟨"java/lang/StringUTF16", "coderFromArrayLen", "([BI)B"⟩).before a0 Z = true := hw_at hw 27 rfl
theorem w28 (hw : HW a0 Z) : (Jvm.Cond.static ⟨"java/lang/StringUTF16", "coderFromArrayLen", "([BI)B"⟩).before a0 Z = true := hw_at hw 28 rfl
theorem w29 (hw : HW a0 Z) : (Jvm.Cond.code ⟨"java/lang/StringUTF16", "coderFromArrayLen", "([BI)B"⟩ jdk_52_method_15_code 2 (Option.some Jvm.ClassFile.FieldType.byte)).before a0 Z = true := hw_at hw 29 rfl
theorem w30 (hw : HW a0 Z) : (Jvm.Cond.fieldLink "java/lang/String" 15 "java/lang/String" "coder" "B").before a0 Z = true := hw_at hw 30 rfl
theorem w31 (hw : HW a0 Z) : (Jvm.Cond.laysFinal "java/lang/String" "java/lang/String" "coder" "B").before a0 Z = true := hw_at hw 31 rfl
theorem w32 (hw : HW a0 Z) : (Jvm.Cond.fieldLink "java/lang/String" 9 "java/lang/String" "value" "[B").before a0 Z = true := hw_at hw 32 rfl
theorem w33 (hw : HW a0 Z) : (Jvm.Cond.laysFinal "java/lang/String" "java/lang/String" "value" "[B").before a0 Z = true := hw_at hw 33 rfl
theorem w34 (hw : HW a0 Z) : (Jvm.Cond.methodLink "com/example/carve/carve/http/HtmlEscapePinLaw" 37 ⟨"com/example/carve/carve/http/Html", "escape", "(Ljava/lang/String;)Ljava/lang/String;"⟩).before a0 Z = true := hw_at hw 34 rfl
theorem w35 (hw : HW a0 Z) : (Jvm.Cond.static ⟨"com/example/carve/carve/http/Html", "escape", "(Ljava/lang/String;)Ljava/lang/String;"⟩).before a0 Z = true := hw_at hw 35 rfl
theorem w36 (hw : HW a0 Z) : (Jvm.Cond.initialized "com/example/carve/carve/http/Html").before a0 Z = true := hw_at hw 36 rfl
theorem w37 (hw : HW a0 Z) : (Jvm.Cond.code ⟨"com/example/carve/carve/http/Html", "escape", "(Ljava/lang/String;)Ljava/lang/String;"⟩ prog_24_method_8_code 4 (Option.some (Jvm.ClassFile.FieldType.object "java/lang/String"))).before a0 Z = true := hw_at hw 37 rfl
theorem w38 (hw : HW a0 Z) : (Jvm.Cond.classLink "com/example/carve/carve/http/Html" 7 "java/lang/StringBuilder").before a0 Z = true := hw_at hw 38 rfl
theorem w39 (hw : HW a0 Z) : (Jvm.Cond.instantiable "java/lang/StringBuilder" 4).before a0 Z = true := hw_at hw 39 rfl
theorem w40 (hw : HW a0 Z) : (Jvm.Cond.initialized "java/lang/StringBuilder").before a0 Z = true := hw_at hw 40 rfl
theorem w41 (hw : HW a0 Z) : (Jvm.Cond.methodLink "com/example/carve/carve/http/Html" 44 ⟨"java/lang/String", "length", "()I"⟩).before a0 Z = true := hw_at hw 41 rfl
theorem w42 (hw : HW a0 Z) : (Jvm.Cond.declares ⟨"java/lang/String", "length", "()I"⟩).before a0 Z = true := hw_at hw 42 rfl
theorem w43 (hw : HW a0 Z) : (Jvm.Cond.instanceMethod ⟨"java/lang/String", "length", "()I"⟩).before a0 Z = true := hw_at hw 43 rfl
theorem w44 (hw : HW a0 Z) : (Jvm.Cond.selects "java/lang/String" ⟨"java/lang/String", "length", "()I"⟩ ⟨"java/lang/String", "length", "()I"⟩).before a0 Z = true := hw_at hw 44 rfl
theorem w45 (hw : HW a0 Z) : (Jvm.Cond.code ⟨"java/lang/String", "length", "()I"⟩ jdk_42_method_54_code 1 (Option.some Jvm.ClassFile.FieldType.int)).before a0 Z = true := hw_at hw 45 rfl
theorem w46 (hw : HW a0 Z) : (Jvm.Cond.methodLink "java/lang/String" 335 ⟨"java/lang/String", "coder", "()B"⟩).before a0 Z = true := hw_at hw 46 rfl
theorem w47 (hw : HW a0 Z) : (Jvm.Cond.declares ⟨"java/lang/String", "coder", "()B"⟩).before a0 Z = true := hw_at hw 47 rfl
theorem w48 (hw : HW a0 Z) : (Jvm.Cond.instanceMethod ⟨"java/lang/String", "coder", "()B"⟩).before a0 Z = true := hw_at hw 48 rfl
theorem w49 (hw : HW a0 Z) : (Jvm.Cond.selects "java/lang/String" ⟨"java/lang/String", "coder", "()B"⟩ ⟨"java/lang/String", "coder", "()B"⟩).before a0 Z = true := hw_at hw 49 rfl
theorem w50 (hw : HW a0 Z) : (Jvm.Cond.code ⟨"java/lang/String", "coder", "()B"⟩ jdk_42_method_152_code 1 (Option.some Jvm.ClassFile.FieldType.byte)).before a0 Z = true := hw_at hw 50 rfl
theorem w51 (hw : HW a0 Z) : (Jvm.Cond.methodLink "com/example/carve/carve/http/Html" 50 ⟨"java/lang/StringBuilder", "<init>", "(I)V"⟩).before a0 Z = true := hw_at hw 51 rfl
theorem w52 (hw : HW a0 Z) : (Jvm.Cond.instanceMethod ⟨"java/lang/StringBuilder", "<init>", "(I)V"⟩).before a0 Z = true := hw_at hw 52 rfl
theorem w53 (hw : HW a0 Z) : (Jvm.Cond.code ⟨"java/lang/StringBuilder", "<init>", "(I)V"⟩ jdk_67_method_2_code 2 (Option.none : Option Jvm.ClassFile.FieldType)).before a0 Z = true := hw_at hw 53 rfl
theorem w54 (hw : HW a0 Z) : (Jvm.Cond.methodLink "java/lang/StringBuilder" 1 ⟨"java/lang/AbstractStringBuilder", "<init>", "(I)V"⟩).before a0 Z = true := hw_at hw 54 rfl
theorem w55 (hw : HW a0 Z) : (Jvm.Cond.instanceMethod ⟨"java/lang/AbstractStringBuilder", "<init>", "(I)V"⟩).before a0 Z = true := hw_at hw 55 rfl
theorem w58 (hw : HW a0 Z) : (Jvm.Cond.initialized "java/lang/AbstractStringBuilder").before a0 Z = true := hw_at hw 58 rfl
theorem w59 (hw : HW a0 Z) : (Jvm.Cond.code ⟨"java/lang/AbstractStringBuilder", "<init>", "(I)V"⟩ jdk_68_method_2_code 2 (Option.none : Option Jvm.ClassFile.FieldType)).before a0 Z = true := hw_at hw 59 rfl
theorem w60 (hw : HW a0 Z) : (Jvm.Cond.methodLink "java/lang/AbstractStringBuilder" 3 ⟨"java/lang/Object", "<init>", "()V"⟩).before a0 Z = true := hw_at hw 60 rfl
theorem w61 (hw : HW a0 Z) : (Jvm.Cond.fieldLink "java/lang/AbstractStringBuilder" 18 "java/lang/String" "COMPACT_STRINGS" "Z").before a0 Z = true := hw_at hw 61 rfl
theorem w62 (hw : HW a0 Z) : (Jvm.Cond.fieldLink "java/lang/AbstractStringBuilder" 15 "java/lang/AbstractStringBuilder" "value" "[B").before a0 Z = true := hw_at hw 62 rfl
theorem w63 (hw : HW a0 Z) : (Jvm.Cond.lays "java/lang/StringBuilder" "java/lang/AbstractStringBuilder" "value" "[B").before a0 Z = true := hw_at hw 63 rfl
theorem w64 (hw : HW a0 Z) : (Jvm.Cond.fieldLink "java/lang/AbstractStringBuilder" 22 "java/lang/AbstractStringBuilder" "coder" "B").before a0 Z = true := hw_at hw 64 rfl
theorem w65 (hw : HW a0 Z) : (Jvm.Cond.lays "java/lang/StringBuilder" "java/lang/AbstractStringBuilder" "coder" "B").before a0 Z = true := hw_at hw 65 rfl
theorem w66 (hw : HW a0 Z) : (Jvm.Cond.methodLink "com/example/carve/carve/http/Html" 53 ⟨"java/lang/String", "charAt", "(I)C"⟩).before a0 Z = true := hw_at hw 66 rfl
theorem w67 (hw : HW a0 Z) : (Jvm.Cond.declares ⟨"java/lang/String", "charAt", "(I)C"⟩).before a0 Z = true := hw_at hw 67 rfl
theorem w68 (hw : HW a0 Z) : (Jvm.Cond.instanceMethod ⟨"java/lang/String", "charAt", "(I)C"⟩).before a0 Z = true := hw_at hw 68 rfl
theorem w69 (hw : HW a0 Z) : (Jvm.Cond.selects "java/lang/String" ⟨"java/lang/String", "charAt", "(I)C"⟩ ⟨"java/lang/String", "charAt", "(I)C"⟩).before a0 Z = true := hw_at hw 69 rfl
theorem w70 (hw : HW a0 Z) : (Jvm.Cond.code ⟨"java/lang/String", "charAt", "(I)C"⟩ jdk_42_method_56_code 2 (Option.some Jvm.ClassFile.FieldType.char)).before a0 Z = true := hw_at hw 70 rfl
theorem w71 (hw : HW a0 Z) : (Jvm.Cond.methodLink "java/lang/String" 492 ⟨"java/lang/String", "isLatin1", "()Z"⟩).before a0 Z = true := hw_at hw 71 rfl
theorem w72 (hw : HW a0 Z) : (Jvm.Cond.declares ⟨"java/lang/String", "isLatin1", "()Z"⟩).before a0 Z = true := hw_at hw 72 rfl
theorem w73 (hw : HW a0 Z) : (Jvm.Cond.instanceMethod ⟨"java/lang/String", "isLatin1", "()Z"⟩).before a0 Z = true := hw_at hw 73 rfl
theorem w74 (hw : HW a0 Z) : (Jvm.Cond.selects "java/lang/String" ⟨"java/lang/String", "isLatin1", "()Z"⟩ ⟨"java/lang/String", "isLatin1", "()Z"⟩).before a0 Z = true := hw_at hw 74 rfl
theorem w75 (hw : HW a0 Z) : (Jvm.Cond.code ⟨"java/lang/String", "isLatin1", "()Z"⟩ jdk_42_method_154_code 1 (Option.some Jvm.ClassFile.FieldType.boolean)).before a0 Z = true := hw_at hw 75 rfl
theorem w76 (hw : HW a0 Z) : (Jvm.Cond.methodLink "java/lang/String" 495 ⟨"java/lang/StringLatin1", "charAt", "([BI)C"⟩).before a0 Z = true := hw_at hw 76 rfl
theorem w77 (hw : HW a0 Z) : (Jvm.Cond.static ⟨"java/lang/StringLatin1", "charAt", "([BI)C"⟩).before a0 Z = true := hw_at hw 77 rfl
theorem w78 (hw : HW a0 Z) : (Jvm.Cond.initialized "java/lang/StringLatin1").before a0 Z = true := hw_at hw 78 rfl
theorem w79 (hw : HW a0 Z) : (Jvm.Cond.code ⟨"java/lang/StringLatin1", "charAt", "([BI)C"⟩ jdk_43_method_2_code 2 (Option.some Jvm.ClassFile.FieldType.char)).before a0 Z = true := hw_at hw 79 rfl
theorem w80 (hw : HW a0 Z) : (Jvm.Cond.methodLink "java/lang/StringLatin1" 9 ⟨"java/lang/String", "checkIndex", "(II)V"⟩).before a0 Z = true := hw_at hw 80 rfl
theorem w81 (hw : HW a0 Z) : (Jvm.Cond.static ⟨"java/lang/String", "checkIndex", "(II)V"⟩).before a0 Z = true := hw_at hw 81 rfl
theorem w82 (hw : HW a0 Z) : (Jvm.Cond.code ⟨"java/lang/String", "checkIndex", "(II)V"⟩ jdk_42_method_155_code 2 (Option.none : Option Jvm.ClassFile.FieldType)).before a0 Z = true := hw_at hw 82 rfl
theorem w83 (hw : HW a0 Z) : (Jvm.Cond.fieldLink "java/lang/String" 1053 "jdk/internal/util/Preconditions" "SIOOBE_FORMATTER" "Ljava/util/function/BiFunction;").before a0 Z = true := hw_at hw 83 rfl
theorem w84 (hw : HW a0 Z) : (Jvm.Cond.initialized "jdk/internal/util/Preconditions").before a0 Z = true := hw_at hw 84 rfl
theorem w85 (hw : HW a0 Z) : (Jvm.Cond.methodLink "java/lang/String" 1059 ⟨"jdk/internal/util/Preconditions", "checkIndex", "(IILjava/util/function/BiFunction;)I"⟩).before a0 Z = true := hw_at hw 85 rfl
theorem w86 (hw : HW a0 Z) : (Jvm.Cond.static ⟨"jdk/internal/util/Preconditions", "checkIndex", "(IILjava/util/function/BiFunction;)I"⟩).before a0 Z = true := hw_at hw 86 rfl
theorem w87 (hw : HW a0 Z) : (Jvm.Cond.code ⟨"jdk/internal/util/Preconditions", "checkIndex", "(IILjava/util/function/BiFunction;)I"⟩ jdk_41_method_11_code 3 (Option.some Jvm.ClassFile.FieldType.int)).before a0 Z = true := hw_at hw 87 rfl
theorem w88 (hw : HW a0 Z) : (Jvm.Cond.stringLink "com/example/carve/carve/http/Html" 57 "&amp;").before a0 Z = true := hw_at hw 88 rfl
theorem w91 (hw : HW a0 Z) : (Jvm.Cond.methodLink "com/example/carve/carve/http/Html" 20 ⟨"java/lang/StringBuilder", "append", "(Ljava/lang/String;)Ljava/lang/StringBuilder;"⟩).before a0 Z = true := hw_at hw 91 rfl
theorem w92 (hw : HW a0 Z) : (Jvm.Cond.declares ⟨"java/lang/StringBuilder", "append", "(Ljava/lang/String;)Ljava/lang/StringBuilder;"⟩).before a0 Z = true := hw_at hw 92 rfl
theorem w93 (hw : HW a0 Z) : (Jvm.Cond.instanceMethod ⟨"java/lang/StringBuilder", "append", "(Ljava/lang/String;)Ljava/lang/StringBuilder;"⟩).before a0 Z = true := hw_at hw 93 rfl
theorem w94 (hw : HW a0 Z) : (Jvm.Cond.selects "java/lang/StringBuilder" ⟨"java/lang/StringBuilder", "append", "(Ljava/lang/String;)Ljava/lang/StringBuilder;"⟩ ⟨"java/lang/StringBuilder", "append", "(Ljava/lang/String;)Ljava/lang/StringBuilder;"⟩).before a0 Z = true := hw_at hw 94 rfl
theorem w95 (hw : HW a0 Z) : (Jvm.Cond.code ⟨"java/lang/StringBuilder", "append", "(Ljava/lang/String;)Ljava/lang/StringBuilder;"⟩ jdk_67_method_7_code 2 (Option.some (Jvm.ClassFile.FieldType.object "java/lang/StringBuilder"))).before a0 Z = true := hw_at hw 95 rfl
theorem w96 (hw : HW a0 Z) : (Jvm.Cond.methodLink "java/lang/StringBuilder" 29 ⟨"java/lang/AbstractStringBuilder", "append", "(Ljava/lang/String;)Ljava/lang/AbstractStringBuilder;"⟩).before a0 Z = true := hw_at hw 96 rfl
theorem w97 (hw : HW a0 Z) : (Jvm.Cond.instanceMethod ⟨"java/lang/AbstractStringBuilder", "append", "(Ljava/lang/String;)Ljava/lang/AbstractStringBuilder;"⟩).before a0 Z = true := hw_at hw 97 rfl
theorem w98 (hw : HW a0 Z) : (Jvm.Cond.superclass "java/lang/StringBuilder" "java/lang/AbstractStringBuilder").before a0 Z = true := hw_at hw 98 rfl
theorem w100 (hw : HW a0 Z) : (Jvm.Cond.code ⟨"java/lang/AbstractStringBuilder", "append", "(Ljava/lang/String;)Ljava/lang/AbstractStringBuilder;"⟩ jdk_68_method_22_code 3 (Option.some (Jvm.ClassFile.FieldType.object "java/lang/AbstractStringBuilder"))).before a0 Z = true := hw_at hw 100 rfl
theorem w101 (hw : HW a0 Z) : (Jvm.Cond.methodLink "java/lang/AbstractStringBuilder" 32 ⟨"java/lang/String", "length", "()I"⟩).before a0 Z = true := hw_at hw 101 rfl
theorem w102 (hw : HW a0 Z) : (Jvm.Cond.fieldLink "java/lang/AbstractStringBuilder" 79 "java/lang/AbstractStringBuilder" "count" "I").before a0 Z = true := hw_at hw 102 rfl
theorem w103 (hw : HW a0 Z) : (Jvm.Cond.lays "java/lang/StringBuilder" "java/lang/AbstractStringBuilder" "count" "I").before a0 Z = true := hw_at hw 103 rfl
theorem w104 (hw : HW a0 Z) : (Jvm.Cond.methodLink "java/lang/AbstractStringBuilder" 100 ⟨"java/lang/AbstractStringBuilder", "ensureCapacityInternal", "(I)V"⟩).before a0 Z = true := hw_at hw 104 rfl
theorem w105 (hw : HW a0 Z) : (Jvm.Cond.instanceMethod ⟨"java/lang/AbstractStringBuilder", "ensureCapacityInternal", "(I)V"⟩).before a0 Z = true := hw_at hw 105 rfl
theorem w106 (hw : HW a0 Z) : (Jvm.Cond.privateMethod ⟨"java/lang/AbstractStringBuilder", "ensureCapacityInternal", "(I)V"⟩).before a0 Z = true := hw_at hw 106 rfl
theorem w107 (hw : HW a0 Z) : (Jvm.Cond.selects "java/lang/StringBuilder" ⟨"java/lang/AbstractStringBuilder", "ensureCapacityInternal", "(I)V"⟩ ⟨"java/lang/AbstractStringBuilder", "ensureCapacityInternal", "(I)V"⟩).before a0 Z = true := hw_at hw 107 rfl
theorem w108 (hw : HW a0 Z) : (Jvm.Cond.code ⟨"java/lang/AbstractStringBuilder", "ensureCapacityInternal", "(I)V"⟩ jdk_68_method_9_code 3 (Option.none : Option Jvm.ClassFile.FieldType)).before a0 Z = true := hw_at hw 108 rfl
theorem w109 (hw : HW a0 Z) : (Jvm.Cond.methodLink "java/lang/AbstractStringBuilder" 104 ⟨"java/lang/AbstractStringBuilder", "newCapacity", "(I)I"⟩).before a0 Z = true := hw_at hw 109 rfl
theorem w110 (hw : HW a0 Z) : (Jvm.Cond.instanceMethod ⟨"java/lang/AbstractStringBuilder", "newCapacity", "(I)I"⟩).before a0 Z = true := hw_at hw 110 rfl
theorem w111 (hw : HW a0 Z) : (Jvm.Cond.privateMethod ⟨"java/lang/AbstractStringBuilder", "newCapacity", "(I)I"⟩).before a0 Z = true := hw_at hw 111 rfl
theorem w112 (hw : HW a0 Z) : (Jvm.Cond.selects "java/lang/StringBuilder" ⟨"java/lang/AbstractStringBuilder", "newCapacity", "(I)I"⟩ ⟨"java/lang/AbstractStringBuilder", "newCapacity", "(I)I"⟩).before a0 Z = true := hw_at hw 112 rfl
theorem w113 (hw : HW a0 Z) : (Jvm.Cond.code ⟨"java/lang/AbstractStringBuilder", "newCapacity", "(I)I"⟩ jdk_68_method_10_code 6 (Option.some Jvm.ClassFile.FieldType.int)).before a0 Z = true := hw_at hw 113 rfl
theorem w114 (hw : HW a0 Z) : (Jvm.Cond.methodLink "java/lang/AbstractStringBuilder" 114 ⟨"jdk/internal/util/ArraysSupport", "newLength", "(III)I"⟩).before a0 Z = true := hw_at hw 114 rfl
theorem w115 (hw : HW a0 Z) : (Jvm.Cond.static ⟨"jdk/internal/util/ArraysSupport", "newLength", "(III)I"⟩).before a0 Z = true := hw_at hw 115 rfl
theorem w116 (hw : HW a0 Z) : (Jvm.Cond.initialized "jdk/internal/util/ArraysSupport").before a0 Z = true := hw_at hw 116 rfl
theorem w117 (hw : HW a0 Z) : (Jvm.Cond.code ⟨"jdk/internal/util/ArraysSupport", "newLength", "(III)I"⟩ jdk_48_method_27_code 4 (Option.some Jvm.ClassFile.FieldType.int)).before a0 Z = true := hw_at hw 117 rfl
theorem w118 (hw : HW a0 Z) : (Jvm.Cond.methodLink "jdk/internal/util/ArraysSupport" 194 ⟨"java/lang/Math", "max", "(II)I"⟩).before a0 Z = true := hw_at hw 118 rfl
theorem w119 (hw : HW a0 Z) : (Jvm.Cond.static ⟨"java/lang/Math", "max", "(II)I"⟩).before a0 Z = true := hw_at hw 119 rfl
theorem w120 (hw : HW a0 Z) : (Jvm.Cond.initialized "java/lang/Math").before a0 Z = true := hw_at hw 120 rfl
theorem w121 (hw : HW a0 Z) : (Jvm.Cond.code ⟨"java/lang/Math", "max", "(II)I"⟩ jdk_29_method_65_code 2 (Option.some Jvm.ClassFile.FieldType.int)).before a0 Z = true := hw_at hw 121 rfl
theorem w122 (hw : HW a0 Z) : (Jvm.Cond.constant "jdk/internal/util/ArraysSupport" 200 (2147483639 : Int32)).before a0 Z = true := hw_at hw 122 rfl
theorem w123 (hw : HW a0 Z) : (Jvm.Cond.constant "java/lang/AbstractStringBuilder" 39 (2147483647 : Int32)).before a0 Z = true := hw_at hw 123 rfl
theorem w124 (hw : HW a0 Z) : (Jvm.Cond.methodLink "java/lang/AbstractStringBuilder" 108 ⟨"java/util/Arrays", "copyOf", "([BI)[B"⟩).before a0 Z = true := hw_at hw 124 rfl
theorem w125 (hw : HW a0 Z) : (Jvm.Cond.static ⟨"java/util/Arrays", "copyOf", "([BI)[B"⟩).before a0 Z = true := hw_at hw 125 rfl
theorem w126 (hw : HW a0 Z) : (Jvm.Cond.initialized "java/util/Arrays").before a0 Z = true := hw_at hw 126 rfl
theorem w127 (hw : HW a0 Z) : (Jvm.Cond.code ⟨"java/util/Arrays", "copyOf", "([BI)[B"⟩ jdk_65_method_121_code 3 (Option.some (Jvm.ClassFile.FieldType.array Jvm.ClassFile.FieldType.byte))).before a0 Z = true := hw_at hw 127 rfl
theorem w128 (hw : HW a0 Z) : (Jvm.Cond.methodLink "java/util/Arrays" 304 ⟨"java/lang/Math", "min", "(II)I"⟩).before a0 Z = true := hw_at hw 128 rfl
theorem w129 (hw : HW a0 Z) : (Jvm.Cond.static ⟨"java/lang/Math", "min", "(II)I"⟩).before a0 Z = true := hw_at hw 129 rfl
theorem w130 (hw : HW a0 Z) : (Jvm.Cond.code ⟨"java/lang/Math", "min", "(II)I"⟩ jdk_29_method_69_code 2 (Option.some Jvm.ClassFile.FieldType.int)).before a0 Z = true := hw_at hw 130 rfl
theorem w131 (hw : HW a0 Z) : (Jvm.Cond.methodLink "java/util/Arrays" 150 ⟨"java/lang/System", "arraycopy", "(Ljava/lang/Object;ILjava/lang/Object;II)V"⟩).before a0 Z = true := hw_at hw 131 rfl
theorem w132 (hw : HW a0 Z) : (Jvm.Cond.static ⟨"java/lang/System", "arraycopy", "(Ljava/lang/Object;ILjava/lang/Object;II)V"⟩).before a0 Z = true := hw_at hw 132 rfl
theorem w133 (hw : HW a0 Z) : (Jvm.Cond.initialized "java/lang/System").before a0 Z = true := hw_at hw 133 rfl
theorem w134 (hw : HW a0 Z) : (Jvm.Cond.native ⟨"java/lang/System", "arraycopy", "(Ljava/lang/Object;ILjava/lang/Object;II)V"⟩).before a0 Z = true := hw_at hw 134 rfl
theorem w135 (hw : HW a0 Z) : (Jvm.Cond.methodLink "java/lang/AbstractStringBuilder" 208 ⟨"java/lang/AbstractStringBuilder", "putStringAt", "(ILjava/lang/String;)V"⟩).before a0 Z = true := hw_at hw 135 rfl
theorem w136 (hw : HW a0 Z) : (Jvm.Cond.instanceMethod ⟨"java/lang/AbstractStringBuilder", "putStringAt", "(ILjava/lang/String;)V"⟩).before a0 Z = true := hw_at hw 136 rfl
theorem w137 (hw : HW a0 Z) : (Jvm.Cond.privateMethod ⟨"java/lang/AbstractStringBuilder", "putStringAt", "(ILjava/lang/String;)V"⟩).before a0 Z = true := hw_at hw 137 rfl
theorem w138 (hw : HW a0 Z) : (Jvm.Cond.selects "java/lang/StringBuilder" ⟨"java/lang/AbstractStringBuilder", "putStringAt", "(ILjava/lang/String;)V"⟩ ⟨"java/lang/AbstractStringBuilder", "putStringAt", "(ILjava/lang/String;)V"⟩).before a0 Z = true := hw_at hw 138 rfl
theorem w139 (hw : HW a0 Z) : (Jvm.Cond.code ⟨"java/lang/AbstractStringBuilder", "putStringAt", "(ILjava/lang/String;)V"⟩ jdk_68_method_73_code 3 (Option.none : Option Jvm.ClassFile.FieldType)).before a0 Z = true := hw_at hw 139 rfl
theorem w140 (hw : HW a0 Z) : (Jvm.Cond.methodLink "java/lang/AbstractStringBuilder" 397 ⟨"java/lang/AbstractStringBuilder", "inflateIfNeededFor", "(Ljava/lang/String;)V"⟩).before a0 Z = true := hw_at hw 140 rfl
theorem w141 (hw : HW a0 Z) : (Jvm.Cond.instanceMethod ⟨"java/lang/AbstractStringBuilder", "inflateIfNeededFor", "(Ljava/lang/String;)V"⟩).before a0 Z = true := hw_at hw 141 rfl
theorem w142 (hw : HW a0 Z) : (Jvm.Cond.privateMethod ⟨"java/lang/AbstractStringBuilder", "inflateIfNeededFor", "(Ljava/lang/String;)V"⟩).before a0 Z = true := hw_at hw 142 rfl
theorem w143 (hw : HW a0 Z) : (Jvm.Cond.selects "java/lang/StringBuilder" ⟨"java/lang/AbstractStringBuilder", "inflateIfNeededFor", "(Ljava/lang/String;)V"⟩ ⟨"java/lang/AbstractStringBuilder", "inflateIfNeededFor", "(Ljava/lang/String;)V"⟩).before a0 Z = true := hw_at hw 143 rfl
theorem w144 (hw : HW a0 Z) : (Jvm.Cond.code ⟨"java/lang/AbstractStringBuilder", "inflateIfNeededFor", "(Ljava/lang/String;)V"⟩ jdk_68_method_71_code 2 (Option.none : Option Jvm.ClassFile.FieldType)).before a0 Z = true := hw_at hw 144 rfl
theorem w145 (hw : HW a0 Z) : (Jvm.Cond.methodLink "java/lang/AbstractStringBuilder" 40 ⟨"java/lang/String", "coder", "()B"⟩).before a0 Z = true := hw_at hw 145 rfl
theorem w146 (hw : HW a0 Z) : (Jvm.Cond.methodLink "java/lang/AbstractStringBuilder" 399 ⟨"java/lang/String", "getBytes", "([BIB)V"⟩).before a0 Z = true := hw_at hw 146 rfl
theorem w147 (hw : HW a0 Z) : (Jvm.Cond.declares ⟨"java/lang/String", "getBytes", "([BIB)V"⟩).before a0 Z = true := hw_at hw 147 rfl
theorem w148 (hw : HW a0 Z) : (Jvm.Cond.instanceMethod ⟨"java/lang/String", "getBytes", "([BIB)V"⟩).before a0 Z = true := hw_at hw 148 rfl
theorem w149 (hw : HW a0 Z) : (Jvm.Cond.selects "java/lang/String" ⟨"java/lang/String", "getBytes", "([BIB)V"⟩ ⟨"java/lang/String", "getBytes", "([BIB)V"⟩).before a0 Z = true := hw_at hw 149 rfl
theorem w150 (hw : HW a0 Z) : (Jvm.Cond.code ⟨"java/lang/String", "getBytes", "([BIB)V"⟩ jdk_42_method_147_code 4 (Option.none : Option Jvm.ClassFile.FieldType)).before a0 Z = true := hw_at hw 150 rfl
theorem w151 (hw : HW a0 Z) : (Jvm.Cond.methodLink "java/lang/String" 212 ⟨"java/lang/System", "arraycopy", "(Ljava/lang/Object;ILjava/lang/Object;II)V"⟩).before a0 Z = true := hw_at hw 151 rfl
theorem w152 (hw : HW a0 Z) : (Jvm.Cond.methodLink "com/example/carve/carve/http/Html" 65 ⟨"java/lang/StringBuilder", "toString", "()Ljava/lang/String;"⟩).before a0 Z = true := hw_at hw 152 rfl
theorem w153 (hw : HW a0 Z) : (Jvm.Cond.declares ⟨"java/lang/StringBuilder", "toString", "()Ljava/lang/String;"⟩).before a0 Z = true := hw_at hw 153 rfl
theorem w154 (hw : HW a0 Z) : (Jvm.Cond.instanceMethod ⟨"java/lang/StringBuilder", "toString", "()Ljava/lang/String;"⟩).before a0 Z = true := hw_at hw 154 rfl
theorem w155 (hw : HW a0 Z) : (Jvm.Cond.selects "java/lang/StringBuilder" ⟨"java/lang/StringBuilder", "toString", "()Ljava/lang/String;"⟩ ⟨"java/lang/StringBuilder", "toString", "()Ljava/lang/String;"⟩).before a0 Z = true := hw_at hw 155 rfl
theorem w156 (hw : HW a0 Z) : (Jvm.Cond.code ⟨"java/lang/StringBuilder", "toString", "()Ljava/lang/String;"⟩ jdk_67_method_42_code 1 (Option.some (Jvm.ClassFile.FieldType.object "java/lang/String"))).before a0 Z = true := hw_at hw 156 rfl
theorem w157 (hw : HW a0 Z) : (Jvm.Cond.classLink "java/lang/StringBuilder" 18 "java/lang/String").before a0 Z = true := hw_at hw 157 rfl
theorem w158 (hw : HW a0 Z) : (Jvm.Cond.methodLink "java/lang/StringBuilder" 137 ⟨"java/lang/String", "<init>", "(Ljava/lang/StringBuilder;)V"⟩).before a0 Z = true := hw_at hw 158 rfl
theorem w159 (hw : HW a0 Z) : (Jvm.Cond.instanceMethod ⟨"java/lang/String", "<init>", "(Ljava/lang/StringBuilder;)V"⟩).before a0 Z = true := hw_at hw 159 rfl
theorem w160 (hw : HW a0 Z) : (Jvm.Cond.code ⟨"java/lang/String", "<init>", "(Ljava/lang/StringBuilder;)V"⟩ jdk_42_method_53_code 2 (Option.none : Option Jvm.ClassFile.FieldType)).before a0 Z = true := hw_at hw 160 rfl
theorem w161 (hw : HW a0 Z) : (Jvm.Cond.methodLink "java/lang/String" 489 ⟨"java/lang/String", "<init>", "(Ljava/lang/AbstractStringBuilder;Ljava/lang/Void;)V"⟩).before a0 Z = true := hw_at hw 161 rfl
theorem w162 (hw : HW a0 Z) : (Jvm.Cond.instanceMethod ⟨"java/lang/String", "<init>", "(Ljava/lang/AbstractStringBuilder;Ljava/lang/Void;)V"⟩).before a0 Z = true := hw_at hw 162 rfl
theorem w163 (hw : HW a0 Z) : (Jvm.Cond.code ⟨"java/lang/String", "<init>", "(Ljava/lang/AbstractStringBuilder;Ljava/lang/Void;)V"⟩ jdk_42_method_150_code 5 (Option.none : Option Jvm.ClassFile.FieldType)).before a0 Z = true := hw_at hw 163 rfl
theorem w164 (hw : HW a0 Z) : (Jvm.Cond.methodLink "java/lang/String" 552 ⟨"java/lang/AbstractStringBuilder", "getValue", "()[B"⟩).before a0 Z = true := hw_at hw 164 rfl
theorem w165 (hw : HW a0 Z) : (Jvm.Cond.declares ⟨"java/lang/AbstractStringBuilder", "getValue", "()[B"⟩).before a0 Z = true := hw_at hw 165 rfl
theorem w166 (hw : HW a0 Z) : (Jvm.Cond.instanceMethod ⟨"java/lang/AbstractStringBuilder", "getValue", "()[B"⟩).before a0 Z = true := hw_at hw 166 rfl
theorem w167 (hw : HW a0 Z) : (Jvm.Cond.selects "java/lang/StringBuilder" ⟨"java/lang/AbstractStringBuilder", "getValue", "()[B"⟩ ⟨"java/lang/AbstractStringBuilder", "getValue", "()[B"⟩).before a0 Z = true := hw_at hw 167 rfl
theorem w168 (hw : HW a0 Z) : (Jvm.Cond.code ⟨"java/lang/AbstractStringBuilder", "getValue", "()[B"⟩ jdk_68_method_64_code 1 (Option.some (Jvm.ClassFile.FieldType.array Jvm.ClassFile.FieldType.byte))).before a0 Z = true := hw_at hw 168 rfl
theorem w169 (hw : HW a0 Z) : (Jvm.Cond.methodLink "java/lang/String" 549 ⟨"java/lang/AbstractStringBuilder", "length", "()I"⟩).before a0 Z = true := hw_at hw 169 rfl
theorem w170 (hw : HW a0 Z) : (Jvm.Cond.declares ⟨"java/lang/AbstractStringBuilder", "length", "()I"⟩).before a0 Z = true := hw_at hw 170 rfl
theorem w171 (hw : HW a0 Z) : (Jvm.Cond.instanceMethod ⟨"java/lang/AbstractStringBuilder", "length", "()I"⟩).before a0 Z = true := hw_at hw 171 rfl
theorem w172 (hw : HW a0 Z) : (Jvm.Cond.selects "java/lang/StringBuilder" ⟨"java/lang/AbstractStringBuilder", "length", "()I"⟩ ⟨"java/lang/StringBuilder", "length", "()I"⟩).before a0 Z = true := hw_at hw 172 rfl
theorem w173 (hw : HW a0 Z) : (Jvm.Cond.instanceMethod ⟨"java/lang/StringBuilder", "length", "()I"⟩).before a0 Z = true := hw_at hw 173 rfl
theorem w174 (hw : HW a0 Z) : (Jvm.Cond.code ⟨"java/lang/StringBuilder", "length", "()I"⟩ jdk_67_method_93_code 1 (Option.some Jvm.ClassFile.FieldType.int)).before a0 Z = true := hw_at hw 174 rfl
theorem w175 (hw : HW a0 Z) : (Jvm.Cond.methodLink "java/lang/StringBuilder" 343 ⟨"java/lang/AbstractStringBuilder", "length", "()I"⟩).before a0 Z = true := hw_at hw 175 rfl
theorem w176 (hw : HW a0 Z) : (Jvm.Cond.code ⟨"java/lang/AbstractStringBuilder", "length", "()I"⟩ jdk_68_method_6_code 1 (Option.some Jvm.ClassFile.FieldType.int)).before a0 Z = true := hw_at hw 176 rfl
theorem w177 (hw : HW a0 Z) : (Jvm.Cond.methodLink "java/lang/String" 1047 ⟨"java/lang/AbstractStringBuilder", "isLatin1", "()Z"⟩).before a0 Z = true := hw_at hw 177 rfl
theorem w178 (hw : HW a0 Z) : (Jvm.Cond.declares ⟨"java/lang/AbstractStringBuilder", "isLatin1", "()Z"⟩).before a0 Z = true := hw_at hw 178 rfl
theorem w179 (hw : HW a0 Z) : (Jvm.Cond.instanceMethod ⟨"java/lang/AbstractStringBuilder", "isLatin1", "()Z"⟩).before a0 Z = true := hw_at hw 179 rfl
theorem w180 (hw : HW a0 Z) : (Jvm.Cond.selects "java/lang/StringBuilder" ⟨"java/lang/AbstractStringBuilder", "isLatin1", "()Z"⟩ ⟨"java/lang/AbstractStringBuilder", "isLatin1", "()Z"⟩).before a0 Z = true := hw_at hw 180 rfl
theorem w181 (hw : HW a0 Z) : (Jvm.Cond.code ⟨"java/lang/AbstractStringBuilder", "isLatin1", "()Z"⟩ jdk_68_method_68_code 1 (Option.some Jvm.ClassFile.FieldType.boolean)).before a0 Z = true := hw_at hw 181 rfl
theorem w182 (hw : HW a0 Z) : (Jvm.Cond.methodLink "java/lang/String" 54 ⟨"java/util/Arrays", "copyOfRange", "([BII)[B"⟩).before a0 Z = true := hw_at hw 182 rfl
theorem w183 (hw : HW a0 Z) : (Jvm.Cond.static ⟨"java/util/Arrays", "copyOfRange", "([BII)[B"⟩).before a0 Z = true := hw_at hw 183 rfl
theorem w184 (hw : HW a0 Z) : (Jvm.Cond.code ⟨"java/util/Arrays", "copyOfRange", "([BII)[B"⟩ jdk_65_method_132_code 3 (Option.some (Jvm.ClassFile.FieldType.array Jvm.ClassFile.FieldType.byte))).before a0 Z = true := hw_at hw 184 rfl
theorem w185 (hw : HW a0 Z) : (Jvm.Cond.methodLink "java/util/Arrays" 310 ⟨"[B", "clone", "()Ljava/lang/Object;"⟩).before a0 Z = true := hw_at hw 185 rfl
theorem w186 (hw : HW a0 Z) : (Jvm.Cond.sameMethod "[B" "java/lang/Object" "clone" "()Ljava/lang/Object;").before a0 Z = true := hw_at hw 186 rfl
theorem w188 (hw : HW a0 Z) : (Jvm.Cond.instanceMethod ⟨"java/lang/Object", "clone", "()Ljava/lang/Object;"⟩).before a0 Z = true := hw_at hw 188 rfl
theorem w189 (hw : HW a0 Z) : (Jvm.Cond.selects "[B" ⟨"[B", "clone", "()Ljava/lang/Object;"⟩ ⟨"java/lang/Object", "clone", "()Ljava/lang/Object;"⟩).before a0 Z = true := hw_at hw 189 rfl
theorem w190 (hw : HW a0 Z) : (Jvm.Cond.native ⟨"java/lang/Object", "clone", "()Ljava/lang/Object;"⟩).before a0 Z = true := hw_at hw 190 rfl
theorem w191 (hw : HW a0 Z) : (Jvm.Cond.castable "[B" "java/lang/Cloneable").before a0 Z = true := hw_at hw 191 rfl
theorem w192 (hw : HW a0 Z) : (Jvm.Cond.classLink "java/util/Arrays" 311 "[B").before a0 Z = true := hw_at hw 192 rfl
theorem w194 (hw : HW a0 Z) : (Jvm.Cond.methodLink "com/example/carve/carve/http/HtmlEscapePinLaw" 43 ⟨"com/example/carve/carve/http/HtmlEscapePinLaw", "piece", "(C)Ljava/lang/String;"⟩).before a0 Z = true := hw_at hw 194 rfl
theorem w195 (hw : HW a0 Z) : (Jvm.Cond.static ⟨"com/example/carve/carve/http/HtmlEscapePinLaw", "piece", "(C)Ljava/lang/String;"⟩).before a0 Z = true := hw_at hw 195 rfl
theorem w196 (hw : HW a0 Z) : (Jvm.Cond.code ⟨"com/example/carve/carve/http/HtmlEscapePinLaw", "piece", "(C)Ljava/lang/String;"⟩ method_3_code 1 (Option.some (Jvm.ClassFile.FieldType.object "java/lang/String"))).before a0 Z = true := hw_at hw 196 rfl
theorem w197 (hw : HW a0 Z) : (Jvm.Cond.stringLink "com/example/carve/carve/http/HtmlEscapePinLaw" 7 "&amp;").before a0 Z = true := hw_at hw 197 rfl
theorem w198 (hw : HW a0 Z) : (Jvm.Cond.stringLink "com/example/carve/carve/http/HtmlEscapePinLaw" 13 "&quot;").before a0 Z = true := hw_at hw 198 rfl
theorem w199 (hw : HW a0 Z) : (Jvm.Cond.stringLink "com/example/carve/carve/http/HtmlEscapePinLaw" 11 "&gt;").before a0 Z = true := hw_at hw 199 rfl
theorem w200 (hw : HW a0 Z) : (Jvm.Cond.methodLink "com/example/carve/carve/http/HtmlEscapePinLaw" 21 ⟨"java/lang/String", "length", "()I"⟩).before a0 Z = true := hw_at hw 200 rfl
theorem w201 (hw : HW a0 Z) : (Jvm.Cond.methodLink "com/example/carve/carve/http/HtmlEscapePinLaw" 46 ⟨"com/example/carve/carve/http/HtmlEscapePinLaw", "at", "(Ljava/lang/String;ILjava/lang/String;)Z"⟩).before a0 Z = true := hw_at hw 201 rfl
theorem w202 (hw : HW a0 Z) : (Jvm.Cond.static ⟨"com/example/carve/carve/http/HtmlEscapePinLaw", "at", "(Ljava/lang/String;ILjava/lang/String;)Z"⟩).before a0 Z = true := hw_at hw 202 rfl
theorem w203 (hw : HW a0 Z) : (Jvm.Cond.code ⟨"com/example/carve/carve/http/HtmlEscapePinLaw", "at", "(Ljava/lang/String;ILjava/lang/String;)Z"⟩ method_4_code 4 (Option.some Jvm.ClassFile.FieldType.boolean)).before a0 Z = true := hw_at hw 203 rfl
theorem w204 (hw : HW a0 Z) : (Jvm.Cond.methodLink "com/example/carve/carve/http/HtmlEscapePinLaw" 25 ⟨"java/lang/String", "charAt", "(I)C"⟩).before a0 Z = true := hw_at hw 204 rfl
theorem w205 (hw : HW a0 Z) : (Jvm.Cond.methodLink "com/example/carve/carve/http/Html" 16 ⟨"java/lang/StringBuilder", "append", "(C)Ljava/lang/StringBuilder;"⟩).before a0 Z = true := hw_at hw 205 rfl
theorem w206 (hw : HW a0 Z) : (Jvm.Cond.declares ⟨"java/lang/StringBuilder", "append", "(C)Ljava/lang/StringBuilder;"⟩).before a0 Z = true := hw_at hw 206 rfl
theorem w207 (hw : HW a0 Z) : (Jvm.Cond.instanceMethod ⟨"java/lang/StringBuilder", "append", "(C)Ljava/lang/StringBuilder;"⟩).before a0 Z = true := hw_at hw 207 rfl
theorem w208 (hw : HW a0 Z) : (Jvm.Cond.selects "java/lang/StringBuilder" ⟨"java/lang/StringBuilder", "append", "(C)Ljava/lang/StringBuilder;"⟩ ⟨"java/lang/StringBuilder", "append", "(C)Ljava/lang/StringBuilder;"⟩).before a0 Z = true := hw_at hw 208 rfl
theorem w209 (hw : HW a0 Z) : (Jvm.Cond.code ⟨"java/lang/StringBuilder", "append", "(C)Ljava/lang/StringBuilder;"⟩ jdk_67_method_14_code 2 (Option.some (Jvm.ClassFile.FieldType.object "java/lang/StringBuilder"))).before a0 Z = true := hw_at hw 209 rfl
theorem w210 (hw : HW a0 Z) : (Jvm.Cond.methodLink "java/lang/StringBuilder" 50 ⟨"java/lang/AbstractStringBuilder", "append", "(C)Ljava/lang/AbstractStringBuilder;"⟩).before a0 Z = true := hw_at hw 210 rfl
theorem w211 (hw : HW a0 Z) : (Jvm.Cond.instanceMethod ⟨"java/lang/AbstractStringBuilder", "append", "(C)Ljava/lang/AbstractStringBuilder;"⟩).before a0 Z = true := hw_at hw 211 rfl
theorem w213 (hw : HW a0 Z) : (Jvm.Cond.code ⟨"java/lang/AbstractStringBuilder", "append", "(C)Ljava/lang/AbstractStringBuilder;"⟩ jdk_68_method_31_code 2 (Option.some (Jvm.ClassFile.FieldType.object "java/lang/AbstractStringBuilder"))).before a0 Z = true := hw_at hw 213 rfl
theorem w214 (hw : HW a0 Z) : (Jvm.Cond.methodLink "java/lang/AbstractStringBuilder" 83 ⟨"java/lang/AbstractStringBuilder", "isLatin1", "()Z"⟩).before a0 Z = true := hw_at hw 214 rfl
theorem w215 (hw : HW a0 Z) : (Jvm.Cond.methodLink "java/lang/AbstractStringBuilder" 191 ⟨"java/lang/StringLatin1", "canEncode", "(C)Z"⟩).before a0 Z = true := hw_at hw 215 rfl
theorem w216 (hw : HW a0 Z) : (Jvm.Cond.static ⟨"java/lang/StringLatin1", "canEncode", "(C)Z"⟩).before a0 Z = true := hw_at hw 216 rfl
theorem w217 (hw : HW a0 Z) : (Jvm.Cond.code ⟨"java/lang/StringLatin1", "canEncode", "(C)Z"⟩ jdk_43_method_3_code 1 (Option.some Jvm.ClassFile.FieldType.boolean)).before a0 Z = true := hw_at hw 217 rfl
theorem w218 (hw : HW a0 Z) : (Jvm.Cond.stringLink "com/example/carve/carve/http/Html" 63 "&quot;").before a0 Z = true := hw_at hw 218 rfl
theorem w219 (hw : HW a0 Z) : (Jvm.Cond.methodLink "com/example/carve/carve/http/HtmlEscapePinLaw" 15 ⟨"java/lang/String", "valueOf", "(C)Ljava/lang/String;"⟩).before a0 Z = true := hw_at hw 219 rfl
theorem w220 (hw : HW a0 Z) : (Jvm.Cond.static ⟨"java/lang/String", "valueOf", "(C)Ljava/lang/String;"⟩).before a0 Z = true := hw_at hw 220 rfl
theorem w221 (hw : HW a0 Z) : (Jvm.Cond.code ⟨"java/lang/String", "valueOf", "(C)Ljava/lang/String;"⟩ jdk_42_method_139_code 1 (Option.some (Jvm.ClassFile.FieldType.object "java/lang/String"))).before a0 Z = true := hw_at hw 221 rfl
theorem w222 (hw : HW a0 Z) : (Jvm.Cond.methodLink "java/lang/String" 1015 ⟨"java/lang/StringLatin1", "canEncode", "(C)Z"⟩).before a0 Z = true := hw_at hw 222 rfl
theorem w223 (hw : HW a0 Z) : (Jvm.Cond.classLink "java/lang/String" 10 "java/lang/String").before a0 Z = true := hw_at hw 223 rfl
theorem w224 (hw : HW a0 Z) : (Jvm.Cond.methodLink "java/lang/String" 1018 ⟨"java/lang/StringLatin1", "toBytes", "(C)[B"⟩).before a0 Z = true := hw_at hw 224 rfl
theorem w225 (hw : HW a0 Z) : (Jvm.Cond.static ⟨"java/lang/StringLatin1", "toBytes", "(C)[B"⟩).before a0 Z = true := hw_at hw 225 rfl
theorem w226 (hw : HW a0 Z) : (Jvm.Cond.code ⟨"java/lang/StringLatin1", "toBytes", "(C)[B"⟩ jdk_43_method_46_code 1 (Option.some (Jvm.ClassFile.FieldType.array Jvm.ClassFile.FieldType.byte))).before a0 Z = true := hw_at hw 226 rfl
theorem w227 (hw : HW a0 Z) : (Jvm.Cond.methodLink "java/lang/String" 209 ⟨"java/lang/String", "<init>", "([BB)V"⟩).before a0 Z = true := hw_at hw 227 rfl
theorem w228 (hw : HW a0 Z) : (Jvm.Cond.instanceMethod ⟨"java/lang/String", "<init>", "([BB)V"⟩).before a0 Z = true := hw_at hw 228 rfl
theorem w229 (hw : HW a0 Z) : (Jvm.Cond.code ⟨"java/lang/String", "<init>", "([BB)V"⟩ jdk_42_method_151_code 3 (Option.none : Option Jvm.ClassFile.FieldType)).before a0 Z = true := hw_at hw 229 rfl
theorem w230 (hw : HW a0 Z) : (Jvm.Cond.stringLink "java/lang/String" 7 "").before a0 Z = true := hw_at hw 230 rfl
theorem w231 (hw : HW a0 Z) : (Jvm.Cond.methodLink "java/lang/String" 1021 ⟨"java/lang/StringUTF16", "toBytes", "(C)[B"⟩).before a0 Z = true := hw_at hw 231 rfl
theorem w232 (hw : HW a0 Z) : (Jvm.Cond.static ⟨"java/lang/StringUTF16", "toBytes", "(C)[B"⟩).before a0 Z = true := hw_at hw 232 rfl
theorem w233 (hw : HW a0 Z) : (Jvm.Cond.code ⟨"java/lang/StringUTF16", "toBytes", "(C)[B"⟩ jdk_52_method_24_code 2 (Option.some (Jvm.ClassFile.FieldType.array Jvm.ClassFile.FieldType.byte))).before a0 Z = true := hw_at hw 233 rfl
theorem w234 (hw : HW a0 Z) : (Jvm.Cond.methodLink "java/lang/StringUTF16" 111 ⟨"java/lang/StringUTF16", "putChar", "([BII)V"⟩).before a0 Z = true := hw_at hw 234 rfl
theorem w235 (hw : HW a0 Z) : (Jvm.Cond.static ⟨"java/lang/StringUTF16", "putChar", "([BII)V"⟩).before a0 Z = true := hw_at hw 235 rfl
theorem w236 (hw : HW a0 Z) : (Jvm.Cond.code ⟨"java/lang/StringUTF16", "putChar", "([BII)V"⟩ jdk_52_method_4_code 3 (Option.none : Option Jvm.ClassFile.FieldType)).before a0 Z = true := hw_at hw 236 rfl
theorem w237 (hw : HW a0 Z) : (Jvm.Cond.fieldLink "java/lang/StringUTF16" 44 "java/lang/StringUTF16" "$assertionsDisabled" "Z").before a0 Z = true := hw_at hw 237 rfl
theorem w238 (hw : HW a0 Z) : (Jvm.Cond.fieldLink "java/lang/StringUTF16" 59 "java/lang/StringUTF16" "HI_BYTE_SHIFT" "I").before a0 Z = true := hw_at hw 238 rfl
theorem w239 (hw : HW a0 Z) : (Jvm.Cond.fieldLink "java/lang/StringUTF16" 63 "java/lang/StringUTF16" "LO_BYTE_SHIFT" "I").before a0 Z = true := hw_at hw 239 rfl
theorem w240 (hw : HW a0 Z) : (Jvm.Cond.stringLink "com/example/carve/carve/http/HtmlEscapePinLaw" 9 "&lt;").before a0 Z = true := hw_at hw 240 rfl
theorem w241 (hw : HW a0 Z) : (Jvm.Cond.stringLink "com/example/carve/carve/http/Html" 59 "&lt;").before a0 Z = true := hw_at hw 241 rfl
theorem w242 (hw : HW a0 Z) : (Jvm.Cond.methodLink "java/util/Arrays" 339 ⟨"java/util/Arrays", "copyOfRangeByte", "([BII)[B"⟩).before a0 Z = true := hw_at hw 242 rfl
theorem w243 (hw : HW a0 Z) : (Jvm.Cond.static ⟨"java/util/Arrays", "copyOfRangeByte", "([BII)[B"⟩).before a0 Z = true := hw_at hw 243 rfl
theorem w244 (hw : HW a0 Z) : (Jvm.Cond.code ⟨"java/util/Arrays", "copyOfRangeByte", "([BII)[B"⟩ jdk_65_method_133_code 5 (Option.some (Jvm.ClassFile.FieldType.array Jvm.ClassFile.FieldType.byte))).before a0 Z = true := hw_at hw 244 rfl
theorem w245 (hw : HW a0 Z) : (Jvm.Cond.methodLink "java/util/Arrays" 343 ⟨"java/util/Arrays", "checkLength", "(II)V"⟩).before a0 Z = true := hw_at hw 245 rfl
theorem w246 (hw : HW a0 Z) : (Jvm.Cond.static ⟨"java/util/Arrays", "checkLength", "(II)V"⟩).before a0 Z = true := hw_at hw 246 rfl
theorem w247 (hw : HW a0 Z) : (Jvm.Cond.code ⟨"java/util/Arrays", "checkLength", "(II)V"⟩ jdk_65_method_131_code 2 (Option.none : Option Jvm.ClassFile.FieldType)).before a0 Z = true := hw_at hw 247 rfl
theorem w248 (hw : HW a0 Z) : (Jvm.Cond.methodLink "java/lang/StringUTF16" 119 ⟨"java/lang/StringUTF16", "toBytes", "([CII)[B"⟩).before a0 Z = true := hw_at hw 248 rfl
theorem w249 (hw : HW a0 Z) : (Jvm.Cond.static ⟨"java/lang/StringUTF16", "toBytes", "([CII)[B"⟩).before a0 Z = true := hw_at hw 249 rfl
theorem w250 (hw : HW a0 Z) : (Jvm.Cond.code ⟨"java/lang/StringUTF16", "toBytes", "([CII)[B"⟩ jdk_52_method_14_code 5 (Option.some (Jvm.ClassFile.FieldType.array Jvm.ClassFile.FieldType.byte))).before a0 Z = true := hw_at hw 250 rfl
theorem w251 (hw : HW a0 Z) : (Jvm.Cond.methodLink "java/lang/StringUTF16" 107 ⟨"java/lang/StringUTF16", "newBytesFor", "(I)[B"⟩).before a0 Z = true := hw_at hw 251 rfl
theorem w252 (hw : HW a0 Z) : (Jvm.Cond.static ⟨"java/lang/StringUTF16", "newBytesFor", "(I)[B"⟩).before a0 Z = true := hw_at hw 252 rfl
theorem w253 (hw : HW a0 Z) : (Jvm.Cond.code ⟨"java/lang/StringUTF16", "newBytesFor", "(I)[B"⟩ jdk_52_method_2_code 1 (Option.some (Jvm.ClassFile.FieldType.array Jvm.ClassFile.FieldType.byte))).before a0 Z = true := hw_at hw 253 rfl
theorem w254 (hw : HW a0 Z) : (Jvm.Cond.methodLink "java/lang/StringUTF16" 11 ⟨"java/lang/StringUTF16", "newBytesLength", "(I)I"⟩).before a0 Z = true := hw_at hw 254 rfl
theorem w255 (hw : HW a0 Z) : (Jvm.Cond.static ⟨"java/lang/StringUTF16", "newBytesLength", "(I)I"⟩).before a0 Z = true := hw_at hw 255 rfl
theorem w256 (hw : HW a0 Z) : (Jvm.Cond.code ⟨"java/lang/StringUTF16", "newBytesLength", "(I)I"⟩ jdk_52_method_3_code 1 (Option.some Jvm.ClassFile.FieldType.int)).before a0 Z = true := hw_at hw 256 rfl
theorem w257 (hw : HW a0 Z) : (Jvm.Cond.constant "java/lang/StringUTF16" 20 (1073741823 : Int32)).before a0 Z = true := hw_at hw 257 rfl
theorem w258 (hw : HW a0 Z) : (Jvm.Cond.methodLink "java/lang/StringUTF16" 71 ⟨"java/lang/StringUTF16", "getChar", "([BI)C"⟩).before a0 Z = true := hw_at hw 258 rfl
theorem w259 (hw : HW a0 Z) : (Jvm.Cond.static ⟨"java/lang/StringUTF16", "getChar", "([BI)C"⟩).before a0 Z = true := hw_at hw 259 rfl
theorem w260 (hw : HW a0 Z) : (Jvm.Cond.code ⟨"java/lang/StringUTF16", "getChar", "([BI)C"⟩ jdk_52_method_5_code 2 (Option.some Jvm.ClassFile.FieldType.char)).before a0 Z = true := hw_at hw 260 rfl
theorem w261 (hw : HW a0 Z) : (Jvm.Cond.methodLink "java/lang/String" 498 ⟨"java/lang/StringUTF16", "charAt", "([BI)C"⟩).before a0 Z = true := hw_at hw 261 rfl
theorem w262 (hw : HW a0 Z) : (Jvm.Cond.static ⟨"java/lang/StringUTF16", "charAt", "([BI)C"⟩).before a0 Z = true := hw_at hw 262 rfl
theorem w263 (hw : HW a0 Z) : (Jvm.Cond.code ⟨"java/lang/StringUTF16", "charAt", "([BI)C"⟩ jdk_52_method_83_code 2 (Option.some Jvm.ClassFile.FieldType.char)).before a0 Z = true := hw_at hw 263 rfl
theorem w264 (hw : HW a0 Z) : (Jvm.Cond.methodLink "java/lang/StringUTF16" 67 ⟨"java/lang/StringUTF16", "checkIndex", "(I[B)V"⟩).before a0 Z = true := hw_at hw 264 rfl
theorem w265 (hw : HW a0 Z) : (Jvm.Cond.static ⟨"java/lang/StringUTF16", "checkIndex", "(I[B)V"⟩).before a0 Z = true := hw_at hw 265 rfl
theorem w266 (hw : HW a0 Z) : (Jvm.Cond.code ⟨"java/lang/StringUTF16", "checkIndex", "(I[B)V"⟩ jdk_52_method_91_code 2 (Option.none : Option Jvm.ClassFile.FieldType)).before a0 Z = true := hw_at hw 266 rfl
theorem w267 (hw : HW a0 Z) : (Jvm.Cond.methodLink "java/lang/StringUTF16" 48 ⟨"java/lang/StringUTF16", "length", "([B)I"⟩).before a0 Z = true := hw_at hw 267 rfl
theorem w268 (hw : HW a0 Z) : (Jvm.Cond.static ⟨"java/lang/StringUTF16", "length", "([B)I"⟩).before a0 Z = true := hw_at hw 268 rfl
theorem w269 (hw : HW a0 Z) : (Jvm.Cond.code ⟨"java/lang/StringUTF16", "length", "([B)I"⟩ jdk_52_method_6_code 1 (Option.some Jvm.ClassFile.FieldType.int)).before a0 Z = true := hw_at hw 269 rfl
theorem w270 (hw : HW a0 Z) : (Jvm.Cond.methodLink "java/lang/StringUTF16" 414 ⟨"java/lang/String", "checkIndex", "(II)V"⟩).before a0 Z = true := hw_at hw 270 rfl
theorem w271 (hw : HW a0 Z) : (Jvm.Cond.methodLink "java/lang/AbstractStringBuilder" 195 ⟨"java/lang/AbstractStringBuilder", "inflate", "()V"⟩).before a0 Z = true := hw_at hw 271 rfl
theorem w272 (hw : HW a0 Z) : (Jvm.Cond.instanceMethod ⟨"java/lang/AbstractStringBuilder", "inflate", "()V"⟩).before a0 Z = true := hw_at hw 272 rfl
theorem w273 (hw : HW a0 Z) : (Jvm.Cond.privateMethod ⟨"java/lang/AbstractStringBuilder", "inflate", "()V"⟩).before a0 Z = true := hw_at hw 273 rfl
theorem w274 (hw : HW a0 Z) : (Jvm.Cond.selects "java/lang/StringBuilder" ⟨"java/lang/AbstractStringBuilder", "inflate", "()V"⟩ ⟨"java/lang/AbstractStringBuilder", "inflate", "()V"⟩).before a0 Z = true := hw_at hw 274 rfl
theorem w275 (hw : HW a0 Z) : (Jvm.Cond.code ⟨"java/lang/AbstractStringBuilder", "inflate", "()V"⟩ jdk_68_method_11_code 2 (Option.none : Option Jvm.ClassFile.FieldType)).before a0 Z = true := hw_at hw 275 rfl
theorem w276 (hw : HW a0 Z) : (Jvm.Cond.methodLink "java/lang/AbstractStringBuilder" 26 ⟨"java/lang/StringUTF16", "newBytesFor", "(I)[B"⟩).before a0 Z = true := hw_at hw 276 rfl
theorem w277 (hw : HW a0 Z) : (Jvm.Cond.methodLink "java/lang/AbstractStringBuilder" 125 ⟨"java/lang/StringLatin1", "inflate", "([BI[BII)V"⟩).before a0 Z = true := hw_at hw 277 rfl
theorem w278 (hw : HW a0 Z) : (Jvm.Cond.static ⟨"java/lang/StringLatin1", "inflate", "([BI[BII)V"⟩).before a0 Z = true := hw_at hw 278 rfl
theorem w279 (hw : HW a0 Z) : (Jvm.Cond.code ⟨"java/lang/StringLatin1", "inflate", "([BI[BII)V"⟩ jdk_43_method_50_code 5 (Option.none : Option Jvm.ClassFile.FieldType)).before a0 Z = true := hw_at hw 279 rfl
theorem w280 (hw : HW a0 Z) : (Jvm.Cond.methodLink "java/lang/StringLatin1" 240 ⟨"java/lang/StringUTF16", "inflate", "([BI[BII)V"⟩).before a0 Z = true := hw_at hw 280 rfl
theorem w281 (hw : HW a0 Z) : (Jvm.Cond.static ⟨"java/lang/StringUTF16", "inflate", "([BI[BII)V"⟩).before a0 Z = true := hw_at hw 281 rfl
theorem w282 (hw : HW a0 Z) : (Jvm.Cond.code ⟨"java/lang/StringUTF16", "inflate", "([BI[BII)V"⟩ jdk_52_method_86_code 6 (Option.none : Option Jvm.ClassFile.FieldType)).before a0 Z = true := hw_at hw 282 rfl
theorem w283 (hw : HW a0 Z) : (Jvm.Cond.methodLink "java/lang/StringUTF16" 173 ⟨"java/lang/StringUTF16", "checkBoundsOffCount", "(II[B)V"⟩).before a0 Z = true := hw_at hw 283 rfl
theorem w284 (hw : HW a0 Z) : (Jvm.Cond.static ⟨"java/lang/StringUTF16", "checkBoundsOffCount", "(II[B)V"⟩).before a0 Z = true := hw_at hw 284 rfl
theorem w285 (hw : HW a0 Z) : (Jvm.Cond.code ⟨"java/lang/StringUTF16", "checkBoundsOffCount", "(II[B)V"⟩ jdk_52_method_94_code 3 (Option.none : Option Jvm.ClassFile.FieldType)).before a0 Z = true := hw_at hw 285 rfl
theorem w286 (hw : HW a0 Z) : (Jvm.Cond.methodLink "java/lang/StringUTF16" 419 ⟨"java/lang/String", "checkBoundsOffCount", "(III)I"⟩).before a0 Z = true := hw_at hw 286 rfl
theorem w287 (hw : HW a0 Z) : (Jvm.Cond.static ⟨"java/lang/String", "checkBoundsOffCount", "(III)I"⟩).before a0 Z = true := hw_at hw 287 rfl
theorem w288 (hw : HW a0 Z) : (Jvm.Cond.code ⟨"java/lang/String", "checkBoundsOffCount", "(III)I"⟩ jdk_42_method_157_code 3 (Option.some Jvm.ClassFile.FieldType.int)).before a0 Z = true := hw_at hw 288 rfl
theorem w289 (hw : HW a0 Z) : (Jvm.Cond.methodLink "java/lang/String" 1065 ⟨"jdk/internal/util/Preconditions", "checkFromIndexSize", "(IIILjava/util/function/BiFunction;)I"⟩).before a0 Z = true := hw_at hw 289 rfl
theorem w290 (hw : HW a0 Z) : (Jvm.Cond.static ⟨"jdk/internal/util/Preconditions", "checkFromIndexSize", "(IIILjava/util/function/BiFunction;)I"⟩).before a0 Z = true := hw_at hw 290 rfl
theorem w291 (hw : HW a0 Z) : (Jvm.Cond.code ⟨"jdk/internal/util/Preconditions", "checkFromIndexSize", "(IIILjava/util/function/BiFunction;)I"⟩ jdk_41_method_13_code 4 (Option.some Jvm.ClassFile.FieldType.int)).before a0 Z = true := hw_at hw 291 rfl
theorem w292 (hw : HW a0 Z) : (Jvm.Cond.methodLink "java/lang/AbstractStringBuilder" 197 ⟨"java/lang/StringUTF16", "putCharSB", "([BII)V"⟩).before a0 Z = true := hw_at hw 292 rfl
theorem w293 (hw : HW a0 Z) : (Jvm.Cond.static ⟨"java/lang/StringUTF16", "putCharSB", "([BII)V"⟩).before a0 Z = true := hw_at hw 293 rfl
theorem w294 (hw : HW a0 Z) : (Jvm.Cond.code ⟨"java/lang/StringUTF16", "putCharSB", "([BII)V"⟩ jdk_52_method_71_code 3 (Option.none : Option Jvm.ClassFile.FieldType)).before a0 Z = true := hw_at hw 294 rfl
theorem w295 (hw : HW a0 Z) : (Jvm.Cond.fieldLink "java/lang/String" 1048 "java/lang/AbstractStringBuilder" "maybeLatin1" "Z").before a0 Z = true := hw_at hw 295 rfl
theorem w296 (hw : HW a0 Z) : (Jvm.Cond.lays "java/lang/StringBuilder" "java/lang/AbstractStringBuilder" "maybeLatin1" "Z").before a0 Z = true := hw_at hw 296 rfl
theorem w297 (hw : HW a0 Z) : (Jvm.Cond.methodLink "java/lang/String" 106 ⟨"java/lang/StringLatin1", "inflate", "([BI[BII)V"⟩).before a0 Z = true := hw_at hw 297 rfl
theorem w298 (hw : HW a0 Z) : (Jvm.Cond.stringLink "com/example/carve/carve/http/Html" 61 "&gt;").before a0 Z = true := hw_at hw 298 rfl
abbrev B0 : ByteArray := method_2_code
abbrev B1 : ByteArray := jdk_42_method_3_code
abbrev B2 : ByteArray := jdk_42_method_149_code
abbrev B4 : ByteArray := jdk_52_method_16_code
abbrev B5 : ByteArray := jdk_52_method_21_code
abbrev B6 : ByteArray := jdk_52_method_15_code
abbrev B7 : ByteArray := prog_24_method_8_code
abbrev B8 : ByteArray := jdk_42_method_54_code
abbrev B9 : ByteArray := jdk_42_method_152_code
abbrev B10 : ByteArray := jdk_67_method_2_code
abbrev B11 : ByteArray := jdk_68_method_2_code
abbrev B12 : ByteArray := jdk_42_method_56_code
abbrev B13 : ByteArray := jdk_42_method_154_code
abbrev B14 : ByteArray := jdk_43_method_2_code
abbrev B15 : ByteArray := jdk_42_method_155_code
abbrev B16 : ByteArray := jdk_41_method_11_code
abbrev B17 : ByteArray := jdk_67_method_7_code
abbrev B18 : ByteArray := jdk_68_method_22_code
abbrev B19 : ByteArray := jdk_68_method_9_code
abbrev B20 : ByteArray := jdk_68_method_10_code
abbrev B21 : ByteArray := jdk_48_method_27_code
abbrev B22 : ByteArray := jdk_29_method_65_code
abbrev B23 : ByteArray := jdk_65_method_121_code
abbrev B24 : ByteArray := jdk_29_method_69_code
abbrev B25 : ByteArray := jdk_68_method_73_code
abbrev B26 : ByteArray := jdk_68_method_71_code
abbrev B27 : ByteArray := jdk_42_method_147_code
abbrev B28 : ByteArray := jdk_67_method_42_code
abbrev B29 : ByteArray := jdk_42_method_53_code
abbrev B30 : ByteArray := jdk_42_method_150_code
abbrev B31 : ByteArray := jdk_68_method_64_code
abbrev B32 : ByteArray := jdk_67_method_93_code
abbrev B33 : ByteArray := jdk_68_method_6_code
abbrev B34 : ByteArray := jdk_68_method_68_code
abbrev B35 : ByteArray := jdk_65_method_132_code
abbrev B36 : ByteArray := method_3_code
abbrev B37 : ByteArray := method_4_code
abbrev B38 : ByteArray := jdk_67_method_14_code
abbrev B39 : ByteArray := jdk_68_method_31_code
abbrev B40 : ByteArray := jdk_43_method_3_code
abbrev B41 : ByteArray := jdk_42_method_139_code
abbrev B42 : ByteArray := jdk_43_method_46_code
abbrev B43 : ByteArray := jdk_42_method_151_code
abbrev B44 : ByteArray := jdk_52_method_24_code
abbrev B45 : ByteArray := jdk_52_method_4_code
abbrev B46 : ByteArray := jdk_65_method_133_code
abbrev B47 : ByteArray := jdk_65_method_131_code
abbrev B48 : ByteArray := jdk_52_method_14_code
abbrev B49 : ByteArray := jdk_52_method_2_code
abbrev B50 : ByteArray := jdk_52_method_3_code
abbrev B51 : ByteArray := jdk_52_method_5_code
abbrev B52 : ByteArray := jdk_52_method_83_code
abbrev B53 : ByteArray := jdk_52_method_91_code
abbrev B54 : ByteArray := jdk_52_method_6_code
abbrev B55 : ByteArray := jdk_68_method_11_code
abbrev B56 : ByteArray := jdk_43_method_50_code
abbrev B57 : ByteArray := jdk_52_method_86_code
abbrev B58 : ByteArray := jdk_52_method_94_code
abbrev B59 : ByteArray := jdk_42_method_157_code
abbrev B60 : ByteArray := jdk_41_method_13_code
abbrev B61 : ByteArray := jdk_52_method_71_code
theorem d0_0 : decode B0 0 = .ok (.iload_n 0, 1) := by decide +kernel
theorem d0_1 : decode B0 1 = .ok (.bipush 7, 2) := by decide +kernel
theorem d0_3 : decode B0 3 = .ok (.iand, 1) := by decide +kernel
theorem d0_4 : decode B0 4 = .ok (.istore_n 1, 1) := by decide +kernel
theorem d0_5 : decode B0 5 = .ok (.iload_n 1, 1) := by decide +kernel
theorem d0_6 : decode B0 6 = .ok (.ifCond .ne 6, 3) := by decide +kernel
theorem d0_9 : decode B0 9 = .ok (.bipush 38, 2) := by decide +kernel
theorem d0_11 : decode B0 11 = .ok (.ireturn, 1) := by decide +kernel
theorem d0_12 : decode B0 12 = .ok (.iload_n 1, 1) := by decide +kernel
theorem d0_13 : decode B0 13 = .ok (.iconst 1, 1) := by decide +kernel
theorem d0_14 : decode B0 14 = .ok (.if_icmp .ne 6, 3) := by decide +kernel
theorem d0_17 : decode B0 17 = .ok (.bipush 60, 2) := by decide +kernel
theorem d0_19 : decode B0 19 = .ok (.ireturn, 1) := by decide +kernel
theorem d0_20 : decode B0 20 = .ok (.iload_n 1, 1) := by decide +kernel
theorem d0_21 : decode B0 21 = .ok (.iconst 2, 1) := by decide +kernel
theorem d0_22 : decode B0 22 = .ok (.if_icmp .ne 6, 3) := by decide +kernel
theorem d0_25 : decode B0 25 = .ok (.bipush 62, 2) := by decide +kernel
theorem d0_27 : decode B0 27 = .ok (.ireturn, 1) := by decide +kernel
theorem d0_28 : decode B0 28 = .ok (.iload_n 1, 1) := by decide +kernel
theorem d0_29 : decode B0 29 = .ok (.iconst 3, 1) := by decide +kernel
theorem d0_30 : decode B0 30 = .ok (.if_icmp .ne 6, 3) := by decide +kernel
theorem d0_33 : decode B0 33 = .ok (.bipush 34, 2) := by decide +kernel
theorem d0_35 : decode B0 35 = .ok (.ireturn, 1) := by decide +kernel
theorem d0_36 : decode B0 36 = .ok (.iload_n 0, 1) := by decide +kernel
theorem d0_37 : decode B0 37 = .ok (.iconst 3, 1) := by decide +kernel
theorem d0_38 : decode B0 38 = .ok (.iushr, 1) := by decide +kernel
theorem d0_39 : decode B0 39 = .ok (.i2c, 1) := by decide +kernel
theorem d0_40 : decode B0 40 = .ok (.ireturn, 1) := by decide +kernel
theorem d1_0 : decode B1 0 = .ok (.aload_n 0, 1) := by decide +kernel
theorem d1_1 : decode B1 1 = .ok (.aload_n 1, 1) := by decide +kernel
theorem d1_2 : decode B1 2 = .ok (.iconst 0, 1) := by decide +kernel
theorem d1_3 : decode B1 3 = .ok (.aload_n 1, 1) := by decide +kernel
theorem d1_4 : decode B1 4 = .ok (.arraylength, 1) := by decide +kernel
theorem d1_5 : decode B1 5 = .ok (.aconst_null, 1) := by decide +kernel
theorem d1_6 : decode B1 6 = .ok (.invokespecial 27, 3) := by decide +kernel
theorem d1_9 : decode B1 9 = .ok (.return_, 1) := by decide +kernel
theorem d2_0 : decode B2 0 = .ok (.aload_n 0, 1) := by decide +kernel
theorem d2_1 : decode B2 1 = .ok (.invokespecial 1, 3) := by decide +kernel
theorem d2_4 : decode B2 4 = .ok (.iload_n 3, 1) := by decide +kernel
theorem d2_5 : decode B2 5 = .ok (.ifCond .ne 22, 3) := by decide +kernel
theorem d2_8 : decode B2 8 = .ok (.aload_n 0, 1) := by decide +kernel
theorem d2_9 : decode B2 9 = .ok (.ldc 7, 2) := by decide +kernel
theorem d2_11 : decode B2 11 = .ok (.getfield 9, 3) := by decide +kernel
theorem d2_14 : decode B2 14 = .ok (.putfield 9, 3) := by decide +kernel
theorem d2_17 : decode B2 17 = .ok (.aload_n 0, 1) := by decide +kernel
theorem d2_18 : decode B2 18 = .ok (.ldc 7, 2) := by decide +kernel
theorem d2_20 : decode B2 20 = .ok (.getfield 15, 3) := by decide +kernel
theorem d2_23 : decode B2 23 = .ok (.putfield 15, 3) := by decide +kernel
theorem d2_26 : decode B2 26 = .ok (.return_, 1) := by decide +kernel
theorem d2_27 : decode B2 27 = .ok (.getstatic 38, 3) := by decide +kernel
theorem d2_30 : decode B2 30 = .ok (.ifCond .eq 28, 3) := by decide +kernel
theorem d2_33 : decode B2 33 = .ok (.aload_n 1, 1) := by decide +kernel
theorem d2_34 : decode B2 34 = .ok (.iload_n 2, 1) := by decide +kernel
theorem d2_35 : decode B2 35 = .ok (.iload_n 3, 1) := by decide +kernel
theorem d2_36 : decode B2 36 = .ok (.invokestatic 177, 3) := by decide +kernel
theorem d2_39 : decode B2 39 = .ok (.astore 5, 2) := by decide +kernel
theorem d2_41 : decode B2 41 = .ok (.aload_n 0, 1) := by decide +kernel
theorem d2_42 : decode B2 42 = .ok (.aload 5, 2) := by decide +kernel
theorem d2_44 : decode B2 44 = .ok (.iload_n 3, 1) := by decide +kernel
theorem d2_45 : decode B2 45 = .ok (.invokestatic 47, 3) := by decide +kernel
theorem d2_48 : decode B2 48 = .ok (.putfield 15, 3) := by decide +kernel
theorem d2_51 : decode B2 51 = .ok (.aload_n 0, 1) := by decide +kernel
theorem d2_52 : decode B2 52 = .ok (.aload 5, 2) := by decide +kernel
theorem d2_54 : decode B2 54 = .ok (.putfield 9, 3) := by decide +kernel
theorem d2_57 : decode B2 57 = .ok (.return_, 1) := by decide +kernel
theorem d4_0 : decode B4 0 = .ok (.iload_n 2, 1) := by decide +kernel
theorem d4_1 : decode B4 1 = .ok (.newarray .byte, 2) := by decide +kernel
theorem d4_3 : decode B4 3 = .ok (.astore_n 3, 1) := by decide +kernel
theorem d4_4 : decode B4 4 = .ok (.aload_n 0, 1) := by decide +kernel
theorem d4_5 : decode B4 5 = .ok (.iload_n 1, 1) := by decide +kernel
theorem d4_6 : decode B4 6 = .ok (.aload_n 3, 1) := by decide +kernel
theorem d4_7 : decode B4 7 = .ok (.iconst 0, 1) := by decide +kernel
theorem d4_8 : decode B4 8 = .ok (.iload_n 2, 1) := by decide +kernel
theorem d4_9 : decode B4 9 = .ok (.invokestatic 115, 3) := by decide +kernel
theorem d4_12 : decode B4 12 = .ok (.istore 4, 2) := by decide +kernel
theorem d4_14 : decode B4 14 = .ok (.iload 4, 2) := by decide +kernel
theorem d4_16 : decode B4 16 = .ok (.iload_n 2, 1) := by decide +kernel
theorem d4_17 : decode B4 17 = .ok (.if_icmp .eq 40, 3) := by decide +kernel
theorem d4_20 : decode B4 20 = .ok (.aload_n 0, 1) := by decide +kernel
theorem d4_21 : decode B4 21 = .ok (.iload_n 1, 1) := by decide +kernel
theorem d4_22 : decode B4 22 = .ok (.iload_n 2, 1) := by decide +kernel
theorem d4_23 : decode B4 23 = .ok (.invokestatic 119, 3) := by decide +kernel
theorem d4_26 : decode B4 26 = .ok (.astore 5, 2) := by decide +kernel
theorem d4_28 : decode B4 28 = .ok (.aload 5, 2) := by decide +kernel
theorem d4_30 : decode B4 30 = .ok (.iload 4, 2) := by decide +kernel
theorem d4_32 : decode B4 32 = .ok (.invokestatic 71, 3) := by decide +kernel
theorem d4_35 : decode B4 35 = .ok (.sipush 255, 3) := by decide +kernel
theorem d4_38 : decode B4 38 = .ok (.if_icmp .gt 16, 3) := by decide +kernel
theorem d4_54 : decode B4 54 = .ok (.aload 5, 2) := by decide +kernel
theorem d4_56 : decode B4 56 = .ok (.areturn, 1) := by decide +kernel
theorem d5_0 : decode B5 0 = .ok (.iconst 0, 1) := by decide +kernel
theorem d5_1 : decode B5 1 = .ok (.istore 5, 2) := by decide +kernel
theorem d5_3 : decode B5 3 = .ok (.iload 5, 2) := by decide +kernel
theorem d5_5 : decode B5 5 = .ok (.iload 4, 2) := by decide +kernel
theorem d5_7 : decode B5 7 = .ok (.if_icmp .ge 37, 3) := by decide +kernel
theorem d5_10 : decode B5 10 = .ok (.aload_n 0, 1) := by decide +kernel
theorem d5_11 : decode B5 11 = .ok (.iload_n 1, 1) := by decide +kernel
theorem d5_12 : decode B5 12 = .ok (.caload, 1) := by decide +kernel
theorem d5_13 : decode B5 13 = .ok (.istore 6, 2) := by decide +kernel
theorem d5_15 : decode B5 15 = .ok (.iload 6, 2) := by decide +kernel
theorem d5_17 : decode B5 17 = .ok (.sipush 255, 3) := by decide +kernel
theorem d5_20 : decode B5 20 = .ok (.if_icmp .le 6, 3) := by decide +kernel
theorem d5_23 : decode B5 23 = .ok (.iload 5, 2) := by decide +kernel
theorem d5_25 : decode B5 25 = .ok (.ireturn, 1) := by decide +kernel
theorem d5_26 : decode B5 26 = .ok (.aload_n 2, 1) := by decide +kernel
theorem d5_27 : decode B5 27 = .ok (.iload_n 3, 1) := by decide +kernel
theorem d5_28 : decode B5 28 = .ok (.iload 6, 2) := by decide +kernel
theorem d5_30 : decode B5 30 = .ok (.i2b, 1) := by decide +kernel
theorem d5_31 : decode B5 31 = .ok (.bastore, 1) := by decide +kernel
theorem d5_32 : decode B5 32 = .ok (.iinc 1 1, 3) := by decide +kernel
theorem d5_35 : decode B5 35 = .ok (.iinc 3 1, 3) := by decide +kernel
theorem d5_38 : decode B5 38 = .ok (.iinc 5 1, 3) := by decide +kernel
theorem d5_41 : decode B5 41 = .ok (.goto (-38), 3) := by decide +kernel
theorem d6_0 : decode B6 0 = .ok (.iload_n 1, 1) := by decide +kernel
theorem d6_1 : decode B6 1 = .ok (.aload_n 0, 1) := by decide +kernel
theorem d6_2 : decode B6 2 = .ok (.arraylength, 1) := by decide +kernel
theorem d6_3 : decode B6 3 = .ok (.isub, 1) := by decide +kernel
theorem d6_4 : decode B6 4 = .ok (.bipush 31, 2) := by decide +kernel
theorem d6_6 : decode B6 6 = .ok (.iushr, 1) := by decide +kernel
theorem d6_7 : decode B6 7 = .ok (.i2b, 1) := by decide +kernel
theorem d6_8 : decode B6 8 = .ok (.ireturn, 1) := by decide +kernel
theorem d7_0 : decode B7 0 = .ok (.new 7, 3) := by decide +kernel
theorem d7_3 : decode B7 3 = .ok (.dup, 1) := by decide +kernel
theorem d7_4 : decode B7 4 = .ok (.aload_n 0, 1) := by decide +kernel
theorem d7_5 : decode B7 5 = .ok (.invokevirtual 44, 3) := by decide +kernel
theorem d7_8 : decode B7 8 = .ok (.invokespecial 50, 3) := by decide +kernel
theorem d7_11 : decode B7 11 = .ok (.astore_n 1, 1) := by decide +kernel
theorem d7_12 : decode B7 12 = .ok (.iconst 0, 1) := by decide +kernel
theorem d7_13 : decode B7 13 = .ok (.istore_n 2, 1) := by decide +kernel
theorem d7_14 : decode B7 14 = .ok (.iload_n 2, 1) := by decide +kernel
theorem d7_15 : decode B7 15 = .ok (.aload_n 0, 1) := by decide +kernel
theorem d7_16 : decode B7 16 = .ok (.invokevirtual 44, 3) := by decide +kernel
theorem d7_19 : decode B7 19 = .ok (.if_icmp .ge 105, 3) := by decide +kernel
theorem d7_22 : decode B7 22 = .ok (.aload_n 0, 1) := by decide +kernel
theorem d7_23 : decode B7 23 = .ok (.iload_n 2, 1) := by decide +kernel
theorem d7_24 : decode B7 24 = .ok (.invokevirtual 53, 3) := by decide +kernel
theorem d7_27 : decode B7 27 = .ok (.istore_n 3, 1) := by decide +kernel
theorem d7_28 : decode B7 28 = .ok (.iload_n 3, 1) := by decide +kernel
theorem d7_29 : decode B7 29 = .ok (.lookupswitch 83 #[(34, 73), (38, 43), (60, 53), (62, 63)], 43) := by decide +kernel
theorem d7_72 : decode B7 72 = .ok (.aload_n 1, 1) := by decide +kernel
theorem d7_73 : decode B7 73 = .ok (.ldc 57, 2) := by decide +kernel
theorem d7_75 : decode B7 75 = .ok (.invokevirtual 20, 3) := by decide +kernel
theorem d7_78 : decode B7 78 = .ok (.pop, 1) := by decide +kernel
theorem d7_79 : decode B7 79 = .ok (.goto 39, 3) := by decide +kernel
theorem d7_82 : decode B7 82 = .ok (.aload_n 1, 1) := by decide +kernel
theorem d7_83 : decode B7 83 = .ok (.ldc 59, 2) := by decide +kernel
theorem d7_85 : decode B7 85 = .ok (.invokevirtual 20, 3) := by decide +kernel
theorem d7_88 : decode B7 88 = .ok (.pop, 1) := by decide +kernel
theorem d7_89 : decode B7 89 = .ok (.goto 29, 3) := by decide +kernel
theorem d7_92 : decode B7 92 = .ok (.aload_n 1, 1) := by decide +kernel
theorem d7_93 : decode B7 93 = .ok (.ldc 61, 2) := by decide +kernel
theorem d7_95 : decode B7 95 = .ok (.invokevirtual 20, 3) := by decide +kernel
theorem d7_98 : decode B7 98 = .ok (.pop, 1) := by decide +kernel
theorem d7_99 : decode B7 99 = .ok (.goto 19, 3) := by decide +kernel
theorem d7_102 : decode B7 102 = .ok (.aload_n 1, 1) := by decide +kernel
theorem d7_103 : decode B7 103 = .ok (.ldc 63, 2) := by decide +kernel
theorem d7_105 : decode B7 105 = .ok (.invokevirtual 20, 3) := by decide +kernel
theorem d7_108 : decode B7 108 = .ok (.pop, 1) := by decide +kernel
theorem d7_109 : decode B7 109 = .ok (.goto 9, 3) := by decide +kernel
theorem d7_112 : decode B7 112 = .ok (.aload_n 1, 1) := by decide +kernel
theorem d7_113 : decode B7 113 = .ok (.iload_n 3, 1) := by decide +kernel
theorem d7_114 : decode B7 114 = .ok (.invokevirtual 16, 3) := by decide +kernel
theorem d7_117 : decode B7 117 = .ok (.pop, 1) := by decide +kernel
theorem d7_118 : decode B7 118 = .ok (.iinc 2 1, 3) := by decide +kernel
theorem d7_121 : decode B7 121 = .ok (.goto (-107), 3) := by decide +kernel
theorem d7_124 : decode B7 124 = .ok (.aload_n 1, 1) := by decide +kernel
theorem d7_125 : decode B7 125 = .ok (.invokevirtual 65, 3) := by decide +kernel
theorem d7_128 : decode B7 128 = .ok (.areturn, 1) := by decide +kernel
theorem d8_0 : decode B8 0 = .ok (.aload_n 0, 1) := by decide +kernel
theorem d8_1 : decode B8 1 = .ok (.getfield 9, 3) := by decide +kernel
theorem d8_4 : decode B8 4 = .ok (.arraylength, 1) := by decide +kernel
theorem d8_5 : decode B8 5 = .ok (.aload_n 0, 1) := by decide +kernel
theorem d8_6 : decode B8 6 = .ok (.invokevirtual 335, 3) := by decide +kernel
theorem d8_9 : decode B8 9 = .ok (.ishr, 1) := by decide +kernel
theorem d8_10 : decode B8 10 = .ok (.ireturn, 1) := by decide +kernel
theorem d9_0 : decode B9 0 = .ok (.getstatic 38, 3) := by decide +kernel
theorem d9_3 : decode B9 3 = .ok (.ifCond .eq 10, 3) := by decide +kernel
theorem d9_6 : decode B9 6 = .ok (.aload_n 0, 1) := by decide +kernel
theorem d9_7 : decode B9 7 = .ok (.getfield 15, 3) := by decide +kernel
theorem d9_10 : decode B9 10 = .ok (.goto 4, 3) := by decide +kernel
theorem d9_14 : decode B9 14 = .ok (.ireturn, 1) := by decide +kernel
theorem d10_0 : decode B10 0 = .ok (.aload_n 0, 1) := by decide +kernel
theorem d10_1 : decode B10 1 = .ok (.iload_n 1, 1) := by decide +kernel
theorem d10_2 : decode B10 2 = .ok (.invokespecial 1, 3) := by decide +kernel
theorem d10_5 : decode B10 5 = .ok (.return_, 1) := by decide +kernel
theorem d11_0 : decode B11 0 = .ok (.aload_n 0, 1) := by decide +kernel
theorem d11_1 : decode B11 1 = .ok (.invokespecial 3, 3) := by decide +kernel
theorem d11_4 : decode B11 4 = .ok (.getstatic 18, 3) := by decide +kernel
theorem d11_7 : decode B11 7 = .ok (.ifCond .eq 18, 3) := by decide +kernel
theorem d11_10 : decode B11 10 = .ok (.aload_n 0, 1) := by decide +kernel
theorem d11_11 : decode B11 11 = .ok (.iload_n 1, 1) := by decide +kernel
theorem d11_12 : decode B11 12 = .ok (.newarray .byte, 2) := by decide +kernel
theorem d11_14 : decode B11 14 = .ok (.putfield 15, 3) := by decide +kernel
theorem d11_17 : decode B11 17 = .ok (.aload_n 0, 1) := by decide +kernel
theorem d11_18 : decode B11 18 = .ok (.iconst 0, 1) := by decide +kernel
theorem d11_19 : decode B11 19 = .ok (.putfield 22, 3) := by decide +kernel
theorem d11_22 : decode B11 22 = .ok (.goto 16, 3) := by decide +kernel
theorem d11_38 : decode B11 38 = .ok (.return_, 1) := by decide +kernel
theorem d12_0 : decode B12 0 = .ok (.aload_n 0, 1) := by decide +kernel
theorem d12_1 : decode B12 1 = .ok (.invokevirtual 492, 3) := by decide +kernel
theorem d12_4 : decode B12 4 = .ok (.ifCond .eq 12, 3) := by decide +kernel
theorem d12_7 : decode B12 7 = .ok (.aload_n 0, 1) := by decide +kernel
theorem d12_8 : decode B12 8 = .ok (.getfield 9, 3) := by decide +kernel
theorem d12_11 : decode B12 11 = .ok (.iload_n 1, 1) := by decide +kernel
theorem d12_12 : decode B12 12 = .ok (.invokestatic 495, 3) := by decide +kernel
theorem d12_15 : decode B12 15 = .ok (.ireturn, 1) := by decide +kernel
theorem d12_16 : decode B12 16 = .ok (.aload_n 0, 1) := by decide +kernel
theorem d12_17 : decode B12 17 = .ok (.getfield 9, 3) := by decide +kernel
theorem d12_20 : decode B12 20 = .ok (.iload_n 1, 1) := by decide +kernel
theorem d12_21 : decode B12 21 = .ok (.invokestatic 498, 3) := by decide +kernel
theorem d12_24 : decode B12 24 = .ok (.ireturn, 1) := by decide +kernel
theorem d13_0 : decode B13 0 = .ok (.getstatic 38, 3) := by decide +kernel
theorem d13_3 : decode B13 3 = .ok (.ifCond .eq 14, 3) := by decide +kernel
theorem d13_6 : decode B13 6 = .ok (.aload_n 0, 1) := by decide +kernel
theorem d13_7 : decode B13 7 = .ok (.getfield 15, 3) := by decide +kernel
theorem d13_10 : decode B13 10 = .ok (.ifCond .ne 7, 3) := by decide +kernel
theorem d13_13 : decode B13 13 = .ok (.iconst 1, 1) := by decide +kernel
theorem d13_14 : decode B13 14 = .ok (.goto 4, 3) := by decide +kernel
theorem d13_17 : decode B13 17 = .ok (.iconst 0, 1) := by decide +kernel
theorem d13_18 : decode B13 18 = .ok (.ireturn, 1) := by decide +kernel
theorem d14_0 : decode B14 0 = .ok (.iload_n 1, 1) := by decide +kernel
theorem d14_1 : decode B14 1 = .ok (.aload_n 0, 1) := by decide +kernel
theorem d14_2 : decode B14 2 = .ok (.arraylength, 1) := by decide +kernel
theorem d14_3 : decode B14 3 = .ok (.invokestatic 9, 3) := by decide +kernel
theorem d14_6 : decode B14 6 = .ok (.aload_n 0, 1) := by decide +kernel
theorem d14_7 : decode B14 7 = .ok (.iload_n 1, 1) := by decide +kernel
theorem d14_8 : decode B14 8 = .ok (.baload, 1) := by decide +kernel
theorem d14_9 : decode B14 9 = .ok (.sipush 255, 3) := by decide +kernel
theorem d14_12 : decode B14 12 = .ok (.iand, 1) := by decide +kernel
theorem d14_13 : decode B14 13 = .ok (.i2c, 1) := by decide +kernel
theorem d14_14 : decode B14 14 = .ok (.ireturn, 1) := by decide +kernel
theorem d15_0 : decode B15 0 = .ok (.iload_n 0, 1) := by decide +kernel
theorem d15_1 : decode B15 1 = .ok (.iload_n 1, 1) := by decide +kernel
theorem d15_2 : decode B15 2 = .ok (.getstatic 1053, 3) := by decide +kernel
theorem d15_5 : decode B15 5 = .ok (.invokestatic 1059, 3) := by decide +kernel
theorem d15_8 : decode B15 8 = .ok (.pop, 1) := by decide +kernel
theorem d15_9 : decode B15 9 = .ok (.return_, 1) := by decide +kernel
theorem d16_0 : decode B16 0 = .ok (.iload_n 0, 1) := by decide +kernel
theorem d16_1 : decode B16 1 = .ok (.ifCond .lt 8, 3) := by decide +kernel
theorem d16_4 : decode B16 4 = .ok (.iload_n 0, 1) := by decide +kernel
theorem d16_5 : decode B16 5 = .ok (.iload_n 1, 1) := by decide +kernel
theorem d16_6 : decode B16 6 = .ok (.if_icmp .lt 10, 3) := by decide +kernel
theorem d16_16 : decode B16 16 = .ok (.iload_n 0, 1) := by decide +kernel
theorem d16_17 : decode B16 17 = .ok (.ireturn, 1) := by decide +kernel
theorem d17_0 : decode B17 0 = .ok (.aload_n 0, 1) := by decide +kernel
theorem d17_1 : decode B17 1 = .ok (.aload_n 1, 1) := by decide +kernel
theorem d17_2 : decode B17 2 = .ok (.invokespecial 29, 3) := by decide +kernel
theorem d17_5 : decode B17 5 = .ok (.pop, 1) := by decide +kernel
theorem d17_6 : decode B17 6 = .ok (.aload_n 0, 1) := by decide +kernel
theorem d17_7 : decode B17 7 = .ok (.areturn, 1) := by decide +kernel
theorem d18_0 : decode B18 0 = .ok (.aload_n 1, 1) := by decide +kernel
theorem d18_1 : decode B18 1 = .ok (.ifnonnull 8, 3) := by decide +kernel
theorem d18_9 : decode B18 9 = .ok (.aload_n 1, 1) := by decide +kernel
theorem d18_10 : decode B18 10 = .ok (.invokevirtual 32, 3) := by decide +kernel
theorem d18_13 : decode B18 13 = .ok (.istore_n 2, 1) := by decide +kernel
theorem d18_14 : decode B18 14 = .ok (.aload_n 0, 1) := by decide +kernel
theorem d18_15 : decode B18 15 = .ok (.aload_n 0, 1) := by decide +kernel
theorem d18_16 : decode B18 16 = .ok (.getfield 79, 3) := by decide +kernel
theorem d18_19 : decode B18 19 = .ok (.iload_n 2, 1) := by decide +kernel
theorem d18_20 : decode B18 20 = .ok (.iadd, 1) := by decide +kernel
theorem d18_21 : decode B18 21 = .ok (.invokevirtual 100, 3) := by decide +kernel
theorem d18_24 : decode B18 24 = .ok (.aload_n 0, 1) := by decide +kernel
theorem d18_25 : decode B18 25 = .ok (.aload_n 0, 1) := by decide +kernel
theorem d18_26 : decode B18 26 = .ok (.getfield 79, 3) := by decide +kernel
theorem d18_29 : decode B18 29 = .ok (.aload_n 1, 1) := by decide +kernel
theorem d18_30 : decode B18 30 = .ok (.invokevirtual 208, 3) := by decide +kernel
theorem d18_33 : decode B18 33 = .ok (.aload_n 0, 1) := by decide +kernel
theorem d18_34 : decode B18 34 = .ok (.dup, 1) := by decide +kernel
theorem d18_35 : decode B18 35 = .ok (.getfield 79, 3) := by decide +kernel
theorem d18_38 : decode B18 38 = .ok (.iload_n 2, 1) := by decide +kernel
theorem d18_39 : decode B18 39 = .ok (.iadd, 1) := by decide +kernel
theorem d18_40 : decode B18 40 = .ok (.putfield 79, 3) := by decide +kernel
theorem d18_43 : decode B18 43 = .ok (.aload_n 0, 1) := by decide +kernel
theorem d18_44 : decode B18 44 = .ok (.areturn, 1) := by decide +kernel
theorem d19_0 : decode B19 0 = .ok (.aload_n 0, 1) := by decide +kernel
theorem d19_1 : decode B19 1 = .ok (.getfield 15, 3) := by decide +kernel
theorem d19_4 : decode B19 4 = .ok (.arraylength, 1) := by decide +kernel
theorem d19_5 : decode B19 5 = .ok (.aload_n 0, 1) := by decide +kernel
theorem d19_6 : decode B19 6 = .ok (.getfield 22, 3) := by decide +kernel
theorem d19_9 : decode B19 9 = .ok (.ishr, 1) := by decide +kernel
theorem d19_10 : decode B19 10 = .ok (.istore_n 2, 1) := by decide +kernel
theorem d19_11 : decode B19 11 = .ok (.iload_n 1, 1) := by decide +kernel
theorem d19_12 : decode B19 12 = .ok (.iload_n 2, 1) := by decide +kernel
theorem d19_13 : decode B19 13 = .ok (.isub, 1) := by decide +kernel
theorem d19_14 : decode B19 14 = .ok (.ifCond .le 24, 3) := by decide +kernel
theorem d19_17 : decode B19 17 = .ok (.aload_n 0, 1) := by decide +kernel
theorem d19_18 : decode B19 18 = .ok (.aload_n 0, 1) := by decide +kernel
theorem d19_19 : decode B19 19 = .ok (.getfield 15, 3) := by decide +kernel
theorem d19_22 : decode B19 22 = .ok (.aload_n 0, 1) := by decide +kernel
theorem d19_23 : decode B19 23 = .ok (.iload_n 1, 1) := by decide +kernel
theorem d19_24 : decode B19 24 = .ok (.invokevirtual 104, 3) := by decide +kernel
theorem d19_27 : decode B19 27 = .ok (.aload_n 0, 1) := by decide +kernel
theorem d19_28 : decode B19 28 = .ok (.getfield 22, 3) := by decide +kernel
theorem d19_31 : decode B19 31 = .ok (.ishl, 1) := by decide +kernel
theorem d19_32 : decode B19 32 = .ok (.invokestatic 108, 3) := by decide +kernel
theorem d19_35 : decode B19 35 = .ok (.putfield 15, 3) := by decide +kernel
theorem d19_38 : decode B19 38 = .ok (.return_, 1) := by decide +kernel
theorem d20_0 : decode B20 0 = .ok (.aload_n 0, 1) := by decide +kernel
theorem d20_1 : decode B20 1 = .ok (.getfield 15, 3) := by decide +kernel
theorem d20_4 : decode B20 4 = .ok (.arraylength, 1) := by decide +kernel
theorem d20_5 : decode B20 5 = .ok (.istore_n 2, 1) := by decide +kernel
theorem d20_6 : decode B20 6 = .ok (.iload_n 1, 1) := by decide +kernel
theorem d20_7 : decode B20 7 = .ok (.aload_n 0, 1) := by decide +kernel
theorem d20_8 : decode B20 8 = .ok (.getfield 22, 3) := by decide +kernel
theorem d20_11 : decode B20 11 = .ok (.ishl, 1) := by decide +kernel
theorem d20_12 : decode B20 12 = .ok (.istore_n 3, 1) := by decide +kernel
theorem d20_13 : decode B20 13 = .ok (.iload_n 3, 1) := by decide +kernel
theorem d20_14 : decode B20 14 = .ok (.iload_n 2, 1) := by decide +kernel
theorem d20_15 : decode B20 15 = .ok (.isub, 1) := by decide +kernel
theorem d20_16 : decode B20 16 = .ok (.istore 4, 2) := by decide +kernel
theorem d20_18 : decode B20 18 = .ok (.iload_n 2, 1) := by decide +kernel
theorem d20_19 : decode B20 19 = .ok (.iload 4, 2) := by decide +kernel
theorem d20_21 : decode B20 21 = .ok (.iload_n 2, 1) := by decide +kernel
theorem d20_22 : decode B20 22 = .ok (.iconst 2, 1) := by decide +kernel
theorem d20_23 : decode B20 23 = .ok (.aload_n 0, 1) := by decide +kernel
theorem d20_24 : decode B20 24 = .ok (.getfield 22, 3) := by decide +kernel
theorem d20_27 : decode B20 27 = .ok (.ishl, 1) := by decide +kernel
theorem d20_28 : decode B20 28 = .ok (.iadd, 1) := by decide +kernel
theorem d20_29 : decode B20 29 = .ok (.invokestatic 114, 3) := by decide +kernel
theorem d20_32 : decode B20 32 = .ok (.istore 5, 2) := by decide +kernel
theorem d20_34 : decode B20 34 = .ok (.iload 5, 2) := by decide +kernel
theorem d20_36 : decode B20 36 = .ok (.ldc 39, 2) := by decide +kernel
theorem d20_38 : decode B20 38 = .ok (.if_icmp .ne 13, 3) := by decide +kernel
theorem d20_51 : decode B20 51 = .ok (.iload 5, 2) := by decide +kernel
theorem d20_53 : decode B20 53 = .ok (.aload_n 0, 1) := by decide +kernel
theorem d20_54 : decode B20 54 = .ok (.getfield 22, 3) := by decide +kernel
theorem d20_57 : decode B20 57 = .ok (.ishr, 1) := by decide +kernel
theorem d20_58 : decode B20 58 = .ok (.ireturn, 1) := by decide +kernel
theorem d21_0 : decode B21 0 = .ok (.iload_n 0, 1) := by decide +kernel
theorem d21_1 : decode B21 1 = .ok (.iload_n 1, 1) := by decide +kernel
theorem d21_2 : decode B21 2 = .ok (.iload_n 2, 1) := by decide +kernel
theorem d21_3 : decode B21 3 = .ok (.invokestatic 194, 3) := by decide +kernel
theorem d21_6 : decode B21 6 = .ok (.iadd, 1) := by decide +kernel
theorem d21_7 : decode B21 7 = .ok (.istore_n 3, 1) := by decide +kernel
theorem d21_8 : decode B21 8 = .ok (.iconst 0, 1) := by decide +kernel
theorem d21_9 : decode B21 9 = .ok (.iload_n 3, 1) := by decide +kernel
theorem d21_10 : decode B21 10 = .ok (.if_icmp .ge 11, 3) := by decide +kernel
theorem d21_13 : decode B21 13 = .ok (.iload_n 3, 1) := by decide +kernel
theorem d21_14 : decode B21 14 = .ok (.ldc 200, 2) := by decide +kernel
theorem d21_16 : decode B21 16 = .ok (.if_icmp .gt 5, 3) := by decide +kernel
theorem d21_19 : decode B21 19 = .ok (.iload_n 3, 1) := by decide +kernel
theorem d21_20 : decode B21 20 = .ok (.ireturn, 1) := by decide +kernel
theorem d22_0 : decode B22 0 = .ok (.iload_n 0, 1) := by decide +kernel
theorem d22_1 : decode B22 1 = .ok (.iload_n 1, 1) := by decide +kernel
theorem d22_2 : decode B22 2 = .ok (.if_icmp .lt 7, 3) := by decide +kernel
theorem d22_5 : decode B22 5 = .ok (.iload_n 0, 1) := by decide +kernel
theorem d22_6 : decode B22 6 = .ok (.goto 4, 3) := by decide +kernel
theorem d22_9 : decode B22 9 = .ok (.iload_n 1, 1) := by decide +kernel
theorem d22_10 : decode B22 10 = .ok (.ireturn, 1) := by decide +kernel
theorem d23_0 : decode B23 0 = .ok (.iload_n 1, 1) := by decide +kernel
theorem d23_1 : decode B23 1 = .ok (.aload_n 0, 1) := by decide +kernel
theorem d23_2 : decode B23 2 = .ok (.arraylength, 1) := by decide +kernel
theorem d23_3 : decode B23 3 = .ok (.if_icmp .ne 11, 3) := by decide +kernel
theorem d23_14 : decode B23 14 = .ok (.iload_n 1, 1) := by decide +kernel
theorem d23_15 : decode B23 15 = .ok (.newarray .byte, 2) := by decide +kernel
theorem d23_17 : decode B23 17 = .ok (.astore_n 2, 1) := by decide +kernel
theorem d23_18 : decode B23 18 = .ok (.aload_n 0, 1) := by decide +kernel
theorem d23_19 : decode B23 19 = .ok (.iconst 0, 1) := by decide +kernel
theorem d23_20 : decode B23 20 = .ok (.aload_n 2, 1) := by decide +kernel
theorem d23_21 : decode B23 21 = .ok (.iconst 0, 1) := by decide +kernel
theorem d23_22 : decode B23 22 = .ok (.aload_n 0, 1) := by decide +kernel
theorem d23_23 : decode B23 23 = .ok (.arraylength, 1) := by decide +kernel
theorem d23_24 : decode B23 24 = .ok (.iload_n 1, 1) := by decide +kernel
theorem d23_25 : decode B23 25 = .ok (.invokestatic 304, 3) := by decide +kernel
theorem d23_28 : decode B23 28 = .ok (.invokestatic 150, 3) := by decide +kernel
theorem d23_31 : decode B23 31 = .ok (.aload_n 2, 1) := by decide +kernel
theorem d23_32 : decode B23 32 = .ok (.areturn, 1) := by decide +kernel
theorem d24_0 : decode B24 0 = .ok (.iload_n 0, 1) := by decide +kernel
theorem d24_1 : decode B24 1 = .ok (.iload_n 1, 1) := by decide +kernel
theorem d24_2 : decode B24 2 = .ok (.if_icmp .gt 7, 3) := by decide +kernel
theorem d24_5 : decode B24 5 = .ok (.iload_n 0, 1) := by decide +kernel
theorem d24_6 : decode B24 6 = .ok (.goto 4, 3) := by decide +kernel
theorem d24_9 : decode B24 9 = .ok (.iload_n 1, 1) := by decide +kernel
theorem d24_10 : decode B24 10 = .ok (.ireturn, 1) := by decide +kernel
theorem d25_0 : decode B25 0 = .ok (.aload_n 0, 1) := by decide +kernel
theorem d25_1 : decode B25 1 = .ok (.aload_n 2, 1) := by decide +kernel
theorem d25_2 : decode B25 2 = .ok (.invokevirtual 397, 3) := by decide +kernel
theorem d25_5 : decode B25 5 = .ok (.aload_n 2, 1) := by decide +kernel
theorem d25_6 : decode B25 6 = .ok (.aload_n 0, 1) := by decide +kernel
theorem d25_7 : decode B25 7 = .ok (.getfield 15, 3) := by decide +kernel
theorem d25_10 : decode B25 10 = .ok (.iload_n 1, 1) := by decide +kernel
theorem d25_11 : decode B25 11 = .ok (.aload_n 0, 1) := by decide +kernel
theorem d25_12 : decode B25 12 = .ok (.getfield 22, 3) := by decide +kernel
theorem d25_15 : decode B25 15 = .ok (.invokevirtual 399, 3) := by decide +kernel
theorem d25_18 : decode B25 18 = .ok (.return_, 1) := by decide +kernel
theorem d26_0 : decode B26 0 = .ok (.getstatic 18, 3) := by decide +kernel
theorem d26_3 : decode B26 3 = .ok (.ifCond .eq 18, 3) := by decide +kernel
theorem d26_6 : decode B26 6 = .ok (.aload_n 0, 1) := by decide +kernel
theorem d26_7 : decode B26 7 = .ok (.getfield 22, 3) := by decide +kernel
theorem d26_10 : decode B26 10 = .ok (.aload_n 1, 1) := by decide +kernel
theorem d26_11 : decode B26 11 = .ok (.invokevirtual 40, 3) := by decide +kernel
theorem d26_14 : decode B26 14 = .ok (.if_icmp .eq 7, 3) := by decide +kernel
theorem d26_17 : decode B26 17 = .ok (.aload_n 0, 1) := by decide +kernel
theorem d26_18 : decode B26 18 = .ok (.invokevirtual 195, 3) := by decide +kernel
theorem d26_21 : decode B26 21 = .ok (.return_, 1) := by decide +kernel
theorem d27_0 : decode B27 0 = .ok (.aload_n 0, 1) := by decide +kernel
theorem d27_1 : decode B27 1 = .ok (.invokevirtual 335, 3) := by decide +kernel
theorem d27_4 : decode B27 4 = .ok (.iload_n 3, 1) := by decide +kernel
theorem d27_5 : decode B27 5 = .ok (.if_icmp .ne 23, 3) := by decide +kernel
theorem d27_8 : decode B27 8 = .ok (.aload_n 0, 1) := by decide +kernel
theorem d27_9 : decode B27 9 = .ok (.getfield 9, 3) := by decide +kernel
theorem d27_12 : decode B27 12 = .ok (.iconst 0, 1) := by decide +kernel
theorem d27_13 : decode B27 13 = .ok (.aload_n 1, 1) := by decide +kernel
theorem d27_14 : decode B27 14 = .ok (.iload_n 2, 1) := by decide +kernel
theorem d27_15 : decode B27 15 = .ok (.iload_n 3, 1) := by decide +kernel
theorem d27_16 : decode B27 16 = .ok (.ishl, 1) := by decide +kernel
theorem d27_17 : decode B27 17 = .ok (.aload_n 0, 1) := by decide +kernel
theorem d27_18 : decode B27 18 = .ok (.getfield 9, 3) := by decide +kernel
theorem d27_21 : decode B27 21 = .ok (.arraylength, 1) := by decide +kernel
theorem d27_22 : decode B27 22 = .ok (.invokestatic 212, 3) := by decide +kernel
theorem d27_25 : decode B27 25 = .ok (.goto 18, 3) := by decide +kernel
theorem d27_28 : decode B27 28 = .ok (.aload_n 0, 1) := by decide +kernel
theorem d27_29 : decode B27 29 = .ok (.getfield 9, 3) := by decide +kernel
theorem d27_32 : decode B27 32 = .ok (.iconst 0, 1) := by decide +kernel
theorem d27_33 : decode B27 33 = .ok (.aload_n 1, 1) := by decide +kernel
theorem d27_34 : decode B27 34 = .ok (.iload_n 2, 1) := by decide +kernel
theorem d27_35 : decode B27 35 = .ok (.aload_n 0, 1) := by decide +kernel
theorem d27_36 : decode B27 36 = .ok (.getfield 9, 3) := by decide +kernel
theorem d27_39 : decode B27 39 = .ok (.arraylength, 1) := by decide +kernel
theorem d27_40 : decode B27 40 = .ok (.invokestatic 106, 3) := by decide +kernel
theorem d27_43 : decode B27 43 = .ok (.return_, 1) := by decide +kernel
theorem d28_0 : decode B28 0 = .ok (.new 18, 3) := by decide +kernel
theorem d28_3 : decode B28 3 = .ok (.dup, 1) := by decide +kernel
theorem d28_4 : decode B28 4 = .ok (.aload_n 0, 1) := by decide +kernel
theorem d28_5 : decode B28 5 = .ok (.invokespecial 137, 3) := by decide +kernel
theorem d28_8 : decode B28 8 = .ok (.areturn, 1) := by decide +kernel
theorem d29_0 : decode B29 0 = .ok (.aload_n 0, 1) := by decide +kernel
theorem d29_1 : decode B29 1 = .ok (.aload_n 1, 1) := by decide +kernel
theorem d29_2 : decode B29 2 = .ok (.aconst_null, 1) := by decide +kernel
theorem d29_3 : decode B29 3 = .ok (.invokespecial 489, 3) := by decide +kernel
theorem d29_6 : decode B29 6 = .ok (.return_, 1) := by decide +kernel
theorem d30_0 : decode B30 0 = .ok (.aload_n 0, 1) := by decide +kernel
theorem d30_1 : decode B30 1 = .ok (.invokespecial 1, 3) := by decide +kernel
theorem d30_4 : decode B30 4 = .ok (.aload_n 1, 1) := by decide +kernel
theorem d30_5 : decode B30 5 = .ok (.invokevirtual 552, 3) := by decide +kernel
theorem d30_8 : decode B30 8 = .ok (.astore_n 3, 1) := by decide +kernel
theorem d30_9 : decode B30 9 = .ok (.aload_n 1, 1) := by decide +kernel
theorem d30_10 : decode B30 10 = .ok (.invokevirtual 549, 3) := by decide +kernel
theorem d30_13 : decode B30 13 = .ok (.istore 4, 2) := by decide +kernel
theorem d30_15 : decode B30 15 = .ok (.aload_n 1, 1) := by decide +kernel
theorem d30_16 : decode B30 16 = .ok (.invokevirtual 1047, 3) := by decide +kernel
theorem d30_19 : decode B30 19 = .ok (.ifCond .eq 22, 3) := by decide +kernel
theorem d30_22 : decode B30 22 = .ok (.aload_n 0, 1) := by decide +kernel
theorem d30_23 : decode B30 23 = .ok (.iconst 0, 1) := by decide +kernel
theorem d30_24 : decode B30 24 = .ok (.putfield 15, 3) := by decide +kernel
theorem d30_27 : decode B30 27 = .ok (.aload_n 0, 1) := by decide +kernel
theorem d30_28 : decode B30 28 = .ok (.aload_n 3, 1) := by decide +kernel
theorem d30_29 : decode B30 29 = .ok (.iconst 0, 1) := by decide +kernel
theorem d30_30 : decode B30 30 = .ok (.iload 4, 2) := by decide +kernel
theorem d30_32 : decode B30 32 = .ok (.invokestatic 54, 3) := by decide +kernel
theorem d30_35 : decode B30 35 = .ok (.putfield 9, 3) := by decide +kernel
theorem d30_38 : decode B30 38 = .ok (.goto 59, 3) := by decide +kernel
theorem d30_41 : decode B30 41 = .ok (.getstatic 38, 3) := by decide +kernel
theorem d30_44 : decode B30 44 = .ok (.ifCond .eq 35, 3) := by decide +kernel
theorem d30_47 : decode B30 47 = .ok (.aload_n 1, 1) := by decide +kernel
theorem d30_48 : decode B30 48 = .ok (.getfield 1048, 3) := by decide +kernel
theorem d30_51 : decode B30 51 = .ok (.ifCond .eq 28, 3) := by decide +kernel
theorem d30_79 : decode B30 79 = .ok (.aload_n 0, 1) := by decide +kernel
theorem d30_80 : decode B30 80 = .ok (.iconst 1, 1) := by decide +kernel
theorem d30_81 : decode B30 81 = .ok (.putfield 15, 3) := by decide +kernel
theorem d30_84 : decode B30 84 = .ok (.aload_n 0, 1) := by decide +kernel
theorem d30_85 : decode B30 85 = .ok (.aload_n 3, 1) := by decide +kernel
theorem d30_86 : decode B30 86 = .ok (.iconst 0, 1) := by decide +kernel
theorem d30_87 : decode B30 87 = .ok (.iload 4, 2) := by decide +kernel
theorem d30_89 : decode B30 89 = .ok (.iconst 1, 1) := by decide +kernel
theorem d30_90 : decode B30 90 = .ok (.ishl, 1) := by decide +kernel
theorem d30_91 : decode B30 91 = .ok (.invokestatic 54, 3) := by decide +kernel
theorem d30_94 : decode B30 94 = .ok (.putfield 9, 3) := by decide +kernel
theorem d30_97 : decode B30 97 = .ok (.return_, 1) := by decide +kernel
theorem d31_0 : decode B31 0 = .ok (.aload_n 0, 1) := by decide +kernel
theorem d31_1 : decode B31 1 = .ok (.getfield 15, 3) := by decide +kernel
theorem d31_4 : decode B31 4 = .ok (.areturn, 1) := by decide +kernel
theorem d32_0 : decode B32 0 = .ok (.aload_n 0, 1) := by decide +kernel
theorem d32_1 : decode B32 1 = .ok (.invokespecial 343, 3) := by decide +kernel
theorem d32_4 : decode B32 4 = .ok (.ireturn, 1) := by decide +kernel
theorem d33_0 : decode B33 0 = .ok (.aload_n 0, 1) := by decide +kernel
theorem d33_1 : decode B33 1 = .ok (.getfield 79, 3) := by decide +kernel
theorem d33_4 : decode B33 4 = .ok (.ireturn, 1) := by decide +kernel
theorem d34_0 : decode B34 0 = .ok (.getstatic 18, 3) := by decide +kernel
theorem d34_3 : decode B34 3 = .ok (.ifCond .eq 14, 3) := by decide +kernel
theorem d34_6 : decode B34 6 = .ok (.aload_n 0, 1) := by decide +kernel
theorem d34_7 : decode B34 7 = .ok (.getfield 22, 3) := by decide +kernel
theorem d34_10 : decode B34 10 = .ok (.ifCond .ne 7, 3) := by decide +kernel
theorem d34_13 : decode B34 13 = .ok (.iconst 1, 1) := by decide +kernel
theorem d34_14 : decode B34 14 = .ok (.goto 4, 3) := by decide +kernel
theorem d34_17 : decode B34 17 = .ok (.iconst 0, 1) := by decide +kernel
theorem d34_18 : decode B34 18 = .ok (.ireturn, 1) := by decide +kernel
theorem d35_0 : decode B35 0 = .ok (.iload_n 1, 1) := by decide +kernel
theorem d35_1 : decode B35 1 = .ok (.ifCond .ne 9, 3) := by decide +kernel
theorem d35_4 : decode B35 4 = .ok (.iload_n 2, 1) := by decide +kernel
theorem d35_5 : decode B35 5 = .ok (.aload_n 0, 1) := by decide +kernel
theorem d35_6 : decode B35 6 = .ok (.arraylength, 1) := by decide +kernel
theorem d35_7 : decode B35 7 = .ok (.if_icmp .eq 10, 3) := by decide +kernel
theorem d35_10 : decode B35 10 = .ok (.aload_n 0, 1) := by decide +kernel
theorem d35_11 : decode B35 11 = .ok (.iload_n 1, 1) := by decide +kernel
theorem d35_12 : decode B35 12 = .ok (.iload_n 2, 1) := by decide +kernel
theorem d35_13 : decode B35 13 = .ok (.invokestatic 339, 3) := by decide +kernel
theorem d35_16 : decode B35 16 = .ok (.areturn, 1) := by decide +kernel
theorem d35_17 : decode B35 17 = .ok (.aload_n 0, 1) := by decide +kernel
theorem d35_18 : decode B35 18 = .ok (.invokevirtual 310, 3) := by decide +kernel
theorem d35_21 : decode B35 21 = .ok (.checkcast 311, 3) := by decide +kernel
theorem d35_24 : decode B35 24 = .ok (.areturn, 1) := by decide +kernel
theorem d36_0 : decode B36 0 = .ok (.iload_n 0, 1) := by decide +kernel
theorem d36_1 : decode B36 1 = .ok (.bipush 38, 2) := by decide +kernel
theorem d36_3 : decode B36 3 = .ok (.if_icmp .ne 6, 3) := by decide +kernel
theorem d36_6 : decode B36 6 = .ok (.ldc 7, 2) := by decide +kernel
theorem d36_8 : decode B36 8 = .ok (.areturn, 1) := by decide +kernel
theorem d36_9 : decode B36 9 = .ok (.iload_n 0, 1) := by decide +kernel
theorem d36_10 : decode B36 10 = .ok (.bipush 60, 2) := by decide +kernel
theorem d36_12 : decode B36 12 = .ok (.if_icmp .ne 6, 3) := by decide +kernel
theorem d36_15 : decode B36 15 = .ok (.ldc 9, 2) := by decide +kernel
theorem d36_17 : decode B36 17 = .ok (.areturn, 1) := by decide +kernel
theorem d36_18 : decode B36 18 = .ok (.iload_n 0, 1) := by decide +kernel
theorem d36_19 : decode B36 19 = .ok (.bipush 62, 2) := by decide +kernel
theorem d36_21 : decode B36 21 = .ok (.if_icmp .ne 6, 3) := by decide +kernel
theorem d36_24 : decode B36 24 = .ok (.ldc 11, 2) := by decide +kernel
theorem d36_26 : decode B36 26 = .ok (.areturn, 1) := by decide +kernel
theorem d36_27 : decode B36 27 = .ok (.iload_n 0, 1) := by decide +kernel
theorem d36_28 : decode B36 28 = .ok (.bipush 34, 2) := by decide +kernel
theorem d36_30 : decode B36 30 = .ok (.if_icmp .ne 6, 3) := by decide +kernel
theorem d36_33 : decode B36 33 = .ok (.ldc 13, 2) := by decide +kernel
theorem d36_35 : decode B36 35 = .ok (.areturn, 1) := by decide +kernel
theorem d36_36 : decode B36 36 = .ok (.iload_n 0, 1) := by decide +kernel
theorem d36_37 : decode B36 37 = .ok (.invokestatic 15, 3) := by decide +kernel
theorem d36_40 : decode B36 40 = .ok (.areturn, 1) := by decide +kernel
theorem d37_0 : decode B37 0 = .ok (.aload_n 2, 1) := by decide +kernel
theorem d37_1 : decode B37 1 = .ok (.invokevirtual 21, 3) := by decide +kernel
theorem d37_4 : decode B37 4 = .ok (.istore_n 3, 1) := by decide +kernel
theorem d37_5 : decode B37 5 = .ok (.iload_n 3, 1) := by decide +kernel
theorem d37_6 : decode B37 6 = .ok (.ifCond .le 18, 3) := by decide +kernel
theorem d37_9 : decode B37 9 = .ok (.aload_n 0, 1) := by decide +kernel
theorem d37_10 : decode B37 10 = .ok (.iload_n 1, 1) := by decide +kernel
theorem d37_11 : decode B37 11 = .ok (.invokevirtual 25, 3) := by decide +kernel
theorem d37_14 : decode B37 14 = .ok (.aload_n 2, 1) := by decide +kernel
theorem d37_15 : decode B37 15 = .ok (.iconst 0, 1) := by decide +kernel
theorem d37_16 : decode B37 16 = .ok (.invokevirtual 25, 3) := by decide +kernel
theorem d37_19 : decode B37 19 = .ok (.if_icmp .eq 5, 3) := by decide +kernel
theorem d37_24 : decode B37 24 = .ok (.iload_n 3, 1) := by decide +kernel
theorem d37_25 : decode B37 25 = .ok (.iconst 1, 1) := by decide +kernel
theorem d37_26 : decode B37 26 = .ok (.if_icmp .le 20, 3) := by decide +kernel
theorem d37_29 : decode B37 29 = .ok (.aload_n 0, 1) := by decide +kernel
theorem d37_30 : decode B37 30 = .ok (.iload_n 1, 1) := by decide +kernel
theorem d37_31 : decode B37 31 = .ok (.iconst 1, 1) := by decide +kernel
theorem d37_32 : decode B37 32 = .ok (.iadd, 1) := by decide +kernel
theorem d37_33 : decode B37 33 = .ok (.invokevirtual 25, 3) := by decide +kernel
theorem d37_36 : decode B37 36 = .ok (.aload_n 2, 1) := by decide +kernel
theorem d37_37 : decode B37 37 = .ok (.iconst 1, 1) := by decide +kernel
theorem d37_38 : decode B37 38 = .ok (.invokevirtual 25, 3) := by decide +kernel
theorem d37_41 : decode B37 41 = .ok (.if_icmp .eq 5, 3) := by decide +kernel
theorem d37_46 : decode B37 46 = .ok (.iload_n 3, 1) := by decide +kernel
theorem d37_47 : decode B37 47 = .ok (.iconst 2, 1) := by decide +kernel
theorem d37_48 : decode B37 48 = .ok (.if_icmp .le 20, 3) := by decide +kernel
theorem d37_51 : decode B37 51 = .ok (.aload_n 0, 1) := by decide +kernel
theorem d37_52 : decode B37 52 = .ok (.iload_n 1, 1) := by decide +kernel
theorem d37_53 : decode B37 53 = .ok (.iconst 2, 1) := by decide +kernel
theorem d37_54 : decode B37 54 = .ok (.iadd, 1) := by decide +kernel
theorem d37_55 : decode B37 55 = .ok (.invokevirtual 25, 3) := by decide +kernel
theorem d37_58 : decode B37 58 = .ok (.aload_n 2, 1) := by decide +kernel
theorem d37_59 : decode B37 59 = .ok (.iconst 2, 1) := by decide +kernel
theorem d37_60 : decode B37 60 = .ok (.invokevirtual 25, 3) := by decide +kernel
theorem d37_63 : decode B37 63 = .ok (.if_icmp .eq 5, 3) := by decide +kernel
theorem d37_68 : decode B37 68 = .ok (.iload_n 3, 1) := by decide +kernel
theorem d37_69 : decode B37 69 = .ok (.iconst 3, 1) := by decide +kernel
theorem d37_70 : decode B37 70 = .ok (.if_icmp .le 20, 3) := by decide +kernel
theorem d37_73 : decode B37 73 = .ok (.aload_n 0, 1) := by decide +kernel
theorem d37_74 : decode B37 74 = .ok (.iload_n 1, 1) := by decide +kernel
theorem d37_75 : decode B37 75 = .ok (.iconst 3, 1) := by decide +kernel
theorem d37_76 : decode B37 76 = .ok (.iadd, 1) := by decide +kernel
theorem d37_77 : decode B37 77 = .ok (.invokevirtual 25, 3) := by decide +kernel
theorem d37_80 : decode B37 80 = .ok (.aload_n 2, 1) := by decide +kernel
theorem d37_81 : decode B37 81 = .ok (.iconst 3, 1) := by decide +kernel
theorem d37_82 : decode B37 82 = .ok (.invokevirtual 25, 3) := by decide +kernel
theorem d37_85 : decode B37 85 = .ok (.if_icmp .eq 5, 3) := by decide +kernel
theorem d37_90 : decode B37 90 = .ok (.iload_n 3, 1) := by decide +kernel
theorem d37_91 : decode B37 91 = .ok (.iconst 4, 1) := by decide +kernel
theorem d37_92 : decode B37 92 = .ok (.if_icmp .le 20, 3) := by decide +kernel
theorem d37_95 : decode B37 95 = .ok (.aload_n 0, 1) := by decide +kernel
theorem d37_96 : decode B37 96 = .ok (.iload_n 1, 1) := by decide +kernel
theorem d37_97 : decode B37 97 = .ok (.iconst 4, 1) := by decide +kernel
theorem d37_98 : decode B37 98 = .ok (.iadd, 1) := by decide +kernel
theorem d37_99 : decode B37 99 = .ok (.invokevirtual 25, 3) := by decide +kernel
theorem d37_102 : decode B37 102 = .ok (.aload_n 2, 1) := by decide +kernel
theorem d37_103 : decode B37 103 = .ok (.iconst 4, 1) := by decide +kernel
theorem d37_104 : decode B37 104 = .ok (.invokevirtual 25, 3) := by decide +kernel
theorem d37_107 : decode B37 107 = .ok (.if_icmp .eq 5, 3) := by decide +kernel
theorem d37_112 : decode B37 112 = .ok (.iload_n 3, 1) := by decide +kernel
theorem d37_113 : decode B37 113 = .ok (.iconst 5, 1) := by decide +kernel
theorem d37_114 : decode B37 114 = .ok (.if_icmp .le 20, 3) := by decide +kernel
theorem d37_117 : decode B37 117 = .ok (.aload_n 0, 1) := by decide +kernel
theorem d37_118 : decode B37 118 = .ok (.iload_n 1, 1) := by decide +kernel
theorem d37_119 : decode B37 119 = .ok (.iconst 5, 1) := by decide +kernel
theorem d37_120 : decode B37 120 = .ok (.iadd, 1) := by decide +kernel
theorem d37_121 : decode B37 121 = .ok (.invokevirtual 25, 3) := by decide +kernel
theorem d37_124 : decode B37 124 = .ok (.aload_n 2, 1) := by decide +kernel
theorem d37_125 : decode B37 125 = .ok (.iconst 5, 1) := by decide +kernel
theorem d37_126 : decode B37 126 = .ok (.invokevirtual 25, 3) := by decide +kernel
theorem d37_129 : decode B37 129 = .ok (.if_icmp .eq 5, 3) := by decide +kernel
theorem d37_134 : decode B37 134 = .ok (.iconst 1, 1) := by decide +kernel
theorem d37_135 : decode B37 135 = .ok (.ireturn, 1) := by decide +kernel
theorem d38_0 : decode B38 0 = .ok (.aload_n 0, 1) := by decide +kernel
theorem d38_1 : decode B38 1 = .ok (.iload_n 1, 1) := by decide +kernel
theorem d38_2 : decode B38 2 = .ok (.invokespecial 50, 3) := by decide +kernel
theorem d38_5 : decode B38 5 = .ok (.pop, 1) := by decide +kernel
theorem d38_6 : decode B38 6 = .ok (.aload_n 0, 1) := by decide +kernel
theorem d38_7 : decode B38 7 = .ok (.areturn, 1) := by decide +kernel
theorem d39_0 : decode B39 0 = .ok (.aload_n 0, 1) := by decide +kernel
theorem d39_1 : decode B39 1 = .ok (.aload_n 0, 1) := by decide +kernel
theorem d39_2 : decode B39 2 = .ok (.getfield 79, 3) := by decide +kernel
theorem d39_5 : decode B39 5 = .ok (.iconst 1, 1) := by decide +kernel
theorem d39_6 : decode B39 6 = .ok (.iadd, 1) := by decide +kernel
theorem d39_7 : decode B39 7 = .ok (.invokevirtual 100, 3) := by decide +kernel
theorem d39_10 : decode B39 10 = .ok (.aload_n 0, 1) := by decide +kernel
theorem d39_11 : decode B39 11 = .ok (.invokevirtual 83, 3) := by decide +kernel
theorem d39_14 : decode B39 14 = .ok (.ifCond .eq 31, 3) := by decide +kernel
theorem d39_17 : decode B39 17 = .ok (.iload_n 1, 1) := by decide +kernel
theorem d39_18 : decode B39 18 = .ok (.invokestatic 191, 3) := by decide +kernel
theorem d39_21 : decode B39 21 = .ok (.ifCond .eq 24, 3) := by decide +kernel
theorem d39_24 : decode B39 24 = .ok (.aload_n 0, 1) := by decide +kernel
theorem d39_25 : decode B39 25 = .ok (.getfield 15, 3) := by decide +kernel
theorem d39_28 : decode B39 28 = .ok (.aload_n 0, 1) := by decide +kernel
theorem d39_29 : decode B39 29 = .ok (.dup, 1) := by decide +kernel
theorem d39_30 : decode B39 30 = .ok (.getfield 79, 3) := by decide +kernel
theorem d39_33 : decode B39 33 = .ok (.dup_x1, 1) := by decide +kernel
theorem d39_34 : decode B39 34 = .ok (.iconst 1, 1) := by decide +kernel
theorem d39_35 : decode B39 35 = .ok (.iadd, 1) := by decide +kernel
theorem d39_36 : decode B39 36 = .ok (.putfield 79, 3) := by decide +kernel
theorem d39_39 : decode B39 39 = .ok (.iload_n 1, 1) := by decide +kernel
theorem d39_40 : decode B39 40 = .ok (.i2b, 1) := by decide +kernel
theorem d39_41 : decode B39 41 = .ok (.bastore, 1) := by decide +kernel
theorem d39_42 : decode B39 42 = .ok (.goto 33, 3) := by decide +kernel
theorem d39_45 : decode B39 45 = .ok (.aload_n 0, 1) := by decide +kernel
theorem d39_46 : decode B39 46 = .ok (.invokevirtual 83, 3) := by decide +kernel
theorem d39_49 : decode B39 49 = .ok (.ifCond .eq 7, 3) := by decide +kernel
theorem d39_52 : decode B39 52 = .ok (.aload_n 0, 1) := by decide +kernel
theorem d39_53 : decode B39 53 = .ok (.invokevirtual 195, 3) := by decide +kernel
theorem d39_56 : decode B39 56 = .ok (.aload_n 0, 1) := by decide +kernel
theorem d39_57 : decode B39 57 = .ok (.getfield 15, 3) := by decide +kernel
theorem d39_60 : decode B39 60 = .ok (.aload_n 0, 1) := by decide +kernel
theorem d39_61 : decode B39 61 = .ok (.dup, 1) := by decide +kernel
theorem d39_62 : decode B39 62 = .ok (.getfield 79, 3) := by decide +kernel
theorem d39_65 : decode B39 65 = .ok (.dup_x1, 1) := by decide +kernel
theorem d39_66 : decode B39 66 = .ok (.iconst 1, 1) := by decide +kernel
theorem d39_67 : decode B39 67 = .ok (.iadd, 1) := by decide +kernel
theorem d39_68 : decode B39 68 = .ok (.putfield 79, 3) := by decide +kernel
theorem d39_71 : decode B39 71 = .ok (.iload_n 1, 1) := by decide +kernel
theorem d39_72 : decode B39 72 = .ok (.invokestatic 197, 3) := by decide +kernel
theorem d39_75 : decode B39 75 = .ok (.aload_n 0, 1) := by decide +kernel
theorem d39_76 : decode B39 76 = .ok (.areturn, 1) := by decide +kernel
theorem d40_0 : decode B40 0 = .ok (.iload_n 0, 1) := by decide +kernel
theorem d40_1 : decode B40 1 = .ok (.sipush 255, 3) := by decide +kernel
theorem d40_4 : decode B40 4 = .ok (.if_icmp .gt 7, 3) := by decide +kernel
theorem d40_7 : decode B40 7 = .ok (.iconst 1, 1) := by decide +kernel
theorem d40_8 : decode B40 8 = .ok (.goto 4, 3) := by decide +kernel
theorem d40_11 : decode B40 11 = .ok (.iconst 0, 1) := by decide +kernel
theorem d40_12 : decode B40 12 = .ok (.ireturn, 1) := by decide +kernel
theorem d41_0 : decode B41 0 = .ok (.getstatic 38, 3) := by decide +kernel
theorem d41_3 : decode B41 3 = .ok (.ifCond .eq 23, 3) := by decide +kernel
theorem d41_6 : decode B41 6 = .ok (.iload_n 0, 1) := by decide +kernel
theorem d41_7 : decode B41 7 = .ok (.invokestatic 1015, 3) := by decide +kernel
theorem d41_10 : decode B41 10 = .ok (.ifCond .eq 16, 3) := by decide +kernel
theorem d41_13 : decode B41 13 = .ok (.new 10, 3) := by decide +kernel
theorem d41_16 : decode B41 16 = .ok (.dup, 1) := by decide +kernel
theorem d41_17 : decode B41 17 = .ok (.iload_n 0, 1) := by decide +kernel
theorem d41_18 : decode B41 18 = .ok (.invokestatic 1018, 3) := by decide +kernel
theorem d41_21 : decode B41 21 = .ok (.iconst 0, 1) := by decide +kernel
theorem d41_22 : decode B41 22 = .ok (.invokespecial 209, 3) := by decide +kernel
theorem d41_25 : decode B41 25 = .ok (.areturn, 1) := by decide +kernel
theorem d41_26 : decode B41 26 = .ok (.new 10, 3) := by decide +kernel
theorem d41_29 : decode B41 29 = .ok (.dup, 1) := by decide +kernel
theorem d41_30 : decode B41 30 = .ok (.iload_n 0, 1) := by decide +kernel
theorem d41_31 : decode B41 31 = .ok (.invokestatic 1021, 3) := by decide +kernel
theorem d41_34 : decode B41 34 = .ok (.iconst 1, 1) := by decide +kernel
theorem d41_35 : decode B41 35 = .ok (.invokespecial 209, 3) := by decide +kernel
theorem d41_38 : decode B41 38 = .ok (.areturn, 1) := by decide +kernel
theorem d42_0 : decode B42 0 = .ok (.iconst 1, 1) := by decide +kernel
theorem d42_1 : decode B42 1 = .ok (.newarray .byte, 2) := by decide +kernel
theorem d42_3 : decode B42 3 = .ok (.dup, 1) := by decide +kernel
theorem d42_4 : decode B42 4 = .ok (.iconst 0, 1) := by decide +kernel
theorem d42_5 : decode B42 5 = .ok (.iload_n 0, 1) := by decide +kernel
theorem d42_6 : decode B42 6 = .ok (.i2b, 1) := by decide +kernel
theorem d42_7 : decode B42 7 = .ok (.bastore, 1) := by decide +kernel
theorem d42_8 : decode B42 8 = .ok (.areturn, 1) := by decide +kernel
theorem d43_0 : decode B43 0 = .ok (.aload_n 0, 1) := by decide +kernel
theorem d43_1 : decode B43 1 = .ok (.invokespecial 1, 3) := by decide +kernel
theorem d43_4 : decode B43 4 = .ok (.aload_n 0, 1) := by decide +kernel
theorem d43_5 : decode B43 5 = .ok (.aload_n 1, 1) := by decide +kernel
theorem d43_6 : decode B43 6 = .ok (.putfield 9, 3) := by decide +kernel
theorem d43_9 : decode B43 9 = .ok (.aload_n 0, 1) := by decide +kernel
theorem d43_10 : decode B43 10 = .ok (.iload_n 2, 1) := by decide +kernel
theorem d43_11 : decode B43 11 = .ok (.putfield 15, 3) := by decide +kernel
theorem d43_14 : decode B43 14 = .ok (.return_, 1) := by decide +kernel
theorem d44_0 : decode B44 0 = .ok (.iconst 2, 1) := by decide +kernel
theorem d44_1 : decode B44 1 = .ok (.newarray .byte, 2) := by decide +kernel
theorem d44_3 : decode B44 3 = .ok (.astore_n 1, 1) := by decide +kernel
theorem d44_4 : decode B44 4 = .ok (.aload_n 1, 1) := by decide +kernel
theorem d44_5 : decode B44 5 = .ok (.iconst 0, 1) := by decide +kernel
theorem d44_6 : decode B44 6 = .ok (.iload_n 0, 1) := by decide +kernel
theorem d44_7 : decode B44 7 = .ok (.invokestatic 111, 3) := by decide +kernel
theorem d44_10 : decode B44 10 = .ok (.aload_n 1, 1) := by decide +kernel
theorem d44_11 : decode B44 11 = .ok (.areturn, 1) := by decide +kernel
theorem d45_0 : decode B45 0 = .ok (.getstatic 44, 3) := by decide +kernel
theorem d45_3 : decode B45 3 = .ok (.ifCond .ne 25, 3) := by decide +kernel
theorem d45_28 : decode B45 28 = .ok (.iload_n 1, 1) := by decide +kernel
theorem d45_29 : decode B45 29 = .ok (.iconst 1, 1) := by decide +kernel
theorem d45_30 : decode B45 30 = .ok (.ishl, 1) := by decide +kernel
theorem d45_31 : decode B45 31 = .ok (.istore_n 1, 1) := by decide +kernel
theorem d45_32 : decode B45 32 = .ok (.aload_n 0, 1) := by decide +kernel
theorem d45_33 : decode B45 33 = .ok (.iload_n 1, 1) := by decide +kernel
theorem d45_34 : decode B45 34 = .ok (.iinc 1 1, 3) := by decide +kernel
theorem d45_37 : decode B45 37 = .ok (.iload_n 2, 1) := by decide +kernel
theorem d45_38 : decode B45 38 = .ok (.getstatic 59, 3) := by decide +kernel
theorem d45_41 : decode B45 41 = .ok (.ishr, 1) := by decide +kernel
theorem d45_42 : decode B45 42 = .ok (.i2b, 1) := by decide +kernel
theorem d45_43 : decode B45 43 = .ok (.bastore, 1) := by decide +kernel
theorem d45_44 : decode B45 44 = .ok (.aload_n 0, 1) := by decide +kernel
theorem d45_45 : decode B45 45 = .ok (.iload_n 1, 1) := by decide +kernel
theorem d45_46 : decode B45 46 = .ok (.iload_n 2, 1) := by decide +kernel
theorem d45_47 : decode B45 47 = .ok (.getstatic 63, 3) := by decide +kernel
theorem d45_50 : decode B45 50 = .ok (.ishr, 1) := by decide +kernel
theorem d45_51 : decode B45 51 = .ok (.i2b, 1) := by decide +kernel
theorem d45_52 : decode B45 52 = .ok (.bastore, 1) := by decide +kernel
theorem d45_53 : decode B45 53 = .ok (.return_, 1) := by decide +kernel
theorem d46_0 : decode B46 0 = .ok (.iload_n 1, 1) := by decide +kernel
theorem d46_1 : decode B46 1 = .ok (.iload_n 2, 1) := by decide +kernel
theorem d46_2 : decode B46 2 = .ok (.invokestatic 343, 3) := by decide +kernel
theorem d46_5 : decode B46 5 = .ok (.iload_n 2, 1) := by decide +kernel
theorem d46_6 : decode B46 6 = .ok (.iload_n 1, 1) := by decide +kernel
theorem d46_7 : decode B46 7 = .ok (.isub, 1) := by decide +kernel
theorem d46_8 : decode B46 8 = .ok (.istore_n 3, 1) := by decide +kernel
theorem d46_9 : decode B46 9 = .ok (.iload_n 3, 1) := by decide +kernel
theorem d46_10 : decode B46 10 = .ok (.newarray .byte, 2) := by decide +kernel
theorem d46_12 : decode B46 12 = .ok (.astore 4, 2) := by decide +kernel
theorem d46_14 : decode B46 14 = .ok (.aload_n 0, 1) := by decide +kernel
theorem d46_15 : decode B46 15 = .ok (.iload_n 1, 1) := by decide +kernel
theorem d46_16 : decode B46 16 = .ok (.aload 4, 2) := by decide +kernel
theorem d46_18 : decode B46 18 = .ok (.iconst 0, 1) := by decide +kernel
theorem d46_19 : decode B46 19 = .ok (.aload_n 0, 1) := by decide +kernel
theorem d46_20 : decode B46 20 = .ok (.arraylength, 1) := by decide +kernel
theorem d46_21 : decode B46 21 = .ok (.iload_n 1, 1) := by decide +kernel
theorem d46_22 : decode B46 22 = .ok (.isub, 1) := by decide +kernel
theorem d46_23 : decode B46 23 = .ok (.iload_n 3, 1) := by decide +kernel
theorem d46_24 : decode B46 24 = .ok (.invokestatic 304, 3) := by decide +kernel
theorem d46_27 : decode B46 27 = .ok (.invokestatic 150, 3) := by decide +kernel
theorem d46_30 : decode B46 30 = .ok (.aload 4, 2) := by decide +kernel
theorem d46_32 : decode B46 32 = .ok (.areturn, 1) := by decide +kernel
theorem d47_0 : decode B47 0 = .ok (.iload_n 1, 1) := by decide +kernel
theorem d47_1 : decode B47 1 = .ok (.iload_n 0, 1) := by decide +kernel
theorem d47_2 : decode B47 2 = .ok (.if_icmp .ge 35, 3) := by decide +kernel
theorem d47_37 : decode B47 37 = .ok (.return_, 1) := by decide +kernel
theorem d48_0 : decode B48 0 = .ok (.iload_n 2, 1) := by decide +kernel
theorem d48_1 : decode B48 1 = .ok (.invokestatic 107, 3) := by decide +kernel
theorem d48_4 : decode B48 4 = .ok (.astore_n 3, 1) := by decide +kernel
theorem d48_5 : decode B48 5 = .ok (.iconst 0, 1) := by decide +kernel
theorem d48_6 : decode B48 6 = .ok (.istore 4, 2) := by decide +kernel
theorem d48_8 : decode B48 8 = .ok (.iload 4, 2) := by decide +kernel
theorem d48_10 : decode B48 10 = .ok (.iload_n 2, 1) := by decide +kernel
theorem d48_11 : decode B48 11 = .ok (.if_icmp .ge 21, 3) := by decide +kernel
theorem d48_14 : decode B48 14 = .ok (.aload_n 3, 1) := by decide +kernel
theorem d48_15 : decode B48 15 = .ok (.iload 4, 2) := by decide +kernel
theorem d48_17 : decode B48 17 = .ok (.aload_n 0, 1) := by decide +kernel
theorem d48_18 : decode B48 18 = .ok (.iload_n 1, 1) := by decide +kernel
theorem d48_19 : decode B48 19 = .ok (.caload, 1) := by decide +kernel
theorem d48_20 : decode B48 20 = .ok (.invokestatic 111, 3) := by decide +kernel
theorem d48_23 : decode B48 23 = .ok (.iinc 1 1, 3) := by decide +kernel
theorem d48_26 : decode B48 26 = .ok (.iinc 4 1, 3) := by decide +kernel
theorem d48_29 : decode B48 29 = .ok (.goto (-21), 3) := by decide +kernel
theorem d48_32 : decode B48 32 = .ok (.aload_n 3, 1) := by decide +kernel
theorem d48_33 : decode B48 33 = .ok (.areturn, 1) := by decide +kernel
theorem d49_0 : decode B49 0 = .ok (.iload_n 0, 1) := by decide +kernel
theorem d49_1 : decode B49 1 = .ok (.invokestatic 11, 3) := by decide +kernel
theorem d49_4 : decode B49 4 = .ok (.newarray .byte, 2) := by decide +kernel
theorem d49_6 : decode B49 6 = .ok (.areturn, 1) := by decide +kernel
theorem d50_0 : decode B50 0 = .ok (.iload_n 0, 1) := by decide +kernel
theorem d50_1 : decode B50 1 = .ok (.ifCond .ge 11, 3) := by decide +kernel
theorem d50_12 : decode B50 12 = .ok (.iload_n 0, 1) := by decide +kernel
theorem d50_13 : decode B50 13 = .ok (.ldc 20, 2) := by decide +kernel
theorem d50_15 : decode B50 15 = .ok (.if_icmp .lt 40, 3) := by decide +kernel
theorem d50_55 : decode B50 55 = .ok (.iload_n 0, 1) := by decide +kernel
theorem d50_56 : decode B50 56 = .ok (.iconst 1, 1) := by decide +kernel
theorem d50_57 : decode B50 57 = .ok (.ishl, 1) := by decide +kernel
theorem d50_58 : decode B50 58 = .ok (.ireturn, 1) := by decide +kernel
theorem d51_0 : decode B51 0 = .ok (.getstatic 44, 3) := by decide +kernel
theorem d51_3 : decode B51 3 = .ok (.ifCond .ne 25, 3) := by decide +kernel
theorem d51_28 : decode B51 28 = .ok (.iload_n 1, 1) := by decide +kernel
theorem d51_29 : decode B51 29 = .ok (.iconst 1, 1) := by decide +kernel
theorem d51_30 : decode B51 30 = .ok (.ishl, 1) := by decide +kernel
theorem d51_31 : decode B51 31 = .ok (.istore_n 1, 1) := by decide +kernel
theorem d51_32 : decode B51 32 = .ok (.aload_n 0, 1) := by decide +kernel
theorem d51_33 : decode B51 33 = .ok (.iload_n 1, 1) := by decide +kernel
theorem d51_34 : decode B51 34 = .ok (.iinc 1 1, 3) := by decide +kernel
theorem d51_37 : decode B51 37 = .ok (.baload, 1) := by decide +kernel
theorem d51_38 : decode B51 38 = .ok (.sipush 255, 3) := by decide +kernel
theorem d51_41 : decode B51 41 = .ok (.iand, 1) := by decide +kernel
theorem d51_42 : decode B51 42 = .ok (.getstatic 59, 3) := by decide +kernel
theorem d51_45 : decode B51 45 = .ok (.ishl, 1) := by decide +kernel
theorem d51_46 : decode B51 46 = .ok (.aload_n 0, 1) := by decide +kernel
theorem d51_47 : decode B51 47 = .ok (.iload_n 1, 1) := by decide +kernel
theorem d51_48 : decode B51 48 = .ok (.baload, 1) := by decide +kernel
theorem d51_49 : decode B51 49 = .ok (.sipush 255, 3) := by decide +kernel
theorem d51_52 : decode B51 52 = .ok (.iand, 1) := by decide +kernel
theorem d51_53 : decode B51 53 = .ok (.getstatic 63, 3) := by decide +kernel
theorem d51_56 : decode B51 56 = .ok (.ishl, 1) := by decide +kernel
theorem d51_57 : decode B51 57 = .ok (.ior, 1) := by decide +kernel
theorem d51_58 : decode B51 58 = .ok (.i2c, 1) := by decide +kernel
theorem d51_59 : decode B51 59 = .ok (.ireturn, 1) := by decide +kernel
theorem d52_0 : decode B52 0 = .ok (.iload_n 1, 1) := by decide +kernel
theorem d52_1 : decode B52 1 = .ok (.aload_n 0, 1) := by decide +kernel
theorem d52_2 : decode B52 2 = .ok (.invokestatic 67, 3) := by decide +kernel
theorem d52_5 : decode B52 5 = .ok (.aload_n 0, 1) := by decide +kernel
theorem d52_6 : decode B52 6 = .ok (.iload_n 1, 1) := by decide +kernel
theorem d52_7 : decode B52 7 = .ok (.invokestatic 71, 3) := by decide +kernel
theorem d52_10 : decode B52 10 = .ok (.ireturn, 1) := by decide +kernel
theorem d53_0 : decode B53 0 = .ok (.iload_n 0, 1) := by decide +kernel
theorem d53_1 : decode B53 1 = .ok (.aload_n 1, 1) := by decide +kernel
theorem d53_2 : decode B53 2 = .ok (.invokestatic 48, 3) := by decide +kernel
theorem d53_5 : decode B53 5 = .ok (.invokestatic 414, 3) := by decide +kernel
theorem d53_8 : decode B53 8 = .ok (.return_, 1) := by decide +kernel
theorem d54_0 : decode B54 0 = .ok (.aload_n 0, 1) := by decide +kernel
theorem d54_1 : decode B54 1 = .ok (.arraylength, 1) := by decide +kernel
theorem d54_2 : decode B54 2 = .ok (.iconst 1, 1) := by decide +kernel
theorem d54_3 : decode B54 3 = .ok (.ishr, 1) := by decide +kernel
theorem d54_4 : decode B54 4 = .ok (.ireturn, 1) := by decide +kernel
theorem d55_0 : decode B55 0 = .ok (.aload_n 0, 1) := by decide +kernel
theorem d55_1 : decode B55 1 = .ok (.invokevirtual 83, 3) := by decide +kernel
theorem d55_4 : decode B55 4 = .ok (.ifCond .ne 4, 3) := by decide +kernel
theorem d55_7 : decode B55 7 = .ok (.return_, 1) := by decide +kernel
theorem d55_8 : decode B55 8 = .ok (.aload_n 0, 1) := by decide +kernel
theorem d55_9 : decode B55 9 = .ok (.getfield 15, 3) := by decide +kernel
theorem d55_12 : decode B55 12 = .ok (.arraylength, 1) := by decide +kernel
theorem d55_13 : decode B55 13 = .ok (.invokestatic 26, 3) := by decide +kernel
theorem d55_16 : decode B55 16 = .ok (.astore_n 1, 1) := by decide +kernel
theorem d55_17 : decode B55 17 = .ok (.aload_n 0, 1) := by decide +kernel
theorem d55_18 : decode B55 18 = .ok (.getfield 15, 3) := by decide +kernel
theorem d55_21 : decode B55 21 = .ok (.iconst 0, 1) := by decide +kernel
theorem d55_22 : decode B55 22 = .ok (.aload_n 1, 1) := by decide +kernel
theorem d55_23 : decode B55 23 = .ok (.iconst 0, 1) := by decide +kernel
theorem d55_24 : decode B55 24 = .ok (.aload_n 0, 1) := by decide +kernel
theorem d55_25 : decode B55 25 = .ok (.getfield 79, 3) := by decide +kernel
theorem d55_28 : decode B55 28 = .ok (.invokestatic 125, 3) := by decide +kernel
theorem d55_31 : decode B55 31 = .ok (.aload_n 0, 1) := by decide +kernel
theorem d55_32 : decode B55 32 = .ok (.aload_n 1, 1) := by decide +kernel
theorem d55_33 : decode B55 33 = .ok (.putfield 15, 3) := by decide +kernel
theorem d55_36 : decode B55 36 = .ok (.aload_n 0, 1) := by decide +kernel
theorem d55_37 : decode B55 37 = .ok (.iconst 1, 1) := by decide +kernel
theorem d55_38 : decode B55 38 = .ok (.putfield 22, 3) := by decide +kernel
theorem d55_41 : decode B55 41 = .ok (.return_, 1) := by decide +kernel
theorem d56_0 : decode B56 0 = .ok (.aload_n 0, 1) := by decide +kernel
theorem d56_1 : decode B56 1 = .ok (.iload_n 1, 1) := by decide +kernel
theorem d56_2 : decode B56 2 = .ok (.aload_n 2, 1) := by decide +kernel
theorem d56_3 : decode B56 3 = .ok (.iload_n 3, 1) := by decide +kernel
theorem d56_4 : decode B56 4 = .ok (.iload 4, 2) := by decide +kernel
theorem d56_6 : decode B56 6 = .ok (.invokestatic 240, 3) := by decide +kernel
theorem d56_9 : decode B56 9 = .ok (.return_, 1) := by decide +kernel
theorem d57_0 : decode B57 0 = .ok (.iload_n 3, 1) := by decide +kernel
theorem d57_1 : decode B57 1 = .ok (.iload 4, 2) := by decide +kernel
theorem d57_3 : decode B57 3 = .ok (.aload_n 2, 1) := by decide +kernel
theorem d57_4 : decode B57 4 = .ok (.invokestatic 173, 3) := by decide +kernel
theorem d57_7 : decode B57 7 = .ok (.iconst 0, 1) := by decide +kernel
theorem d57_8 : decode B57 8 = .ok (.istore 5, 2) := by decide +kernel
theorem d57_10 : decode B57 10 = .ok (.iload 5, 2) := by decide +kernel
theorem d57_12 : decode B57 12 = .ok (.iload 4, 2) := by decide +kernel
theorem d57_14 : decode B57 14 = .ok (.if_icmp .ge 27, 3) := by decide +kernel
theorem d57_17 : decode B57 17 = .ok (.aload_n 2, 1) := by decide +kernel
theorem d57_18 : decode B57 18 = .ok (.iload_n 3, 1) := by decide +kernel
theorem d57_19 : decode B57 19 = .ok (.iinc 3 1, 3) := by decide +kernel
theorem d57_22 : decode B57 22 = .ok (.aload_n 0, 1) := by decide +kernel
theorem d57_23 : decode B57 23 = .ok (.iload_n 1, 1) := by decide +kernel
theorem d57_24 : decode B57 24 = .ok (.iinc 1 1, 3) := by decide +kernel
theorem d57_27 : decode B57 27 = .ok (.baload, 1) := by decide +kernel
theorem d57_28 : decode B57 28 = .ok (.sipush 255, 3) := by decide +kernel
theorem d57_31 : decode B57 31 = .ok (.iand, 1) := by decide +kernel
theorem d57_32 : decode B57 32 = .ok (.invokestatic 111, 3) := by decide +kernel
theorem d57_35 : decode B57 35 = .ok (.iinc 5 1, 3) := by decide +kernel
theorem d57_38 : decode B57 38 = .ok (.goto (-28), 3) := by decide +kernel
theorem d57_41 : decode B57 41 = .ok (.return_, 1) := by decide +kernel
theorem d58_0 : decode B58 0 = .ok (.iload_n 0, 1) := by decide +kernel
theorem d58_1 : decode B58 1 = .ok (.iload_n 1, 1) := by decide +kernel
theorem d58_2 : decode B58 2 = .ok (.aload_n 2, 1) := by decide +kernel
theorem d58_3 : decode B58 3 = .ok (.invokestatic 48, 3) := by decide +kernel
theorem d58_6 : decode B58 6 = .ok (.invokestatic 419, 3) := by decide +kernel
theorem d58_9 : decode B58 9 = .ok (.pop, 1) := by decide +kernel
theorem d58_10 : decode B58 10 = .ok (.return_, 1) := by decide +kernel
theorem d59_0 : decode B59 0 = .ok (.iload_n 0, 1) := by decide +kernel
theorem d59_1 : decode B59 1 = .ok (.iload_n 1, 1) := by decide +kernel
theorem d59_2 : decode B59 2 = .ok (.iload_n 2, 1) := by decide +kernel
theorem d59_3 : decode B59 3 = .ok (.getstatic 1053, 3) := by decide +kernel
theorem d59_6 : decode B59 6 = .ok (.invokestatic 1065, 3) := by decide +kernel
theorem d59_9 : decode B59 9 = .ok (.ireturn, 1) := by decide +kernel
theorem d60_0 : decode B60 0 = .ok (.iload_n 2, 1) := by decide +kernel
theorem d60_1 : decode B60 1 = .ok (.iload_n 0, 1) := by decide +kernel
theorem d60_2 : decode B60 2 = .ok (.ior, 1) := by decide +kernel
theorem d60_3 : decode B60 3 = .ok (.iload_n 1, 1) := by decide +kernel
theorem d60_4 : decode B60 4 = .ok (.ior, 1) := by decide +kernel
theorem d60_5 : decode B60 5 = .ok (.ifCond .lt 10, 3) := by decide +kernel
theorem d60_8 : decode B60 8 = .ok (.iload_n 1, 1) := by decide +kernel
theorem d60_9 : decode B60 9 = .ok (.iload_n 2, 1) := by decide +kernel
theorem d60_10 : decode B60 10 = .ok (.iload_n 0, 1) := by decide +kernel
theorem d60_11 : decode B60 11 = .ok (.isub, 1) := by decide +kernel
theorem d60_12 : decode B60 12 = .ok (.if_icmp .le 11, 3) := by decide +kernel
theorem d60_23 : decode B60 23 = .ok (.iload_n 0, 1) := by decide +kernel
theorem d60_24 : decode B60 24 = .ok (.ireturn, 1) := by decide +kernel
theorem d61_0 : decode B61 0 = .ok (.iload_n 1, 1) := by decide +kernel
theorem d61_1 : decode B61 1 = .ok (.aload_n 0, 1) := by decide +kernel
theorem d61_2 : decode B61 2 = .ok (.invokestatic 67, 3) := by decide +kernel
theorem d61_5 : decode B61 5 = .ok (.aload_n 0, 1) := by decide +kernel
theorem d61_6 : decode B61 6 = .ok (.iload_n 1, 1) := by decide +kernel
theorem d61_7 : decode B61 7 = .ok (.iload_n 2, 1) := by decide +kernel
theorem d61_8 : decode B61 8 = .ok (.invokestatic 111, 3) := by decide +kernel
theorem d61_11 : decode B61 11 = .ok (.return_, 1) := by decide +kernel
theorem pn0 : plainFor (⟨"com/example/carve/carve/http/HtmlEscapePinLaw", "pick", "(I)C"⟩ : MethodName) = true := by first | exact plainFor_of_name (by first | (simp [plainName, overriddenIn]; done) | decide +kernel) | decide +kernel
theorem pn1 : plainFor (⟨"java/lang/String", "<init>", "([C)V"⟩ : MethodName) = true := by first | exact plainFor_of_name (by first | (simp [plainName, overriddenIn]; done) | decide +kernel) | decide +kernel
theorem pn2 : plainFor (⟨"java/lang/String", "<init>", "([CIILjava/lang/Void;)V"⟩ : MethodName) = true := by first | exact plainFor_of_name (by first | (simp [plainName, overriddenIn]; done) | decide +kernel) | decide +kernel
theorem pn4 : plainFor (⟨"java/lang/StringUTF16", "compress", "([CII)[B"⟩ : MethodName) = true := by first | exact plainFor_of_name (by first | (simp [plainName, overriddenIn]; done) | decide +kernel) | decide +kernel
theorem pn5 : plainFor (⟨"java/lang/StringUTF16", "compress", "([CI[BII)I"⟩ : MethodName) = true := by first | exact plainFor_of_name (by first | (simp [plainName, overriddenIn]; done) | decide +kernel) | decide +kernel
theorem pn6 : plainFor (⟨"java/lang/StringUTF16", "coderFromArrayLen", "([BI)B"⟩ : MethodName) = true := by first | exact plainFor_of_name (by first | (simp [plainName, overriddenIn]; done) | decide +kernel) | decide +kernel
theorem pn7 : plainFor (⟨"com/example/carve/carve/http/Html", "escape", "(Ljava/lang/String;)Ljava/lang/String;"⟩ : MethodName) = true := by first | exact plainFor_of_name (by first | (simp [plainName, overriddenIn]; done) | decide +kernel) | decide +kernel
theorem pn8 : plainFor (⟨"java/lang/String", "length", "()I"⟩ : MethodName) = true := by first | exact plainFor_of_name (by first | (simp [plainName, overriddenIn]; done) | decide +kernel) | decide +kernel
theorem pn9 : plainFor (⟨"java/lang/String", "coder", "()B"⟩ : MethodName) = true := by first | exact plainFor_of_name (by first | (simp [plainName, overriddenIn]; done) | decide +kernel) | decide +kernel
theorem pn10 : plainFor (⟨"java/lang/StringBuilder", "<init>", "(I)V"⟩ : MethodName) = true := by first | exact plainFor_of_name (by first | (simp [plainName, overriddenIn]; done) | decide +kernel) | decide +kernel
theorem pn11 : plainFor (⟨"java/lang/AbstractStringBuilder", "<init>", "(I)V"⟩ : MethodName) = true := by first | exact plainFor_of_name (by first | (simp [plainName, overriddenIn]; done) | decide +kernel) | decide +kernel
theorem pn12 : plainFor (⟨"java/lang/String", "charAt", "(I)C"⟩ : MethodName) = true := by first | exact plainFor_of_name (by first | (simp [plainName, overriddenIn]; done) | decide +kernel) | decide +kernel
theorem pn13 : plainFor (⟨"java/lang/String", "isLatin1", "()Z"⟩ : MethodName) = true := by first | exact plainFor_of_name (by first | (simp [plainName, overriddenIn]; done) | decide +kernel) | decide +kernel
theorem pn14 : plainFor (⟨"java/lang/StringLatin1", "charAt", "([BI)C"⟩ : MethodName) = true := by first | exact plainFor_of_name (by first | (simp [plainName, overriddenIn]; done) | decide +kernel) | decide +kernel
theorem pn15 : plainFor (⟨"java/lang/String", "checkIndex", "(II)V"⟩ : MethodName) = true := by first | exact plainFor_of_name (by first | (simp [plainName, overriddenIn]; done) | decide +kernel) | decide +kernel
theorem pn16 : plainFor (⟨"jdk/internal/util/Preconditions", "checkIndex", "(IILjava/util/function/BiFunction;)I"⟩ : MethodName) = true := by first | exact plainFor_of_name (by first | (simp [plainName, overriddenIn]; done) | decide +kernel) | decide +kernel
theorem pn17 : plainFor (⟨"java/lang/StringBuilder", "append", "(Ljava/lang/String;)Ljava/lang/StringBuilder;"⟩ : MethodName) = true := by first | exact plainFor_of_name (by first | (simp [plainName, overriddenIn]; done) | decide +kernel) | decide +kernel
theorem pn18 : plainFor (⟨"java/lang/AbstractStringBuilder", "append", "(Ljava/lang/String;)Ljava/lang/AbstractStringBuilder;"⟩ : MethodName) = true := by first | exact plainFor_of_name (by first | (simp [plainName, overriddenIn]; done) | decide +kernel) | decide +kernel
theorem pn19 : plainFor (⟨"java/lang/AbstractStringBuilder", "ensureCapacityInternal", "(I)V"⟩ : MethodName) = true := by first | exact plainFor_of_name (by first | (simp [plainName, overriddenIn]; done) | decide +kernel) | decide +kernel
theorem pn20 : plainFor (⟨"java/lang/AbstractStringBuilder", "newCapacity", "(I)I"⟩ : MethodName) = true := by first | exact plainFor_of_name (by first | (simp [plainName, overriddenIn]; done) | decide +kernel) | decide +kernel
theorem pn21 : plainFor (⟨"jdk/internal/util/ArraysSupport", "newLength", "(III)I"⟩ : MethodName) = true := by first | exact plainFor_of_name (by first | (simp [plainName, overriddenIn]; done) | decide +kernel) | decide +kernel
theorem pn22 : plainFor (⟨"java/lang/Math", "max", "(II)I"⟩ : MethodName) = true := by first | exact plainFor_of_name (by first | (simp [plainName, overriddenIn]; done) | decide +kernel) | decide +kernel
theorem pn23 : plainFor (⟨"java/util/Arrays", "copyOf", "([BI)[B"⟩ : MethodName) = true := by first | exact plainFor_of_name (by first | (simp [plainName, overriddenIn]; done) | decide +kernel) | decide +kernel
theorem pn24 : plainFor (⟨"java/lang/Math", "min", "(II)I"⟩ : MethodName) = true := by first | exact plainFor_of_name (by first | (simp [plainName, overriddenIn]; done) | decide +kernel) | decide +kernel
theorem pn25 : plainFor (⟨"java/lang/AbstractStringBuilder", "putStringAt", "(ILjava/lang/String;)V"⟩ : MethodName) = true := by first | exact plainFor_of_name (by first | (simp [plainName, overriddenIn]; done) | decide +kernel) | decide +kernel
theorem pn26 : plainFor (⟨"java/lang/AbstractStringBuilder", "inflateIfNeededFor", "(Ljava/lang/String;)V"⟩ : MethodName) = true := by first | exact plainFor_of_name (by first | (simp [plainName, overriddenIn]; done) | decide +kernel) | decide +kernel
theorem pn27 : plainFor (⟨"java/lang/String", "getBytes", "([BIB)V"⟩ : MethodName) = true := by first | exact plainFor_of_name (by first | (simp [plainName, overriddenIn]; done) | decide +kernel) | decide +kernel
theorem pn28 : plainFor (⟨"java/lang/StringBuilder", "toString", "()Ljava/lang/String;"⟩ : MethodName) = true := by first | exact plainFor_of_name (by first | (simp [plainName, overriddenIn]; done) | decide +kernel) | decide +kernel
theorem pn29 : plainFor (⟨"java/lang/String", "<init>", "(Ljava/lang/StringBuilder;)V"⟩ : MethodName) = true := by first | exact plainFor_of_name (by first | (simp [plainName, overriddenIn]; done) | decide +kernel) | decide +kernel
theorem pn30 : plainFor (⟨"java/lang/String", "<init>", "(Ljava/lang/AbstractStringBuilder;Ljava/lang/Void;)V"⟩ : MethodName) = true := by first | exact plainFor_of_name (by first | (simp [plainName, overriddenIn]; done) | decide +kernel) | decide +kernel
theorem pn31 : plainFor (⟨"java/lang/AbstractStringBuilder", "getValue", "()[B"⟩ : MethodName) = true := by first | exact plainFor_of_name (by first | (simp [plainName, overriddenIn]; done) | decide +kernel) | decide +kernel
theorem pn32 : plainFor (⟨"java/lang/StringBuilder", "length", "()I"⟩ : MethodName) = true := by first | exact plainFor_of_name (by first | (simp [plainName, overriddenIn]; done) | decide +kernel) | decide +kernel
theorem pn33 : plainFor (⟨"java/lang/AbstractStringBuilder", "length", "()I"⟩ : MethodName) = true := by first | exact plainFor_of_name (by first | (simp [plainName, overriddenIn]; done) | decide +kernel) | decide +kernel
theorem pn34 : plainFor (⟨"java/lang/AbstractStringBuilder", "isLatin1", "()Z"⟩ : MethodName) = true := by first | exact plainFor_of_name (by first | (simp [plainName, overriddenIn]; done) | decide +kernel) | decide +kernel
theorem pn35 : plainFor (⟨"java/util/Arrays", "copyOfRange", "([BII)[B"⟩ : MethodName) = true := by first | exact plainFor_of_name (by first | (simp [plainName, overriddenIn]; done) | decide +kernel) | decide +kernel
theorem pn36 : plainFor (⟨"com/example/carve/carve/http/HtmlEscapePinLaw", "piece", "(C)Ljava/lang/String;"⟩ : MethodName) = true := by first | exact plainFor_of_name (by first | (simp [plainName, overriddenIn]; done) | decide +kernel) | decide +kernel
theorem pn37 : plainFor (⟨"com/example/carve/carve/http/HtmlEscapePinLaw", "at", "(Ljava/lang/String;ILjava/lang/String;)Z"⟩ : MethodName) = true := by first | exact plainFor_of_name (by first | (simp [plainName, overriddenIn]; done) | decide +kernel) | decide +kernel
theorem pn38 : plainFor (⟨"java/lang/StringBuilder", "append", "(C)Ljava/lang/StringBuilder;"⟩ : MethodName) = true := by first | exact plainFor_of_name (by first | (simp [plainName, overriddenIn]; done) | decide +kernel) | decide +kernel
theorem pn39 : plainFor (⟨"java/lang/AbstractStringBuilder", "append", "(C)Ljava/lang/AbstractStringBuilder;"⟩ : MethodName) = true := by first | exact plainFor_of_name (by first | (simp [plainName, overriddenIn]; done) | decide +kernel) | decide +kernel
theorem pn40 : plainFor (⟨"java/lang/StringLatin1", "canEncode", "(C)Z"⟩ : MethodName) = true := by first | exact plainFor_of_name (by first | (simp [plainName, overriddenIn]; done) | decide +kernel) | decide +kernel
theorem pn41 : plainFor (⟨"java/lang/String", "valueOf", "(C)Ljava/lang/String;"⟩ : MethodName) = true := by first | exact plainFor_of_name (by first | (simp [plainName, overriddenIn]; done) | decide +kernel) | decide +kernel
theorem pn42 : plainFor (⟨"java/lang/StringLatin1", "toBytes", "(C)[B"⟩ : MethodName) = true := by first | exact plainFor_of_name (by first | (simp [plainName, overriddenIn]; done) | decide +kernel) | decide +kernel
theorem pn43 : plainFor (⟨"java/lang/String", "<init>", "([BB)V"⟩ : MethodName) = true := by first | exact plainFor_of_name (by first | (simp [plainName, overriddenIn]; done) | decide +kernel) | decide +kernel
theorem pn44 : plainFor (⟨"java/lang/StringUTF16", "toBytes", "(C)[B"⟩ : MethodName) = true := by first | exact plainFor_of_name (by first | (simp [plainName, overriddenIn]; done) | decide +kernel) | decide +kernel
theorem pn45 : plainFor (⟨"java/lang/StringUTF16", "putChar", "([BII)V"⟩ : MethodName) = true := by first | exact plainFor_of_name (by first | (simp [plainName, overriddenIn]; done) | decide +kernel) | decide +kernel
theorem pn46 : plainFor (⟨"java/util/Arrays", "copyOfRangeByte", "([BII)[B"⟩ : MethodName) = true := by first | exact plainFor_of_name (by first | (simp [plainName, overriddenIn]; done) | decide +kernel) | decide +kernel
theorem pn47 : plainFor (⟨"java/util/Arrays", "checkLength", "(II)V"⟩ : MethodName) = true := by first | exact plainFor_of_name (by first | (simp [plainName, overriddenIn]; done) | decide +kernel) | decide +kernel
theorem pn48 : plainFor (⟨"java/lang/StringUTF16", "toBytes", "([CII)[B"⟩ : MethodName) = true := by first | exact plainFor_of_name (by first | (simp [plainName, overriddenIn]; done) | decide +kernel) | decide +kernel
theorem pn49 : plainFor (⟨"java/lang/StringUTF16", "newBytesFor", "(I)[B"⟩ : MethodName) = true := by first | exact plainFor_of_name (by first | (simp [plainName, overriddenIn]; done) | decide +kernel) | decide +kernel
theorem pn50 : plainFor (⟨"java/lang/StringUTF16", "newBytesLength", "(I)I"⟩ : MethodName) = true := by first | exact plainFor_of_name (by first | (simp [plainName, overriddenIn]; done) | decide +kernel) | decide +kernel
theorem pn51 : plainFor (⟨"java/lang/StringUTF16", "getChar", "([BI)C"⟩ : MethodName) = true := by first | exact plainFor_of_name (by first | (simp [plainName, overriddenIn]; done) | decide +kernel) | decide +kernel
theorem pn52 : plainFor (⟨"java/lang/StringUTF16", "charAt", "([BI)C"⟩ : MethodName) = true := by first | exact plainFor_of_name (by first | (simp [plainName, overriddenIn]; done) | decide +kernel) | decide +kernel
theorem pn53 : plainFor (⟨"java/lang/StringUTF16", "checkIndex", "(I[B)V"⟩ : MethodName) = true := by first | exact plainFor_of_name (by first | (simp [plainName, overriddenIn]; done) | decide +kernel) | decide +kernel
theorem pn54 : plainFor (⟨"java/lang/StringUTF16", "length", "([B)I"⟩ : MethodName) = true := by first | exact plainFor_of_name (by first | (simp [plainName, overriddenIn]; done) | decide +kernel) | decide +kernel
theorem pn55 : plainFor (⟨"java/lang/AbstractStringBuilder", "inflate", "()V"⟩ : MethodName) = true := by first | exact plainFor_of_name (by first | (simp [plainName, overriddenIn]; done) | decide +kernel) | decide +kernel
theorem pn56 : plainFor (⟨"java/lang/StringLatin1", "inflate", "([BI[BII)V"⟩ : MethodName) = true := by first | exact plainFor_of_name (by first | (simp [plainName, overriddenIn]; done) | decide +kernel) | decide +kernel
theorem pn57 : plainFor (⟨"java/lang/StringUTF16", "inflate", "([BI[BII)V"⟩ : MethodName) = true := by first | exact plainFor_of_name (by first | (simp [plainName, overriddenIn]; done) | decide +kernel) | decide +kernel
theorem pn58 : plainFor (⟨"java/lang/StringUTF16", "checkBoundsOffCount", "(II[B)V"⟩ : MethodName) = true := by first | exact plainFor_of_name (by first | (simp [plainName, overriddenIn]; done) | decide +kernel) | decide +kernel
theorem pn59 : plainFor (⟨"java/lang/String", "checkBoundsOffCount", "(III)I"⟩ : MethodName) = true := by first | exact plainFor_of_name (by first | (simp [plainName, overriddenIn]; done) | decide +kernel) | decide +kernel
theorem pn60 : plainFor (⟨"jdk/internal/util/Preconditions", "checkFromIndexSize", "(IIILjava/util/function/BiFunction;)I"⟩ : MethodName) = true := by first | exact plainFor_of_name (by first | (simp [plainName, overriddenIn]; done) | decide +kernel) | decide +kernel
theorem pn61 : plainFor (⟨"java/lang/StringUTF16", "putCharSB", "([BII)V"⟩ : MethodName) = true := by first | exact plainFor_of_name (by first | (simp [plainName, overriddenIn]; done) | decide +kernel) | decide +kernel
theorem pn62 : plainFor x = true := by first | exact plainFor_of_name (by first | (simp [plainName, overriddenIn]; done) | decide +kernel) | decide +kernel
theorem pd0 : parseMethodDescriptor "([CIILjava/lang/Void;)V" = some ⟨[(.array .char), .int, .int, (.object "java/lang/Void")], none⟩ := by decide +kernel
theorem pd1 : parseMethodDescriptor "()B" = some ⟨[], some .byte⟩ := by decide +kernel
theorem pd2 : parseMethodDescriptor "(IILjava/util/function/BiFunction;)I" = some ⟨[.int, .int, (.object "java/util/function/BiFunction")], some .int⟩ := by decide +kernel
theorem pd3 : parseMethodDescriptor "([B)I" = some ⟨[(.array .byte)], some .int⟩ := by decide +kernel
theorem pd4 : parseMethodDescriptor "(II)V" = some ⟨[.int, .int], none⟩ := by decide +kernel
theorem pd5 : parseMethodDescriptor "([CI[BII)I" = some ⟨[(.array .char), .int, (.array .byte), .int, .int], some .int⟩ := by decide +kernel
theorem pd6 : parseMethodDescriptor "(I)I" = some ⟨[.int], some .int⟩ := by decide +kernel
theorem pd7 : parseMethodDescriptor "(I)[B" = some ⟨[.int], some (.array .byte)⟩ := by decide +kernel
theorem pd8 : parseMethodDescriptor "([BII)V" = some ⟨[(.array .byte), .int, .int], none⟩ := by decide +kernel
theorem pd9 : parseMethodDescriptor "([CII)[B" = some ⟨[(.array .char), .int, .int], some (.array .byte)⟩ := by decide +kernel
theorem pd10 : parseMethodDescriptor "([BI)C" = some ⟨[(.array .byte), .int], some .char⟩ := by decide +kernel
theorem pd11 : parseMethodDescriptor "([BI)B" = some ⟨[(.array .byte), .int], some .byte⟩ := by decide +kernel
theorem pd12 : parseMethodDescriptor "(II)I" = some ⟨[.int, .int], some .int⟩ := by decide +kernel
theorem pd13 : parseMethodDescriptor "(III)I" = some ⟨[.int, .int, .int], some .int⟩ := by decide +kernel
theorem pd14 : parseMethodDescriptor "([BI)[B" = some ⟨[(.array .byte), .int], some (.array .byte)⟩ := by decide +kernel
theorem pd15 : parseMethodDescriptor "(IIILjava/util/function/BiFunction;)I" = some ⟨[.int, .int, .int, (.object "java/util/function/BiFunction")], some .int⟩ := by decide +kernel
theorem pd16 : parseMethodDescriptor "(II[B)V" = some ⟨[.int, .int, (.array .byte)], none⟩ := by decide +kernel
theorem pd17 : parseMethodDescriptor "([BI[BII)V" = some ⟨[(.array .byte), .int, (.array .byte), .int, .int], none⟩ := by decide +kernel
theorem pd18 : parseMethodDescriptor "()Z" = some ⟨[], some .boolean⟩ := by decide +kernel
theorem pd19 : parseMethodDescriptor "()V" = some ⟨[], none⟩ := by decide +kernel
theorem pd20 : parseMethodDescriptor "(Ljava/lang/String;)V" = some ⟨[(.object "java/lang/String")], none⟩ := by decide +kernel
theorem pd21 : parseMethodDescriptor "([BIB)V" = some ⟨[(.array .byte), .int, .byte], none⟩ := by decide +kernel
theorem pd22 : parseMethodDescriptor "()I" = some ⟨[], some .int⟩ := by decide +kernel
theorem pd23 : parseMethodDescriptor "(I)V" = some ⟨[.int], none⟩ := by decide +kernel
theorem pd24 : parseMethodDescriptor "(ILjava/lang/String;)V" = some ⟨[.int, (.object "java/lang/String")], none⟩ := by decide +kernel
theorem pd25 : parseMethodDescriptor "(I[B)V" = some ⟨[.int, (.array .byte)], none⟩ := by decide +kernel
theorem pd26 : parseMethodDescriptor "(C)Z" = some ⟨[.char], some .boolean⟩ := by decide +kernel
theorem pd27 : parseMethodDescriptor "([BII)[B" = some ⟨[(.array .byte), .int, .int], some (.array .byte)⟩ := by decide +kernel
theorem pd28 : parseMethodDescriptor "()[B" = some ⟨[], some (.array .byte)⟩ := by decide +kernel
theorem pd29 : parseMethodDescriptor "(Ljava/lang/AbstractStringBuilder;Ljava/lang/Void;)V" = some ⟨[(.object "java/lang/AbstractStringBuilder"), (.object "java/lang/Void")], none⟩ := by decide +kernel
theorem pd30 : parseMethodDescriptor "(Ljava/lang/String;)Ljava/lang/AbstractStringBuilder;" = some ⟨[(.object "java/lang/String")], some (.object "java/lang/AbstractStringBuilder")⟩ := by decide +kernel
theorem pd31 : parseMethodDescriptor "(C)Ljava/lang/AbstractStringBuilder;" = some ⟨[.char], some (.object "java/lang/AbstractStringBuilder")⟩ := by decide +kernel
theorem pd32 : parseMethodDescriptor "(Ljava/lang/StringBuilder;)V" = some ⟨[(.object "java/lang/StringBuilder")], none⟩ := by decide +kernel
theorem pd33 : parseMethodDescriptor "()Ljava/lang/String;" = some ⟨[], some (.object "java/lang/String")⟩ := by decide +kernel
theorem pd34 : parseMethodDescriptor "(I)C" = some ⟨[.int], some .char⟩ := by decide +kernel
theorem pd35 : parseMethodDescriptor "(Ljava/lang/String;)Ljava/lang/StringBuilder;" = some ⟨[(.object "java/lang/String")], some (.object "java/lang/StringBuilder")⟩ := by decide +kernel
theorem pd36 : parseMethodDescriptor "(C)Ljava/lang/StringBuilder;" = some ⟨[.char], some (.object "java/lang/StringBuilder")⟩ := by decide +kernel
theorem pd37 : parseMethodDescriptor "(C)[B" = some ⟨[.char], some (.array .byte)⟩ := by decide +kernel
theorem pd38 : parseMethodDescriptor "([BB)V" = some ⟨[(.array .byte), .byte], none⟩ := by decide +kernel
theorem pd39 : parseMethodDescriptor "(C)Ljava/lang/String;" = some ⟨[.char], some (.object "java/lang/String")⟩ := by decide +kernel
theorem pd40 : parseMethodDescriptor "(Ljava/lang/String;ILjava/lang/String;)Z" = some ⟨[(.object "java/lang/String"), .int, (.object "java/lang/String")], some .boolean⟩ := by decide +kernel
theorem pd41 : parseMethodDescriptor "([C)V" = some ⟨[(.array .char)], none⟩ := by decide +kernel
theorem pd42 : parseMethodDescriptor "(Ljava/lang/String;)Ljava/lang/String;" = some ⟨[(.object "java/lang/String")], some (.object "java/lang/String")⟩ := by decide +kernel
abbrev RrmE4 : Room := { frames := 1, cells := 4, slots := 10, locals := 12 }
def QrmE4 (Z : State) (x : Addr) (b : Addr) (h0 : Heap) (v : Option Value) (vm : Vm) (h : Heap) : Prop := ∃ (t : Addr) (kb : ClassId), v = none ∧ Keep h0 h [x] ∧ Str Z h x t kb []
theorem rmE4 (hcx : Cx Z a0 zc fm) (x : Addr) (b : Addr) (h0 : Heap) (O0 : Old Z Z.heap.size h0) (Pr0 : Exa Z h0 x "java/lang/String") (Pr1 : Fld Z h0 x "java/lang/String" "coder" "B" (.int (0 : Int32))) (Pr2 : Fld Z h0 x "java/lang/String" "value" "[B" .null) (Pr3 : Z.heap.size ≤ x) : Met l Z consts_1 (⟨"java/lang/String", "<init>", "([CIILjava/lang/Void;)V"⟩ : MethodName) jdk_42_method_149_code 6 (none) [] RrmE4 [x] #[(.ref x), (.ref b), (.int (0 : Int32)), (.int (0 : Int32)), .null] h0 (QrmE4 Z x b h0) := by
  have ⟨hw, hEL, O2, P5, O4, P6, OA, OH, OB⟩ := hcx
  refine Met.start (a0 := a0) (Ls := #[vR x, vR b, vI (0 : Int32), vI (0 : Int32), .val .null, .unset]) pn2 hEL O0 (fun m => by first | (simp [entryFrame, mkF, argsToLocals, Value.category]; done) | rfl) ?_
  intro p e s m below meth cc T0 vm0 X0 sf0_ D hml hret hnm hx zz A0
  have l1 := ltA Pr0.lt
  have s2 := sf0_ x (memI (i := 0) rfl)
  refine Gets.via (fun _ k => (XS.aloadN A0 hx rfl (D d2_0) rfl rfl k)) ?_
  refine X0.objInit (w15 hw) (w16 hw) (w17 hw) rfl (sz hml rfl) rfl (D d2_1) (by decide) (W := 0) (mroom rfl rfl) (by decide) fun T3 X3 => ?_
  have A4 := X3.at
  refine Gets.via (fun _ k => (XS.iloadN A4 hx rfl (D d2_4) rfl (XS.ifNo A4 hx rfl (D d2_5) rfl (Jvm.Free.XT.i0_ne_f (by decide)) k))) ?_
  refine Gets.via (fun _ k => (XS.aloadN A4 hx rfl (D d2_8) rfl rfl k)) ?_
  refine X3.ldcC (w230 hw) (wSt hw) (by decide) (vs := []) (z := (0 : Int32)) ⟨by decide, by decide⟩ (by decide) (by decide) rfl (D d2_9) (n := 1) (by decide) (by decide) (by decide) (by decide) fun T5 h5 vm5 a5 yb5 k5 X5 C5 E5 Z5 Fc5 Fv5 V5 q5 => ?_
  have z5 := E5.1
  have l5 := ltA Z5.lt
  have lb5 := ltA V5.lt
  have f6 := C5.safe (x := x) (ltA (by omega)) s2
  have ne7 := neA (q5 x f6).1
  have nf7 := neA (q5 x f6).2
  show Gets p e below _ (T5.setTop (mkF m 11 #[vR x, vR b, vI (0 : Int32), vI (0 : Int32), .val .null, .unset] [(.ref a5), (.ref x)]))
  refine X5.getF (host := "") (Or.inl (w32 hw)) Via.refl Fv5 rfl rfl (D d2_11) fun T8 X8 => ?_
  have f10 := Pr2.ext E5
  have f11 := Pr0.ext E5
  refine X8.putF (host := "") (Or.inl (w32 hw)) Via.refl f10 f11 (Or.inr ⟨(w33 hw), rfl, hnm⟩) (w6 hw) (ty := (.array .byte)) (by decide) rfl rfl (leA (by omega)) f6 rfl rfl (D d2_14) fun T9 h9 X9 C9 W9 F9 Z9 => ?_
  have z9 := W9.size
  have A12 := X9.at
  refine Gets.via (fun _ k => (XS.aloadN A12 hx rfl (D d2_17) rfl rfl k)) ?_
  refine X9.ldcC (w230 hw) (wSt hw) (by decide) (vs := []) (z := (0 : Int32)) ⟨by decide, by decide⟩ (by decide) (by decide) rfl (D d2_18) (n := 1) (by decide) (by decide) (by decide) (by decide) fun T13 h13 vm13 a13 yb13 k13 X13 C13 E13 Z13 Fc13 Fv13 V13 q13 => ?_
  have z13 := E13.1
  have l13 := ltA Z13.lt
  have lb13 := ltA V13.lt
  have f14 := C9.safe (x := x) (ltA (by omega)) f6
  have f15 := C13.safe (x := x) (ltA (by omega)) f14
  have ne16 := neA (q13 x f15).1
  have nf16 := neA (q13 x f15).2
  refine X13.getF (host := "") (Or.inl (w30 hw)) Via.refl Fc13 rfl rfl (D d2_20) fun T17 X17 => ?_
  show Gets p e below _ (T17.setTop (mkF m 23 #[vR x, vR b, vI (0 : Int32), vI (0 : Int32), .val .null, .unset] [(.int (0 : Int32)), (.ref x)]))
  have f19 := Pr1.ext E5
  have f20 := f19.other W9 (Or.inr (slot_ne (t := .byte) (t' := (.array .byte)) (Or.inr (w31 hw)) (Or.inr (w33 hw)) (by decide) (by decide) (by decide)))
  have f21 := f20.ext E13
  have f22 := Z9.ext E13
  refine X17.putF (host := "") (Or.inl (w30 hw)) Via.refl f21 f22 (Or.inr ⟨(w31 hw), rfl, hnm⟩) (w6 hw) (ty := .byte) (by decide) (by decide) (by decide) (leA (by omega)) f15 rfl rfl (D d2_23) fun T18 h18 X18 C18 W18 F18 Z18 => ?_
  have z18 := W18.size
  have f23 := F9.ext E13
  have f24 := f23.other W18 (Or.inr (slot_ne (t := (.array .byte)) (t' := .byte) (Or.inr (w33 hw)) (Or.inr (w31 hw)) (by decide) (by decide) (by decide)))
  have f25 := V5.other W9 (neA (by omega))
  have f26 := f25.ext E13
  have f27 := f26.other W18 (neA (by omega))
  have f28 : Str Z h18 x yb5 k5 [] := ⟨Z18, F18, f24, f27, allN, Nat.le_of_ble_eq_true rfl⟩
  exact X18.retV hret (D d2_26) (by decide) (by decide) (fun vmE CE => ⟨yb5, k5, rfl, (((((Keep.refl h0 [x]).ext E5).wr W9 (Or.inl (memI (i := 0) rfl))).ext E13).wr W18 (Or.inl (memI (i := 0) rfl))), f28⟩)
abbrev RrmE1 : Room := { frames := 2, cells := 4, slots := 10, locals := 29 }
def QrmE1 (Z : State) (x : Addr) (b : Addr) (kc : ClassId) (h0 : Heap) (v : Option Value) (vm : Vm) (h : Heap) : Prop := ∃ (t : Addr) (kb : ClassId), v = none ∧ Keep h0 h [x] ∧ Str Z h x t kb []
theorem rmE1 (hcx : Cx Z a0 zc fm) (x : Addr) (b : Addr) (kc : ClassId) (h0 : Heap) (O0 : Old Z Z.heap.size h0) (Pr0 : Exa Z h0 x "java/lang/String") (Pr1 : Fld Z h0 x "java/lang/String" "coder" "B" (.int (0 : Int32))) (Pr2 : Fld Z h0 x "java/lang/String" "value" "[B" .null) (Pr3 : Z.heap.size ≤ x) (Pr4 : Arv Z h0 b kc .char (0 : Int32) [] (.int (0 : Int32))) : Met l Z consts_1 (⟨"java/lang/String", "<init>", "([C)V"⟩ : MethodName) jdk_42_method_3_code 2 (none) [] RrmE1 [x] #[(.ref x), (.ref b)] h0 (QrmE1 Z x b kc h0) := by
  have ⟨hw, hEL, O2, P5, O4, P6, OA, OH, OB⟩ := hcx
  refine Met.start (a0 := a0) (Ls := #[vR x, vR b]) pn1 hEL O0 (fun m => by first | (simp [entryFrame, mkF, argsToLocals, Value.category]; done) | rfl) ?_
  intro p e s m below meth cc T0 vm0 X0 sf0_ D hml hret hnm hx zz A0
  have l1 := ltA Pr0.lt
  have l2 := ltA Pr4.lt
  have s3 := sf0_ x (memI (i := 0) rfl)
  refine Gets.via (fun _ k => (XS.aloadN A0 hx rfl (D d1_0) rfl rfl (XS.aloadN A0 hx rfl (D d1_1) rfl rfl (XS.iconst A0 hx rfl (D d1_2) (XS.aloadN A0 hx rfl (D d1_3) rfl rfl k))))) ?_
  refine X0.alen Pr4 rfl rfl (D d1_4) ?_
  refine Gets.via (fun _ k => (XS.aconstNull A0 hx rfl (D d1_5) k)) ?_
  refine X0.callI (y := (⟨"java/lang/String", "<init>", "([CIILjava/lang/Void;)V"⟩ : MethodName)) (W := 0) rfl (w11 hw) (w12 hw) (w14 hw) (by decide) (X0.payM (sf := [x]) (rmE4 hcx x b h0 X0.old Pr0 Pr1 Pr2 Pr3) (sfS s3 sf0) (w14 hw) (w7 hw)) rfl (sz hml rfl) (a := x) (argsL := [(.ref b), (.int (0 : Int32)), (.int (0 : Int32)), .null]) (rest := []) (lenOf pd0 rfl) rfl rfl (mroom rfl rfl) (D d1_6) (by decide) (by decide) fun T4 h4 vm4 v4 X4 C4 z4 q4 => ?_
  obtain ⟨t4, kb4, rfl, K4, g4_0⟩ := q4
  have l5 := ltA g4_0.lt
  have l6 := ltA g4_0.lb
  show Gets p e below _ (T4.setTop (mkF m 9 #[vR x, vR b] []))
  exact X4.retV hret (D d1_9) (by decide) (by decide) (fun vmE CE => ⟨t4, kb4, rfl, ((Keep.refl h0 [x]).trans K4 (allS (Or.inl (memI (i := 0) rfl)) all0)), g4_0⟩)
abbrev RrmCoder0 : Room := { frames := 0, cells := 0, slots := 0, locals := 0 }
def QrmCoder0 (Z : State) (x : Addr) (h0 : Heap) (v : Option Value) (vm : Vm) (h : Heap) : Prop := v = some (.int (0 : Int32)) ∧ h = h0
theorem rmCoder0 (hcx : Cx Z a0 zc fm) (x : Addr) (h0 : Heap) (O0 : Old Z Z.heap.size h0) (Pr0 : Exa Z h0 x "java/lang/String") (Pr1 : Fld Z h0 x "java/lang/String" "coder" "B" (.int (0 : Int32))) : Met l Z consts_1 (⟨"java/lang/String", "coder", "()B"⟩ : MethodName) jdk_42_method_152_code 1 (some .byte) [] RrmCoder0 [] #[(.ref x)] h0 (QrmCoder0 Z x h0) := by
  have ⟨hw, hEL, O2, P5, O4, P6, OA, OH, OB⟩ := hcx
  refine Met.start (a0 := a0) (Ls := #[vR x]) pn9 hEL O0 (fun m => by first | (simp [entryFrame, mkF, argsToLocals, Value.category]; done) | rfl) ?_
  intro p e s m below meth cc T0 vm0 X0 sf0_ D hml hret hnm hx zz A0
  have l1 := ltA Pr0.lt
  refine X0.getS (host := "") (Or.inl (w18 hw)) Via.refl (X0.sta O2) rfl (D d9_0) fun T2 X2 => ?_
  have A3 := X2.at
  refine Gets.via (fun _ k => (XS.ifNo A3 hx rfl (D d9_3) rfl (Jvm.Free.XT.i0_eq_f P5) k)) ?_
  refine Gets.via (fun _ k => (XS.aloadN A3 hx rfl (D d9_6) rfl rfl k)) ?_
  refine X2.getF (host := "") (Or.inl (w30 hw)) Via.refl Pr1 rfl rfl (D d9_7) fun T4 X4 => ?_
  have A5 := X4.at
  refine Gets.via (fun _ k => (XS.goto A5 hx rfl (pc0 := 10) (pc' := 14) rfl (D d9_10) (by decide) (by decide) k)) ?_
  show Gets p e below _ (T4.setTop (mkF m 14 #[vR x] [(.int (0 : Int32))]))
  exact X4.retI hret (by decide) (by simp) (D d9_14) (by decide) (by decide) (fun vmE CE => ⟨rfl, rfl⟩)
abbrev RrmCoder1 : Room := { frames := 0, cells := 0, slots := 0, locals := 0 }
def QrmCoder1 (Z : State) (x : Addr) (h0 : Heap) (v : Option Value) (vm : Vm) (h : Heap) : Prop := v = some (.int (1 : Int32)) ∧ h = h0
theorem rmCoder1 (hcx : Cx Z a0 zc fm) (x : Addr) (h0 : Heap) (O0 : Old Z Z.heap.size h0) (Pr0 : Exa Z h0 x "java/lang/String") (Pr1 : Fld Z h0 x "java/lang/String" "coder" "B" (.int (1 : Int32))) : Met l Z consts_1 (⟨"java/lang/String", "coder", "()B"⟩ : MethodName) jdk_42_method_152_code 1 (some .byte) [] RrmCoder1 [] #[(.ref x)] h0 (QrmCoder1 Z x h0) := by
  have ⟨hw, hEL, O2, P5, O4, P6, OA, OH, OB⟩ := hcx
  refine Met.start (a0 := a0) (Ls := #[vR x]) pn9 hEL O0 (fun m => by first | (simp [entryFrame, mkF, argsToLocals, Value.category]; done) | rfl) ?_
  intro p e s m below meth cc T0 vm0 X0 sf0_ D hml hret hnm hx zz A0
  have l1 := ltA Pr0.lt
  refine X0.getS (host := "") (Or.inl (w18 hw)) Via.refl (X0.sta O2) rfl (D d9_0) fun T2 X2 => ?_
  have A3 := X2.at
  refine Gets.via (fun _ k => (XS.ifNo A3 hx rfl (D d9_3) rfl (Jvm.Free.XT.i0_eq_f P5) k)) ?_
  refine Gets.via (fun _ k => (XS.aloadN A3 hx rfl (D d9_6) rfl rfl k)) ?_
  refine X2.getF (host := "") (Or.inl (w30 hw)) Via.refl Pr1 rfl rfl (D d9_7) fun T4 X4 => ?_
  have A5 := X4.at
  refine Gets.via (fun _ k => (XS.goto A5 hx rfl (pc0 := 10) (pc' := 14) rfl (D d9_10) (by decide) (by decide) k)) ?_
  show Gets p e below _ (T4.setTop (mkF m 14 #[vR x] [(.int (1 : Int32))]))
  exact X4.retI hret (by decide) (by simp) (D d9_14) (by decide) (by decide) (fun vmE CE => ⟨rfl, rfl⟩)
abbrev RrmLen0 : Room := { frames := 1, cells := 0, slots := 0, locals := 13 }
def QrmLen0 (Z : State) (x : Addr) (b : Addr) (kb : ClassId) (cs : List Int32) (h0 : Heap) (v : Option Value) (vm : Vm) (h : Heap) : Prop := v = some (.int (Int32.ofNat (cs).length)) ∧ h = h0
theorem rmLen0 (hcx : Cx Z a0 zc fm) (x : Addr) (b : Addr) (kb : ClassId) (cs : List Int32) (h0 : Heap) (O0 : Old Z Z.heap.size h0) (Pr0 : Str Z h0 x b kb cs) : Met l Z consts_1 (⟨"java/lang/String", "length", "()I"⟩ : MethodName) jdk_42_method_54_code 1 (some .int) [] RrmLen0 [] #[(.ref x)] h0 (QrmLen0 Z x b kb cs h0) := by
  have ⟨hw, hEL, O2, P5, O4, P6, OA, OH, OB⟩ := hcx
  refine Met.start (a0 := a0) (Ls := #[vR x]) pn8 hEL O0 (fun m => by first | (simp [entryFrame, mkF, argsToLocals, Value.category]; done) | rfl) ?_
  intro p e s m below meth cc T0 vm0 X0 sf0_ D hml hret hnm hx zz A0
  have l1 := ltA Pr0.lt
  have l2 := ltA Pr0.lb
  have l4 := Pr0.2.2.2.2.2
  refine Gets.via (fun _ k => (XS.aloadN A0 hx rfl (D d8_0) rfl rfl k)) ?_
  refine X0.getF (host := "") (Or.inl (w32 hw)) Via.refl Pr0.2.2.1 rfl rfl (D d8_1) fun T3 X3 => ?_
  refine X3.alen Pr0.2.2.2.1 rfl rfl (D d8_4) ?_
  have A4 := X3.at
  refine Gets.via (fun _ k => (XS.aloadN A4 hx rfl (D d8_5) rfl rfl k)) ?_
  refine X3.callV (W := 1) (w46 hw) (w47 hw) (w49 hw) (w48 hw) (nfs rfl (w49 hw)) (by decide) (X3.payM (sf := []) (rmCoder0 hcx x h0 X3.old Pr0.1 Pr0.2.1) sf0 (w50 hw) (w7 hw)) Pr0.1 rfl (sz hml rfl) (argsL := []) (rest := [(.int (Int32.ofNat (cs).length))]) (lenOf pd1 rfl) rfl rfl (mroom rfl rfl) (D d8_6) (by decide) (by decide) fun T5 h5 vm5 v5 X5 C5 z5 q5 => ?_
  obtain ⟨rfl, K5⟩ := q5
  rw [K5] at X5 C5
  show Gets p e below _ (T5.setTop (mkF m 9 #[vR x] [(.int (0 : Int32)), (.int (Int32.ofNat (cs).length))]))
  have A6 := X5.at
  refine Gets.via (fun _ k => (ishrV A6 hx rfl (D d8_9) rfl (v := (Int32.ofNat (cs).length)) (shr0 _) k)) ?_
  exact X5.retI hret rfl (by simp) (D d8_10) (by decide) (by decide) (fun vmE CE => ⟨rfl, rfl⟩)
abbrev RrmLen1 : Room := { frames := 1, cells := 0, slots := 0, locals := 13 }
def QrmLen1 (Z : State) (x : Addr) (b : Addr) (kb : ClassId) (cs : List Int32) (h0 : Heap) (v : Option Value) (vm : Vm) (h : Heap) : Prop := v = some (.int (Int32.ofNat (cs).length)) ∧ h = h0
theorem rmLen1 (hcx : Cx Z a0 zc fm) (x : Addr) (b : Addr) (kb : ClassId) (cs : List Int32) (h0 : Heap) (O0 : Old Z Z.heap.size h0) (Pr0 : StrU Z h0 x b kb cs) : Met l Z consts_1 (⟨"java/lang/String", "length", "()I"⟩ : MethodName) jdk_42_method_54_code 1 (some .int) [] RrmLen1 [] #[(.ref x)] h0 (QrmLen1 Z x b kb cs h0) := by
  have ⟨hw, hEL, O2, P5, O4, P6, OA, OH, OB⟩ := hcx
  refine Met.start (a0 := a0) (Ls := #[vR x]) pn8 hEL O0 (fun m => by first | (simp [entryFrame, mkF, argsToLocals, Value.category]; done) | rfl) ?_
  intro p e s m below meth cc T0 vm0 X0 sf0_ D hml hret hnm hx zz A0
  have l1 := ltA Pr0.lt
  have l2 := ltA Pr0.lb
  have l4 := Pr0.2.2.2.2.2
  refine Gets.via (fun _ k => (XS.aloadN A0 hx rfl (D d8_0) rfl rfl k)) ?_
  refine X0.getF (host := "") (Or.inl (w32 hw)) Via.refl Pr0.2.2.1 rfl rfl (D d8_1) fun T3 X3 => ?_
  refine X3.alen Pr0.2.2.2.1 rfl rfl (D d8_4) ?_
  have A4 := X3.at
  refine Gets.via (fun _ k => (XS.aloadN A4 hx rfl (D d8_5) rfl rfl k)) ?_
  refine X3.callV (W := 1) (w46 hw) (w47 hw) (w49 hw) (w48 hw) (nfs rfl (w49 hw)) (by decide) (X3.payM (sf := []) (rmCoder1 hcx x h0 X3.old Pr0.1 Pr0.2.1) sf0 (w50 hw) (w7 hw)) Pr0.1 rfl (sz hml rfl) (argsL := []) (rest := [(.int (Int32.ofNat (2 * (cs).length)))]) (lenOf pd1 rfl) rfl rfl (mroom rfl rfl) (D d8_6) (by decide) (by decide) fun T5 h5 vm5 v5 X5 C5 z5 q5 => ?_
  obtain ⟨rfl, K5⟩ := q5
  rw [K5] at X5 C5
  show Gets p e below _ (T5.setTop (mkF m 9 #[vR x] [(.int (1 : Int32)), (.int (Int32.ofNat (2 * (cs).length)))]))
  have A6 := X5.at
  refine Gets.via (fun _ k => (ishrV A6 hx rfl (D d8_9) rfl (v := (Int32.ofNat (cs).length)) (shr1 (by omega)) k)) ?_
  exact X5.retI hret rfl (by simp) (D d8_10) (by decide) (by decide) (fun vmE CE => ⟨rfl, rfl⟩)
abbrev Rrm16 : Room := { frames := 0, cells := 0, slots := 0, locals := 0 }
def Qrm16 (Z : State) (u : Int32) (w : Int32) (fq : Value) (h0 : Heap) (v : Option Value) (vm : Vm) (h : Heap) : Prop := v = some (.int u) ∧ h = h0
theorem rm16 (hcx : Cx Z a0 zc fm) (u : Int32) (w : Int32) (fq : Value) (h0 : Heap) (O0 : Old Z Z.heap.size h0) (Pr0 : ¬ u < (0 : Int32)) (Pr1 : u < w) (Pr2 : fq.isRef = true) : Met l Z consts_1 (⟨"jdk/internal/util/Preconditions", "checkIndex", "(IILjava/util/function/BiFunction;)I"⟩ : MethodName) jdk_41_method_11_code 3 (some .int) [] Rrm16 [] #[(.int u), (.int w), fq] h0 (Qrm16 Z u w fq h0) := by
  have ⟨hw, hEL, O2, P5, O4, P6, OA, OH, OB⟩ := hcx
  refine Met.start (a0 := a0) (Ls := #[vI u, vI w, .val fq]) pn16 hEL O0 (fun m => by revert Pr2; cases fq <;> intro Pr2 <;> first | exact nomatch (show false = true from Pr2) | (first | (simp [entryFrame, mkF, argsToLocals, Value.category]; done) | rfl)) ?_
  intro p e s m below meth cc T0 vm0 X0 sf0_ D hml hret hnm hx zz A0
  refine Gets.via (fun _ k => (XS.iloadN A0 hx rfl (D d16_0) rfl (XS.ifNo A0 hx rfl (D d16_1) rfl (Jvm.Free.XT.i0_lt_f Pr0) k))) ?_
  refine Gets.via (fun _ k => (XS.iloadN A0 hx rfl (D d16_4) rfl (XS.iloadN A0 hx rfl (D d16_5) rfl (XS.icmpYes A0 hx rfl (pc0 := 6) (pc' := 16) rfl (D d16_6) rfl (Jvm.Free.XT.ii_lt_t Pr1) (by decide) (by decide) k)))) ?_
  refine Gets.via (fun _ k => (XS.iloadN A0 hx rfl (D d16_16) rfl k)) ?_
  exact X0.retI hret rfl (by simp) (D d16_17) (by decide) (by decide) (fun vmE CE => ⟨rfl, rfl⟩)
abbrev Rrm15 : Room := { frames := 1, cells := 0, slots := 0, locals := 14 }
def Qrm15 (Z : State) (u : Int32) (w : Int32) (h0 : Heap) (v : Option Value) (vm : Vm) (h : Heap) : Prop := v = none ∧ h = h0
theorem rm15 (hcx : Cx Z a0 zc fm) (u : Int32) (w : Int32) (h0 : Heap) (O0 : Old Z Z.heap.size h0) (Pr0 : ¬ u < (0 : Int32)) (Pr1 : u < w) : Met l Z consts_1 (⟨"java/lang/String", "checkIndex", "(II)V"⟩ : MethodName) jdk_42_method_155_code 2 (none) [] Rrm15 [] #[(.int u), (.int w)] h0 (Qrm15 Z u w h0) := by
  have ⟨hw, hEL, O2, P5, O4, P6, OA, OH, OB⟩ := hcx
  refine Met.start (a0 := a0) (Ls := #[vI u, vI w]) pn15 hEL O0 (fun m => by first | (simp [entryFrame, mkF, argsToLocals, Value.category]; done) | rfl) ?_
  intro p e s m below meth cc T0 vm0 X0 sf0_ D hml hret hnm hx zz A0
  refine Gets.via (fun _ k => (XS.iloadN A0 hx rfl (D d15_0) rfl (XS.iloadN A0 hx rfl (D d15_1) rfl k))) ?_
  refine X0.getS (host := "") (Or.inl (w83 hw)) Via.refl (X0.sta O4) rfl (D d15_2) fun T1 X1 => ?_
  refine X1.callS (W := 0) (w85 hw) (w86 hw) (w84 hw) (w87 hw) (by decide) (X1.payM (sf := []) (rm16 hcx u w fm h0 X1.old Pr0 Pr1 P6) sf0 (w87 hw) (w84 hw)) rfl (sz hml rfl) (argsL := [(.int u), (.int w), fm]) (rest := []) (lenOf pd2 rfl) rfl rfl (mroom rfl rfl) (D d15_5) (by decide) (by decide) fun T2 h2 vm2 v2 X2 C2 z2 q2 => ?_
  obtain ⟨rfl, K2⟩ := q2
  rw [K2] at X2 C2
  have A3 := X2.at
  refine Gets.via (fun _ k => (XS.pop A3 hx rfl (D d15_8) rfl rfl k)) ?_
  show Gets p e below _ (T2.setTop (mkF m 9 #[vI u, vI w] []))
  exact X2.retV hret (D d15_9) (by decide) (by decide) (fun vmE CE => ⟨rfl, rfl⟩)
abbrev RrmULen : Room := { frames := 0, cells := 0, slots := 0, locals := 0 }
def QrmULen (Z : State) (d : Addr) (kd : ClassId) (n : Nat) (vs : List Value) (h0 : Heap) (v : Option Value) (vm : Vm) (h : Heap) : Prop := v = some (.int (Int32.ofNat n)) ∧ h = h0
theorem rmULen (hcx : Cx Z a0 zc fm) (d : Addr) (kd : ClassId) (n : Nat) (vs : List Value) (h0 : Heap) (O0 : Old Z Z.heap.size h0) (Pr0 : Arv Z h0 d kd .byte (Int32.ofNat (2 * n)) vs (.int (0 : Int32))) (Pr1 : n ≤ 2000) : Met l Z consts_1 (⟨"java/lang/StringUTF16", "length", "([B)I"⟩ : MethodName) jdk_52_method_6_code 1 (some .int) [] RrmULen [] #[(.ref d)] h0 (QrmULen Z d kd n vs h0) := by
  have ⟨hw, hEL, O2, P5, O4, P6, OA, OH, OB⟩ := hcx
  refine Met.start (a0 := a0) (Ls := #[vR d]) pn54 hEL O0 (fun m => by first | (simp [entryFrame, mkF, argsToLocals, Value.category]; done) | rfl) ?_
  intro p e s m below meth cc T0 vm0 X0 sf0_ D hml hret hnm hx zz A0
  have l1 := ltA Pr0.lt
  refine Gets.via (fun _ k => (XS.aloadN A0 hx rfl (D d54_0) rfl rfl k)) ?_
  refine X0.alen Pr0 rfl rfl (D d54_1) ?_
  refine Gets.via (fun _ k => (XS.iconst A0 hx rfl (D d54_2) (ishrV A0 hx rfl (D d54_3) rfl (v := (Int32.ofNat n)) (shr1 (by omega)) k))) ?_
  exact X0.retI hret rfl (by simp) (D d54_4) (by decide) (by decide) (fun vmE CE => ⟨rfl, rfl⟩)
abbrev RrmUChk : Room := { frames := 2, cells := 0, slots := 0, locals := 27 }
def QrmUChk (Z : State) (i : Nat) (d : Addr) (kd : ClassId) (n : Nat) (vs : List Value) (h0 : Heap) (v : Option Value) (vm : Vm) (h : Heap) : Prop := v = none ∧ h = h0
theorem rmUChk (hcx : Cx Z a0 zc fm) (i : Nat) (d : Addr) (kd : ClassId) (n : Nat) (vs : List Value) (h0 : Heap) (O0 : Old Z Z.heap.size h0) (Pr0 : Arv Z h0 d kd .byte (Int32.ofNat (2 * n)) vs (.int (0 : Int32))) (Pr1 : n ≤ 2000) (Pr2 : i < n) : Met l Z consts_1 (⟨"java/lang/StringUTF16", "checkIndex", "(I[B)V"⟩ : MethodName) jdk_52_method_91_code 2 (none) [] RrmUChk [] #[(.int (Int32.ofNat i)), (.ref d)] h0 (QrmUChk Z i d kd n vs h0) := by
  have ⟨hw, hEL, O2, P5, O4, P6, OA, OH, OB⟩ := hcx
  refine Met.start (a0 := a0) (Ls := #[vI (Int32.ofNat i), vR d]) pn53 hEL O0 (fun m => by first | (simp [entryFrame, mkF, argsToLocals, Value.category]; done) | rfl) ?_
  intro p e s m below meth cc T0 vm0 X0 sf0_ D hml hret hnm hx zz A0
  have l1 := ltA Pr0.lt
  have u2 : ¬ (Int32.ofNat i) < (0 : Int32) := of_pos (by omega)
  have u3 : (Int32.ofNat i) < (Int32.ofNat n) := of_lt (by omega) (by omega)
  refine Gets.via (fun _ k => (XS.iloadN A0 hx rfl (D d53_0) rfl (XS.aloadN A0 hx rfl (D d53_1) rfl rfl k))) ?_
  refine X0.callS (W := 1) (w267 hw) (w268 hw) (w21 hw) (w269 hw) (by decide) (X0.payM (sf := []) (rmULen hcx d kd n vs h0 X0.old Pr0 Pr1) sf0 (w269 hw) (w21 hw)) rfl (sz hml rfl) (argsL := [(.ref d)]) (rest := [(.int (Int32.ofNat i))]) (lenOf pd3 rfl) rfl rfl (mroom rfl rfl) (D d53_2) (by decide) (by decide) fun T4 h4 vm4 v4 X4 C4 z4 q4 => ?_
  obtain ⟨rfl, K4⟩ := q4
  rw [K4] at X4 C4
  refine X4.callS (W := 0) (w270 hw) (w81 hw) (w7 hw) (w82 hw) (by decide) (X4.payM (sf := []) (rm15 hcx (Int32.ofNat i) (Int32.ofNat n) h0 X4.old u2 u3) sf0 (w82 hw) (w7 hw)) rfl (sz hml rfl) (argsL := [(.int (Int32.ofNat i)), (.int (Int32.ofNat n))]) (rest := []) (lenOf pd4 rfl) rfl rfl (mroom rfl rfl) (D d53_5) (by decide) (by decide) fun T5 h5 vm5 v5 X5 C5 z5 q5 => ?_
  obtain ⟨rfl, K5⟩ := q5
  rw [K5] at X5 C5
  exact X5.retV hret (D d53_8) (by decide) (by decide) (fun vmE CE => ⟨rfl, rfl⟩)
abbrev RrmGetC : Room := { frames := 0, cells := 0, slots := 0, locals := 0 }
def QrmGetC (Z : State) (d : Addr) (i : Nat) (kd : ClassId) (z : Int32) (M : Nat) (cs : List Int32) (h0 : Heap) (v : Option Value) (vm : Vm) (h : Heap) : Prop := v = some (.int (cs.getD i 0)) ∧ h = h0
theorem rmGetC (hcx : Cx Z a0 zc fm) (d : Addr) (i : Nat) (kd : ClassId) (z : Int32) (M : Nat) (cs : List Int32) (h0 : Heap) (O0 : Old Z Z.heap.size h0) (Pr0 : Arv Z h0 d kd .byte z (enc16 cs) (.int (0 : Int32))) (Pr1 : z.toNatClampNeg = M) (Pr2 : M ≤ 4000) (Pr3 : 2 * (cs).length ≤ M) (Pr4 : i < (cs).length) (Pr5 : ∀ z_ ∈ cs, ¬ z_ < 0 ∧ ¬ (65535 : Int32) < z_) : Met l Z consts_1 (⟨"java/lang/StringUTF16", "getChar", "([BI)C"⟩ : MethodName) jdk_52_method_5_code 2 (some .char) [] RrmGetC [] #[(.ref d), (.int (Int32.ofNat i))] h0 (QrmGetC Z d i kd z M cs h0) := by
  have ⟨hw, hEL, O2, P5, O4, P6, OA, OH, OB⟩ := hcx
  refine Met.start (a0 := a0) (Ls := #[vR d, vI (Int32.ofNat i)]) pn51 hEL O0 (fun m => by first | (simp [entryFrame, mkF, argsToLocals, Value.category]; done) | rfl) ?_
  intro p e s m below meth cc T0 vm0 X0 sf0_ D hml hret hnm hx zz A0
  have l1 := ltA Pr0.lt
  have hr := mem_getD Pr4 Pr5
  refine X0.getS (host := "") (Or.inl (w237 hw)) Via.refl (X0.sta OA) rfl (D d51_0) fun T2 X2 => ?_
  have A3 := X2.at
  refine Gets.via (fun _ k => (XS.ifYes A3 hx rfl (pc0 := 3) (pc' := 28) rfl (D d51_3) rfl (Jvm.Free.XT.i0_ne_t (by decide)) (by decide) (by decide) k)) ?_
  refine Gets.via (fun _ k => (XS.iloadN A3 hx rfl (D d51_28) rfl (XS.iconst A3 hx rfl (D d51_29) (ishlV A3 hx rfl (D d51_30) rfl (v := (Int32.ofNat (2 * i))) (shl1 _) (XS.istoreN A3 hx rfl (D d51_31) rfl (l' := #[vR d, vI (Int32.ofNat (2 * i))]) rfl (XS.aloadN A3 hx rfl (D d51_32) rfl rfl (XS.iloadN A3 hx rfl (D d51_33) rfl k))))))) ?_
  show Gets p e below _ (T2.setTop (mkF m 34 #[vR d, vI (Int32.ofNat (2 * i))] [(.int (Int32.ofNat (2 * i))), (.ref d)]))
  refine Gets.via (fun _ k => (iincV A3 hx rfl (D d51_34) rfl (v := (Int32.ofNat ((2 * i) + 1))) (of_add _ 1) (l' := #[vR d, vI (Int32.ofNat ((2 * i) + 1))]) rfl k)) ?_
  show Gets p e below _ (T2.setTop (mkF m 37 #[vR d, vI (Int32.ofNat (2 * i + 1))] [(.int (Int32.ofNat (2 * i))), (.ref d)]))
  refine X2.ldB Pr0 (j := (Int32.ofNat (2 * i))) (i := 2 * i) (of_pos (by omega)) (toN (by omega)) (by rw [Pr1]; omega) (v := (.int ((cs.getD i 0).toInt8.toInt32))) (e16_lo Pr4) rfl rfl (D d51_37) ?_
  refine Gets.via (fun _ k => (XS.sipush A3 hx rfl (D d51_38) (XS.iand A3 hx rfl (D d51_41) rfl k))) ?_
  refine X2.getS (host := "") (Or.inl (w238 hw)) Via.refl (X2.sta OH) rfl (D d51_42) fun T4 X4 => ?_
  have A5 := X4.at
  refine Gets.via (fun _ k => (ishlV A5 hx rfl (D d51_45) rfl (v := ((((cs.getD i 0).toInt8.toInt32) &&& (255 : Int32)) <<< ((0 : Int32) &&& (31 : Int32)))) rfl (XS.aloadN A5 hx rfl (D d51_46) rfl rfl (XS.iloadN A5 hx rfl (D d51_47) rfl k)))) ?_
  refine X4.ldB Pr0 (j := (Int32.ofNat (2 * i + 1))) (i := 2 * i + 1) (of_pos (by omega)) (toN (by omega)) (by rw [Pr1]; omega) (v := (.int (((cs.getD i 0) >>> ((8 : Int32) &&& (31 : Int32))).toInt8.toInt32))) (e16_hi Pr4) rfl rfl (D d51_48) ?_
  show Gets p e below _ (T4.setTop (mkF m 49 #[vR d, vI (Int32.ofNat (2 * i + 1))] [(.int (((cs.getD i 0) >>> ((8 : Int32) &&& (31 : Int32))).toInt8.toInt32)), (.int ((((cs.getD i 0).toInt8.toInt32) &&& (255 : Int32)) <<< ((0 : Int32) &&& (31 : Int32))))]))
  refine Gets.via (fun _ k => (XS.sipush A5 hx rfl (D d51_49) (XS.iand A5 hx rfl (D d51_52) rfl k))) ?_
  refine X4.getS (host := "") (Or.inl (w239 hw)) Via.refl (X4.sta OB) rfl (D d51_53) fun T6 X6 => ?_
  have A7 := X6.at
  refine Gets.via (fun _ k => (ishlV A7 hx rfl (D d51_56) rfl (v := (((((cs.getD i 0) >>> ((8 : Int32) &&& (31 : Int32))).toInt8.toInt32) &&& (255 : Int32)) <<< ((8 : Int32) &&& (31 : Int32)))) rfl (XS.ior A7 hx rfl (D d51_57) rfl (i2cV A7 hx rfl (D d51_58) rfl (v := (cs.getD i 0)) (StrChars.pair_says hr.1 hr.2) k)))) ?_
  exact X6.retI hret (nar16 hr) (by simp) (D d51_59) (by decide) (by decide) (fun vmE CE => ⟨rfl, rfl⟩)
abbrev RrmPutC : Room := { frames := 0, cells := 0, slots := 0, locals := 0 }
def QrmPutC (Z : State) (d : Addr) (n : Nat) (u : Int32) (kd : ClassId) (z : Int32) (M : Nat) (vs : List Value) (h0 : Heap) (v : Option Value) (vm : Vm) (h : Heap) : Prop := v = none ∧ Keep h0 h [d] ∧ Arv Z h d kd .byte z ((vs ++ [(.int (u.toInt8.toInt32))]) ++ [(.int ((u >>> ((8 : Int32) &&& (31 : Int32))).toInt8.toInt32))]) (.int (0 : Int32))
theorem rmPutC (hcx : Cx Z a0 zc fm) (d : Addr) (n : Nat) (u : Int32) (kd : ClassId) (z : Int32) (M : Nat) (vs : List Value) (h0 : Heap) (O0 : Old Z Z.heap.size h0) (Pr0 : Arv Z h0 d kd .byte z vs (.int (0 : Int32))) (Pr1 : z.toNatClampNeg = M) (Pr2 : M ≤ 4000) (Pr3 : vs.length = 2 * n) (Pr4 : 2 * n + 2 ≤ M) (Pr5 : Z.heap.size ≤ d) : Met l Z consts_1 (⟨"java/lang/StringUTF16", "putChar", "([BII)V"⟩ : MethodName) jdk_52_method_4_code 3 (none) [] RrmPutC [d] #[(.ref d), (.int (Int32.ofNat n)), (.int u)] h0 (QrmPutC Z d n u kd z M vs h0) := by
  have ⟨hw, hEL, O2, P5, O4, P6, OA, OH, OB⟩ := hcx
  refine Met.start (a0 := a0) (Ls := #[vR d, vI (Int32.ofNat n), vI u]) pn45 hEL O0 (fun m => by first | (simp [entryFrame, mkF, argsToLocals, Value.category]; done) | rfl) ?_
  intro p e s m below meth cc T0 vm0 X0 sf0_ D hml hret hnm hx zz A0
  have l1 := ltA Pr0.lt
  have s2 := sf0_ d (memI (i := 0) rfl)
  refine X0.getS (host := "") (Or.inl (w237 hw)) Via.refl (X0.sta OA) rfl (D d45_0) fun T3 X3 => ?_
  have A4 := X3.at
  refine Gets.via (fun _ k => (XS.ifYes A4 hx rfl (pc0 := 3) (pc' := 28) rfl (D d45_3) rfl (Jvm.Free.XT.i0_ne_t (by decide)) (by decide) (by decide) k)) ?_
  refine Gets.via (fun _ k => (XS.iloadN A4 hx rfl (D d45_28) rfl (XS.iconst A4 hx rfl (D d45_29) (ishlV A4 hx rfl (D d45_30) rfl (v := (Int32.ofNat (2 * n))) (shl1 _) (XS.istoreN A4 hx rfl (D d45_31) rfl (l' := #[vR d, vI (Int32.ofNat (2 * n)), vI u]) rfl (XS.aloadN A4 hx rfl (D d45_32) rfl rfl (XS.iloadN A4 hx rfl (D d45_33) rfl k))))))) ?_
  show Gets p e below _ (T3.setTop (mkF m 34 #[vR d, vI (Int32.ofNat (2 * n)), vI u] [(.int (Int32.ofNat (2 * n))), (.ref d)]))
  refine Gets.via (fun _ k => (iincV A4 hx rfl (D d45_34) rfl (v := (Int32.ofNat ((2 * n) + 1))) (of_add _ 1) (l' := #[vR d, vI (Int32.ofNat ((2 * n) + 1)), vI u]) rfl (XS.iloadN A4 hx rfl (D d45_37) rfl k))) ?_
  show Gets p e below _ (T3.setTop (mkF m 38 #[vR d, vI (Int32.ofNat (2 * n + 1)), vI u] [(.int u), (.int (Int32.ofNat (2 * n))), (.ref d)]))
  refine X3.getS (host := "") (Or.inl (w238 hw)) Via.refl (X3.sta OH) rfl (D d45_38) fun T5 X5 => ?_
  have A6 := X5.at
  refine Gets.via (fun _ k => (ishrV A6 hx rfl (D d45_41) rfl (v := u) (shr0 _) (XS.i2b A6 hx rfl (D d45_42) rfl k))) ?_
  refine X5.stB (Pr0.pad (pad_rep _ _ 1)) (i := 2 * n) (of_pos (by omega)) (toN (by omega)) (by rw [List.length_append, Pr3]; simp) (by rw [Pr1]; omega) (v := (u.toInt8.toInt32)) (nar_b _) s2 (leA (by omega)) rfl rfl (D d45_43) fun T7 h7 X7 C7 K7 V7 => ?_
  have z7 := K7.1
  have V7_ : Arv Z h7 d kd .byte z (vs ++ [(.int (u.toInt8.toInt32))]) (.int (0 : Int32)) := setA V7 Pr3.symm
  have A8 := X7.at
  refine Gets.via (fun _ k => (XS.aloadN A8 hx rfl (D d45_44) rfl rfl (XS.iloadN A8 hx rfl (D d45_45) rfl (XS.iloadN A8 hx rfl (D d45_46) rfl k)))) ?_
  refine X7.getS (host := "") (Or.inl (w239 hw)) Via.refl (X7.sta OB) rfl (D d45_47) fun T9 X9 => ?_
  show Gets p e below _ (T9.setTop (mkF m 50 #[vR d, vI (Int32.ofNat (2 * n + 1)), vI u] [(.int (8 : Int32)), (.int u), (.int (Int32.ofNat (2 * n + 1))), (.ref d)]))
  have A10 := X9.at
  refine Gets.via (fun _ k => (ishrV A10 hx rfl (D d45_50) rfl (v := (u >>> ((8 : Int32) &&& (31 : Int32)))) rfl (XS.i2b A10 hx rfl (D d45_51) rfl k))) ?_
  have f12 := C7.safe (x := d) (ltA (by omega)) s2
  refine X9.stB (V7_.pad (pad_rep _ _ 1)) (i := 2 * n + 1) (of_pos (by omega)) (toN (by omega)) (by rw [List.length_append, List.length_append, Pr3]; simp) (by rw [Pr1]; omega) (v := ((u >>> ((8 : Int32) &&& (31 : Int32))).toInt8.toInt32)) (nar_b _) f12 (leA (by omega)) rfl rfl (D d45_52) fun T11 h11 X11 C11 K11 V11 => ?_
  have z11 := K11.1
  have V11_ : Arv Z h11 d kd .byte z ((vs ++ [(.int (u.toInt8.toInt32))]) ++ [(.int ((u >>> ((8 : Int32) &&& (31 : Int32))).toInt8.toInt32))]) (.int (0 : Int32)) := setA V11 (by rw [List.length_append, Pr3]; rfl)
  exact X11.retV hret (D d45_53) (by decide) (by decide) (fun vmE CE => ⟨rfl, (((Keep.refl h0 [d]).trans K7 (allS (Or.inl (memI (i := 0) rfl)) all0)).trans K11 (allS (Or.inl (memI (i := 0) rfl)) all0)), V11_⟩)
abbrev Rrm13 : Room := { frames := 0, cells := 0, slots := 0, locals := 0 }
def Qrm13 (Z : State) (x : Addr) (h0 : Heap) (v : Option Value) (vm : Vm) (h : Heap) : Prop := v = some (.int (1 : Int32)) ∧ h = h0
theorem rm13 (hcx : Cx Z a0 zc fm) (x : Addr) (h0 : Heap) (O0 : Old Z Z.heap.size h0) (Pr0 : Exa Z h0 x "java/lang/String") (Pr1 : Fld Z h0 x "java/lang/String" "coder" "B" (.int (0 : Int32))) : Met l Z consts_1 (⟨"java/lang/String", "isLatin1", "()Z"⟩ : MethodName) jdk_42_method_154_code 1 (some .boolean) [] Rrm13 [] #[(.ref x)] h0 (Qrm13 Z x h0) := by
  have ⟨hw, hEL, O2, P5, O4, P6, OA, OH, OB⟩ := hcx
  refine Met.start (a0 := a0) (Ls := #[vR x]) pn13 hEL O0 (fun m => by first | (simp [entryFrame, mkF, argsToLocals, Value.category]; done) | rfl) ?_
  intro p e s m below meth cc T0 vm0 X0 sf0_ D hml hret hnm hx zz A0
  have l1 := ltA Pr0.lt
  refine X0.getS (host := "") (Or.inl (w18 hw)) Via.refl (X0.sta O2) rfl (D d13_0) fun T2 X2 => ?_
  have A3 := X2.at
  refine Gets.via (fun _ k => (XS.ifNo A3 hx rfl (D d13_3) rfl (Jvm.Free.XT.i0_eq_f P5) k)) ?_
  refine Gets.via (fun _ k => (XS.aloadN A3 hx rfl (D d13_6) rfl rfl k)) ?_
  refine X2.getF (host := "") (Or.inl (w30 hw)) Via.refl Pr1 rfl rfl (D d13_7) fun T4 X4 => ?_
  have A5 := X4.at
  refine Gets.via (fun _ k => (XS.ifNo A5 hx rfl (D d13_10) rfl (Jvm.Free.XT.i0_ne_f (by decide)) k)) ?_
  show Gets p e below _ (T4.setTop (mkF m 13 #[vR x] []))
  refine Gets.via (fun _ k => (XS.iconst A5 hx rfl (D d13_13) (XS.goto A5 hx rfl (pc0 := 14) (pc' := 18) rfl (D d13_14) (by decide) (by decide) k))) ?_
  exact X4.retI hret (by decide) (by simp) (D d13_18) (by decide) (by decide) (fun vmE CE => ⟨rfl, rfl⟩)
abbrev RrmCmp1_0 : Room := { frames := 0, cells := 0, slots := 0, locals := 0 }
def QrmCmp1_0 (Z : State) (y : Addr) (d : Addr) (ky : ClassId) (kd : ClassId) (c0 : Int32) (h0 : Heap) (v : Option Value) (vm : Vm) (h : Heap) : Prop := v = some (.int (0 : Int32)) ∧ Keep h0 h [d]
theorem rmCmp1_0 (hcx : Cx Z a0 zc fm) (y : Addr) (d : Addr) (ky : ClassId) (kd : ClassId) (c0 : Int32) (h0 : Heap) (O0 : Old Z Z.heap.size h0) (Pr0 : Arv Z h0 y ky .char (1 : Int32) [(.int c0)] (.int (0 : Int32))) (Pr1 : Arv Z h0 d kd .byte (1 : Int32) [(.int (0 : Int32))] (.int (0 : Int32))) (Pr2 : Z.heap.size ≤ d) (Pr3 : y ≠ d) (Pr4 : (255 : Int32) < c0) : Met l Z consts_1 (⟨"java/lang/StringUTF16", "compress", "([CI[BII)I"⟩ : MethodName) jdk_52_method_21_code 7 (some .int) [] RrmCmp1_0 [d] #[(.ref y), (.int (0 : Int32)), (.ref d), (.int (0 : Int32)), (.int (1 : Int32))] h0 (QrmCmp1_0 Z y d ky kd c0 h0) := by
  have ⟨hw, hEL, O2, P5, O4, P6, OA, OH, OB⟩ := hcx
  refine Met.start (a0 := a0) (Ls := #[vR y, vI (0 : Int32), vR d, vI (0 : Int32), vI (1 : Int32), .unset, .unset]) pn5 hEL O0 (fun m => by first | (simp [entryFrame, mkF, argsToLocals, Value.category]; done) | rfl) ?_
  intro p e s m below meth cc T0 vm0 X0 sf0_ D hml hret hnm hx zz A0
  have l1 := ltA Pr0.lt
  have l2 := ltA Pr1.lt
  have l3 := neA Pr3
  have s4 := sf0_ d (memI (i := 0) rfl)
  refine Gets.via (fun _ k => (XS.iconst A0 hx rfl (D d5_0) (XS.istore A0 hx rfl (D d5_1) rfl (l' := #[vR y, vI (0 : Int32), vR d, vI (0 : Int32), vI (1 : Int32), vI (0 : Int32), .unset]) rfl (XS.iload A0 hx rfl (D d5_3) rfl (XS.iload A0 hx rfl (D d5_5) rfl (XS.icmpNo A0 hx rfl (D d5_7) rfl (Jvm.Free.XT.ii_ge_f (by decide)) k)))))) ?_
  refine Gets.via (fun _ k => (XS.aloadN A0 hx rfl (D d5_10) rfl rfl (XS.iloadN A0 hx rfl (D d5_11) rfl k))) ?_
  refine X0.ldC Pr0 (i := 0) (by decide) (by decide) (by decide) rfl rfl rfl (D d5_12) ?_
  show Gets p e below _ (T0.setTop (mkF m 13 #[vR y, vI (0 : Int32), vR d, vI (0 : Int32), vI (1 : Int32), vI (0 : Int32), .unset] [(.int c0)]))
  refine Gets.via (fun _ k => (XS.istore A0 hx rfl (D d5_13) rfl (l' := #[vR y, vI (0 : Int32), vR d, vI (0 : Int32), vI (1 : Int32), vI (0 : Int32), vI c0]) rfl (XS.iload A0 hx rfl (D d5_15) rfl (XS.sipush A0 hx rfl (D d5_17) (XS.icmpNo A0 hx rfl (D d5_20) rfl (Jvm.Free.XT.ii_le_f Pr4) k))))) ?_
  refine Gets.via (fun _ k => (XS.iload A0 hx rfl (D d5_23) rfl k)) ?_
  exact X0.retI hret rfl (by simp) (D d5_25) (by decide) (by decide) (fun vmE CE => ⟨rfl, (Keep.refl h0 [d])⟩)
abbrev RrmNbl1 : Room := { frames := 0, cells := 0, slots := 0, locals := 0 }
def QrmNbl1 (Z : State)  (h0 : Heap) (v : Option Value) (vm : Vm) (h : Heap) : Prop := v = some (.int (2 : Int32)) ∧ h = h0
theorem rmNbl1 (hcx : Cx Z a0 zc fm)  (h0 : Heap) (O0 : Old Z Z.heap.size h0)  : Met l Z consts_1 (⟨"java/lang/StringUTF16", "newBytesLength", "(I)I"⟩ : MethodName) jdk_52_method_3_code 1 (some .int) [] RrmNbl1 [] #[(.int (1 : Int32))] h0 (QrmNbl1 Z  h0) := by
  have ⟨hw, hEL, O2, P5, O4, P6, OA, OH, OB⟩ := hcx
  refine Met.start (a0 := a0) (Ls := #[vI (1 : Int32)]) pn50 hEL O0 (fun m => by first | (simp [entryFrame, mkF, argsToLocals, Value.category]; done) | rfl) ?_
  intro p e s m below meth cc T0 vm0 X0 sf0_ D hml hret hnm hx zz A0
  refine Gets.via (fun _ k => (XS.iloadN A0 hx rfl (D d50_0) rfl (XS.ifYes A0 hx rfl (pc0 := 1) (pc' := 12) rfl (D d50_1) rfl (Jvm.Free.XT.i0_ge_t (by decide)) (by decide) (by decide) k))) ?_
  refine Gets.via (fun _ k => (XS.iloadN A0 hx rfl (D d50_12) rfl k)) ?_
  refine X0.ldcI (w257 hw) rfl (D d50_13) ?_
  refine Gets.via (fun _ k => (XS.icmpYes A0 hx rfl (pc0 := 15) (pc' := 55) rfl (D d50_15) rfl (Jvm.Free.XT.ii_lt_t (by decide)) (by decide) (by decide) k)) ?_
  refine Gets.via (fun _ k => (XS.iloadN A0 hx rfl (D d50_55) rfl (XS.iconst A0 hx rfl (D d50_56) (ishlV A0 hx rfl (D d50_57) rfl (v := (2 : Int32)) (by decide) k)))) ?_
  show Gets p e below _ (T0.setTop (mkF m 58 #[vI (1 : Int32)] [(.int (2 : Int32))]))
  exact X0.retI hret rfl (by simp) (D d50_58) (by decide) (by decide) (fun vmE CE => ⟨rfl, rfl⟩)
abbrev RrmNbf1 : Room := { frames := 1, cells := 1, slots := 2, locals := 12 }
def QrmNbf1 (Z : State)  (h0 : Heap) (v : Option Value) (vm : Vm) (h : Heap) : Prop := ∃ (t : Addr) (kt : ClassId), v = some (.ref t) ∧ Keep h0 h [] ∧ Arv Z h t kt .byte (2 : Int32) [] (.int (0 : Int32)) ∧ Safe Z consts_1 vm h t ∧ h0.size ≤ t
theorem rmNbf1 (hcx : Cx Z a0 zc fm)  (h0 : Heap) (O0 : Old Z Z.heap.size h0)  : Met l Z consts_1 (⟨"java/lang/StringUTF16", "newBytesFor", "(I)[B"⟩ : MethodName) jdk_52_method_2_code 1 (some (.array .byte)) [] RrmNbf1 [] #[(.int (1 : Int32))] h0 (QrmNbf1 Z  h0) := by
  have ⟨hw, hEL, O2, P5, O4, P6, OA, OH, OB⟩ := hcx
  refine Met.start (a0 := a0) (Ls := #[vI (1 : Int32)]) pn49 hEL O0 (fun m => by first | (simp [entryFrame, mkF, argsToLocals, Value.category]; done) | rfl) ?_
  intro p e s m below meth cc T0 vm0 X0 sf0_ D hml hret hnm hx zz A0
  refine Gets.via (fun _ k => (XS.iloadN A0 hx rfl (D d49_0) rfl k)) ?_
  refine X0.callS (W := 0) (w254 hw) (w255 hw) (w21 hw) (w256 hw) (by decide) (X0.payM (sf := []) (rmNbl1 hcx  h0 X0.old ) sf0 (w256 hw) (w21 hw)) rfl (sz hml rfl) (argsL := [(.int (1 : Int32))]) (rest := []) (lenOf pd6 rfl) rfl rfl (mroom rfl rfl) (D d49_1) (by decide) (by decide) fun T1 h1 vm1 v1 X1 C1 z1 q1 => ?_
  obtain ⟨rfl, K1⟩ := q1
  rw [K1] at X1 C1
  refine X1.newAB (w23 hw) rfl (D d49_4) rfl (by decide) (cap := 2) (by decide) (by decide) (by decide) (by decide) fun T2 h2 a2 k2 X2 C2 E2 g2 S2 V2 Z2 => ?_
  have z2 := E2.1
  have l2 := ltA V2.lt
  exact X2.retA hret rfl rfl rfl (D d49_6) (by decide) (by decide) (fun vmE CE => ⟨a2, k2, rfl, ((Keep.refl h0 []).ext E2), V2, CE.safe (x := a2) (ltA (by omega)) S2, (leA (by omega))⟩)
abbrev RrmTb1 : Room := { frames := 2, cells := 1, slots := 2, locals := 24 }
def QrmTb1 (Z : State) (y : Addr) (ky : ClassId) (c0 : Int32) (h0 : Heap) (v : Option Value) (vm : Vm) (h : Heap) : Prop := ∃ (t : Addr) (kt : ClassId), v = some (.ref t) ∧ Keep h0 h [] ∧ Arv Z h t kt .byte (2 : Int32) (enc16 [c0]) (.int (0 : Int32)) ∧ h0.size ≤ t
theorem rmTb1 (hcx : Cx Z a0 zc fm) (y : Addr) (ky : ClassId) (c0 : Int32) (h0 : Heap) (O0 : Old Z Z.heap.size h0) (Pr0 : Arv Z h0 y ky .char (1 : Int32) [(.int c0)] (.int (0 : Int32))) : Met l Z consts_1 (⟨"java/lang/StringUTF16", "toBytes", "([CII)[B"⟩ : MethodName) jdk_52_method_14_code 5 (some (.array .byte)) [] RrmTb1 [] #[(.ref y), (.int (0 : Int32)), (.int (1 : Int32))] h0 (QrmTb1 Z y ky c0 h0) := by
  have ⟨hw, hEL, O2, P5, O4, P6, OA, OH, OB⟩ := hcx
  refine Met.start (a0 := a0) (Ls := #[vR y, vI (0 : Int32), vI (1 : Int32), .unset, .unset]) pn48 hEL O0 (fun m => by first | (simp [entryFrame, mkF, argsToLocals, Value.category]; done) | rfl) ?_
  intro p e s m below meth cc T0 vm0 X0 sf0_ D hml hret hnm hx zz A0
  have l1 := ltA Pr0.lt
  refine Gets.via (fun _ k => (XS.iloadN A0 hx rfl (D d48_0) rfl k)) ?_
  refine X0.callS (W := 0) (w251 hw) (w252 hw) (w21 hw) (w253 hw) (by decide) (X0.payM (sf := []) (rmNbf1 hcx  h0 X0.old ) sf0 (w253 hw) (w21 hw)) rfl (sz hml rfl) (argsL := [(.int (1 : Int32))]) (rest := []) (lenOf pd7 rfl) rfl rfl (mroom rfl rfl) (D d48_1) (by decide) (by decide) fun T2 h2 vm2 v2 X2 C2 z2 q2 => ?_
  obtain ⟨t2, kt2, rfl, K2, g2_0, g2_1, g2_2⟩ := q2
  have l3 := ltA g2_0.lt
  have A4 := X2.at
  refine Gets.via (fun _ k => (XS.astoreN A4 hx rfl (D d48_4) rfl rfl (l' := #[vR y, vI (0 : Int32), vI (1 : Int32), vR t2, .unset]) rfl (XS.iconst A4 hx rfl (D d48_5) (XS.istore A4 hx rfl (D d48_6) rfl (l' := #[vR y, vI (0 : Int32), vI (1 : Int32), vR t2, vI (0 : Int32)]) rfl (XS.iload A4 hx rfl (D d48_8) rfl (XS.iloadN A4 hx rfl (D d48_10) rfl (XS.icmpNo A4 hx rfl (D d48_11) rfl (Jvm.Free.XT.ii_ge_f (by decide)) k))))))) ?_
  show Gets p e below _ (T2.setTop (mkF m 14 #[vR y, vI (0 : Int32), vI (1 : Int32), vR t2, vI (0 : Int32)] []))
  refine Gets.via (fun _ k => (XS.aloadN A4 hx rfl (D d48_14) rfl rfl (XS.iload A4 hx rfl (D d48_15) rfl (XS.aloadN A4 hx rfl (D d48_17) rfl rfl (XS.iloadN A4 hx rfl (D d48_18) rfl k))))) ?_
  have f5 := Pr0.keep K2 nin0
  refine X2.ldC f5 (i := 0) (by decide) (by decide) (by decide) rfl rfl rfl (D d48_19) ?_
  refine X2.callS (W := 0) (w234 hw) (w235 hw) (w21 hw) (w236 hw) (by decide) (X2.payM (sf := [t2]) (rmPutC hcx t2 0 c0 kt2 (2 : Int32) 2 [] h2 X2.old g2_0 rfl (by decide) rfl (by decide) (leA (by omega))) (sfS g2_1 sf0) (w236 hw) (w21 hw)) rfl (sz hml rfl) (argsL := [(.ref t2), (.int (0 : Int32)), (.int c0)]) (rest := []) (lenOf pd8 rfl) rfl rfl (mroom rfl rfl) (D d48_20) (by decide) (by decide) fun T6 h6 vm6 v6 X6 C6 z6 q6 => ?_
  obtain ⟨rfl, K6, g6_0⟩ := q6
  have l7 := ltA g6_0.lt
  have A8 := X6.at
  refine Gets.via (fun _ k => (iincV A8 hx rfl (D d48_23) rfl (v := (1 : Int32)) (by decide) (l' := #[vR y, vI (1 : Int32), vI (1 : Int32), vR t2, vI (0 : Int32)]) rfl (iincV A8 hx rfl (D d48_26) rfl (v := (1 : Int32)) (by decide) (l' := #[vR y, vI (1 : Int32), vI (1 : Int32), vR t2, vI (1 : Int32)]) rfl (XS.goto A8 hx rfl (pc0 := 29) (pc' := 8) rfl (D d48_29) (by decide) (by decide) k)))) ?_
  show Gets p e below _ (T6.setTop (mkF m 8 #[vR y, vI (1 : Int32), vI (1 : Int32), vR t2, vI (1 : Int32)] []))
  refine Gets.via (fun _ k => (XS.iload A8 hx rfl (D d48_8) rfl (XS.iloadN A8 hx rfl (D d48_10) rfl (XS.icmpYes A8 hx rfl (pc0 := 11) (pc' := 32) rfl (D d48_11) rfl (Jvm.Free.XT.ii_ge_t (by decide)) (by decide) (by decide) k)))) ?_
  have f9 : Arv Z h6 t2 kt2 .byte (2 : Int32) (enc16 [c0]) (.int (0 : Int32)) := encL1 c0 ▸ g6_0
  refine Gets.via (fun _ k => (XS.aloadN A8 hx rfl (D d48_32) rfl rfl k)) ?_
  exact X6.retA hret rfl rfl rfl (D d48_33) (by decide) (by decide) (fun vmE CE => ⟨t2, kt2, rfl, (((Keep.refl h0 []).trans K2 all0).trans K6 (allS (Or.inr (leA (by omega))) all0)), f9, g2_2⟩)
abbrev RrmCps1 : Room := { frames := 3, cells := 2, slots := 3, locals := 40 }
def QrmCps1 (Z : State) (y : Addr) (ky : ClassId) (c0 : Int32) (h0 : Heap) (v : Option Value) (vm : Vm) (h : Heap) : Prop := ∃ (t : Addr) (kt : ClassId), v = some (.ref t) ∧ Keep h0 h [] ∧ Arv Z h t kt .byte (2 : Int32) (enc16 [c0]) (.int (0 : Int32)) ∧ h0.size ≤ t
theorem rmCps1 (hcx : Cx Z a0 zc fm) (y : Addr) (ky : ClassId) (c0 : Int32) (h0 : Heap) (O0 : Old Z Z.heap.size h0) (Pr0 : Arv Z h0 y ky .char (1 : Int32) [(.int c0)] (.int (0 : Int32))) (Pr1 : (255 : Int32) < c0) (Pr2 : ¬ c0 < 0 ∧ ¬ (65535 : Int32) < c0) : Met l Z consts_1 (⟨"java/lang/StringUTF16", "compress", "([CII)[B"⟩ : MethodName) jdk_52_method_16_code 6 (some (.array .byte)) [] RrmCps1 [] #[(.ref y), (.int (0 : Int32)), (.int (1 : Int32))] h0 (QrmCps1 Z y ky c0 h0) := by
  have ⟨hw, hEL, O2, P5, O4, P6, OA, OH, OB⟩ := hcx
  refine Met.start (a0 := a0) (Ls := #[vR y, vI (0 : Int32), vI (1 : Int32), .unset, .unset, .unset]) pn4 hEL O0 (fun m => by first | (simp [entryFrame, mkF, argsToLocals, Value.category]; done) | rfl) ?_
  intro p e s m below meth cc T0 vm0 X0 sf0_ D hml hret hnm hx zz A0
  have l1 := ltA Pr0.lt
  have hR : ∀ z_ ∈ [c0], ¬ z_ < 0 ∧ ¬ (65535 : Int32) < z_ := allI Pr2 (allN)
  rcases fst1 Pr1 with w0
  · skip
    refine Gets.via (fun _ k => (XS.iloadN A0 hx rfl (D d4_0) rfl k)) ?_
    refine X0.newAB (w23 hw) rfl (D d4_1) rfl (by decide) (cap := 1) (by decide) (by decide) (by decide) (by decide) fun T2 h2 a2 k2 X2 C2 E2 g2 S2 V2 Z2 => ?_
    have z2 := E2.1
    have l2 := ltA V2.lt
    have V2_ : Arv Z h2 a2 k2 .byte (1 : Int32) [(.int (0 : Int32))] (.int (0 : Int32)) := padN V2 1
    have A3 := X2.at
    refine Gets.via (fun _ k => (XS.astoreN A3 hx rfl (D d4_3) rfl rfl (l' := #[vR y, vI (0 : Int32), vI (1 : Int32), vR a2, .unset, .unset]) rfl (XS.aloadN A3 hx rfl (D d4_4) rfl rfl (XS.iloadN A3 hx rfl (D d4_5) rfl (XS.aloadN A3 hx rfl (D d4_6) rfl rfl (XS.iconst A3 hx rfl (D d4_7) (XS.iloadN A3 hx rfl (D d4_8) rfl k))))))) ?_
    show Gets p e below _ (T2.setTop (mkF m 9 #[vR y, vI (0 : Int32), vI (1 : Int32), vR a2, .unset, .unset] [(.int (1 : Int32)), (.int (0 : Int32)), (.ref a2), (.int (0 : Int32)), (.ref y)]))
    have f4 := Pr0.ext E2
    refine X2.callS (W := 0) (w24 hw) (w25 hw) (w21 hw) (w26 hw) (by decide) (X2.payM (sf := [a2]) (rmCmp1_0 hcx y a2 ky k2 c0 h2 X2.old f4 V2_ (leA (by omega)) (neA (by omega)) w0) (sfS S2 sf0) (w26 hw) (w21 hw)) rfl (sz hml rfl) (argsL := [(.ref y), (.int (0 : Int32)), (.ref a2), (.int (0 : Int32)), (.int (1 : Int32))]) (rest := []) (lenOf pd5 rfl) rfl rfl (mroom rfl rfl) (D d4_9) (by decide) (by decide) fun T5 h5 vm5 v5 X5 C5 z5 q5 => ?_
    obtain ⟨rfl, K5⟩ := q5
    have A6 := X5.at
    refine Gets.via (fun _ k => (XS.istore A6 hx rfl (D d4_12) rfl (l' := #[vR y, vI (0 : Int32), vI (1 : Int32), vR a2, vI (0 : Int32), .unset]) rfl (XS.iload A6 hx rfl (D d4_14) rfl (XS.iloadN A6 hx rfl (D d4_16) rfl (XS.icmpNo A6 hx rfl (D d4_17) rfl (Jvm.Free.XT.ii_eq_f (by decide)) k))))) ?_
    refine Gets.via (fun _ k => (XS.aloadN A6 hx rfl (D d4_20) rfl rfl (XS.iloadN A6 hx rfl (D d4_21) rfl (XS.iloadN A6 hx rfl (D d4_22) rfl k)))) ?_
    have f7 := f4.keep K5 (ninS (neA (by omega)) nin0)
    refine X5.callS (W := 0) (w248 hw) (w249 hw) (w21 hw) (w250 hw) (by decide) (X5.payM (sf := []) (rmTb1 hcx y ky c0 h5 X5.old f7) sf0 (w250 hw) (w21 hw)) rfl (sz hml rfl) (argsL := [(.ref y), (.int (0 : Int32)), (.int (1 : Int32))]) (rest := []) (lenOf pd9 rfl) rfl rfl (mroom rfl rfl) (D d4_23) (by decide) (by decide) fun T8 h8 vm8 v8 X8 C8 z8 q8 => ?_
    obtain ⟨t8, kt8, rfl, K8, g8_0, g8_1⟩ := q8
    have l9 := ltA g8_0.lt
    show Gets p e below _ (T8.setTop (mkF m 26 #[vR y, vI (0 : Int32), vI (1 : Int32), vR a2, vI (0 : Int32), .unset] [(.ref t8)]))
    have A10 := X8.at
    refine Gets.via (fun _ k => (XS.astore A10 hx rfl (D d4_26) rfl rfl (l' := #[vR y, vI (0 : Int32), vI (1 : Int32), vR a2, vI (0 : Int32), vR t8]) rfl (XS.aload A10 hx rfl (D d4_28) rfl rfl (XS.iload A10 hx rfl (D d4_30) rfl k)))) ?_
    refine X8.callS (W := 0) (w258 hw) (w259 hw) (w21 hw) (w260 hw) (by decide) (X8.payM (sf := []) (rmGetC hcx t8 0 kt8 (2 : Int32) 2 [c0] h8 X8.old g8_0 rfl (by decide) (by first | exact Nat.le_of_ble_eq_true rfl | omega) (by first | exact Nat.le_of_ble_eq_true rfl | omega) hR) sf0 (w260 hw) (w21 hw)) rfl (sz hml rfl) (argsL := [(.ref t8), (.int (0 : Int32))]) (rest := []) (lenOf pd10 rfl) rfl rfl (mroom rfl rfl) (D d4_32) (by decide) (by decide) fun T11 h11 vm11 v11 X11 C11 z11 q11 => ?_
    obtain ⟨rfl, K11⟩ := q11
    rw [K11] at X11 C11
    have A12 := X11.at
    refine Gets.via (fun _ k => (XS.sipush A12 hx rfl (D d4_35) (XS.icmpYes A12 hx rfl (pc0 := 38) (pc' := 54) rfl (D d4_38) rfl (Jvm.Free.XT.ii_gt_t w0) (by decide) (by decide) k))) ?_
    refine Gets.via (fun _ k => (XS.aload A12 hx rfl (D d4_54) rfl rfl k)) ?_
    exact X11.retA hret rfl rfl rfl (D d4_56) (by decide) (by decide) (fun vmE CE => ⟨t8, kt8, rfl, ((((Keep.refl h0 []).ext E2).trans K5 (allS (Or.inr (leA (by omega))) all0)).trans K8 all0), g8_0, (leA (by omega))⟩)
abbrev RrmCfl1 : Room := { frames := 0, cells := 0, slots := 0, locals := 0 }
def QrmCfl1 (Z : State) (t : Addr) (kt : ClassId) (vs : List Value) (h0 : Heap) (v : Option Value) (vm : Vm) (h : Heap) : Prop := v = some (.int (1 : Int32)) ∧ h = h0
theorem rmCfl1 (hcx : Cx Z a0 zc fm) (t : Addr) (kt : ClassId) (vs : List Value) (h0 : Heap) (O0 : Old Z Z.heap.size h0) (Pr0 : Arv Z h0 t kt .byte (2 : Int32) vs (.int (0 : Int32))) : Met l Z consts_1 (⟨"java/lang/StringUTF16", "coderFromArrayLen", "([BI)B"⟩ : MethodName) jdk_52_method_15_code 2 (some .byte) [] RrmCfl1 [] #[(.ref t), (.int (1 : Int32))] h0 (QrmCfl1 Z t kt vs h0) := by
  have ⟨hw, hEL, O2, P5, O4, P6, OA, OH, OB⟩ := hcx
  refine Met.start (a0 := a0) (Ls := #[vR t, vI (1 : Int32)]) pn6 hEL O0 (fun m => by first | (simp [entryFrame, mkF, argsToLocals, Value.category]; done) | rfl) ?_
  intro p e s m below meth cc T0 vm0 X0 sf0_ D hml hret hnm hx zz A0
  have l1 := ltA Pr0.lt
  refine Gets.via (fun _ k => (XS.iloadN A0 hx rfl (D d6_0) rfl (XS.aloadN A0 hx rfl (D d6_1) rfl rfl k))) ?_
  refine X0.alen Pr0 rfl rfl (D d6_2) ?_
  refine Gets.via (fun _ k => (isubV A0 hx rfl (D d6_3) rfl (v := (-1 : Int32)) (by decide) (XS.bipush A0 hx rfl (D d6_4) (iushrV A0 hx rfl (D d6_6) rfl (v := (1 : Int32)) (by decide) (i2bV A0 hx rfl (D d6_7) rfl (v := (1 : Int32)) (by decide) k))))) ?_
  show Gets p e below _ (T0.setTop (mkF m 8 #[vR t, vI (1 : Int32)] [(.int (1 : Int32))]))
  exact X0.retI hret (by decide) (by simp) (D d6_8) (by decide) (by decide) (fun vmE CE => ⟨rfl, rfl⟩)
abbrev RrmU4_1 : Room := { frames := 4, cells := 2, slots := 3, locals := 57 }
def QrmU4_1 (Z : State) (x : Addr) (y : Addr) (ky : ClassId) (c0 : Int32) (h0 : Heap) (v : Option Value) (vm : Vm) (h : Heap) : Prop := ∃ (t : Addr) (kt : ClassId), v = none ∧ Keep h0 h [x] ∧ StrU Z h x t kt [c0]
theorem rmU4_1 (hcx : Cx Z a0 zc fm) (x : Addr) (y : Addr) (ky : ClassId) (c0 : Int32) (h0 : Heap) (O0 : Old Z Z.heap.size h0) (Pr0 : Exa Z h0 x "java/lang/String") (Pr1 : Fld Z h0 x "java/lang/String" "coder" "B" (.int (0 : Int32))) (Pr2 : Fld Z h0 x "java/lang/String" "value" "[B" .null) (Pr3 : Z.heap.size ≤ x) (Pr4 : Arv Z h0 y ky .char (1 : Int32) [(.int c0)] (.int (0 : Int32))) (Pr5 : (255 : Int32) < c0) (Pr6 : ¬ c0 < 0 ∧ ¬ (65535 : Int32) < c0) : Met l Z consts_1 (⟨"java/lang/String", "<init>", "([CIILjava/lang/Void;)V"⟩ : MethodName) jdk_42_method_149_code 6 (none) [] RrmU4_1 [x] #[(.ref x), (.ref y), (.int (0 : Int32)), (.int (1 : Int32)), .null] h0 (QrmU4_1 Z x y ky c0 h0) := by
  have ⟨hw, hEL, O2, P5, O4, P6, OA, OH, OB⟩ := hcx
  refine Met.start (a0 := a0) (Ls := #[vR x, vR y, vI (0 : Int32), vI (1 : Int32), .val .null, .unset]) pn2 hEL O0 (fun m => by first | (simp [entryFrame, mkF, argsToLocals, Value.category]; done) | rfl) ?_
  intro p e s m below meth cc T0 vm0 X0 sf0_ D hml hret hnm hx zz A0
  have l1 := ltA Pr0.lt
  have l2 := ltA Pr4.lt
  have s3 := sf0_ x (memI (i := 0) rfl)
  refine Gets.via (fun _ k => (XS.aloadN A0 hx rfl (D d2_0) rfl rfl k)) ?_
  refine X0.objInit (w15 hw) (w16 hw) (w17 hw) rfl (sz hml rfl) rfl (D d2_1) (by decide) (W := 0) (mroom rfl rfl) (by decide) fun T4 X4 => ?_
  have A5 := X4.at
  refine Gets.via (fun _ k => (XS.iloadN A5 hx rfl (D d2_4) rfl (XS.ifYes A5 hx rfl (pc0 := 5) (pc' := 27) rfl (D d2_5) rfl (Jvm.Free.XT.i0_ne_t (by decide)) (by decide) (by decide) k))) ?_
  refine X4.getS (host := "") (Or.inl (w18 hw)) Via.refl (X4.sta O2) rfl (D d2_27) fun T6 X6 => ?_
  show Gets p e below _ (T6.setTop (mkF m 30 #[vR x, vR y, vI (0 : Int32), vI (1 : Int32), .val .null, .unset] [(.int zc)]))
  have A7 := X6.at
  refine Gets.via (fun _ k => (XS.ifNo A7 hx rfl (D d2_30) rfl (Jvm.Free.XT.i0_eq_f P5) k)) ?_
  refine Gets.via (fun _ k => (XS.aloadN A7 hx rfl (D d2_33) rfl rfl (XS.iloadN A7 hx rfl (D d2_34) rfl (XS.iloadN A7 hx rfl (D d2_35) rfl k)))) ?_
  refine X6.callS (W := 0) (w19 hw) (w20 hw) (w21 hw) (w22 hw) (by decide) (X6.payM (sf := []) (rmCps1 hcx y ky c0 h0 X6.old Pr4 Pr5 Pr6) sf0 (w22 hw) (w21 hw)) rfl (sz hml rfl) (argsL := [(.ref y), (.int (0 : Int32)), (.int (1 : Int32))]) (rest := []) (lenOf pd9 rfl) rfl rfl (mroom rfl rfl) (D d2_36) (by decide) (by decide) fun T8 h8 vm8 v8 X8 C8 z8 q8 => ?_
  obtain ⟨t8, kt8, rfl, K8, g8_0, g8_1⟩ := q8
  have l9 := ltA g8_0.lt
  have A10 := X8.at
  refine Gets.via (fun _ k => (XS.astore A10 hx rfl (D d2_39) rfl rfl (l' := #[vR x, vR y, vI (0 : Int32), vI (1 : Int32), .val .null, vR t8]) rfl (XS.aloadN A10 hx rfl (D d2_41) rfl rfl (XS.aload A10 hx rfl (D d2_42) rfl rfl (XS.iloadN A10 hx rfl (D d2_44) rfl k))))) ?_
  refine X8.callS (W := 1) (w27 hw) (w28 hw) (w21 hw) (w29 hw) (by decide) (X8.payM (sf := []) (rmCfl1 hcx t8 kt8 (enc16 [c0]) h8 X8.old g8_0) sf0 (w29 hw) (w21 hw)) rfl (sz hml rfl) (argsL := [(.ref t8), (.int (1 : Int32))]) (rest := [(.ref x)]) (lenOf pd11 rfl) rfl rfl (mroom rfl rfl) (D d2_45) (by decide) (by decide) fun T11 h11 vm11 v11 X11 C11 z11 q11 => ?_
  obtain ⟨rfl, K11⟩ := q11
  rw [K11] at X11 C11
  show Gets p e below _ (T11.setTop (mkF m 48 #[vR x, vR y, vI (0 : Int32), vI (1 : Int32), .val .null, vR t8] [(.int (1 : Int32)), (.ref x)]))
  have f13 := Pr1.keep K8 nin0
  have f14 := Pr0.keep K8
  have f15 := C8.safe (x := x) (ltA (by omega)) s3
  have f16 := C11.safe (x := x) (ltA (by omega)) f15
  refine X11.putF (host := "") (Or.inl (w30 hw)) Via.refl f13 f14 (Or.inr ⟨(w31 hw), rfl, hnm⟩) (w6 hw) (ty := .byte) (by decide) (by decide) (by decide) (leA (by omega)) f16 rfl rfl (D d2_48) fun T12 h12 X12 C12 W12 F12 Z12 => ?_
  have z12 := W12.size
  have A17 := X12.at
  refine Gets.via (fun _ k => (XS.aloadN A17 hx rfl (D d2_51) rfl rfl (XS.aload A17 hx rfl (D d2_52) rfl rfl k))) ?_
  have f19 := Pr2.keep K8 nin0
  have f20 := f19.other W12 (Or.inr (slot_ne (t := (.array .byte)) (t' := .byte) (Or.inr (w33 hw)) (Or.inr (w31 hw)) (by decide) (by decide) (by decide)))
  have f21 := C12.safe (x := x) (ltA (by omega)) f16
  refine X12.putF (host := "") (Or.inl (w32 hw)) Via.refl f20 Z12 (Or.inr ⟨(w33 hw), rfl, hnm⟩) (w6 hw) (ty := (.array .byte)) (by decide) rfl rfl (leA (by omega)) f21 rfl rfl (D d2_54) fun T18 h18 X18 C18 W18 F18 Z18 => ?_
  have z18 := W18.size
  have f22 := F12.other W18 (Or.inr (slot_ne (t := .byte) (t' := (.array .byte)) (Or.inr (w31 hw)) (Or.inr (w33 hw)) (by decide) (by decide) (by decide)))
  have f23 := g8_0.other W12 (neA (by omega))
  have f24 := f23.other W18 (neA (by omega))
  have SU : StrU Z h18 x t8 kt8 [c0] := ⟨Z18, f22, F18, f24, allI Pr6 (allN), Nat.le_of_ble_eq_true rfl⟩
  exact X18.retV hret (D d2_57) (by decide) (by decide) (fun vmE CE => ⟨t8, kt8, rfl, ((((Keep.refl h0 [x]).trans K8 all0).wr W12 (Or.inl (memI (i := 0) rfl))).wr W18 (Or.inl (memI (i := 0) rfl))), SU⟩)
abbrev RrmU1_1 : Room := { frames := 5, cells := 2, slots := 3, locals := 74 }
def QrmU1_1 (Z : State) (x : Addr) (y : Addr) (ky : ClassId) (c0 : Int32) (h0 : Heap) (v : Option Value) (vm : Vm) (h : Heap) : Prop := ∃ (t : Addr) (kt : ClassId), v = none ∧ Keep h0 h [x] ∧ StrU Z h x t kt [c0]
theorem rmU1_1 (hcx : Cx Z a0 zc fm) (x : Addr) (y : Addr) (ky : ClassId) (c0 : Int32) (h0 : Heap) (O0 : Old Z Z.heap.size h0) (Pr0 : Exa Z h0 x "java/lang/String") (Pr1 : Fld Z h0 x "java/lang/String" "coder" "B" (.int (0 : Int32))) (Pr2 : Fld Z h0 x "java/lang/String" "value" "[B" .null) (Pr3 : Z.heap.size ≤ x) (Pr4 : Arv Z h0 y ky .char (1 : Int32) [(.int c0)] (.int (0 : Int32))) (Pr5 : (255 : Int32) < c0) (Pr6 : ¬ c0 < 0 ∧ ¬ (65535 : Int32) < c0) : Met l Z consts_1 (⟨"java/lang/String", "<init>", "([C)V"⟩ : MethodName) jdk_42_method_3_code 2 (none) [] RrmU1_1 [x] #[(.ref x), (.ref y)] h0 (QrmU1_1 Z x y ky c0 h0) := by
  have ⟨hw, hEL, O2, P5, O4, P6, OA, OH, OB⟩ := hcx
  refine Met.start (a0 := a0) (Ls := #[vR x, vR y]) pn1 hEL O0 (fun m => by first | (simp [entryFrame, mkF, argsToLocals, Value.category]; done) | rfl) ?_
  intro p e s m below meth cc T0 vm0 X0 sf0_ D hml hret hnm hx zz A0
  have l1 := ltA Pr0.lt
  have l2 := ltA Pr4.lt
  have s3 := sf0_ x (memI (i := 0) rfl)
  refine Gets.via (fun _ k => (XS.aloadN A0 hx rfl (D d1_0) rfl rfl (XS.aloadN A0 hx rfl (D d1_1) rfl rfl (XS.iconst A0 hx rfl (D d1_2) (XS.aloadN A0 hx rfl (D d1_3) rfl rfl k))))) ?_
  refine X0.alen Pr4 rfl rfl (D d1_4) ?_
  refine Gets.via (fun _ k => (XS.aconstNull A0 hx rfl (D d1_5) k)) ?_
  refine X0.callI (y := (⟨"java/lang/String", "<init>", "([CIILjava/lang/Void;)V"⟩ : MethodName)) (W := 0) rfl (w11 hw) (w12 hw) (w14 hw) (by decide) (X0.payM (sf := [x]) (rmU4_1 hcx x y ky c0 h0 X0.old Pr0 Pr1 Pr2 Pr3 Pr4 Pr5 Pr6) (sfS s3 sf0) (w14 hw) (w7 hw)) rfl (sz hml rfl) (a := x) (argsL := [(.ref y), (.int (0 : Int32)), (.int (1 : Int32)), .null]) (rest := []) (lenOf pd0 rfl) rfl rfl (mroom rfl rfl) (D d1_6) (by decide) (by decide) fun T4 h4 vm4 v4 X4 C4 z4 q4 => ?_
  obtain ⟨t4, kt4, rfl, K4, g4_0⟩ := q4
  have l5 := ltA g4_0.lt
  have l6 := ltA g4_0.lb
  show Gets p e below _ (T4.setTop (mkF m 9 #[vR x, vR y] []))
  exact X4.retV hret (D d1_9) (by decide) (by decide) (fun vmE CE => ⟨t4, kt4, rfl, ((Keep.refl h0 [x]).trans K4 (allS (Or.inl (memI (i := 0) rfl)) all0)), g4_0⟩)
abbrev RrmCmp2_0 : Room := { frames := 0, cells := 0, slots := 0, locals := 0 }
def QrmCmp2_0 (Z : State) (y : Addr) (d : Addr) (ky : ClassId) (kd : ClassId) (c0 : Int32) (c1 : Int32) (h0 : Heap) (v : Option Value) (vm : Vm) (h : Heap) : Prop := v = some (.int (0 : Int32)) ∧ Keep h0 h [d]
theorem rmCmp2_0 (hcx : Cx Z a0 zc fm) (y : Addr) (d : Addr) (ky : ClassId) (kd : ClassId) (c0 : Int32) (c1 : Int32) (h0 : Heap) (O0 : Old Z Z.heap.size h0) (Pr0 : Arv Z h0 y ky .char (2 : Int32) [(.int c0), (.int c1)] (.int (0 : Int32))) (Pr1 : Arv Z h0 d kd .byte (2 : Int32) [(.int (0 : Int32)), (.int (0 : Int32))] (.int (0 : Int32))) (Pr2 : Z.heap.size ≤ d) (Pr3 : y ≠ d) (Pr4 : (255 : Int32) < c0) : Met l Z consts_1 (⟨"java/lang/StringUTF16", "compress", "([CI[BII)I"⟩ : MethodName) jdk_52_method_21_code 7 (some .int) [] RrmCmp2_0 [d] #[(.ref y), (.int (0 : Int32)), (.ref d), (.int (0 : Int32)), (.int (2 : Int32))] h0 (QrmCmp2_0 Z y d ky kd c0 c1 h0) := by
  have ⟨hw, hEL, O2, P5, O4, P6, OA, OH, OB⟩ := hcx
  refine Met.start (a0 := a0) (Ls := #[vR y, vI (0 : Int32), vR d, vI (0 : Int32), vI (2 : Int32), .unset, .unset]) pn5 hEL O0 (fun m => by first | (simp [entryFrame, mkF, argsToLocals, Value.category]; done) | rfl) ?_
  intro p e s m below meth cc T0 vm0 X0 sf0_ D hml hret hnm hx zz A0
  have l1 := ltA Pr0.lt
  have l2 := ltA Pr1.lt
  have l3 := neA Pr3
  have s4 := sf0_ d (memI (i := 0) rfl)
  refine Gets.via (fun _ k => (XS.iconst A0 hx rfl (D d5_0) (XS.istore A0 hx rfl (D d5_1) rfl (l' := #[vR y, vI (0 : Int32), vR d, vI (0 : Int32), vI (2 : Int32), vI (0 : Int32), .unset]) rfl (XS.iload A0 hx rfl (D d5_3) rfl (XS.iload A0 hx rfl (D d5_5) rfl (XS.icmpNo A0 hx rfl (D d5_7) rfl (Jvm.Free.XT.ii_ge_f (by decide)) k)))))) ?_
  refine Gets.via (fun _ k => (XS.aloadN A0 hx rfl (D d5_10) rfl rfl (XS.iloadN A0 hx rfl (D d5_11) rfl k))) ?_
  refine X0.ldC Pr0 (i := 0) (by decide) (by decide) (by decide) rfl rfl rfl (D d5_12) ?_
  show Gets p e below _ (T0.setTop (mkF m 13 #[vR y, vI (0 : Int32), vR d, vI (0 : Int32), vI (2 : Int32), vI (0 : Int32), .unset] [(.int c0)]))
  refine Gets.via (fun _ k => (XS.istore A0 hx rfl (D d5_13) rfl (l' := #[vR y, vI (0 : Int32), vR d, vI (0 : Int32), vI (2 : Int32), vI (0 : Int32), vI c0]) rfl (XS.iload A0 hx rfl (D d5_15) rfl (XS.sipush A0 hx rfl (D d5_17) (XS.icmpNo A0 hx rfl (D d5_20) rfl (Jvm.Free.XT.ii_le_f Pr4) k))))) ?_
  refine Gets.via (fun _ k => (XS.iload A0 hx rfl (D d5_23) rfl k)) ?_
  exact X0.retI hret rfl (by simp) (D d5_25) (by decide) (by decide) (fun vmE CE => ⟨rfl, (Keep.refl h0 [d])⟩)
abbrev RrmCmp2_1 : Room := { frames := 0, cells := 0, slots := 0, locals := 0 }
def QrmCmp2_1 (Z : State) (y : Addr) (d : Addr) (ky : ClassId) (kd : ClassId) (c0 : Int32) (c1 : Int32) (h0 : Heap) (v : Option Value) (vm : Vm) (h : Heap) : Prop := v = some (.int (1 : Int32)) ∧ Keep h0 h [d]
theorem rmCmp2_1 (hcx : Cx Z a0 zc fm) (y : Addr) (d : Addr) (ky : ClassId) (kd : ClassId) (c0 : Int32) (c1 : Int32) (h0 : Heap) (O0 : Old Z Z.heap.size h0) (Pr0 : Arv Z h0 y ky .char (2 : Int32) [(.int c0), (.int c1)] (.int (0 : Int32))) (Pr1 : Arv Z h0 d kd .byte (2 : Int32) [(.int (0 : Int32)), (.int (0 : Int32))] (.int (0 : Int32))) (Pr2 : Z.heap.size ≤ d) (Pr3 : y ≠ d) (Pr4 : (255 : Int32) < c1) (Pr5 : ¬ (255 : Int32) < c0) : Met l Z consts_1 (⟨"java/lang/StringUTF16", "compress", "([CI[BII)I"⟩ : MethodName) jdk_52_method_21_code 7 (some .int) [] RrmCmp2_1 [d] #[(.ref y), (.int (0 : Int32)), (.ref d), (.int (0 : Int32)), (.int (2 : Int32))] h0 (QrmCmp2_1 Z y d ky kd c0 c1 h0) := by
  have ⟨hw, hEL, O2, P5, O4, P6, OA, OH, OB⟩ := hcx
  refine Met.start (a0 := a0) (Ls := #[vR y, vI (0 : Int32), vR d, vI (0 : Int32), vI (2 : Int32), .unset, .unset]) pn5 hEL O0 (fun m => by first | (simp [entryFrame, mkF, argsToLocals, Value.category]; done) | rfl) ?_
  intro p e s m below meth cc T0 vm0 X0 sf0_ D hml hret hnm hx zz A0
  have l1 := ltA Pr0.lt
  have l2 := ltA Pr1.lt
  have l3 := neA Pr3
  have s4 := sf0_ d (memI (i := 0) rfl)
  refine Gets.via (fun _ k => (XS.iconst A0 hx rfl (D d5_0) (XS.istore A0 hx rfl (D d5_1) rfl (l' := #[vR y, vI (0 : Int32), vR d, vI (0 : Int32), vI (2 : Int32), vI (0 : Int32), .unset]) rfl (XS.iload A0 hx rfl (D d5_3) rfl (XS.iload A0 hx rfl (D d5_5) rfl (XS.icmpNo A0 hx rfl (D d5_7) rfl (Jvm.Free.XT.ii_ge_f (by decide)) k)))))) ?_
  refine Gets.via (fun _ k => (XS.aloadN A0 hx rfl (D d5_10) rfl rfl (XS.iloadN A0 hx rfl (D d5_11) rfl k))) ?_
  refine X0.ldC Pr0 (i := 0) (by decide) (by decide) (by decide) rfl rfl rfl (D d5_12) ?_
  show Gets p e below _ (T0.setTop (mkF m 13 #[vR y, vI (0 : Int32), vR d, vI (0 : Int32), vI (2 : Int32), vI (0 : Int32), .unset] [(.int c0)]))
  refine Gets.via (fun _ k => (XS.istore A0 hx rfl (D d5_13) rfl (l' := #[vR y, vI (0 : Int32), vR d, vI (0 : Int32), vI (2 : Int32), vI (0 : Int32), vI c0]) rfl (XS.iload A0 hx rfl (D d5_15) rfl (XS.sipush A0 hx rfl (D d5_17) (XS.icmpYes A0 hx rfl (pc0 := 20) (pc' := 26) rfl (D d5_20) rfl (Jvm.Free.XT.ii_le_t Pr5) (by decide) (by decide) k))))) ?_
  refine Gets.via (fun _ k => (XS.aloadN A0 hx rfl (D d5_26) rfl rfl (XS.iloadN A0 hx rfl (D d5_27) rfl (XS.iload A0 hx rfl (D d5_28) rfl (XS.i2b A0 hx rfl (D d5_30) rfl k))))) ?_
  refine X0.stB Pr1 (i := 0) (by decide) (by decide) (Nat.le_of_ble_eq_true rfl) (by decide) (v := (nar .byte (c0.toInt8.toInt32))) rfl s4 (leA (by omega)) rfl rfl (D d5_31) fun T5 h5 X5 C5 K5 V5 => ?_
  have z5 := K5.1
  have V5_ : Arv Z h5 d kd .byte (2 : Int32) [(.int (nar .byte (c0.toInt8.toInt32))), (.int (0 : Int32))] (.int (0 : Int32)) := V5
  have A6 := X5.at
  refine Gets.via (fun _ k => (iincV A6 hx rfl (D d5_32) rfl (v := (1 : Int32)) (by decide) (l' := #[vR y, vI (1 : Int32), vR d, vI (0 : Int32), vI (2 : Int32), vI (0 : Int32), vI c0]) rfl (iincV A6 hx rfl (D d5_35) rfl (v := (1 : Int32)) (by decide) (l' := #[vR y, vI (1 : Int32), vR d, vI (1 : Int32), vI (2 : Int32), vI (0 : Int32), vI c0]) rfl (iincV A6 hx rfl (D d5_38) rfl (v := (1 : Int32)) (by decide) (l' := #[vR y, vI (1 : Int32), vR d, vI (1 : Int32), vI (2 : Int32), vI (1 : Int32), vI c0]) rfl (XS.goto A6 hx rfl (pc0 := 41) (pc' := 3) rfl (D d5_41) (by decide) (by decide) k))))) ?_
  show Gets p e below _ (T5.setTop (mkF m 3 #[vR y, vI (1 : Int32), vR d, vI (1 : Int32), vI (2 : Int32), vI (1 : Int32), vI c0] []))
  refine Gets.via (fun _ k => (XS.iload A6 hx rfl (D d5_3) rfl (XS.iload A6 hx rfl (D d5_5) rfl (XS.icmpNo A6 hx rfl (D d5_7) rfl (Jvm.Free.XT.ii_ge_f (by decide)) k)))) ?_
  refine Gets.via (fun _ k => (XS.aloadN A6 hx rfl (D d5_10) rfl rfl (XS.iloadN A6 hx rfl (D d5_11) rfl k))) ?_
  have f7 := Pr0.keep K5 (ninS (neA (by omega)) nin0)
  refine X5.ldC f7 (i := 1) (by decide) (by decide) (by decide) rfl rfl rfl (D d5_12) ?_
  refine Gets.via (fun _ k => (XS.istore A6 hx rfl (D d5_13) rfl (l' := #[vR y, vI (1 : Int32), vR d, vI (1 : Int32), vI (2 : Int32), vI (1 : Int32), vI c1]) rfl (XS.iload A6 hx rfl (D d5_15) rfl (XS.sipush A6 hx rfl (D d5_17) (XS.icmpNo A6 hx rfl (D d5_20) rfl (Jvm.Free.XT.ii_le_f Pr4) k))))) ?_
  show Gets p e below _ (T5.setTop (mkF m 23 #[vR y, vI (1 : Int32), vR d, vI (1 : Int32), vI (2 : Int32), vI (1 : Int32), vI c1] []))
  refine Gets.via (fun _ k => (XS.iload A6 hx rfl (D d5_23) rfl k)) ?_
  exact X5.retI hret rfl (by simp) (D d5_25) (by decide) (by decide) (fun vmE CE => ⟨rfl, ((Keep.refl h0 [d]).trans K5 (allS (Or.inl (memI (i := 0) rfl)) all0))⟩)
abbrev RrmNbl2 : Room := { frames := 0, cells := 0, slots := 0, locals := 0 }
def QrmNbl2 (Z : State)  (h0 : Heap) (v : Option Value) (vm : Vm) (h : Heap) : Prop := v = some (.int (4 : Int32)) ∧ h = h0
theorem rmNbl2 (hcx : Cx Z a0 zc fm)  (h0 : Heap) (O0 : Old Z Z.heap.size h0)  : Met l Z consts_1 (⟨"java/lang/StringUTF16", "newBytesLength", "(I)I"⟩ : MethodName) jdk_52_method_3_code 1 (some .int) [] RrmNbl2 [] #[(.int (2 : Int32))] h0 (QrmNbl2 Z  h0) := by
  have ⟨hw, hEL, O2, P5, O4, P6, OA, OH, OB⟩ := hcx
  refine Met.start (a0 := a0) (Ls := #[vI (2 : Int32)]) pn50 hEL O0 (fun m => by first | (simp [entryFrame, mkF, argsToLocals, Value.category]; done) | rfl) ?_
  intro p e s m below meth cc T0 vm0 X0 sf0_ D hml hret hnm hx zz A0
  refine Gets.via (fun _ k => (XS.iloadN A0 hx rfl (D d50_0) rfl (XS.ifYes A0 hx rfl (pc0 := 1) (pc' := 12) rfl (D d50_1) rfl (Jvm.Free.XT.i0_ge_t (by decide)) (by decide) (by decide) k))) ?_
  refine Gets.via (fun _ k => (XS.iloadN A0 hx rfl (D d50_12) rfl k)) ?_
  refine X0.ldcI (w257 hw) rfl (D d50_13) ?_
  refine Gets.via (fun _ k => (XS.icmpYes A0 hx rfl (pc0 := 15) (pc' := 55) rfl (D d50_15) rfl (Jvm.Free.XT.ii_lt_t (by decide)) (by decide) (by decide) k)) ?_
  refine Gets.via (fun _ k => (XS.iloadN A0 hx rfl (D d50_55) rfl (XS.iconst A0 hx rfl (D d50_56) (ishlV A0 hx rfl (D d50_57) rfl (v := (4 : Int32)) (by decide) k)))) ?_
  show Gets p e below _ (T0.setTop (mkF m 58 #[vI (2 : Int32)] [(.int (4 : Int32))]))
  exact X0.retI hret rfl (by simp) (D d50_58) (by decide) (by decide) (fun vmE CE => ⟨rfl, rfl⟩)
abbrev RrmNbf2 : Room := { frames := 1, cells := 1, slots := 4, locals := 12 }
def QrmNbf2 (Z : State)  (h0 : Heap) (v : Option Value) (vm : Vm) (h : Heap) : Prop := ∃ (t : Addr) (kt : ClassId), v = some (.ref t) ∧ Keep h0 h [] ∧ Arv Z h t kt .byte (4 : Int32) [] (.int (0 : Int32)) ∧ Safe Z consts_1 vm h t ∧ h0.size ≤ t
theorem rmNbf2 (hcx : Cx Z a0 zc fm)  (h0 : Heap) (O0 : Old Z Z.heap.size h0)  : Met l Z consts_1 (⟨"java/lang/StringUTF16", "newBytesFor", "(I)[B"⟩ : MethodName) jdk_52_method_2_code 1 (some (.array .byte)) [] RrmNbf2 [] #[(.int (2 : Int32))] h0 (QrmNbf2 Z  h0) := by
  have ⟨hw, hEL, O2, P5, O4, P6, OA, OH, OB⟩ := hcx
  refine Met.start (a0 := a0) (Ls := #[vI (2 : Int32)]) pn49 hEL O0 (fun m => by first | (simp [entryFrame, mkF, argsToLocals, Value.category]; done) | rfl) ?_
  intro p e s m below meth cc T0 vm0 X0 sf0_ D hml hret hnm hx zz A0
  refine Gets.via (fun _ k => (XS.iloadN A0 hx rfl (D d49_0) rfl k)) ?_
  refine X0.callS (W := 0) (w254 hw) (w255 hw) (w21 hw) (w256 hw) (by decide) (X0.payM (sf := []) (rmNbl2 hcx  h0 X0.old ) sf0 (w256 hw) (w21 hw)) rfl (sz hml rfl) (argsL := [(.int (2 : Int32))]) (rest := []) (lenOf pd6 rfl) rfl rfl (mroom rfl rfl) (D d49_1) (by decide) (by decide) fun T1 h1 vm1 v1 X1 C1 z1 q1 => ?_
  obtain ⟨rfl, K1⟩ := q1
  rw [K1] at X1 C1
  refine X1.newAB (w23 hw) rfl (D d49_4) rfl (by decide) (cap := 4) (by decide) (by decide) (by decide) (by decide) fun T2 h2 a2 k2 X2 C2 E2 g2 S2 V2 Z2 => ?_
  have z2 := E2.1
  have l2 := ltA V2.lt
  exact X2.retA hret rfl rfl rfl (D d49_6) (by decide) (by decide) (fun vmE CE => ⟨a2, k2, rfl, ((Keep.refl h0 []).ext E2), V2, CE.safe (x := a2) (ltA (by omega)) S2, (leA (by omega))⟩)
abbrev RrmTb2 : Room := { frames := 2, cells := 1, slots := 4, locals := 24 }
def QrmTb2 (Z : State) (y : Addr) (ky : ClassId) (c0 : Int32) (c1 : Int32) (h0 : Heap) (v : Option Value) (vm : Vm) (h : Heap) : Prop := ∃ (t : Addr) (kt : ClassId), v = some (.ref t) ∧ Keep h0 h [] ∧ Arv Z h t kt .byte (4 : Int32) (enc16 [c0, c1]) (.int (0 : Int32)) ∧ h0.size ≤ t
theorem rmTb2 (hcx : Cx Z a0 zc fm) (y : Addr) (ky : ClassId) (c0 : Int32) (c1 : Int32) (h0 : Heap) (O0 : Old Z Z.heap.size h0) (Pr0 : Arv Z h0 y ky .char (2 : Int32) [(.int c0), (.int c1)] (.int (0 : Int32))) : Met l Z consts_1 (⟨"java/lang/StringUTF16", "toBytes", "([CII)[B"⟩ : MethodName) jdk_52_method_14_code 5 (some (.array .byte)) [] RrmTb2 [] #[(.ref y), (.int (0 : Int32)), (.int (2 : Int32))] h0 (QrmTb2 Z y ky c0 c1 h0) := by
  have ⟨hw, hEL, O2, P5, O4, P6, OA, OH, OB⟩ := hcx
  refine Met.start (a0 := a0) (Ls := #[vR y, vI (0 : Int32), vI (2 : Int32), .unset, .unset]) pn48 hEL O0 (fun m => by first | (simp [entryFrame, mkF, argsToLocals, Value.category]; done) | rfl) ?_
  intro p e s m below meth cc T0 vm0 X0 sf0_ D hml hret hnm hx zz A0
  have l1 := ltA Pr0.lt
  refine Gets.via (fun _ k => (XS.iloadN A0 hx rfl (D d48_0) rfl k)) ?_
  refine X0.callS (W := 0) (w251 hw) (w252 hw) (w21 hw) (w253 hw) (by decide) (X0.payM (sf := []) (rmNbf2 hcx  h0 X0.old ) sf0 (w253 hw) (w21 hw)) rfl (sz hml rfl) (argsL := [(.int (2 : Int32))]) (rest := []) (lenOf pd7 rfl) rfl rfl (mroom rfl rfl) (D d48_1) (by decide) (by decide) fun T2 h2 vm2 v2 X2 C2 z2 q2 => ?_
  obtain ⟨t2, kt2, rfl, K2, g2_0, g2_1, g2_2⟩ := q2
  have l3 := ltA g2_0.lt
  have A4 := X2.at
  refine Gets.via (fun _ k => (XS.astoreN A4 hx rfl (D d48_4) rfl rfl (l' := #[vR y, vI (0 : Int32), vI (2 : Int32), vR t2, .unset]) rfl (XS.iconst A4 hx rfl (D d48_5) (XS.istore A4 hx rfl (D d48_6) rfl (l' := #[vR y, vI (0 : Int32), vI (2 : Int32), vR t2, vI (0 : Int32)]) rfl (XS.iload A4 hx rfl (D d48_8) rfl (XS.iloadN A4 hx rfl (D d48_10) rfl (XS.icmpNo A4 hx rfl (D d48_11) rfl (Jvm.Free.XT.ii_ge_f (by decide)) k))))))) ?_
  show Gets p e below _ (T2.setTop (mkF m 14 #[vR y, vI (0 : Int32), vI (2 : Int32), vR t2, vI (0 : Int32)] []))
  refine Gets.via (fun _ k => (XS.aloadN A4 hx rfl (D d48_14) rfl rfl (XS.iload A4 hx rfl (D d48_15) rfl (XS.aloadN A4 hx rfl (D d48_17) rfl rfl (XS.iloadN A4 hx rfl (D d48_18) rfl k))))) ?_
  have f5 := Pr0.keep K2 nin0
  refine X2.ldC f5 (i := 0) (by decide) (by decide) (by decide) rfl rfl rfl (D d48_19) ?_
  refine X2.callS (W := 0) (w234 hw) (w235 hw) (w21 hw) (w236 hw) (by decide) (X2.payM (sf := [t2]) (rmPutC hcx t2 0 c0 kt2 (4 : Int32) 4 [] h2 X2.old g2_0 rfl (by decide) rfl (by decide) (leA (by omega))) (sfS g2_1 sf0) (w236 hw) (w21 hw)) rfl (sz hml rfl) (argsL := [(.ref t2), (.int (0 : Int32)), (.int c0)]) (rest := []) (lenOf pd8 rfl) rfl rfl (mroom rfl rfl) (D d48_20) (by decide) (by decide) fun T6 h6 vm6 v6 X6 C6 z6 q6 => ?_
  obtain ⟨rfl, K6, g6_0⟩ := q6
  have l7 := ltA g6_0.lt
  have A8 := X6.at
  refine Gets.via (fun _ k => (iincV A8 hx rfl (D d48_23) rfl (v := (1 : Int32)) (by decide) (l' := #[vR y, vI (1 : Int32), vI (2 : Int32), vR t2, vI (0 : Int32)]) rfl (iincV A8 hx rfl (D d48_26) rfl (v := (1 : Int32)) (by decide) (l' := #[vR y, vI (1 : Int32), vI (2 : Int32), vR t2, vI (1 : Int32)]) rfl (XS.goto A8 hx rfl (pc0 := 29) (pc' := 8) rfl (D d48_29) (by decide) (by decide) k)))) ?_
  show Gets p e below _ (T6.setTop (mkF m 8 #[vR y, vI (1 : Int32), vI (2 : Int32), vR t2, vI (1 : Int32)] []))
  refine Gets.via (fun _ k => (XS.iload A8 hx rfl (D d48_8) rfl (XS.iloadN A8 hx rfl (D d48_10) rfl (XS.icmpNo A8 hx rfl (D d48_11) rfl (Jvm.Free.XT.ii_ge_f (by decide)) k)))) ?_
  refine Gets.via (fun _ k => (XS.aloadN A8 hx rfl (D d48_14) rfl rfl (XS.iload A8 hx rfl (D d48_15) rfl (XS.aloadN A8 hx rfl (D d48_17) rfl rfl (XS.iloadN A8 hx rfl (D d48_18) rfl k))))) ?_
  have f9 := f5.keep K6 (ninS (neA (by omega)) nin0)
  refine X6.ldC f9 (i := 1) (by decide) (by decide) (by decide) rfl rfl rfl (D d48_19) ?_
  have f10 := C6.safe (x := t2) (ltA (by omega)) g2_1
  refine X6.callS (W := 0) (w234 hw) (w235 hw) (w21 hw) (w236 hw) (by decide) (X6.payM (sf := [t2]) (rmPutC hcx t2 1 c1 kt2 (4 : Int32) 4 (([] ++ [(.int (c0.toInt8.toInt32))]) ++ [(.int ((c0 >>> ((8 : Int32) &&& (31 : Int32))).toInt8.toInt32))]) h6 X6.old g6_0 rfl (by decide) rfl (by decide) (leA (by omega))) (sfS f10 sf0) (w236 hw) (w21 hw)) rfl (sz hml rfl) (argsL := [(.ref t2), (.int (1 : Int32)), (.int c1)]) (rest := []) (lenOf pd8 rfl) rfl rfl (mroom rfl rfl) (D d48_20) (by decide) (by decide) fun T11 h11 vm11 v11 X11 C11 z11 q11 => ?_
  obtain ⟨rfl, K11, g11_0⟩ := q11
  have l12 := ltA g11_0.lt
  show Gets p e below _ (T11.setTop (mkF m 23 #[vR y, vI (1 : Int32), vI (2 : Int32), vR t2, vI (1 : Int32)] []))
  have A13 := X11.at
  refine Gets.via (fun _ k => (iincV A13 hx rfl (D d48_23) rfl (v := (2 : Int32)) (by decide) (l' := #[vR y, vI (2 : Int32), vI (2 : Int32), vR t2, vI (1 : Int32)]) rfl (iincV A13 hx rfl (D d48_26) rfl (v := (2 : Int32)) (by decide) (l' := #[vR y, vI (2 : Int32), vI (2 : Int32), vR t2, vI (2 : Int32)]) rfl (XS.goto A13 hx rfl (pc0 := 29) (pc' := 8) rfl (D d48_29) (by decide) (by decide) k)))) ?_
  refine Gets.via (fun _ k => (XS.iload A13 hx rfl (D d48_8) rfl (XS.iloadN A13 hx rfl (D d48_10) rfl (XS.icmpYes A13 hx rfl (pc0 := 11) (pc' := 32) rfl (D d48_11) rfl (Jvm.Free.XT.ii_ge_t (by decide)) (by decide) (by decide) k)))) ?_
  have f14 : Arv Z h11 t2 kt2 .byte (4 : Int32) (enc16 [c0, c1]) (.int (0 : Int32)) := encL2 c0 c1 ▸ g11_0
  refine Gets.via (fun _ k => (XS.aloadN A13 hx rfl (D d48_32) rfl rfl k)) ?_
  exact X11.retA hret rfl rfl rfl (D d48_33) (by decide) (by decide) (fun vmE CE => ⟨t2, kt2, rfl, ((((Keep.refl h0 []).trans K2 all0).trans K6 (allS (Or.inr (leA (by omega))) all0)).trans K11 (allS (Or.inr (leA (by omega))) all0)), f14, g2_2⟩)
abbrev RrmCps2 : Room := { frames := 3, cells := 2, slots := 6, locals := 40 }
def QrmCps2 (Z : State) (y : Addr) (ky : ClassId) (c0 : Int32) (c1 : Int32) (h0 : Heap) (v : Option Value) (vm : Vm) (h : Heap) : Prop := ∃ (t : Addr) (kt : ClassId), v = some (.ref t) ∧ Keep h0 h [] ∧ Arv Z h t kt .byte (4 : Int32) (enc16 [c0, c1]) (.int (0 : Int32)) ∧ h0.size ≤ t
theorem rmCps2 (hcx : Cx Z a0 zc fm) (y : Addr) (ky : ClassId) (c0 : Int32) (c1 : Int32) (h0 : Heap) (O0 : Old Z Z.heap.size h0) (Pr0 : Arv Z h0 y ky .char (2 : Int32) [(.int c0), (.int c1)] (.int (0 : Int32))) (Pr1 : (255 : Int32) < c0 ∨ (255 : Int32) < c1) (Pr2 : ¬ c0 < 0 ∧ ¬ (65535 : Int32) < c0) (Pr3 : ¬ c1 < 0 ∧ ¬ (65535 : Int32) < c1) : Met l Z consts_1 (⟨"java/lang/StringUTF16", "compress", "([CII)[B"⟩ : MethodName) jdk_52_method_16_code 6 (some (.array .byte)) [] RrmCps2 [] #[(.ref y), (.int (0 : Int32)), (.int (2 : Int32))] h0 (QrmCps2 Z y ky c0 c1 h0) := by
  have ⟨hw, hEL, O2, P5, O4, P6, OA, OH, OB⟩ := hcx
  refine Met.start (a0 := a0) (Ls := #[vR y, vI (0 : Int32), vI (2 : Int32), .unset, .unset, .unset]) pn4 hEL O0 (fun m => by first | (simp [entryFrame, mkF, argsToLocals, Value.category]; done) | rfl) ?_
  intro p e s m below meth cc T0 vm0 X0 sf0_ D hml hret hnm hx zz A0
  have l1 := ltA Pr0.lt
  have hR : ∀ z_ ∈ [c0, c1], ¬ z_ < 0 ∧ ¬ (65535 : Int32) < z_ := allI Pr2 (allI Pr3 (allN))
  rcases fst2 Pr1 with w0 | ⟨n0, w1⟩
  · skip
    refine Gets.via (fun _ k => (XS.iloadN A0 hx rfl (D d4_0) rfl k)) ?_
    refine X0.newAB (w23 hw) rfl (D d4_1) rfl (by decide) (cap := 2) (by decide) (by decide) (by decide) (by decide) fun T2 h2 a2 k2 X2 C2 E2 g2 S2 V2 Z2 => ?_
    have z2 := E2.1
    have l2 := ltA V2.lt
    have V2_ : Arv Z h2 a2 k2 .byte (2 : Int32) [(.int (0 : Int32)), (.int (0 : Int32))] (.int (0 : Int32)) := padN V2 2
    have A3 := X2.at
    refine Gets.via (fun _ k => (XS.astoreN A3 hx rfl (D d4_3) rfl rfl (l' := #[vR y, vI (0 : Int32), vI (2 : Int32), vR a2, .unset, .unset]) rfl (XS.aloadN A3 hx rfl (D d4_4) rfl rfl (XS.iloadN A3 hx rfl (D d4_5) rfl (XS.aloadN A3 hx rfl (D d4_6) rfl rfl (XS.iconst A3 hx rfl (D d4_7) (XS.iloadN A3 hx rfl (D d4_8) rfl k))))))) ?_
    show Gets p e below _ (T2.setTop (mkF m 9 #[vR y, vI (0 : Int32), vI (2 : Int32), vR a2, .unset, .unset] [(.int (2 : Int32)), (.int (0 : Int32)), (.ref a2), (.int (0 : Int32)), (.ref y)]))
    have f4 := Pr0.ext E2
    refine X2.callS (W := 0) (w24 hw) (w25 hw) (w21 hw) (w26 hw) (by decide) (X2.payM (sf := [a2]) (rmCmp2_0 hcx y a2 ky k2 c0 c1 h2 X2.old f4 V2_ (leA (by omega)) (neA (by omega)) w0) (sfS S2 sf0) (w26 hw) (w21 hw)) rfl (sz hml rfl) (argsL := [(.ref y), (.int (0 : Int32)), (.ref a2), (.int (0 : Int32)), (.int (2 : Int32))]) (rest := []) (lenOf pd5 rfl) rfl rfl (mroom rfl rfl) (D d4_9) (by decide) (by decide) fun T5 h5 vm5 v5 X5 C5 z5 q5 => ?_
    obtain ⟨rfl, K5⟩ := q5
    have A6 := X5.at
    refine Gets.via (fun _ k => (XS.istore A6 hx rfl (D d4_12) rfl (l' := #[vR y, vI (0 : Int32), vI (2 : Int32), vR a2, vI (0 : Int32), .unset]) rfl (XS.iload A6 hx rfl (D d4_14) rfl (XS.iloadN A6 hx rfl (D d4_16) rfl (XS.icmpNo A6 hx rfl (D d4_17) rfl (Jvm.Free.XT.ii_eq_f (by decide)) k))))) ?_
    refine Gets.via (fun _ k => (XS.aloadN A6 hx rfl (D d4_20) rfl rfl (XS.iloadN A6 hx rfl (D d4_21) rfl (XS.iloadN A6 hx rfl (D d4_22) rfl k)))) ?_
    have f7 := f4.keep K5 (ninS (neA (by omega)) nin0)
    refine X5.callS (W := 0) (w248 hw) (w249 hw) (w21 hw) (w250 hw) (by decide) (X5.payM (sf := []) (rmTb2 hcx y ky c0 c1 h5 X5.old f7) sf0 (w250 hw) (w21 hw)) rfl (sz hml rfl) (argsL := [(.ref y), (.int (0 : Int32)), (.int (2 : Int32))]) (rest := []) (lenOf pd9 rfl) rfl rfl (mroom rfl rfl) (D d4_23) (by decide) (by decide) fun T8 h8 vm8 v8 X8 C8 z8 q8 => ?_
    obtain ⟨t8, kt8, rfl, K8, g8_0, g8_1⟩ := q8
    have l9 := ltA g8_0.lt
    show Gets p e below _ (T8.setTop (mkF m 26 #[vR y, vI (0 : Int32), vI (2 : Int32), vR a2, vI (0 : Int32), .unset] [(.ref t8)]))
    have A10 := X8.at
    refine Gets.via (fun _ k => (XS.astore A10 hx rfl (D d4_26) rfl rfl (l' := #[vR y, vI (0 : Int32), vI (2 : Int32), vR a2, vI (0 : Int32), vR t8]) rfl (XS.aload A10 hx rfl (D d4_28) rfl rfl (XS.iload A10 hx rfl (D d4_30) rfl k)))) ?_
    refine X8.callS (W := 0) (w258 hw) (w259 hw) (w21 hw) (w260 hw) (by decide) (X8.payM (sf := []) (rmGetC hcx t8 0 kt8 (4 : Int32) 4 [c0, c1] h8 X8.old g8_0 rfl (by decide) (by first | exact Nat.le_of_ble_eq_true rfl | omega) (by first | exact Nat.le_of_ble_eq_true rfl | omega) hR) sf0 (w260 hw) (w21 hw)) rfl (sz hml rfl) (argsL := [(.ref t8), (.int (0 : Int32))]) (rest := []) (lenOf pd10 rfl) rfl rfl (mroom rfl rfl) (D d4_32) (by decide) (by decide) fun T11 h11 vm11 v11 X11 C11 z11 q11 => ?_
    obtain ⟨rfl, K11⟩ := q11
    rw [K11] at X11 C11
    have A12 := X11.at
    refine Gets.via (fun _ k => (XS.sipush A12 hx rfl (D d4_35) (XS.icmpYes A12 hx rfl (pc0 := 38) (pc' := 54) rfl (D d4_38) rfl (Jvm.Free.XT.ii_gt_t w0) (by decide) (by decide) k))) ?_
    refine Gets.via (fun _ k => (XS.aload A12 hx rfl (D d4_54) rfl rfl k)) ?_
    exact X11.retA hret rfl rfl rfl (D d4_56) (by decide) (by decide) (fun vmE CE => ⟨t8, kt8, rfl, ((((Keep.refl h0 []).ext E2).trans K5 (allS (Or.inr (leA (by omega))) all0)).trans K8 all0), g8_0, (leA (by omega))⟩)
  · skip
    refine Gets.via (fun _ k => (XS.iloadN A0 hx rfl (D d4_0) rfl k)) ?_
    refine X0.newAB (w23 hw) rfl (D d4_1) rfl (by decide) (cap := 2) (by decide) (by decide) (by decide) (by decide) fun T13 h13 a13 k13 X13 C13 E13 g13 S13 V13 Z13 => ?_
    have z13 := E13.1
    have l13 := ltA V13.lt
    have V13_ : Arv Z h13 a13 k13 .byte (2 : Int32) [(.int (0 : Int32)), (.int (0 : Int32))] (.int (0 : Int32)) := padN V13 2
    show Gets p e below _ (T13.setTop (mkF m 3 #[vR y, vI (0 : Int32), vI (2 : Int32), .unset, .unset, .unset] [(.ref a13)]))
    have A14 := X13.at
    refine Gets.via (fun _ k => (XS.astoreN A14 hx rfl (D d4_3) rfl rfl (l' := #[vR y, vI (0 : Int32), vI (2 : Int32), vR a13, .unset, .unset]) rfl (XS.aloadN A14 hx rfl (D d4_4) rfl rfl (XS.iloadN A14 hx rfl (D d4_5) rfl (XS.aloadN A14 hx rfl (D d4_6) rfl rfl (XS.iconst A14 hx rfl (D d4_7) (XS.iloadN A14 hx rfl (D d4_8) rfl k))))))) ?_
    have f15 := Pr0.ext E13
    refine X13.callS (W := 0) (w24 hw) (w25 hw) (w21 hw) (w26 hw) (by decide) (X13.payM (sf := [a13]) (rmCmp2_1 hcx y a13 ky k13 c0 c1 h13 X13.old f15 V13_ (leA (by omega)) (neA (by omega)) w1 n0) (sfS S13 sf0) (w26 hw) (w21 hw)) rfl (sz hml rfl) (argsL := [(.ref y), (.int (0 : Int32)), (.ref a13), (.int (0 : Int32)), (.int (2 : Int32))]) (rest := []) (lenOf pd5 rfl) rfl rfl (mroom rfl rfl) (D d4_9) (by decide) (by decide) fun T16 h16 vm16 v16 X16 C16 z16 q16 => ?_
    obtain ⟨rfl, K16⟩ := q16
    have A17 := X16.at
    refine Gets.via (fun _ k => (XS.istore A17 hx rfl (D d4_12) rfl (l' := #[vR y, vI (0 : Int32), vI (2 : Int32), vR a13, vI (1 : Int32), .unset]) rfl (XS.iload A17 hx rfl (D d4_14) rfl (XS.iloadN A17 hx rfl (D d4_16) rfl (XS.icmpNo A17 hx rfl (D d4_17) rfl (Jvm.Free.XT.ii_eq_f (by decide)) k))))) ?_
    show Gets p e below _ (T16.setTop (mkF m 20 #[vR y, vI (0 : Int32), vI (2 : Int32), vR a13, vI (1 : Int32), .unset] []))
    refine Gets.via (fun _ k => (XS.aloadN A17 hx rfl (D d4_20) rfl rfl (XS.iloadN A17 hx rfl (D d4_21) rfl (XS.iloadN A17 hx rfl (D d4_22) rfl k)))) ?_
    have f18 := f15.keep K16 (ninS (neA (by omega)) nin0)
    refine X16.callS (W := 0) (w248 hw) (w249 hw) (w21 hw) (w250 hw) (by decide) (X16.payM (sf := []) (rmTb2 hcx y ky c0 c1 h16 X16.old f18) sf0 (w250 hw) (w21 hw)) rfl (sz hml rfl) (argsL := [(.ref y), (.int (0 : Int32)), (.int (2 : Int32))]) (rest := []) (lenOf pd9 rfl) rfl rfl (mroom rfl rfl) (D d4_23) (by decide) (by decide) fun T19 h19 vm19 v19 X19 C19 z19 q19 => ?_
    obtain ⟨t19, kt19, rfl, K19, g19_0, g19_1⟩ := q19
    have l20 := ltA g19_0.lt
    have A21 := X19.at
    refine Gets.via (fun _ k => (XS.astore A21 hx rfl (D d4_26) rfl rfl (l' := #[vR y, vI (0 : Int32), vI (2 : Int32), vR a13, vI (1 : Int32), vR t19]) rfl (XS.aload A21 hx rfl (D d4_28) rfl rfl (XS.iload A21 hx rfl (D d4_30) rfl k)))) ?_
    refine X19.callS (W := 0) (w258 hw) (w259 hw) (w21 hw) (w260 hw) (by decide) (X19.payM (sf := []) (rmGetC hcx t19 1 kt19 (4 : Int32) 4 [c0, c1] h19 X19.old g19_0 rfl (by decide) (by first | exact Nat.le_of_ble_eq_true rfl | omega) (by first | exact Nat.le_of_ble_eq_true rfl | omega) hR) sf0 (w260 hw) (w21 hw)) rfl (sz hml rfl) (argsL := [(.ref t19), (.int (1 : Int32))]) (rest := []) (lenOf pd10 rfl) rfl rfl (mroom rfl rfl) (D d4_32) (by decide) (by decide) fun T22 h22 vm22 v22 X22 C22 z22 q22 => ?_
    obtain ⟨rfl, K22⟩ := q22
    rw [K22] at X22 C22
    show Gets p e below _ (T22.setTop (mkF m 35 #[vR y, vI (0 : Int32), vI (2 : Int32), vR a13, vI (1 : Int32), vR t19] [(.int ([c0, c1].getD 1 0))]))
    have A23 := X22.at
    refine Gets.via (fun _ k => (XS.sipush A23 hx rfl (D d4_35) (XS.icmpYes A23 hx rfl (pc0 := 38) (pc' := 54) rfl (D d4_38) rfl (Jvm.Free.XT.ii_gt_t w1) (by decide) (by decide) k))) ?_
    refine Gets.via (fun _ k => (XS.aload A23 hx rfl (D d4_54) rfl rfl k)) ?_
    exact X22.retA hret rfl rfl rfl (D d4_56) (by decide) (by decide) (fun vmE CE => ⟨t19, kt19, rfl, ((((Keep.refl h0 []).ext E13).trans K16 (allS (Or.inr (leA (by omega))) all0)).trans K19 all0), g19_0, (leA (by omega))⟩)
abbrev RrmCfl2 : Room := { frames := 0, cells := 0, slots := 0, locals := 0 }
def QrmCfl2 (Z : State) (t : Addr) (kt : ClassId) (vs : List Value) (h0 : Heap) (v : Option Value) (vm : Vm) (h : Heap) : Prop := v = some (.int (1 : Int32)) ∧ h = h0
theorem rmCfl2 (hcx : Cx Z a0 zc fm) (t : Addr) (kt : ClassId) (vs : List Value) (h0 : Heap) (O0 : Old Z Z.heap.size h0) (Pr0 : Arv Z h0 t kt .byte (4 : Int32) vs (.int (0 : Int32))) : Met l Z consts_1 (⟨"java/lang/StringUTF16", "coderFromArrayLen", "([BI)B"⟩ : MethodName) jdk_52_method_15_code 2 (some .byte) [] RrmCfl2 [] #[(.ref t), (.int (2 : Int32))] h0 (QrmCfl2 Z t kt vs h0) := by
  have ⟨hw, hEL, O2, P5, O4, P6, OA, OH, OB⟩ := hcx
  refine Met.start (a0 := a0) (Ls := #[vR t, vI (2 : Int32)]) pn6 hEL O0 (fun m => by first | (simp [entryFrame, mkF, argsToLocals, Value.category]; done) | rfl) ?_
  intro p e s m below meth cc T0 vm0 X0 sf0_ D hml hret hnm hx zz A0
  have l1 := ltA Pr0.lt
  refine Gets.via (fun _ k => (XS.iloadN A0 hx rfl (D d6_0) rfl (XS.aloadN A0 hx rfl (D d6_1) rfl rfl k))) ?_
  refine X0.alen Pr0 rfl rfl (D d6_2) ?_
  refine Gets.via (fun _ k => (isubV A0 hx rfl (D d6_3) rfl (v := (-2 : Int32)) (by decide) (XS.bipush A0 hx rfl (D d6_4) (iushrV A0 hx rfl (D d6_6) rfl (v := (1 : Int32)) (by decide) (i2bV A0 hx rfl (D d6_7) rfl (v := (1 : Int32)) (by decide) k))))) ?_
  show Gets p e below _ (T0.setTop (mkF m 8 #[vR t, vI (2 : Int32)] [(.int (1 : Int32))]))
  exact X0.retI hret (by decide) (by simp) (D d6_8) (by decide) (by decide) (fun vmE CE => ⟨rfl, rfl⟩)
abbrev RrmU4_2 : Room := { frames := 4, cells := 2, slots := 6, locals := 57 }
def QrmU4_2 (Z : State) (x : Addr) (y : Addr) (ky : ClassId) (c0 : Int32) (c1 : Int32) (h0 : Heap) (v : Option Value) (vm : Vm) (h : Heap) : Prop := ∃ (t : Addr) (kt : ClassId), v = none ∧ Keep h0 h [x] ∧ StrU Z h x t kt [c0, c1]
theorem rmU4_2 (hcx : Cx Z a0 zc fm) (x : Addr) (y : Addr) (ky : ClassId) (c0 : Int32) (c1 : Int32) (h0 : Heap) (O0 : Old Z Z.heap.size h0) (Pr0 : Exa Z h0 x "java/lang/String") (Pr1 : Fld Z h0 x "java/lang/String" "coder" "B" (.int (0 : Int32))) (Pr2 : Fld Z h0 x "java/lang/String" "value" "[B" .null) (Pr3 : Z.heap.size ≤ x) (Pr4 : Arv Z h0 y ky .char (2 : Int32) [(.int c0), (.int c1)] (.int (0 : Int32))) (Pr5 : (255 : Int32) < c0 ∨ (255 : Int32) < c1) (Pr6 : ¬ c0 < 0 ∧ ¬ (65535 : Int32) < c0) (Pr7 : ¬ c1 < 0 ∧ ¬ (65535 : Int32) < c1) : Met l Z consts_1 (⟨"java/lang/String", "<init>", "([CIILjava/lang/Void;)V"⟩ : MethodName) jdk_42_method_149_code 6 (none) [] RrmU4_2 [x] #[(.ref x), (.ref y), (.int (0 : Int32)), (.int (2 : Int32)), .null] h0 (QrmU4_2 Z x y ky c0 c1 h0) := by
  have ⟨hw, hEL, O2, P5, O4, P6, OA, OH, OB⟩ := hcx
  refine Met.start (a0 := a0) (Ls := #[vR x, vR y, vI (0 : Int32), vI (2 : Int32), .val .null, .unset]) pn2 hEL O0 (fun m => by first | (simp [entryFrame, mkF, argsToLocals, Value.category]; done) | rfl) ?_
  intro p e s m below meth cc T0 vm0 X0 sf0_ D hml hret hnm hx zz A0
  have l1 := ltA Pr0.lt
  have l2 := ltA Pr4.lt
  have s3 := sf0_ x (memI (i := 0) rfl)
  refine Gets.via (fun _ k => (XS.aloadN A0 hx rfl (D d2_0) rfl rfl k)) ?_
  refine X0.objInit (w15 hw) (w16 hw) (w17 hw) rfl (sz hml rfl) rfl (D d2_1) (by decide) (W := 0) (mroom rfl rfl) (by decide) fun T4 X4 => ?_
  have A5 := X4.at
  refine Gets.via (fun _ k => (XS.iloadN A5 hx rfl (D d2_4) rfl (XS.ifYes A5 hx rfl (pc0 := 5) (pc' := 27) rfl (D d2_5) rfl (Jvm.Free.XT.i0_ne_t (by decide)) (by decide) (by decide) k))) ?_
  refine X4.getS (host := "") (Or.inl (w18 hw)) Via.refl (X4.sta O2) rfl (D d2_27) fun T6 X6 => ?_
  show Gets p e below _ (T6.setTop (mkF m 30 #[vR x, vR y, vI (0 : Int32), vI (2 : Int32), .val .null, .unset] [(.int zc)]))
  have A7 := X6.at
  refine Gets.via (fun _ k => (XS.ifNo A7 hx rfl (D d2_30) rfl (Jvm.Free.XT.i0_eq_f P5) k)) ?_
  refine Gets.via (fun _ k => (XS.aloadN A7 hx rfl (D d2_33) rfl rfl (XS.iloadN A7 hx rfl (D d2_34) rfl (XS.iloadN A7 hx rfl (D d2_35) rfl k)))) ?_
  refine X6.callS (W := 0) (w19 hw) (w20 hw) (w21 hw) (w22 hw) (by decide) (X6.payM (sf := []) (rmCps2 hcx y ky c0 c1 h0 X6.old Pr4 Pr5 Pr6 Pr7) sf0 (w22 hw) (w21 hw)) rfl (sz hml rfl) (argsL := [(.ref y), (.int (0 : Int32)), (.int (2 : Int32))]) (rest := []) (lenOf pd9 rfl) rfl rfl (mroom rfl rfl) (D d2_36) (by decide) (by decide) fun T8 h8 vm8 v8 X8 C8 z8 q8 => ?_
  obtain ⟨t8, kt8, rfl, K8, g8_0, g8_1⟩ := q8
  have l9 := ltA g8_0.lt
  have A10 := X8.at
  refine Gets.via (fun _ k => (XS.astore A10 hx rfl (D d2_39) rfl rfl (l' := #[vR x, vR y, vI (0 : Int32), vI (2 : Int32), .val .null, vR t8]) rfl (XS.aloadN A10 hx rfl (D d2_41) rfl rfl (XS.aload A10 hx rfl (D d2_42) rfl rfl (XS.iloadN A10 hx rfl (D d2_44) rfl k))))) ?_
  refine X8.callS (W := 1) (w27 hw) (w28 hw) (w21 hw) (w29 hw) (by decide) (X8.payM (sf := []) (rmCfl2 hcx t8 kt8 (enc16 [c0, c1]) h8 X8.old g8_0) sf0 (w29 hw) (w21 hw)) rfl (sz hml rfl) (argsL := [(.ref t8), (.int (2 : Int32))]) (rest := [(.ref x)]) (lenOf pd11 rfl) rfl rfl (mroom rfl rfl) (D d2_45) (by decide) (by decide) fun T11 h11 vm11 v11 X11 C11 z11 q11 => ?_
  obtain ⟨rfl, K11⟩ := q11
  rw [K11] at X11 C11
  show Gets p e below _ (T11.setTop (mkF m 48 #[vR x, vR y, vI (0 : Int32), vI (2 : Int32), .val .null, vR t8] [(.int (1 : Int32)), (.ref x)]))
  have f13 := Pr1.keep K8 nin0
  have f14 := Pr0.keep K8
  have f15 := C8.safe (x := x) (ltA (by omega)) s3
  have f16 := C11.safe (x := x) (ltA (by omega)) f15
  refine X11.putF (host := "") (Or.inl (w30 hw)) Via.refl f13 f14 (Or.inr ⟨(w31 hw), rfl, hnm⟩) (w6 hw) (ty := .byte) (by decide) (by decide) (by decide) (leA (by omega)) f16 rfl rfl (D d2_48) fun T12 h12 X12 C12 W12 F12 Z12 => ?_
  have z12 := W12.size
  have A17 := X12.at
  refine Gets.via (fun _ k => (XS.aloadN A17 hx rfl (D d2_51) rfl rfl (XS.aload A17 hx rfl (D d2_52) rfl rfl k))) ?_
  have f19 := Pr2.keep K8 nin0
  have f20 := f19.other W12 (Or.inr (slot_ne (t := (.array .byte)) (t' := .byte) (Or.inr (w33 hw)) (Or.inr (w31 hw)) (by decide) (by decide) (by decide)))
  have f21 := C12.safe (x := x) (ltA (by omega)) f16
  refine X12.putF (host := "") (Or.inl (w32 hw)) Via.refl f20 Z12 (Or.inr ⟨(w33 hw), rfl, hnm⟩) (w6 hw) (ty := (.array .byte)) (by decide) rfl rfl (leA (by omega)) f21 rfl rfl (D d2_54) fun T18 h18 X18 C18 W18 F18 Z18 => ?_
  have z18 := W18.size
  have f22 := F12.other W18 (Or.inr (slot_ne (t := .byte) (t' := (.array .byte)) (Or.inr (w31 hw)) (Or.inr (w33 hw)) (by decide) (by decide) (by decide)))
  have f23 := g8_0.other W12 (neA (by omega))
  have f24 := f23.other W18 (neA (by omega))
  have SU : StrU Z h18 x t8 kt8 [c0, c1] := ⟨Z18, f22, F18, f24, allI Pr6 (allI Pr7 (allN)), Nat.le_of_ble_eq_true rfl⟩
  exact X18.retV hret (D d2_57) (by decide) (by decide) (fun vmE CE => ⟨t8, kt8, rfl, ((((Keep.refl h0 [x]).trans K8 all0).wr W12 (Or.inl (memI (i := 0) rfl))).wr W18 (Or.inl (memI (i := 0) rfl))), SU⟩)
abbrev RrmU1_2 : Room := { frames := 5, cells := 2, slots := 6, locals := 74 }
def QrmU1_2 (Z : State) (x : Addr) (y : Addr) (ky : ClassId) (c0 : Int32) (c1 : Int32) (h0 : Heap) (v : Option Value) (vm : Vm) (h : Heap) : Prop := ∃ (t : Addr) (kt : ClassId), v = none ∧ Keep h0 h [x] ∧ StrU Z h x t kt [c0, c1]
theorem rmU1_2 (hcx : Cx Z a0 zc fm) (x : Addr) (y : Addr) (ky : ClassId) (c0 : Int32) (c1 : Int32) (h0 : Heap) (O0 : Old Z Z.heap.size h0) (Pr0 : Exa Z h0 x "java/lang/String") (Pr1 : Fld Z h0 x "java/lang/String" "coder" "B" (.int (0 : Int32))) (Pr2 : Fld Z h0 x "java/lang/String" "value" "[B" .null) (Pr3 : Z.heap.size ≤ x) (Pr4 : Arv Z h0 y ky .char (2 : Int32) [(.int c0), (.int c1)] (.int (0 : Int32))) (Pr5 : (255 : Int32) < c0 ∨ (255 : Int32) < c1) (Pr6 : ¬ c0 < 0 ∧ ¬ (65535 : Int32) < c0) (Pr7 : ¬ c1 < 0 ∧ ¬ (65535 : Int32) < c1) : Met l Z consts_1 (⟨"java/lang/String", "<init>", "([C)V"⟩ : MethodName) jdk_42_method_3_code 2 (none) [] RrmU1_2 [x] #[(.ref x), (.ref y)] h0 (QrmU1_2 Z x y ky c0 c1 h0) := by
  have ⟨hw, hEL, O2, P5, O4, P6, OA, OH, OB⟩ := hcx
  refine Met.start (a0 := a0) (Ls := #[vR x, vR y]) pn1 hEL O0 (fun m => by first | (simp [entryFrame, mkF, argsToLocals, Value.category]; done) | rfl) ?_
  intro p e s m below meth cc T0 vm0 X0 sf0_ D hml hret hnm hx zz A0
  have l1 := ltA Pr0.lt
  have l2 := ltA Pr4.lt
  have s3 := sf0_ x (memI (i := 0) rfl)
  refine Gets.via (fun _ k => (XS.aloadN A0 hx rfl (D d1_0) rfl rfl (XS.aloadN A0 hx rfl (D d1_1) rfl rfl (XS.iconst A0 hx rfl (D d1_2) (XS.aloadN A0 hx rfl (D d1_3) rfl rfl k))))) ?_
  refine X0.alen Pr4 rfl rfl (D d1_4) ?_
  refine Gets.via (fun _ k => (XS.aconstNull A0 hx rfl (D d1_5) k)) ?_
  refine X0.callI (y := (⟨"java/lang/String", "<init>", "([CIILjava/lang/Void;)V"⟩ : MethodName)) (W := 0) rfl (w11 hw) (w12 hw) (w14 hw) (by decide) (X0.payM (sf := [x]) (rmU4_2 hcx x y ky c0 c1 h0 X0.old Pr0 Pr1 Pr2 Pr3 Pr4 Pr5 Pr6 Pr7) (sfS s3 sf0) (w14 hw) (w7 hw)) rfl (sz hml rfl) (a := x) (argsL := [(.ref y), (.int (0 : Int32)), (.int (2 : Int32)), .null]) (rest := []) (lenOf pd0 rfl) rfl rfl (mroom rfl rfl) (D d1_6) (by decide) (by decide) fun T4 h4 vm4 v4 X4 C4 z4 q4 => ?_
  obtain ⟨t4, kt4, rfl, K4, g4_0⟩ := q4
  have l5 := ltA g4_0.lt
  have l6 := ltA g4_0.lb
  show Gets p e below _ (T4.setTop (mkF m 9 #[vR x, vR y] []))
  exact X4.retV hret (D d1_9) (by decide) (by decide) (fun vmE CE => ⟨t4, kt4, rfl, ((Keep.refl h0 [x]).trans K4 (allS (Or.inl (memI (i := 0) rfl)) all0)), g4_0⟩)
abbrev RrmCmp3_0 : Room := { frames := 0, cells := 0, slots := 0, locals := 0 }
def QrmCmp3_0 (Z : State) (y : Addr) (d : Addr) (ky : ClassId) (kd : ClassId) (c0 : Int32) (c1 : Int32) (c2 : Int32) (h0 : Heap) (v : Option Value) (vm : Vm) (h : Heap) : Prop := v = some (.int (0 : Int32)) ∧ Keep h0 h [d]
theorem rmCmp3_0 (hcx : Cx Z a0 zc fm) (y : Addr) (d : Addr) (ky : ClassId) (kd : ClassId) (c0 : Int32) (c1 : Int32) (c2 : Int32) (h0 : Heap) (O0 : Old Z Z.heap.size h0) (Pr0 : Arv Z h0 y ky .char (3 : Int32) [(.int c0), (.int c1), (.int c2)] (.int (0 : Int32))) (Pr1 : Arv Z h0 d kd .byte (3 : Int32) [(.int (0 : Int32)), (.int (0 : Int32)), (.int (0 : Int32))] (.int (0 : Int32))) (Pr2 : Z.heap.size ≤ d) (Pr3 : y ≠ d) (Pr4 : (255 : Int32) < c0) : Met l Z consts_1 (⟨"java/lang/StringUTF16", "compress", "([CI[BII)I"⟩ : MethodName) jdk_52_method_21_code 7 (some .int) [] RrmCmp3_0 [d] #[(.ref y), (.int (0 : Int32)), (.ref d), (.int (0 : Int32)), (.int (3 : Int32))] h0 (QrmCmp3_0 Z y d ky kd c0 c1 c2 h0) := by
  have ⟨hw, hEL, O2, P5, O4, P6, OA, OH, OB⟩ := hcx
  refine Met.start (a0 := a0) (Ls := #[vR y, vI (0 : Int32), vR d, vI (0 : Int32), vI (3 : Int32), .unset, .unset]) pn5 hEL O0 (fun m => by first | (simp [entryFrame, mkF, argsToLocals, Value.category]; done) | rfl) ?_
  intro p e s m below meth cc T0 vm0 X0 sf0_ D hml hret hnm hx zz A0
  have l1 := ltA Pr0.lt
  have l2 := ltA Pr1.lt
  have l3 := neA Pr3
  have s4 := sf0_ d (memI (i := 0) rfl)
  refine Gets.via (fun _ k => (XS.iconst A0 hx rfl (D d5_0) (XS.istore A0 hx rfl (D d5_1) rfl (l' := #[vR y, vI (0 : Int32), vR d, vI (0 : Int32), vI (3 : Int32), vI (0 : Int32), .unset]) rfl (XS.iload A0 hx rfl (D d5_3) rfl (XS.iload A0 hx rfl (D d5_5) rfl (XS.icmpNo A0 hx rfl (D d5_7) rfl (Jvm.Free.XT.ii_ge_f (by decide)) k)))))) ?_
  refine Gets.via (fun _ k => (XS.aloadN A0 hx rfl (D d5_10) rfl rfl (XS.iloadN A0 hx rfl (D d5_11) rfl k))) ?_
  refine X0.ldC Pr0 (i := 0) (by decide) (by decide) (by decide) rfl rfl rfl (D d5_12) ?_
  show Gets p e below _ (T0.setTop (mkF m 13 #[vR y, vI (0 : Int32), vR d, vI (0 : Int32), vI (3 : Int32), vI (0 : Int32), .unset] [(.int c0)]))
  refine Gets.via (fun _ k => (XS.istore A0 hx rfl (D d5_13) rfl (l' := #[vR y, vI (0 : Int32), vR d, vI (0 : Int32), vI (3 : Int32), vI (0 : Int32), vI c0]) rfl (XS.iload A0 hx rfl (D d5_15) rfl (XS.sipush A0 hx rfl (D d5_17) (XS.icmpNo A0 hx rfl (D d5_20) rfl (Jvm.Free.XT.ii_le_f Pr4) k))))) ?_
  refine Gets.via (fun _ k => (XS.iload A0 hx rfl (D d5_23) rfl k)) ?_
  exact X0.retI hret rfl (by simp) (D d5_25) (by decide) (by decide) (fun vmE CE => ⟨rfl, (Keep.refl h0 [d])⟩)
abbrev RrmCmp3_1 : Room := { frames := 0, cells := 0, slots := 0, locals := 0 }
def QrmCmp3_1 (Z : State) (y : Addr) (d : Addr) (ky : ClassId) (kd : ClassId) (c0 : Int32) (c1 : Int32) (c2 : Int32) (h0 : Heap) (v : Option Value) (vm : Vm) (h : Heap) : Prop := v = some (.int (1 : Int32)) ∧ Keep h0 h [d]
theorem rmCmp3_1 (hcx : Cx Z a0 zc fm) (y : Addr) (d : Addr) (ky : ClassId) (kd : ClassId) (c0 : Int32) (c1 : Int32) (c2 : Int32) (h0 : Heap) (O0 : Old Z Z.heap.size h0) (Pr0 : Arv Z h0 y ky .char (3 : Int32) [(.int c0), (.int c1), (.int c2)] (.int (0 : Int32))) (Pr1 : Arv Z h0 d kd .byte (3 : Int32) [(.int (0 : Int32)), (.int (0 : Int32)), (.int (0 : Int32))] (.int (0 : Int32))) (Pr2 : Z.heap.size ≤ d) (Pr3 : y ≠ d) (Pr4 : (255 : Int32) < c1) (Pr5 : ¬ (255 : Int32) < c0) : Met l Z consts_1 (⟨"java/lang/StringUTF16", "compress", "([CI[BII)I"⟩ : MethodName) jdk_52_method_21_code 7 (some .int) [] RrmCmp3_1 [d] #[(.ref y), (.int (0 : Int32)), (.ref d), (.int (0 : Int32)), (.int (3 : Int32))] h0 (QrmCmp3_1 Z y d ky kd c0 c1 c2 h0) := by
  have ⟨hw, hEL, O2, P5, O4, P6, OA, OH, OB⟩ := hcx
  refine Met.start (a0 := a0) (Ls := #[vR y, vI (0 : Int32), vR d, vI (0 : Int32), vI (3 : Int32), .unset, .unset]) pn5 hEL O0 (fun m => by first | (simp [entryFrame, mkF, argsToLocals, Value.category]; done) | rfl) ?_
  intro p e s m below meth cc T0 vm0 X0 sf0_ D hml hret hnm hx zz A0
  have l1 := ltA Pr0.lt
  have l2 := ltA Pr1.lt
  have l3 := neA Pr3
  have s4 := sf0_ d (memI (i := 0) rfl)
  refine Gets.via (fun _ k => (XS.iconst A0 hx rfl (D d5_0) (XS.istore A0 hx rfl (D d5_1) rfl (l' := #[vR y, vI (0 : Int32), vR d, vI (0 : Int32), vI (3 : Int32), vI (0 : Int32), .unset]) rfl (XS.iload A0 hx rfl (D d5_3) rfl (XS.iload A0 hx rfl (D d5_5) rfl (XS.icmpNo A0 hx rfl (D d5_7) rfl (Jvm.Free.XT.ii_ge_f (by decide)) k)))))) ?_
  refine Gets.via (fun _ k => (XS.aloadN A0 hx rfl (D d5_10) rfl rfl (XS.iloadN A0 hx rfl (D d5_11) rfl k))) ?_
  refine X0.ldC Pr0 (i := 0) (by decide) (by decide) (by decide) rfl rfl rfl (D d5_12) ?_
  show Gets p e below _ (T0.setTop (mkF m 13 #[vR y, vI (0 : Int32), vR d, vI (0 : Int32), vI (3 : Int32), vI (0 : Int32), .unset] [(.int c0)]))
  refine Gets.via (fun _ k => (XS.istore A0 hx rfl (D d5_13) rfl (l' := #[vR y, vI (0 : Int32), vR d, vI (0 : Int32), vI (3 : Int32), vI (0 : Int32), vI c0]) rfl (XS.iload A0 hx rfl (D d5_15) rfl (XS.sipush A0 hx rfl (D d5_17) (XS.icmpYes A0 hx rfl (pc0 := 20) (pc' := 26) rfl (D d5_20) rfl (Jvm.Free.XT.ii_le_t Pr5) (by decide) (by decide) k))))) ?_
  refine Gets.via (fun _ k => (XS.aloadN A0 hx rfl (D d5_26) rfl rfl (XS.iloadN A0 hx rfl (D d5_27) rfl (XS.iload A0 hx rfl (D d5_28) rfl (XS.i2b A0 hx rfl (D d5_30) rfl k))))) ?_
  refine X0.stB Pr1 (i := 0) (by decide) (by decide) (Nat.le_of_ble_eq_true rfl) (by decide) (v := (nar .byte (c0.toInt8.toInt32))) rfl s4 (leA (by omega)) rfl rfl (D d5_31) fun T5 h5 X5 C5 K5 V5 => ?_
  have z5 := K5.1
  have V5_ : Arv Z h5 d kd .byte (3 : Int32) [(.int (nar .byte (c0.toInt8.toInt32))), (.int (0 : Int32)), (.int (0 : Int32))] (.int (0 : Int32)) := V5
  have A6 := X5.at
  refine Gets.via (fun _ k => (iincV A6 hx rfl (D d5_32) rfl (v := (1 : Int32)) (by decide) (l' := #[vR y, vI (1 : Int32), vR d, vI (0 : Int32), vI (3 : Int32), vI (0 : Int32), vI c0]) rfl (iincV A6 hx rfl (D d5_35) rfl (v := (1 : Int32)) (by decide) (l' := #[vR y, vI (1 : Int32), vR d, vI (1 : Int32), vI (3 : Int32), vI (0 : Int32), vI c0]) rfl (iincV A6 hx rfl (D d5_38) rfl (v := (1 : Int32)) (by decide) (l' := #[vR y, vI (1 : Int32), vR d, vI (1 : Int32), vI (3 : Int32), vI (1 : Int32), vI c0]) rfl (XS.goto A6 hx rfl (pc0 := 41) (pc' := 3) rfl (D d5_41) (by decide) (by decide) k))))) ?_
  show Gets p e below _ (T5.setTop (mkF m 3 #[vR y, vI (1 : Int32), vR d, vI (1 : Int32), vI (3 : Int32), vI (1 : Int32), vI c0] []))
  refine Gets.via (fun _ k => (XS.iload A6 hx rfl (D d5_3) rfl (XS.iload A6 hx rfl (D d5_5) rfl (XS.icmpNo A6 hx rfl (D d5_7) rfl (Jvm.Free.XT.ii_ge_f (by decide)) k)))) ?_
  refine Gets.via (fun _ k => (XS.aloadN A6 hx rfl (D d5_10) rfl rfl (XS.iloadN A6 hx rfl (D d5_11) rfl k))) ?_
  have f7 := Pr0.keep K5 (ninS (neA (by omega)) nin0)
  refine X5.ldC f7 (i := 1) (by decide) (by decide) (by decide) rfl rfl rfl (D d5_12) ?_
  refine Gets.via (fun _ k => (XS.istore A6 hx rfl (D d5_13) rfl (l' := #[vR y, vI (1 : Int32), vR d, vI (1 : Int32), vI (3 : Int32), vI (1 : Int32), vI c1]) rfl (XS.iload A6 hx rfl (D d5_15) rfl (XS.sipush A6 hx rfl (D d5_17) (XS.icmpNo A6 hx rfl (D d5_20) rfl (Jvm.Free.XT.ii_le_f Pr4) k))))) ?_
  show Gets p e below _ (T5.setTop (mkF m 23 #[vR y, vI (1 : Int32), vR d, vI (1 : Int32), vI (3 : Int32), vI (1 : Int32), vI c1] []))
  refine Gets.via (fun _ k => (XS.iload A6 hx rfl (D d5_23) rfl k)) ?_
  exact X5.retI hret rfl (by simp) (D d5_25) (by decide) (by decide) (fun vmE CE => ⟨rfl, ((Keep.refl h0 [d]).trans K5 (allS (Or.inl (memI (i := 0) rfl)) all0))⟩)
abbrev RrmCmp3_2 : Room := { frames := 0, cells := 0, slots := 0, locals := 0 }
def QrmCmp3_2 (Z : State) (y : Addr) (d : Addr) (ky : ClassId) (kd : ClassId) (c0 : Int32) (c1 : Int32) (c2 : Int32) (h0 : Heap) (v : Option Value) (vm : Vm) (h : Heap) : Prop := v = some (.int (2 : Int32)) ∧ Keep h0 h [d]
theorem rmCmp3_2 (hcx : Cx Z a0 zc fm) (y : Addr) (d : Addr) (ky : ClassId) (kd : ClassId) (c0 : Int32) (c1 : Int32) (c2 : Int32) (h0 : Heap) (O0 : Old Z Z.heap.size h0) (Pr0 : Arv Z h0 y ky .char (3 : Int32) [(.int c0), (.int c1), (.int c2)] (.int (0 : Int32))) (Pr1 : Arv Z h0 d kd .byte (3 : Int32) [(.int (0 : Int32)), (.int (0 : Int32)), (.int (0 : Int32))] (.int (0 : Int32))) (Pr2 : Z.heap.size ≤ d) (Pr3 : y ≠ d) (Pr4 : (255 : Int32) < c2) (Pr5 : ¬ (255 : Int32) < c0) (Pr6 : ¬ (255 : Int32) < c1) : Met l Z consts_1 (⟨"java/lang/StringUTF16", "compress", "([CI[BII)I"⟩ : MethodName) jdk_52_method_21_code 7 (some .int) [] RrmCmp3_2 [d] #[(.ref y), (.int (0 : Int32)), (.ref d), (.int (0 : Int32)), (.int (3 : Int32))] h0 (QrmCmp3_2 Z y d ky kd c0 c1 c2 h0) := by
  have ⟨hw, hEL, O2, P5, O4, P6, OA, OH, OB⟩ := hcx
  refine Met.start (a0 := a0) (Ls := #[vR y, vI (0 : Int32), vR d, vI (0 : Int32), vI (3 : Int32), .unset, .unset]) pn5 hEL O0 (fun m => by first | (simp [entryFrame, mkF, argsToLocals, Value.category]; done) | rfl) ?_
  intro p e s m below meth cc T0 vm0 X0 sf0_ D hml hret hnm hx zz A0
  have l1 := ltA Pr0.lt
  have l2 := ltA Pr1.lt
  have l3 := neA Pr3
  have s4 := sf0_ d (memI (i := 0) rfl)
  refine Gets.via (fun _ k => (XS.iconst A0 hx rfl (D d5_0) (XS.istore A0 hx rfl (D d5_1) rfl (l' := #[vR y, vI (0 : Int32), vR d, vI (0 : Int32), vI (3 : Int32), vI (0 : Int32), .unset]) rfl (XS.iload A0 hx rfl (D d5_3) rfl (XS.iload A0 hx rfl (D d5_5) rfl (XS.icmpNo A0 hx rfl (D d5_7) rfl (Jvm.Free.XT.ii_ge_f (by decide)) k)))))) ?_
  refine Gets.via (fun _ k => (XS.aloadN A0 hx rfl (D d5_10) rfl rfl (XS.iloadN A0 hx rfl (D d5_11) rfl k))) ?_
  refine X0.ldC Pr0 (i := 0) (by decide) (by decide) (by decide) rfl rfl rfl (D d5_12) ?_
  show Gets p e below _ (T0.setTop (mkF m 13 #[vR y, vI (0 : Int32), vR d, vI (0 : Int32), vI (3 : Int32), vI (0 : Int32), .unset] [(.int c0)]))
  refine Gets.via (fun _ k => (XS.istore A0 hx rfl (D d5_13) rfl (l' := #[vR y, vI (0 : Int32), vR d, vI (0 : Int32), vI (3 : Int32), vI (0 : Int32), vI c0]) rfl (XS.iload A0 hx rfl (D d5_15) rfl (XS.sipush A0 hx rfl (D d5_17) (XS.icmpYes A0 hx rfl (pc0 := 20) (pc' := 26) rfl (D d5_20) rfl (Jvm.Free.XT.ii_le_t Pr5) (by decide) (by decide) k))))) ?_
  refine Gets.via (fun _ k => (XS.aloadN A0 hx rfl (D d5_26) rfl rfl (XS.iloadN A0 hx rfl (D d5_27) rfl (XS.iload A0 hx rfl (D d5_28) rfl (XS.i2b A0 hx rfl (D d5_30) rfl k))))) ?_
  refine X0.stB Pr1 (i := 0) (by decide) (by decide) (Nat.le_of_ble_eq_true rfl) (by decide) (v := (nar .byte (c0.toInt8.toInt32))) rfl s4 (leA (by omega)) rfl rfl (D d5_31) fun T5 h5 X5 C5 K5 V5 => ?_
  have z5 := K5.1
  have V5_ : Arv Z h5 d kd .byte (3 : Int32) [(.int (nar .byte (c0.toInt8.toInt32))), (.int (0 : Int32)), (.int (0 : Int32))] (.int (0 : Int32)) := V5
  have A6 := X5.at
  refine Gets.via (fun _ k => (iincV A6 hx rfl (D d5_32) rfl (v := (1 : Int32)) (by decide) (l' := #[vR y, vI (1 : Int32), vR d, vI (0 : Int32), vI (3 : Int32), vI (0 : Int32), vI c0]) rfl (iincV A6 hx rfl (D d5_35) rfl (v := (1 : Int32)) (by decide) (l' := #[vR y, vI (1 : Int32), vR d, vI (1 : Int32), vI (3 : Int32), vI (0 : Int32), vI c0]) rfl (iincV A6 hx rfl (D d5_38) rfl (v := (1 : Int32)) (by decide) (l' := #[vR y, vI (1 : Int32), vR d, vI (1 : Int32), vI (3 : Int32), vI (1 : Int32), vI c0]) rfl (XS.goto A6 hx rfl (pc0 := 41) (pc' := 3) rfl (D d5_41) (by decide) (by decide) k))))) ?_
  show Gets p e below _ (T5.setTop (mkF m 3 #[vR y, vI (1 : Int32), vR d, vI (1 : Int32), vI (3 : Int32), vI (1 : Int32), vI c0] []))
  refine Gets.via (fun _ k => (XS.iload A6 hx rfl (D d5_3) rfl (XS.iload A6 hx rfl (D d5_5) rfl (XS.icmpNo A6 hx rfl (D d5_7) rfl (Jvm.Free.XT.ii_ge_f (by decide)) k)))) ?_
  refine Gets.via (fun _ k => (XS.aloadN A6 hx rfl (D d5_10) rfl rfl (XS.iloadN A6 hx rfl (D d5_11) rfl k))) ?_
  have f7 := Pr0.keep K5 (ninS (neA (by omega)) nin0)
  refine X5.ldC f7 (i := 1) (by decide) (by decide) (by decide) rfl rfl rfl (D d5_12) ?_
  refine Gets.via (fun _ k => (XS.istore A6 hx rfl (D d5_13) rfl (l' := #[vR y, vI (1 : Int32), vR d, vI (1 : Int32), vI (3 : Int32), vI (1 : Int32), vI c1]) rfl (XS.iload A6 hx rfl (D d5_15) rfl (XS.sipush A6 hx rfl (D d5_17) (XS.icmpYes A6 hx rfl (pc0 := 20) (pc' := 26) rfl (D d5_20) rfl (Jvm.Free.XT.ii_le_t Pr6) (by decide) (by decide) k))))) ?_
  show Gets p e below _ (T5.setTop (mkF m 26 #[vR y, vI (1 : Int32), vR d, vI (1 : Int32), vI (3 : Int32), vI (1 : Int32), vI c1] []))
  refine Gets.via (fun _ k => (XS.aloadN A6 hx rfl (D d5_26) rfl rfl (XS.iloadN A6 hx rfl (D d5_27) rfl (XS.iload A6 hx rfl (D d5_28) rfl (XS.i2b A6 hx rfl (D d5_30) rfl k))))) ?_
  have f9 := C5.safe (x := d) (ltA (by omega)) s4
  refine X5.stB V5_ (i := 1) (by decide) (by decide) (Nat.le_of_ble_eq_true rfl) (by decide) (v := (nar .byte (c1.toInt8.toInt32))) rfl f9 (leA (by omega)) rfl rfl (D d5_31) fun T8 h8 X8 C8 K8 V8 => ?_
  have z8 := K8.1
  have V8_ : Arv Z h8 d kd .byte (3 : Int32) [(.int (nar .byte (c0.toInt8.toInt32))), (.int (nar .byte (c1.toInt8.toInt32))), (.int (0 : Int32))] (.int (0 : Int32)) := V8
  have A10 := X8.at
  refine Gets.via (fun _ k => (iincV A10 hx rfl (D d5_32) rfl (v := (2 : Int32)) (by decide) (l' := #[vR y, vI (2 : Int32), vR d, vI (1 : Int32), vI (3 : Int32), vI (1 : Int32), vI c1]) rfl (iincV A10 hx rfl (D d5_35) rfl (v := (2 : Int32)) (by decide) (l' := #[vR y, vI (2 : Int32), vR d, vI (2 : Int32), vI (3 : Int32), vI (1 : Int32), vI c1]) rfl (iincV A10 hx rfl (D d5_38) rfl (v := (2 : Int32)) (by decide) (l' := #[vR y, vI (2 : Int32), vR d, vI (2 : Int32), vI (3 : Int32), vI (2 : Int32), vI c1]) rfl (XS.goto A10 hx rfl (pc0 := 41) (pc' := 3) rfl (D d5_41) (by decide) (by decide) k))))) ?_
  refine Gets.via (fun _ k => (XS.iload A10 hx rfl (D d5_3) rfl (XS.iload A10 hx rfl (D d5_5) rfl (XS.icmpNo A10 hx rfl (D d5_7) rfl (Jvm.Free.XT.ii_ge_f (by decide)) k)))) ?_
  show Gets p e below _ (T8.setTop (mkF m 10 #[vR y, vI (2 : Int32), vR d, vI (2 : Int32), vI (3 : Int32), vI (2 : Int32), vI c1] []))
  refine Gets.via (fun _ k => (XS.aloadN A10 hx rfl (D d5_10) rfl rfl (XS.iloadN A10 hx rfl (D d5_11) rfl k))) ?_
  have f11 := f7.keep K8 (ninS (neA (by omega)) nin0)
  refine X8.ldC f11 (i := 2) (by decide) (by decide) (by decide) rfl rfl rfl (D d5_12) ?_
  refine Gets.via (fun _ k => (XS.istore A10 hx rfl (D d5_13) rfl (l' := #[vR y, vI (2 : Int32), vR d, vI (2 : Int32), vI (3 : Int32), vI (2 : Int32), vI c2]) rfl (XS.iload A10 hx rfl (D d5_15) rfl (XS.sipush A10 hx rfl (D d5_17) (XS.icmpNo A10 hx rfl (D d5_20) rfl (Jvm.Free.XT.ii_le_f Pr4) k))))) ?_
  refine Gets.via (fun _ k => (XS.iload A10 hx rfl (D d5_23) rfl k)) ?_
  exact X8.retI hret rfl (by simp) (D d5_25) (by decide) (by decide) (fun vmE CE => ⟨rfl, (((Keep.refl h0 [d]).trans K5 (allS (Or.inl (memI (i := 0) rfl)) all0)).trans K8 (allS (Or.inl (memI (i := 0) rfl)) all0))⟩)
abbrev RrmNbl3 : Room := { frames := 0, cells := 0, slots := 0, locals := 0 }
def QrmNbl3 (Z : State)  (h0 : Heap) (v : Option Value) (vm : Vm) (h : Heap) : Prop := v = some (.int (6 : Int32)) ∧ h = h0
theorem rmNbl3 (hcx : Cx Z a0 zc fm)  (h0 : Heap) (O0 : Old Z Z.heap.size h0)  : Met l Z consts_1 (⟨"java/lang/StringUTF16", "newBytesLength", "(I)I"⟩ : MethodName) jdk_52_method_3_code 1 (some .int) [] RrmNbl3 [] #[(.int (3 : Int32))] h0 (QrmNbl3 Z  h0) := by
  have ⟨hw, hEL, O2, P5, O4, P6, OA, OH, OB⟩ := hcx
  refine Met.start (a0 := a0) (Ls := #[vI (3 : Int32)]) pn50 hEL O0 (fun m => by first | (simp [entryFrame, mkF, argsToLocals, Value.category]; done) | rfl) ?_
  intro p e s m below meth cc T0 vm0 X0 sf0_ D hml hret hnm hx zz A0
  refine Gets.via (fun _ k => (XS.iloadN A0 hx rfl (D d50_0) rfl (XS.ifYes A0 hx rfl (pc0 := 1) (pc' := 12) rfl (D d50_1) rfl (Jvm.Free.XT.i0_ge_t (by decide)) (by decide) (by decide) k))) ?_
  refine Gets.via (fun _ k => (XS.iloadN A0 hx rfl (D d50_12) rfl k)) ?_
  refine X0.ldcI (w257 hw) rfl (D d50_13) ?_
  refine Gets.via (fun _ k => (XS.icmpYes A0 hx rfl (pc0 := 15) (pc' := 55) rfl (D d50_15) rfl (Jvm.Free.XT.ii_lt_t (by decide)) (by decide) (by decide) k)) ?_
  refine Gets.via (fun _ k => (XS.iloadN A0 hx rfl (D d50_55) rfl (XS.iconst A0 hx rfl (D d50_56) (ishlV A0 hx rfl (D d50_57) rfl (v := (6 : Int32)) (by decide) k)))) ?_
  show Gets p e below _ (T0.setTop (mkF m 58 #[vI (3 : Int32)] [(.int (6 : Int32))]))
  exact X0.retI hret rfl (by simp) (D d50_58) (by decide) (by decide) (fun vmE CE => ⟨rfl, rfl⟩)
abbrev RrmNbf3 : Room := { frames := 1, cells := 1, slots := 6, locals := 12 }
def QrmNbf3 (Z : State)  (h0 : Heap) (v : Option Value) (vm : Vm) (h : Heap) : Prop := ∃ (t : Addr) (kt : ClassId), v = some (.ref t) ∧ Keep h0 h [] ∧ Arv Z h t kt .byte (6 : Int32) [] (.int (0 : Int32)) ∧ Safe Z consts_1 vm h t ∧ h0.size ≤ t
theorem rmNbf3 (hcx : Cx Z a0 zc fm)  (h0 : Heap) (O0 : Old Z Z.heap.size h0)  : Met l Z consts_1 (⟨"java/lang/StringUTF16", "newBytesFor", "(I)[B"⟩ : MethodName) jdk_52_method_2_code 1 (some (.array .byte)) [] RrmNbf3 [] #[(.int (3 : Int32))] h0 (QrmNbf3 Z  h0) := by
  have ⟨hw, hEL, O2, P5, O4, P6, OA, OH, OB⟩ := hcx
  refine Met.start (a0 := a0) (Ls := #[vI (3 : Int32)]) pn49 hEL O0 (fun m => by first | (simp [entryFrame, mkF, argsToLocals, Value.category]; done) | rfl) ?_
  intro p e s m below meth cc T0 vm0 X0 sf0_ D hml hret hnm hx zz A0
  refine Gets.via (fun _ k => (XS.iloadN A0 hx rfl (D d49_0) rfl k)) ?_
  refine X0.callS (W := 0) (w254 hw) (w255 hw) (w21 hw) (w256 hw) (by decide) (X0.payM (sf := []) (rmNbl3 hcx  h0 X0.old ) sf0 (w256 hw) (w21 hw)) rfl (sz hml rfl) (argsL := [(.int (3 : Int32))]) (rest := []) (lenOf pd6 rfl) rfl rfl (mroom rfl rfl) (D d49_1) (by decide) (by decide) fun T1 h1 vm1 v1 X1 C1 z1 q1 => ?_
  obtain ⟨rfl, K1⟩ := q1
  rw [K1] at X1 C1
  refine X1.newAB (w23 hw) rfl (D d49_4) rfl (by decide) (cap := 6) (by decide) (by decide) (by decide) (by decide) fun T2 h2 a2 k2 X2 C2 E2 g2 S2 V2 Z2 => ?_
  have z2 := E2.1
  have l2 := ltA V2.lt
  exact X2.retA hret rfl rfl rfl (D d49_6) (by decide) (by decide) (fun vmE CE => ⟨a2, k2, rfl, ((Keep.refl h0 []).ext E2), V2, CE.safe (x := a2) (ltA (by omega)) S2, (leA (by omega))⟩)
abbrev RrmTb3 : Room := { frames := 2, cells := 1, slots := 6, locals := 24 }
def QrmTb3 (Z : State) (y : Addr) (ky : ClassId) (c0 : Int32) (c1 : Int32) (c2 : Int32) (h0 : Heap) (v : Option Value) (vm : Vm) (h : Heap) : Prop := ∃ (t : Addr) (kt : ClassId), v = some (.ref t) ∧ Keep h0 h [] ∧ Arv Z h t kt .byte (6 : Int32) (enc16 [c0, c1, c2]) (.int (0 : Int32)) ∧ h0.size ≤ t
theorem rmTb3 (hcx : Cx Z a0 zc fm) (y : Addr) (ky : ClassId) (c0 : Int32) (c1 : Int32) (c2 : Int32) (h0 : Heap) (O0 : Old Z Z.heap.size h0) (Pr0 : Arv Z h0 y ky .char (3 : Int32) [(.int c0), (.int c1), (.int c2)] (.int (0 : Int32))) : Met l Z consts_1 (⟨"java/lang/StringUTF16", "toBytes", "([CII)[B"⟩ : MethodName) jdk_52_method_14_code 5 (some (.array .byte)) [] RrmTb3 [] #[(.ref y), (.int (0 : Int32)), (.int (3 : Int32))] h0 (QrmTb3 Z y ky c0 c1 c2 h0) := by
  have ⟨hw, hEL, O2, P5, O4, P6, OA, OH, OB⟩ := hcx
  refine Met.start (a0 := a0) (Ls := #[vR y, vI (0 : Int32), vI (3 : Int32), .unset, .unset]) pn48 hEL O0 (fun m => by first | (simp [entryFrame, mkF, argsToLocals, Value.category]; done) | rfl) ?_
  intro p e s m below meth cc T0 vm0 X0 sf0_ D hml hret hnm hx zz A0
  have l1 := ltA Pr0.lt
  refine Gets.via (fun _ k => (XS.iloadN A0 hx rfl (D d48_0) rfl k)) ?_
  refine X0.callS (W := 0) (w251 hw) (w252 hw) (w21 hw) (w253 hw) (by decide) (X0.payM (sf := []) (rmNbf3 hcx  h0 X0.old ) sf0 (w253 hw) (w21 hw)) rfl (sz hml rfl) (argsL := [(.int (3 : Int32))]) (rest := []) (lenOf pd7 rfl) rfl rfl (mroom rfl rfl) (D d48_1) (by decide) (by decide) fun T2 h2 vm2 v2 X2 C2 z2 q2 => ?_
  obtain ⟨t2, kt2, rfl, K2, g2_0, g2_1, g2_2⟩ := q2
  have l3 := ltA g2_0.lt
  have A4 := X2.at
  refine Gets.via (fun _ k => (XS.astoreN A4 hx rfl (D d48_4) rfl rfl (l' := #[vR y, vI (0 : Int32), vI (3 : Int32), vR t2, .unset]) rfl (XS.iconst A4 hx rfl (D d48_5) (XS.istore A4 hx rfl (D d48_6) rfl (l' := #[vR y, vI (0 : Int32), vI (3 : Int32), vR t2, vI (0 : Int32)]) rfl (XS.iload A4 hx rfl (D d48_8) rfl (XS.iloadN A4 hx rfl (D d48_10) rfl (XS.icmpNo A4 hx rfl (D d48_11) rfl (Jvm.Free.XT.ii_ge_f (by decide)) k))))))) ?_
  show Gets p e below _ (T2.setTop (mkF m 14 #[vR y, vI (0 : Int32), vI (3 : Int32), vR t2, vI (0 : Int32)] []))
  refine Gets.via (fun _ k => (XS.aloadN A4 hx rfl (D d48_14) rfl rfl (XS.iload A4 hx rfl (D d48_15) rfl (XS.aloadN A4 hx rfl (D d48_17) rfl rfl (XS.iloadN A4 hx rfl (D d48_18) rfl k))))) ?_
  have f5 := Pr0.keep K2 nin0
  refine X2.ldC f5 (i := 0) (by decide) (by decide) (by decide) rfl rfl rfl (D d48_19) ?_
  refine X2.callS (W := 0) (w234 hw) (w235 hw) (w21 hw) (w236 hw) (by decide) (X2.payM (sf := [t2]) (rmPutC hcx t2 0 c0 kt2 (6 : Int32) 6 [] h2 X2.old g2_0 rfl (by decide) rfl (by decide) (leA (by omega))) (sfS g2_1 sf0) (w236 hw) (w21 hw)) rfl (sz hml rfl) (argsL := [(.ref t2), (.int (0 : Int32)), (.int c0)]) (rest := []) (lenOf pd8 rfl) rfl rfl (mroom rfl rfl) (D d48_20) (by decide) (by decide) fun T6 h6 vm6 v6 X6 C6 z6 q6 => ?_
  obtain ⟨rfl, K6, g6_0⟩ := q6
  have l7 := ltA g6_0.lt
  have A8 := X6.at
  refine Gets.via (fun _ k => (iincV A8 hx rfl (D d48_23) rfl (v := (1 : Int32)) (by decide) (l' := #[vR y, vI (1 : Int32), vI (3 : Int32), vR t2, vI (0 : Int32)]) rfl (iincV A8 hx rfl (D d48_26) rfl (v := (1 : Int32)) (by decide) (l' := #[vR y, vI (1 : Int32), vI (3 : Int32), vR t2, vI (1 : Int32)]) rfl (XS.goto A8 hx rfl (pc0 := 29) (pc' := 8) rfl (D d48_29) (by decide) (by decide) k)))) ?_
  show Gets p e below _ (T6.setTop (mkF m 8 #[vR y, vI (1 : Int32), vI (3 : Int32), vR t2, vI (1 : Int32)] []))
  refine Gets.via (fun _ k => (XS.iload A8 hx rfl (D d48_8) rfl (XS.iloadN A8 hx rfl (D d48_10) rfl (XS.icmpNo A8 hx rfl (D d48_11) rfl (Jvm.Free.XT.ii_ge_f (by decide)) k)))) ?_
  refine Gets.via (fun _ k => (XS.aloadN A8 hx rfl (D d48_14) rfl rfl (XS.iload A8 hx rfl (D d48_15) rfl (XS.aloadN A8 hx rfl (D d48_17) rfl rfl (XS.iloadN A8 hx rfl (D d48_18) rfl k))))) ?_
  have f9 := f5.keep K6 (ninS (neA (by omega)) nin0)
  refine X6.ldC f9 (i := 1) (by decide) (by decide) (by decide) rfl rfl rfl (D d48_19) ?_
  have f10 := C6.safe (x := t2) (ltA (by omega)) g2_1
  refine X6.callS (W := 0) (w234 hw) (w235 hw) (w21 hw) (w236 hw) (by decide) (X6.payM (sf := [t2]) (rmPutC hcx t2 1 c1 kt2 (6 : Int32) 6 (([] ++ [(.int (c0.toInt8.toInt32))]) ++ [(.int ((c0 >>> ((8 : Int32) &&& (31 : Int32))).toInt8.toInt32))]) h6 X6.old g6_0 rfl (by decide) rfl (by decide) (leA (by omega))) (sfS f10 sf0) (w236 hw) (w21 hw)) rfl (sz hml rfl) (argsL := [(.ref t2), (.int (1 : Int32)), (.int c1)]) (rest := []) (lenOf pd8 rfl) rfl rfl (mroom rfl rfl) (D d48_20) (by decide) (by decide) fun T11 h11 vm11 v11 X11 C11 z11 q11 => ?_
  obtain ⟨rfl, K11, g11_0⟩ := q11
  have l12 := ltA g11_0.lt
  show Gets p e below _ (T11.setTop (mkF m 23 #[vR y, vI (1 : Int32), vI (3 : Int32), vR t2, vI (1 : Int32)] []))
  have A13 := X11.at
  refine Gets.via (fun _ k => (iincV A13 hx rfl (D d48_23) rfl (v := (2 : Int32)) (by decide) (l' := #[vR y, vI (2 : Int32), vI (3 : Int32), vR t2, vI (1 : Int32)]) rfl (iincV A13 hx rfl (D d48_26) rfl (v := (2 : Int32)) (by decide) (l' := #[vR y, vI (2 : Int32), vI (3 : Int32), vR t2, vI (2 : Int32)]) rfl (XS.goto A13 hx rfl (pc0 := 29) (pc' := 8) rfl (D d48_29) (by decide) (by decide) k)))) ?_
  refine Gets.via (fun _ k => (XS.iload A13 hx rfl (D d48_8) rfl (XS.iloadN A13 hx rfl (D d48_10) rfl (XS.icmpNo A13 hx rfl (D d48_11) rfl (Jvm.Free.XT.ii_ge_f (by decide)) k)))) ?_
  refine Gets.via (fun _ k => (XS.aloadN A13 hx rfl (D d48_14) rfl rfl (XS.iload A13 hx rfl (D d48_15) rfl (XS.aloadN A13 hx rfl (D d48_17) rfl rfl (XS.iloadN A13 hx rfl (D d48_18) rfl k))))) ?_
  have f14 := f9.keep K11 (ninS (neA (by omega)) nin0)
  refine X11.ldC f14 (i := 2) (by decide) (by decide) (by decide) rfl rfl rfl (D d48_19) ?_
  show Gets p e below _ (T11.setTop (mkF m 20 #[vR y, vI (2 : Int32), vI (3 : Int32), vR t2, vI (2 : Int32)] [(.int c2), (.int (2 : Int32)), (.ref t2)]))
  have f15 := C11.safe (x := t2) (ltA (by omega)) f10
  refine X11.callS (W := 0) (w234 hw) (w235 hw) (w21 hw) (w236 hw) (by decide) (X11.payM (sf := [t2]) (rmPutC hcx t2 2 c2 kt2 (6 : Int32) 6 (((([] ++ [(.int (c0.toInt8.toInt32))]) ++ [(.int ((c0 >>> ((8 : Int32) &&& (31 : Int32))).toInt8.toInt32))]) ++ [(.int (c1.toInt8.toInt32))]) ++ [(.int ((c1 >>> ((8 : Int32) &&& (31 : Int32))).toInt8.toInt32))]) h11 X11.old g11_0 rfl (by decide) rfl (by decide) (leA (by omega))) (sfS f15 sf0) (w236 hw) (w21 hw)) rfl (sz hml rfl) (argsL := [(.ref t2), (.int (2 : Int32)), (.int c2)]) (rest := []) (lenOf pd8 rfl) rfl rfl (mroom rfl rfl) (D d48_20) (by decide) (by decide) fun T16 h16 vm16 v16 X16 C16 z16 q16 => ?_
  obtain ⟨rfl, K16, g16_0⟩ := q16
  have l17 := ltA g16_0.lt
  have A18 := X16.at
  refine Gets.via (fun _ k => (iincV A18 hx rfl (D d48_23) rfl (v := (3 : Int32)) (by decide) (l' := #[vR y, vI (3 : Int32), vI (3 : Int32), vR t2, vI (2 : Int32)]) rfl (iincV A18 hx rfl (D d48_26) rfl (v := (3 : Int32)) (by decide) (l' := #[vR y, vI (3 : Int32), vI (3 : Int32), vR t2, vI (3 : Int32)]) rfl (XS.goto A18 hx rfl (pc0 := 29) (pc' := 8) rfl (D d48_29) (by decide) (by decide) k)))) ?_
  refine Gets.via (fun _ k => (XS.iload A18 hx rfl (D d48_8) rfl (XS.iloadN A18 hx rfl (D d48_10) rfl (XS.icmpYes A18 hx rfl (pc0 := 11) (pc' := 32) rfl (D d48_11) rfl (Jvm.Free.XT.ii_ge_t (by decide)) (by decide) (by decide) k)))) ?_
  have f19 : Arv Z h16 t2 kt2 .byte (6 : Int32) (enc16 [c0, c1, c2]) (.int (0 : Int32)) := encL3 c0 c1 c2 ▸ g16_0
  refine Gets.via (fun _ k => (XS.aloadN A18 hx rfl (D d48_32) rfl rfl k)) ?_
  exact X16.retA hret rfl rfl rfl (D d48_33) (by decide) (by decide) (fun vmE CE => ⟨t2, kt2, rfl, (((((Keep.refl h0 []).trans K2 all0).trans K6 (allS (Or.inr (leA (by omega))) all0)).trans K11 (allS (Or.inr (leA (by omega))) all0)).trans K16 (allS (Or.inr (leA (by omega))) all0)), f19, g2_2⟩)
abbrev RrmCps3 : Room := { frames := 3, cells := 2, slots := 9, locals := 40 }
def QrmCps3 (Z : State) (y : Addr) (ky : ClassId) (c0 : Int32) (c1 : Int32) (c2 : Int32) (h0 : Heap) (v : Option Value) (vm : Vm) (h : Heap) : Prop := ∃ (t : Addr) (kt : ClassId), v = some (.ref t) ∧ Keep h0 h [] ∧ Arv Z h t kt .byte (6 : Int32) (enc16 [c0, c1, c2]) (.int (0 : Int32)) ∧ h0.size ≤ t
theorem rmCps3 (hcx : Cx Z a0 zc fm) (y : Addr) (ky : ClassId) (c0 : Int32) (c1 : Int32) (c2 : Int32) (h0 : Heap) (O0 : Old Z Z.heap.size h0) (Pr0 : Arv Z h0 y ky .char (3 : Int32) [(.int c0), (.int c1), (.int c2)] (.int (0 : Int32))) (Pr1 : (255 : Int32) < c0 ∨ (255 : Int32) < c1 ∨ (255 : Int32) < c2) (Pr2 : ¬ c0 < 0 ∧ ¬ (65535 : Int32) < c0) (Pr3 : ¬ c1 < 0 ∧ ¬ (65535 : Int32) < c1) (Pr4 : ¬ c2 < 0 ∧ ¬ (65535 : Int32) < c2) : Met l Z consts_1 (⟨"java/lang/StringUTF16", "compress", "([CII)[B"⟩ : MethodName) jdk_52_method_16_code 6 (some (.array .byte)) [] RrmCps3 [] #[(.ref y), (.int (0 : Int32)), (.int (3 : Int32))] h0 (QrmCps3 Z y ky c0 c1 c2 h0) := by
  have ⟨hw, hEL, O2, P5, O4, P6, OA, OH, OB⟩ := hcx
  refine Met.start (a0 := a0) (Ls := #[vR y, vI (0 : Int32), vI (3 : Int32), .unset, .unset, .unset]) pn4 hEL O0 (fun m => by first | (simp [entryFrame, mkF, argsToLocals, Value.category]; done) | rfl) ?_
  intro p e s m below meth cc T0 vm0 X0 sf0_ D hml hret hnm hx zz A0
  have l1 := ltA Pr0.lt
  have hR : ∀ z_ ∈ [c0, c1, c2], ¬ z_ < 0 ∧ ¬ (65535 : Int32) < z_ := allI Pr2 (allI Pr3 (allI Pr4 (allN)))
  rcases fst3 Pr1 with w0 | ⟨n0, w1⟩ | ⟨n0, n1, w2⟩
  · skip
    refine Gets.via (fun _ k => (XS.iloadN A0 hx rfl (D d4_0) rfl k)) ?_
    refine X0.newAB (w23 hw) rfl (D d4_1) rfl (by decide) (cap := 3) (by decide) (by decide) (by decide) (by decide) fun T2 h2 a2 k2 X2 C2 E2 g2 S2 V2 Z2 => ?_
    have z2 := E2.1
    have l2 := ltA V2.lt
    have V2_ : Arv Z h2 a2 k2 .byte (3 : Int32) [(.int (0 : Int32)), (.int (0 : Int32)), (.int (0 : Int32))] (.int (0 : Int32)) := padN V2 3
    have A3 := X2.at
    refine Gets.via (fun _ k => (XS.astoreN A3 hx rfl (D d4_3) rfl rfl (l' := #[vR y, vI (0 : Int32), vI (3 : Int32), vR a2, .unset, .unset]) rfl (XS.aloadN A3 hx rfl (D d4_4) rfl rfl (XS.iloadN A3 hx rfl (D d4_5) rfl (XS.aloadN A3 hx rfl (D d4_6) rfl rfl (XS.iconst A3 hx rfl (D d4_7) (XS.iloadN A3 hx rfl (D d4_8) rfl k))))))) ?_
    show Gets p e below _ (T2.setTop (mkF m 9 #[vR y, vI (0 : Int32), vI (3 : Int32), vR a2, .unset, .unset] [(.int (3 : Int32)), (.int (0 : Int32)), (.ref a2), (.int (0 : Int32)), (.ref y)]))
    have f4 := Pr0.ext E2
    refine X2.callS (W := 0) (w24 hw) (w25 hw) (w21 hw) (w26 hw) (by decide) (X2.payM (sf := [a2]) (rmCmp3_0 hcx y a2 ky k2 c0 c1 c2 h2 X2.old f4 V2_ (leA (by omega)) (neA (by omega)) w0) (sfS S2 sf0) (w26 hw) (w21 hw)) rfl (sz hml rfl) (argsL := [(.ref y), (.int (0 : Int32)), (.ref a2), (.int (0 : Int32)), (.int (3 : Int32))]) (rest := []) (lenOf pd5 rfl) rfl rfl (mroom rfl rfl) (D d4_9) (by decide) (by decide) fun T5 h5 vm5 v5 X5 C5 z5 q5 => ?_
    obtain ⟨rfl, K5⟩ := q5
    have A6 := X5.at
    refine Gets.via (fun _ k => (XS.istore A6 hx rfl (D d4_12) rfl (l' := #[vR y, vI (0 : Int32), vI (3 : Int32), vR a2, vI (0 : Int32), .unset]) rfl (XS.iload A6 hx rfl (D d4_14) rfl (XS.iloadN A6 hx rfl (D d4_16) rfl (XS.icmpNo A6 hx rfl (D d4_17) rfl (Jvm.Free.XT.ii_eq_f (by decide)) k))))) ?_
    refine Gets.via (fun _ k => (XS.aloadN A6 hx rfl (D d4_20) rfl rfl (XS.iloadN A6 hx rfl (D d4_21) rfl (XS.iloadN A6 hx rfl (D d4_22) rfl k)))) ?_
    have f7 := f4.keep K5 (ninS (neA (by omega)) nin0)
    refine X5.callS (W := 0) (w248 hw) (w249 hw) (w21 hw) (w250 hw) (by decide) (X5.payM (sf := []) (rmTb3 hcx y ky c0 c1 c2 h5 X5.old f7) sf0 (w250 hw) (w21 hw)) rfl (sz hml rfl) (argsL := [(.ref y), (.int (0 : Int32)), (.int (3 : Int32))]) (rest := []) (lenOf pd9 rfl) rfl rfl (mroom rfl rfl) (D d4_23) (by decide) (by decide) fun T8 h8 vm8 v8 X8 C8 z8 q8 => ?_
    obtain ⟨t8, kt8, rfl, K8, g8_0, g8_1⟩ := q8
    have l9 := ltA g8_0.lt
    show Gets p e below _ (T8.setTop (mkF m 26 #[vR y, vI (0 : Int32), vI (3 : Int32), vR a2, vI (0 : Int32), .unset] [(.ref t8)]))
    have A10 := X8.at
    refine Gets.via (fun _ k => (XS.astore A10 hx rfl (D d4_26) rfl rfl (l' := #[vR y, vI (0 : Int32), vI (3 : Int32), vR a2, vI (0 : Int32), vR t8]) rfl (XS.aload A10 hx rfl (D d4_28) rfl rfl (XS.iload A10 hx rfl (D d4_30) rfl k)))) ?_
    refine X8.callS (W := 0) (w258 hw) (w259 hw) (w21 hw) (w260 hw) (by decide) (X8.payM (sf := []) (rmGetC hcx t8 0 kt8 (6 : Int32) 6 [c0, c1, c2] h8 X8.old g8_0 rfl (by decide) (by first | exact Nat.le_of_ble_eq_true rfl | omega) (by first | exact Nat.le_of_ble_eq_true rfl | omega) hR) sf0 (w260 hw) (w21 hw)) rfl (sz hml rfl) (argsL := [(.ref t8), (.int (0 : Int32))]) (rest := []) (lenOf pd10 rfl) rfl rfl (mroom rfl rfl) (D d4_32) (by decide) (by decide) fun T11 h11 vm11 v11 X11 C11 z11 q11 => ?_
    obtain ⟨rfl, K11⟩ := q11
    rw [K11] at X11 C11
    have A12 := X11.at
    refine Gets.via (fun _ k => (XS.sipush A12 hx rfl (D d4_35) (XS.icmpYes A12 hx rfl (pc0 := 38) (pc' := 54) rfl (D d4_38) rfl (Jvm.Free.XT.ii_gt_t w0) (by decide) (by decide) k))) ?_
    refine Gets.via (fun _ k => (XS.aload A12 hx rfl (D d4_54) rfl rfl k)) ?_
    exact X11.retA hret rfl rfl rfl (D d4_56) (by decide) (by decide) (fun vmE CE => ⟨t8, kt8, rfl, ((((Keep.refl h0 []).ext E2).trans K5 (allS (Or.inr (leA (by omega))) all0)).trans K8 all0), g8_0, (leA (by omega))⟩)
  · skip
    refine Gets.via (fun _ k => (XS.iloadN A0 hx rfl (D d4_0) rfl k)) ?_
    refine X0.newAB (w23 hw) rfl (D d4_1) rfl (by decide) (cap := 3) (by decide) (by decide) (by decide) (by decide) fun T13 h13 a13 k13 X13 C13 E13 g13 S13 V13 Z13 => ?_
    have z13 := E13.1
    have l13 := ltA V13.lt
    have V13_ : Arv Z h13 a13 k13 .byte (3 : Int32) [(.int (0 : Int32)), (.int (0 : Int32)), (.int (0 : Int32))] (.int (0 : Int32)) := padN V13 3
    show Gets p e below _ (T13.setTop (mkF m 3 #[vR y, vI (0 : Int32), vI (3 : Int32), .unset, .unset, .unset] [(.ref a13)]))
    have A14 := X13.at
    refine Gets.via (fun _ k => (XS.astoreN A14 hx rfl (D d4_3) rfl rfl (l' := #[vR y, vI (0 : Int32), vI (3 : Int32), vR a13, .unset, .unset]) rfl (XS.aloadN A14 hx rfl (D d4_4) rfl rfl (XS.iloadN A14 hx rfl (D d4_5) rfl (XS.aloadN A14 hx rfl (D d4_6) rfl rfl (XS.iconst A14 hx rfl (D d4_7) (XS.iloadN A14 hx rfl (D d4_8) rfl k))))))) ?_
    have f15 := Pr0.ext E13
    refine X13.callS (W := 0) (w24 hw) (w25 hw) (w21 hw) (w26 hw) (by decide) (X13.payM (sf := [a13]) (rmCmp3_1 hcx y a13 ky k13 c0 c1 c2 h13 X13.old f15 V13_ (leA (by omega)) (neA (by omega)) w1 n0) (sfS S13 sf0) (w26 hw) (w21 hw)) rfl (sz hml rfl) (argsL := [(.ref y), (.int (0 : Int32)), (.ref a13), (.int (0 : Int32)), (.int (3 : Int32))]) (rest := []) (lenOf pd5 rfl) rfl rfl (mroom rfl rfl) (D d4_9) (by decide) (by decide) fun T16 h16 vm16 v16 X16 C16 z16 q16 => ?_
    obtain ⟨rfl, K16⟩ := q16
    have A17 := X16.at
    refine Gets.via (fun _ k => (XS.istore A17 hx rfl (D d4_12) rfl (l' := #[vR y, vI (0 : Int32), vI (3 : Int32), vR a13, vI (1 : Int32), .unset]) rfl (XS.iload A17 hx rfl (D d4_14) rfl (XS.iloadN A17 hx rfl (D d4_16) rfl (XS.icmpNo A17 hx rfl (D d4_17) rfl (Jvm.Free.XT.ii_eq_f (by decide)) k))))) ?_
    show Gets p e below _ (T16.setTop (mkF m 20 #[vR y, vI (0 : Int32), vI (3 : Int32), vR a13, vI (1 : Int32), .unset] []))
    refine Gets.via (fun _ k => (XS.aloadN A17 hx rfl (D d4_20) rfl rfl (XS.iloadN A17 hx rfl (D d4_21) rfl (XS.iloadN A17 hx rfl (D d4_22) rfl k)))) ?_
    have f18 := f15.keep K16 (ninS (neA (by omega)) nin0)
    refine X16.callS (W := 0) (w248 hw) (w249 hw) (w21 hw) (w250 hw) (by decide) (X16.payM (sf := []) (rmTb3 hcx y ky c0 c1 c2 h16 X16.old f18) sf0 (w250 hw) (w21 hw)) rfl (sz hml rfl) (argsL := [(.ref y), (.int (0 : Int32)), (.int (3 : Int32))]) (rest := []) (lenOf pd9 rfl) rfl rfl (mroom rfl rfl) (D d4_23) (by decide) (by decide) fun T19 h19 vm19 v19 X19 C19 z19 q19 => ?_
    obtain ⟨t19, kt19, rfl, K19, g19_0, g19_1⟩ := q19
    have l20 := ltA g19_0.lt
    have A21 := X19.at
    refine Gets.via (fun _ k => (XS.astore A21 hx rfl (D d4_26) rfl rfl (l' := #[vR y, vI (0 : Int32), vI (3 : Int32), vR a13, vI (1 : Int32), vR t19]) rfl (XS.aload A21 hx rfl (D d4_28) rfl rfl (XS.iload A21 hx rfl (D d4_30) rfl k)))) ?_
    refine X19.callS (W := 0) (w258 hw) (w259 hw) (w21 hw) (w260 hw) (by decide) (X19.payM (sf := []) (rmGetC hcx t19 1 kt19 (6 : Int32) 6 [c0, c1, c2] h19 X19.old g19_0 rfl (by decide) (by first | exact Nat.le_of_ble_eq_true rfl | omega) (by first | exact Nat.le_of_ble_eq_true rfl | omega) hR) sf0 (w260 hw) (w21 hw)) rfl (sz hml rfl) (argsL := [(.ref t19), (.int (1 : Int32))]) (rest := []) (lenOf pd10 rfl) rfl rfl (mroom rfl rfl) (D d4_32) (by decide) (by decide) fun T22 h22 vm22 v22 X22 C22 z22 q22 => ?_
    obtain ⟨rfl, K22⟩ := q22
    rw [K22] at X22 C22
    show Gets p e below _ (T22.setTop (mkF m 35 #[vR y, vI (0 : Int32), vI (3 : Int32), vR a13, vI (1 : Int32), vR t19] [(.int ([c0, c1, c2].getD 1 0))]))
    have A23 := X22.at
    refine Gets.via (fun _ k => (XS.sipush A23 hx rfl (D d4_35) (XS.icmpYes A23 hx rfl (pc0 := 38) (pc' := 54) rfl (D d4_38) rfl (Jvm.Free.XT.ii_gt_t w1) (by decide) (by decide) k))) ?_
    refine Gets.via (fun _ k => (XS.aload A23 hx rfl (D d4_54) rfl rfl k)) ?_
    exact X22.retA hret rfl rfl rfl (D d4_56) (by decide) (by decide) (fun vmE CE => ⟨t19, kt19, rfl, ((((Keep.refl h0 []).ext E13).trans K16 (allS (Or.inr (leA (by omega))) all0)).trans K19 all0), g19_0, (leA (by omega))⟩)
  · skip
    refine Gets.via (fun _ k => (XS.iloadN A0 hx rfl (D d4_0) rfl k)) ?_
    refine X0.newAB (w23 hw) rfl (D d4_1) rfl (by decide) (cap := 3) (by decide) (by decide) (by decide) (by decide) fun T24 h24 a24 k24 X24 C24 E24 g24 S24 V24 Z24 => ?_
    have z24 := E24.1
    have l24 := ltA V24.lt
    have V24_ : Arv Z h24 a24 k24 .byte (3 : Int32) [(.int (0 : Int32)), (.int (0 : Int32)), (.int (0 : Int32))] (.int (0 : Int32)) := padN V24 3
    have A25 := X24.at
    refine Gets.via (fun _ k => (XS.astoreN A25 hx rfl (D d4_3) rfl rfl (l' := #[vR y, vI (0 : Int32), vI (3 : Int32), vR a24, .unset, .unset]) rfl (XS.aloadN A25 hx rfl (D d4_4) rfl rfl (XS.iloadN A25 hx rfl (D d4_5) rfl (XS.aloadN A25 hx rfl (D d4_6) rfl rfl (XS.iconst A25 hx rfl (D d4_7) (XS.iloadN A25 hx rfl (D d4_8) rfl k))))))) ?_
    show Gets p e below _ (T24.setTop (mkF m 9 #[vR y, vI (0 : Int32), vI (3 : Int32), vR a24, .unset, .unset] [(.int (3 : Int32)), (.int (0 : Int32)), (.ref a24), (.int (0 : Int32)), (.ref y)]))
    have f26 := Pr0.ext E24
    refine X24.callS (W := 0) (w24 hw) (w25 hw) (w21 hw) (w26 hw) (by decide) (X24.payM (sf := [a24]) (rmCmp3_2 hcx y a24 ky k24 c0 c1 c2 h24 X24.old f26 V24_ (leA (by omega)) (neA (by omega)) w2 n0 n1) (sfS S24 sf0) (w26 hw) (w21 hw)) rfl (sz hml rfl) (argsL := [(.ref y), (.int (0 : Int32)), (.ref a24), (.int (0 : Int32)), (.int (3 : Int32))]) (rest := []) (lenOf pd5 rfl) rfl rfl (mroom rfl rfl) (D d4_9) (by decide) (by decide) fun T27 h27 vm27 v27 X27 C27 z27 q27 => ?_
    obtain ⟨rfl, K27⟩ := q27
    have A28 := X27.at
    refine Gets.via (fun _ k => (XS.istore A28 hx rfl (D d4_12) rfl (l' := #[vR y, vI (0 : Int32), vI (3 : Int32), vR a24, vI (2 : Int32), .unset]) rfl (XS.iload A28 hx rfl (D d4_14) rfl (XS.iloadN A28 hx rfl (D d4_16) rfl (XS.icmpNo A28 hx rfl (D d4_17) rfl (Jvm.Free.XT.ii_eq_f (by decide)) k))))) ?_
    refine Gets.via (fun _ k => (XS.aloadN A28 hx rfl (D d4_20) rfl rfl (XS.iloadN A28 hx rfl (D d4_21) rfl (XS.iloadN A28 hx rfl (D d4_22) rfl k)))) ?_
    have f29 := f26.keep K27 (ninS (neA (by omega)) nin0)
    refine X27.callS (W := 0) (w248 hw) (w249 hw) (w21 hw) (w250 hw) (by decide) (X27.payM (sf := []) (rmTb3 hcx y ky c0 c1 c2 h27 X27.old f29) sf0 (w250 hw) (w21 hw)) rfl (sz hml rfl) (argsL := [(.ref y), (.int (0 : Int32)), (.int (3 : Int32))]) (rest := []) (lenOf pd9 rfl) rfl rfl (mroom rfl rfl) (D d4_23) (by decide) (by decide) fun T30 h30 vm30 v30 X30 C30 z30 q30 => ?_
    obtain ⟨t30, kt30, rfl, K30, g30_0, g30_1⟩ := q30
    have l31 := ltA g30_0.lt
    show Gets p e below _ (T30.setTop (mkF m 26 #[vR y, vI (0 : Int32), vI (3 : Int32), vR a24, vI (2 : Int32), .unset] [(.ref t30)]))
    have A32 := X30.at
    refine Gets.via (fun _ k => (XS.astore A32 hx rfl (D d4_26) rfl rfl (l' := #[vR y, vI (0 : Int32), vI (3 : Int32), vR a24, vI (2 : Int32), vR t30]) rfl (XS.aload A32 hx rfl (D d4_28) rfl rfl (XS.iload A32 hx rfl (D d4_30) rfl k)))) ?_
    refine X30.callS (W := 0) (w258 hw) (w259 hw) (w21 hw) (w260 hw) (by decide) (X30.payM (sf := []) (rmGetC hcx t30 2 kt30 (6 : Int32) 6 [c0, c1, c2] h30 X30.old g30_0 rfl (by decide) (by first | exact Nat.le_of_ble_eq_true rfl | omega) (by first | exact Nat.le_of_ble_eq_true rfl | omega) hR) sf0 (w260 hw) (w21 hw)) rfl (sz hml rfl) (argsL := [(.ref t30), (.int (2 : Int32))]) (rest := []) (lenOf pd10 rfl) rfl rfl (mroom rfl rfl) (D d4_32) (by decide) (by decide) fun T33 h33 vm33 v33 X33 C33 z33 q33 => ?_
    obtain ⟨rfl, K33⟩ := q33
    rw [K33] at X33 C33
    have A34 := X33.at
    refine Gets.via (fun _ k => (XS.sipush A34 hx rfl (D d4_35) (XS.icmpYes A34 hx rfl (pc0 := 38) (pc' := 54) rfl (D d4_38) rfl (Jvm.Free.XT.ii_gt_t w2) (by decide) (by decide) k))) ?_
    refine Gets.via (fun _ k => (XS.aload A34 hx rfl (D d4_54) rfl rfl k)) ?_
    exact X33.retA hret rfl rfl rfl (D d4_56) (by decide) (by decide) (fun vmE CE => ⟨t30, kt30, rfl, ((((Keep.refl h0 []).ext E24).trans K27 (allS (Or.inr (leA (by omega))) all0)).trans K30 all0), g30_0, (leA (by omega))⟩)
abbrev RrmCfl3 : Room := { frames := 0, cells := 0, slots := 0, locals := 0 }
def QrmCfl3 (Z : State) (t : Addr) (kt : ClassId) (vs : List Value) (h0 : Heap) (v : Option Value) (vm : Vm) (h : Heap) : Prop := v = some (.int (1 : Int32)) ∧ h = h0
theorem rmCfl3 (hcx : Cx Z a0 zc fm) (t : Addr) (kt : ClassId) (vs : List Value) (h0 : Heap) (O0 : Old Z Z.heap.size h0) (Pr0 : Arv Z h0 t kt .byte (6 : Int32) vs (.int (0 : Int32))) : Met l Z consts_1 (⟨"java/lang/StringUTF16", "coderFromArrayLen", "([BI)B"⟩ : MethodName) jdk_52_method_15_code 2 (some .byte) [] RrmCfl3 [] #[(.ref t), (.int (3 : Int32))] h0 (QrmCfl3 Z t kt vs h0) := by
  have ⟨hw, hEL, O2, P5, O4, P6, OA, OH, OB⟩ := hcx
  refine Met.start (a0 := a0) (Ls := #[vR t, vI (3 : Int32)]) pn6 hEL O0 (fun m => by first | (simp [entryFrame, mkF, argsToLocals, Value.category]; done) | rfl) ?_
  intro p e s m below meth cc T0 vm0 X0 sf0_ D hml hret hnm hx zz A0
  have l1 := ltA Pr0.lt
  refine Gets.via (fun _ k => (XS.iloadN A0 hx rfl (D d6_0) rfl (XS.aloadN A0 hx rfl (D d6_1) rfl rfl k))) ?_
  refine X0.alen Pr0 rfl rfl (D d6_2) ?_
  refine Gets.via (fun _ k => (isubV A0 hx rfl (D d6_3) rfl (v := (-3 : Int32)) (by decide) (XS.bipush A0 hx rfl (D d6_4) (iushrV A0 hx rfl (D d6_6) rfl (v := (1 : Int32)) (by decide) (i2bV A0 hx rfl (D d6_7) rfl (v := (1 : Int32)) (by decide) k))))) ?_
  show Gets p e below _ (T0.setTop (mkF m 8 #[vR t, vI (3 : Int32)] [(.int (1 : Int32))]))
  exact X0.retI hret (by decide) (by simp) (D d6_8) (by decide) (by decide) (fun vmE CE => ⟨rfl, rfl⟩)
abbrev RrmU4_3 : Room := { frames := 4, cells := 2, slots := 9, locals := 57 }
def QrmU4_3 (Z : State) (x : Addr) (y : Addr) (ky : ClassId) (c0 : Int32) (c1 : Int32) (c2 : Int32) (h0 : Heap) (v : Option Value) (vm : Vm) (h : Heap) : Prop := ∃ (t : Addr) (kt : ClassId), v = none ∧ Keep h0 h [x] ∧ StrU Z h x t kt [c0, c1, c2]
theorem rmU4_3 (hcx : Cx Z a0 zc fm) (x : Addr) (y : Addr) (ky : ClassId) (c0 : Int32) (c1 : Int32) (c2 : Int32) (h0 : Heap) (O0 : Old Z Z.heap.size h0) (Pr0 : Exa Z h0 x "java/lang/String") (Pr1 : Fld Z h0 x "java/lang/String" "coder" "B" (.int (0 : Int32))) (Pr2 : Fld Z h0 x "java/lang/String" "value" "[B" .null) (Pr3 : Z.heap.size ≤ x) (Pr4 : Arv Z h0 y ky .char (3 : Int32) [(.int c0), (.int c1), (.int c2)] (.int (0 : Int32))) (Pr5 : (255 : Int32) < c0 ∨ (255 : Int32) < c1 ∨ (255 : Int32) < c2) (Pr6 : ¬ c0 < 0 ∧ ¬ (65535 : Int32) < c0) (Pr7 : ¬ c1 < 0 ∧ ¬ (65535 : Int32) < c1) (Pr8 : ¬ c2 < 0 ∧ ¬ (65535 : Int32) < c2) : Met l Z consts_1 (⟨"java/lang/String", "<init>", "([CIILjava/lang/Void;)V"⟩ : MethodName) jdk_42_method_149_code 6 (none) [] RrmU4_3 [x] #[(.ref x), (.ref y), (.int (0 : Int32)), (.int (3 : Int32)), .null] h0 (QrmU4_3 Z x y ky c0 c1 c2 h0) := by
  have ⟨hw, hEL, O2, P5, O4, P6, OA, OH, OB⟩ := hcx
  refine Met.start (a0 := a0) (Ls := #[vR x, vR y, vI (0 : Int32), vI (3 : Int32), .val .null, .unset]) pn2 hEL O0 (fun m => by first | (simp [entryFrame, mkF, argsToLocals, Value.category]; done) | rfl) ?_
  intro p e s m below meth cc T0 vm0 X0 sf0_ D hml hret hnm hx zz A0
  have l1 := ltA Pr0.lt
  have l2 := ltA Pr4.lt
  have s3 := sf0_ x (memI (i := 0) rfl)
  refine Gets.via (fun _ k => (XS.aloadN A0 hx rfl (D d2_0) rfl rfl k)) ?_
  refine X0.objInit (w15 hw) (w16 hw) (w17 hw) rfl (sz hml rfl) rfl (D d2_1) (by decide) (W := 0) (mroom rfl rfl) (by decide) fun T4 X4 => ?_
  have A5 := X4.at
  refine Gets.via (fun _ k => (XS.iloadN A5 hx rfl (D d2_4) rfl (XS.ifYes A5 hx rfl (pc0 := 5) (pc' := 27) rfl (D d2_5) rfl (Jvm.Free.XT.i0_ne_t (by decide)) (by decide) (by decide) k))) ?_
  refine X4.getS (host := "") (Or.inl (w18 hw)) Via.refl (X4.sta O2) rfl (D d2_27) fun T6 X6 => ?_
  show Gets p e below _ (T6.setTop (mkF m 30 #[vR x, vR y, vI (0 : Int32), vI (3 : Int32), .val .null, .unset] [(.int zc)]))
  have A7 := X6.at
  refine Gets.via (fun _ k => (XS.ifNo A7 hx rfl (D d2_30) rfl (Jvm.Free.XT.i0_eq_f P5) k)) ?_
  refine Gets.via (fun _ k => (XS.aloadN A7 hx rfl (D d2_33) rfl rfl (XS.iloadN A7 hx rfl (D d2_34) rfl (XS.iloadN A7 hx rfl (D d2_35) rfl k)))) ?_
  refine X6.callS (W := 0) (w19 hw) (w20 hw) (w21 hw) (w22 hw) (by decide) (X6.payM (sf := []) (rmCps3 hcx y ky c0 c1 c2 h0 X6.old Pr4 Pr5 Pr6 Pr7 Pr8) sf0 (w22 hw) (w21 hw)) rfl (sz hml rfl) (argsL := [(.ref y), (.int (0 : Int32)), (.int (3 : Int32))]) (rest := []) (lenOf pd9 rfl) rfl rfl (mroom rfl rfl) (D d2_36) (by decide) (by decide) fun T8 h8 vm8 v8 X8 C8 z8 q8 => ?_
  obtain ⟨t8, kt8, rfl, K8, g8_0, g8_1⟩ := q8
  have l9 := ltA g8_0.lt
  have A10 := X8.at
  refine Gets.via (fun _ k => (XS.astore A10 hx rfl (D d2_39) rfl rfl (l' := #[vR x, vR y, vI (0 : Int32), vI (3 : Int32), .val .null, vR t8]) rfl (XS.aloadN A10 hx rfl (D d2_41) rfl rfl (XS.aload A10 hx rfl (D d2_42) rfl rfl (XS.iloadN A10 hx rfl (D d2_44) rfl k))))) ?_
  refine X8.callS (W := 1) (w27 hw) (w28 hw) (w21 hw) (w29 hw) (by decide) (X8.payM (sf := []) (rmCfl3 hcx t8 kt8 (enc16 [c0, c1, c2]) h8 X8.old g8_0) sf0 (w29 hw) (w21 hw)) rfl (sz hml rfl) (argsL := [(.ref t8), (.int (3 : Int32))]) (rest := [(.ref x)]) (lenOf pd11 rfl) rfl rfl (mroom rfl rfl) (D d2_45) (by decide) (by decide) fun T11 h11 vm11 v11 X11 C11 z11 q11 => ?_
  obtain ⟨rfl, K11⟩ := q11
  rw [K11] at X11 C11
  show Gets p e below _ (T11.setTop (mkF m 48 #[vR x, vR y, vI (0 : Int32), vI (3 : Int32), .val .null, vR t8] [(.int (1 : Int32)), (.ref x)]))
  have f13 := Pr1.keep K8 nin0
  have f14 := Pr0.keep K8
  have f15 := C8.safe (x := x) (ltA (by omega)) s3
  have f16 := C11.safe (x := x) (ltA (by omega)) f15
  refine X11.putF (host := "") (Or.inl (w30 hw)) Via.refl f13 f14 (Or.inr ⟨(w31 hw), rfl, hnm⟩) (w6 hw) (ty := .byte) (by decide) (by decide) (by decide) (leA (by omega)) f16 rfl rfl (D d2_48) fun T12 h12 X12 C12 W12 F12 Z12 => ?_
  have z12 := W12.size
  have A17 := X12.at
  refine Gets.via (fun _ k => (XS.aloadN A17 hx rfl (D d2_51) rfl rfl (XS.aload A17 hx rfl (D d2_52) rfl rfl k))) ?_
  have f19 := Pr2.keep K8 nin0
  have f20 := f19.other W12 (Or.inr (slot_ne (t := (.array .byte)) (t' := .byte) (Or.inr (w33 hw)) (Or.inr (w31 hw)) (by decide) (by decide) (by decide)))
  have f21 := C12.safe (x := x) (ltA (by omega)) f16
  refine X12.putF (host := "") (Or.inl (w32 hw)) Via.refl f20 Z12 (Or.inr ⟨(w33 hw), rfl, hnm⟩) (w6 hw) (ty := (.array .byte)) (by decide) rfl rfl (leA (by omega)) f21 rfl rfl (D d2_54) fun T18 h18 X18 C18 W18 F18 Z18 => ?_
  have z18 := W18.size
  have f22 := F12.other W18 (Or.inr (slot_ne (t := .byte) (t' := (.array .byte)) (Or.inr (w31 hw)) (Or.inr (w33 hw)) (by decide) (by decide) (by decide)))
  have f23 := g8_0.other W12 (neA (by omega))
  have f24 := f23.other W18 (neA (by omega))
  have SU : StrU Z h18 x t8 kt8 [c0, c1, c2] := ⟨Z18, f22, F18, f24, allI Pr6 (allI Pr7 (allI Pr8 (allN))), Nat.le_of_ble_eq_true rfl⟩
  exact X18.retV hret (D d2_57) (by decide) (by decide) (fun vmE CE => ⟨t8, kt8, rfl, ((((Keep.refl h0 [x]).trans K8 all0).wr W12 (Or.inl (memI (i := 0) rfl))).wr W18 (Or.inl (memI (i := 0) rfl))), SU⟩)
abbrev RrmU1_3 : Room := { frames := 5, cells := 2, slots := 9, locals := 74 }
def QrmU1_3 (Z : State) (x : Addr) (y : Addr) (ky : ClassId) (c0 : Int32) (c1 : Int32) (c2 : Int32) (h0 : Heap) (v : Option Value) (vm : Vm) (h : Heap) : Prop := ∃ (t : Addr) (kt : ClassId), v = none ∧ Keep h0 h [x] ∧ StrU Z h x t kt [c0, c1, c2]
theorem rmU1_3 (hcx : Cx Z a0 zc fm) (x : Addr) (y : Addr) (ky : ClassId) (c0 : Int32) (c1 : Int32) (c2 : Int32) (h0 : Heap) (O0 : Old Z Z.heap.size h0) (Pr0 : Exa Z h0 x "java/lang/String") (Pr1 : Fld Z h0 x "java/lang/String" "coder" "B" (.int (0 : Int32))) (Pr2 : Fld Z h0 x "java/lang/String" "value" "[B" .null) (Pr3 : Z.heap.size ≤ x) (Pr4 : Arv Z h0 y ky .char (3 : Int32) [(.int c0), (.int c1), (.int c2)] (.int (0 : Int32))) (Pr5 : (255 : Int32) < c0 ∨ (255 : Int32) < c1 ∨ (255 : Int32) < c2) (Pr6 : ¬ c0 < 0 ∧ ¬ (65535 : Int32) < c0) (Pr7 : ¬ c1 < 0 ∧ ¬ (65535 : Int32) < c1) (Pr8 : ¬ c2 < 0 ∧ ¬ (65535 : Int32) < c2) : Met l Z consts_1 (⟨"java/lang/String", "<init>", "([C)V"⟩ : MethodName) jdk_42_method_3_code 2 (none) [] RrmU1_3 [x] #[(.ref x), (.ref y)] h0 (QrmU1_3 Z x y ky c0 c1 c2 h0) := by
  have ⟨hw, hEL, O2, P5, O4, P6, OA, OH, OB⟩ := hcx
  refine Met.start (a0 := a0) (Ls := #[vR x, vR y]) pn1 hEL O0 (fun m => by first | (simp [entryFrame, mkF, argsToLocals, Value.category]; done) | rfl) ?_
  intro p e s m below meth cc T0 vm0 X0 sf0_ D hml hret hnm hx zz A0
  have l1 := ltA Pr0.lt
  have l2 := ltA Pr4.lt
  have s3 := sf0_ x (memI (i := 0) rfl)
  refine Gets.via (fun _ k => (XS.aloadN A0 hx rfl (D d1_0) rfl rfl (XS.aloadN A0 hx rfl (D d1_1) rfl rfl (XS.iconst A0 hx rfl (D d1_2) (XS.aloadN A0 hx rfl (D d1_3) rfl rfl k))))) ?_
  refine X0.alen Pr4 rfl rfl (D d1_4) ?_
  refine Gets.via (fun _ k => (XS.aconstNull A0 hx rfl (D d1_5) k)) ?_
  refine X0.callI (y := (⟨"java/lang/String", "<init>", "([CIILjava/lang/Void;)V"⟩ : MethodName)) (W := 0) rfl (w11 hw) (w12 hw) (w14 hw) (by decide) (X0.payM (sf := [x]) (rmU4_3 hcx x y ky c0 c1 c2 h0 X0.old Pr0 Pr1 Pr2 Pr3 Pr4 Pr5 Pr6 Pr7 Pr8) (sfS s3 sf0) (w14 hw) (w7 hw)) rfl (sz hml rfl) (a := x) (argsL := [(.ref y), (.int (0 : Int32)), (.int (3 : Int32)), .null]) (rest := []) (lenOf pd0 rfl) rfl rfl (mroom rfl rfl) (D d1_6) (by decide) (by decide) fun T4 h4 vm4 v4 X4 C4 z4 q4 => ?_
  obtain ⟨t4, kt4, rfl, K4, g4_0⟩ := q4
  have l5 := ltA g4_0.lt
  have l6 := ltA g4_0.lb
  show Gets p e below _ (T4.setTop (mkF m 9 #[vR x, vR y] []))
  exact X4.retV hret (D d1_9) (by decide) (by decide) (fun vmE CE => ⟨t4, kt4, rfl, ((Keep.refl h0 [x]).trans K4 (allS (Or.inl (memI (i := 0) rfl)) all0)), g4_0⟩)
abbrev RrmMax : Room := { frames := 0, cells := 0, slots := 0, locals := 0 }
def QrmMax (Z : State) (i : Nat) (j : Nat) (h0 : Heap) (v : Option Value) (vm : Vm) (h : Heap) : Prop := ∃ (r : Int32), v = some (.int r) ∧ h = h0 ∧ r = Int32.ofNat (max i j)
theorem rmMax (hcx : Cx Z a0 zc fm) (i : Nat) (j : Nat) (h0 : Heap) (O0 : Old Z Z.heap.size h0) (Pr0 : i ≤ 400) (Pr1 : j ≤ 400) : Met l Z consts_1 (⟨"java/lang/Math", "max", "(II)I"⟩ : MethodName) jdk_29_method_65_code 2 (some .int) [] RrmMax [] #[(.int (Int32.ofNat i)), (.int (Int32.ofNat j))] h0 (QrmMax Z i j h0) := by
  have ⟨hw, hEL, O2, P5, O4, P6, OA, OH, OB⟩ := hcx
  refine Met.start (a0 := a0) (Ls := #[vI (Int32.ofNat i), vI (Int32.ofNat j)]) pn22 hEL O0 (fun m => by first | (simp [entryFrame, mkF, argsToLocals, Value.category]; done) | rfl) ?_
  intro p e s m below meth cc T0 vm0 X0 sf0_ D hml hret hnm hx zz A0
  refine Gets.via (fun _ k => (XS.iloadN A0 hx rfl (D d22_0) rfl (XS.iloadN A0 hx rfl (D d22_1) rfl k))) ?_
  by_cases b2 : (Int32.ofNat i) < (Int32.ofNat j)
  · refine Gets.via (fun _ k => (XS.icmpYes A0 hx rfl (pc0 := 2) (pc' := 9) rfl (D d22_2) rfl (Jvm.Free.XT.ii_lt_t b2) (by decide) (by decide) k)) ?_
    refine Gets.via (fun _ k => (XS.iloadN A0 hx rfl (D d22_9) rfl k)) ?_
    exact X0.retI hret rfl (by simp) (D d22_10) (by decide) (by decide) (fun vmE CE => ⟨(Int32.ofNat j), rfl, rfl, (of_maxr (by omega) (by omega) b2)⟩)
  · refine Gets.via (fun _ k => (XS.icmpNo A0 hx rfl (D d22_2) rfl (Jvm.Free.XT.ii_lt_f b2) k)) ?_
    refine Gets.via (fun _ k => (XS.iloadN A0 hx rfl (D d22_5) rfl (XS.goto A0 hx rfl (pc0 := 6) (pc' := 10) rfl (D d22_6) (by decide) (by decide) k))) ?_
    exact X0.retI hret rfl (by simp) (D d22_10) (by decide) (by decide) (fun vmE CE => ⟨(Int32.ofNat i), rfl, rfl, (of_maxl (by omega) (by omega) b2)⟩)
abbrev RrmMinL : Room := { frames := 0, cells := 0, slots := 0, locals := 0 }
def QrmMinL (Z : State) (u : Int32) (w : Int32) (h0 : Heap) (v : Option Value) (vm : Vm) (h : Heap) : Prop := v = some (.int u) ∧ h = h0
theorem rmMinL (hcx : Cx Z a0 zc fm) (u : Int32) (w : Int32) (h0 : Heap) (O0 : Old Z Z.heap.size h0) (Pr0 : ¬ w < u) : Met l Z consts_1 (⟨"java/lang/Math", "min", "(II)I"⟩ : MethodName) jdk_29_method_69_code 2 (some .int) [] RrmMinL [] #[(.int u), (.int w)] h0 (QrmMinL Z u w h0) := by
  have ⟨hw, hEL, O2, P5, O4, P6, OA, OH, OB⟩ := hcx
  refine Met.start (a0 := a0) (Ls := #[vI u, vI w]) pn24 hEL O0 (fun m => by first | (simp [entryFrame, mkF, argsToLocals, Value.category]; done) | rfl) ?_
  intro p e s m below meth cc T0 vm0 X0 sf0_ D hml hret hnm hx zz A0
  refine Gets.via (fun _ k => (XS.iloadN A0 hx rfl (D d24_0) rfl (XS.iloadN A0 hx rfl (D d24_1) rfl (XS.icmpNo A0 hx rfl (D d24_2) rfl (Jvm.Free.XT.ii_gt_f Pr0) k)))) ?_
  refine Gets.via (fun _ k => (XS.iloadN A0 hx rfl (D d24_5) rfl (XS.goto A0 hx rfl (pc0 := 6) (pc' := 10) rfl (D d24_6) (by decide) (by decide) k))) ?_
  exact X0.retI hret rfl (by simp) (D d24_10) (by decide) (by decide) (fun vmE CE => ⟨rfl, rfl⟩)
abbrev RrmNl : Room := { frames := 1, cells := 0, slots := 0, locals := 14 }
def QrmNl (Z : State) (i : Nat) (j : Nat) (n : Nat) (h0 : Heap) (v : Option Value) (vm : Vm) (h : Heap) : Prop := v = some (.int (Int32.ofNat (i + (max j n)))) ∧ h = h0
theorem rmNl (hcx : Cx Z a0 zc fm) (i : Nat) (j : Nat) (n : Nat) (h0 : Heap) (O0 : Old Z Z.heap.size h0) (Pr0 : i ≤ 200) (Pr1 : j ≤ 200) (Pr2 : n ≤ 200) (Pr3 : 0 < n) : Met l Z consts_1 (⟨"jdk/internal/util/ArraysSupport", "newLength", "(III)I"⟩ : MethodName) jdk_48_method_27_code 4 (some .int) [] RrmNl [] #[(.int (Int32.ofNat i)), (.int (Int32.ofNat j)), (.int (Int32.ofNat n))] h0 (QrmNl Z i j n h0) := by
  have ⟨hw, hEL, O2, P5, O4, P6, OA, OH, OB⟩ := hcx
  refine Met.start (a0 := a0) (Ls := #[vI (Int32.ofNat i), vI (Int32.ofNat j), vI (Int32.ofNat n), .unset]) pn21 hEL O0 (fun m => by first | (simp [entryFrame, mkF, argsToLocals, Value.category]; done) | rfl) ?_
  intro p e s m below meth cc T0 vm0 X0 sf0_ D hml hret hnm hx zz A0
  refine Gets.via (fun _ k => (XS.iloadN A0 hx rfl (D d21_0) rfl (XS.iloadN A0 hx rfl (D d21_1) rfl (XS.iloadN A0 hx rfl (D d21_2) rfl k)))) ?_
  refine X0.callS (W := 1) (w118 hw) (w119 hw) (w120 hw) (w121 hw) (by decide) (X0.payM (sf := []) (rmMax hcx j n h0 X0.old (leA (by omega)) (leA (by omega))) sf0 (w121 hw) (w120 hw)) rfl (sz hml rfl) (argsL := [(.int (Int32.ofNat j)), (.int (Int32.ofNat n))]) (rest := [(.int (Int32.ofNat i))]) (lenOf pd12 rfl) rfl rfl (mroom rfl rfl) (D d21_3) (by decide) (by decide) fun T1 h1 vm1 v1 X1 C1 z1 q1 => ?_
  obtain ⟨r1, rfl, K1, rfl⟩ := q1
  rw [K1] at X1 C1
  have A2 := X1.at
  refine Gets.via (fun _ k => (iaddV A2 hx rfl (D d21_6) rfl (v := (Int32.ofNat (i + (max j n)))) (of_add i (max j n)) (XS.istoreN A2 hx rfl (D d21_7) rfl (l' := #[vI (Int32.ofNat i), vI (Int32.ofNat j), vI (Int32.ofNat n), vI (Int32.ofNat (i + (max j n)))]) rfl (XS.iconst A2 hx rfl (D d21_8) (XS.iloadN A2 hx rfl (D d21_9) rfl (XS.icmpNo A2 hx rfl (D d21_10) rfl (Jvm.Free.XT.ii_ge_f (of_lt (a := 0) (by omega) (by omega))) k)))))) ?_
  show Gets p e below _ (T1.setTop (mkF m 13 #[vI (Int32.ofNat i), vI (Int32.ofNat j), vI (Int32.ofNat n), vI (Int32.ofNat (i + (max j n)))] []))
  refine Gets.via (fun _ k => (XS.iloadN A2 hx rfl (D d21_13) rfl k)) ?_
  refine X1.ldcI (w122 hw) rfl (D d21_14) ?_
  refine Gets.via (fun _ k => (XS.icmpNo A2 hx rfl (D d21_16) rfl (Jvm.Free.XT.ii_gt_f (of_nbig (by omega))) k)) ?_
  refine Gets.via (fun _ k => (XS.iloadN A2 hx rfl (D d21_19) rfl k)) ?_
  exact X1.retI hret rfl (by simp) (D d21_20) (by decide) (by decide) (fun vmE CE => ⟨rfl, rfl⟩)
abbrev RrmNc0 : Room := { frames := 2, cells := 0, slots := 0, locals := 29 }
def QrmNc0 (Z : State) (x : Addr) (n : Nat) (d : Addr) (kd : ClassId) (cap : Nat) (vs : List Value) (h0 : Heap) (v : Option Value) (vm : Vm) (h : Heap) : Prop := v = some (.int (Int32.ofNat (cap + max (n - cap) (cap + 2)))) ∧ h = h0
theorem rmNc0 (hcx : Cx Z a0 zc fm) (x : Addr) (n : Nat) (d : Addr) (kd : ClassId) (cap : Nat) (vs : List Value) (h0 : Heap) (O0 : Old Z Z.heap.size h0) (Pr0 : Exa Z h0 x "java/lang/StringBuilder") (Pr1 : Fld Z h0 x "java/lang/AbstractStringBuilder" "value" "[B" (.ref d)) (Pr2 : Fld Z h0 x "java/lang/AbstractStringBuilder" "coder" "B" (.int (0 : Int32))) (Pr3 : Arv Z h0 d kd .byte (Int32.ofNat cap) vs (.int (0 : Int32))) (Pr4 : cap < n) (Pr5 : n ≤ 40) : Met l Z consts_1 (⟨"java/lang/AbstractStringBuilder", "newCapacity", "(I)I"⟩ : MethodName) jdk_68_method_10_code 6 (some .int) [] RrmNc0 [] #[(.ref x), (.int (Int32.ofNat n))] h0 (QrmNc0 Z x n d kd cap vs h0) := by
  have ⟨hw, hEL, O2, P5, O4, P6, OA, OH, OB⟩ := hcx
  refine Met.start (a0 := a0) (Ls := #[vR x, vI (Int32.ofNat n), .unset, .unset, .unset, .unset]) pn20 hEL O0 (fun m => by first | (simp [entryFrame, mkF, argsToLocals, Value.category]; done) | rfl) ?_
  intro p e s m below meth cc T0 vm0 X0 sf0_ D hml hret hnm hx zz A0
  have l1 := ltA Pr0.lt
  have l2 := ltA Pr3.lt
  refine Gets.via (fun _ k => (XS.aloadN A0 hx rfl (D d20_0) rfl rfl k)) ?_
  refine X0.getF (host := "") (Or.inl (w62 hw)) Via.refl Pr1 rfl rfl (D d20_1) fun T3 X3 => ?_
  refine X3.alen Pr3 rfl rfl (D d20_4) ?_
  have A4 := X3.at
  refine Gets.via (fun _ k => (XS.istoreN A4 hx rfl (D d20_5) rfl (l' := #[vR x, vI (Int32.ofNat n), vI (Int32.ofNat cap), .unset, .unset, .unset]) rfl (XS.iloadN A4 hx rfl (D d20_6) rfl (XS.aloadN A4 hx rfl (D d20_7) rfl rfl k)))) ?_
  show Gets p e below _ (T3.setTop (mkF m 8 #[vR x, vI (Int32.ofNat n), vI (Int32.ofNat cap), .unset, .unset, .unset] [(.ref x), (.int (Int32.ofNat n))]))
  refine X3.getF (host := "") (Or.inl (w64 hw)) Via.refl Pr2 rfl rfl (D d20_8) fun T5 X5 => ?_
  have A6 := X5.at
  refine Gets.via (fun _ k => (ishlV A6 hx rfl (D d20_11) rfl (v := (Int32.ofNat n)) (shl0 _) (XS.istoreN A6 hx rfl (D d20_12) rfl (l' := #[vR x, vI (Int32.ofNat n), vI (Int32.ofNat cap), vI (Int32.ofNat n), .unset, .unset]) rfl (XS.iloadN A6 hx rfl (D d20_13) rfl (XS.iloadN A6 hx rfl (D d20_14) rfl (isubV A6 hx rfl (D d20_15) rfl (v := (Int32.ofNat (n - cap))) (of_sub (by omega) (by omega)) (XS.istore A6 hx rfl (D d20_16) rfl (l' := #[vR x, vI (Int32.ofNat n), vI (Int32.ofNat cap), vI (Int32.ofNat n), vI (Int32.ofNat (n - cap)), .unset]) rfl k))))))) ?_
  refine Gets.via (fun _ k => (XS.iloadN A6 hx rfl (D d20_18) rfl (XS.iload A6 hx rfl (D d20_19) rfl (XS.iloadN A6 hx rfl (D d20_21) rfl (XS.iconst A6 hx rfl (D d20_22) (XS.aloadN A6 hx rfl (D d20_23) rfl rfl k)))))) ?_
  show Gets p e below _ (T5.setTop (mkF m 24 #[vR x, vI (Int32.ofNat n), vI (Int32.ofNat cap), vI (Int32.ofNat n), vI (Int32.ofNat (n - cap)), .unset] [(.ref x), (.int (2 : Int32)), (.int (Int32.ofNat cap)), (.int (Int32.ofNat (n - cap))), (.int (Int32.ofNat cap))]))
  refine X5.getF (host := "") (Or.inl (w64 hw)) Via.refl Pr2 rfl rfl (D d20_24) fun T7 X7 => ?_
  have A8 := X7.at
  refine Gets.via (fun _ k => (ishlV A8 hx rfl (D d20_27) rfl (v := (2 : Int32)) (by decide) (iaddV A8 hx rfl (D d20_28) rfl (v := (Int32.ofNat (cap + 2))) (of_add cap 2) k))) ?_
  refine X7.callS (W := 0) (w114 hw) (w115 hw) (w116 hw) (w117 hw) (by decide) (X7.payM (sf := []) (rmNl hcx cap (n - cap) (cap + 2) h0 X7.old (leA (by omega)) (leA (by omega)) (leA (by omega)) (by first | assumption | omega)) sf0 (w117 hw) (w116 hw)) rfl (sz hml rfl) (argsL := [(.int (Int32.ofNat cap)), (.int (Int32.ofNat (n - cap))), (.int (Int32.ofNat (cap + 2)))]) (rest := []) (lenOf pd13 rfl) rfl rfl (mroom rfl rfl) (D d20_29) (by decide) (by decide) fun T9 h9 vm9 v9 X9 C9 z9 q9 => ?_
  obtain ⟨rfl, K9⟩ := q9
  rw [K9] at X9 C9
  have A10 := X9.at
  refine Gets.via (fun _ k => (XS.istore A10 hx rfl (D d20_32) rfl (l' := #[vR x, vI (Int32.ofNat n), vI (Int32.ofNat cap), vI (Int32.ofNat n), vI (Int32.ofNat (n - cap)), vI (Int32.ofNat (cap + (max (n - cap) (cap + 2))))]) rfl (XS.iload A10 hx rfl (D d20_34) rfl k))) ?_
  refine X9.ldcI (w123 hw) rfl (D d20_36) ?_
  show Gets p e below _ (T9.setTop (mkF m 38 #[vR x, vI (Int32.ofNat n), vI (Int32.ofNat cap), vI (Int32.ofNat n), vI (Int32.ofNat (n - cap)), vI (Int32.ofNat (cap + (max (n - cap) (cap + 2))))] [(.int (2147483647 : Int32)), (.int (Int32.ofNat (cap + (max (n - cap) (cap + 2)))))]))
  refine Gets.via (fun _ k => (XS.icmpYes A10 hx rfl (pc0 := 38) (pc' := 51) rfl (D d20_38) rfl (Jvm.Free.XT.ii_ne_t (of_nmax (by omega))) (by decide) (by decide) k)) ?_
  refine Gets.via (fun _ k => (XS.iload A10 hx rfl (D d20_51) rfl (XS.aloadN A10 hx rfl (D d20_53) rfl rfl k))) ?_
  refine X9.getF (host := "") (Or.inl (w64 hw)) Via.refl Pr2 rfl rfl (D d20_54) fun T12 X12 => ?_
  have A13 := X12.at
  refine Gets.via (fun _ k => (ishrV A13 hx rfl (D d20_57) rfl (v := (Int32.ofNat (cap + (max (n - cap) (cap + 2))))) (shr0 _) k)) ?_
  exact X12.retI hret rfl (by simp) (D d20_58) (by decide) (by decide) (fun vmE CE => ⟨rfl, rfl⟩)
abbrev RrmNc1 : Room := { frames := 2, cells := 0, slots := 0, locals := 29 }
def QrmNc1 (Z : State) (x : Addr) (n : Nat) (d : Addr) (kd : ClassId) (cap : Nat) (vs : List Value) (h0 : Heap) (v : Option Value) (vm : Vm) (h : Heap) : Prop := v = some (.int (Int32.ofNat (cap + max (n - cap) (cap + 2)))) ∧ h = h0
theorem rmNc1 (hcx : Cx Z a0 zc fm) (x : Addr) (n : Nat) (d : Addr) (kd : ClassId) (cap : Nat) (vs : List Value) (h0 : Heap) (O0 : Old Z Z.heap.size h0) (Pr0 : Exa Z h0 x "java/lang/StringBuilder") (Pr1 : Fld Z h0 x "java/lang/AbstractStringBuilder" "value" "[B" (.ref d)) (Pr2 : Fld Z h0 x "java/lang/AbstractStringBuilder" "coder" "B" (.int (1 : Int32))) (Pr3 : Arv Z h0 d kd .byte (Int32.ofNat (2 * cap)) vs (.int (0 : Int32))) (Pr4 : cap < n) (Pr5 : n ≤ 40) : Met l Z consts_1 (⟨"java/lang/AbstractStringBuilder", "newCapacity", "(I)I"⟩ : MethodName) jdk_68_method_10_code 6 (some .int) [] RrmNc1 [] #[(.ref x), (.int (Int32.ofNat n))] h0 (QrmNc1 Z x n d kd cap vs h0) := by
  have ⟨hw, hEL, O2, P5, O4, P6, OA, OH, OB⟩ := hcx
  refine Met.start (a0 := a0) (Ls := #[vR x, vI (Int32.ofNat n), .unset, .unset, .unset, .unset]) pn20 hEL O0 (fun m => by first | (simp [entryFrame, mkF, argsToLocals, Value.category]; done) | rfl) ?_
  intro p e s m below meth cc T0 vm0 X0 sf0_ D hml hret hnm hx zz A0
  have l1 := ltA Pr0.lt
  have l2 := ltA Pr3.lt
  refine Gets.via (fun _ k => (XS.aloadN A0 hx rfl (D d20_0) rfl rfl k)) ?_
  refine X0.getF (host := "") (Or.inl (w62 hw)) Via.refl Pr1 rfl rfl (D d20_1) fun T3 X3 => ?_
  refine X3.alen Pr3 rfl rfl (D d20_4) ?_
  have A4 := X3.at
  refine Gets.via (fun _ k => (XS.istoreN A4 hx rfl (D d20_5) rfl (l' := #[vR x, vI (Int32.ofNat n), vI (Int32.ofNat (2 * cap)), .unset, .unset, .unset]) rfl (XS.iloadN A4 hx rfl (D d20_6) rfl (XS.aloadN A4 hx rfl (D d20_7) rfl rfl k)))) ?_
  show Gets p e below _ (T3.setTop (mkF m 8 #[vR x, vI (Int32.ofNat n), vI (Int32.ofNat (2 * cap)), .unset, .unset, .unset] [(.ref x), (.int (Int32.ofNat n))]))
  refine X3.getF (host := "") (Or.inl (w64 hw)) Via.refl Pr2 rfl rfl (D d20_8) fun T5 X5 => ?_
  have A6 := X5.at
  refine Gets.via (fun _ k => (ishlV A6 hx rfl (D d20_11) rfl (v := (Int32.ofNat (2 * n))) (shl1 _) (XS.istoreN A6 hx rfl (D d20_12) rfl (l' := #[vR x, vI (Int32.ofNat n), vI (Int32.ofNat (2 * cap)), vI (Int32.ofNat (2 * n)), .unset, .unset]) rfl (XS.iloadN A6 hx rfl (D d20_13) rfl (XS.iloadN A6 hx rfl (D d20_14) rfl (isubV A6 hx rfl (D d20_15) rfl (v := (Int32.ofNat ((2 * n) - (2 * cap)))) (of_sub (by omega) (by omega)) (XS.istore A6 hx rfl (D d20_16) rfl (l' := #[vR x, vI (Int32.ofNat n), vI (Int32.ofNat (2 * cap)), vI (Int32.ofNat (2 * n)), vI (Int32.ofNat ((2 * n) - (2 * cap))), .unset]) rfl k))))))) ?_
  refine Gets.via (fun _ k => (XS.iloadN A6 hx rfl (D d20_18) rfl (XS.iload A6 hx rfl (D d20_19) rfl (XS.iloadN A6 hx rfl (D d20_21) rfl (XS.iconst A6 hx rfl (D d20_22) (XS.aloadN A6 hx rfl (D d20_23) rfl rfl k)))))) ?_
  show Gets p e below _ (T5.setTop (mkF m 24 #[vR x, vI (Int32.ofNat n), vI (Int32.ofNat (2 * cap)), vI (Int32.ofNat (2 * n)), vI (Int32.ofNat ((2 * n) - (2 * cap))), .unset] [(.ref x), (.int (2 : Int32)), (.int (Int32.ofNat (2 * cap))), (.int (Int32.ofNat ((2 * n) - (2 * cap)))), (.int (Int32.ofNat (2 * cap)))]))
  refine X5.getF (host := "") (Or.inl (w64 hw)) Via.refl Pr2 rfl rfl (D d20_24) fun T7 X7 => ?_
  have A8 := X7.at
  refine Gets.via (fun _ k => (ishlV A8 hx rfl (D d20_27) rfl (v := (4 : Int32)) (by decide) (iaddV A8 hx rfl (D d20_28) rfl (v := (Int32.ofNat ((2 * cap) + 4))) (of_add (2 * cap) 4) k))) ?_
  refine X7.callS (W := 0) (w114 hw) (w115 hw) (w116 hw) (w117 hw) (by decide) (X7.payM (sf := []) (rmNl hcx (2 * cap) ((2 * n) - (2 * cap)) ((2 * cap) + 4) h0 X7.old (leA (by omega)) (leA (by omega)) (leA (by omega)) (by first | assumption | omega)) sf0 (w117 hw) (w116 hw)) rfl (sz hml rfl) (argsL := [(.int (Int32.ofNat (2 * cap))), (.int (Int32.ofNat ((2 * n) - (2 * cap)))), (.int (Int32.ofNat ((2 * cap) + 4)))]) (rest := []) (lenOf pd13 rfl) rfl rfl (mroom rfl rfl) (D d20_29) (by decide) (by decide) fun T9 h9 vm9 v9 X9 C9 z9 q9 => ?_
  obtain ⟨rfl, K9⟩ := q9
  rw [K9] at X9 C9
  have A10 := X9.at
  refine Gets.via (fun _ k => (XS.istore A10 hx rfl (D d20_32) rfl (l' := #[vR x, vI (Int32.ofNat n), vI (Int32.ofNat (2 * cap)), vI (Int32.ofNat (2 * n)), vI (Int32.ofNat ((2 * n) - (2 * cap))), vI (Int32.ofNat ((2 * cap) + (max ((2 * n) - (2 * cap)) ((2 * cap) + 4))))]) rfl (XS.iload A10 hx rfl (D d20_34) rfl k))) ?_
  refine X9.ldcI (w123 hw) rfl (D d20_36) ?_
  show Gets p e below _ (T9.setTop (mkF m 38 #[vR x, vI (Int32.ofNat n), vI (Int32.ofNat (2 * cap)), vI (Int32.ofNat (2 * n)), vI (Int32.ofNat ((2 * n) - (2 * cap))), vI (Int32.ofNat ((2 * cap) + (max ((2 * n) - (2 * cap)) ((2 * cap) + 4))))] [(.int (2147483647 : Int32)), (.int (Int32.ofNat ((2 * cap) + (max ((2 * n) - (2 * cap)) ((2 * cap) + 4)))))]))
  refine Gets.via (fun _ k => (XS.icmpYes A10 hx rfl (pc0 := 38) (pc' := 51) rfl (D d20_38) rfl (Jvm.Free.XT.ii_ne_t (of_nmax (by omega))) (by decide) (by decide) k)) ?_
  refine Gets.via (fun _ k => (XS.iload A10 hx rfl (D d20_51) rfl k)) ?_
  show Gets p e below _ (T9.setTop (mkF m 53 #[vR x, vI (Int32.ofNat n), vI (Int32.ofNat (2 * cap)), vI (Int32.ofNat (2 * n)), vI (Int32.ofNat ((2 * n) - (2 * cap))), vI (Int32.ofNat ((2 * cap) + (max ((2 * n) - (2 * cap)) ((2 * cap) + 4))))] [(.int (Int32.ofNat ((2 * cap) + (max ((2 * n) - (2 * cap)) ((2 * cap) + 4)))))]))
  rw [show ((2 * cap) + (max ((2 * n) - (2 * cap)) ((2 * cap) + 4))) = 2 * (cap + max (n - cap) (cap + 2)) by omega]
  show Gets p e below _ (T9.setTop (mkF m 53 #[vR x, vI (Int32.ofNat n), vI (Int32.ofNat (2 * cap)), vI (Int32.ofNat (2 * n)), vI (Int32.ofNat ((2 * n) - (2 * cap))), vI (Int32.ofNat (2 * (cap + max (n - cap) (cap + 2))))] [(.int (Int32.ofNat (2 * (cap + max (n - cap) (cap + 2)))))]))
  refine Gets.via (fun _ k => (XS.aloadN A10 hx rfl (D d20_53) rfl rfl k)) ?_
  refine X9.getF (host := "") (Or.inl (w64 hw)) Via.refl Pr2 rfl rfl (D d20_54) fun T12 X12 => ?_
  have A13 := X12.at
  refine Gets.via (fun _ k => (ishrV A13 hx rfl (D d20_57) rfl (v := (Int32.ofNat (cap + max (n - cap) (cap + 2)))) (shr1 (by omega)) k)) ?_
  exact X12.retI hret rfl (by simp) (D d20_58) (by decide) (by decide) (fun vmE CE => ⟨rfl, rfl⟩)
abbrev RrmCpo : Room := { frames := 1, cells := 1, slots := 100, locals := 22 }
def QrmCpo (Z : State) (b : Addr) (kb : ClassId) (i : Nat) (j : Nat) (vs : List Value) (h0 : Heap) (v : Option Value) (vm : Vm) (h : Heap) : Prop := ∃ (t : Addr) (kt : ClassId), v = some (.ref t) ∧ Keep h0 h [] ∧ Arv Z h t kt .byte (Int32.ofNat j) vs (.int (0 : Int32)) ∧ Exa Z h t "[B" ∧ Safe Z consts_1 vm h t ∧ h0.size ≤ t
theorem rmCpo (hcx : Cx Z a0 zc fm) (b : Addr) (kb : ClassId) (i : Nat) (j : Nat) (vs : List Value) (h0 : Heap) (O0 : Old Z Z.heap.size h0) (Pr0 : Arv Z h0 b kb .byte (Int32.ofNat i) vs (.int (0 : Int32))) (Pr1 : vs.length ≤ i) (Pr2 : i < j) (Pr3 : j ≤ 100) : Met l Z consts_1 (⟨"java/util/Arrays", "copyOf", "([BI)[B"⟩ : MethodName) jdk_65_method_121_code 3 (some (.array .byte)) [] RrmCpo [] #[(.ref b), (.int (Int32.ofNat j))] h0 (QrmCpo Z b kb i j vs h0) := by
  have ⟨hw, hEL, O2, P5, O4, P6, OA, OH, OB⟩ := hcx
  refine Met.start (a0 := a0) (Ls := #[vR b, vI (Int32.ofNat j), .unset]) pn23 hEL O0 (fun m => by first | (simp [entryFrame, mkF, argsToLocals, Value.category]; done) | rfl) ?_
  intro p e s m below meth cc T0 vm0 X0 sf0_ D hml hret hnm hx zz A0
  have l1 := ltA Pr0.lt
  have u2 : ¬ (Int32.ofNat j) < (Int32.ofNat i) := of_nlt (by omega) (by omega) (by omega)
  refine Gets.via (fun _ k => (XS.iloadN A0 hx rfl (D d23_0) rfl (XS.aloadN A0 hx rfl (D d23_1) rfl rfl k))) ?_
  refine X0.alen Pr0 rfl rfl (D d23_2) ?_
  refine Gets.via (fun _ k => (XS.icmpYes A0 hx rfl (pc0 := 3) (pc' := 14) rfl (D d23_3) rfl (Jvm.Free.XT.ii_ne_t (fun q => absurd (of_inj (by omega) (by omega) q) (by omega))) (by decide) (by decide) k)) ?_
  refine Gets.via (fun _ k => (XS.iloadN A0 hx rfl (D d23_14) rfl k)) ?_
  refine X0.newAB (w23 hw) rfl (D d23_15) rfl (of_pos (by omega)) (cap := 100) (by rw [toN (by omega)]; omega) (by decide) (by decide) (by decide) fun T3 h3 a3 k3 X3 C3 E3 g3 S3 V3 Z3 => ?_
  have z3 := E3.1
  have l3 := ltA V3.lt
  show Gets p e below _ (T3.setTop (mkF m 17 #[vR b, vI (Int32.ofNat j), .unset] [(.ref a3)]))
  have A4 := X3.at
  refine Gets.via (fun _ k => (XS.astoreN A4 hx rfl (D d23_17) rfl rfl (l' := #[vR b, vI (Int32.ofNat j), vR a3]) rfl (XS.aloadN A4 hx rfl (D d23_18) rfl rfl (XS.iconst A4 hx rfl (D d23_19) (XS.aloadN A4 hx rfl (D d23_20) rfl rfl (XS.iconst A4 hx rfl (D d23_21) (XS.aloadN A4 hx rfl (D d23_22) rfl rfl k))))))) ?_
  have f5 := Pr0.ext E3
  refine X3.alen f5 rfl rfl (D d23_23) ?_
  refine Gets.via (fun _ k => (XS.iloadN A4 hx rfl (D d23_24) rfl k)) ?_
  refine X3.callS (W := 4) (w128 hw) (w129 hw) (w120 hw) (w130 hw) (by decide) (X3.payM (sf := []) (rmMinL hcx (Int32.ofNat i) (Int32.ofNat j) h3 X3.old u2) sf0 (w130 hw) (w120 hw)) rfl (sz hml rfl) (argsL := [(.int (Int32.ofNat i)), (.int (Int32.ofNat j))]) (rest := [(.int (0 : Int32)), (.ref a3), (.int (0 : Int32)), (.ref b)]) (lenOf pd12 rfl) rfl rfl (mroom rfl rfl) (D d23_25) (by decide) (by decide) fun T6 h6 vm6 v6 X6 C6 z6 q6 => ?_
  obtain ⟨rfl, K6⟩ := q6
  rw [K6] at X6 C6
  show Gets p e below _ (T6.setTop (mkF m 28 #[vR b, vI (Int32.ofNat j), vR a3] [(.int (Int32.ofNat i)), (.int (0 : Int32)), (.ref a3), (.int (0 : Int32)), (.ref b)]))
  have f8 := C6.safe (x := a3) (ltA (by omega)) S3
  refine X6.copy (w131 hw) (w134 hw) (w132 hw) (w133 hw) f5 (V3.pad (pad_rep _ _ 100)) (Or.inl ⟨rfl, rfl⟩) (by decide) (by decide) (of_pos (by omega)) (by rw [toN (by omega)]; exact Nat.le_of_eq (Nat.zero_add _)) (by rw [toN (by omega), toN (by omega), show (0 : Int32).toNatClampNeg = 0 from rfl]; omega) rfl (by rw [toN (by omega), List.length_append, List.length_replicate, show (0 : Int32).toNatClampNeg = 0 from rfl]; simp; omega) (leA (by omega)) f8 rfl (sz hml rfl) rfl (D d23_28) (by decide) (W := 0) (mroom rfl rfl) (by decide) fun T7 h7 X7 C7 K7 V7 => ?_
  have z7 := K7.1
  have V7_ : Arv Z h7 a3 k3 .byte (Int32.ofNat j) vs (.int (0 : Int32)) := cpyZ V7 rfl rfl (toN (by omega)) (by omega)
  have A9 := X7.at
  refine Gets.via (fun _ k => (XS.aloadN A9 hx rfl (D d23_31) rfl rfl k)) ?_
  have f10 := Z3.keep K7
  have f11 := C7.safe (x := a3) (ltA (by omega)) f8
  exact X7.retA hret rfl rfl rfl (D d23_32) (by decide) (by decide) (fun vmE CE => ⟨a3, k3, rfl, (((Keep.refl h0 []).ext E3).trans K7 (allS (Or.inr (leA (by omega))) all0)), V7_, f10, CE.safe (x := a3) (ltA (by omega)) f11, (leA (by omega))⟩)
abbrev RrmEnN0 : Room := { frames := 0, cells := 0, slots := 0, locals := 0 }
def QrmEnN0 (Z : State) (x : Addr) (n : Nat) (d : Addr) (kd : ClassId) (cap : Nat) (vs : List Value) (h0 : Heap) (v : Option Value) (vm : Vm) (h : Heap) : Prop := v = none ∧ h = h0
theorem rmEnN0 (hcx : Cx Z a0 zc fm) (x : Addr) (n : Nat) (d : Addr) (kd : ClassId) (cap : Nat) (vs : List Value) (h0 : Heap) (O0 : Old Z Z.heap.size h0) (Pr0 : Exa Z h0 x "java/lang/StringBuilder") (Pr1 : Fld Z h0 x "java/lang/AbstractStringBuilder" "value" "[B" (.ref d)) (Pr2 : Fld Z h0 x "java/lang/AbstractStringBuilder" "coder" "B" (.int (0 : Int32))) (Pr3 : Arv Z h0 d kd .byte (Int32.ofNat cap) vs (.int (0 : Int32))) (Pr4 : n ≤ cap) (Pr5 : cap ≤ 90) : Met l Z consts_1 (⟨"java/lang/AbstractStringBuilder", "ensureCapacityInternal", "(I)V"⟩ : MethodName) jdk_68_method_9_code 3 (none) [] RrmEnN0 [] #[(.ref x), (.int (Int32.ofNat n))] h0 (QrmEnN0 Z x n d kd cap vs h0) := by
  have ⟨hw, hEL, O2, P5, O4, P6, OA, OH, OB⟩ := hcx
  refine Met.start (a0 := a0) (Ls := #[vR x, vI (Int32.ofNat n), .unset]) pn19 hEL O0 (fun m => by first | (simp [entryFrame, mkF, argsToLocals, Value.category]; done) | rfl) ?_
  intro p e s m below meth cc T0 vm0 X0 sf0_ D hml hret hnm hx zz A0
  have l1 := ltA Pr0.lt
  have l2 := ltA Pr3.lt
  refine Gets.via (fun _ k => (XS.aloadN A0 hx rfl (D d19_0) rfl rfl k)) ?_
  refine X0.getF (host := "") (Or.inl (w62 hw)) Via.refl Pr1 rfl rfl (D d19_1) fun T3 X3 => ?_
  refine X3.alen Pr3 rfl rfl (D d19_4) ?_
  have A4 := X3.at
  refine Gets.via (fun _ k => (XS.aloadN A4 hx rfl (D d19_5) rfl rfl k)) ?_
  refine X3.getF (host := "") (Or.inl (w64 hw)) Via.refl Pr2 rfl rfl (D d19_6) fun T5 X5 => ?_
  show Gets p e below _ (T5.setTop (mkF m 9 #[vR x, vI (Int32.ofNat n), .unset] [(.int (0 : Int32)), (.int (Int32.ofNat cap))]))
  have A6 := X5.at
  refine Gets.via (fun _ k => (ishrV A6 hx rfl (D d19_9) rfl (v := (Int32.ofNat cap)) (shr0 _) (XS.istoreN A6 hx rfl (D d19_10) rfl (l' := #[vR x, vI (Int32.ofNat n), vI (Int32.ofNat cap)]) rfl (XS.iloadN A6 hx rfl (D d19_11) rfl (XS.iloadN A6 hx rfl (D d19_12) rfl (XS.isub A6 hx rfl (D d19_13) rfl (XS.ifYes A6 hx rfl (pc0 := 14) (pc' := 38) rfl (D d19_14) rfl (Jvm.Free.XT.i0_le_t (sub_np (by omega) (by omega))) (by decide) (by decide) k))))))) ?_
  exact X5.retV hret (D d19_38) (by decide) (by decide) (fun vmE CE => ⟨rfl, rfl⟩)
abbrev RrmEnG0 : Room := { frames := 3, cells := 1, slots := 100, locals := 48 }
def QrmEnG0 (Z : State) (x : Addr) (n : Nat) (d : Addr) (kd : ClassId) (cap : Nat) (vs : List Value) (cn : Int32) (h0 : Heap) (v : Option Value) (vm : Vm) (h : Heap) : Prop := ∃ (t : Addr) (kt : ClassId), v = none ∧ Keep h0 h [x] ∧ Exa Z h x "java/lang/StringBuilder" ∧ Fld Z h x "java/lang/AbstractStringBuilder" "value" "[B" (.ref t) ∧ Fld Z h x "java/lang/AbstractStringBuilder" "coder" "B" (.int (0 : Int32)) ∧ Fld Z h x "java/lang/AbstractStringBuilder" "count" "I" (.int cn) ∧ Fld Z h x "java/lang/AbstractStringBuilder" "maybeLatin1" "Z" (.int (0 : Int32)) ∧ Arv Z h t kt .byte (Int32.ofNat (cap + max (n - cap) (cap + 2))) vs (.int (0 : Int32)) ∧ Exa Z h t "[B" ∧ Safe Z consts_1 vm h t ∧ h0.size ≤ t
theorem rmEnG0 (hcx : Cx Z a0 zc fm) (x : Addr) (n : Nat) (d : Addr) (kd : ClassId) (cap : Nat) (vs : List Value) (cn : Int32) (h0 : Heap) (O0 : Old Z Z.heap.size h0) (Pr0 : Exa Z h0 x "java/lang/StringBuilder") (Pr1 : Fld Z h0 x "java/lang/AbstractStringBuilder" "value" "[B" (.ref d)) (Pr2 : Fld Z h0 x "java/lang/AbstractStringBuilder" "coder" "B" (.int (0 : Int32))) (Pr3 : Arv Z h0 d kd .byte (Int32.ofNat cap) vs (.int (0 : Int32))) (Pr4 : Fld Z h0 x "java/lang/AbstractStringBuilder" "count" "I" (.int cn)) (Pr5 : Fld Z h0 x "java/lang/AbstractStringBuilder" "maybeLatin1" "Z" (.int (0 : Int32))) (Pr6 : vs.length ≤ cap) (Pr7 : cap < n) (Pr8 : n ≤ 24) (Pr9 : Z.heap.size ≤ x) : Met l Z consts_1 (⟨"java/lang/AbstractStringBuilder", "ensureCapacityInternal", "(I)V"⟩ : MethodName) jdk_68_method_9_code 3 (none) [] RrmEnG0 [] #[(.ref x), (.int (Int32.ofNat n))] h0 (QrmEnG0 Z x n d kd cap vs cn h0) := by
  have ⟨hw, hEL, O2, P5, O4, P6, OA, OH, OB⟩ := hcx
  refine Met.start (a0 := a0) (Ls := #[vR x, vI (Int32.ofNat n), .unset]) pn19 hEL O0 (fun m => by first | (simp [entryFrame, mkF, argsToLocals, Value.category]; done) | rfl) ?_
  intro p e s m below meth cc T0 vm0 X0 sf0_ D hml hret hnm hx zz A0
  have l1 := ltA Pr0.lt
  have l2 := ltA Pr3.lt
  refine Gets.via (fun _ k => (XS.aloadN A0 hx rfl (D d19_0) rfl rfl k)) ?_
  refine X0.getF (host := "") (Or.inl (w62 hw)) Via.refl Pr1 rfl rfl (D d19_1) fun T3 X3 => ?_
  refine X3.alen Pr3 rfl rfl (D d19_4) ?_
  have A4 := X3.at
  refine Gets.via (fun _ k => (XS.aloadN A4 hx rfl (D d19_5) rfl rfl k)) ?_
  refine X3.getF (host := "") (Or.inl (w64 hw)) Via.refl Pr2 rfl rfl (D d19_6) fun T5 X5 => ?_
  show Gets p e below _ (T5.setTop (mkF m 9 #[vR x, vI (Int32.ofNat n), .unset] [(.int (0 : Int32)), (.int (Int32.ofNat cap))]))
  have A6 := X5.at
  refine Gets.via (fun _ k => (ishrV A6 hx rfl (D d19_9) rfl (v := (Int32.ofNat cap)) (shr0 _) (XS.istoreN A6 hx rfl (D d19_10) rfl (l' := #[vR x, vI (Int32.ofNat n), vI (Int32.ofNat cap)]) rfl (XS.iloadN A6 hx rfl (D d19_11) rfl (XS.iloadN A6 hx rfl (D d19_12) rfl (isubV A6 hx rfl (D d19_13) rfl (v := (Int32.ofNat (n - cap))) (of_sub (by omega) (by omega)) (XS.ifNo A6 hx rfl (D d19_14) rfl (Jvm.Free.XT.i0_le_f (of_lt (a := 0) (by omega) (by omega))) k))))))) ?_
  refine Gets.via (fun _ k => (XS.aloadN A6 hx rfl (D d19_17) rfl rfl (XS.aloadN A6 hx rfl (D d19_18) rfl rfl k))) ?_
  refine X5.getF (host := "") (Or.inl (w62 hw)) Via.refl Pr1 rfl rfl (D d19_19) fun T7 X7 => ?_
  have A8 := X7.at
  refine Gets.via (fun _ k => (XS.aloadN A8 hx rfl (D d19_22) rfl rfl (XS.iloadN A8 hx rfl (D d19_23) rfl k))) ?_
  show Gets p e below _ (T7.setTop (mkF m 24 #[vR x, vI (Int32.ofNat n), vI (Int32.ofNat cap)] [(.int (Int32.ofNat n)), (.ref x), (.ref d), (.ref x)]))
  refine X7.callP (W := 2) (w109 hw) (w110 hw) (w112 hw) (w111 hw) (w113 hw) (by decide) (X7.payM (sf := []) (rmNc0 hcx x n d kd cap vs h0 X7.old Pr0 Pr1 Pr2 Pr3 Pr7 (leA (by omega))) sf0 (w113 hw) (w58 hw)) Pr0 rfl (sz hml rfl) (argsL := [(.int (Int32.ofNat n))]) (rest := [(.ref d), (.ref x)]) (lenOf pd6 rfl) rfl rfl (mroom rfl rfl) (D d19_24) (by decide) (by decide) fun T9 h9 vm9 v9 X9 C9 z9 q9 => ?_
  obtain ⟨rfl, K9⟩ := q9
  rw [K9] at X9 C9
  have A10 := X9.at
  refine Gets.via (fun _ k => (XS.aloadN A10 hx rfl (D d19_27) rfl rfl k)) ?_
  refine X9.getF (host := "") (Or.inl (w64 hw)) Via.refl Pr2 rfl rfl (D d19_28) fun T11 X11 => ?_
  have A12 := X11.at
  refine Gets.via (fun _ k => (ishlV A12 hx rfl (D d19_31) rfl (v := (Int32.ofNat (cap + max (n - cap) (cap + 2)))) (shl0 _) k)) ?_
  refine X11.callS (W := 1) (w124 hw) (w125 hw) (w126 hw) (w127 hw) (by decide) (X11.payM (sf := []) (rmCpo hcx d kd cap (cap + max (n - cap) (cap + 2)) vs h0 X11.old Pr3 Pr6 (by first | assumption | omega) (leA (by omega))) sf0 (w127 hw) (w126 hw)) rfl (sz hml rfl) (argsL := [(.ref d), (.int (Int32.ofNat (cap + max (n - cap) (cap + 2))))]) (rest := [(.ref x)]) (lenOf pd14 rfl) rfl rfl (mroom rfl rfl) (D d19_32) (by decide) (by decide) fun T13 h13 vm13 v13 X13 C13 z13 q13 => ?_
  obtain ⟨t13, kt13, rfl, K13, g13_0, g13_1, g13_2, g13_3⟩ := q13
  have l14 := ltA g13_0.lt
  have f16 := Pr1.keep K13 nin0
  have f17 := Pr0.keep K13
  refine X13.putF (host := "") (Or.inl (w62 hw)) Via.refl f16 f17 (Or.inl (w63 hw)) (w39 hw) (ty := (.array .byte)) (by decide) rfl rfl (leA (by omega)) (Safe.exa X13.hZ.alike f17 (by decide) (by decide)) rfl rfl (D d19_35) fun T15 h15 X15 C15 W15 F15 Z15 => ?_
  have z15 := W15.size
  show Gets p e below _ (T15.setTop (mkF m 38 #[vR x, vI (Int32.ofNat n), vI (Int32.ofNat cap)] []))
  have f18 := Pr2.keep K13 nin0
  have f19 := f18.other W15 (Or.inr (slot_ne (t := .byte) (t' := (.array .byte)) (Or.inl (w65 hw)) (Or.inl (w63 hw)) (by decide) (by decide) (by decide)))
  have f20 := Pr4.keep K13 nin0
  have f21 := f20.other W15 (Or.inr (slot_ne (t := .int) (t' := (.array .byte)) (Or.inl (w103 hw)) (Or.inl (w63 hw)) (by decide) (by decide) (by decide)))
  have f22 := Pr5.keep K13 nin0
  have f23 := f22.other W15 (Or.inr (slot_ne (t := .boolean) (t' := (.array .byte)) (Or.inl (w296 hw)) (Or.inl (w63 hw)) (by decide) (by decide) (by decide)))
  have f24 := g13_0.other W15 (neA (by omega))
  have f25 := g13_1.wr W15
  have f26 := C15.safe (x := t13) (ltA (by omega)) g13_2
  exact X15.retV hret (D d19_38) (by decide) (by decide) (fun vmE CE => ⟨t13, kt13, rfl, (((Keep.refl h0 [x]).trans K13 all0).wr W15 (Or.inl (memI (i := 0) rfl))), Z15, F15, f19, f21, f23, f24, f25, CE.safe (x := t13) (ltA (by omega)) f26, g13_3⟩)
abbrev RrmEnN1 : Room := { frames := 0, cells := 0, slots := 0, locals := 0 }
def QrmEnN1 (Z : State) (x : Addr) (n : Nat) (d : Addr) (kd : ClassId) (cap : Nat) (vs : List Value) (h0 : Heap) (v : Option Value) (vm : Vm) (h : Heap) : Prop := v = none ∧ h = h0
theorem rmEnN1 (hcx : Cx Z a0 zc fm) (x : Addr) (n : Nat) (d : Addr) (kd : ClassId) (cap : Nat) (vs : List Value) (h0 : Heap) (O0 : Old Z Z.heap.size h0) (Pr0 : Exa Z h0 x "java/lang/StringBuilder") (Pr1 : Fld Z h0 x "java/lang/AbstractStringBuilder" "value" "[B" (.ref d)) (Pr2 : Fld Z h0 x "java/lang/AbstractStringBuilder" "coder" "B" (.int (1 : Int32))) (Pr3 : Arv Z h0 d kd .byte (Int32.ofNat (2 * cap)) vs (.int (0 : Int32))) (Pr4 : n ≤ cap) (Pr5 : cap ≤ 90) : Met l Z consts_1 (⟨"java/lang/AbstractStringBuilder", "ensureCapacityInternal", "(I)V"⟩ : MethodName) jdk_68_method_9_code 3 (none) [] RrmEnN1 [] #[(.ref x), (.int (Int32.ofNat n))] h0 (QrmEnN1 Z x n d kd cap vs h0) := by
  have ⟨hw, hEL, O2, P5, O4, P6, OA, OH, OB⟩ := hcx
  refine Met.start (a0 := a0) (Ls := #[vR x, vI (Int32.ofNat n), .unset]) pn19 hEL O0 (fun m => by first | (simp [entryFrame, mkF, argsToLocals, Value.category]; done) | rfl) ?_
  intro p e s m below meth cc T0 vm0 X0 sf0_ D hml hret hnm hx zz A0
  have l1 := ltA Pr0.lt
  have l2 := ltA Pr3.lt
  refine Gets.via (fun _ k => (XS.aloadN A0 hx rfl (D d19_0) rfl rfl k)) ?_
  refine X0.getF (host := "") (Or.inl (w62 hw)) Via.refl Pr1 rfl rfl (D d19_1) fun T3 X3 => ?_
  refine X3.alen Pr3 rfl rfl (D d19_4) ?_
  have A4 := X3.at
  refine Gets.via (fun _ k => (XS.aloadN A4 hx rfl (D d19_5) rfl rfl k)) ?_
  refine X3.getF (host := "") (Or.inl (w64 hw)) Via.refl Pr2 rfl rfl (D d19_6) fun T5 X5 => ?_
  show Gets p e below _ (T5.setTop (mkF m 9 #[vR x, vI (Int32.ofNat n), .unset] [(.int (1 : Int32)), (.int (Int32.ofNat (2 * cap)))]))
  have A6 := X5.at
  refine Gets.via (fun _ k => (ishrV A6 hx rfl (D d19_9) rfl (v := (Int32.ofNat cap)) (shr1 (by omega)) (XS.istoreN A6 hx rfl (D d19_10) rfl (l' := #[vR x, vI (Int32.ofNat n), vI (Int32.ofNat cap)]) rfl (XS.iloadN A6 hx rfl (D d19_11) rfl (XS.iloadN A6 hx rfl (D d19_12) rfl (XS.isub A6 hx rfl (D d19_13) rfl (XS.ifYes A6 hx rfl (pc0 := 14) (pc' := 38) rfl (D d19_14) rfl (Jvm.Free.XT.i0_le_t (sub_np (by omega) (by omega))) (by decide) (by decide) k))))))) ?_
  exact X5.retV hret (D d19_38) (by decide) (by decide) (fun vmE CE => ⟨rfl, rfl⟩)
abbrev RrmEnG1 : Room := { frames := 3, cells := 1, slots := 100, locals := 48 }
def QrmEnG1 (Z : State) (x : Addr) (n : Nat) (d : Addr) (kd : ClassId) (cap : Nat) (vs : List Value) (cn : Int32) (h0 : Heap) (v : Option Value) (vm : Vm) (h : Heap) : Prop := ∃ (t : Addr) (kt : ClassId), v = none ∧ Keep h0 h [x] ∧ Exa Z h x "java/lang/StringBuilder" ∧ Fld Z h x "java/lang/AbstractStringBuilder" "value" "[B" (.ref t) ∧ Fld Z h x "java/lang/AbstractStringBuilder" "coder" "B" (.int (1 : Int32)) ∧ Fld Z h x "java/lang/AbstractStringBuilder" "count" "I" (.int cn) ∧ Fld Z h x "java/lang/AbstractStringBuilder" "maybeLatin1" "Z" (.int (0 : Int32)) ∧ Arv Z h t kt .byte (Int32.ofNat (2 * (cap + max (n - cap) (cap + 2)))) vs (.int (0 : Int32)) ∧ Exa Z h t "[B" ∧ Safe Z consts_1 vm h t ∧ h0.size ≤ t
theorem rmEnG1 (hcx : Cx Z a0 zc fm) (x : Addr) (n : Nat) (d : Addr) (kd : ClassId) (cap : Nat) (vs : List Value) (cn : Int32) (h0 : Heap) (O0 : Old Z Z.heap.size h0) (Pr0 : Exa Z h0 x "java/lang/StringBuilder") (Pr1 : Fld Z h0 x "java/lang/AbstractStringBuilder" "value" "[B" (.ref d)) (Pr2 : Fld Z h0 x "java/lang/AbstractStringBuilder" "coder" "B" (.int (1 : Int32))) (Pr3 : Arv Z h0 d kd .byte (Int32.ofNat (2 * cap)) vs (.int (0 : Int32))) (Pr4 : Fld Z h0 x "java/lang/AbstractStringBuilder" "count" "I" (.int cn)) (Pr5 : Fld Z h0 x "java/lang/AbstractStringBuilder" "maybeLatin1" "Z" (.int (0 : Int32))) (Pr6 : vs.length ≤ (2 * cap)) (Pr7 : cap < n) (Pr8 : n ≤ 24) (Pr9 : Z.heap.size ≤ x) : Met l Z consts_1 (⟨"java/lang/AbstractStringBuilder", "ensureCapacityInternal", "(I)V"⟩ : MethodName) jdk_68_method_9_code 3 (none) [] RrmEnG1 [] #[(.ref x), (.int (Int32.ofNat n))] h0 (QrmEnG1 Z x n d kd cap vs cn h0) := by
  have ⟨hw, hEL, O2, P5, O4, P6, OA, OH, OB⟩ := hcx
  refine Met.start (a0 := a0) (Ls := #[vR x, vI (Int32.ofNat n), .unset]) pn19 hEL O0 (fun m => by first | (simp [entryFrame, mkF, argsToLocals, Value.category]; done) | rfl) ?_
  intro p e s m below meth cc T0 vm0 X0 sf0_ D hml hret hnm hx zz A0
  have l1 := ltA Pr0.lt
  have l2 := ltA Pr3.lt
  refine Gets.via (fun _ k => (XS.aloadN A0 hx rfl (D d19_0) rfl rfl k)) ?_
  refine X0.getF (host := "") (Or.inl (w62 hw)) Via.refl Pr1 rfl rfl (D d19_1) fun T3 X3 => ?_
  refine X3.alen Pr3 rfl rfl (D d19_4) ?_
  have A4 := X3.at
  refine Gets.via (fun _ k => (XS.aloadN A4 hx rfl (D d19_5) rfl rfl k)) ?_
  refine X3.getF (host := "") (Or.inl (w64 hw)) Via.refl Pr2 rfl rfl (D d19_6) fun T5 X5 => ?_
  show Gets p e below _ (T5.setTop (mkF m 9 #[vR x, vI (Int32.ofNat n), .unset] [(.int (1 : Int32)), (.int (Int32.ofNat (2 * cap)))]))
  have A6 := X5.at
  refine Gets.via (fun _ k => (ishrV A6 hx rfl (D d19_9) rfl (v := (Int32.ofNat cap)) (shr1 (by omega)) (XS.istoreN A6 hx rfl (D d19_10) rfl (l' := #[vR x, vI (Int32.ofNat n), vI (Int32.ofNat cap)]) rfl (XS.iloadN A6 hx rfl (D d19_11) rfl (XS.iloadN A6 hx rfl (D d19_12) rfl (isubV A6 hx rfl (D d19_13) rfl (v := (Int32.ofNat (n - cap))) (of_sub (by omega) (by omega)) (XS.ifNo A6 hx rfl (D d19_14) rfl (Jvm.Free.XT.i0_le_f (of_lt (a := 0) (by omega) (by omega))) k))))))) ?_
  refine Gets.via (fun _ k => (XS.aloadN A6 hx rfl (D d19_17) rfl rfl (XS.aloadN A6 hx rfl (D d19_18) rfl rfl k))) ?_
  refine X5.getF (host := "") (Or.inl (w62 hw)) Via.refl Pr1 rfl rfl (D d19_19) fun T7 X7 => ?_
  have A8 := X7.at
  refine Gets.via (fun _ k => (XS.aloadN A8 hx rfl (D d19_22) rfl rfl (XS.iloadN A8 hx rfl (D d19_23) rfl k))) ?_
  show Gets p e below _ (T7.setTop (mkF m 24 #[vR x, vI (Int32.ofNat n), vI (Int32.ofNat cap)] [(.int (Int32.ofNat n)), (.ref x), (.ref d), (.ref x)]))
  refine X7.callP (W := 2) (w109 hw) (w110 hw) (w112 hw) (w111 hw) (w113 hw) (by decide) (X7.payM (sf := []) (rmNc1 hcx x n d kd cap vs h0 X7.old Pr0 Pr1 Pr2 Pr3 Pr7 (leA (by omega))) sf0 (w113 hw) (w58 hw)) Pr0 rfl (sz hml rfl) (argsL := [(.int (Int32.ofNat n))]) (rest := [(.ref d), (.ref x)]) (lenOf pd6 rfl) rfl rfl (mroom rfl rfl) (D d19_24) (by decide) (by decide) fun T9 h9 vm9 v9 X9 C9 z9 q9 => ?_
  obtain ⟨rfl, K9⟩ := q9
  rw [K9] at X9 C9
  have A10 := X9.at
  refine Gets.via (fun _ k => (XS.aloadN A10 hx rfl (D d19_27) rfl rfl k)) ?_
  refine X9.getF (host := "") (Or.inl (w64 hw)) Via.refl Pr2 rfl rfl (D d19_28) fun T11 X11 => ?_
  have A12 := X11.at
  refine Gets.via (fun _ k => (ishlV A12 hx rfl (D d19_31) rfl (v := (Int32.ofNat (2 * (cap + max (n - cap) (cap + 2))))) (shl1 _) k)) ?_
  refine X11.callS (W := 1) (w124 hw) (w125 hw) (w126 hw) (w127 hw) (by decide) (X11.payM (sf := []) (rmCpo hcx d kd (2 * cap) (2 * (cap + max (n - cap) (cap + 2))) vs h0 X11.old Pr3 Pr6 (by first | assumption | omega) (leA (by omega))) sf0 (w127 hw) (w126 hw)) rfl (sz hml rfl) (argsL := [(.ref d), (.int (Int32.ofNat (2 * (cap + max (n - cap) (cap + 2)))))]) (rest := [(.ref x)]) (lenOf pd14 rfl) rfl rfl (mroom rfl rfl) (D d19_32) (by decide) (by decide) fun T13 h13 vm13 v13 X13 C13 z13 q13 => ?_
  obtain ⟨t13, kt13, rfl, K13, g13_0, g13_1, g13_2, g13_3⟩ := q13
  have l14 := ltA g13_0.lt
  have f16 := Pr1.keep K13 nin0
  have f17 := Pr0.keep K13
  refine X13.putF (host := "") (Or.inl (w62 hw)) Via.refl f16 f17 (Or.inl (w63 hw)) (w39 hw) (ty := (.array .byte)) (by decide) rfl rfl (leA (by omega)) (Safe.exa X13.hZ.alike f17 (by decide) (by decide)) rfl rfl (D d19_35) fun T15 h15 X15 C15 W15 F15 Z15 => ?_
  have z15 := W15.size
  show Gets p e below _ (T15.setTop (mkF m 38 #[vR x, vI (Int32.ofNat n), vI (Int32.ofNat cap)] []))
  have f18 := Pr2.keep K13 nin0
  have f19 := f18.other W15 (Or.inr (slot_ne (t := .byte) (t' := (.array .byte)) (Or.inl (w65 hw)) (Or.inl (w63 hw)) (by decide) (by decide) (by decide)))
  have f20 := Pr4.keep K13 nin0
  have f21 := f20.other W15 (Or.inr (slot_ne (t := .int) (t' := (.array .byte)) (Or.inl (w103 hw)) (Or.inl (w63 hw)) (by decide) (by decide) (by decide)))
  have f22 := Pr5.keep K13 nin0
  have f23 := f22.other W15 (Or.inr (slot_ne (t := .boolean) (t' := (.array .byte)) (Or.inl (w296 hw)) (Or.inl (w63 hw)) (by decide) (by decide) (by decide)))
  have f24 := g13_0.other W15 (neA (by omega))
  have f25 := g13_1.wr W15
  have f26 := C15.safe (x := t13) (ltA (by omega)) g13_2
  exact X15.retV hret (D d19_38) (by decide) (by decide) (fun vmE CE => ⟨t13, kt13, rfl, (((Keep.refl h0 [x]).trans K13 all0).wr W15 (Or.inl (memI (i := 0) rfl))), Z15, F15, f19, f21, f23, f24, f25, CE.safe (x := t13) (ltA (by omega)) f26, g13_3⟩)
abbrev Rrm60 : Room := { frames := 0, cells := 0, slots := 0, locals := 0 }
def Qrm60 (Z : State) (u : Int32) (w : Int32) (n : Int32) (fq : Value) (h0 : Heap) (v : Option Value) (vm : Vm) (h : Heap) : Prop := v = some (.int u) ∧ h = h0
theorem rm60 (hcx : Cx Z a0 zc fm) (u : Int32) (w : Int32) (n : Int32) (fq : Value) (h0 : Heap) (O0 : Old Z Z.heap.size h0) (Pr0 : ¬ ((n ||| u) ||| w) < (0 : Int32)) (Pr1 : ¬ (n - u) < w) (Pr2 : fq.isRef = true) : Met l Z consts_1 (⟨"jdk/internal/util/Preconditions", "checkFromIndexSize", "(IIILjava/util/function/BiFunction;)I"⟩ : MethodName) jdk_41_method_13_code 4 (some .int) [] Rrm60 [] #[(.int u), (.int w), (.int n), fq] h0 (Qrm60 Z u w n fq h0) := by
  have ⟨hw, hEL, O2, P5, O4, P6, OA, OH, OB⟩ := hcx
  refine Met.start (a0 := a0) (Ls := #[vI u, vI w, vI n, .val fq]) pn60 hEL O0 (fun m => by revert Pr2; cases fq <;> intro Pr2 <;> first | exact nomatch (show false = true from Pr2) | (first | (simp [entryFrame, mkF, argsToLocals, Value.category]; done) | rfl)) ?_
  intro p e s m below meth cc T0 vm0 X0 sf0_ D hml hret hnm hx zz A0
  refine Gets.via (fun _ k => (XS.iloadN A0 hx rfl (D d60_0) rfl (XS.iloadN A0 hx rfl (D d60_1) rfl (XS.ior A0 hx rfl (D d60_2) rfl (XS.iloadN A0 hx rfl (D d60_3) rfl (XS.ior A0 hx rfl (D d60_4) rfl (XS.ifNo A0 hx rfl (D d60_5) rfl (Jvm.Free.XT.i0_lt_f Pr0) k))))))) ?_
  refine Gets.via (fun _ k => (XS.iloadN A0 hx rfl (D d60_8) rfl (XS.iloadN A0 hx rfl (D d60_9) rfl (XS.iloadN A0 hx rfl (D d60_10) rfl (XS.isub A0 hx rfl (D d60_11) rfl (XS.icmpYes A0 hx rfl (pc0 := 12) (pc' := 23) rfl (D d60_12) rfl (Jvm.Free.XT.ii_le_t Pr1) (by decide) (by decide) k)))))) ?_
  show Gets p e below _ (T0.setTop (mkF m 23 #[vI u, vI w, vI n, .val fq] []))
  refine Gets.via (fun _ k => (XS.iloadN A0 hx rfl (D d60_23) rfl k)) ?_
  exact X0.retI hret rfl (by simp) (D d60_24) (by decide) (by decide) (fun vmE CE => ⟨rfl, rfl⟩)
abbrev Rrm59 : Room := { frames := 1, cells := 0, slots := 0, locals := 15 }
def Qrm59 (Z : State) (u : Int32) (w : Int32) (n : Int32) (h0 : Heap) (v : Option Value) (vm : Vm) (h : Heap) : Prop := v = some (.int u) ∧ h = h0
theorem rm59 (hcx : Cx Z a0 zc fm) (u : Int32) (w : Int32) (n : Int32) (h0 : Heap) (O0 : Old Z Z.heap.size h0) (Pr0 : ¬ ((n ||| u) ||| w) < (0 : Int32)) (Pr1 : ¬ (n - u) < w) : Met l Z consts_1 (⟨"java/lang/String", "checkBoundsOffCount", "(III)I"⟩ : MethodName) jdk_42_method_157_code 3 (some .int) [] Rrm59 [] #[(.int u), (.int w), (.int n)] h0 (Qrm59 Z u w n h0) := by
  have ⟨hw, hEL, O2, P5, O4, P6, OA, OH, OB⟩ := hcx
  refine Met.start (a0 := a0) (Ls := #[vI u, vI w, vI n]) pn59 hEL O0 (fun m => by first | (simp [entryFrame, mkF, argsToLocals, Value.category]; done) | rfl) ?_
  intro p e s m below meth cc T0 vm0 X0 sf0_ D hml hret hnm hx zz A0
  refine Gets.via (fun _ k => (XS.iloadN A0 hx rfl (D d59_0) rfl (XS.iloadN A0 hx rfl (D d59_1) rfl (XS.iloadN A0 hx rfl (D d59_2) rfl k)))) ?_
  refine X0.getS (host := "") (Or.inl (w83 hw)) Via.refl (X0.sta O4) rfl (D d59_3) fun T1 X1 => ?_
  refine X1.callS (W := 0) (w289 hw) (w290 hw) (w84 hw) (w291 hw) (by decide) (X1.payM (sf := []) (rm60 hcx u w n fm h0 X1.old Pr0 Pr1 P6) sf0 (w291 hw) (w84 hw)) rfl (sz hml rfl) (argsL := [(.int u), (.int w), (.int n), fm]) (rest := []) (lenOf pd15 rfl) rfl rfl (mroom rfl rfl) (D d59_6) (by decide) (by decide) fun T2 h2 vm2 v2 X2 C2 z2 q2 => ?_
  obtain ⟨rfl, K2⟩ := q2
  rw [K2] at X2 C2
  show Gets p e below _ (T2.setTop (mkF m 9 #[vI u, vI w, vI n] [(.int u)]))
  exact X2.retI hret rfl (by simp) (D d59_9) (by decide) (by decide) (fun vmE CE => ⟨rfl, rfl⟩)
abbrev RrmUco : Room := { frames := 2, cells := 0, slots := 0, locals := 29 }
def QrmUco (Z : State) (i : Nat) (j : Nat) (t : Addr) (kt : ClassId) (n : Nat) (vs : List Value) (h0 : Heap) (v : Option Value) (vm : Vm) (h : Heap) : Prop := v = none ∧ h = h0
theorem rmUco (hcx : Cx Z a0 zc fm) (i : Nat) (j : Nat) (t : Addr) (kt : ClassId) (n : Nat) (vs : List Value) (h0 : Heap) (O0 : Old Z Z.heap.size h0) (Pr0 : Arv Z h0 t kt .byte (Int32.ofNat (2 * n)) vs (.int (0 : Int32))) (Pr1 : i + j ≤ n) (Pr2 : n ≤ 400) : Met l Z consts_1 (⟨"java/lang/StringUTF16", "checkBoundsOffCount", "(II[B)V"⟩ : MethodName) jdk_52_method_94_code 3 (none) [] RrmUco [] #[(.int (Int32.ofNat i)), (.int (Int32.ofNat j)), (.ref t)] h0 (QrmUco Z i j t kt n vs h0) := by
  have ⟨hw, hEL, O2, P5, O4, P6, OA, OH, OB⟩ := hcx
  refine Met.start (a0 := a0) (Ls := #[vI (Int32.ofNat i), vI (Int32.ofNat j), vR t]) pn58 hEL O0 (fun m => by first | (simp [entryFrame, mkF, argsToLocals, Value.category]; done) | rfl) ?_
  intro p e s m below meth cc T0 vm0 X0 sf0_ D hml hret hnm hx zz A0
  have l1 := ltA Pr0.lt
  have u2 : ¬ (((Int32.ofNat n) ||| (Int32.ofNat i)) ||| (Int32.ofNat j)) < (0 : Int32) := of_or (of_or (of_pos (by omega)) (of_pos (by omega))) (of_pos (by omega))
  have u3 : ¬ ((Int32.ofNat n) - (Int32.ofNat i)) < (Int32.ofNat j) := of_subl (by omega) (by omega)
  refine Gets.via (fun _ k => (XS.iloadN A0 hx rfl (D d58_0) rfl (XS.iloadN A0 hx rfl (D d58_1) rfl (XS.aloadN A0 hx rfl (D d58_2) rfl rfl k)))) ?_
  refine X0.callS (W := 2) (w267 hw) (w268 hw) (w21 hw) (w269 hw) (by decide) (X0.payM (sf := []) (rmULen hcx t kt n vs h0 X0.old Pr0 (leA (by omega))) sf0 (w269 hw) (w21 hw)) rfl (sz hml rfl) (argsL := [(.ref t)]) (rest := [(.int (Int32.ofNat j)), (.int (Int32.ofNat i))]) (lenOf pd3 rfl) rfl rfl (mroom rfl rfl) (D d58_3) (by decide) (by decide) fun T4 h4 vm4 v4 X4 C4 z4 q4 => ?_
  obtain ⟨rfl, K4⟩ := q4
  rw [K4] at X4 C4
  refine X4.callS (W := 0) (w286 hw) (w287 hw) (w7 hw) (w288 hw) (by decide) (X4.payM (sf := []) (rm59 hcx (Int32.ofNat i) (Int32.ofNat j) (Int32.ofNat n) h0 X4.old u2 u3) sf0 (w288 hw) (w7 hw)) rfl (sz hml rfl) (argsL := [(.int (Int32.ofNat i)), (.int (Int32.ofNat j)), (.int (Int32.ofNat n))]) (rest := []) (lenOf pd13 rfl) rfl rfl (mroom rfl rfl) (D d58_6) (by decide) (by decide) fun T5 h5 vm5 v5 X5 C5 z5 q5 => ?_
  obtain ⟨rfl, K5⟩ := q5
  rw [K5] at X5 C5
  show Gets p e below _ (T5.setTop (mkF m 9 #[vI (Int32.ofNat i), vI (Int32.ofNat j), vR t] [(.int (Int32.ofNat i))]))
  have A6 := X5.at
  refine Gets.via (fun _ k => (XS.pop A6 hx rfl (D d58_9) rfl rfl k)) ?_
  exact X5.retV hret (D d58_10) (by decide) (by decide) (fun vmE CE => ⟨rfl, rfl⟩)
abbrev RrmUig : Room := { frames := 3, cells := 0, slots := 0, locals := 43 }
def QrmUig (Z : State) (b : Addr) (t : Addr) (kb : ClassId) (kt : ClassId) (z : Int32) (M : Nat) (cap : Nat) (es : List Int32) (ds : List Int32) (h0 : Heap) (v : Option Value) (vm : Vm) (h : Heap) : Prop := v = none ∧ Keep h0 h [t] ∧ Arv Z h t kt .byte (Int32.ofNat (2 * cap)) (enc16 (es ++ ds)) (.int (0 : Int32))
theorem rmUig (hcx : Cx Z a0 zc fm) (b : Addr) (t : Addr) (kb : ClassId) (kt : ClassId) (z : Int32) (M : Nat) (cap : Nat) (es : List Int32) (ds : List Int32) (h0 : Heap) (O0 : Old Z Z.heap.size h0) (Pr0 : Arv Z h0 b kb .byte z ((ds.map fun c => c.toInt8.toInt32).map Value.int) (.int (0 : Int32))) (Pr1 : z.toNatClampNeg = M) (Pr2 : (ds).length ≤ M) (Pr3 : Arv Z h0 t kt .byte (Int32.ofNat (2 * cap)) (enc16 es) (.int (0 : Int32))) (Pr4 : (es).length + (ds).length ≤ cap) (Pr5 : cap ≤ 400) (Pr6 : Z.heap.size ≤ t) (Pr7 : b ≠ t) (Pr8 : ∀ z_ ∈ ds, ¬ z_ < 0 ∧ ¬ (255 : Int32) < z_) : Met l Z consts_1 (⟨"java/lang/StringUTF16", "inflate", "([BI[BII)V"⟩ : MethodName) jdk_52_method_86_code 6 (none) [] RrmUig [t] #[(.ref b), (.int (0 : Int32)), (.ref t), (.int (Int32.ofNat (es).length)), (.int (Int32.ofNat (ds).length))] h0 (QrmUig Z b t kb kt z M cap es ds h0) := by
  have ⟨hw, hEL, O2, P5, O4, P6, OA, OH, OB⟩ := hcx
  refine Met.start (a0 := a0) (Ls := #[vR b, vI (0 : Int32), vR t, vI (Int32.ofNat (es).length), vI (Int32.ofNat (ds).length), .unset]) pn57 hEL O0 (fun m => by first | (simp [entryFrame, mkF, argsToLocals, Value.category]; done) | rfl) ?_
  intro p e s m below meth cc T0 vm0 X0 sf0_ D hml hret hnm hx zz A0
  have l1 := ltA Pr0.lt
  have l2 := ltA Pr3.lt
  have l3 := neA Pr7
  have s4 := sf0_ t (memI (i := 0) rfl)
  refine Gets.via (fun _ k => (XS.iloadN A0 hx rfl (D d57_0) rfl (XS.iload A0 hx rfl (D d57_1) rfl (XS.aloadN A0 hx rfl (D d57_3) rfl rfl k)))) ?_
  refine X0.callS (W := 0) (w283 hw) (w284 hw) (w21 hw) (w285 hw) (by decide) (X0.payM (sf := []) (rmUco hcx ((es).length) ((ds).length) t kt cap (enc16 es) h0 X0.old Pr3 Pr4 Pr5) sf0 (w285 hw) (w21 hw)) rfl (sz hml rfl) (argsL := [(.int (Int32.ofNat (es).length)), (.int (Int32.ofNat (ds).length)), (.ref t)]) (rest := []) (lenOf pd16 rfl) rfl rfl (mroom rfl rfl) (D d57_4) (by decide) (by decide) fun T5 h5 vm5 v5 X5 C5 z5 q5 => ?_
  obtain ⟨rfl, K5⟩ := q5
  rw [K5] at X5 C5
  have A6 := X5.at
  refine Gets.via (fun _ k => (XS.iconst A6 hx rfl (D d57_7) (XS.istore A6 hx rfl (D d57_8) rfl (l' := #[vR b, vI (0 : Int32), vR t, vI (Int32.ofNat (es).length), vI (Int32.ofNat (ds).length), vI (0 : Int32)]) rfl k))) ?_
  have lp10 : ∀ (rr : Nat) (i : Nat) (T7 : State) (h7 : Heap) (vm7 : Vm) (X7 : Wk p l e RrmUig s m #[(.ref b), (.int (0 : Int32)), (.ref t), (.int (Int32.ofNat (es).length)), (.int (Int32.ofNat (ds).length))] below meth cc "java/lang/StringUTF16" Z a0 consts_1 h0 T7 h7 vm7 0 0) (K7 : Keep h0 h7 [t]) (lf7_0 : Arv Z h7 t kt .byte (Int32.ofNat (2 * cap)) (enc16 (es ++ ds.take i)) (.int (0 : Int32))) (lf7_1 : i + rr = (ds).length) (ls7_0 : Safe Z consts_1 vm7 h7 t), Gets p e below (Jvm.Ow.Out s Z consts_1 RrmUig (QrmUig Z b t kb kt z M cap es ds h0)) (T7.setTop (mkF m 10 #[vR b, vI (Int32.ofNat i), vR t, vI (Int32.ofNat ((es).length + i)), vI (Int32.ofNat (ds).length), vI (Int32.ofNat i)] [])) := by
    intro rr
    induction rr with
    | zero =>
      intro i T7 h7 vm7 X7 K7 lf7_0 lf7_1 ls7_0
      have z7 := K7.1
      have l8 := ltA lf7_0.lt
      show Gets p e below _ (T7.setTop (mkF m 10 #[vR b, vI (Int32.ofNat i), vR t, vI (Int32.ofNat ((es).length + i)), vI (Int32.ofNat (ds).length), vI (Int32.ofNat i)] []))
      have A9 := X7.at
      refine Gets.via (fun _ k => (XS.iload A9 hx rfl (D d57_10) rfl (XS.iload A9 hx rfl (D d57_12) rfl (XS.icmpYes A9 hx rfl (pc0 := 14) (pc' := 41) rfl (D d57_14) rfl (Jvm.Free.XT.ii_ge_t (of_nlt (by omega) (by omega) (by omega))) (by decide) (by decide) k)))) ?_
      have f10 : Arv Z h7 t kt .byte (Int32.ofNat (2 * cap)) (enc16 (es ++ ds)) (.int (0 : Int32)) := (show enc16 (es ++ ds.take i) = enc16 (es ++ ds) by rw [show i = ds.length by omega, List.take_length]) ▸ lf7_0
      exact X7.retV hret (D d57_41) (by decide) (by decide) (fun vmE CE => ⟨rfl, ((Keep.refl h0 [t]).trans K7 (allS (Or.inl (memI (i := 0) rfl)) all0)), f10⟩)
    | succ rr ih =>
      intro i T7 h7 vm7 X7 K7 lf7_0 lf7_1 ls7_0
      have z7 := K7.1
      have l11 := ltA lf7_0.lt
      show Gets p e below _ (T7.setTop (mkF m 10 #[vR b, vI (Int32.ofNat i), vR t, vI (Int32.ofNat ((es).length + i)), vI (Int32.ofNat (ds).length), vI (Int32.ofNat i)] []))
      have A12 := X7.at
      refine Gets.via (fun _ k => (XS.iload A12 hx rfl (D d57_10) rfl (XS.iload A12 hx rfl (D d57_12) rfl (XS.icmpNo A12 hx rfl (D d57_14) rfl (Jvm.Free.XT.ii_ge_f (of_lt (by omega) (by omega))) k)))) ?_
      refine Gets.via (fun _ k => (XS.aloadN A12 hx rfl (D d57_17) rfl rfl (XS.iloadN A12 hx rfl (D d57_18) rfl (iincV A12 hx rfl (D d57_19) rfl (v := (Int32.ofNat (((es).length + i) + 1))) (of_add _ 1) (l' := #[vR b, vI (Int32.ofNat i), vR t, vI (Int32.ofNat (((es).length + i) + 1)), vI (Int32.ofNat (ds).length), vI (Int32.ofNat i)]) rfl (XS.aloadN A12 hx rfl (D d57_22) rfl rfl (XS.iloadN A12 hx rfl (D d57_23) rfl (iincV A12 hx rfl (D d57_24) rfl (v := (Int32.ofNat (i + 1))) (of_add _ 1) (l' := #[vR b, vI (Int32.ofNat (i + 1)), vR t, vI (Int32.ofNat (((es).length + i) + 1)), vI (Int32.ofNat (ds).length), vI (Int32.ofNat i)]) rfl k))))))) ?_
      have f13 := Pr0.keep K7 (ninS (neA (by omega)) nin0)
      refine X7.ldB f13 (j := (Int32.ofNat i)) (i := i) (of_pos (by omega)) (toN (by omega)) (by rw [Pr1]; omega) (v := (.int ((ds.getD i 0).toInt8.toInt32))) (by_get (by omega)) rfl rfl (D d57_27) ?_
      show Gets p e below _ (T7.setTop (mkF m 28 #[vR b, vI (Int32.ofNat (i + 1)), vR t, vI (Int32.ofNat (((es).length + i) + 1)), vI (Int32.ofNat (ds).length), vI (Int32.ofNat i)] [(.int ((ds.getD i 0).toInt8.toInt32)), (.int (Int32.ofNat ((es).length + i))), (.ref t)]))
      refine Gets.via (fun _ k => (XS.sipush A12 hx rfl (D d57_28) (XS.iand A12 hx rfl (D d57_31) rfl k))) ?_
      show Gets p e below _ (T7.setTop (mkF m 32 #[vR b, vI (Int32.ofNat (i + 1)), vR t, vI (Int32.ofNat (((es).length + i) + 1)), vI (Int32.ofNat (ds).length), vI (Int32.ofNat i)] [(.int (((ds.getD i 0).toInt8.toInt32) &&& (255 : Int32))), (.int (Int32.ofNat ((es).length + i))), (.ref t)]))
      rw [show ((ds.getD i 0).toInt8.toInt32) &&& (255 : Int32) = (ds.getD i 0) from StrChars.lo8_mask (mem_getD (by omega) Pr8).1 (mem_getD (by omega) Pr8).2]
      refine X7.callS (W := 0) (w234 hw) (w235 hw) (w21 hw) (w236 hw) (by decide) (X7.payM (sf := [t]) (rmPutC hcx t ((es).length + i) (ds.getD i 0) kt (Int32.ofNat (2 * cap)) (2 * cap) (enc16 (es ++ ds.take i)) h7 X7.old lf7_0 (toN (by omega)) (leA (by omega)) (by rw [enc16_len, List.length_append, List.length_take]; omega) (by omega) Pr6) (sfS ls7_0 sf0) (w236 hw) (w21 hw)) rfl (sz hml rfl) (argsL := [(.ref t), (.int (Int32.ofNat ((es).length + i))), (.int (ds.getD i 0))]) (rest := []) (lenOf pd8 rfl) rfl rfl (mroom rfl rfl) (D d57_32) (by decide) (by decide) fun T14 h14 vm14 v14 X14 C14 z14 q14 => ?_
      obtain ⟨rfl, K14, g14_0⟩ := q14
      have l15 := ltA g14_0.lt
      have A16 := X14.at
      refine Gets.via (fun _ k => (iincV A16 hx rfl (D d57_35) rfl (v := (Int32.ofNat (i + 1))) (of_add _ 1) (l' := #[vR b, vI (Int32.ofNat (i + 1)), vR t, vI (Int32.ofNat (((es).length + i) + 1)), vI (Int32.ofNat (ds).length), vI (Int32.ofNat (i + 1))]) rfl (XS.goto A16 hx rfl (pc0 := 38) (pc' := 10) rfl (D d57_38) (by decide) (by decide) k))) ?_
      have f17 : Arv Z h14 t kt .byte (Int32.ofNat (2 * cap)) (enc16 (es ++ ds.take (i + 1))) (.int (0 : Int32)) := snocT (es := es) (ds := ds) (i := i) (by omega) ▸ g14_0
      have f18 := C14.safe (x := t) (ltA (by omega)) ls7_0
      exact ih (i + 1) T14 h14 vm14 X14 (((Keep.refl h0 [t]).trans K7 (allS (Or.inl (memI (i := 0) rfl)) all0)).trans K14 (allS (Or.inl (memI (i := 0) rfl)) all0)) f17 (by omega) f18
  have f19 : Arv Z h0 t kt .byte (Int32.ofNat (2 * cap)) (enc16 (es ++ ds.take 0)) (.int (0 : Int32)) := (show enc16 es = enc16 (es ++ ds.take 0) by rw [List.take_zero, List.append_nil]) ▸ Pr3
  have f20 := C5.safe (x := t) (ltA (by omega)) s4
  exact lp10 (ds).length 0 T5 h0 vm5 X5 (Keep.refl h0 [t]) f19 (by omega) f20
abbrev RrmLig : Room := { frames := 4, cells := 0, slots := 0, locals := 60 }
def QrmLig (Z : State) (b : Addr) (t : Addr) (kb : ClassId) (kt : ClassId) (z : Int32) (M : Nat) (cap : Nat) (es : List Int32) (ds : List Int32) (h0 : Heap) (v : Option Value) (vm : Vm) (h : Heap) : Prop := v = none ∧ Keep h0 h [t] ∧ Arv Z h t kt .byte (Int32.ofNat (2 * cap)) (enc16 (es ++ ds)) (.int (0 : Int32))
theorem rmLig (hcx : Cx Z a0 zc fm) (b : Addr) (t : Addr) (kb : ClassId) (kt : ClassId) (z : Int32) (M : Nat) (cap : Nat) (es : List Int32) (ds : List Int32) (h0 : Heap) (O0 : Old Z Z.heap.size h0) (Pr0 : Arv Z h0 b kb .byte z ((ds.map fun c => c.toInt8.toInt32).map Value.int) (.int (0 : Int32))) (Pr1 : z.toNatClampNeg = M) (Pr2 : (ds).length ≤ M) (Pr3 : Arv Z h0 t kt .byte (Int32.ofNat (2 * cap)) (enc16 es) (.int (0 : Int32))) (Pr4 : (es).length + (ds).length ≤ cap) (Pr5 : cap ≤ 400) (Pr6 : Z.heap.size ≤ t) (Pr7 : b ≠ t) (Pr8 : ∀ z_ ∈ ds, ¬ z_ < 0 ∧ ¬ (255 : Int32) < z_) : Met l Z consts_1 (⟨"java/lang/StringLatin1", "inflate", "([BI[BII)V"⟩ : MethodName) jdk_43_method_50_code 5 (none) [] RrmLig [t] #[(.ref b), (.int (0 : Int32)), (.ref t), (.int (Int32.ofNat (es).length)), (.int (Int32.ofNat (ds).length))] h0 (QrmLig Z b t kb kt z M cap es ds h0) := by
  have ⟨hw, hEL, O2, P5, O4, P6, OA, OH, OB⟩ := hcx
  refine Met.start (a0 := a0) (Ls := #[vR b, vI (0 : Int32), vR t, vI (Int32.ofNat (es).length), vI (Int32.ofNat (ds).length)]) pn56 hEL O0 (fun m => by first | (simp [entryFrame, mkF, argsToLocals, Value.category]; done) | rfl) ?_
  intro p e s m below meth cc T0 vm0 X0 sf0_ D hml hret hnm hx zz A0
  have l1 := ltA Pr0.lt
  have l2 := ltA Pr3.lt
  have l3 := neA Pr7
  have s4 := sf0_ t (memI (i := 0) rfl)
  refine Gets.via (fun _ k => (XS.aloadN A0 hx rfl (D d56_0) rfl rfl (XS.iloadN A0 hx rfl (D d56_1) rfl (XS.aloadN A0 hx rfl (D d56_2) rfl rfl (XS.iloadN A0 hx rfl (D d56_3) rfl (XS.iload A0 hx rfl (D d56_4) rfl k)))))) ?_
  refine X0.callS (W := 0) (w280 hw) (w281 hw) (w21 hw) (w282 hw) (by decide) (X0.payM (sf := [t]) (rmUig hcx b t kb kt z M cap es ds h0 X0.old Pr0 Pr1 Pr2 Pr3 Pr4 Pr5 Pr6 Pr7 Pr8) (sfS s4 sf0) (w282 hw) (w21 hw)) rfl (sz hml rfl) (argsL := [(.ref b), (.int (0 : Int32)), (.ref t), (.int (Int32.ofNat (es).length)), (.int (Int32.ofNat (ds).length))]) (rest := []) (lenOf pd17 rfl) rfl rfl (mroom rfl rfl) (D d56_6) (by decide) (by decide) fun T5 h5 vm5 v5 X5 C5 z5 q5 => ?_
  obtain ⟨rfl, K5, g5_0⟩ := q5
  have l6 := ltA g5_0.lt
  exact X5.retV hret (D d56_9) (by decide) (by decide) (fun vmE CE => ⟨rfl, ((Keep.refl h0 [t]).trans K5 (allS (Or.inl (memI (i := 0) rfl)) all0)), g5_0⟩)
abbrev RrmSbL0 : Room := { frames := 0, cells := 0, slots := 0, locals := 0 }
def QrmSbL0 (Z : State) (x : Addr) (h0 : Heap) (v : Option Value) (vm : Vm) (h : Heap) : Prop := v = some (.int (1 : Int32)) ∧ h = h0
theorem rmSbL0 (hcx : Cx Z a0 zc fm) (x : Addr) (h0 : Heap) (O0 : Old Z Z.heap.size h0) (Pr0 : Exa Z h0 x "java/lang/StringBuilder") (Pr1 : Fld Z h0 x "java/lang/AbstractStringBuilder" "coder" "B" (.int (0 : Int32))) : Met l Z consts_1 (⟨"java/lang/AbstractStringBuilder", "isLatin1", "()Z"⟩ : MethodName) jdk_68_method_68_code 1 (some .boolean) [] RrmSbL0 [] #[(.ref x)] h0 (QrmSbL0 Z x h0) := by
  have ⟨hw, hEL, O2, P5, O4, P6, OA, OH, OB⟩ := hcx
  refine Met.start (a0 := a0) (Ls := #[vR x]) pn34 hEL O0 (fun m => by first | (simp [entryFrame, mkF, argsToLocals, Value.category]; done) | rfl) ?_
  intro p e s m below meth cc T0 vm0 X0 sf0_ D hml hret hnm hx zz A0
  have l1 := ltA Pr0.lt
  refine X0.getS (host := "") (Or.inl (w61 hw)) Via.refl (X0.sta O2) rfl (D d34_0) fun T2 X2 => ?_
  have A3 := X2.at
  refine Gets.via (fun _ k => (XS.ifNo A3 hx rfl (D d34_3) rfl (Jvm.Free.XT.i0_eq_f P5) k)) ?_
  refine Gets.via (fun _ k => (XS.aloadN A3 hx rfl (D d34_6) rfl rfl k)) ?_
  refine X2.getF (host := "") (Or.inl (w64 hw)) Via.refl Pr1 rfl rfl (D d34_7) fun T4 X4 => ?_
  have A5 := X4.at
  refine Gets.via (fun _ k => (XS.ifNo A5 hx rfl (D d34_10) rfl (Jvm.Free.XT.i0_ne_f (by decide)) k)) ?_
  show Gets p e below _ (T4.setTop (mkF m 13 #[vR x] []))
  refine Gets.via (fun _ k => (XS.iconst A5 hx rfl (D d34_13) (XS.goto A5 hx rfl (pc0 := 14) (pc' := 18) rfl (D d34_14) (by decide) (by decide) k))) ?_
  exact X4.retI hret (by decide) (by simp) (D d34_18) (by decide) (by decide) (fun vmE CE => ⟨rfl, rfl⟩)
abbrev RrmSbL1 : Room := { frames := 0, cells := 0, slots := 0, locals := 0 }
def QrmSbL1 (Z : State) (x : Addr) (h0 : Heap) (v : Option Value) (vm : Vm) (h : Heap) : Prop := v = some (.int (0 : Int32)) ∧ h = h0
theorem rmSbL1 (hcx : Cx Z a0 zc fm) (x : Addr) (h0 : Heap) (O0 : Old Z Z.heap.size h0) (Pr0 : Exa Z h0 x "java/lang/StringBuilder") (Pr1 : Fld Z h0 x "java/lang/AbstractStringBuilder" "coder" "B" (.int (1 : Int32))) : Met l Z consts_1 (⟨"java/lang/AbstractStringBuilder", "isLatin1", "()Z"⟩ : MethodName) jdk_68_method_68_code 1 (some .boolean) [] RrmSbL1 [] #[(.ref x)] h0 (QrmSbL1 Z x h0) := by
  have ⟨hw, hEL, O2, P5, O4, P6, OA, OH, OB⟩ := hcx
  refine Met.start (a0 := a0) (Ls := #[vR x]) pn34 hEL O0 (fun m => by first | (simp [entryFrame, mkF, argsToLocals, Value.category]; done) | rfl) ?_
  intro p e s m below meth cc T0 vm0 X0 sf0_ D hml hret hnm hx zz A0
  have l1 := ltA Pr0.lt
  refine X0.getS (host := "") (Or.inl (w61 hw)) Via.refl (X0.sta O2) rfl (D d34_0) fun T2 X2 => ?_
  have A3 := X2.at
  refine Gets.via (fun _ k => (XS.ifNo A3 hx rfl (D d34_3) rfl (Jvm.Free.XT.i0_eq_f P5) k)) ?_
  refine Gets.via (fun _ k => (XS.aloadN A3 hx rfl (D d34_6) rfl rfl k)) ?_
  refine X2.getF (host := "") (Or.inl (w64 hw)) Via.refl Pr1 rfl rfl (D d34_7) fun T4 X4 => ?_
  have A5 := X4.at
  refine Gets.via (fun _ k => (XS.ifYes A5 hx rfl (pc0 := 10) (pc' := 17) rfl (D d34_10) rfl (Jvm.Free.XT.i0_ne_t (by decide)) (by decide) (by decide) k)) ?_
  show Gets p e below _ (T4.setTop (mkF m 17 #[vR x] []))
  refine Gets.via (fun _ k => (XS.iconst A5 hx rfl (D d34_17) k)) ?_
  exact X4.retI hret (by decide) (by simp) (D d34_18) (by decide) (by decide) (fun vmE CE => ⟨rfl, rfl⟩)
abbrev RrmNblS : Room := { frames := 0, cells := 0, slots := 0, locals := 0 }
def QrmNblS (Z : State) (n : Nat) (h0 : Heap) (v : Option Value) (vm : Vm) (h : Heap) : Prop := v = some (.int (Int32.ofNat (2 * n))) ∧ h = h0
theorem rmNblS (hcx : Cx Z a0 zc fm) (n : Nat) (h0 : Heap) (O0 : Old Z Z.heap.size h0) (Pr0 : n ≤ 45) : Met l Z consts_1 (⟨"java/lang/StringUTF16", "newBytesLength", "(I)I"⟩ : MethodName) jdk_52_method_3_code 1 (some .int) [] RrmNblS [] #[(.int (Int32.ofNat n))] h0 (QrmNblS Z n h0) := by
  have ⟨hw, hEL, O2, P5, O4, P6, OA, OH, OB⟩ := hcx
  refine Met.start (a0 := a0) (Ls := #[vI (Int32.ofNat n)]) pn50 hEL O0 (fun m => by first | (simp [entryFrame, mkF, argsToLocals, Value.category]; done) | rfl) ?_
  intro p e s m below meth cc T0 vm0 X0 sf0_ D hml hret hnm hx zz A0
  refine Gets.via (fun _ k => (XS.iloadN A0 hx rfl (D d50_0) rfl (XS.ifYes A0 hx rfl (pc0 := 1) (pc' := 12) rfl (D d50_1) rfl (Jvm.Free.XT.i0_ge_t (of_pos (by omega))) (by decide) (by decide) k))) ?_
  refine Gets.via (fun _ k => (XS.iloadN A0 hx rfl (D d50_12) rfl k)) ?_
  refine X0.ldcI (w257 hw) rfl (D d50_13) ?_
  refine Gets.via (fun _ k => (XS.icmpYes A0 hx rfl (pc0 := 15) (pc' := 55) rfl (D d50_15) rfl (Jvm.Free.XT.ii_lt_t (of_lbig (by omega))) (by decide) (by decide) k)) ?_
  refine Gets.via (fun _ k => (XS.iloadN A0 hx rfl (D d50_55) rfl (XS.iconst A0 hx rfl (D d50_56) (ishlV A0 hx rfl (D d50_57) rfl (v := (Int32.ofNat (2 * n))) (shl1 _) k)))) ?_
  show Gets p e below _ (T0.setTop (mkF m 58 #[vI (Int32.ofNat n)] [(.int (Int32.ofNat (2 * n)))]))
  exact X0.retI hret rfl (by simp) (D d50_58) (by decide) (by decide) (fun vmE CE => ⟨rfl, rfl⟩)
abbrev RrmNbfS : Room := { frames := 1, cells := 1, slots := 100, locals := 12 }
def QrmNbfS (Z : State) (n : Nat) (h0 : Heap) (v : Option Value) (vm : Vm) (h : Heap) : Prop := ∃ (t : Addr) (kt : ClassId), v = some (.ref t) ∧ Keep h0 h [] ∧ Arv Z h t kt .byte (Int32.ofNat (2 * n)) [] (.int (0 : Int32)) ∧ Exa Z h t "[B" ∧ Safe Z consts_1 vm h t ∧ h0.size ≤ t
theorem rmNbfS (hcx : Cx Z a0 zc fm) (n : Nat) (h0 : Heap) (O0 : Old Z Z.heap.size h0) (Pr0 : n ≤ 45) : Met l Z consts_1 (⟨"java/lang/StringUTF16", "newBytesFor", "(I)[B"⟩ : MethodName) jdk_52_method_2_code 1 (some (.array .byte)) [] RrmNbfS [] #[(.int (Int32.ofNat n))] h0 (QrmNbfS Z n h0) := by
  have ⟨hw, hEL, O2, P5, O4, P6, OA, OH, OB⟩ := hcx
  refine Met.start (a0 := a0) (Ls := #[vI (Int32.ofNat n)]) pn49 hEL O0 (fun m => by first | (simp [entryFrame, mkF, argsToLocals, Value.category]; done) | rfl) ?_
  intro p e s m below meth cc T0 vm0 X0 sf0_ D hml hret hnm hx zz A0
  refine Gets.via (fun _ k => (XS.iloadN A0 hx rfl (D d49_0) rfl k)) ?_
  refine X0.callS (W := 0) (w254 hw) (w255 hw) (w21 hw) (w256 hw) (by decide) (X0.payM (sf := []) (rmNblS hcx n h0 X0.old Pr0) sf0 (w256 hw) (w21 hw)) rfl (sz hml rfl) (argsL := [(.int (Int32.ofNat n))]) (rest := []) (lenOf pd6 rfl) rfl rfl (mroom rfl rfl) (D d49_1) (by decide) (by decide) fun T1 h1 vm1 v1 X1 C1 z1 q1 => ?_
  obtain ⟨rfl, K1⟩ := q1
  rw [K1] at X1 C1
  refine X1.newAB (w23 hw) rfl (D d49_4) rfl (of_pos (by omega)) (cap := 100) (by rw [toN (by omega)]; omega) (by decide) (by decide) (by decide) fun T2 h2 a2 k2 X2 C2 E2 g2 S2 V2 Z2 => ?_
  have z2 := E2.1
  have l2 := ltA V2.lt
  exact X2.retA hret rfl rfl rfl (D d49_6) (by decide) (by decide) (fun vmE CE => ⟨a2, k2, rfl, ((Keep.refl h0 []).ext E2), V2, Z2, CE.safe (x := a2) (ltA (by omega)) S2, (leA (by omega))⟩)
abbrev RrmInfU : Room := { frames := 1, cells := 0, slots := 0, locals := 12 }
def QrmInfU (Z : State) (x : Addr) (h0 : Heap) (v : Option Value) (vm : Vm) (h : Heap) : Prop := v = none ∧ h = h0
theorem rmInfU (hcx : Cx Z a0 zc fm) (x : Addr) (h0 : Heap) (O0 : Old Z Z.heap.size h0) (Pr0 : Exa Z h0 x "java/lang/StringBuilder") (Pr1 : Fld Z h0 x "java/lang/AbstractStringBuilder" "coder" "B" (.int (1 : Int32))) : Met l Z consts_1 (⟨"java/lang/AbstractStringBuilder", "inflate", "()V"⟩ : MethodName) jdk_68_method_11_code 2 (none) [] RrmInfU [] #[(.ref x)] h0 (QrmInfU Z x h0) := by
  have ⟨hw, hEL, O2, P5, O4, P6, OA, OH, OB⟩ := hcx
  refine Met.start (a0 := a0) (Ls := #[vR x, .unset]) pn55 hEL O0 (fun m => by first | (simp [entryFrame, mkF, argsToLocals, Value.category]; done) | rfl) ?_
  intro p e s m below meth cc T0 vm0 X0 sf0_ D hml hret hnm hx zz A0
  have l1 := ltA Pr0.lt
  refine Gets.via (fun _ k => (XS.aloadN A0 hx rfl (D d55_0) rfl rfl k)) ?_
  refine X0.callV (W := 0) (w214 hw) (w178 hw) (w180 hw) (w179 hw) (nfs rfl (w180 hw)) (by decide) (X0.payM (sf := []) (rmSbL1 hcx x h0 X0.old Pr0 Pr1) sf0 (w181 hw) (w58 hw)) Pr0 rfl (sz hml rfl) (argsL := []) (rest := []) (lenOf pd18 rfl) rfl rfl (mroom rfl rfl) (D d55_1) (by decide) (by decide) fun T2 h2 vm2 v2 X2 C2 z2 q2 => ?_
  obtain ⟨rfl, K2⟩ := q2
  rw [K2] at X2 C2
  have A3 := X2.at
  refine Gets.via (fun _ k => (XS.ifNo A3 hx rfl (D d55_4) rfl (Jvm.Free.XT.i0_ne_f (by decide)) k)) ?_
  exact X2.retV hret (D d55_7) (by decide) (by decide) (fun vmE CE => ⟨rfl, rfl⟩)
abbrev RrmInfL : Room := { frames := 5, cells := 1, slots := 100, locals := 76 }
def QrmInfL (Z : State) (x : Addr) (d : Addr) (kd : ClassId) (cap : Nat) (cs : List Int32) (h0 : Heap) (v : Option Value) (vm : Vm) (h : Heap) : Prop := ∃ (t : Addr) (kt : ClassId), v = none ∧ Keep h0 h [x] ∧ Exa Z h x "java/lang/StringBuilder" ∧ Fld Z h x "java/lang/AbstractStringBuilder" "value" "[B" (.ref t) ∧ Fld Z h x "java/lang/AbstractStringBuilder" "coder" "B" (.int (1 : Int32)) ∧ Fld Z h x "java/lang/AbstractStringBuilder" "count" "I" (.int (Int32.ofNat (cs).length)) ∧ Fld Z h x "java/lang/AbstractStringBuilder" "maybeLatin1" "Z" (.int (0 : Int32)) ∧ Arv Z h t kt .byte (Int32.ofNat (2 * cap)) (enc16 cs) (.int (0 : Int32)) ∧ Exa Z h t "[B" ∧ Safe Z consts_1 vm h t ∧ h0.size ≤ t
theorem rmInfL (hcx : Cx Z a0 zc fm) (x : Addr) (d : Addr) (kd : ClassId) (cap : Nat) (cs : List Int32) (h0 : Heap) (O0 : Old Z Z.heap.size h0) (Pr0 : Exa Z h0 x "java/lang/StringBuilder") (Pr1 : Fld Z h0 x "java/lang/AbstractStringBuilder" "value" "[B" (.ref d)) (Pr2 : Fld Z h0 x "java/lang/AbstractStringBuilder" "coder" "B" (.int (0 : Int32))) (Pr3 : Fld Z h0 x "java/lang/AbstractStringBuilder" "count" "I" (.int (Int32.ofNat (cs).length))) (Pr4 : Fld Z h0 x "java/lang/AbstractStringBuilder" "maybeLatin1" "Z" (.int (0 : Int32))) (Pr5 : Arv Z h0 d kd .byte (Int32.ofNat cap) ((cs.map fun c => c.toInt8.toInt32).map Value.int) (.int (0 : Int32))) (Pr6 : Exa Z h0 d "[B") (Pr7 : (cs).length ≤ cap) (Pr8 : cap ≤ 2 * (cs).length + 3) (Pr9 : (cs).length ≤ 18) (Pr10 : ∀ z_ ∈ cs, ¬ z_ < 0 ∧ ¬ (255 : Int32) < z_) (Pr11 : Z.heap.size ≤ x) : Met l Z consts_1 (⟨"java/lang/AbstractStringBuilder", "inflate", "()V"⟩ : MethodName) jdk_68_method_11_code 2 (none) [] RrmInfL [] #[(.ref x)] h0 (QrmInfL Z x d kd cap cs h0) := by
  have ⟨hw, hEL, O2, P5, O4, P6, OA, OH, OB⟩ := hcx
  refine Met.start (a0 := a0) (Ls := #[vR x, .unset]) pn55 hEL O0 (fun m => by first | (simp [entryFrame, mkF, argsToLocals, Value.category]; done) | rfl) ?_
  intro p e s m below meth cc T0 vm0 X0 sf0_ D hml hret hnm hx zz A0
  have l1 := ltA Pr0.lt
  have l2 := ltA Pr5.lt
  refine Gets.via (fun _ k => (XS.aloadN A0 hx rfl (D d55_0) rfl rfl k)) ?_
  refine X0.callV (W := 0) (w214 hw) (w178 hw) (w180 hw) (w179 hw) (nfs rfl (w180 hw)) (by decide) (X0.payM (sf := []) (rmSbL0 hcx x h0 X0.old Pr0 Pr2) sf0 (w181 hw) (w58 hw)) Pr0 rfl (sz hml rfl) (argsL := []) (rest := []) (lenOf pd18 rfl) rfl rfl (mroom rfl rfl) (D d55_1) (by decide) (by decide) fun T3 h3 vm3 v3 X3 C3 z3 q3 => ?_
  obtain ⟨rfl, K3⟩ := q3
  rw [K3] at X3 C3
  have A4 := X3.at
  refine Gets.via (fun _ k => (XS.ifYes A4 hx rfl (pc0 := 4) (pc' := 8) rfl (D d55_4) rfl (Jvm.Free.XT.i0_ne_t (by decide)) (by decide) (by decide) k)) ?_
  refine Gets.via (fun _ k => (XS.aloadN A4 hx rfl (D d55_8) rfl rfl k)) ?_
  refine X3.getF (host := "") (Or.inl (w62 hw)) Via.refl Pr1 rfl rfl (D d55_9) fun T5 X5 => ?_
  show Gets p e below _ (T5.setTop (mkF m 12 #[vR x, .unset] [(.ref d)]))
  refine X5.alen Pr5 rfl rfl (D d55_12) ?_
  refine X5.callS (W := 0) (w276 hw) (w252 hw) (w21 hw) (w253 hw) (by decide) (X5.payM (sf := []) (rmNbfS hcx cap h0 X5.old (leA (by omega))) sf0 (w253 hw) (w21 hw)) rfl (sz hml rfl) (argsL := [(.int (Int32.ofNat cap))]) (rest := []) (lenOf pd7 rfl) rfl rfl (mroom rfl rfl) (D d55_13) (by decide) (by decide) fun T6 h6 vm6 v6 X6 C6 z6 q6 => ?_
  obtain ⟨t6, kt6, rfl, K6, g6_0, g6_1, g6_2, g6_3⟩ := q6
  have l7 := ltA g6_0.lt
  have A8 := X6.at
  refine Gets.via (fun _ k => (XS.astoreN A8 hx rfl (D d55_16) rfl rfl (l' := #[vR x, vR t6]) rfl k)) ?_
  have f9 : Arv Z h6 t6 kt6 .byte (Int32.ofNat (2 * cap)) (enc16 ([] : List Int32)) (.int (0 : Int32)) := g6_0
  refine Gets.via (fun _ k => (XS.aloadN A8 hx rfl (D d55_17) rfl rfl k)) ?_
  have f11 := Pr1.keep K6 nin0
  refine X6.getF (host := "") (Or.inl (w62 hw)) Via.refl f11 rfl rfl (D d55_18) fun T10 X10 => ?_
  have A12 := X10.at
  refine Gets.via (fun _ k => (XS.iconst A12 hx rfl (D d55_21) (XS.aloadN A12 hx rfl (D d55_22) rfl rfl (XS.iconst A12 hx rfl (D d55_23) (XS.aloadN A12 hx rfl (D d55_24) rfl rfl k))))) ?_
  show Gets p e below _ (T10.setTop (mkF m 25 #[vR x, vR t6] [(.ref x), (.int (0 : Int32)), (.ref t6), (.int (0 : Int32)), (.ref d)]))
  have f14 := Pr3.keep K6 nin0
  refine X10.getF (host := "") (Or.inl (w102 hw)) Via.refl f14 rfl rfl (D d55_25) fun T13 X13 => ?_
  have f15 := Pr5.keep K6 nin0
  refine X13.callS (W := 0) (w277 hw) (w278 hw) (w78 hw) (w279 hw) (by decide) (X13.payM (sf := [t6]) (rmLig hcx d t6 kd kt6 (Int32.ofNat cap) cap cap ([] : List Int32) cs h6 X13.old f15 (toN (by omega)) Pr7 f9 (by simp only [List.length_append, List.length_cons, List.length_nil]; omega) (leA (by omega)) (leA (by omega)) (neA (by omega)) Pr10) (sfS g6_2 sf0) (w279 hw) (w78 hw)) rfl (sz hml rfl) (argsL := [(.ref d), (.int (0 : Int32)), (.ref t6), (.int (0 : Int32)), (.int (Int32.ofNat (cs).length))]) (rest := []) (lenOf pd17 rfl) rfl rfl (mroom rfl rfl) (D d55_28) (by decide) (by decide) fun T16 h16 vm16 v16 X16 C16 z16 q16 => ?_
  obtain ⟨rfl, K16, g16_0⟩ := q16
  have l17 := ltA g16_0.lt
  have f18 : Arv Z h16 t6 kt6 .byte (Int32.ofNat (2 * cap)) (enc16 cs) (.int (0 : Int32)) := g16_0
  have A19 := X16.at
  refine Gets.via (fun _ k => (XS.aloadN A19 hx rfl (D d55_31) rfl rfl (XS.aloadN A19 hx rfl (D d55_32) rfl rfl k))) ?_
  have f21 := f11.keep K16 (ninS (neA (by omega)) nin0)
  have f22 := Pr0.keep K6
  have f23 := f22.keep K16
  refine X16.putF (host := "") (Or.inl (w62 hw)) Via.refl f21 f23 (Or.inl (w63 hw)) (w39 hw) (ty := (.array .byte)) (by decide) rfl rfl (leA (by omega)) (Safe.exa X16.hZ.alike f23 (by decide) (by decide)) rfl rfl (D d55_33) fun T20 h20 X20 C20 W20 F20 Z20 => ?_
  have z20 := W20.size
  have A24 := X20.at
  refine Gets.via (fun _ k => (XS.aloadN A24 hx rfl (D d55_36) rfl rfl (XS.iconst A24 hx rfl (D d55_37) k))) ?_
  show Gets p e below _ (T20.setTop (mkF m 38 #[vR x, vR t6] [(.int (1 : Int32)), (.ref x)]))
  have f26 := Pr2.keep K6 nin0
  have f27 := f26.keep K16 (ninS (neA (by omega)) nin0)
  have f28 := f27.other W20 (Or.inr (slot_ne (t := .byte) (t' := (.array .byte)) (Or.inl (w65 hw)) (Or.inl (w63 hw)) (by decide) (by decide) (by decide)))
  refine X20.putF (host := "") (Or.inl (w64 hw)) Via.refl f28 Z20 (Or.inl (w65 hw)) (w39 hw) (ty := .byte) (by decide) (by decide) (by decide) (leA (by omega)) (Safe.exa X20.hZ.alike Z20 (by decide) (by decide)) rfl rfl (D d55_38) fun T25 h25 X25 C25 W25 F25 Z25 => ?_
  have z25 := W25.size
  have f29 := F20.other W25 (Or.inr (slot_ne (t := (.array .byte)) (t' := .byte) (Or.inl (w63 hw)) (Or.inl (w65 hw)) (by decide) (by decide) (by decide)))
  have f30 := f14.keep K16 (ninS (neA (by omega)) nin0)
  have f31 := f30.other W20 (Or.inr (slot_ne (t := .int) (t' := (.array .byte)) (Or.inl (w103 hw)) (Or.inl (w63 hw)) (by decide) (by decide) (by decide)))
  have f32 := f31.other W25 (Or.inr (slot_ne (t := .int) (t' := .byte) (Or.inl (w103 hw)) (Or.inl (w65 hw)) (by decide) (by decide) (by decide)))
  have f33 := Pr4.keep K6 nin0
  have f34 := f33.keep K16 (ninS (neA (by omega)) nin0)
  have f35 := f34.other W20 (Or.inr (slot_ne (t := .boolean) (t' := (.array .byte)) (Or.inl (w296 hw)) (Or.inl (w63 hw)) (by decide) (by decide) (by decide)))
  have f36 := f35.other W25 (Or.inr (slot_ne (t := .boolean) (t' := .byte) (Or.inl (w296 hw)) (Or.inl (w65 hw)) (by decide) (by decide) (by decide)))
  have f37 := f18.other W20 (neA (by omega))
  have f38 := f37.other W25 (neA (by omega))
  have f39 := g6_1.keep K16
  have f40 := f39.wr W20
  have f41 := f40.wr W25
  have f42 := C16.safe (x := t6) (ltA (by omega)) g6_2
  have f43 := C20.safe (x := t6) (ltA (by omega)) f42
  have f44 := C25.safe (x := t6) (ltA (by omega)) f43
  exact X25.retV hret (D d55_41) (by decide) (by decide) (fun vmE CE => ⟨t6, kt6, rfl, (((((Keep.refl h0 [x]).trans K6 all0).trans K16 (allS (Or.inr (leA (by omega))) all0)).wr W20 (Or.inl (memI (i := 0) rfl))).wr W25 (Or.inl (memI (i := 0) rfl))), Z25, f29, F25, f32, f36, f38, f41, CE.safe (x := t6) (ltA (by omega)) f44, g6_3⟩)
abbrev RrmIin0 : Room := { frames := 1, cells := 0, slots := 0, locals := 13 }
def QrmIin0 (Z : State) (x : Addr) (s1 : Addr) (h0 : Heap) (v : Option Value) (vm : Vm) (h : Heap) : Prop := v = none ∧ h = h0
theorem rmIin0 (hcx : Cx Z a0 zc fm) (x : Addr) (s1 : Addr) (h0 : Heap) (O0 : Old Z Z.heap.size h0) (Pr0 : Exa Z h0 x "java/lang/StringBuilder") (Pr1 : Fld Z h0 x "java/lang/AbstractStringBuilder" "coder" "B" (.int (0 : Int32))) (Pr2 : Exa Z h0 s1 "java/lang/String") (Pr3 : Fld Z h0 s1 "java/lang/String" "coder" "B" (.int (0 : Int32))) : Met l Z consts_1 (⟨"java/lang/AbstractStringBuilder", "inflateIfNeededFor", "(Ljava/lang/String;)V"⟩ : MethodName) jdk_68_method_71_code 2 (none) [] RrmIin0 [] #[(.ref x), (.ref s1)] h0 (QrmIin0 Z x s1 h0) := by
  have ⟨hw, hEL, O2, P5, O4, P6, OA, OH, OB⟩ := hcx
  refine Met.start (a0 := a0) (Ls := #[vR x, vR s1]) pn26 hEL O0 (fun m => by first | (simp [entryFrame, mkF, argsToLocals, Value.category]; done) | rfl) ?_
  intro p e s m below meth cc T0 vm0 X0 sf0_ D hml hret hnm hx zz A0
  have l1 := ltA Pr0.lt
  have l2 := ltA Pr2.lt
  refine X0.getS (host := "") (Or.inl (w61 hw)) Via.refl (X0.sta O2) rfl (D d26_0) fun T3 X3 => ?_
  have A4 := X3.at
  refine Gets.via (fun _ k => (XS.ifNo A4 hx rfl (D d26_3) rfl (Jvm.Free.XT.i0_eq_f P5) k)) ?_
  refine Gets.via (fun _ k => (XS.aloadN A4 hx rfl (D d26_6) rfl rfl k)) ?_
  refine X3.getF (host := "") (Or.inl (w64 hw)) Via.refl Pr1 rfl rfl (D d26_7) fun T5 X5 => ?_
  have A6 := X5.at
  refine Gets.via (fun _ k => (XS.aloadN A6 hx rfl (D d26_10) rfl rfl k)) ?_
  show Gets p e below _ (T5.setTop (mkF m 11 #[vR x, vR s1] [(.ref s1), (.int (0 : Int32))]))
  refine X5.callV (W := 1) (w145 hw) (w47 hw) (w49 hw) (w48 hw) (nfs rfl (w49 hw)) (by decide) (X5.payM (sf := []) (rmCoder0 hcx s1 h0 X5.old Pr2 Pr3) sf0 (w50 hw) (w7 hw)) Pr2 rfl (sz hml rfl) (argsL := []) (rest := [(.int (0 : Int32))]) (lenOf pd1 rfl) rfl rfl (mroom rfl rfl) (D d26_11) (by decide) (by decide) fun T7 h7 vm7 v7 X7 C7 z7 q7 => ?_
  obtain ⟨rfl, K7⟩ := q7
  rw [K7] at X7 C7
  have A8 := X7.at
  refine Gets.via (fun _ k => (XS.icmpYes A8 hx rfl (pc0 := 14) (pc' := 21) rfl (D d26_14) rfl (Jvm.Free.XT.ii_eq_t (by decide)) (by decide) (by decide) k)) ?_
  exact X7.retV hret (D d26_21) (by decide) (by decide) (fun vmE CE => ⟨rfl, rfl⟩)
abbrev RrmIin1 : Room := { frames := 2, cells := 0, slots := 0, locals := 25 }
def QrmIin1 (Z : State) (x : Addr) (s1 : Addr) (h0 : Heap) (v : Option Value) (vm : Vm) (h : Heap) : Prop := v = none ∧ h = h0
theorem rmIin1 (hcx : Cx Z a0 zc fm) (x : Addr) (s1 : Addr) (h0 : Heap) (O0 : Old Z Z.heap.size h0) (Pr0 : Exa Z h0 x "java/lang/StringBuilder") (Pr1 : Fld Z h0 x "java/lang/AbstractStringBuilder" "coder" "B" (.int (1 : Int32))) (Pr2 : Exa Z h0 s1 "java/lang/String") (Pr3 : Fld Z h0 s1 "java/lang/String" "coder" "B" (.int (0 : Int32))) : Met l Z consts_1 (⟨"java/lang/AbstractStringBuilder", "inflateIfNeededFor", "(Ljava/lang/String;)V"⟩ : MethodName) jdk_68_method_71_code 2 (none) [] RrmIin1 [] #[(.ref x), (.ref s1)] h0 (QrmIin1 Z x s1 h0) := by
  have ⟨hw, hEL, O2, P5, O4, P6, OA, OH, OB⟩ := hcx
  refine Met.start (a0 := a0) (Ls := #[vR x, vR s1]) pn26 hEL O0 (fun m => by first | (simp [entryFrame, mkF, argsToLocals, Value.category]; done) | rfl) ?_
  intro p e s m below meth cc T0 vm0 X0 sf0_ D hml hret hnm hx zz A0
  have l1 := ltA Pr0.lt
  have l2 := ltA Pr2.lt
  refine X0.getS (host := "") (Or.inl (w61 hw)) Via.refl (X0.sta O2) rfl (D d26_0) fun T3 X3 => ?_
  have A4 := X3.at
  refine Gets.via (fun _ k => (XS.ifNo A4 hx rfl (D d26_3) rfl (Jvm.Free.XT.i0_eq_f P5) k)) ?_
  refine Gets.via (fun _ k => (XS.aloadN A4 hx rfl (D d26_6) rfl rfl k)) ?_
  refine X3.getF (host := "") (Or.inl (w64 hw)) Via.refl Pr1 rfl rfl (D d26_7) fun T5 X5 => ?_
  have A6 := X5.at
  refine Gets.via (fun _ k => (XS.aloadN A6 hx rfl (D d26_10) rfl rfl k)) ?_
  show Gets p e below _ (T5.setTop (mkF m 11 #[vR x, vR s1] [(.ref s1), (.int (1 : Int32))]))
  refine X5.callV (W := 1) (w145 hw) (w47 hw) (w49 hw) (w48 hw) (nfs rfl (w49 hw)) (by decide) (X5.payM (sf := []) (rmCoder0 hcx s1 h0 X5.old Pr2 Pr3) sf0 (w50 hw) (w7 hw)) Pr2 rfl (sz hml rfl) (argsL := []) (rest := [(.int (1 : Int32))]) (lenOf pd1 rfl) rfl rfl (mroom rfl rfl) (D d26_11) (by decide) (by decide) fun T7 h7 vm7 v7 X7 C7 z7 q7 => ?_
  obtain ⟨rfl, K7⟩ := q7
  rw [K7] at X7 C7
  have A8 := X7.at
  refine Gets.via (fun _ k => (XS.icmpNo A8 hx rfl (D d26_14) rfl (Jvm.Free.XT.ii_eq_f (by decide)) k)) ?_
  refine Gets.via (fun _ k => (XS.aloadN A8 hx rfl (D d26_17) rfl rfl k)) ?_
  refine X7.callP (W := 0) (w271 hw) (w272 hw) (w274 hw) (w273 hw) (w275 hw) (by decide) (X7.payM (sf := []) (rmInfU hcx x h0 X7.old Pr0 Pr1) sf0 (w275 hw) (w58 hw)) Pr0 rfl (sz hml rfl) (argsL := []) (rest := []) (lenOf pd19 rfl) rfl rfl (mroom rfl rfl) (D d26_18) (by decide) (by decide) fun T9 h9 vm9 v9 X9 C9 z9 q9 => ?_
  obtain ⟨rfl, K9⟩ := q9
  rw [K9] at X9 C9
  exact X9.retV hret (D d26_21) (by decide) (by decide) (fun vmE CE => ⟨rfl, rfl⟩)
abbrev RrmGg0 : Room := { frames := 1, cells := 0, slots := 0, locals := 22 }
def QrmGg0 (Z : State) (s1 : Addr) (d : Addr) (cs : List Int32) (b : Addr) (kb : ClassId) (ds : List Int32) (kd : ClassId) (cap : Nat) (h0 : Heap) (v : Option Value) (vm : Vm) (h : Heap) : Prop := v = none ∧ Keep h0 h [d] ∧ Arv Z h d kd .byte (Int32.ofNat cap) (((cs ++ ds).map fun c => c.toInt8.toInt32).map Value.int) (.int (0 : Int32))
theorem rmGg0 (hcx : Cx Z a0 zc fm) (s1 : Addr) (d : Addr) (cs : List Int32) (b : Addr) (kb : ClassId) (ds : List Int32) (kd : ClassId) (cap : Nat) (h0 : Heap) (O0 : Old Z Z.heap.size h0) (Pr0 : Str Z h0 s1 b kb ds) (Pr1 : Arv Z h0 d kd .byte (Int32.ofNat cap) ((cs.map fun c => c.toInt8.toInt32).map Value.int) (.int (0 : Int32))) (Pr2 : (cs).length + (ds).length ≤ cap) (Pr3 : cap ≤ 90) (Pr4 : Z.heap.size ≤ d) (Pr5 : b ≠ d) : Met l Z consts_1 (⟨"java/lang/String", "getBytes", "([BIB)V"⟩ : MethodName) jdk_42_method_147_code 4 (none) [] RrmGg0 [d] #[(.ref s1), (.ref d), (.int (Int32.ofNat (cs).length)), (.int (0 : Int32))] h0 (QrmGg0 Z s1 d cs b kb ds kd cap h0) := by
  have ⟨hw, hEL, O2, P5, O4, P6, OA, OH, OB⟩ := hcx
  refine Met.start (a0 := a0) (Ls := #[vR s1, vR d, vI (Int32.ofNat (cs).length), vI (0 : Int32)]) pn27 hEL O0 (fun m => by first | (simp [entryFrame, mkF, argsToLocals, Value.category]; done) | rfl) ?_
  intro p e s m below meth cc T0 vm0 X0 sf0_ D hml hret hnm hx zz A0
  have l1 := ltA Pr0.lt
  have l2 := ltA Pr0.lb
  have l3 := ltA Pr1.lt
  have l4 := neA Pr5
  have s5 := sf0_ d (memI (i := 0) rfl)
  have l4 := Pr0.2.2.2.2.2
  refine Gets.via (fun _ k => (XS.aloadN A0 hx rfl (D d27_0) rfl rfl k)) ?_
  refine X0.callV (W := 0) (w46 hw) (w47 hw) (w49 hw) (w48 hw) (nfs rfl (w49 hw)) (by decide) (X0.payM (sf := []) (rmCoder0 hcx s1 h0 X0.old Pr0.1 Pr0.2.1) sf0 (w50 hw) (w7 hw)) Pr0.1 rfl (sz hml rfl) (argsL := []) (rest := []) (lenOf pd1 rfl) rfl rfl (mroom rfl rfl) (D d27_1) (by decide) (by decide) fun T6 h6 vm6 v6 X6 C6 z6 q6 => ?_
  obtain ⟨rfl, K6⟩ := q6
  rw [K6] at X6 C6
  have A7 := X6.at
  refine Gets.via (fun _ k => (XS.iloadN A7 hx rfl (D d27_4) rfl (XS.icmpNo A7 hx rfl (D d27_5) rfl (Jvm.Free.XT.ii_ne_f (by decide)) k))) ?_
  refine Gets.via (fun _ k => (XS.aloadN A7 hx rfl (D d27_8) rfl rfl k)) ?_
  refine X6.getF (host := "") (Or.inl (w32 hw)) Via.refl Pr0.2.2.1 rfl rfl (D d27_9) fun T8 X8 => ?_
  show Gets p e below _ (T8.setTop (mkF m 12 #[vR s1, vR d, vI (Int32.ofNat (cs).length), vI (0 : Int32)] [(.ref b)]))
  have A9 := X8.at
  refine Gets.via (fun _ k => (XS.iconst A9 hx rfl (D d27_12) (XS.aloadN A9 hx rfl (D d27_13) rfl rfl (XS.iloadN A9 hx rfl (D d27_14) rfl (XS.iloadN A9 hx rfl (D d27_15) rfl (ishlV A9 hx rfl (D d27_16) rfl (v := (Int32.ofNat (cs).length)) (shl0 _) (XS.aloadN A9 hx rfl (D d27_17) rfl rfl k))))))) ?_
  refine X8.getF (host := "") (Or.inl (w32 hw)) Via.refl Pr0.2.2.1 rfl rfl (D d27_18) fun T10 X10 => ?_
  refine X10.alen Pr0.2.2.2.1 rfl rfl (D d27_21) ?_
  show Gets p e below _ (T10.setTop (mkF m 22 #[vR s1, vR d, vI (Int32.ofNat (cs).length), vI (0 : Int32)] [(.int (Int32.ofNat (ds).length)), (.int (Int32.ofNat (cs).length)), (.ref d), (.int (0 : Int32)), (.ref b)]))
  have f12 := C6.safe (x := d) (ltA (by omega)) s5
  refine X10.copy (w151 hw) (w134 hw) (w132 hw) (w133 hw) Pr0.2.2.2.1 (Pr1.pad (pad_rep _ _ 90)) (Or.inl ⟨rfl, rfl⟩) (by decide) (of_pos (by omega)) (of_pos (by omega)) (by rw [toN (by omega)]; exact Nat.le_of_eq (Nat.zero_add _)) (by rw [toN (by omega), toN (by omega), toN (by omega)]; omega) rfl (by rw [toN (by omega), toN (by omega), List.length_append, by_len, List.length_replicate]; omega) (leA (by omega)) f12 rfl (sz hml rfl) rfl (D d27_22) (by decide) (W := 0) (mroom rfl rfl) (by decide) fun T11 h11 X11 C11 K11 V11 => ?_
  have z11 := K11.1
  have V11_ : Arv Z h11 d kd .byte (Int32.ofNat cap) (((cs ++ ds).map fun c => c.toInt8.toInt32).map Value.int) (.int (0 : Int32)) := (by_app cs ds) ▸ catA V11 rfl (by rw [toN (by omega), by_len]) (by rw [toN (by omega), by_len])
  have A13 := X11.at
  refine Gets.via (fun _ k => (XS.goto A13 hx rfl (pc0 := 25) (pc' := 43) rfl (D d27_25) (by decide) (by decide) k)) ?_
  exact X11.retV hret (D d27_43) (by decide) (by decide) (fun vmE CE => ⟨rfl, ((Keep.refl h0 [d]).trans K11 (allS (Or.inl (memI (i := 0) rfl)) all0)), V11_⟩)
abbrev RrmGg1 : Room := { frames := 5, cells := 0, slots := 0, locals := 76 }
def QrmGg1 (Z : State) (s1 : Addr) (d : Addr) (cs : List Int32) (b : Addr) (kb : ClassId) (ds : List Int32) (kd : ClassId) (cap : Nat) (h0 : Heap) (v : Option Value) (vm : Vm) (h : Heap) : Prop := v = none ∧ Keep h0 h [d] ∧ Arv Z h d kd .byte (Int32.ofNat (2 * cap)) (enc16 (cs ++ ds)) (.int (0 : Int32))
theorem rmGg1 (hcx : Cx Z a0 zc fm) (s1 : Addr) (d : Addr) (cs : List Int32) (b : Addr) (kb : ClassId) (ds : List Int32) (kd : ClassId) (cap : Nat) (h0 : Heap) (O0 : Old Z Z.heap.size h0) (Pr0 : Str Z h0 s1 b kb ds) (Pr1 : Arv Z h0 d kd .byte (Int32.ofNat (2 * cap)) (enc16 cs) (.int (0 : Int32))) (Pr2 : (cs).length + (ds).length ≤ cap) (Pr3 : cap ≤ 90) (Pr4 : Z.heap.size ≤ d) (Pr5 : b ≠ d) : Met l Z consts_1 (⟨"java/lang/String", "getBytes", "([BIB)V"⟩ : MethodName) jdk_42_method_147_code 4 (none) [] RrmGg1 [d] #[(.ref s1), (.ref d), (.int (Int32.ofNat (cs).length)), (.int (1 : Int32))] h0 (QrmGg1 Z s1 d cs b kb ds kd cap h0) := by
  have ⟨hw, hEL, O2, P5, O4, P6, OA, OH, OB⟩ := hcx
  refine Met.start (a0 := a0) (Ls := #[vR s1, vR d, vI (Int32.ofNat (cs).length), vI (1 : Int32)]) pn27 hEL O0 (fun m => by first | (simp [entryFrame, mkF, argsToLocals, Value.category]; done) | rfl) ?_
  intro p e s m below meth cc T0 vm0 X0 sf0_ D hml hret hnm hx zz A0
  have l1 := ltA Pr0.lt
  have l2 := ltA Pr0.lb
  have l3 := ltA Pr1.lt
  have l4 := neA Pr5
  have s5 := sf0_ d (memI (i := 0) rfl)
  have l4 := Pr0.2.2.2.2.2
  refine Gets.via (fun _ k => (XS.aloadN A0 hx rfl (D d27_0) rfl rfl k)) ?_
  refine X0.callV (W := 0) (w46 hw) (w47 hw) (w49 hw) (w48 hw) (nfs rfl (w49 hw)) (by decide) (X0.payM (sf := []) (rmCoder0 hcx s1 h0 X0.old Pr0.1 Pr0.2.1) sf0 (w50 hw) (w7 hw)) Pr0.1 rfl (sz hml rfl) (argsL := []) (rest := []) (lenOf pd1 rfl) rfl rfl (mroom rfl rfl) (D d27_1) (by decide) (by decide) fun T6 h6 vm6 v6 X6 C6 z6 q6 => ?_
  obtain ⟨rfl, K6⟩ := q6
  rw [K6] at X6 C6
  have A7 := X6.at
  refine Gets.via (fun _ k => (XS.iloadN A7 hx rfl (D d27_4) rfl (XS.icmpYes A7 hx rfl (pc0 := 5) (pc' := 28) rfl (D d27_5) rfl (Jvm.Free.XT.ii_ne_t (by decide)) (by decide) (by decide) k))) ?_
  refine Gets.via (fun _ k => (XS.aloadN A7 hx rfl (D d27_28) rfl rfl k)) ?_
  refine X6.getF (host := "") (Or.inl (w32 hw)) Via.refl Pr0.2.2.1 rfl rfl (D d27_29) fun T8 X8 => ?_
  show Gets p e below _ (T8.setTop (mkF m 32 #[vR s1, vR d, vI (Int32.ofNat (cs).length), vI (1 : Int32)] [(.ref b)]))
  have A9 := X8.at
  refine Gets.via (fun _ k => (XS.iconst A9 hx rfl (D d27_32) (XS.aloadN A9 hx rfl (D d27_33) rfl rfl (XS.iloadN A9 hx rfl (D d27_34) rfl (XS.aloadN A9 hx rfl (D d27_35) rfl rfl k))))) ?_
  refine X8.getF (host := "") (Or.inl (w32 hw)) Via.refl Pr0.2.2.1 rfl rfl (D d27_36) fun T10 X10 => ?_
  refine X10.alen Pr0.2.2.2.1 rfl rfl (D d27_39) ?_
  have f11 := C6.safe (x := d) (ltA (by omega)) s5
  refine X10.callS (W := 0) (w297 hw) (w278 hw) (w78 hw) (w279 hw) (by decide) (X10.payM (sf := [d]) (rmLig hcx b d kb kd (Int32.ofNat (ds).length) ((ds).length) cap cs ds h0 X10.old Pr0.2.2.2.1 (toN (by omega)) (by omega) Pr1 Pr2 (leA (by omega)) Pr4 Pr5 Pr0.2.2.2.2.1) (sfS f11 sf0) (w279 hw) (w78 hw)) rfl (sz hml rfl) (argsL := [(.ref b), (.int (0 : Int32)), (.ref d), (.int (Int32.ofNat (cs).length)), (.int (Int32.ofNat (ds).length))]) (rest := []) (lenOf pd17 rfl) rfl rfl (mroom rfl rfl) (D d27_40) (by decide) (by decide) fun T12 h12 vm12 v12 X12 C12 z12 q12 => ?_
  obtain ⟨rfl, K12, g12_0⟩ := q12
  have l13 := ltA g12_0.lt
  show Gets p e below _ (T12.setTop (mkF m 43 #[vR s1, vR d, vI (Int32.ofNat (cs).length), vI (1 : Int32)] []))
  exact X12.retV hret (D d27_43) (by decide) (by decide) (fun vmE CE => ⟨rfl, ((Keep.refl h0 [d]).trans K12 (allS (Or.inl (memI (i := 0) rfl)) all0)), g12_0⟩)
abbrev RrmGps0 : Room := { frames := 2, cells := 0, slots := 0, locals := 37 }
def QrmGps0 (Z : State) (x : Addr) (s1 : Addr) (d : Addr) (kd : ClassId) (cap : Nat) (cs : List Int32) (b : Addr) (kb : ClassId) (ds : List Int32) (h0 : Heap) (v : Option Value) (vm : Vm) (h : Heap) : Prop := v = none ∧ Keep h0 h [d] ∧ Arv Z h d kd .byte (Int32.ofNat cap) (((cs ++ ds).map fun c => c.toInt8.toInt32).map Value.int) (.int (0 : Int32)) ∧ Exa Z h d "[B"
theorem rmGps0 (hcx : Cx Z a0 zc fm) (x : Addr) (s1 : Addr) (d : Addr) (kd : ClassId) (cap : Nat) (cs : List Int32) (b : Addr) (kb : ClassId) (ds : List Int32) (h0 : Heap) (O0 : Old Z Z.heap.size h0) (Pr0 : Exa Z h0 x "java/lang/StringBuilder") (Pr1 : Fld Z h0 x "java/lang/AbstractStringBuilder" "value" "[B" (.ref d)) (Pr2 : Fld Z h0 x "java/lang/AbstractStringBuilder" "coder" "B" (.int (0 : Int32))) (Pr3 : Fld Z h0 x "java/lang/AbstractStringBuilder" "count" "I" (.int (Int32.ofNat (cs).length))) (Pr4 : Fld Z h0 x "java/lang/AbstractStringBuilder" "maybeLatin1" "Z" (.int (0 : Int32))) (Pr5 : Arv Z h0 d kd .byte (Int32.ofNat cap) ((cs.map fun c => c.toInt8.toInt32).map Value.int) (.int (0 : Int32))) (Pr6 : Exa Z h0 d "[B") (Pr7 : Str Z h0 s1 b kb ds) (Pr8 : (cs).length + (ds).length ≤ cap) (Pr9 : cap ≤ 90) (Pr10 : Z.heap.size ≤ x) (Pr11 : Z.heap.size ≤ d) (Pr12 : x ≠ d) (Pr13 : b ≠ d) : Met l Z consts_1 (⟨"java/lang/AbstractStringBuilder", "putStringAt", "(ILjava/lang/String;)V"⟩ : MethodName) jdk_68_method_73_code 3 (none) [] RrmGps0 [d] #[(.ref x), (.int (Int32.ofNat (cs).length)), (.ref s1)] h0 (QrmGps0 Z x s1 d kd cap cs b kb ds h0) := by
  have ⟨hw, hEL, O2, P5, O4, P6, OA, OH, OB⟩ := hcx
  refine Met.start (a0 := a0) (Ls := #[vR x, vI (Int32.ofNat (cs).length), vR s1]) pn25 hEL O0 (fun m => by first | (simp [entryFrame, mkF, argsToLocals, Value.category]; done) | rfl) ?_
  intro p e s m below meth cc T0 vm0 X0 sf0_ D hml hret hnm hx zz A0
  have l1 := ltA Pr0.lt
  have l2 := ltA Pr5.lt
  have l3 := ltA Pr7.lt
  have l4 := ltA Pr7.lb
  have l5 := neA Pr12
  have l6 := neA Pr13
  have s7 := sf0_ d (memI (i := 0) rfl)
  refine Gets.via (fun _ k => (XS.aloadN A0 hx rfl (D d25_0) rfl rfl (XS.aloadN A0 hx rfl (D d25_1) rfl rfl k))) ?_
  refine X0.callP (W := 0) (w140 hw) (w141 hw) (w143 hw) (w142 hw) (w144 hw) (by decide) (X0.payM (sf := []) (rmIin0 hcx x s1 h0 X0.old Pr0 Pr2 Pr7.1 Pr7.2.1) sf0 (w144 hw) (w58 hw)) Pr0 rfl (sz hml rfl) (argsL := [(.ref s1)]) (rest := []) (lenOf pd20 rfl) rfl rfl (mroom rfl rfl) (D d25_2) (by decide) (by decide) fun T8 h8 vm8 v8 X8 C8 z8 q8 => ?_
  obtain ⟨rfl, K8⟩ := q8
  rw [K8] at X8 C8
  have A9 := X8.at
  refine Gets.via (fun _ k => (XS.aloadN A9 hx rfl (D d25_5) rfl rfl (XS.aloadN A9 hx rfl (D d25_6) rfl rfl k))) ?_
  refine X8.getF (host := "") (Or.inl (w62 hw)) Via.refl Pr1 rfl rfl (D d25_7) fun T10 X10 => ?_
  show Gets p e below _ (T10.setTop (mkF m 10 #[vR x, vI (Int32.ofNat (cs).length), vR s1] [(.ref d), (.ref s1)]))
  have A11 := X10.at
  refine Gets.via (fun _ k => (XS.iloadN A11 hx rfl (D d25_10) rfl (XS.aloadN A11 hx rfl (D d25_11) rfl rfl k))) ?_
  refine X10.getF (host := "") (Or.inl (w64 hw)) Via.refl Pr2 rfl rfl (D d25_12) fun T12 X12 => ?_
  have f13 := C8.safe (x := d) (ltA (by omega)) s7
  refine X12.callV (W := 0) (w146 hw) (w147 hw) (w149 hw) (w148 hw) (nfs rfl (w149 hw)) (by decide) (X12.payM (sf := [d]) (rmGg0 hcx s1 d cs b kb ds kd cap h0 X12.old Pr7 Pr5 Pr8 Pr9 Pr11 Pr13) (sfS f13 sf0) (w150 hw) (w7 hw)) Pr7.1 rfl (sz hml rfl) (argsL := [(.ref d), (.int (Int32.ofNat (cs).length)), (.int (0 : Int32))]) (rest := []) (lenOf pd21 rfl) rfl rfl (mroom rfl rfl) (D d25_15) (by decide) (by decide) fun T14 h14 vm14 v14 X14 C14 z14 q14 => ?_
  obtain ⟨rfl, K14, g14_0⟩ := q14
  have l15 := ltA g14_0.lt
  have f16 := Pr6.keep K14
  exact X14.retV hret (D d25_18) (by decide) (by decide) (fun vmE CE => ⟨rfl, ((Keep.refl h0 [d]).trans K14 (allS (Or.inl (memI (i := 0) rfl)) all0)), g14_0, f16⟩)
abbrev RrmGaa0 : Room := { frames := 4, cells := 1, slots := 100, locals := 62 }
def QrmGaa0 (Z : State) (x : Addr) (s1 : Addr) (d : Addr) (kd : ClassId) (cap : Nat) (cs : List Int32) (b : Addr) (kb : ClassId) (ds : List Int32) (h0 : Heap) (v : Option Value) (vm : Vm) (h : Heap) : Prop := ∃ (d2 : Addr) (kd2 : ClassId) (cap2 : Nat), v = some (.ref x) ∧ Keep h0 h [x, d] ∧ Exa Z h x "java/lang/StringBuilder" ∧ Fld Z h x "java/lang/AbstractStringBuilder" "value" "[B" (.ref d2) ∧ Fld Z h x "java/lang/AbstractStringBuilder" "coder" "B" (.int (0 : Int32)) ∧ Fld Z h x "java/lang/AbstractStringBuilder" "count" "I" (.int (Int32.ofNat ((cs ++ ds)).length)) ∧ Fld Z h x "java/lang/AbstractStringBuilder" "maybeLatin1" "Z" (.int (0 : Int32)) ∧ Arv Z h d2 kd2 .byte (Int32.ofNat cap2) (((cs ++ ds).map fun c => c.toInt8.toInt32).map Value.int) (.int (0 : Int32)) ∧ Exa Z h d2 "[B" ∧ Safe Z consts_1 vm h d2 ∧ ((cs ++ ds)).length ≤ cap2 ∧ cap2 ≤ 2 * ((cs ++ ds)).length + 3 ∧ Z.heap.size ≤ d2 ∧ x ≠ d2 ∧ (d2 = d ∨ h0.size ≤ d2)
theorem rmGaa0 (hcx : Cx Z a0 zc fm) (x : Addr) (s1 : Addr) (d : Addr) (kd : ClassId) (cap : Nat) (cs : List Int32) (b : Addr) (kb : ClassId) (ds : List Int32) (h0 : Heap) (O0 : Old Z Z.heap.size h0) (Pr0 : Exa Z h0 x "java/lang/StringBuilder") (Pr1 : Fld Z h0 x "java/lang/AbstractStringBuilder" "value" "[B" (.ref d)) (Pr2 : Fld Z h0 x "java/lang/AbstractStringBuilder" "coder" "B" (.int (0 : Int32))) (Pr3 : Fld Z h0 x "java/lang/AbstractStringBuilder" "count" "I" (.int (Int32.ofNat (cs).length))) (Pr4 : Fld Z h0 x "java/lang/AbstractStringBuilder" "maybeLatin1" "Z" (.int (0 : Int32))) (Pr5 : Arv Z h0 d kd .byte (Int32.ofNat cap) ((cs.map fun c => c.toInt8.toInt32).map Value.int) (.int (0 : Int32))) (Pr6 : Exa Z h0 d "[B") (Pr7 : (cs).length ≤ cap) (Pr8 : cap ≤ 2 * (cs).length + 3) (Pr9 : Str Z h0 s1 b kb ds) (Pr10 : (cs).length + (ds).length ≤ 18) (Pr11 : Z.heap.size ≤ x) (Pr12 : Z.heap.size ≤ d) (Pr13 : x ≠ d) (Pr14 : b ≠ d) (Pr15 : b ≠ x) (Pr16 : s1 ≠ x) (Pr17 : s1 ≠ d) : Met l Z consts_1 (⟨"java/lang/AbstractStringBuilder", "append", "(Ljava/lang/String;)Ljava/lang/AbstractStringBuilder;"⟩ : MethodName) jdk_68_method_22_code 3 (some (.object "java/lang/AbstractStringBuilder")) [] RrmGaa0 [d] #[(.ref x), (.ref s1)] h0 (QrmGaa0 Z x s1 d kd cap cs b kb ds h0) := by
  have ⟨hw, hEL, O2, P5, O4, P6, OA, OH, OB⟩ := hcx
  refine Met.start (a0 := a0) (Ls := #[vR x, vR s1, .unset]) pn18 hEL O0 (fun m => by first | (simp [entryFrame, mkF, argsToLocals, Value.category]; done) | rfl) ?_
  intro p e s m below meth cc T0 vm0 X0 sf0_ D hml hret hnm hx zz A0
  have l1 := ltA Pr0.lt
  have l2 := ltA Pr5.lt
  have l3 := ltA Pr9.lt
  have l4 := ltA Pr9.lb
  have l5 := neA Pr13
  have l6 := neA Pr14
  have l7 := neA Pr15
  have l8 := neA Pr16
  have l9 := neA Pr17
  have s10 := sf0_ d (memI (i := 0) rfl)
  have l4 := Pr9.2.2.2.2.2
  refine Gets.via (fun _ k => (XS.aloadN A0 hx rfl (D d18_0) rfl rfl (XS.ifnonnullYes A0 hx rfl (pc0 := 1) (pc' := 9) rfl (D d18_1) rfl (by decide) (by decide) k))) ?_
  refine Gets.via (fun _ k => (XS.aloadN A0 hx rfl (D d18_9) rfl rfl k)) ?_
  refine X0.callV (W := 0) (w101 hw) (w42 hw) (w44 hw) (w43 hw) (nfs rfl (w44 hw)) (by decide) (X0.payM (sf := []) (rmLen0 hcx s1 b kb ds h0 X0.old Pr9) sf0 (w45 hw) (w7 hw)) Pr9.1 rfl (sz hml rfl) (argsL := []) (rest := []) (lenOf pd22 rfl) rfl rfl (mroom rfl rfl) (D d18_10) (by decide) (by decide) fun T11 h11 vm11 v11 X11 C11 z11 q11 => ?_
  obtain ⟨rfl, K11⟩ := q11
  rw [K11] at X11 C11
  have A12 := X11.at
  refine Gets.via (fun _ k => (XS.istoreN A12 hx rfl (D d18_13) rfl (l' := #[vR x, vR s1, vI (Int32.ofNat (ds).length)]) rfl (XS.aloadN A12 hx rfl (D d18_14) rfl rfl (XS.aloadN A12 hx rfl (D d18_15) rfl rfl k)))) ?_
  show Gets p e below _ (T11.setTop (mkF m 16 #[vR x, vR s1, vI (Int32.ofNat (ds).length)] [(.ref x), (.ref x)]))
  refine X11.getF (host := "") (Or.inl (w102 hw)) Via.refl Pr3 rfl rfl (D d18_16) fun T13 X13 => ?_
  have A14 := X13.at
  refine Gets.via (fun _ k => (XS.iloadN A14 hx rfl (D d18_19) rfl (iaddV A14 hx rfl (D d18_20) rfl (v := (Int32.ofNat ((cs).length + (ds).length))) (of_add (cs).length (ds).length) k))) ?_
  rcases Nat.lt_or_ge cap ((cs).length + (ds).length) with hg | hg
  · skip
    refine X13.callP (W := 0) (w104 hw) (w105 hw) (w107 hw) (w106 hw) (w108 hw) (by decide) (X13.payM (sf := []) (rmEnG0 hcx x ((cs).length + (ds).length) d kd cap ((cs.map fun c => c.toInt8.toInt32).map Value.int) (Int32.ofNat (cs).length) h0 X13.old Pr0 Pr1 Pr2 Pr5 Pr3 Pr4 (by rw [by_len]; omega) hg (by omega) Pr11) sf0 (w108 hw) (w58 hw)) Pr0 rfl (sz hml rfl) (argsL := [(.int (Int32.ofNat ((cs).length + (ds).length)))]) (rest := []) (lenOf pd23 rfl) rfl rfl (mroom rfl rfl) (D d18_21) (by decide) (by decide) fun T15 h15 vm15 v15 X15 C15 z15 q15 => ?_
    obtain ⟨t15, kt15, rfl, K15, g15_0, g15_1, g15_2, g15_3, g15_4, g15_5, g15_6, g15_7, g15_8⟩ := q15
    have l16 := ltA g15_0.lt
    have l17 := ltA g15_5.lt
    have A18 := X15.at
    refine Gets.via (fun _ k => (XS.aloadN A18 hx rfl (D d18_24) rfl rfl (XS.aloadN A18 hx rfl (D d18_25) rfl rfl k))) ?_
    refine X15.getF (host := "") (Or.inl (w102 hw)) Via.refl g15_3 rfl rfl (D d18_26) fun T19 X19 => ?_
    show Gets p e below _ (T19.setTop (mkF m 29 #[vR x, vR s1, vI (Int32.ofNat (ds).length)] [(.int (Int32.ofNat (cs).length)), (.ref x)]))
    have A20 := X19.at
    refine Gets.via (fun _ k => (XS.aloadN A20 hx rfl (D d18_29) rfl rfl k)) ?_
    have l21 := neA (Exa.ne Pr9.1 Pr0 (by decide))
    have f22 : Str Z h15 s1 b kb ds := Pr9.keep K15 (ninS (neA (by omega)) nin0) (ninS (neA (by omega)) nin0)
    refine X19.callP (W := 0) (w135 hw) (w136 hw) (w138 hw) (w137 hw) (w139 hw) (by decide) (X19.payM (sf := [t15]) (rmGps0 hcx x s1 t15 kt15 (cap + max (((cs).length + (ds).length) - cap) (cap + 2)) cs b kb ds h15 X19.old g15_0 g15_1 g15_2 g15_3 g15_4 g15_5 g15_6 f22 (by omega) (by omega) Pr11 (leA (by omega)) (neA (by omega)) (neA (by omega))) (sfS g15_7 sf0) (w139 hw) (w58 hw)) g15_0 rfl (sz hml rfl) (argsL := [(.int (Int32.ofNat (cs).length)), (.ref s1)]) (rest := []) (lenOf pd24 rfl) rfl rfl (mroom rfl rfl) (D d18_30) (by decide) (by decide) fun T23 h23 vm23 v23 X23 C23 z23 q23 => ?_
    obtain ⟨rfl, K23, g23_0, g23_1⟩ := q23
    have l24 := ltA g23_0.lt
    have A25 := X23.at
    refine Gets.via (fun _ k => (XS.aloadN A25 hx rfl (D d18_33) rfl rfl (XS.dup A25 hx rfl (D d18_34) rfl rfl k))) ?_
    have f27 := g15_3.keep K23 (ninS (neA (by omega)) nin0)
    refine X23.getF (host := "") (Or.inl (w102 hw)) Via.refl f27 rfl rfl (D d18_35) fun T26 X26 => ?_
    have A28 := X26.at
    refine Gets.via (fun _ k => (XS.iloadN A28 hx rfl (D d18_38) rfl (iaddV A28 hx rfl (D d18_39) rfl (v := (Int32.ofNat ((cs).length + (ds).length))) (of_add (cs).length (ds).length) k))) ?_
    show Gets p e below _ (T26.setTop (mkF m 40 #[vR x, vR s1, vI (Int32.ofNat (ds).length)] [(.int (Int32.ofNat ((cs).length + (ds).length))), (.ref x)]))
    rw [← List.length_append]
    have f30 := g15_0.keep K23
    refine X26.putF (host := "") (Or.inl (w102 hw)) Via.refl f27 f30 (Or.inl (w103 hw)) (w39 hw) (ty := .int) (by decide) rfl rfl (leA (by omega)) (Safe.exa X26.hZ.alike f30 (by decide) (by decide)) rfl rfl (D d18_40) fun T29 h29 X29 C29 W29 F29 Z29 => ?_
    have z29 := W29.size
    have A31 := X29.at
    refine Gets.via (fun _ k => (XS.aloadN A31 hx rfl (D d18_43) rfl rfl k)) ?_
    have f32 := g15_1.keep K23 (ninS (neA (by omega)) nin0)
    have f33 := f32.other W29 (Or.inr (slot_ne (t := (.array .byte)) (t' := .int) (Or.inl (w63 hw)) (Or.inl (w103 hw)) (by decide) (by decide) (by decide)))
    have f34 := g15_2.keep K23 (ninS (neA (by omega)) nin0)
    have f35 := f34.other W29 (Or.inr (slot_ne (t := .byte) (t' := .int) (Or.inl (w65 hw)) (Or.inl (w103 hw)) (by decide) (by decide) (by decide)))
    have f36 := g15_4.keep K23 (ninS (neA (by omega)) nin0)
    have f37 := f36.other W29 (Or.inr (slot_ne (t := .boolean) (t' := .int) (Or.inl (w296 hw)) (Or.inl (w103 hw)) (by decide) (by decide) (by decide)))
    have f38 := g23_0.other W29 (neA (by omega))
    have f39 := g23_1.wr W29
    have f40 := C23.safe (x := t15) (ltA (by omega)) g15_7
    have f41 := C29.safe (x := t15) (ltA (by omega)) f40
    exact X29.retA hret rfl rfl rfl (D d18_44) (by decide) (by decide) (fun vmE CE => ⟨t15, kt15, (cap + max (((cs).length + (ds).length) - cap) (cap + 2)), rfl, ((((Keep.refl h0 [x, d]).trans K15 (allS (Or.inl (memI (i := 0) rfl)) all0)).trans K23 (allS (Or.inr (leA (by omega))) all0)).wr W29 (Or.inl (memI (i := 0) rfl))), Z29, f33, f35, F29, f37, f38, f39, CE.safe (x := t15) (ltA (by omega)) f41, (by simp only [List.length_append, List.length_cons, List.length_nil]; omega), (by simp only [List.length_append, List.length_cons, List.length_nil]; omega), (leA (by omega)), (neA (by omega)), (Or.inr (leA (by omega)))⟩)
  · skip
    refine X13.callP (W := 0) (w104 hw) (w105 hw) (w107 hw) (w106 hw) (w108 hw) (by decide) (X13.payM (sf := []) (rmEnN0 hcx x ((cs).length + (ds).length) d kd cap ((cs.map fun c => c.toInt8.toInt32).map Value.int) h0 X13.old Pr0 Pr1 Pr2 Pr5 hg (leA (by omega))) sf0 (w108 hw) (w58 hw)) Pr0 rfl (sz hml rfl) (argsL := [(.int (Int32.ofNat ((cs).length + (ds).length)))]) (rest := []) (lenOf pd23 rfl) rfl rfl (mroom rfl rfl) (D d18_21) (by decide) (by decide) fun T42 h42 vm42 v42 X42 C42 z42 q42 => ?_
    obtain ⟨rfl, K42⟩ := q42
    rw [K42] at X42 C42
    have A43 := X42.at
    refine Gets.via (fun _ k => (XS.aloadN A43 hx rfl (D d18_24) rfl rfl (XS.aloadN A43 hx rfl (D d18_25) rfl rfl k))) ?_
    show Gets p e below _ (T42.setTop (mkF m 26 #[vR x, vR s1, vI (Int32.ofNat (ds).length)] [(.ref x), (.ref x)]))
    refine X42.getF (host := "") (Or.inl (w102 hw)) Via.refl Pr3 rfl rfl (D d18_26) fun T44 X44 => ?_
    have A45 := X44.at
    refine Gets.via (fun _ k => (XS.aloadN A45 hx rfl (D d18_29) rfl rfl k)) ?_
    have f46 := C11.safe (x := d) (ltA (by omega)) s10
    have f47 := C42.safe (x := d) (ltA (by omega)) f46
    refine X44.callP (W := 0) (w135 hw) (w136 hw) (w138 hw) (w137 hw) (w139 hw) (by decide) (X44.payM (sf := [d]) (rmGps0 hcx x s1 d kd cap cs b kb ds h0 X44.old Pr0 Pr1 Pr2 Pr3 Pr4 Pr5 Pr6 Pr9 (by omega) (leA (by omega)) Pr11 Pr12 Pr13 Pr14) (sfS f47 sf0) (w139 hw) (w58 hw)) Pr0 rfl (sz hml rfl) (argsL := [(.int (Int32.ofNat (cs).length)), (.ref s1)]) (rest := []) (lenOf pd24 rfl) rfl rfl (mroom rfl rfl) (D d18_30) (by decide) (by decide) fun T48 h48 vm48 v48 X48 C48 z48 q48 => ?_
    obtain ⟨rfl, K48, g48_0, g48_1⟩ := q48
    have l49 := ltA g48_0.lt
    have A50 := X48.at
    refine Gets.via (fun _ k => (XS.aloadN A50 hx rfl (D d18_33) rfl rfl (XS.dup A50 hx rfl (D d18_34) rfl rfl k))) ?_
    have f52 := Pr3.keep K48 (ninS (neA (by omega)) nin0)
    refine X48.getF (host := "") (Or.inl (w102 hw)) Via.refl f52 rfl rfl (D d18_35) fun T51 X51 => ?_
    show Gets p e below _ (T51.setTop (mkF m 38 #[vR x, vR s1, vI (Int32.ofNat (ds).length)] [(.int (Int32.ofNat (cs).length)), (.ref x)]))
    have A53 := X51.at
    refine Gets.via (fun _ k => (XS.iloadN A53 hx rfl (D d18_38) rfl (iaddV A53 hx rfl (D d18_39) rfl (v := (Int32.ofNat ((cs).length + (ds).length))) (of_add (cs).length (ds).length) k))) ?_
    show Gets p e below _ (T51.setTop (mkF m 40 #[vR x, vR s1, vI (Int32.ofNat (ds).length)] [(.int (Int32.ofNat ((cs).length + (ds).length))), (.ref x)]))
    rw [← List.length_append]
    have f55 := Pr0.keep K48
    refine X51.putF (host := "") (Or.inl (w102 hw)) Via.refl f52 f55 (Or.inl (w103 hw)) (w39 hw) (ty := .int) (by decide) rfl rfl (leA (by omega)) (Safe.exa X51.hZ.alike f55 (by decide) (by decide)) rfl rfl (D d18_40) fun T54 h54 X54 C54 W54 F54 Z54 => ?_
    have z54 := W54.size
    have A56 := X54.at
    refine Gets.via (fun _ k => (XS.aloadN A56 hx rfl (D d18_43) rfl rfl k)) ?_
    have f57 := Pr1.keep K48 (ninS (neA (by omega)) nin0)
    have f58 := f57.other W54 (Or.inr (slot_ne (t := (.array .byte)) (t' := .int) (Or.inl (w63 hw)) (Or.inl (w103 hw)) (by decide) (by decide) (by decide)))
    have f59 := Pr2.keep K48 (ninS (neA (by omega)) nin0)
    have f60 := f59.other W54 (Or.inr (slot_ne (t := .byte) (t' := .int) (Or.inl (w65 hw)) (Or.inl (w103 hw)) (by decide) (by decide) (by decide)))
    have f61 := Pr4.keep K48 (ninS (neA (by omega)) nin0)
    have f62 := f61.other W54 (Or.inr (slot_ne (t := .boolean) (t' := .int) (Or.inl (w296 hw)) (Or.inl (w103 hw)) (by decide) (by decide) (by decide)))
    have f63 := g48_0.other W54 (neA (by omega))
    have f64 := g48_1.wr W54
    have f65 := C48.safe (x := d) (ltA (by omega)) f47
    have f66 := C54.safe (x := d) (ltA (by omega)) f65
    exact X54.retA hret rfl rfl rfl (D d18_44) (by decide) (by decide) (fun vmE CE => ⟨d, kd, cap, rfl, (((Keep.refl h0 [x, d]).trans K48 (allS (Or.inl (memI (i := 1) rfl)) all0)).wr W54 (Or.inl (memI (i := 0) rfl))), Z54, f58, f60, F54, f62, f63, f64, CE.safe (x := d) (ltA (by omega)) f66, (by simp only [List.length_append, List.length_cons, List.length_nil]; omega), (by simp only [List.length_append, List.length_cons, List.length_nil]; omega), Pr12, Pr13, (Or.inl rfl)⟩)
abbrev RrmGps1 : Room := { frames := 6, cells := 0, slots := 0, locals := 91 }
def QrmGps1 (Z : State) (x : Addr) (s1 : Addr) (d : Addr) (kd : ClassId) (cap : Nat) (cs : List Int32) (b : Addr) (kb : ClassId) (ds : List Int32) (h0 : Heap) (v : Option Value) (vm : Vm) (h : Heap) : Prop := v = none ∧ Keep h0 h [d] ∧ Arv Z h d kd .byte (Int32.ofNat (2 * cap)) (enc16 (cs ++ ds)) (.int (0 : Int32)) ∧ Exa Z h d "[B"
theorem rmGps1 (hcx : Cx Z a0 zc fm) (x : Addr) (s1 : Addr) (d : Addr) (kd : ClassId) (cap : Nat) (cs : List Int32) (b : Addr) (kb : ClassId) (ds : List Int32) (h0 : Heap) (O0 : Old Z Z.heap.size h0) (Pr0 : Exa Z h0 x "java/lang/StringBuilder") (Pr1 : Fld Z h0 x "java/lang/AbstractStringBuilder" "value" "[B" (.ref d)) (Pr2 : Fld Z h0 x "java/lang/AbstractStringBuilder" "coder" "B" (.int (1 : Int32))) (Pr3 : Fld Z h0 x "java/lang/AbstractStringBuilder" "count" "I" (.int (Int32.ofNat (cs).length))) (Pr4 : Fld Z h0 x "java/lang/AbstractStringBuilder" "maybeLatin1" "Z" (.int (0 : Int32))) (Pr5 : Arv Z h0 d kd .byte (Int32.ofNat (2 * cap)) (enc16 cs) (.int (0 : Int32))) (Pr6 : Exa Z h0 d "[B") (Pr7 : Str Z h0 s1 b kb ds) (Pr8 : (cs).length + (ds).length ≤ cap) (Pr9 : cap ≤ 90) (Pr10 : Z.heap.size ≤ x) (Pr11 : Z.heap.size ≤ d) (Pr12 : x ≠ d) (Pr13 : b ≠ d) : Met l Z consts_1 (⟨"java/lang/AbstractStringBuilder", "putStringAt", "(ILjava/lang/String;)V"⟩ : MethodName) jdk_68_method_73_code 3 (none) [] RrmGps1 [d] #[(.ref x), (.int (Int32.ofNat (cs).length)), (.ref s1)] h0 (QrmGps1 Z x s1 d kd cap cs b kb ds h0) := by
  have ⟨hw, hEL, O2, P5, O4, P6, OA, OH, OB⟩ := hcx
  refine Met.start (a0 := a0) (Ls := #[vR x, vI (Int32.ofNat (cs).length), vR s1]) pn25 hEL O0 (fun m => by first | (simp [entryFrame, mkF, argsToLocals, Value.category]; done) | rfl) ?_
  intro p e s m below meth cc T0 vm0 X0 sf0_ D hml hret hnm hx zz A0
  have l1 := ltA Pr0.lt
  have l2 := ltA Pr5.lt
  have l3 := ltA Pr7.lt
  have l4 := ltA Pr7.lb
  have l5 := neA Pr12
  have l6 := neA Pr13
  have s7 := sf0_ d (memI (i := 0) rfl)
  refine Gets.via (fun _ k => (XS.aloadN A0 hx rfl (D d25_0) rfl rfl (XS.aloadN A0 hx rfl (D d25_1) rfl rfl k))) ?_
  refine X0.callP (W := 0) (w140 hw) (w141 hw) (w143 hw) (w142 hw) (w144 hw) (by decide) (X0.payM (sf := []) (rmIin1 hcx x s1 h0 X0.old Pr0 Pr2 Pr7.1 Pr7.2.1) sf0 (w144 hw) (w58 hw)) Pr0 rfl (sz hml rfl) (argsL := [(.ref s1)]) (rest := []) (lenOf pd20 rfl) rfl rfl (mroom rfl rfl) (D d25_2) (by decide) (by decide) fun T8 h8 vm8 v8 X8 C8 z8 q8 => ?_
  obtain ⟨rfl, K8⟩ := q8
  rw [K8] at X8 C8
  have A9 := X8.at
  refine Gets.via (fun _ k => (XS.aloadN A9 hx rfl (D d25_5) rfl rfl (XS.aloadN A9 hx rfl (D d25_6) rfl rfl k))) ?_
  refine X8.getF (host := "") (Or.inl (w62 hw)) Via.refl Pr1 rfl rfl (D d25_7) fun T10 X10 => ?_
  show Gets p e below _ (T10.setTop (mkF m 10 #[vR x, vI (Int32.ofNat (cs).length), vR s1] [(.ref d), (.ref s1)]))
  have A11 := X10.at
  refine Gets.via (fun _ k => (XS.iloadN A11 hx rfl (D d25_10) rfl (XS.aloadN A11 hx rfl (D d25_11) rfl rfl k))) ?_
  refine X10.getF (host := "") (Or.inl (w64 hw)) Via.refl Pr2 rfl rfl (D d25_12) fun T12 X12 => ?_
  have f13 := C8.safe (x := d) (ltA (by omega)) s7
  refine X12.callV (W := 0) (w146 hw) (w147 hw) (w149 hw) (w148 hw) (nfs rfl (w149 hw)) (by decide) (X12.payM (sf := [d]) (rmGg1 hcx s1 d cs b kb ds kd cap h0 X12.old Pr7 Pr5 Pr8 Pr9 Pr11 Pr13) (sfS f13 sf0) (w150 hw) (w7 hw)) Pr7.1 rfl (sz hml rfl) (argsL := [(.ref d), (.int (Int32.ofNat (cs).length)), (.int (1 : Int32))]) (rest := []) (lenOf pd21 rfl) rfl rfl (mroom rfl rfl) (D d25_15) (by decide) (by decide) fun T14 h14 vm14 v14 X14 C14 z14 q14 => ?_
  obtain ⟨rfl, K14, g14_0⟩ := q14
  have l15 := ltA g14_0.lt
  have f16 := Pr6.keep K14
  exact X14.retV hret (D d25_18) (by decide) (by decide) (fun vmE CE => ⟨rfl, ((Keep.refl h0 [d]).trans K14 (allS (Or.inl (memI (i := 0) rfl)) all0)), g14_0, f16⟩)
abbrev RrmGaa1 : Room := { frames := 7, cells := 1, slots := 100, locals := 105 }
def QrmGaa1 (Z : State) (x : Addr) (s1 : Addr) (d : Addr) (kd : ClassId) (cap : Nat) (cs : List Int32) (b : Addr) (kb : ClassId) (ds : List Int32) (h0 : Heap) (v : Option Value) (vm : Vm) (h : Heap) : Prop := ∃ (d2 : Addr) (kd2 : ClassId) (cap2 : Nat), v = some (.ref x) ∧ Keep h0 h [x, d] ∧ Exa Z h x "java/lang/StringBuilder" ∧ Fld Z h x "java/lang/AbstractStringBuilder" "value" "[B" (.ref d2) ∧ Fld Z h x "java/lang/AbstractStringBuilder" "coder" "B" (.int (1 : Int32)) ∧ Fld Z h x "java/lang/AbstractStringBuilder" "count" "I" (.int (Int32.ofNat ((cs ++ ds)).length)) ∧ Fld Z h x "java/lang/AbstractStringBuilder" "maybeLatin1" "Z" (.int (0 : Int32)) ∧ Arv Z h d2 kd2 .byte (Int32.ofNat (2 * cap2)) (enc16 (cs ++ ds)) (.int (0 : Int32)) ∧ Exa Z h d2 "[B" ∧ Safe Z consts_1 vm h d2 ∧ ((cs ++ ds)).length ≤ cap2 ∧ cap2 ≤ 2 * ((cs ++ ds)).length + 3 ∧ Z.heap.size ≤ d2 ∧ x ≠ d2 ∧ (d2 = d ∨ h0.size ≤ d2)
theorem rmGaa1 (hcx : Cx Z a0 zc fm) (x : Addr) (s1 : Addr) (d : Addr) (kd : ClassId) (cap : Nat) (cs : List Int32) (b : Addr) (kb : ClassId) (ds : List Int32) (h0 : Heap) (O0 : Old Z Z.heap.size h0) (Pr0 : Exa Z h0 x "java/lang/StringBuilder") (Pr1 : Fld Z h0 x "java/lang/AbstractStringBuilder" "value" "[B" (.ref d)) (Pr2 : Fld Z h0 x "java/lang/AbstractStringBuilder" "coder" "B" (.int (1 : Int32))) (Pr3 : Fld Z h0 x "java/lang/AbstractStringBuilder" "count" "I" (.int (Int32.ofNat (cs).length))) (Pr4 : Fld Z h0 x "java/lang/AbstractStringBuilder" "maybeLatin1" "Z" (.int (0 : Int32))) (Pr5 : Arv Z h0 d kd .byte (Int32.ofNat (2 * cap)) (enc16 cs) (.int (0 : Int32))) (Pr6 : Exa Z h0 d "[B") (Pr7 : (cs).length ≤ cap) (Pr8 : cap ≤ 2 * (cs).length + 3) (Pr9 : Str Z h0 s1 b kb ds) (Pr10 : (cs).length + (ds).length ≤ 18) (Pr11 : Z.heap.size ≤ x) (Pr12 : Z.heap.size ≤ d) (Pr13 : x ≠ d) (Pr14 : b ≠ d) (Pr15 : b ≠ x) (Pr16 : s1 ≠ x) (Pr17 : s1 ≠ d) : Met l Z consts_1 (⟨"java/lang/AbstractStringBuilder", "append", "(Ljava/lang/String;)Ljava/lang/AbstractStringBuilder;"⟩ : MethodName) jdk_68_method_22_code 3 (some (.object "java/lang/AbstractStringBuilder")) [] RrmGaa1 [d] #[(.ref x), (.ref s1)] h0 (QrmGaa1 Z x s1 d kd cap cs b kb ds h0) := by
  have ⟨hw, hEL, O2, P5, O4, P6, OA, OH, OB⟩ := hcx
  refine Met.start (a0 := a0) (Ls := #[vR x, vR s1, .unset]) pn18 hEL O0 (fun m => by first | (simp [entryFrame, mkF, argsToLocals, Value.category]; done) | rfl) ?_
  intro p e s m below meth cc T0 vm0 X0 sf0_ D hml hret hnm hx zz A0
  have l1 := ltA Pr0.lt
  have l2 := ltA Pr5.lt
  have l3 := ltA Pr9.lt
  have l4 := ltA Pr9.lb
  have l5 := neA Pr13
  have l6 := neA Pr14
  have l7 := neA Pr15
  have l8 := neA Pr16
  have l9 := neA Pr17
  have s10 := sf0_ d (memI (i := 0) rfl)
  have l4 := Pr9.2.2.2.2.2
  refine Gets.via (fun _ k => (XS.aloadN A0 hx rfl (D d18_0) rfl rfl (XS.ifnonnullYes A0 hx rfl (pc0 := 1) (pc' := 9) rfl (D d18_1) rfl (by decide) (by decide) k))) ?_
  refine Gets.via (fun _ k => (XS.aloadN A0 hx rfl (D d18_9) rfl rfl k)) ?_
  refine X0.callV (W := 0) (w101 hw) (w42 hw) (w44 hw) (w43 hw) (nfs rfl (w44 hw)) (by decide) (X0.payM (sf := []) (rmLen0 hcx s1 b kb ds h0 X0.old Pr9) sf0 (w45 hw) (w7 hw)) Pr9.1 rfl (sz hml rfl) (argsL := []) (rest := []) (lenOf pd22 rfl) rfl rfl (mroom rfl rfl) (D d18_10) (by decide) (by decide) fun T11 h11 vm11 v11 X11 C11 z11 q11 => ?_
  obtain ⟨rfl, K11⟩ := q11
  rw [K11] at X11 C11
  have A12 := X11.at
  refine Gets.via (fun _ k => (XS.istoreN A12 hx rfl (D d18_13) rfl (l' := #[vR x, vR s1, vI (Int32.ofNat (ds).length)]) rfl (XS.aloadN A12 hx rfl (D d18_14) rfl rfl (XS.aloadN A12 hx rfl (D d18_15) rfl rfl k)))) ?_
  show Gets p e below _ (T11.setTop (mkF m 16 #[vR x, vR s1, vI (Int32.ofNat (ds).length)] [(.ref x), (.ref x)]))
  refine X11.getF (host := "") (Or.inl (w102 hw)) Via.refl Pr3 rfl rfl (D d18_16) fun T13 X13 => ?_
  have A14 := X13.at
  refine Gets.via (fun _ k => (XS.iloadN A14 hx rfl (D d18_19) rfl (iaddV A14 hx rfl (D d18_20) rfl (v := (Int32.ofNat ((cs).length + (ds).length))) (of_add (cs).length (ds).length) k))) ?_
  rcases Nat.lt_or_ge cap ((cs).length + (ds).length) with hg | hg
  · skip
    refine X13.callP (W := 0) (w104 hw) (w105 hw) (w107 hw) (w106 hw) (w108 hw) (by decide) (X13.payM (sf := []) (rmEnG1 hcx x ((cs).length + (ds).length) d kd cap (enc16 cs) (Int32.ofNat (cs).length) h0 X13.old Pr0 Pr1 Pr2 Pr5 Pr3 Pr4 (by rw [enc16_len]; omega) hg (by omega) Pr11) sf0 (w108 hw) (w58 hw)) Pr0 rfl (sz hml rfl) (argsL := [(.int (Int32.ofNat ((cs).length + (ds).length)))]) (rest := []) (lenOf pd23 rfl) rfl rfl (mroom rfl rfl) (D d18_21) (by decide) (by decide) fun T15 h15 vm15 v15 X15 C15 z15 q15 => ?_
    obtain ⟨t15, kt15, rfl, K15, g15_0, g15_1, g15_2, g15_3, g15_4, g15_5, g15_6, g15_7, g15_8⟩ := q15
    have l16 := ltA g15_0.lt
    have l17 := ltA g15_5.lt
    have A18 := X15.at
    refine Gets.via (fun _ k => (XS.aloadN A18 hx rfl (D d18_24) rfl rfl (XS.aloadN A18 hx rfl (D d18_25) rfl rfl k))) ?_
    refine X15.getF (host := "") (Or.inl (w102 hw)) Via.refl g15_3 rfl rfl (D d18_26) fun T19 X19 => ?_
    show Gets p e below _ (T19.setTop (mkF m 29 #[vR x, vR s1, vI (Int32.ofNat (ds).length)] [(.int (Int32.ofNat (cs).length)), (.ref x)]))
    have A20 := X19.at
    refine Gets.via (fun _ k => (XS.aloadN A20 hx rfl (D d18_29) rfl rfl k)) ?_
    have l21 := neA (Exa.ne Pr9.1 Pr0 (by decide))
    have f22 : Str Z h15 s1 b kb ds := Pr9.keep K15 (ninS (neA (by omega)) nin0) (ninS (neA (by omega)) nin0)
    refine X19.callP (W := 0) (w135 hw) (w136 hw) (w138 hw) (w137 hw) (w139 hw) (by decide) (X19.payM (sf := [t15]) (rmGps1 hcx x s1 t15 kt15 (cap + max (((cs).length + (ds).length) - cap) (cap + 2)) cs b kb ds h15 X19.old g15_0 g15_1 g15_2 g15_3 g15_4 g15_5 g15_6 f22 (by omega) (by omega) Pr11 (leA (by omega)) (neA (by omega)) (neA (by omega))) (sfS g15_7 sf0) (w139 hw) (w58 hw)) g15_0 rfl (sz hml rfl) (argsL := [(.int (Int32.ofNat (cs).length)), (.ref s1)]) (rest := []) (lenOf pd24 rfl) rfl rfl (mroom rfl rfl) (D d18_30) (by decide) (by decide) fun T23 h23 vm23 v23 X23 C23 z23 q23 => ?_
    obtain ⟨rfl, K23, g23_0, g23_1⟩ := q23
    have l24 := ltA g23_0.lt
    have A25 := X23.at
    refine Gets.via (fun _ k => (XS.aloadN A25 hx rfl (D d18_33) rfl rfl (XS.dup A25 hx rfl (D d18_34) rfl rfl k))) ?_
    have f27 := g15_3.keep K23 (ninS (neA (by omega)) nin0)
    refine X23.getF (host := "") (Or.inl (w102 hw)) Via.refl f27 rfl rfl (D d18_35) fun T26 X26 => ?_
    have A28 := X26.at
    refine Gets.via (fun _ k => (XS.iloadN A28 hx rfl (D d18_38) rfl (iaddV A28 hx rfl (D d18_39) rfl (v := (Int32.ofNat ((cs).length + (ds).length))) (of_add (cs).length (ds).length) k))) ?_
    show Gets p e below _ (T26.setTop (mkF m 40 #[vR x, vR s1, vI (Int32.ofNat (ds).length)] [(.int (Int32.ofNat ((cs).length + (ds).length))), (.ref x)]))
    rw [← List.length_append]
    have f30 := g15_0.keep K23
    refine X26.putF (host := "") (Or.inl (w102 hw)) Via.refl f27 f30 (Or.inl (w103 hw)) (w39 hw) (ty := .int) (by decide) rfl rfl (leA (by omega)) (Safe.exa X26.hZ.alike f30 (by decide) (by decide)) rfl rfl (D d18_40) fun T29 h29 X29 C29 W29 F29 Z29 => ?_
    have z29 := W29.size
    have A31 := X29.at
    refine Gets.via (fun _ k => (XS.aloadN A31 hx rfl (D d18_43) rfl rfl k)) ?_
    have f32 := g15_1.keep K23 (ninS (neA (by omega)) nin0)
    have f33 := f32.other W29 (Or.inr (slot_ne (t := (.array .byte)) (t' := .int) (Or.inl (w63 hw)) (Or.inl (w103 hw)) (by decide) (by decide) (by decide)))
    have f34 := g15_2.keep K23 (ninS (neA (by omega)) nin0)
    have f35 := f34.other W29 (Or.inr (slot_ne (t := .byte) (t' := .int) (Or.inl (w65 hw)) (Or.inl (w103 hw)) (by decide) (by decide) (by decide)))
    have f36 := g15_4.keep K23 (ninS (neA (by omega)) nin0)
    have f37 := f36.other W29 (Or.inr (slot_ne (t := .boolean) (t' := .int) (Or.inl (w296 hw)) (Or.inl (w103 hw)) (by decide) (by decide) (by decide)))
    have f38 := g23_0.other W29 (neA (by omega))
    have f39 := g23_1.wr W29
    have f40 := C23.safe (x := t15) (ltA (by omega)) g15_7
    have f41 := C29.safe (x := t15) (ltA (by omega)) f40
    exact X29.retA hret rfl rfl rfl (D d18_44) (by decide) (by decide) (fun vmE CE => ⟨t15, kt15, (cap + max (((cs).length + (ds).length) - cap) (cap + 2)), rfl, ((((Keep.refl h0 [x, d]).trans K15 (allS (Or.inl (memI (i := 0) rfl)) all0)).trans K23 (allS (Or.inr (leA (by omega))) all0)).wr W29 (Or.inl (memI (i := 0) rfl))), Z29, f33, f35, F29, f37, f38, f39, CE.safe (x := t15) (ltA (by omega)) f41, (by simp only [List.length_append, List.length_cons, List.length_nil]; omega), (by simp only [List.length_append, List.length_cons, List.length_nil]; omega), (leA (by omega)), (neA (by omega)), (Or.inr (leA (by omega)))⟩)
  · skip
    refine X13.callP (W := 0) (w104 hw) (w105 hw) (w107 hw) (w106 hw) (w108 hw) (by decide) (X13.payM (sf := []) (rmEnN1 hcx x ((cs).length + (ds).length) d kd cap (enc16 cs) h0 X13.old Pr0 Pr1 Pr2 Pr5 hg (leA (by omega))) sf0 (w108 hw) (w58 hw)) Pr0 rfl (sz hml rfl) (argsL := [(.int (Int32.ofNat ((cs).length + (ds).length)))]) (rest := []) (lenOf pd23 rfl) rfl rfl (mroom rfl rfl) (D d18_21) (by decide) (by decide) fun T42 h42 vm42 v42 X42 C42 z42 q42 => ?_
    obtain ⟨rfl, K42⟩ := q42
    rw [K42] at X42 C42
    have A43 := X42.at
    refine Gets.via (fun _ k => (XS.aloadN A43 hx rfl (D d18_24) rfl rfl (XS.aloadN A43 hx rfl (D d18_25) rfl rfl k))) ?_
    show Gets p e below _ (T42.setTop (mkF m 26 #[vR x, vR s1, vI (Int32.ofNat (ds).length)] [(.ref x), (.ref x)]))
    refine X42.getF (host := "") (Or.inl (w102 hw)) Via.refl Pr3 rfl rfl (D d18_26) fun T44 X44 => ?_
    have A45 := X44.at
    refine Gets.via (fun _ k => (XS.aloadN A45 hx rfl (D d18_29) rfl rfl k)) ?_
    have f46 := C11.safe (x := d) (ltA (by omega)) s10
    have f47 := C42.safe (x := d) (ltA (by omega)) f46
    refine X44.callP (W := 0) (w135 hw) (w136 hw) (w138 hw) (w137 hw) (w139 hw) (by decide) (X44.payM (sf := [d]) (rmGps1 hcx x s1 d kd cap cs b kb ds h0 X44.old Pr0 Pr1 Pr2 Pr3 Pr4 Pr5 Pr6 Pr9 (by omega) (leA (by omega)) Pr11 Pr12 Pr13 Pr14) (sfS f47 sf0) (w139 hw) (w58 hw)) Pr0 rfl (sz hml rfl) (argsL := [(.int (Int32.ofNat (cs).length)), (.ref s1)]) (rest := []) (lenOf pd24 rfl) rfl rfl (mroom rfl rfl) (D d18_30) (by decide) (by decide) fun T48 h48 vm48 v48 X48 C48 z48 q48 => ?_
    obtain ⟨rfl, K48, g48_0, g48_1⟩ := q48
    have l49 := ltA g48_0.lt
    have A50 := X48.at
    refine Gets.via (fun _ k => (XS.aloadN A50 hx rfl (D d18_33) rfl rfl (XS.dup A50 hx rfl (D d18_34) rfl rfl k))) ?_
    have f52 := Pr3.keep K48 (ninS (neA (by omega)) nin0)
    refine X48.getF (host := "") (Or.inl (w102 hw)) Via.refl f52 rfl rfl (D d18_35) fun T51 X51 => ?_
    show Gets p e below _ (T51.setTop (mkF m 38 #[vR x, vR s1, vI (Int32.ofNat (ds).length)] [(.int (Int32.ofNat (cs).length)), (.ref x)]))
    have A53 := X51.at
    refine Gets.via (fun _ k => (XS.iloadN A53 hx rfl (D d18_38) rfl (iaddV A53 hx rfl (D d18_39) rfl (v := (Int32.ofNat ((cs).length + (ds).length))) (of_add (cs).length (ds).length) k))) ?_
    show Gets p e below _ (T51.setTop (mkF m 40 #[vR x, vR s1, vI (Int32.ofNat (ds).length)] [(.int (Int32.ofNat ((cs).length + (ds).length))), (.ref x)]))
    rw [← List.length_append]
    have f55 := Pr0.keep K48
    refine X51.putF (host := "") (Or.inl (w102 hw)) Via.refl f52 f55 (Or.inl (w103 hw)) (w39 hw) (ty := .int) (by decide) rfl rfl (leA (by omega)) (Safe.exa X51.hZ.alike f55 (by decide) (by decide)) rfl rfl (D d18_40) fun T54 h54 X54 C54 W54 F54 Z54 => ?_
    have z54 := W54.size
    have A56 := X54.at
    refine Gets.via (fun _ k => (XS.aloadN A56 hx rfl (D d18_43) rfl rfl k)) ?_
    have f57 := Pr1.keep K48 (ninS (neA (by omega)) nin0)
    have f58 := f57.other W54 (Or.inr (slot_ne (t := (.array .byte)) (t' := .int) (Or.inl (w63 hw)) (Or.inl (w103 hw)) (by decide) (by decide) (by decide)))
    have f59 := Pr2.keep K48 (ninS (neA (by omega)) nin0)
    have f60 := f59.other W54 (Or.inr (slot_ne (t := .byte) (t' := .int) (Or.inl (w65 hw)) (Or.inl (w103 hw)) (by decide) (by decide) (by decide)))
    have f61 := Pr4.keep K48 (ninS (neA (by omega)) nin0)
    have f62 := f61.other W54 (Or.inr (slot_ne (t := .boolean) (t' := .int) (Or.inl (w296 hw)) (Or.inl (w103 hw)) (by decide) (by decide) (by decide)))
    have f63 := g48_0.other W54 (neA (by omega))
    have f64 := g48_1.wr W54
    have f65 := C48.safe (x := d) (ltA (by omega)) f47
    have f66 := C54.safe (x := d) (ltA (by omega)) f65
    exact X54.retA hret rfl rfl rfl (D d18_44) (by decide) (by decide) (fun vmE CE => ⟨d, kd, cap, rfl, (((Keep.refl h0 [x, d]).trans K48 (allS (Or.inl (memI (i := 1) rfl)) all0)).wr W54 (Or.inl (memI (i := 0) rfl))), Z54, f58, f60, F54, f62, f63, f64, CE.safe (x := d) (ltA (by omega)) f66, (by simp only [List.length_append, List.length_cons, List.length_nil]; omega), (by simp only [List.length_append, List.length_cons, List.length_nil]; omega), Pr12, Pr13, (Or.inl rfl)⟩)
abbrev RrmCeL : Room := { frames := 0, cells := 0, slots := 0, locals := 0 }
def QrmCeL (Z : State) (u : Int32) (h0 : Heap) (v : Option Value) (vm : Vm) (h : Heap) : Prop := v = some (.int (1 : Int32)) ∧ h = h0
theorem rmCeL (hcx : Cx Z a0 zc fm) (u : Int32) (h0 : Heap) (O0 : Old Z Z.heap.size h0) (Pr0 : ¬ u < 0 ∧ ¬ (255 : Int32) < u) : Met l Z consts_1 (⟨"java/lang/StringLatin1", "canEncode", "(C)Z"⟩ : MethodName) jdk_43_method_3_code 1 (some .boolean) [] RrmCeL [] #[(.int u)] h0 (QrmCeL Z u h0) := by
  have ⟨hw, hEL, O2, P5, O4, P6, OA, OH, OB⟩ := hcx
  refine Met.start (a0 := a0) (Ls := #[vI u]) pn40 hEL O0 (fun m => by first | (simp [entryFrame, mkF, argsToLocals, Value.category]; done) | rfl) ?_
  intro p e s m below meth cc T0 vm0 X0 sf0_ D hml hret hnm hx zz A0
  refine Gets.via (fun _ k => (XS.iloadN A0 hx rfl (D d40_0) rfl (XS.sipush A0 hx rfl (D d40_1) (XS.icmpNo A0 hx rfl (D d40_4) rfl (Jvm.Free.XT.ii_gt_f Pr0.2) k)))) ?_
  refine Gets.via (fun _ k => (XS.iconst A0 hx rfl (D d40_7) (XS.goto A0 hx rfl (pc0 := 8) (pc' := 12) rfl (D d40_8) (by decide) (by decide) k))) ?_
  exact X0.retI hret (by decide) (by simp) (D d40_12) (by decide) (by decide) (fun vmE CE => ⟨rfl, rfl⟩)
abbrev RrmCeU : Room := { frames := 0, cells := 0, slots := 0, locals := 0 }
def QrmCeU (Z : State) (u : Int32) (h0 : Heap) (v : Option Value) (vm : Vm) (h : Heap) : Prop := v = some (.int (0 : Int32)) ∧ h = h0
theorem rmCeU (hcx : Cx Z a0 zc fm) (u : Int32) (h0 : Heap) (O0 : Old Z Z.heap.size h0) (Pr0 : (255 : Int32) < u) : Met l Z consts_1 (⟨"java/lang/StringLatin1", "canEncode", "(C)Z"⟩ : MethodName) jdk_43_method_3_code 1 (some .boolean) [] RrmCeU [] #[(.int u)] h0 (QrmCeU Z u h0) := by
  have ⟨hw, hEL, O2, P5, O4, P6, OA, OH, OB⟩ := hcx
  refine Met.start (a0 := a0) (Ls := #[vI u]) pn40 hEL O0 (fun m => by first | (simp [entryFrame, mkF, argsToLocals, Value.category]; done) | rfl) ?_
  intro p e s m below meth cc T0 vm0 X0 sf0_ D hml hret hnm hx zz A0
  refine Gets.via (fun _ k => (XS.iloadN A0 hx rfl (D d40_0) rfl (XS.sipush A0 hx rfl (D d40_1) (XS.icmpYes A0 hx rfl (pc0 := 4) (pc' := 11) rfl (D d40_4) rfl (Jvm.Free.XT.ii_gt_t Pr0) (by decide) (by decide) k)))) ?_
  refine Gets.via (fun _ k => (XS.iconst A0 hx rfl (D d40_11) k)) ?_
  exact X0.retI hret (by decide) (by simp) (D d40_12) (by decide) (by decide) (fun vmE CE => ⟨rfl, rfl⟩)
abbrev RrmPcg : Room := { frames := 3, cells := 0, slots := 0, locals := 40 }
def QrmPcg (Z : State) (d : Addr) (u : Int32) (kd : ClassId) (cs : List Int32) (cap : Nat) (h0 : Heap) (v : Option Value) (vm : Vm) (h : Heap) : Prop := v = none ∧ Keep h0 h [d] ∧ Arv Z h d kd .byte (Int32.ofNat (2 * cap)) (enc16 (cs ++ [u])) (.int (0 : Int32))
theorem rmPcg (hcx : Cx Z a0 zc fm) (d : Addr) (u : Int32) (kd : ClassId) (cs : List Int32) (cap : Nat) (h0 : Heap) (O0 : Old Z Z.heap.size h0) (Pr0 : Arv Z h0 d kd .byte (Int32.ofNat (2 * cap)) (enc16 cs) (.int (0 : Int32))) (Pr1 : (cs).length + 1 ≤ cap) (Pr2 : cap ≤ 90) (Pr3 : Z.heap.size ≤ d) : Met l Z consts_1 (⟨"java/lang/StringUTF16", "putCharSB", "([BII)V"⟩ : MethodName) jdk_52_method_71_code 3 (none) [] RrmPcg [d] #[(.ref d), (.int (Int32.ofNat (cs).length)), (.int u)] h0 (QrmPcg Z d u kd cs cap h0) := by
  have ⟨hw, hEL, O2, P5, O4, P6, OA, OH, OB⟩ := hcx
  refine Met.start (a0 := a0) (Ls := #[vR d, vI (Int32.ofNat (cs).length), vI u]) pn61 hEL O0 (fun m => by first | (simp [entryFrame, mkF, argsToLocals, Value.category]; done) | rfl) ?_
  intro p e s m below meth cc T0 vm0 X0 sf0_ D hml hret hnm hx zz A0
  have l1 := ltA Pr0.lt
  have s2 := sf0_ d (memI (i := 0) rfl)
  refine Gets.via (fun _ k => (XS.iloadN A0 hx rfl (D d61_0) rfl (XS.aloadN A0 hx rfl (D d61_1) rfl rfl k))) ?_
  refine X0.callS (W := 0) (w264 hw) (w265 hw) (w21 hw) (w266 hw) (by decide) (X0.payM (sf := []) (rmUChk hcx ((cs).length) d kd cap (enc16 cs) h0 X0.old Pr0 (leA (by omega)) (by omega)) sf0 (w266 hw) (w21 hw)) rfl (sz hml rfl) (argsL := [(.int (Int32.ofNat (cs).length)), (.ref d)]) (rest := []) (lenOf pd25 rfl) rfl rfl (mroom rfl rfl) (D d61_2) (by decide) (by decide) fun T3 h3 vm3 v3 X3 C3 z3 q3 => ?_
  obtain ⟨rfl, K3⟩ := q3
  rw [K3] at X3 C3
  have A4 := X3.at
  refine Gets.via (fun _ k => (XS.aloadN A4 hx rfl (D d61_5) rfl rfl (XS.iloadN A4 hx rfl (D d61_6) rfl (XS.iloadN A4 hx rfl (D d61_7) rfl k)))) ?_
  have f5 := C3.safe (x := d) (ltA (by omega)) s2
  refine X3.callS (W := 0) (w234 hw) (w235 hw) (w21 hw) (w236 hw) (by decide) (X3.payM (sf := [d]) (rmPutC hcx d ((cs).length) u kd (Int32.ofNat (2 * cap)) (2 * cap) (enc16 cs) h0 X3.old Pr0 (toN (by omega)) (leA (by omega)) (enc16_len _) (by omega) Pr3) (sfS f5 sf0) (w236 hw) (w21 hw)) rfl (sz hml rfl) (argsL := [(.ref d), (.int (Int32.ofNat (cs).length)), (.int u)]) (rest := []) (lenOf pd8 rfl) rfl rfl (mroom rfl rfl) (D d61_8) (by decide) (by decide) fun T6 h6 vm6 v6 X6 C6 z6 q6 => ?_
  obtain ⟨rfl, K6, g6_0⟩ := q6
  have l7 := ltA g6_0.lt
  show Gets p e below _ (T6.setTop (mkF m 11 #[vR d, vI (Int32.ofNat (cs).length), vI u] []))
  have E11 : Arv Z h6 d kd .byte (Int32.ofNat (2 * cap)) (enc16 (cs ++ [u])) (.int (0 : Int32)) := enc16_snoc cs u ▸ g6_0
  exact X6.retV hret (D d61_11) (by decide) (by decide) (fun vmE CE => ⟨rfl, ((Keep.refl h0 [d]).trans K6 (allS (Or.inl (memI (i := 0) rfl)) all0)), E11⟩)
abbrev RrmGacL : Room := { frames := 4, cells := 1, slots := 100, locals := 62 }
def QrmGacL (Z : State) (x : Addr) (u : Int32) (d : Addr) (kd : ClassId) (cap : Nat) (cs : List Int32) (h0 : Heap) (v : Option Value) (vm : Vm) (h : Heap) : Prop := ∃ (d2 : Addr) (kd2 : ClassId) (cap2 : Nat), v = some (.ref x) ∧ Keep h0 h [x, d] ∧ Exa Z h x "java/lang/StringBuilder" ∧ Fld Z h x "java/lang/AbstractStringBuilder" "value" "[B" (.ref d2) ∧ Fld Z h x "java/lang/AbstractStringBuilder" "coder" "B" (.int (0 : Int32)) ∧ Fld Z h x "java/lang/AbstractStringBuilder" "count" "I" (.int (Int32.ofNat ((cs ++ [u])).length)) ∧ Fld Z h x "java/lang/AbstractStringBuilder" "maybeLatin1" "Z" (.int (0 : Int32)) ∧ Arv Z h d2 kd2 .byte (Int32.ofNat cap2) (((cs ++ [u]).map fun c => c.toInt8.toInt32).map Value.int) (.int (0 : Int32)) ∧ Exa Z h d2 "[B" ∧ Safe Z consts_1 vm h d2 ∧ ((cs ++ [u])).length ≤ cap2 ∧ cap2 ≤ 2 * ((cs ++ [u])).length + 3 ∧ Z.heap.size ≤ d2 ∧ x ≠ d2 ∧ (d2 = d ∨ h0.size ≤ d2)
theorem rmGacL (hcx : Cx Z a0 zc fm) (x : Addr) (u : Int32) (d : Addr) (kd : ClassId) (cap : Nat) (cs : List Int32) (h0 : Heap) (O0 : Old Z Z.heap.size h0) (Pr0 : Exa Z h0 x "java/lang/StringBuilder") (Pr1 : Fld Z h0 x "java/lang/AbstractStringBuilder" "value" "[B" (.ref d)) (Pr2 : Fld Z h0 x "java/lang/AbstractStringBuilder" "coder" "B" (.int (0 : Int32))) (Pr3 : Fld Z h0 x "java/lang/AbstractStringBuilder" "count" "I" (.int (Int32.ofNat (cs).length))) (Pr4 : Fld Z h0 x "java/lang/AbstractStringBuilder" "maybeLatin1" "Z" (.int (0 : Int32))) (Pr5 : Arv Z h0 d kd .byte (Int32.ofNat cap) ((cs.map fun c => c.toInt8.toInt32).map Value.int) (.int (0 : Int32))) (Pr6 : Exa Z h0 d "[B") (Pr7 : (cs).length ≤ cap) (Pr8 : cap ≤ 2 * (cs).length + 3) (Pr9 : (cs).length + 1 ≤ 18) (Pr10 : Z.heap.size ≤ x) (Pr11 : Z.heap.size ≤ d) (Pr12 : x ≠ d) (Pr13 : ¬ u < 0 ∧ ¬ (255 : Int32) < u) : Met l Z consts_1 (⟨"java/lang/AbstractStringBuilder", "append", "(C)Ljava/lang/AbstractStringBuilder;"⟩ : MethodName) jdk_68_method_31_code 2 (some (.object "java/lang/AbstractStringBuilder")) [] RrmGacL [d] #[(.ref x), (.int u)] h0 (QrmGacL Z x u d kd cap cs h0) := by
  have ⟨hw, hEL, O2, P5, O4, P6, OA, OH, OB⟩ := hcx
  refine Met.start (a0 := a0) (Ls := #[vR x, vI u]) pn39 hEL O0 (fun m => by first | (simp [entryFrame, mkF, argsToLocals, Value.category]; done) | rfl) ?_
  intro p e s m below meth cc T0 vm0 X0 sf0_ D hml hret hnm hx zz A0
  have l1 := ltA Pr0.lt
  have l2 := ltA Pr5.lt
  have l3 := neA Pr12
  have s4 := sf0_ d (memI (i := 0) rfl)
  refine Gets.via (fun _ k => (XS.aloadN A0 hx rfl (D d39_0) rfl rfl (XS.aloadN A0 hx rfl (D d39_1) rfl rfl k))) ?_
  refine X0.getF (host := "") (Or.inl (w102 hw)) Via.refl Pr3 rfl rfl (D d39_2) fun T5 X5 => ?_
  have A6 := X5.at
  refine Gets.via (fun _ k => (XS.iconst A6 hx rfl (D d39_5) (iaddV A6 hx rfl (D d39_6) rfl (v := (Int32.ofNat ((cs).length + 1))) (of_add (cs).length 1) k))) ?_
  rcases Nat.lt_or_ge cap ((cs).length + 1) with hg | hg
  · skip
    refine X5.callP (W := 0) (w104 hw) (w105 hw) (w107 hw) (w106 hw) (w108 hw) (by decide) (X5.payM (sf := []) (rmEnG0 hcx x ((cs).length + 1) d kd cap ((cs.map fun c => c.toInt8.toInt32).map Value.int) (Int32.ofNat (cs).length) h0 X5.old Pr0 Pr1 Pr2 Pr5 Pr3 Pr4 (by rw [by_len]; omega) hg (by omega) Pr10) sf0 (w108 hw) (w58 hw)) Pr0 rfl (sz hml rfl) (argsL := [(.int (Int32.ofNat ((cs).length + 1)))]) (rest := []) (lenOf pd23 rfl) rfl rfl (mroom rfl rfl) (D d39_7) (by decide) (by decide) fun T7 h7 vm7 v7 X7 C7 z7 q7 => ?_
    obtain ⟨t7, kt7, rfl, K7, g7_0, g7_1, g7_2, g7_3, g7_4, g7_5, g7_6, g7_7, g7_8⟩ := q7
    have l8 := ltA g7_0.lt
    have l9 := ltA g7_5.lt
    show Gets p e below _ (T7.setTop (mkF m 10 #[vR x, vI u] []))
    have A10 := X7.at
    refine Gets.via (fun _ k => (XS.aloadN A10 hx rfl (D d39_10) rfl rfl k)) ?_
    refine X7.callV (W := 0) (w214 hw) (w178 hw) (w180 hw) (w179 hw) (nfs rfl (w180 hw)) (by decide) (X7.payM (sf := []) (rmSbL0 hcx x h7 X7.old g7_0 g7_2) sf0 (w181 hw) (w58 hw)) g7_0 rfl (sz hml rfl) (argsL := []) (rest := []) (lenOf pd18 rfl) rfl rfl (mroom rfl rfl) (D d39_11) (by decide) (by decide) fun T11 h11 vm11 v11 X11 C11 z11 q11 => ?_
    obtain ⟨rfl, K11⟩ := q11
    rw [K11] at X11 C11
    have A12 := X11.at
    refine Gets.via (fun _ k => (XS.ifNo A12 hx rfl (D d39_14) rfl (Jvm.Free.XT.i0_eq_f (by decide)) k)) ?_
    refine Gets.via (fun _ k => (XS.iloadN A12 hx rfl (D d39_17) rfl k)) ?_
    refine X11.callS (W := 0) (w215 hw) (w216 hw) (w78 hw) (w217 hw) (by decide) (X11.payM (sf := []) (rmCeL hcx u h7 X11.old Pr13) sf0 (w217 hw) (w78 hw)) rfl (sz hml rfl) (argsL := [(.int u)]) (rest := []) (lenOf pd26 rfl) rfl rfl (mroom rfl rfl) (D d39_18) (by decide) (by decide) fun T13 h13 vm13 v13 X13 C13 z13 q13 => ?_
    obtain ⟨rfl, K13⟩ := q13
    rw [K13] at X13 C13
    have A14 := X13.at
    refine Gets.via (fun _ k => (XS.ifNo A14 hx rfl (D d39_21) rfl (Jvm.Free.XT.i0_eq_f (by decide)) k)) ?_
    refine Gets.via (fun _ k => (XS.aloadN A14 hx rfl (D d39_24) rfl rfl k)) ?_
    refine X13.getF (host := "") (Or.inl (w62 hw)) Via.refl g7_1 rfl rfl (D d39_25) fun T15 X15 => ?_
    show Gets p e below _ (T15.setTop (mkF m 28 #[vR x, vI u] [(.ref t7)]))
    have A16 := X15.at
    refine Gets.via (fun _ k => (XS.aloadN A16 hx rfl (D d39_28) rfl rfl (XS.dup A16 hx rfl (D d39_29) rfl rfl k))) ?_
    refine X15.getF (host := "") (Or.inl (w102 hw)) Via.refl g7_3 rfl rfl (D d39_30) fun T17 X17 => ?_
    have A18 := X17.at
    refine Gets.via (fun _ k => (XS.dupX1 A18 hx rfl (D d39_33) rfl rfl rfl (XS.iconst A18 hx rfl (D d39_34) (iaddV A18 hx rfl (D d39_35) rfl (v := (Int32.ofNat ((cs).length + 1))) (of_add (cs).length 1) k)))) ?_
    show Gets p e below _ (T17.setTop (mkF m 36 #[vR x, vI u] [(.int (Int32.ofNat ((cs).length + 1))), (.ref x), (.int (Int32.ofNat (cs).length)), (.ref t7)]))
    rw [len_snoc cs u]
    refine X17.putF (host := "") (Or.inl (w102 hw)) Via.refl g7_3 g7_0 (Or.inl (w103 hw)) (w39 hw) (ty := .int) (by decide) rfl rfl (leA (by omega)) (Safe.exa X17.hZ.alike g7_0 (by decide) (by decide)) rfl rfl (D d39_36) fun T19 h19 X19 C19 W19 F19 Z19 => ?_
    have z19 := W19.size
    have A20 := X19.at
    refine Gets.via (fun _ k => (XS.iloadN A20 hx rfl (D d39_39) rfl (XS.i2b A20 hx rfl (D d39_40) rfl k))) ?_
    have f22 := g7_5.other W19 (neA (by omega))
    have f23 := C11.safe (x := t7) (ltA (by omega)) g7_7
    have f24 := C13.safe (x := t7) (ltA (by omega)) f23
    have f25 := C19.safe (x := t7) (ltA (by omega)) f24
    refine X19.stB (f22.pad (pad_rep _ _ 1)) (i := (cs).length) (of_pos (by omega)) (toN (by omega)) (by rw [List.length_append, by_len]; exact Nat.lt_succ_self _) (by rw [toN (by omega)]; omega) (v := (u.toInt8.toInt32)) (nar_b _) f25 (leA (by omega)) rfl rfl (D d39_41) fun T21 h21 X21 C21 K21 V21 => ?_
    have z21 := K21.1
    have V21_ : Arv Z h21 t7 kt7 .byte (Int32.ofNat (cap + max (((cs).length + 1) - cap) (cap + 2))) (((cs.map fun c => c.toInt8.toInt32).map Value.int) ++ [(.int (u.toInt8.toInt32))]) (.int (0 : Int32)) := setA V21 (by_len _).symm
    have A26 := X21.at
    refine Gets.via (fun _ k => (XS.goto A26 hx rfl (pc0 := 42) (pc' := 75) rfl (D d39_42) (by decide) (by decide) k)) ?_
    show Gets p e below _ (T21.setTop (mkF m 75 #[vR x, vI u] []))
    have f27 := g7_1.other W19 (Or.inr (slot_ne (t := (.array .byte)) (t' := .int) (Or.inl (w63 hw)) (Or.inl (w103 hw)) (by decide) (by decide) (by decide)))
    have f28 := f27.keep K21 (ninS (neA (by omega)) nin0)
    have f29 : Arv Z h21 t7 kt7 .byte (Int32.ofNat (cap + max (((cs).length + 1) - cap) (cap + 2))) (((cs ++ [u]).map fun c => c.toInt8.toInt32).map Value.int) (.int (0 : Int32)) := by_app cs [u] ▸ (show Arv Z h21 t7 kt7 .byte (Int32.ofNat (cap + max (((cs).length + 1) - cap) (cap + 2))) (((cs.map fun c => c.toInt8.toInt32).map Value.int) ++ (([u].map fun c => c.toInt8.toInt32).map Value.int)) (.int (0 : Int32)) from V21_)
    refine Gets.via (fun _ k => (XS.aloadN A26 hx rfl (D d39_75) rfl rfl k)) ?_
    have f30 := Z19.keep K21
    have f31 := g7_2.other W19 (Or.inr (slot_ne (t := .byte) (t' := .int) (Or.inl (w65 hw)) (Or.inl (w103 hw)) (by decide) (by decide) (by decide)))
    have f32 := f31.keep K21 (ninS (neA (by omega)) nin0)
    have f33 := F19.keep K21 (ninS (neA (by omega)) nin0)
    have f34 := g7_4.other W19 (Or.inr (slot_ne (t := .boolean) (t' := .int) (Or.inl (w296 hw)) (Or.inl (w103 hw)) (by decide) (by decide) (by decide)))
    have f35 := f34.keep K21 (ninS (neA (by omega)) nin0)
    have f36 := g7_6.wr W19
    have f37 := f36.keep K21
    have f38 := C21.safe (x := t7) (ltA (by omega)) f25
    exact X21.retA hret rfl rfl rfl (D d39_76) (by decide) (by decide) (fun vmE CE => ⟨t7, kt7, (cap + max (((cs).length + 1) - cap) (cap + 2)), rfl, ((((Keep.refl h0 [x, d]).trans K7 (allS (Or.inl (memI (i := 0) rfl)) all0)).wr W19 (Or.inl (memI (i := 0) rfl))).trans K21 (allS (Or.inr (leA (by omega))) all0)), f30, f28, f32, f33, f35, f29, f37, CE.safe (x := t7) (ltA (by omega)) f38, (by simp only [List.length_append, List.length_cons, List.length_nil]; omega), (by simp only [List.length_append, List.length_cons, List.length_nil]; omega), (leA (by omega)), (neA (by omega)), (Or.inr (leA (by omega)))⟩)
  · skip
    refine X5.callP (W := 0) (w104 hw) (w105 hw) (w107 hw) (w106 hw) (w108 hw) (by decide) (X5.payM (sf := []) (rmEnN0 hcx x ((cs).length + 1) d kd cap ((cs.map fun c => c.toInt8.toInt32).map Value.int) h0 X5.old Pr0 Pr1 Pr2 Pr5 hg (leA (by omega))) sf0 (w108 hw) (w58 hw)) Pr0 rfl (sz hml rfl) (argsL := [(.int (Int32.ofNat ((cs).length + 1)))]) (rest := []) (lenOf pd23 rfl) rfl rfl (mroom rfl rfl) (D d39_7) (by decide) (by decide) fun T39 h39 vm39 v39 X39 C39 z39 q39 => ?_
    obtain ⟨rfl, K39⟩ := q39
    rw [K39] at X39 C39
    have A40 := X39.at
    refine Gets.via (fun _ k => (XS.aloadN A40 hx rfl (D d39_10) rfl rfl k)) ?_
    refine X39.callV (W := 0) (w214 hw) (w178 hw) (w180 hw) (w179 hw) (nfs rfl (w180 hw)) (by decide) (X39.payM (sf := []) (rmSbL0 hcx x h0 X39.old Pr0 Pr2) sf0 (w181 hw) (w58 hw)) Pr0 rfl (sz hml rfl) (argsL := []) (rest := []) (lenOf pd18 rfl) rfl rfl (mroom rfl rfl) (D d39_11) (by decide) (by decide) fun T41 h41 vm41 v41 X41 C41 z41 q41 => ?_
    obtain ⟨rfl, K41⟩ := q41
    rw [K41] at X41 C41
    have A42 := X41.at
    refine Gets.via (fun _ k => (XS.ifNo A42 hx rfl (D d39_14) rfl (Jvm.Free.XT.i0_eq_f (by decide)) k)) ?_
    refine Gets.via (fun _ k => (XS.iloadN A42 hx rfl (D d39_17) rfl k)) ?_
    refine X41.callS (W := 0) (w215 hw) (w216 hw) (w78 hw) (w217 hw) (by decide) (X41.payM (sf := []) (rmCeL hcx u h0 X41.old Pr13) sf0 (w217 hw) (w78 hw)) rfl (sz hml rfl) (argsL := [(.int u)]) (rest := []) (lenOf pd26 rfl) rfl rfl (mroom rfl rfl) (D d39_18) (by decide) (by decide) fun T43 h43 vm43 v43 X43 C43 z43 q43 => ?_
    obtain ⟨rfl, K43⟩ := q43
    rw [K43] at X43 C43
    show Gets p e below _ (T43.setTop (mkF m 21 #[vR x, vI u] [(.int (1 : Int32))]))
    have A44 := X43.at
    refine Gets.via (fun _ k => (XS.ifNo A44 hx rfl (D d39_21) rfl (Jvm.Free.XT.i0_eq_f (by decide)) k)) ?_
    refine Gets.via (fun _ k => (XS.aloadN A44 hx rfl (D d39_24) rfl rfl k)) ?_
    refine X43.getF (host := "") (Or.inl (w62 hw)) Via.refl Pr1 rfl rfl (D d39_25) fun T45 X45 => ?_
    have A46 := X45.at
    refine Gets.via (fun _ k => (XS.aloadN A46 hx rfl (D d39_28) rfl rfl (XS.dup A46 hx rfl (D d39_29) rfl rfl k))) ?_
    refine X45.getF (host := "") (Or.inl (w102 hw)) Via.refl Pr3 rfl rfl (D d39_30) fun T47 X47 => ?_
    have A48 := X47.at
    refine Gets.via (fun _ k => (XS.dupX1 A48 hx rfl (D d39_33) rfl rfl rfl (XS.iconst A48 hx rfl (D d39_34) (iaddV A48 hx rfl (D d39_35) rfl (v := (Int32.ofNat ((cs).length + 1))) (of_add (cs).length 1) k)))) ?_
    show Gets p e below _ (T47.setTop (mkF m 36 #[vR x, vI u] [(.int (Int32.ofNat ((cs).length + 1))), (.ref x), (.int (Int32.ofNat (cs).length)), (.ref d)]))
    show Gets p e below _ (T47.setTop (mkF m 36 #[vR x, vI u] [(.int (Int32.ofNat ((cs).length + 1))), (.ref x), (.int (Int32.ofNat (cs).length)), (.ref d)]))
    rw [len_snoc cs u]
    refine X47.putF (host := "") (Or.inl (w102 hw)) Via.refl Pr3 Pr0 (Or.inl (w103 hw)) (w39 hw) (ty := .int) (by decide) rfl rfl (leA (by omega)) (Safe.exa X47.hZ.alike Pr0 (by decide) (by decide)) rfl rfl (D d39_36) fun T49 h49 X49 C49 W49 F49 Z49 => ?_
    have z49 := W49.size
    have A50 := X49.at
    refine Gets.via (fun _ k => (XS.iloadN A50 hx rfl (D d39_39) rfl (XS.i2b A50 hx rfl (D d39_40) rfl k))) ?_
    have f52 := Pr5.other W49 (neA (by omega))
    have f53 := C39.safe (x := d) (ltA (by omega)) s4
    have f54 := C41.safe (x := d) (ltA (by omega)) f53
    have f55 := C43.safe (x := d) (ltA (by omega)) f54
    have f56 := C49.safe (x := d) (ltA (by omega)) f55
    refine X49.stB (f52.pad (pad_rep _ _ 1)) (i := (cs).length) (of_pos (by omega)) (toN (by omega)) (by rw [List.length_append, by_len]; exact Nat.lt_succ_self _) (by rw [toN (by omega)]; omega) (v := (u.toInt8.toInt32)) (nar_b _) f56 (leA (by omega)) rfl rfl (D d39_41) fun T51 h51 X51 C51 K51 V51 => ?_
    have z51 := K51.1
    have V51_ : Arv Z h51 d kd .byte (Int32.ofNat cap) (((cs.map fun c => c.toInt8.toInt32).map Value.int) ++ [(.int (u.toInt8.toInt32))]) (.int (0 : Int32)) := setA V51 (by_len _).symm
    have A57 := X51.at
    refine Gets.via (fun _ k => (XS.goto A57 hx rfl (pc0 := 42) (pc' := 75) rfl (D d39_42) (by decide) (by decide) k)) ?_
    show Gets p e below _ (T51.setTop (mkF m 75 #[vR x, vI u] []))
    have f58 := Pr1.other W49 (Or.inr (slot_ne (t := (.array .byte)) (t' := .int) (Or.inl (w63 hw)) (Or.inl (w103 hw)) (by decide) (by decide) (by decide)))
    have f59 := f58.keep K51 (ninS (neA (by omega)) nin0)
    have f60 : Arv Z h51 d kd .byte (Int32.ofNat cap) (((cs ++ [u]).map fun c => c.toInt8.toInt32).map Value.int) (.int (0 : Int32)) := by_app cs [u] ▸ (show Arv Z h51 d kd .byte (Int32.ofNat cap) (((cs.map fun c => c.toInt8.toInt32).map Value.int) ++ (([u].map fun c => c.toInt8.toInt32).map Value.int)) (.int (0 : Int32)) from V51_)
    refine Gets.via (fun _ k => (XS.aloadN A57 hx rfl (D d39_75) rfl rfl k)) ?_
    have f61 := Z49.keep K51
    have f62 := Pr2.other W49 (Or.inr (slot_ne (t := .byte) (t' := .int) (Or.inl (w65 hw)) (Or.inl (w103 hw)) (by decide) (by decide) (by decide)))
    have f63 := f62.keep K51 (ninS (neA (by omega)) nin0)
    have f64 := F49.keep K51 (ninS (neA (by omega)) nin0)
    have f65 := Pr4.other W49 (Or.inr (slot_ne (t := .boolean) (t' := .int) (Or.inl (w296 hw)) (Or.inl (w103 hw)) (by decide) (by decide) (by decide)))
    have f66 := f65.keep K51 (ninS (neA (by omega)) nin0)
    have f67 := Pr6.wr W49
    have f68 := f67.keep K51
    have f69 := C51.safe (x := d) (ltA (by omega)) f56
    exact X51.retA hret rfl rfl rfl (D d39_76) (by decide) (by decide) (fun vmE CE => ⟨d, kd, cap, rfl, (((Keep.refl h0 [x, d]).wr W49 (Or.inl (memI (i := 0) rfl))).trans K51 (allS (Or.inl (memI (i := 1) rfl)) all0)), f61, f59, f63, f64, f66, f60, f68, CE.safe (x := d) (ltA (by omega)) f69, (by simp only [List.length_append, List.length_cons, List.length_nil]; omega), (by simp only [List.length_append, List.length_cons, List.length_nil]; omega), Pr11, Pr12, (Or.inl rfl)⟩)
abbrev RrmGacW : Room := { frames := 6, cells := 2, slots := 200, locals := 89 }
def QrmGacW (Z : State) (x : Addr) (u : Int32) (d : Addr) (kd : ClassId) (cap : Nat) (cs : List Int32) (h0 : Heap) (v : Option Value) (vm : Vm) (h : Heap) : Prop := ∃ (d2 : Addr) (kd2 : ClassId) (cap2 : Nat), v = some (.ref x) ∧ Keep h0 h [x, d] ∧ Exa Z h x "java/lang/StringBuilder" ∧ Fld Z h x "java/lang/AbstractStringBuilder" "value" "[B" (.ref d2) ∧ Fld Z h x "java/lang/AbstractStringBuilder" "coder" "B" (.int (1 : Int32)) ∧ Fld Z h x "java/lang/AbstractStringBuilder" "count" "I" (.int (Int32.ofNat ((cs ++ [u])).length)) ∧ Fld Z h x "java/lang/AbstractStringBuilder" "maybeLatin1" "Z" (.int (0 : Int32)) ∧ Arv Z h d2 kd2 .byte (Int32.ofNat (2 * cap2)) (enc16 (cs ++ [u])) (.int (0 : Int32)) ∧ Exa Z h d2 "[B" ∧ Safe Z consts_1 vm h d2 ∧ ((cs ++ [u])).length ≤ cap2 ∧ cap2 ≤ 2 * ((cs ++ [u])).length + 3 ∧ Z.heap.size ≤ d2 ∧ x ≠ d2 ∧ (d2 = d ∨ h0.size ≤ d2)
theorem rmGacW (hcx : Cx Z a0 zc fm) (x : Addr) (u : Int32) (d : Addr) (kd : ClassId) (cap : Nat) (cs : List Int32) (h0 : Heap) (O0 : Old Z Z.heap.size h0) (Pr0 : Exa Z h0 x "java/lang/StringBuilder") (Pr1 : Fld Z h0 x "java/lang/AbstractStringBuilder" "value" "[B" (.ref d)) (Pr2 : Fld Z h0 x "java/lang/AbstractStringBuilder" "coder" "B" (.int (0 : Int32))) (Pr3 : Fld Z h0 x "java/lang/AbstractStringBuilder" "count" "I" (.int (Int32.ofNat (cs).length))) (Pr4 : Fld Z h0 x "java/lang/AbstractStringBuilder" "maybeLatin1" "Z" (.int (0 : Int32))) (Pr5 : Arv Z h0 d kd .byte (Int32.ofNat cap) ((cs.map fun c => c.toInt8.toInt32).map Value.int) (.int (0 : Int32))) (Pr6 : Exa Z h0 d "[B") (Pr7 : (cs).length ≤ cap) (Pr8 : cap ≤ 2 * (cs).length + 3) (Pr9 : (cs).length + 1 ≤ 18) (Pr10 : Z.heap.size ≤ x) (Pr11 : Z.heap.size ≤ d) (Pr12 : x ≠ d) (Pr13 : (255 : Int32) < u) (Pr14 : ∀ z_ ∈ cs, ¬ z_ < 0 ∧ ¬ (255 : Int32) < z_) : Met l Z consts_1 (⟨"java/lang/AbstractStringBuilder", "append", "(C)Ljava/lang/AbstractStringBuilder;"⟩ : MethodName) jdk_68_method_31_code 2 (some (.object "java/lang/AbstractStringBuilder")) [] RrmGacW [d] #[(.ref x), (.int u)] h0 (QrmGacW Z x u d kd cap cs h0) := by
  have ⟨hw, hEL, O2, P5, O4, P6, OA, OH, OB⟩ := hcx
  refine Met.start (a0 := a0) (Ls := #[vR x, vI u]) pn39 hEL O0 (fun m => by first | (simp [entryFrame, mkF, argsToLocals, Value.category]; done) | rfl) ?_
  intro p e s m below meth cc T0 vm0 X0 sf0_ D hml hret hnm hx zz A0
  have l1 := ltA Pr0.lt
  have l2 := ltA Pr5.lt
  have l3 := neA Pr12
  have s4 := sf0_ d (memI (i := 0) rfl)
  refine Gets.via (fun _ k => (XS.aloadN A0 hx rfl (D d39_0) rfl rfl (XS.aloadN A0 hx rfl (D d39_1) rfl rfl k))) ?_
  refine X0.getF (host := "") (Or.inl (w102 hw)) Via.refl Pr3 rfl rfl (D d39_2) fun T5 X5 => ?_
  have A6 := X5.at
  refine Gets.via (fun _ k => (XS.iconst A6 hx rfl (D d39_5) (iaddV A6 hx rfl (D d39_6) rfl (v := (Int32.ofNat ((cs).length + 1))) (of_add (cs).length 1) k))) ?_
  rcases Nat.lt_or_ge cap ((cs).length + 1) with hg | hg
  · skip
    refine X5.callP (W := 0) (w104 hw) (w105 hw) (w107 hw) (w106 hw) (w108 hw) (by decide) (X5.payM (sf := []) (rmEnG0 hcx x ((cs).length + 1) d kd cap ((cs.map fun c => c.toInt8.toInt32).map Value.int) (Int32.ofNat (cs).length) h0 X5.old Pr0 Pr1 Pr2 Pr5 Pr3 Pr4 (by rw [by_len]; omega) hg (by omega) Pr10) sf0 (w108 hw) (w58 hw)) Pr0 rfl (sz hml rfl) (argsL := [(.int (Int32.ofNat ((cs).length + 1)))]) (rest := []) (lenOf pd23 rfl) rfl rfl (mroom rfl rfl) (D d39_7) (by decide) (by decide) fun T7 h7 vm7 v7 X7 C7 z7 q7 => ?_
    obtain ⟨t7, kt7, rfl, K7, g7_0, g7_1, g7_2, g7_3, g7_4, g7_5, g7_6, g7_7, g7_8⟩ := q7
    have l8 := ltA g7_0.lt
    have l9 := ltA g7_5.lt
    show Gets p e below _ (T7.setTop (mkF m 10 #[vR x, vI u] []))
    have A10 := X7.at
    refine Gets.via (fun _ k => (XS.aloadN A10 hx rfl (D d39_10) rfl rfl k)) ?_
    refine X7.callV (W := 0) (w214 hw) (w178 hw) (w180 hw) (w179 hw) (nfs rfl (w180 hw)) (by decide) (X7.payM (sf := []) (rmSbL0 hcx x h7 X7.old g7_0 g7_2) sf0 (w181 hw) (w58 hw)) g7_0 rfl (sz hml rfl) (argsL := []) (rest := []) (lenOf pd18 rfl) rfl rfl (mroom rfl rfl) (D d39_11) (by decide) (by decide) fun T11 h11 vm11 v11 X11 C11 z11 q11 => ?_
    obtain ⟨rfl, K11⟩ := q11
    rw [K11] at X11 C11
    have A12 := X11.at
    refine Gets.via (fun _ k => (XS.ifNo A12 hx rfl (D d39_14) rfl (Jvm.Free.XT.i0_eq_f (by decide)) k)) ?_
    refine Gets.via (fun _ k => (XS.iloadN A12 hx rfl (D d39_17) rfl k)) ?_
    refine X11.callS (W := 0) (w215 hw) (w216 hw) (w78 hw) (w217 hw) (by decide) (X11.payM (sf := []) (rmCeU hcx u h7 X11.old Pr13) sf0 (w217 hw) (w78 hw)) rfl (sz hml rfl) (argsL := [(.int u)]) (rest := []) (lenOf pd26 rfl) rfl rfl (mroom rfl rfl) (D d39_18) (by decide) (by decide) fun T13 h13 vm13 v13 X13 C13 z13 q13 => ?_
    obtain ⟨rfl, K13⟩ := q13
    rw [K13] at X13 C13
    have A14 := X13.at
    refine Gets.via (fun _ k => (XS.ifYes A14 hx rfl (pc0 := 21) (pc' := 45) rfl (D d39_21) rfl (Jvm.Free.XT.i0_eq_t (by decide)) (by decide) (by decide) k)) ?_
    refine Gets.via (fun _ k => (XS.aloadN A14 hx rfl (D d39_45) rfl rfl k)) ?_
    refine X13.callV (W := 0) (w214 hw) (w178 hw) (w180 hw) (w179 hw) (nfs rfl (w180 hw)) (by decide) (X13.payM (sf := []) (rmSbL0 hcx x h7 X13.old g7_0 g7_2) sf0 (w181 hw) (w58 hw)) g7_0 rfl (sz hml rfl) (argsL := []) (rest := []) (lenOf pd18 rfl) rfl rfl (mroom rfl rfl) (D d39_46) (by decide) (by decide) fun T15 h15 vm15 v15 X15 C15 z15 q15 => ?_
    obtain ⟨rfl, K15⟩ := q15
    rw [K15] at X15 C15
    show Gets p e below _ (T15.setTop (mkF m 49 #[vR x, vI u] [(.int (1 : Int32))]))
    have A16 := X15.at
    refine Gets.via (fun _ k => (XS.ifNo A16 hx rfl (D d39_49) rfl (Jvm.Free.XT.i0_eq_f (by decide)) k)) ?_
    refine Gets.via (fun _ k => (XS.aloadN A16 hx rfl (D d39_52) rfl rfl k)) ?_
    refine X15.callP (W := 0) (w271 hw) (w272 hw) (w274 hw) (w273 hw) (w275 hw) (by decide) (X15.payM (sf := []) (rmInfL hcx x t7 kt7 (cap + max (((cs).length + 1) - cap) (cap + 2)) cs h7 X15.old g7_0 g7_1 g7_2 g7_3 g7_4 g7_5 g7_6 (by omega) (by omega) (by omega) Pr14 Pr10) sf0 (w275 hw) (w58 hw)) g7_0 rfl (sz hml rfl) (argsL := []) (rest := []) (lenOf pd19 rfl) rfl rfl (mroom rfl rfl) (D d39_53) (by decide) (by decide) fun T17 h17 vm17 v17 X17 C17 z17 q17 => ?_
    obtain ⟨t17, kt17, rfl, K17, g17_0, g17_1, g17_2, g17_3, g17_4, g17_5, g17_6, g17_7, g17_8⟩ := q17
    have l18 := ltA g17_0.lt
    have l19 := ltA g17_5.lt
    have A20 := X17.at
    refine Gets.via (fun _ k => (XS.aloadN A20 hx rfl (D d39_56) rfl rfl k)) ?_
    refine X17.getF (host := "") (Or.inl (w62 hw)) Via.refl g17_1 rfl rfl (D d39_57) fun T21 X21 => ?_
    have A22 := X21.at
    refine Gets.via (fun _ k => (XS.aloadN A22 hx rfl (D d39_60) rfl rfl (XS.dup A22 hx rfl (D d39_61) rfl rfl k))) ?_
    refine X21.getF (host := "") (Or.inl (w102 hw)) Via.refl g17_3 rfl rfl (D d39_62) fun T23 X23 => ?_
    show Gets p e below _ (T23.setTop (mkF m 65 #[vR x, vI u] [(.int (Int32.ofNat (cs).length)), (.ref x), (.ref t17)]))
    have A24 := X23.at
    refine Gets.via (fun _ k => (XS.dupX1 A24 hx rfl (D d39_65) rfl rfl rfl (XS.iconst A24 hx rfl (D d39_66) (iaddV A24 hx rfl (D d39_67) rfl (v := (Int32.ofNat ((cs).length + 1))) (of_add (cs).length 1) k)))) ?_
    show Gets p e below _ (T23.setTop (mkF m 68 #[vR x, vI u] [(.int (Int32.ofNat ((cs).length + 1))), (.ref x), (.int (Int32.ofNat (cs).length)), (.ref t17)]))
    rw [len_snoc cs u]
    refine X23.putF (host := "") (Or.inl (w102 hw)) Via.refl g17_3 g17_0 (Or.inl (w103 hw)) (w39 hw) (ty := .int) (by decide) rfl rfl (leA (by omega)) (Safe.exa X23.hZ.alike g17_0 (by decide) (by decide)) rfl rfl (D d39_68) fun T25 h25 X25 C25 W25 F25 Z25 => ?_
    have z25 := W25.size
    have A26 := X25.at
    refine Gets.via (fun _ k => (XS.iloadN A26 hx rfl (D d39_71) rfl k)) ?_
    have f27 := g17_5.other W25 (neA (by omega))
    have f28 := C25.safe (x := t17) (ltA (by omega)) g17_7
    refine X25.callS (W := 0) (w292 hw) (w293 hw) (w21 hw) (w294 hw) (by decide) (X25.payM (sf := [t17]) (rmPcg hcx t17 u kt17 cs (cap + max (((cs).length + 1) - cap) (cap + 2)) h25 X25.old f27 (by omega) (by omega) (leA (by omega))) (sfS f28 sf0) (w294 hw) (w21 hw)) rfl (sz hml rfl) (argsL := [(.ref t17), (.int (Int32.ofNat (cs).length)), (.int u)]) (rest := []) (lenOf pd8 rfl) rfl rfl (mroom rfl rfl) (D d39_72) (by decide) (by decide) fun T29 h29 vm29 v29 X29 C29 z29 q29 => ?_
    obtain ⟨rfl, K29, g29_0⟩ := q29
    have l30 := ltA g29_0.lt
    have A31 := X29.at
    refine Gets.via (fun _ k => (XS.aloadN A31 hx rfl (D d39_75) rfl rfl k)) ?_
    have f32 := Z25.keep K29
    have f33 := g17_1.other W25 (Or.inr (slot_ne (t := (.array .byte)) (t' := .int) (Or.inl (w63 hw)) (Or.inl (w103 hw)) (by decide) (by decide) (by decide)))
    have f34 := f33.keep K29 (ninS (neA (by omega)) nin0)
    have f35 := g17_2.other W25 (Or.inr (slot_ne (t := .byte) (t' := .int) (Or.inl (w65 hw)) (Or.inl (w103 hw)) (by decide) (by decide) (by decide)))
    have f36 := f35.keep K29 (ninS (neA (by omega)) nin0)
    have f37 := F25.keep K29 (ninS (neA (by omega)) nin0)
    have f38 := g17_4.other W25 (Or.inr (slot_ne (t := .boolean) (t' := .int) (Or.inl (w296 hw)) (Or.inl (w103 hw)) (by decide) (by decide) (by decide)))
    have f39 := f38.keep K29 (ninS (neA (by omega)) nin0)
    have f40 := g17_6.wr W25
    have f41 := f40.keep K29
    have f42 := C29.safe (x := t17) (ltA (by omega)) f28
    exact X29.retA hret rfl rfl rfl (D d39_76) (by decide) (by decide) (fun vmE CE => ⟨t17, kt17, (cap + max (((cs).length + 1) - cap) (cap + 2)), rfl, (((((Keep.refl h0 [x, d]).trans K7 (allS (Or.inl (memI (i := 0) rfl)) all0)).trans K17 (allS (Or.inl (memI (i := 0) rfl)) all0)).wr W25 (Or.inl (memI (i := 0) rfl))).trans K29 (allS (Or.inr (leA (by omega))) all0)), f32, f34, f36, f37, f39, g29_0, f41, CE.safe (x := t17) (ltA (by omega)) f42, (by simp only [List.length_append, List.length_cons, List.length_nil]; omega), (by simp only [List.length_append, List.length_cons, List.length_nil]; omega), (leA (by omega)), (neA (by omega)), (Or.inr (leA (by omega)))⟩)
  · skip
    refine X5.callP (W := 0) (w104 hw) (w105 hw) (w107 hw) (w106 hw) (w108 hw) (by decide) (X5.payM (sf := []) (rmEnN0 hcx x ((cs).length + 1) d kd cap ((cs.map fun c => c.toInt8.toInt32).map Value.int) h0 X5.old Pr0 Pr1 Pr2 Pr5 hg (leA (by omega))) sf0 (w108 hw) (w58 hw)) Pr0 rfl (sz hml rfl) (argsL := [(.int (Int32.ofNat ((cs).length + 1)))]) (rest := []) (lenOf pd23 rfl) rfl rfl (mroom rfl rfl) (D d39_7) (by decide) (by decide) fun T43 h43 vm43 v43 X43 C43 z43 q43 => ?_
    obtain ⟨rfl, K43⟩ := q43
    rw [K43] at X43 C43
    show Gets p e below _ (T43.setTop (mkF m 10 #[vR x, vI u] []))
    have A44 := X43.at
    refine Gets.via (fun _ k => (XS.aloadN A44 hx rfl (D d39_10) rfl rfl k)) ?_
    refine X43.callV (W := 0) (w214 hw) (w178 hw) (w180 hw) (w179 hw) (nfs rfl (w180 hw)) (by decide) (X43.payM (sf := []) (rmSbL0 hcx x h0 X43.old Pr0 Pr2) sf0 (w181 hw) (w58 hw)) Pr0 rfl (sz hml rfl) (argsL := []) (rest := []) (lenOf pd18 rfl) rfl rfl (mroom rfl rfl) (D d39_11) (by decide) (by decide) fun T45 h45 vm45 v45 X45 C45 z45 q45 => ?_
    obtain ⟨rfl, K45⟩ := q45
    rw [K45] at X45 C45
    have A46 := X45.at
    refine Gets.via (fun _ k => (XS.ifNo A46 hx rfl (D d39_14) rfl (Jvm.Free.XT.i0_eq_f (by decide)) k)) ?_
    refine Gets.via (fun _ k => (XS.iloadN A46 hx rfl (D d39_17) rfl k)) ?_
    refine X45.callS (W := 0) (w215 hw) (w216 hw) (w78 hw) (w217 hw) (by decide) (X45.payM (sf := []) (rmCeU hcx u h0 X45.old Pr13) sf0 (w217 hw) (w78 hw)) rfl (sz hml rfl) (argsL := [(.int u)]) (rest := []) (lenOf pd26 rfl) rfl rfl (mroom rfl rfl) (D d39_18) (by decide) (by decide) fun T47 h47 vm47 v47 X47 C47 z47 q47 => ?_
    obtain ⟨rfl, K47⟩ := q47
    rw [K47] at X47 C47
    have A48 := X47.at
    refine Gets.via (fun _ k => (XS.ifYes A48 hx rfl (pc0 := 21) (pc' := 45) rfl (D d39_21) rfl (Jvm.Free.XT.i0_eq_t (by decide)) (by decide) (by decide) k)) ?_
    refine Gets.via (fun _ k => (XS.aloadN A48 hx rfl (D d39_45) rfl rfl k)) ?_
    refine X47.callV (W := 0) (w214 hw) (w178 hw) (w180 hw) (w179 hw) (nfs rfl (w180 hw)) (by decide) (X47.payM (sf := []) (rmSbL0 hcx x h0 X47.old Pr0 Pr2) sf0 (w181 hw) (w58 hw)) Pr0 rfl (sz hml rfl) (argsL := []) (rest := []) (lenOf pd18 rfl) rfl rfl (mroom rfl rfl) (D d39_46) (by decide) (by decide) fun T49 h49 vm49 v49 X49 C49 z49 q49 => ?_
    obtain ⟨rfl, K49⟩ := q49
    rw [K49] at X49 C49
    show Gets p e below _ (T49.setTop (mkF m 49 #[vR x, vI u] [(.int (1 : Int32))]))
    have A50 := X49.at
    refine Gets.via (fun _ k => (XS.ifNo A50 hx rfl (D d39_49) rfl (Jvm.Free.XT.i0_eq_f (by decide)) k)) ?_
    refine Gets.via (fun _ k => (XS.aloadN A50 hx rfl (D d39_52) rfl rfl k)) ?_
    refine X49.callP (W := 0) (w271 hw) (w272 hw) (w274 hw) (w273 hw) (w275 hw) (by decide) (X49.payM (sf := []) (rmInfL hcx x d kd cap cs h0 X49.old Pr0 Pr1 Pr2 Pr3 Pr4 Pr5 Pr6 Pr7 Pr8 (by omega) Pr14 Pr10) sf0 (w275 hw) (w58 hw)) Pr0 rfl (sz hml rfl) (argsL := []) (rest := []) (lenOf pd19 rfl) rfl rfl (mroom rfl rfl) (D d39_53) (by decide) (by decide) fun T51 h51 vm51 v51 X51 C51 z51 q51 => ?_
    obtain ⟨t51, kt51, rfl, K51, g51_0, g51_1, g51_2, g51_3, g51_4, g51_5, g51_6, g51_7, g51_8⟩ := q51
    have l52 := ltA g51_0.lt
    have l53 := ltA g51_5.lt
    have A54 := X51.at
    refine Gets.via (fun _ k => (XS.aloadN A54 hx rfl (D d39_56) rfl rfl k)) ?_
    refine X51.getF (host := "") (Or.inl (w62 hw)) Via.refl g51_1 rfl rfl (D d39_57) fun T55 X55 => ?_
    have A56 := X55.at
    refine Gets.via (fun _ k => (XS.aloadN A56 hx rfl (D d39_60) rfl rfl (XS.dup A56 hx rfl (D d39_61) rfl rfl k))) ?_
    refine X55.getF (host := "") (Or.inl (w102 hw)) Via.refl g51_3 rfl rfl (D d39_62) fun T57 X57 => ?_
    show Gets p e below _ (T57.setTop (mkF m 65 #[vR x, vI u] [(.int (Int32.ofNat (cs).length)), (.ref x), (.ref t51)]))
    have A58 := X57.at
    refine Gets.via (fun _ k => (XS.dupX1 A58 hx rfl (D d39_65) rfl rfl rfl (XS.iconst A58 hx rfl (D d39_66) (iaddV A58 hx rfl (D d39_67) rfl (v := (Int32.ofNat ((cs).length + 1))) (of_add (cs).length 1) k)))) ?_
    show Gets p e below _ (T57.setTop (mkF m 68 #[vR x, vI u] [(.int (Int32.ofNat ((cs).length + 1))), (.ref x), (.int (Int32.ofNat (cs).length)), (.ref t51)]))
    rw [len_snoc cs u]
    refine X57.putF (host := "") (Or.inl (w102 hw)) Via.refl g51_3 g51_0 (Or.inl (w103 hw)) (w39 hw) (ty := .int) (by decide) rfl rfl (leA (by omega)) (Safe.exa X57.hZ.alike g51_0 (by decide) (by decide)) rfl rfl (D d39_68) fun T59 h59 X59 C59 W59 F59 Z59 => ?_
    have z59 := W59.size
    have A60 := X59.at
    refine Gets.via (fun _ k => (XS.iloadN A60 hx rfl (D d39_71) rfl k)) ?_
    have f61 := g51_5.other W59 (neA (by omega))
    have f62 := C59.safe (x := t51) (ltA (by omega)) g51_7
    refine X59.callS (W := 0) (w292 hw) (w293 hw) (w21 hw) (w294 hw) (by decide) (X59.payM (sf := [t51]) (rmPcg hcx t51 u kt51 cs cap h59 X59.old f61 (by omega) (leA (by omega)) (leA (by omega))) (sfS f62 sf0) (w294 hw) (w21 hw)) rfl (sz hml rfl) (argsL := [(.ref t51), (.int (Int32.ofNat (cs).length)), (.int u)]) (rest := []) (lenOf pd8 rfl) rfl rfl (mroom rfl rfl) (D d39_72) (by decide) (by decide) fun T63 h63 vm63 v63 X63 C63 z63 q63 => ?_
    obtain ⟨rfl, K63, g63_0⟩ := q63
    have l64 := ltA g63_0.lt
    have A65 := X63.at
    refine Gets.via (fun _ k => (XS.aloadN A65 hx rfl (D d39_75) rfl rfl k)) ?_
    have f66 := Z59.keep K63
    have f67 := g51_1.other W59 (Or.inr (slot_ne (t := (.array .byte)) (t' := .int) (Or.inl (w63 hw)) (Or.inl (w103 hw)) (by decide) (by decide) (by decide)))
    have f68 := f67.keep K63 (ninS (neA (by omega)) nin0)
    have f69 := g51_2.other W59 (Or.inr (slot_ne (t := .byte) (t' := .int) (Or.inl (w65 hw)) (Or.inl (w103 hw)) (by decide) (by decide) (by decide)))
    have f70 := f69.keep K63 (ninS (neA (by omega)) nin0)
    have f71 := F59.keep K63 (ninS (neA (by omega)) nin0)
    have f72 := g51_4.other W59 (Or.inr (slot_ne (t := .boolean) (t' := .int) (Or.inl (w296 hw)) (Or.inl (w103 hw)) (by decide) (by decide) (by decide)))
    have f73 := f72.keep K63 (ninS (neA (by omega)) nin0)
    have f74 := g51_6.wr W59
    have f75 := f74.keep K63
    have f76 := C63.safe (x := t51) (ltA (by omega)) f62
    exact X63.retA hret rfl rfl rfl (D d39_76) (by decide) (by decide) (fun vmE CE => ⟨t51, kt51, cap, rfl, ((((Keep.refl h0 [x, d]).trans K51 (allS (Or.inl (memI (i := 0) rfl)) all0)).wr W59 (Or.inl (memI (i := 0) rfl))).trans K63 (allS (Or.inr (leA (by omega))) all0)), f66, f68, f70, f71, f73, g63_0, f75, CE.safe (x := t51) (ltA (by omega)) f76, (by simp only [List.length_append, List.length_cons, List.length_nil]; omega), (by simp only [List.length_append, List.length_cons, List.length_nil]; omega), (leA (by omega)), (neA (by omega)), (Or.inr (leA (by omega)))⟩)
abbrev RrmGacU : Room := { frames := 4, cells := 1, slots := 100, locals := 62 }
def QrmGacU (Z : State) (x : Addr) (u : Int32) (d : Addr) (kd : ClassId) (cap : Nat) (cs : List Int32) (h0 : Heap) (v : Option Value) (vm : Vm) (h : Heap) : Prop := ∃ (d2 : Addr) (kd2 : ClassId) (cap2 : Nat), v = some (.ref x) ∧ Keep h0 h [x, d] ∧ Exa Z h x "java/lang/StringBuilder" ∧ Fld Z h x "java/lang/AbstractStringBuilder" "value" "[B" (.ref d2) ∧ Fld Z h x "java/lang/AbstractStringBuilder" "coder" "B" (.int (1 : Int32)) ∧ Fld Z h x "java/lang/AbstractStringBuilder" "count" "I" (.int (Int32.ofNat ((cs ++ [u])).length)) ∧ Fld Z h x "java/lang/AbstractStringBuilder" "maybeLatin1" "Z" (.int (0 : Int32)) ∧ Arv Z h d2 kd2 .byte (Int32.ofNat (2 * cap2)) (enc16 (cs ++ [u])) (.int (0 : Int32)) ∧ Exa Z h d2 "[B" ∧ Safe Z consts_1 vm h d2 ∧ ((cs ++ [u])).length ≤ cap2 ∧ cap2 ≤ 2 * ((cs ++ [u])).length + 3 ∧ Z.heap.size ≤ d2 ∧ x ≠ d2 ∧ (d2 = d ∨ h0.size ≤ d2)
theorem rmGacU (hcx : Cx Z a0 zc fm) (x : Addr) (u : Int32) (d : Addr) (kd : ClassId) (cap : Nat) (cs : List Int32) (h0 : Heap) (O0 : Old Z Z.heap.size h0) (Pr0 : Exa Z h0 x "java/lang/StringBuilder") (Pr1 : Fld Z h0 x "java/lang/AbstractStringBuilder" "value" "[B" (.ref d)) (Pr2 : Fld Z h0 x "java/lang/AbstractStringBuilder" "coder" "B" (.int (1 : Int32))) (Pr3 : Fld Z h0 x "java/lang/AbstractStringBuilder" "count" "I" (.int (Int32.ofNat (cs).length))) (Pr4 : Fld Z h0 x "java/lang/AbstractStringBuilder" "maybeLatin1" "Z" (.int (0 : Int32))) (Pr5 : Arv Z h0 d kd .byte (Int32.ofNat (2 * cap)) (enc16 cs) (.int (0 : Int32))) (Pr6 : Exa Z h0 d "[B") (Pr7 : (cs).length ≤ cap) (Pr8 : cap ≤ 2 * (cs).length + 3) (Pr9 : (cs).length + 1 ≤ 18) (Pr10 : Z.heap.size ≤ x) (Pr11 : Z.heap.size ≤ d) (Pr12 : x ≠ d) : Met l Z consts_1 (⟨"java/lang/AbstractStringBuilder", "append", "(C)Ljava/lang/AbstractStringBuilder;"⟩ : MethodName) jdk_68_method_31_code 2 (some (.object "java/lang/AbstractStringBuilder")) [] RrmGacU [d] #[(.ref x), (.int u)] h0 (QrmGacU Z x u d kd cap cs h0) := by
  have ⟨hw, hEL, O2, P5, O4, P6, OA, OH, OB⟩ := hcx
  refine Met.start (a0 := a0) (Ls := #[vR x, vI u]) pn39 hEL O0 (fun m => by first | (simp [entryFrame, mkF, argsToLocals, Value.category]; done) | rfl) ?_
  intro p e s m below meth cc T0 vm0 X0 sf0_ D hml hret hnm hx zz A0
  have l1 := ltA Pr0.lt
  have l2 := ltA Pr5.lt
  have l3 := neA Pr12
  have s4 := sf0_ d (memI (i := 0) rfl)
  refine Gets.via (fun _ k => (XS.aloadN A0 hx rfl (D d39_0) rfl rfl (XS.aloadN A0 hx rfl (D d39_1) rfl rfl k))) ?_
  refine X0.getF (host := "") (Or.inl (w102 hw)) Via.refl Pr3 rfl rfl (D d39_2) fun T5 X5 => ?_
  have A6 := X5.at
  refine Gets.via (fun _ k => (XS.iconst A6 hx rfl (D d39_5) (iaddV A6 hx rfl (D d39_6) rfl (v := (Int32.ofNat ((cs).length + 1))) (of_add (cs).length 1) k))) ?_
  rcases Nat.lt_or_ge cap ((cs).length + 1) with hg | hg
  · skip
    refine X5.callP (W := 0) (w104 hw) (w105 hw) (w107 hw) (w106 hw) (w108 hw) (by decide) (X5.payM (sf := []) (rmEnG1 hcx x ((cs).length + 1) d kd cap (enc16 cs) (Int32.ofNat (cs).length) h0 X5.old Pr0 Pr1 Pr2 Pr5 Pr3 Pr4 (by rw [enc16_len]; omega) hg (by omega) Pr10) sf0 (w108 hw) (w58 hw)) Pr0 rfl (sz hml rfl) (argsL := [(.int (Int32.ofNat ((cs).length + 1)))]) (rest := []) (lenOf pd23 rfl) rfl rfl (mroom rfl rfl) (D d39_7) (by decide) (by decide) fun T7 h7 vm7 v7 X7 C7 z7 q7 => ?_
    obtain ⟨t7, kt7, rfl, K7, g7_0, g7_1, g7_2, g7_3, g7_4, g7_5, g7_6, g7_7, g7_8⟩ := q7
    have l8 := ltA g7_0.lt
    have l9 := ltA g7_5.lt
    show Gets p e below _ (T7.setTop (mkF m 10 #[vR x, vI u] []))
    have A10 := X7.at
    refine Gets.via (fun _ k => (XS.aloadN A10 hx rfl (D d39_10) rfl rfl k)) ?_
    refine X7.callV (W := 0) (w214 hw) (w178 hw) (w180 hw) (w179 hw) (nfs rfl (w180 hw)) (by decide) (X7.payM (sf := []) (rmSbL1 hcx x h7 X7.old g7_0 g7_2) sf0 (w181 hw) (w58 hw)) g7_0 rfl (sz hml rfl) (argsL := []) (rest := []) (lenOf pd18 rfl) rfl rfl (mroom rfl rfl) (D d39_11) (by decide) (by decide) fun T11 h11 vm11 v11 X11 C11 z11 q11 => ?_
    obtain ⟨rfl, K11⟩ := q11
    rw [K11] at X11 C11
    have A12 := X11.at
    refine Gets.via (fun _ k => (XS.ifYes A12 hx rfl (pc0 := 14) (pc' := 45) rfl (D d39_14) rfl (Jvm.Free.XT.i0_eq_t (by decide)) (by decide) (by decide) k)) ?_
    refine Gets.via (fun _ k => (XS.aloadN A12 hx rfl (D d39_45) rfl rfl k)) ?_
    refine X11.callV (W := 0) (w214 hw) (w178 hw) (w180 hw) (w179 hw) (nfs rfl (w180 hw)) (by decide) (X11.payM (sf := []) (rmSbL1 hcx x h7 X11.old g7_0 g7_2) sf0 (w181 hw) (w58 hw)) g7_0 rfl (sz hml rfl) (argsL := []) (rest := []) (lenOf pd18 rfl) rfl rfl (mroom rfl rfl) (D d39_46) (by decide) (by decide) fun T13 h13 vm13 v13 X13 C13 z13 q13 => ?_
    obtain ⟨rfl, K13⟩ := q13
    rw [K13] at X13 C13
    have A14 := X13.at
    refine Gets.via (fun _ k => (XS.ifYes A14 hx rfl (pc0 := 49) (pc' := 56) rfl (D d39_49) rfl (Jvm.Free.XT.i0_eq_t (by decide)) (by decide) (by decide) k)) ?_
    refine Gets.via (fun _ k => (XS.aloadN A14 hx rfl (D d39_56) rfl rfl k)) ?_
    refine X13.getF (host := "") (Or.inl (w62 hw)) Via.refl g7_1 rfl rfl (D d39_57) fun T15 X15 => ?_
    show Gets p e below _ (T15.setTop (mkF m 60 #[vR x, vI u] [(.ref t7)]))
    have A16 := X15.at
    refine Gets.via (fun _ k => (XS.aloadN A16 hx rfl (D d39_60) rfl rfl (XS.dup A16 hx rfl (D d39_61) rfl rfl k))) ?_
    refine X15.getF (host := "") (Or.inl (w102 hw)) Via.refl g7_3 rfl rfl (D d39_62) fun T17 X17 => ?_
    have A18 := X17.at
    refine Gets.via (fun _ k => (XS.dupX1 A18 hx rfl (D d39_65) rfl rfl rfl (XS.iconst A18 hx rfl (D d39_66) (iaddV A18 hx rfl (D d39_67) rfl (v := (Int32.ofNat ((cs).length + 1))) (of_add (cs).length 1) k)))) ?_
    show Gets p e below _ (T17.setTop (mkF m 68 #[vR x, vI u] [(.int (Int32.ofNat ((cs).length + 1))), (.ref x), (.int (Int32.ofNat (cs).length)), (.ref t7)]))
    rw [len_snoc cs u]
    refine X17.putF (host := "") (Or.inl (w102 hw)) Via.refl g7_3 g7_0 (Or.inl (w103 hw)) (w39 hw) (ty := .int) (by decide) rfl rfl (leA (by omega)) (Safe.exa X17.hZ.alike g7_0 (by decide) (by decide)) rfl rfl (D d39_68) fun T19 h19 X19 C19 W19 F19 Z19 => ?_
    have z19 := W19.size
    have A20 := X19.at
    refine Gets.via (fun _ k => (XS.iloadN A20 hx rfl (D d39_71) rfl k)) ?_
    have f21 := g7_5.other W19 (neA (by omega))
    have f22 := C11.safe (x := t7) (ltA (by omega)) g7_7
    have f23 := C13.safe (x := t7) (ltA (by omega)) f22
    have f24 := C19.safe (x := t7) (ltA (by omega)) f23
    refine X19.callS (W := 0) (w292 hw) (w293 hw) (w21 hw) (w294 hw) (by decide) (X19.payM (sf := [t7]) (rmPcg hcx t7 u kt7 cs (cap + max (((cs).length + 1) - cap) (cap + 2)) h19 X19.old f21 (by omega) (by omega) (leA (by omega))) (sfS f24 sf0) (w294 hw) (w21 hw)) rfl (sz hml rfl) (argsL := [(.ref t7), (.int (Int32.ofNat (cs).length)), (.int u)]) (rest := []) (lenOf pd8 rfl) rfl rfl (mroom rfl rfl) (D d39_72) (by decide) (by decide) fun T25 h25 vm25 v25 X25 C25 z25 q25 => ?_
    obtain ⟨rfl, K25, g25_0⟩ := q25
    have l26 := ltA g25_0.lt
    have A27 := X25.at
    refine Gets.via (fun _ k => (XS.aloadN A27 hx rfl (D d39_75) rfl rfl k)) ?_
    have f28 := Z19.keep K25
    have f29 := g7_1.other W19 (Or.inr (slot_ne (t := (.array .byte)) (t' := .int) (Or.inl (w63 hw)) (Or.inl (w103 hw)) (by decide) (by decide) (by decide)))
    have f30 := f29.keep K25 (ninS (neA (by omega)) nin0)
    have f31 := g7_2.other W19 (Or.inr (slot_ne (t := .byte) (t' := .int) (Or.inl (w65 hw)) (Or.inl (w103 hw)) (by decide) (by decide) (by decide)))
    have f32 := f31.keep K25 (ninS (neA (by omega)) nin0)
    have f33 := F19.keep K25 (ninS (neA (by omega)) nin0)
    have f34 := g7_4.other W19 (Or.inr (slot_ne (t := .boolean) (t' := .int) (Or.inl (w296 hw)) (Or.inl (w103 hw)) (by decide) (by decide) (by decide)))
    have f35 := f34.keep K25 (ninS (neA (by omega)) nin0)
    have f36 := g7_6.wr W19
    have f37 := f36.keep K25
    have f38 := C25.safe (x := t7) (ltA (by omega)) f24
    exact X25.retA hret rfl rfl rfl (D d39_76) (by decide) (by decide) (fun vmE CE => ⟨t7, kt7, (cap + max (((cs).length + 1) - cap) (cap + 2)), rfl, ((((Keep.refl h0 [x, d]).trans K7 (allS (Or.inl (memI (i := 0) rfl)) all0)).wr W19 (Or.inl (memI (i := 0) rfl))).trans K25 (allS (Or.inr (leA (by omega))) all0)), f28, f30, f32, f33, f35, g25_0, f37, CE.safe (x := t7) (ltA (by omega)) f38, (by simp only [List.length_append, List.length_cons, List.length_nil]; omega), (by simp only [List.length_append, List.length_cons, List.length_nil]; omega), (leA (by omega)), (neA (by omega)), (Or.inr (leA (by omega)))⟩)
  · skip
    refine X5.callP (W := 0) (w104 hw) (w105 hw) (w107 hw) (w106 hw) (w108 hw) (by decide) (X5.payM (sf := []) (rmEnN1 hcx x ((cs).length + 1) d kd cap (enc16 cs) h0 X5.old Pr0 Pr1 Pr2 Pr5 hg (leA (by omega))) sf0 (w108 hw) (w58 hw)) Pr0 rfl (sz hml rfl) (argsL := [(.int (Int32.ofNat ((cs).length + 1)))]) (rest := []) (lenOf pd23 rfl) rfl rfl (mroom rfl rfl) (D d39_7) (by decide) (by decide) fun T39 h39 vm39 v39 X39 C39 z39 q39 => ?_
    obtain ⟨rfl, K39⟩ := q39
    rw [K39] at X39 C39
    show Gets p e below _ (T39.setTop (mkF m 10 #[vR x, vI u] []))
    have A40 := X39.at
    refine Gets.via (fun _ k => (XS.aloadN A40 hx rfl (D d39_10) rfl rfl k)) ?_
    refine X39.callV (W := 0) (w214 hw) (w178 hw) (w180 hw) (w179 hw) (nfs rfl (w180 hw)) (by decide) (X39.payM (sf := []) (rmSbL1 hcx x h0 X39.old Pr0 Pr2) sf0 (w181 hw) (w58 hw)) Pr0 rfl (sz hml rfl) (argsL := []) (rest := []) (lenOf pd18 rfl) rfl rfl (mroom rfl rfl) (D d39_11) (by decide) (by decide) fun T41 h41 vm41 v41 X41 C41 z41 q41 => ?_
    obtain ⟨rfl, K41⟩ := q41
    rw [K41] at X41 C41
    have A42 := X41.at
    refine Gets.via (fun _ k => (XS.ifYes A42 hx rfl (pc0 := 14) (pc' := 45) rfl (D d39_14) rfl (Jvm.Free.XT.i0_eq_t (by decide)) (by decide) (by decide) k)) ?_
    refine Gets.via (fun _ k => (XS.aloadN A42 hx rfl (D d39_45) rfl rfl k)) ?_
    refine X41.callV (W := 0) (w214 hw) (w178 hw) (w180 hw) (w179 hw) (nfs rfl (w180 hw)) (by decide) (X41.payM (sf := []) (rmSbL1 hcx x h0 X41.old Pr0 Pr2) sf0 (w181 hw) (w58 hw)) Pr0 rfl (sz hml rfl) (argsL := []) (rest := []) (lenOf pd18 rfl) rfl rfl (mroom rfl rfl) (D d39_46) (by decide) (by decide) fun T43 h43 vm43 v43 X43 C43 z43 q43 => ?_
    obtain ⟨rfl, K43⟩ := q43
    rw [K43] at X43 C43
    have A44 := X43.at
    refine Gets.via (fun _ k => (XS.ifYes A44 hx rfl (pc0 := 49) (pc' := 56) rfl (D d39_49) rfl (Jvm.Free.XT.i0_eq_t (by decide)) (by decide) (by decide) k)) ?_
    refine Gets.via (fun _ k => (XS.aloadN A44 hx rfl (D d39_56) rfl rfl k)) ?_
    refine X43.getF (host := "") (Or.inl (w62 hw)) Via.refl Pr1 rfl rfl (D d39_57) fun T45 X45 => ?_
    show Gets p e below _ (T45.setTop (mkF m 60 #[vR x, vI u] [(.ref d)]))
    have A46 := X45.at
    refine Gets.via (fun _ k => (XS.aloadN A46 hx rfl (D d39_60) rfl rfl (XS.dup A46 hx rfl (D d39_61) rfl rfl k))) ?_
    refine X45.getF (host := "") (Or.inl (w102 hw)) Via.refl Pr3 rfl rfl (D d39_62) fun T47 X47 => ?_
    have A48 := X47.at
    refine Gets.via (fun _ k => (XS.dupX1 A48 hx rfl (D d39_65) rfl rfl rfl (XS.iconst A48 hx rfl (D d39_66) (iaddV A48 hx rfl (D d39_67) rfl (v := (Int32.ofNat ((cs).length + 1))) (of_add (cs).length 1) k)))) ?_
    show Gets p e below _ (T47.setTop (mkF m 68 #[vR x, vI u] [(.int (Int32.ofNat ((cs).length + 1))), (.ref x), (.int (Int32.ofNat (cs).length)), (.ref d)]))
    rw [len_snoc cs u]
    refine X47.putF (host := "") (Or.inl (w102 hw)) Via.refl Pr3 Pr0 (Or.inl (w103 hw)) (w39 hw) (ty := .int) (by decide) rfl rfl (leA (by omega)) (Safe.exa X47.hZ.alike Pr0 (by decide) (by decide)) rfl rfl (D d39_68) fun T49 h49 X49 C49 W49 F49 Z49 => ?_
    have z49 := W49.size
    have A50 := X49.at
    refine Gets.via (fun _ k => (XS.iloadN A50 hx rfl (D d39_71) rfl k)) ?_
    have f51 := Pr5.other W49 (neA (by omega))
    have f52 := C39.safe (x := d) (ltA (by omega)) s4
    have f53 := C41.safe (x := d) (ltA (by omega)) f52
    have f54 := C43.safe (x := d) (ltA (by omega)) f53
    have f55 := C49.safe (x := d) (ltA (by omega)) f54
    refine X49.callS (W := 0) (w292 hw) (w293 hw) (w21 hw) (w294 hw) (by decide) (X49.payM (sf := [d]) (rmPcg hcx d u kd cs cap h49 X49.old f51 (by omega) (leA (by omega)) Pr11) (sfS f55 sf0) (w294 hw) (w21 hw)) rfl (sz hml rfl) (argsL := [(.ref d), (.int (Int32.ofNat (cs).length)), (.int u)]) (rest := []) (lenOf pd8 rfl) rfl rfl (mroom rfl rfl) (D d39_72) (by decide) (by decide) fun T56 h56 vm56 v56 X56 C56 z56 q56 => ?_
    obtain ⟨rfl, K56, g56_0⟩ := q56
    have l57 := ltA g56_0.lt
    have A58 := X56.at
    refine Gets.via (fun _ k => (XS.aloadN A58 hx rfl (D d39_75) rfl rfl k)) ?_
    have f59 := Z49.keep K56
    have f60 := Pr1.other W49 (Or.inr (slot_ne (t := (.array .byte)) (t' := .int) (Or.inl (w63 hw)) (Or.inl (w103 hw)) (by decide) (by decide) (by decide)))
    have f61 := f60.keep K56 (ninS (neA (by omega)) nin0)
    have f62 := Pr2.other W49 (Or.inr (slot_ne (t := .byte) (t' := .int) (Or.inl (w65 hw)) (Or.inl (w103 hw)) (by decide) (by decide) (by decide)))
    have f63 := f62.keep K56 (ninS (neA (by omega)) nin0)
    have f64 := F49.keep K56 (ninS (neA (by omega)) nin0)
    have f65 := Pr4.other W49 (Or.inr (slot_ne (t := .boolean) (t' := .int) (Or.inl (w296 hw)) (Or.inl (w103 hw)) (by decide) (by decide) (by decide)))
    have f66 := f65.keep K56 (ninS (neA (by omega)) nin0)
    have f67 := Pr6.wr W49
    have f68 := f67.keep K56
    have f69 := C56.safe (x := d) (ltA (by omega)) f55
    exact X56.retA hret rfl rfl rfl (D d39_76) (by decide) (by decide) (fun vmE CE => ⟨d, kd, cap, rfl, (((Keep.refl h0 [x, d]).wr W49 (Or.inl (memI (i := 0) rfl))).trans K56 (allS (Or.inl (memI (i := 1) rfl)) all0)), f59, f61, f63, f64, f66, g56_0, f68, CE.safe (x := d) (ltA (by omega)) f69, (by simp only [List.length_append, List.length_cons, List.length_nil]; omega), (by simp only [List.length_append, List.length_cons, List.length_nil]; omega), Pr11, Pr12, (Or.inl rfl)⟩)
abbrev Rrm47 : Room := { frames := 0, cells := 0, slots := 0, locals := 0 }
def Qrm47 (Z : State) (u : Int32) (w : Int32) (h0 : Heap) (v : Option Value) (vm : Vm) (h : Heap) : Prop := v = none ∧ h = h0
theorem rm47 (hcx : Cx Z a0 zc fm) (u : Int32) (w : Int32) (h0 : Heap) (O0 : Old Z Z.heap.size h0) (Pr0 : ¬ w < u) : Met l Z consts_1 (⟨"java/util/Arrays", "checkLength", "(II)V"⟩ : MethodName) jdk_65_method_131_code 2 (none) [] Rrm47 [] #[(.int u), (.int w)] h0 (Qrm47 Z u w h0) := by
  have ⟨hw, hEL, O2, P5, O4, P6, OA, OH, OB⟩ := hcx
  refine Met.start (a0 := a0) (Ls := #[vI u, vI w]) pn47 hEL O0 (fun m => by first | (simp [entryFrame, mkF, argsToLocals, Value.category]; done) | rfl) ?_
  intro p e s m below meth cc T0 vm0 X0 sf0_ D hml hret hnm hx zz A0
  refine Gets.via (fun _ k => (XS.iloadN A0 hx rfl (D d47_0) rfl (XS.iloadN A0 hx rfl (D d47_1) rfl (XS.icmpYes A0 hx rfl (pc0 := 2) (pc' := 37) rfl (D d47_2) rfl (Jvm.Free.XT.ii_ge_t Pr0) (by decide) (by decide) k)))) ?_
  exact X0.retV hret (D d47_37) (by decide) (by decide) (fun vmE CE => ⟨rfl, rfl⟩)
abbrev RrmMin : Room := { frames := 0, cells := 0, slots := 0, locals := 0 }
def QrmMin (Z : State) (u : Int32) (w : Int32) (h0 : Heap) (v : Option Value) (vm : Vm) (h : Heap) : Prop := ∃ (r : Int32), v = some (.int r) ∧ h = h0 ∧ r = w
theorem rmMin (hcx : Cx Z a0 zc fm) (u : Int32) (w : Int32) (h0 : Heap) (O0 : Old Z Z.heap.size h0) (Pr0 : ¬ u < w) : Met l Z consts_1 (⟨"java/lang/Math", "min", "(II)I"⟩ : MethodName) jdk_29_method_69_code 2 (some .int) [] RrmMin [] #[(.int u), (.int w)] h0 (QrmMin Z u w h0) := by
  have ⟨hw, hEL, O2, P5, O4, P6, OA, OH, OB⟩ := hcx
  refine Met.start (a0 := a0) (Ls := #[vI u, vI w]) pn24 hEL O0 (fun m => by first | (simp [entryFrame, mkF, argsToLocals, Value.category]; done) | rfl) ?_
  intro p e s m below meth cc T0 vm0 X0 sf0_ D hml hret hnm hx zz A0
  refine Gets.via (fun _ k => (XS.iloadN A0 hx rfl (D d24_0) rfl (XS.iloadN A0 hx rfl (D d24_1) rfl k))) ?_
  by_cases b2 : w < u
  · refine Gets.via (fun _ k => (XS.icmpYes A0 hx rfl (pc0 := 2) (pc' := 9) rfl (D d24_2) rfl (Jvm.Free.XT.ii_gt_t b2) (by decide) (by decide) k)) ?_
    refine Gets.via (fun _ k => (XS.iloadN A0 hx rfl (D d24_9) rfl k)) ?_
    exact X0.retI hret rfl (by simp) (D d24_10) (by decide) (by decide) (fun vmE CE => ⟨w, rfl, rfl, rfl⟩)
  · refine Gets.via (fun _ k => (XS.icmpNo A0 hx rfl (D d24_2) rfl (Jvm.Free.XT.ii_gt_f b2) k)) ?_
    refine Gets.via (fun _ k => (XS.iloadN A0 hx rfl (D d24_5) rfl (XS.goto A0 hx rfl (pc0 := 6) (pc' := 10) rfl (D d24_6) (by decide) (by decide) k))) ?_
    exact X0.retI hret rfl (by simp) (D d24_10) (by decide) (by decide) (fun vmE CE => ⟨u, rfl, rfl, (eq_of_le b2 Pr0)⟩)
abbrev RrmCrB : Room := { frames := 1, cells := 1, slots := 40, locals := 22 }
def QrmCrB (Z : State) (b : Addr) (kb : ClassId) (M : Nat) (vs : List Value) (i : Nat) (j : Nat) (h0 : Heap) (v : Option Value) (vm : Vm) (h : Heap) : Prop := ∃ (t : Addr) (kt : ClassId), v = some (.ref t) ∧ Keep h0 h [] ∧ Arv Z h t kt .byte (Int32.ofNat (j - i)) (slcV vs i (j - i)) (.int (0 : Int32)) ∧ h0.size ≤ t
theorem rmCrB (hcx : Cx Z a0 zc fm) (b : Addr) (kb : ClassId) (M : Nat) (vs : List Value) (i : Nat) (j : Nat) (h0 : Heap) (O0 : Old Z Z.heap.size h0) (Pr0 : Arv Z h0 b kb .byte (Int32.ofNat M) vs (.int (0 : Int32))) (Pr1 : i ≤ j) (Pr2 : j ≤ M) (Pr3 : M ≤ 4000) (Pr4 : j - i ≤ 40) : Met l Z consts_1 (⟨"java/util/Arrays", "copyOfRangeByte", "([BII)[B"⟩ : MethodName) jdk_65_method_133_code 5 (some (.array .byte)) [] RrmCrB [] #[(.ref b), (.int (Int32.ofNat i)), (.int (Int32.ofNat j))] h0 (QrmCrB Z b kb M vs i j h0) := by
  have ⟨hw, hEL, O2, P5, O4, P6, OA, OH, OB⟩ := hcx
  refine Met.start (a0 := a0) (Ls := #[vR b, vI (Int32.ofNat i), vI (Int32.ofNat j), .unset, .unset]) pn46 hEL O0 (fun m => by first | (simp [entryFrame, mkF, argsToLocals, Value.category]; done) | rfl) ?_
  intro p e s m below meth cc T0 vm0 X0 sf0_ D hml hret hnm hx zz A0
  have l1 := ltA Pr0.lt
  have hnl : ¬ (Int32.ofNat j) < (Int32.ofNat i) := of_nlt (by omega) (by omega) (by omega)
  have hmn : ¬ ((Int32.ofNat M) - (Int32.ofNat i)) < (Int32.ofNat (j - i)) := of_subl (by omega) (by omega)
  have hmm : ¬ (Int32.ofNat (M - i)) < (Int32.ofNat (j - i)) := of_nlt (by omega) (by omega) (by omega)
  refine Gets.via (fun _ k => (XS.iloadN A0 hx rfl (D d46_0) rfl (XS.iloadN A0 hx rfl (D d46_1) rfl k))) ?_
  refine X0.callS (W := 0) (w245 hw) (w246 hw) (w126 hw) (w247 hw) (by decide) (X0.payM (sf := []) (rm47 hcx (Int32.ofNat i) (Int32.ofNat j) h0 X0.old hnl) sf0 (w247 hw) (w126 hw)) rfl (sz hml rfl) (argsL := [(.int (Int32.ofNat i)), (.int (Int32.ofNat j))]) (rest := []) (lenOf pd4 rfl) rfl rfl (mroom rfl rfl) (D d46_2) (by decide) (by decide) fun T2 h2 vm2 v2 X2 C2 z2 q2 => ?_
  obtain ⟨rfl, K2⟩ := q2
  rw [K2] at X2 C2
  have A3 := X2.at
  refine Gets.via (fun _ k => (XS.iloadN A3 hx rfl (D d46_5) rfl (XS.iloadN A3 hx rfl (D d46_6) rfl (isubV A3 hx rfl (D d46_7) rfl (v := (Int32.ofNat (j - i))) (of_sub (by omega) (by omega)) k)))) ?_
  refine Gets.via (fun _ k => (XS.istoreN A3 hx rfl (D d46_8) rfl (l' := #[vR b, vI (Int32.ofNat i), vI (Int32.ofNat j), vI (Int32.ofNat (j - i)), .unset]) rfl (XS.iloadN A3 hx rfl (D d46_9) rfl k))) ?_
  show Gets p e below _ (T2.setTop (mkF m 10 #[vR b, vI (Int32.ofNat i), vI (Int32.ofNat j), vI (Int32.ofNat (j - i)), .unset] [(.int (Int32.ofNat (j - i)))]))
  refine X2.newAB (w23 hw) rfl (D d46_10) rfl (of_pos (by omega)) (cap := 40) (by rw [toN (by omega)]; omega) (by decide) (by decide) (by decide) fun T4 h4 a4 k4 X4 C4 E4 g4 S4 V4 Z4 => ?_
  have z4 := E4.1
  have l4 := ltA V4.lt
  have V4_ : Arv Z h4 a4 k4 .byte (Int32.ofNat (j - i)) (List.replicate (j - i) (.int (0 : Int32))) (.int (0 : Int32)) := padN V4 (j - i)
  have A5 := X4.at
  refine Gets.via (fun _ k => (XS.astore A5 hx rfl (D d46_12) rfl rfl (l' := #[vR b, vI (Int32.ofNat i), vI (Int32.ofNat j), vI (Int32.ofNat (j - i)), vR a4]) rfl (XS.aloadN A5 hx rfl (D d46_14) rfl rfl (XS.iloadN A5 hx rfl (D d46_15) rfl (XS.aload A5 hx rfl (D d46_16) rfl rfl (XS.iconst A5 hx rfl (D d46_18) (XS.aloadN A5 hx rfl (D d46_19) rfl rfl k))))))) ?_
  have f6 := Pr0.ext E4
  refine X4.alen f6 rfl rfl (D d46_20) ?_
  show Gets p e below _ (T4.setTop (mkF m 21 #[vR b, vI (Int32.ofNat i), vI (Int32.ofNat j), vI (Int32.ofNat (j - i)), vR a4] [(.int (Int32.ofNat M)), (.int (0 : Int32)), (.ref a4), (.int (Int32.ofNat i)), (.ref b)]))
  refine Gets.via (fun _ k => (XS.iloadN A5 hx rfl (D d46_21) rfl (isubV A5 hx rfl (D d46_22) rfl (v := (Int32.ofNat (M - i))) (of_sub (by omega) (by omega)) (XS.iloadN A5 hx rfl (D d46_23) rfl k)))) ?_
  refine X4.callS (W := 4) (w128 hw) (w129 hw) (w120 hw) (w130 hw) (by decide) (X4.payM (sf := []) (rmMin hcx (Int32.ofNat (M - i)) (Int32.ofNat (j - i)) h4 X4.old hmm) sf0 (w130 hw) (w120 hw)) rfl (sz hml rfl) (argsL := [(.int (Int32.ofNat (M - i))), (.int (Int32.ofNat (j - i)))]) (rest := [(.int (0 : Int32)), (.ref a4), (.int (Int32.ofNat i)), (.ref b)]) (lenOf pd12 rfl) rfl rfl (mroom rfl rfl) (D d46_24) (by decide) (by decide) fun T7 h7 vm7 v7 X7 C7 z7 q7 => ?_
  obtain ⟨r7, rfl, K7, rfl⟩ := q7
  rw [K7] at X7 C7
  have f9 := C7.safe (x := a4) (ltA (by omega)) S4
  refine X7.copy (w131 hw) (w134 hw) (w132 hw) (w133 hw) f6 V4_ (Or.inl ⟨rfl, rfl⟩) (of_pos (by omega)) (by decide) (of_pos (by omega)) (by rw [toN (by omega), toN (by omega), toN (by omega)]; omega) (by rw [toN (by omega), show (0 : Int32).toNatClampNeg = 0 from rfl]; omega) rfl (by rw [toN (by omega), List.length_replicate, show (0 : Int32).toNatClampNeg = 0 from rfl]; omega) (leA (by omega)) f9 rfl (sz hml rfl) rfl (D d46_27) (by decide) (W := 0) (mroom rfl rfl) (by decide) fun T8 h8 X8 C8 K8 V8 => ?_
  have z8 := K8.1
  have V8_ : Arv Z h8 a4 k4 .byte (Int32.ofNat (j - i)) (slcV vs i (j - i)) (.int (0 : Int32)) := (copied (vs := vs) (i := i) (k := j - i) (by omega) (by omega)) ▸ V8
  have A10 := X8.at
  refine Gets.via (fun _ k => (XS.aload A10 hx rfl (D d46_30) rfl rfl k)) ?_
  exact X8.retA hret rfl rfl rfl (D d46_32) (by decide) (by decide) (fun vmE CE => ⟨a4, k4, rfl, (((Keep.refl h0 []).ext E4).trans K8 (allS (Or.inr (leA (by omega))) all0)), V8_, (leA (by omega))⟩)
abbrev RrmCr : Room := { frames := 2, cells := 1, slots := 40, locals := 38 }
def QrmCr (Z : State) (b : Addr) (kb : ClassId) (M : Nat) (vs : List Value) (i : Nat) (j : Nat) (h0 : Heap) (v : Option Value) (vm : Vm) (h : Heap) : Prop := ∃ (t : Addr) (kt : ClassId), v = some (.ref t) ∧ Keep h0 h [] ∧ Arv Z h t kt .byte (Int32.ofNat (j - i)) (slcV vs i (j - i)) (.int (0 : Int32)) ∧ h0.size ≤ t
theorem rmCr (hcx : Cx Z a0 zc fm) (b : Addr) (kb : ClassId) (M : Nat) (vs : List Value) (i : Nat) (j : Nat) (h0 : Heap) (O0 : Old Z Z.heap.size h0) (Pr0 : Arv Z h0 b kb .byte (Int32.ofNat M) vs (.int (0 : Int32))) (Pr1 : i ≤ j) (Pr2 : j ≤ M) (Pr3 : M ≤ 4000) (Pr4 : j - i ≤ 40) (Pr5 : ¬ (i = 0 ∧ j = M)) : Met l Z consts_1 (⟨"java/util/Arrays", "copyOfRange", "([BII)[B"⟩ : MethodName) jdk_65_method_132_code 3 (some (.array .byte)) [] RrmCr [] #[(.ref b), (.int (Int32.ofNat i)), (.int (Int32.ofNat j))] h0 (QrmCr Z b kb M vs i j h0) := by
  have ⟨hw, hEL, O2, P5, O4, P6, OA, OH, OB⟩ := hcx
  refine Met.start (a0 := a0) (Ls := #[vR b, vI (Int32.ofNat i), vI (Int32.ofNat j)]) pn35 hEL O0 (fun m => by first | (simp [entryFrame, mkF, argsToLocals, Value.category]; done) | rfl) ?_
  intro p e s m below meth cc T0 vm0 X0 sf0_ D hml hret hnm hx zz A0
  have l1 := ltA Pr0.lt
  refine Gets.via (fun _ k => (XS.iloadN A0 hx rfl (D d35_0) rfl k)) ?_
  by_cases b1 : (Int32.ofNat i) = (0 : Int32)
  · refine Gets.via (fun _ k => (XS.ifNo A0 hx rfl (D d35_1) rfl (Jvm.Free.XT.i0_ne_f b1) k)) ?_
    refine Gets.via (fun _ k => (XS.iloadN A0 hx rfl (D d35_4) rfl (XS.aloadN A0 hx rfl (D d35_5) rfl rfl k))) ?_
    refine X0.alen Pr0 rfl rfl (D d35_6) ?_
    refine Gets.via (fun _ k => (XS.icmpNo A0 hx rfl (D d35_7) rfl (Jvm.Free.XT.ii_eq_f (fun q => Pr5 ⟨of_inj (by omega) (by omega) b1, of_inj (by omega) (by omega) q⟩)) k)) ?_
    refine Gets.via (fun _ k => (XS.aloadN A0 hx rfl (D d35_10) rfl rfl (XS.iloadN A0 hx rfl (D d35_11) rfl (XS.iloadN A0 hx rfl (D d35_12) rfl k)))) ?_
    show Gets p e below _ (T0.setTop (mkF m 13 #[vR b, vI (Int32.ofNat i), vI (Int32.ofNat j)] [(.int (Int32.ofNat j)), (.int (Int32.ofNat i)), (.ref b)]))
    refine X0.callS (W := 0) (w242 hw) (w243 hw) (w126 hw) (w244 hw) (by decide) (X0.payM (sf := []) (rmCrB hcx b kb M vs i j h0 X0.old Pr0 Pr1 Pr2 Pr3 Pr4) sf0 (w244 hw) (w126 hw)) rfl (sz hml rfl) (argsL := [(.ref b), (.int (Int32.ofNat i)), (.int (Int32.ofNat j))]) (rest := []) (lenOf pd27 rfl) rfl rfl (mroom rfl rfl) (D d35_13) (by decide) (by decide) fun T2 h2 vm2 v2 X2 C2 z2 q2 => ?_
    obtain ⟨t2, kt2, rfl, K2, g2_0, g2_1⟩ := q2
    have l3 := ltA g2_0.lt
    exact X2.retA hret rfl rfl rfl (D d35_16) (by decide) (by decide) (fun vmE CE => ⟨t2, kt2, rfl, ((Keep.refl h0 []).trans K2 all0), g2_0, g2_1⟩)
  · refine Gets.via (fun _ k => (XS.ifYes A0 hx rfl (pc0 := 1) (pc' := 10) rfl (D d35_1) rfl (Jvm.Free.XT.i0_ne_t b1) (by decide) (by decide) k)) ?_
    refine Gets.via (fun _ k => (XS.aloadN A0 hx rfl (D d35_10) rfl rfl (XS.iloadN A0 hx rfl (D d35_11) rfl (XS.iloadN A0 hx rfl (D d35_12) rfl k)))) ?_
    refine X0.callS (W := 0) (w242 hw) (w243 hw) (w126 hw) (w244 hw) (by decide) (X0.payM (sf := []) (rmCrB hcx b kb M vs i j h0 X0.old Pr0 Pr1 Pr2 Pr3 Pr4) sf0 (w244 hw) (w126 hw)) rfl (sz hml rfl) (argsL := [(.ref b), (.int (Int32.ofNat i)), (.int (Int32.ofNat j))]) (rest := []) (lenOf pd27 rfl) rfl rfl (mroom rfl rfl) (D d35_13) (by decide) (by decide) fun T4 h4 vm4 v4 X4 C4 z4 q4 => ?_
    obtain ⟨t4, kt4, rfl, K4, g4_0, g4_1⟩ := q4
    have l5 := ltA g4_0.lt
    exact X4.retA hret rfl rfl rfl (D d35_16) (by decide) (by decide) (fun vmE CE => ⟨t4, kt4, rfl, ((Keep.refl h0 []).trans K4 all0), g4_0, g4_1⟩)
abbrev RrmCrC : Room := { frames := 1, cells := 1, slots := 40, locals := 14 }
def QrmCrC (Z : State) (b : Addr) (kb : ClassId) (vs : List Value) (j : Nat) (h0 : Heap) (v : Option Value) (vm : Vm) (h : Heap) : Prop := ∃ (t : Addr) (kt : ClassId), v = some (.ref t) ∧ Keep h0 h [] ∧ Arv Z h t kt .byte (Int32.ofNat j) vs (.int (0 : Int32)) ∧ h0.size ≤ t
theorem rmCrC (hcx : Cx Z a0 zc fm) (b : Addr) (kb : ClassId) (vs : List Value) (j : Nat) (h0 : Heap) (O0 : Old Z Z.heap.size h0) (Pr0 : Arv Z h0 b kb .byte (Int32.ofNat j) vs (.int (0 : Int32))) (Pr1 : Exa Z h0 b "[B") (Pr2 : j ≤ 40) : Met l Z consts_1 (⟨"java/util/Arrays", "copyOfRange", "([BII)[B"⟩ : MethodName) jdk_65_method_132_code 3 (some (.array .byte)) [] RrmCrC [] #[(.ref b), (.int (0 : Int32)), (.int (Int32.ofNat j))] h0 (QrmCrC Z b kb vs j h0) := by
  have ⟨hw, hEL, O2, P5, O4, P6, OA, OH, OB⟩ := hcx
  refine Met.start (a0 := a0) (Ls := #[vR b, vI (0 : Int32), vI (Int32.ofNat j)]) pn35 hEL O0 (fun m => by first | (simp [entryFrame, mkF, argsToLocals, Value.category]; done) | rfl) ?_
  intro p e s m below meth cc T0 vm0 X0 sf0_ D hml hret hnm hx zz A0
  have l1 := ltA Pr0.lt
  refine Gets.via (fun _ k => (XS.iloadN A0 hx rfl (D d35_0) rfl (XS.ifNo A0 hx rfl (D d35_1) rfl (Jvm.Free.XT.i0_ne_f (by decide)) k))) ?_
  refine Gets.via (fun _ k => (XS.iloadN A0 hx rfl (D d35_4) rfl (XS.aloadN A0 hx rfl (D d35_5) rfl rfl k))) ?_
  refine X0.alen Pr0 rfl rfl (D d35_6) ?_
  refine Gets.via (fun _ k => (XS.icmpYes A0 hx rfl (pc0 := 7) (pc' := 17) rfl (D d35_7) rfl (Jvm.Free.XT.ii_eq_t rfl) (by decide) (by decide) k)) ?_
  refine Gets.via (fun _ k => (XS.aloadN A0 hx rfl (D d35_17) rfl rfl k)) ?_
  show Gets p e below _ (T0.setTop (mkF m 18 #[vR b, vI (0 : Int32), vI (Int32.ofNat j)] [(.ref b)]))
  refine X0.cloneB (w185 hw) (w186 hw) (w190 hw) (w188 hw) (w189 hw) (w191 hw) Pr0 Pr1 rfl (sz hml rfl) rfl (D d35_18) (by decide) (W := 0) (mroom rfl rfl) (by decide) (cap := 40) (by rw [toN (by omega)]; omega) (by decide) (by decide) fun T2 h2 a2 X2 C2 E2 g2 S2 V2 Z2 => ?_
  have z2 := E2.1
  have l2 := ltA V2.lt
  refine X2.cast (w192 hw) (Ins.self Z2) rfl rfl (D d35_21) fun T3 X3 => ?_
  exact X3.retA hret rfl rfl rfl (D d35_24) (by decide) (by decide) (fun vmE CE => ⟨a2, kb, rfl, ((Keep.refl h0 []).ext E2), V2, (leA (by omega))⟩)
abbrev RrmGv : Room := { frames := 0, cells := 0, slots := 0, locals := 0 }
def QrmGv (Z : State) (z : Addr) (d : Addr) (h0 : Heap) (v : Option Value) (vm : Vm) (h : Heap) : Prop := v = some (.ref d) ∧ h = h0
theorem rmGv (hcx : Cx Z a0 zc fm) (z : Addr) (d : Addr) (h0 : Heap) (O0 : Old Z Z.heap.size h0) (Pr0 : Exa Z h0 z "java/lang/StringBuilder") (Pr1 : Fld Z h0 z "java/lang/AbstractStringBuilder" "value" "[B" (.ref d)) : Met l Z consts_1 (⟨"java/lang/AbstractStringBuilder", "getValue", "()[B"⟩ : MethodName) jdk_68_method_64_code 1 (some (.array .byte)) [] RrmGv [] #[(.ref z)] h0 (QrmGv Z z d h0) := by
  have ⟨hw, hEL, O2, P5, O4, P6, OA, OH, OB⟩ := hcx
  refine Met.start (a0 := a0) (Ls := #[vR z]) pn31 hEL O0 (fun m => by first | (simp [entryFrame, mkF, argsToLocals, Value.category]; done) | rfl) ?_
  intro p e s m below meth cc T0 vm0 X0 sf0_ D hml hret hnm hx zz A0
  have l1 := ltA Pr0.lt
  refine Gets.via (fun _ k => (XS.aloadN A0 hx rfl (D d31_0) rfl rfl k)) ?_
  refine X0.getF (host := "") (Or.inl (w62 hw)) Via.refl Pr1 rfl rfl (D d31_1) fun T2 X2 => ?_
  exact X2.retA hret rfl rfl rfl (D d31_4) (by decide) (by decide) (fun vmE CE => ⟨rfl, rfl⟩)
abbrev RrmAl : Room := { frames := 0, cells := 0, slots := 0, locals := 0 }
def QrmAl (Z : State) (z : Addr) (n : Int32) (h0 : Heap) (v : Option Value) (vm : Vm) (h : Heap) : Prop := v = some (.int n) ∧ h = h0
theorem rmAl (hcx : Cx Z a0 zc fm) (z : Addr) (n : Int32) (h0 : Heap) (O0 : Old Z Z.heap.size h0) (Pr0 : Exa Z h0 z "java/lang/StringBuilder") (Pr1 : Fld Z h0 z "java/lang/AbstractStringBuilder" "count" "I" (.int n)) : Met l Z consts_1 (⟨"java/lang/AbstractStringBuilder", "length", "()I"⟩ : MethodName) jdk_68_method_6_code 1 (some .int) [] RrmAl [] #[(.ref z)] h0 (QrmAl Z z n h0) := by
  have ⟨hw, hEL, O2, P5, O4, P6, OA, OH, OB⟩ := hcx
  refine Met.start (a0 := a0) (Ls := #[vR z]) pn33 hEL O0 (fun m => by first | (simp [entryFrame, mkF, argsToLocals, Value.category]; done) | rfl) ?_
  intro p e s m below meth cc T0 vm0 X0 sf0_ D hml hret hnm hx zz A0
  have l1 := ltA Pr0.lt
  refine Gets.via (fun _ k => (XS.aloadN A0 hx rfl (D d33_0) rfl rfl k)) ?_
  refine X0.getF (host := "") (Or.inl (w102 hw)) Via.refl Pr1 rfl rfl (D d33_1) fun T2 X2 => ?_
  exact X2.retI hret rfl (by simp) (D d33_4) (by decide) (by decide) (fun vmE CE => ⟨rfl, rfl⟩)
abbrev RrmSl : Room := { frames := 1, cells := 0, slots := 0, locals := 12 }
def QrmSl (Z : State) (z : Addr) (n : Int32) (h0 : Heap) (v : Option Value) (vm : Vm) (h : Heap) : Prop := v = some (.int n) ∧ h = h0
theorem rmSl (hcx : Cx Z a0 zc fm) (z : Addr) (n : Int32) (h0 : Heap) (O0 : Old Z Z.heap.size h0) (Pr0 : Exa Z h0 z "java/lang/StringBuilder") (Pr1 : Fld Z h0 z "java/lang/AbstractStringBuilder" "count" "I" (.int n)) : Met l Z consts_1 (⟨"java/lang/StringBuilder", "length", "()I"⟩ : MethodName) jdk_67_method_93_code 1 (some .int) [] RrmSl [] #[(.ref z)] h0 (QrmSl Z z n h0) := by
  have ⟨hw, hEL, O2, P5, O4, P6, OA, OH, OB⟩ := hcx
  refine Met.start (a0 := a0) (Ls := #[vR z]) pn32 hEL O0 (fun m => by first | (simp [entryFrame, mkF, argsToLocals, Value.category]; done) | rfl) ?_
  intro p e s m below meth cc T0 vm0 X0 sf0_ D hml hret hnm hx zz A0
  have l1 := ltA Pr0.lt
  refine Gets.via (fun _ k => (XS.aloadN A0 hx rfl (D d32_0) rfl rfl k)) ?_
  refine X0.callU (W := 0) (by decide) (w175 hw) (same_self (w171 hw) (w107 hw) rfl (by decide)) (w171 hw) (w98 hw) (w176 hw) (X0.payM (sf := []) (rmAl hcx z n h0 X0.old Pr0 Pr1) sf0 (w176 hw) (w58 hw)) Pr0 rfl (sz hml rfl) (argsL := []) (rest := []) (lenOf pd22 rfl) rfl rfl (mroom rfl rfl) (D d32_1) (by decide) (by decide) fun T2 h2 vm2 v2 X2 C2 z2 q2 => ?_
  obtain ⟨rfl, K2⟩ := q2
  rw [K2] at X2 C2
  exact X2.retI hret rfl (by simp) (D d32_4) (by decide) (by decide) (fun vmE CE => ⟨rfl, rfl⟩)
abbrev RrmGt4_0 : Room := { frames := 3, cells := 1, slots := 40, locals := 53 }
def QrmGt4_0 (Z : State) (x : Addr) (z : Addr) (d : Addr) (kd : ClassId) (cap : Nat) (cs : List Int32) (h0 : Heap) (v : Option Value) (vm : Vm) (h : Heap) : Prop := ∃ (t : Addr) (kt : ClassId), v = none ∧ Keep h0 h [x] ∧ Str Z h x t kt cs
theorem rmGt4_0 (hcx : Cx Z a0 zc fm) (x : Addr) (z : Addr) (d : Addr) (kd : ClassId) (cap : Nat) (cs : List Int32) (h0 : Heap) (O0 : Old Z Z.heap.size h0) (Pr0 : Exa Z h0 x "java/lang/String") (Pr1 : Fld Z h0 x "java/lang/String" "coder" "B" (.int (0 : Int32))) (Pr2 : Fld Z h0 x "java/lang/String" "value" "[B" .null) (Pr3 : Z.heap.size ≤ x) (Pr4 : Exa Z h0 z "java/lang/StringBuilder") (Pr5 : Fld Z h0 z "java/lang/AbstractStringBuilder" "value" "[B" (.ref d)) (Pr6 : Fld Z h0 z "java/lang/AbstractStringBuilder" "coder" "B" (.int (0 : Int32))) (Pr7 : Fld Z h0 z "java/lang/AbstractStringBuilder" "count" "I" (.int (Int32.ofNat (cs).length))) (Pr8 : Fld Z h0 z "java/lang/AbstractStringBuilder" "maybeLatin1" "Z" (.int (0 : Int32))) (Pr9 : Arv Z h0 d kd .byte (Int32.ofNat cap) ((cs.map fun c => c.toInt8.toInt32).map Value.int) (.int (0 : Int32))) (Pr10 : Exa Z h0 d "[B") (Pr11 : (cs).length ≤ cap) (Pr12 : cap ≤ 2 * (cs).length + 3) (Pr13 : d ≠ x) (Pr14 : (cs).length ≤ 18) (Pr15 : ∀ z_ ∈ cs, ¬ z_ < 0 ∧ ¬ (255 : Int32) < z_) : Met l Z consts_1 (⟨"java/lang/String", "<init>", "(Ljava/lang/AbstractStringBuilder;Ljava/lang/Void;)V"⟩ : MethodName) jdk_42_method_150_code 5 (none) [] RrmGt4_0 [x] #[(.ref x), (.ref z), .null] h0 (QrmGt4_0 Z x z d kd cap cs h0) := by
  have ⟨hw, hEL, O2, P5, O4, P6, OA, OH, OB⟩ := hcx
  refine Met.start (a0 := a0) (Ls := #[vR x, vR z, .val .null, .unset, .unset]) pn30 hEL O0 (fun m => by first | (simp [entryFrame, mkF, argsToLocals, Value.category]; done) | rfl) ?_
  intro p e s m below meth cc T0 vm0 X0 sf0_ D hml hret hnm hx zz A0
  have l1 := ltA Pr0.lt
  have l2 := ltA Pr4.lt
  have l3 := ltA Pr9.lt
  have l4 := neA Pr13
  have s5 := sf0_ x (memI (i := 0) rfl)
  refine Gets.via (fun _ k => (XS.aloadN A0 hx rfl (D d30_0) rfl rfl k)) ?_
  refine X0.objInit (w15 hw) (w16 hw) (w17 hw) rfl (sz hml rfl) rfl (D d30_1) (by decide) (W := 0) (mroom rfl rfl) (by decide) fun T6 X6 => ?_
  have A7 := X6.at
  refine Gets.via (fun _ k => (XS.aloadN A7 hx rfl (D d30_4) rfl rfl k)) ?_
  refine X6.callV (W := 0) (w164 hw) (w165 hw) (w167 hw) (w166 hw) (nfs rfl (w167 hw)) (by decide) (X6.payM (sf := []) (rmGv hcx z d h0 X6.old Pr4 Pr5) sf0 (w168 hw) (w58 hw)) Pr4 rfl (sz hml rfl) (argsL := []) (rest := []) (lenOf pd28 rfl) rfl rfl (mroom rfl rfl) (D d30_5) (by decide) (by decide) fun T8 h8 vm8 v8 X8 C8 z8 q8 => ?_
  obtain ⟨rfl, K8⟩ := q8
  rw [K8] at X8 C8
  have A9 := X8.at
  refine Gets.via (fun _ k => (XS.astoreN A9 hx rfl (D d30_8) rfl rfl (l' := #[vR x, vR z, .val .null, vR d, .unset]) rfl (XS.aloadN A9 hx rfl (D d30_9) rfl rfl k))) ?_
  show Gets p e below _ (T8.setTop (mkF m 10 #[vR x, vR z, .val .null, vR d, .unset] [(.ref z)]))
  refine X8.callV (W := 0) (w169 hw) (w170 hw) (w172 hw) (w173 hw) (nfs2 (y := (⟨"java/lang/AbstractStringBuilder", "length", "()I"⟩ : MethodName)) (w107 hw) rfl) (by decide) (X8.payM (sf := []) (rmSl hcx z (Int32.ofNat (cs).length) h0 X8.old Pr4 Pr7) sf0 (w174 hw) (w40 hw)) Pr4 rfl (sz hml rfl) (argsL := []) (rest := []) (lenOf pd22 rfl) rfl rfl (mroom rfl rfl) (D d30_10) (by decide) (by decide) fun T10 h10 vm10 v10 X10 C10 z10 q10 => ?_
  obtain ⟨rfl, K10⟩ := q10
  rw [K10] at X10 C10
  have A11 := X10.at
  refine Gets.via (fun _ k => (XS.istore A11 hx rfl (D d30_13) rfl (l' := #[vR x, vR z, .val .null, vR d, vI (Int32.ofNat (cs).length)]) rfl (XS.aloadN A11 hx rfl (D d30_15) rfl rfl k))) ?_
  refine X10.callV (W := 0) (w177 hw) (w178 hw) (w180 hw) (w179 hw) (nfs rfl (w180 hw)) (by decide) (X10.payM (sf := []) (rmSbL0 hcx z h0 X10.old Pr4 Pr6) sf0 (w181 hw) (w58 hw)) Pr4 rfl (sz hml rfl) (argsL := []) (rest := []) (lenOf pd18 rfl) rfl rfl (mroom rfl rfl) (D d30_16) (by decide) (by decide) fun T12 h12 vm12 v12 X12 C12 z12 q12 => ?_
  obtain ⟨rfl, K12⟩ := q12
  rw [K12] at X12 C12
  have A13 := X12.at
  refine Gets.via (fun _ k => (XS.ifNo A13 hx rfl (D d30_19) rfl (Jvm.Free.XT.i0_eq_f (by decide)) k)) ?_
  refine Gets.via (fun _ k => (XS.aloadN A13 hx rfl (D d30_22) rfl rfl (XS.iconst A13 hx rfl (D d30_23) k))) ?_
  have f15 := C8.safe (x := x) (ltA (by omega)) s5
  have f16 := C10.safe (x := x) (ltA (by omega)) f15
  have f17 := C12.safe (x := x) (ltA (by omega)) f16
  refine X12.putF (host := "") (Or.inl (w30 hw)) Via.refl Pr1 Pr0 (Or.inr ⟨(w31 hw), rfl, hnm⟩) (w6 hw) (ty := .byte) (by decide) (by decide) (by decide) (leA (by omega)) f17 rfl rfl (D d30_24) fun T14 h14 X14 C14 W14 F14 Z14 => ?_
  have z14 := W14.size
  show Gets p e below _ (T14.setTop (mkF m 27 #[vR x, vR z, .val .null, vR d, vI (Int32.ofNat (cs).length)] []))
  have A18 := X14.at
  refine Gets.via (fun _ k => (XS.aloadN A18 hx rfl (D d30_27) rfl rfl (XS.aloadN A18 hx rfl (D d30_28) rfl rfl (XS.iconst A18 hx rfl (D d30_29) (XS.iload A18 hx rfl (D d30_30) rfl k))))) ?_
  rcases Nat.lt_or_ge (cs).length cap with hf | hf
  · skip
    have f19 := Pr9.other W14 (neA (by omega))
    refine X14.callS (W := 1) (w182 hw) (w183 hw) (w126 hw) (w184 hw) (by decide) (X14.payM (sf := []) (rmCr hcx d kd cap ((cs.map fun c => c.toInt8.toInt32).map Value.int) 0 ((cs).length) h14 X14.old f19 (by omega) Pr11 (leA (by omega)) (by omega) (by omega)) sf0 (w184 hw) (w126 hw)) rfl (sz hml rfl) (argsL := [(.ref d), (.int (0 : Int32)), (.int (Int32.ofNat (cs).length))]) (rest := [(.ref x)]) (lenOf pd27 rfl) rfl rfl (mroom rfl rfl) (D d30_32) (by decide) (by decide) fun T20 h20 vm20 v20 X20 C20 z20 q20 => ?_
    obtain ⟨t20, kt20, rfl, K20, g20_0, g20_1⟩ := q20
    have l21 := ltA g20_0.lt
    have f23 := Pr2.other W14 (Or.inr (slot_ne (t := (.array .byte)) (t' := .byte) (Or.inr (w33 hw)) (Or.inr (w31 hw)) (by decide) (by decide) (by decide)))
    have f24 := f23.keep K20 nin0
    have f25 := Z14.keep K20
    have f26 := C14.safe (x := x) (ltA (by omega)) f17
    have f27 := C20.safe (x := x) (ltA (by omega)) f26
    refine X20.putF (host := "") (Or.inl (w32 hw)) Via.refl f24 f25 (Or.inr ⟨(w33 hw), rfl, hnm⟩) (w6 hw) (ty := (.array .byte)) (by decide) rfl rfl (leA (by omega)) f27 rfl rfl (D d30_35) fun T22 h22 X22 C22 W22 F22 Z22 => ?_
    have z22 := W22.size
    have A28 := X22.at
    refine Gets.via (fun _ k => (XS.goto A28 hx rfl (pc0 := 38) (pc' := 97) rfl (D d30_38) (by decide) (by decide) k)) ?_
    have f29 := F14.keep K20 nin0
    have f30 := f29.other W22 (Or.inr (slot_ne (t := .byte) (t' := (.array .byte)) (Or.inr (w31 hw)) (Or.inr (w33 hw)) (by decide) (by decide) (by decide)))
    have f31 := g20_0.other W22 (neA (by omega))
    have eS : slcV ((cs.map fun c => c.toInt8.toInt32).map Value.int) 0 (cs).length = ((cs.map fun c => c.toInt8.toInt32).map Value.int) := (by_len cs ▸ slc_all0 ((cs.map fun c => c.toInt8.toInt32).map Value.int))
    have SU : Str Z h22 x t20 kt20 cs := ⟨Z22, f30, F22, eS ▸ f31, Pr15, by omega⟩
    exact X22.retV hret (D d30_97) (by decide) (by decide) (fun vmE CE => ⟨t20, kt20, rfl, ((((Keep.refl h0 [x]).wr W14 (Or.inl (memI (i := 0) rfl))).trans K20 all0).wr W22 (Or.inl (memI (i := 0) rfl))), SU⟩)
  · obtain rfl : cap = (cs).length := by omega
    have f32 := Pr9.other W14 (neA (by omega))
    have f33 := Pr10.wr W14
    refine X14.callS (W := 1) (w182 hw) (w183 hw) (w126 hw) (w184 hw) (by decide) (X14.payM (sf := []) (rmCrC hcx d kd ((cs.map fun c => c.toInt8.toInt32).map Value.int) ((cs).length) h14 X14.old f32 f33 (by omega)) sf0 (w184 hw) (w126 hw)) rfl (sz hml rfl) (argsL := [(.ref d), (.int (0 : Int32)), (.int (Int32.ofNat (cs).length))]) (rest := [(.ref x)]) (lenOf pd27 rfl) rfl rfl (mroom rfl rfl) (D d30_32) (by decide) (by decide) fun T34 h34 vm34 v34 X34 C34 z34 q34 => ?_
    obtain ⟨t34, kt34, rfl, K34, g34_0, g34_1⟩ := q34
    have l35 := ltA g34_0.lt
    show Gets p e below _ (T34.setTop (mkF m 35 #[vR x, vR z, .val .null, vR d, vI (Int32.ofNat (cs).length)] [(.ref t34), (.ref x)]))
    have f37 := Pr2.other W14 (Or.inr (slot_ne (t := (.array .byte)) (t' := .byte) (Or.inr (w33 hw)) (Or.inr (w31 hw)) (by decide) (by decide) (by decide)))
    have f38 := f37.keep K34 nin0
    have f39 := Z14.keep K34
    have f40 := C14.safe (x := x) (ltA (by omega)) f17
    have f41 := C34.safe (x := x) (ltA (by omega)) f40
    refine X34.putF (host := "") (Or.inl (w32 hw)) Via.refl f38 f39 (Or.inr ⟨(w33 hw), rfl, hnm⟩) (w6 hw) (ty := (.array .byte)) (by decide) rfl rfl (leA (by omega)) f41 rfl rfl (D d30_35) fun T36 h36 X36 C36 W36 F36 Z36 => ?_
    have z36 := W36.size
    have A42 := X36.at
    refine Gets.via (fun _ k => (XS.goto A42 hx rfl (pc0 := 38) (pc' := 97) rfl (D d30_38) (by decide) (by decide) k)) ?_
    have f43 := F14.keep K34 nin0
    have f44 := f43.other W36 (Or.inr (slot_ne (t := .byte) (t' := (.array .byte)) (Or.inr (w31 hw)) (Or.inr (w33 hw)) (by decide) (by decide) (by decide)))
    have f45 := g34_0.other W36 (neA (by omega))
    have SU : Str Z h36 x t34 kt34 cs := ⟨Z36, f44, F36, f45, Pr15, by omega⟩
    exact X36.retV hret (D d30_97) (by decide) (by decide) (fun vmE CE => ⟨t34, kt34, rfl, ((((Keep.refl h0 [x]).wr W14 (Or.inl (memI (i := 0) rfl))).trans K34 all0).wr W36 (Or.inl (memI (i := 0) rfl))), SU⟩)
abbrev RrmGt1_0 : Room := { frames := 4, cells := 1, slots := 40, locals := 69 }
def QrmGt1_0 (Z : State) (x : Addr) (z : Addr) (d : Addr) (kd : ClassId) (cap : Nat) (cs : List Int32) (h0 : Heap) (v : Option Value) (vm : Vm) (h : Heap) : Prop := ∃ (t : Addr) (kt : ClassId), v = none ∧ Keep h0 h [x] ∧ Str Z h x t kt cs
theorem rmGt1_0 (hcx : Cx Z a0 zc fm) (x : Addr) (z : Addr) (d : Addr) (kd : ClassId) (cap : Nat) (cs : List Int32) (h0 : Heap) (O0 : Old Z Z.heap.size h0) (Pr0 : Exa Z h0 x "java/lang/String") (Pr1 : Fld Z h0 x "java/lang/String" "coder" "B" (.int (0 : Int32))) (Pr2 : Fld Z h0 x "java/lang/String" "value" "[B" .null) (Pr3 : Z.heap.size ≤ x) (Pr4 : Exa Z h0 z "java/lang/StringBuilder") (Pr5 : Fld Z h0 z "java/lang/AbstractStringBuilder" "value" "[B" (.ref d)) (Pr6 : Fld Z h0 z "java/lang/AbstractStringBuilder" "coder" "B" (.int (0 : Int32))) (Pr7 : Fld Z h0 z "java/lang/AbstractStringBuilder" "count" "I" (.int (Int32.ofNat (cs).length))) (Pr8 : Fld Z h0 z "java/lang/AbstractStringBuilder" "maybeLatin1" "Z" (.int (0 : Int32))) (Pr9 : Arv Z h0 d kd .byte (Int32.ofNat cap) ((cs.map fun c => c.toInt8.toInt32).map Value.int) (.int (0 : Int32))) (Pr10 : Exa Z h0 d "[B") (Pr11 : (cs).length ≤ cap) (Pr12 : cap ≤ 2 * (cs).length + 3) (Pr13 : d ≠ x) (Pr14 : (cs).length ≤ 18) (Pr15 : ∀ z_ ∈ cs, ¬ z_ < 0 ∧ ¬ (255 : Int32) < z_) : Met l Z consts_1 (⟨"java/lang/String", "<init>", "(Ljava/lang/StringBuilder;)V"⟩ : MethodName) jdk_42_method_53_code 2 (none) [] RrmGt1_0 [x] #[(.ref x), (.ref z)] h0 (QrmGt1_0 Z x z d kd cap cs h0) := by
  have ⟨hw, hEL, O2, P5, O4, P6, OA, OH, OB⟩ := hcx
  refine Met.start (a0 := a0) (Ls := #[vR x, vR z]) pn29 hEL O0 (fun m => by first | (simp [entryFrame, mkF, argsToLocals, Value.category]; done) | rfl) ?_
  intro p e s m below meth cc T0 vm0 X0 sf0_ D hml hret hnm hx zz A0
  have l1 := ltA Pr0.lt
  have l2 := ltA Pr4.lt
  have l3 := ltA Pr9.lt
  have l4 := neA Pr13
  have s5 := sf0_ x (memI (i := 0) rfl)
  refine Gets.via (fun _ k => (XS.aloadN A0 hx rfl (D d29_0) rfl rfl (XS.aloadN A0 hx rfl (D d29_1) rfl rfl (XS.aconstNull A0 hx rfl (D d29_2) k)))) ?_
  refine X0.callI (y := (⟨"java/lang/String", "<init>", "(Ljava/lang/AbstractStringBuilder;Ljava/lang/Void;)V"⟩ : MethodName)) (W := 0) rfl (w161 hw) (w162 hw) (w163 hw) (by decide) (X0.payM (sf := [x]) (rmGt4_0 hcx x z d kd cap cs h0 X0.old Pr0 Pr1 Pr2 Pr3 Pr4 Pr5 Pr6 Pr7 Pr8 Pr9 Pr10 Pr11 Pr12 Pr13 Pr14 Pr15) (sfS s5 sf0) (w163 hw) (w7 hw)) rfl (sz hml rfl) (a := x) (argsL := [(.ref z), .null]) (rest := []) (lenOf pd29 rfl) rfl rfl (mroom rfl rfl) (D d29_3) (by decide) (by decide) fun T6 h6 vm6 v6 X6 C6 z6 q6 => ?_
  obtain ⟨t6, kt6, rfl, K6, g6_0⟩ := q6
  have l7 := ltA g6_0.lt
  have l8 := ltA g6_0.lb
  exact X6.retV hret (D d29_6) (by decide) (by decide) (fun vmE CE => ⟨t6, kt6, rfl, ((Keep.refl h0 [x]).trans K6 (allS (Or.inl (memI (i := 0) rfl)) all0)), g6_0⟩)
abbrev RrmGt4_1 : Room := { frames := 3, cells := 1, slots := 40, locals := 53 }
def QrmGt4_1 (Z : State) (x : Addr) (z : Addr) (d : Addr) (kd : ClassId) (cap : Nat) (cs : List Int32) (h0 : Heap) (v : Option Value) (vm : Vm) (h : Heap) : Prop := ∃ (t : Addr) (kt : ClassId), v = none ∧ Keep h0 h [x] ∧ StrU Z h x t kt cs
theorem rmGt4_1 (hcx : Cx Z a0 zc fm) (x : Addr) (z : Addr) (d : Addr) (kd : ClassId) (cap : Nat) (cs : List Int32) (h0 : Heap) (O0 : Old Z Z.heap.size h0) (Pr0 : Exa Z h0 x "java/lang/String") (Pr1 : Fld Z h0 x "java/lang/String" "coder" "B" (.int (0 : Int32))) (Pr2 : Fld Z h0 x "java/lang/String" "value" "[B" .null) (Pr3 : Z.heap.size ≤ x) (Pr4 : Exa Z h0 z "java/lang/StringBuilder") (Pr5 : Fld Z h0 z "java/lang/AbstractStringBuilder" "value" "[B" (.ref d)) (Pr6 : Fld Z h0 z "java/lang/AbstractStringBuilder" "coder" "B" (.int (1 : Int32))) (Pr7 : Fld Z h0 z "java/lang/AbstractStringBuilder" "count" "I" (.int (Int32.ofNat (cs).length))) (Pr8 : Fld Z h0 z "java/lang/AbstractStringBuilder" "maybeLatin1" "Z" (.int (0 : Int32))) (Pr9 : Arv Z h0 d kd .byte (Int32.ofNat (2 * cap)) (enc16 cs) (.int (0 : Int32))) (Pr10 : Exa Z h0 d "[B") (Pr11 : (cs).length ≤ cap) (Pr12 : cap ≤ 2 * (cs).length + 3) (Pr13 : d ≠ x) (Pr14 : (cs).length ≤ 18) (Pr15 : ∀ z_ ∈ cs, ¬ z_ < 0 ∧ ¬ (65535 : Int32) < z_) : Met l Z consts_1 (⟨"java/lang/String", "<init>", "(Ljava/lang/AbstractStringBuilder;Ljava/lang/Void;)V"⟩ : MethodName) jdk_42_method_150_code 5 (none) [] RrmGt4_1 [x] #[(.ref x), (.ref z), .null] h0 (QrmGt4_1 Z x z d kd cap cs h0) := by
  have ⟨hw, hEL, O2, P5, O4, P6, OA, OH, OB⟩ := hcx
  refine Met.start (a0 := a0) (Ls := #[vR x, vR z, .val .null, .unset, .unset]) pn30 hEL O0 (fun m => by first | (simp [entryFrame, mkF, argsToLocals, Value.category]; done) | rfl) ?_
  intro p e s m below meth cc T0 vm0 X0 sf0_ D hml hret hnm hx zz A0
  have l1 := ltA Pr0.lt
  have l2 := ltA Pr4.lt
  have l3 := ltA Pr9.lt
  have l4 := neA Pr13
  have s5 := sf0_ x (memI (i := 0) rfl)
  refine Gets.via (fun _ k => (XS.aloadN A0 hx rfl (D d30_0) rfl rfl k)) ?_
  refine X0.objInit (w15 hw) (w16 hw) (w17 hw) rfl (sz hml rfl) rfl (D d30_1) (by decide) (W := 0) (mroom rfl rfl) (by decide) fun T6 X6 => ?_
  have A7 := X6.at
  refine Gets.via (fun _ k => (XS.aloadN A7 hx rfl (D d30_4) rfl rfl k)) ?_
  refine X6.callV (W := 0) (w164 hw) (w165 hw) (w167 hw) (w166 hw) (nfs rfl (w167 hw)) (by decide) (X6.payM (sf := []) (rmGv hcx z d h0 X6.old Pr4 Pr5) sf0 (w168 hw) (w58 hw)) Pr4 rfl (sz hml rfl) (argsL := []) (rest := []) (lenOf pd28 rfl) rfl rfl (mroom rfl rfl) (D d30_5) (by decide) (by decide) fun T8 h8 vm8 v8 X8 C8 z8 q8 => ?_
  obtain ⟨rfl, K8⟩ := q8
  rw [K8] at X8 C8
  have A9 := X8.at
  refine Gets.via (fun _ k => (XS.astoreN A9 hx rfl (D d30_8) rfl rfl (l' := #[vR x, vR z, .val .null, vR d, .unset]) rfl (XS.aloadN A9 hx rfl (D d30_9) rfl rfl k))) ?_
  show Gets p e below _ (T8.setTop (mkF m 10 #[vR x, vR z, .val .null, vR d, .unset] [(.ref z)]))
  refine X8.callV (W := 0) (w169 hw) (w170 hw) (w172 hw) (w173 hw) (nfs2 (y := (⟨"java/lang/AbstractStringBuilder", "length", "()I"⟩ : MethodName)) (w107 hw) rfl) (by decide) (X8.payM (sf := []) (rmSl hcx z (Int32.ofNat (cs).length) h0 X8.old Pr4 Pr7) sf0 (w174 hw) (w40 hw)) Pr4 rfl (sz hml rfl) (argsL := []) (rest := []) (lenOf pd22 rfl) rfl rfl (mroom rfl rfl) (D d30_10) (by decide) (by decide) fun T10 h10 vm10 v10 X10 C10 z10 q10 => ?_
  obtain ⟨rfl, K10⟩ := q10
  rw [K10] at X10 C10
  have A11 := X10.at
  refine Gets.via (fun _ k => (XS.istore A11 hx rfl (D d30_13) rfl (l' := #[vR x, vR z, .val .null, vR d, vI (Int32.ofNat (cs).length)]) rfl (XS.aloadN A11 hx rfl (D d30_15) rfl rfl k))) ?_
  refine X10.callV (W := 0) (w177 hw) (w178 hw) (w180 hw) (w179 hw) (nfs rfl (w180 hw)) (by decide) (X10.payM (sf := []) (rmSbL1 hcx z h0 X10.old Pr4 Pr6) sf0 (w181 hw) (w58 hw)) Pr4 rfl (sz hml rfl) (argsL := []) (rest := []) (lenOf pd18 rfl) rfl rfl (mroom rfl rfl) (D d30_16) (by decide) (by decide) fun T12 h12 vm12 v12 X12 C12 z12 q12 => ?_
  obtain ⟨rfl, K12⟩ := q12
  rw [K12] at X12 C12
  have A13 := X12.at
  refine Gets.via (fun _ k => (XS.ifYes A13 hx rfl (pc0 := 19) (pc' := 41) rfl (D d30_19) rfl (Jvm.Free.XT.i0_eq_t (by decide)) (by decide) (by decide) k)) ?_
  refine X12.getS (host := "") (Or.inl (w18 hw)) Via.refl (X12.sta O2) rfl (D d30_41) fun T14 X14 => ?_
  show Gets p e below _ (T14.setTop (mkF m 44 #[vR x, vR z, .val .null, vR d, vI (Int32.ofNat (cs).length)] [(.int zc)]))
  have A15 := X14.at
  refine Gets.via (fun _ k => (XS.ifNo A15 hx rfl (D d30_44) rfl (Jvm.Free.XT.i0_eq_f P5) k)) ?_
  refine Gets.via (fun _ k => (XS.aloadN A15 hx rfl (D d30_47) rfl rfl k)) ?_
  refine X14.getF (host := "") (Or.inl (w295 hw)) Via.refl Pr8 rfl rfl (D d30_48) fun T16 X16 => ?_
  have A17 := X16.at
  refine Gets.via (fun _ k => (XS.ifYes A17 hx rfl (pc0 := 51) (pc' := 79) rfl (D d30_51) rfl (Jvm.Free.XT.i0_eq_t (by decide)) (by decide) (by decide) k)) ?_
  refine Gets.via (fun _ k => (XS.aloadN A17 hx rfl (D d30_79) rfl rfl (XS.iconst A17 hx rfl (D d30_80) k))) ?_
  have f19 := C8.safe (x := x) (ltA (by omega)) s5
  have f20 := C10.safe (x := x) (ltA (by omega)) f19
  have f21 := C12.safe (x := x) (ltA (by omega)) f20
  refine X16.putF (host := "") (Or.inl (w30 hw)) Via.refl Pr1 Pr0 (Or.inr ⟨(w31 hw), rfl, hnm⟩) (w6 hw) (ty := .byte) (by decide) (by decide) (by decide) (leA (by omega)) f21 rfl rfl (D d30_81) fun T18 h18 X18 C18 W18 F18 Z18 => ?_
  have z18 := W18.size
  have A22 := X18.at
  refine Gets.via (fun _ k => (XS.aloadN A22 hx rfl (D d30_84) rfl rfl (XS.aloadN A22 hx rfl (D d30_85) rfl rfl (XS.iconst A22 hx rfl (D d30_86) (XS.iload A22 hx rfl (D d30_87) rfl (XS.iconst A22 hx rfl (D d30_89) (ishlV A22 hx rfl (D d30_90) rfl (v := (Int32.ofNat (2 * (cs).length))) (shl1 _) k))))))) ?_
  show Gets p e below _ (T18.setTop (mkF m 91 #[vR x, vR z, .val .null, vR d, vI (Int32.ofNat (cs).length)] [(.int (Int32.ofNat (2 * (cs).length))), (.int (0 : Int32)), (.ref d), (.ref x)]))
  rcases Nat.lt_or_ge (cs).length cap with hf | hf
  · skip
    have f23 := Pr9.other W18 (neA (by omega))
    refine X18.callS (W := 1) (w182 hw) (w183 hw) (w126 hw) (w184 hw) (by decide) (X18.payM (sf := []) (rmCr hcx d kd (2 * cap) (enc16 cs) 0 (2 * (cs).length) h18 X18.old f23 (by omega) (by omega) (leA (by omega)) (by omega) (by omega)) sf0 (w184 hw) (w126 hw)) rfl (sz hml rfl) (argsL := [(.ref d), (.int (0 : Int32)), (.int (Int32.ofNat (2 * (cs).length)))]) (rest := [(.ref x)]) (lenOf pd27 rfl) rfl rfl (mroom rfl rfl) (D d30_91) (by decide) (by decide) fun T24 h24 vm24 v24 X24 C24 z24 q24 => ?_
    obtain ⟨t24, kt24, rfl, K24, g24_0, g24_1⟩ := q24
    have l25 := ltA g24_0.lt
    have f27 := Pr2.other W18 (Or.inr (slot_ne (t := (.array .byte)) (t' := .byte) (Or.inr (w33 hw)) (Or.inr (w31 hw)) (by decide) (by decide) (by decide)))
    have f28 := f27.keep K24 nin0
    have f29 := Z18.keep K24
    have f30 := C18.safe (x := x) (ltA (by omega)) f21
    have f31 := C24.safe (x := x) (ltA (by omega)) f30
    refine X24.putF (host := "") (Or.inl (w32 hw)) Via.refl f28 f29 (Or.inr ⟨(w33 hw), rfl, hnm⟩) (w6 hw) (ty := (.array .byte)) (by decide) rfl rfl (leA (by omega)) f31 rfl rfl (D d30_94) fun T26 h26 X26 C26 W26 F26 Z26 => ?_
    have z26 := W26.size
    have f32 := F18.keep K24 nin0
    have f33 := f32.other W26 (Or.inr (slot_ne (t := .byte) (t' := (.array .byte)) (Or.inr (w31 hw)) (Or.inr (w33 hw)) (by decide) (by decide) (by decide)))
    have f34 := g24_0.other W26 (neA (by omega))
    have eS : slcV (enc16 cs) 0 (2 * (cs).length) = (enc16 cs) := (enc16_len cs ▸ slc_all0 (enc16 cs))
    have SU : StrU Z h26 x t24 kt24 cs := ⟨Z26, f33, F26, eS ▸ f34, Pr15, by omega⟩
    exact X26.retV hret (D d30_97) (by decide) (by decide) (fun vmE CE => ⟨t24, kt24, rfl, ((((Keep.refl h0 [x]).wr W18 (Or.inl (memI (i := 0) rfl))).trans K24 all0).wr W26 (Or.inl (memI (i := 0) rfl))), SU⟩)
  · obtain rfl : cap = (cs).length := by omega
    have f35 := Pr9.other W18 (neA (by omega))
    have f36 := Pr10.wr W18
    refine X18.callS (W := 1) (w182 hw) (w183 hw) (w126 hw) (w184 hw) (by decide) (X18.payM (sf := []) (rmCrC hcx d kd (enc16 cs) (2 * (cs).length) h18 X18.old f35 f36 (by omega)) sf0 (w184 hw) (w126 hw)) rfl (sz hml rfl) (argsL := [(.ref d), (.int (0 : Int32)), (.int (Int32.ofNat (2 * (cs).length)))]) (rest := [(.ref x)]) (lenOf pd27 rfl) rfl rfl (mroom rfl rfl) (D d30_91) (by decide) (by decide) fun T37 h37 vm37 v37 X37 C37 z37 q37 => ?_
    obtain ⟨t37, kt37, rfl, K37, g37_0, g37_1⟩ := q37
    have l38 := ltA g37_0.lt
    have f40 := Pr2.other W18 (Or.inr (slot_ne (t := (.array .byte)) (t' := .byte) (Or.inr (w33 hw)) (Or.inr (w31 hw)) (by decide) (by decide) (by decide)))
    have f41 := f40.keep K37 nin0
    have f42 := Z18.keep K37
    have f43 := C18.safe (x := x) (ltA (by omega)) f21
    have f44 := C37.safe (x := x) (ltA (by omega)) f43
    refine X37.putF (host := "") (Or.inl (w32 hw)) Via.refl f41 f42 (Or.inr ⟨(w33 hw), rfl, hnm⟩) (w6 hw) (ty := (.array .byte)) (by decide) rfl rfl (leA (by omega)) f44 rfl rfl (D d30_94) fun T39 h39 X39 C39 W39 F39 Z39 => ?_
    have z39 := W39.size
    show Gets p e below _ (T39.setTop (mkF m 97 #[vR x, vR z, .val .null, vR d, vI (Int32.ofNat (cs).length)] []))
    have f45 := F18.keep K37 nin0
    have f46 := f45.other W39 (Or.inr (slot_ne (t := .byte) (t' := (.array .byte)) (Or.inr (w31 hw)) (Or.inr (w33 hw)) (by decide) (by decide) (by decide)))
    have f47 := g37_0.other W39 (neA (by omega))
    have SU : StrU Z h39 x t37 kt37 cs := ⟨Z39, f46, F39, f47, Pr15, by omega⟩
    exact X39.retV hret (D d30_97) (by decide) (by decide) (fun vmE CE => ⟨t37, kt37, rfl, ((((Keep.refl h0 [x]).wr W18 (Or.inl (memI (i := 0) rfl))).trans K37 all0).wr W39 (Or.inl (memI (i := 0) rfl))), SU⟩)
abbrev RrmGt1_1 : Room := { frames := 4, cells := 1, slots := 40, locals := 69 }
def QrmGt1_1 (Z : State) (x : Addr) (z : Addr) (d : Addr) (kd : ClassId) (cap : Nat) (cs : List Int32) (h0 : Heap) (v : Option Value) (vm : Vm) (h : Heap) : Prop := ∃ (t : Addr) (kt : ClassId), v = none ∧ Keep h0 h [x] ∧ StrU Z h x t kt cs
theorem rmGt1_1 (hcx : Cx Z a0 zc fm) (x : Addr) (z : Addr) (d : Addr) (kd : ClassId) (cap : Nat) (cs : List Int32) (h0 : Heap) (O0 : Old Z Z.heap.size h0) (Pr0 : Exa Z h0 x "java/lang/String") (Pr1 : Fld Z h0 x "java/lang/String" "coder" "B" (.int (0 : Int32))) (Pr2 : Fld Z h0 x "java/lang/String" "value" "[B" .null) (Pr3 : Z.heap.size ≤ x) (Pr4 : Exa Z h0 z "java/lang/StringBuilder") (Pr5 : Fld Z h0 z "java/lang/AbstractStringBuilder" "value" "[B" (.ref d)) (Pr6 : Fld Z h0 z "java/lang/AbstractStringBuilder" "coder" "B" (.int (1 : Int32))) (Pr7 : Fld Z h0 z "java/lang/AbstractStringBuilder" "count" "I" (.int (Int32.ofNat (cs).length))) (Pr8 : Fld Z h0 z "java/lang/AbstractStringBuilder" "maybeLatin1" "Z" (.int (0 : Int32))) (Pr9 : Arv Z h0 d kd .byte (Int32.ofNat (2 * cap)) (enc16 cs) (.int (0 : Int32))) (Pr10 : Exa Z h0 d "[B") (Pr11 : (cs).length ≤ cap) (Pr12 : cap ≤ 2 * (cs).length + 3) (Pr13 : d ≠ x) (Pr14 : (cs).length ≤ 18) (Pr15 : ∀ z_ ∈ cs, ¬ z_ < 0 ∧ ¬ (65535 : Int32) < z_) : Met l Z consts_1 (⟨"java/lang/String", "<init>", "(Ljava/lang/StringBuilder;)V"⟩ : MethodName) jdk_42_method_53_code 2 (none) [] RrmGt1_1 [x] #[(.ref x), (.ref z)] h0 (QrmGt1_1 Z x z d kd cap cs h0) := by
  have ⟨hw, hEL, O2, P5, O4, P6, OA, OH, OB⟩ := hcx
  refine Met.start (a0 := a0) (Ls := #[vR x, vR z]) pn29 hEL O0 (fun m => by first | (simp [entryFrame, mkF, argsToLocals, Value.category]; done) | rfl) ?_
  intro p e s m below meth cc T0 vm0 X0 sf0_ D hml hret hnm hx zz A0
  have l1 := ltA Pr0.lt
  have l2 := ltA Pr4.lt
  have l3 := ltA Pr9.lt
  have l4 := neA Pr13
  have s5 := sf0_ x (memI (i := 0) rfl)
  refine Gets.via (fun _ k => (XS.aloadN A0 hx rfl (D d29_0) rfl rfl (XS.aloadN A0 hx rfl (D d29_1) rfl rfl (XS.aconstNull A0 hx rfl (D d29_2) k)))) ?_
  refine X0.callI (y := (⟨"java/lang/String", "<init>", "(Ljava/lang/AbstractStringBuilder;Ljava/lang/Void;)V"⟩ : MethodName)) (W := 0) rfl (w161 hw) (w162 hw) (w163 hw) (by decide) (X0.payM (sf := [x]) (rmGt4_1 hcx x z d kd cap cs h0 X0.old Pr0 Pr1 Pr2 Pr3 Pr4 Pr5 Pr6 Pr7 Pr8 Pr9 Pr10 Pr11 Pr12 Pr13 Pr14 Pr15) (sfS s5 sf0) (w163 hw) (w7 hw)) rfl (sz hml rfl) (a := x) (argsL := [(.ref z), .null]) (rest := []) (lenOf pd29 rfl) rfl rfl (mroom rfl rfl) (D d29_3) (by decide) (by decide) fun T6 h6 vm6 v6 X6 C6 z6 q6 => ?_
  obtain ⟨t6, kt6, rfl, K6, g6_0⟩ := q6
  have l7 := ltA g6_0.lt
  have l8 := ltA g6_0.lb
  exact X6.retV hret (D d29_6) (by decide) (by decide) (fun vmE CE => ⟨t6, kt6, rfl, ((Keep.refl h0 [x]).trans K6 (allS (Or.inl (memI (i := 0) rfl)) all0)), g6_0⟩)
abbrev RrmApA : Room := { frames := 8, cells := 1, slots := 100, locals := 119 }
def QrmApA (Z : State) (x : Addr) (s1 : Addr) (d : Addr) (kd : ClassId) (cs : List Int32) (b : Addr) (kb : ClassId) (ds : List Int32) (h0 : Heap) (v : Option Value) (vm : Vm) (h : Heap) : Prop := ∃ (d2 : Addr) (kd2 : ClassId), v = some (.ref x) ∧ Keep h0 h [x, d] ∧ SbA Z h x d2 kd2 (cs ++ ds) ∧ Safe Z consts_1 vm h d2 ∧ Z.heap.size ≤ d2 ∧ x ≠ d2 ∧ (d2 = d ∨ h0.size ≤ d2)
theorem rmApA (hcx : Cx Z a0 zc fm) (x : Addr) (s1 : Addr) (d : Addr) (kd : ClassId) (cs : List Int32) (b : Addr) (kb : ClassId) (ds : List Int32) (h0 : Heap) (O0 : Old Z Z.heap.size h0) (Pr0 : SbA Z h0 x d kd cs) (Pr1 : Str Z h0 s1 b kb ds) (Pr2 : (cs).length + (ds).length ≤ 18) (Pr3 : Z.heap.size ≤ x) (Pr4 : Z.heap.size ≤ d) (Pr5 : x ≠ d) (Pr6 : b ≠ d) (Pr7 : b ≠ x) (Pr8 : s1 ≠ x) (Pr9 : s1 ≠ d) : Met l Z consts_1 (⟨"java/lang/StringBuilder", "append", "(Ljava/lang/String;)Ljava/lang/StringBuilder;"⟩ : MethodName) jdk_67_method_7_code 2 (some (.object "java/lang/StringBuilder")) [] RrmApA [d] #[(.ref x), (.ref s1)] h0 (QrmApA Z x s1 d kd cs b kb ds h0) := by
  have ⟨hw, hEL, O2, P5, O4, P6, OA, OH, OB⟩ := hcx
  refine Met.start (a0 := a0) (Ls := #[vR x, vR s1]) pn17 hEL O0 (fun m => by first | (simp [entryFrame, mkF, argsToLocals, Value.category]; done) | rfl) ?_
  intro p e s m below meth cc T0 vm0 X0 sf0_ D hml hret hnm hx zz A0
  have l1 := ltA Pr0.lt
  have l2 := ltA Pr0.lb
  have l3 := ltA Pr1.lt
  have l4 := ltA Pr1.lb
  have l5 := neA Pr5
  have l6 := neA Pr6
  have l7 := neA Pr7
  have l8 := neA Pr8
  have l9 := neA Pr9
  have s10 := sf0_ d (memI (i := 0) rfl)
  rcases Pr0 with ⟨cp, y0, y1, y2, y3, y4, y5, y6, y7, y8, y9⟩ | ⟨cp, y0, y1, y2, y3, y4, y5, y6, y7, y8, y9⟩
  · skip
    refine Gets.via (fun _ k => (XS.aloadN A0 hx rfl (D d17_0) rfl rfl (XS.aloadN A0 hx rfl (D d17_1) rfl rfl k))) ?_
    refine X0.callU (W := 0) (by decide) (w96 hw) (same_self (w97 hw) (w107 hw) rfl (by decide)) (w97 hw) (w98 hw) (w100 hw) (X0.payM (sf := [d]) (rmGaa0 hcx x s1 d kd cp cs b kb ds h0 X0.old y0 y1 y2 y3 y4 y5 y6 y7 y8 Pr1 Pr2 Pr3 Pr4 Pr5 Pr6 Pr7 Pr8 Pr9) (sfS s10 sf0) (w100 hw) (w58 hw)) y0 rfl (sz hml rfl) (argsL := [(.ref s1)]) (rest := []) (lenOf pd30 rfl) rfl rfl (mroom rfl rfl) (D d17_2) (by decide) (by decide) fun T11 h11 vm11 v11 X11 C11 z11 q11 => ?_
    obtain ⟨d211, kd211, cap211, rfl, K11, g11_0, g11_1, g11_2, g11_3, g11_4, g11_5, g11_6, g11_7, g11_8, g11_9, g11_10, g11_11, g11_12⟩ := q11
    have l12 := ltA g11_0.lt
    have l13 := ltA g11_5.lt
    have l14 := neA g11_11
    have l15 := orA g11_12
    have u16 : ∀ z_ ∈ (cs ++ ds), ¬ z_ < 0 ∧ ¬ (255 : Int32) < z_ := allA y9 Pr1.2.2.2.2.1
    have f17 : SbA Z h11 x d211 kd211 (cs ++ ds) := Or.inl ⟨cap211, g11_0, g11_1, g11_2, g11_3, g11_4, g11_5, g11_6, g11_8, g11_9, u16⟩
    have A18 := X11.at
    refine Gets.via (fun _ k => (XS.pop A18 hx rfl (D d17_5) rfl rfl (XS.aloadN A18 hx rfl (D d17_6) rfl rfl k))) ?_
    exact X11.retA hret rfl rfl rfl (D d17_7) (by decide) (by decide) (fun vmE CE => ⟨d211, kd211, rfl, ((Keep.refl h0 [x, d]).trans K11 (allS (Or.inl (memI (i := 0) rfl)) (allS (Or.inl (memI (i := 1) rfl)) all0))), f17, CE.safe (x := d211) (ltA (by omega)) g11_7, g11_10, g11_11, g11_12⟩)
  · skip
    refine Gets.via (fun _ k => (XS.aloadN A0 hx rfl (D d17_0) rfl rfl (XS.aloadN A0 hx rfl (D d17_1) rfl rfl k))) ?_
    show Gets p e below _ (T0.setTop (mkF m 2 #[vR x, vR s1] [(.ref s1), (.ref x)]))
    refine X0.callU (W := 0) (by decide) (w96 hw) (same_self (w97 hw) (w107 hw) rfl (by decide)) (w97 hw) (w98 hw) (w100 hw) (X0.payM (sf := [d]) (rmGaa1 hcx x s1 d kd cp cs b kb ds h0 X0.old y0 y1 y2 y3 y4 y5 y6 y7 y8 Pr1 Pr2 Pr3 Pr4 Pr5 Pr6 Pr7 Pr8 Pr9) (sfS s10 sf0) (w100 hw) (w58 hw)) y0 rfl (sz hml rfl) (argsL := [(.ref s1)]) (rest := []) (lenOf pd30 rfl) rfl rfl (mroom rfl rfl) (D d17_2) (by decide) (by decide) fun T19 h19 vm19 v19 X19 C19 z19 q19 => ?_
    obtain ⟨d219, kd219, cap219, rfl, K19, g19_0, g19_1, g19_2, g19_3, g19_4, g19_5, g19_6, g19_7, g19_8, g19_9, g19_10, g19_11, g19_12⟩ := q19
    have l20 := ltA g19_0.lt
    have l21 := ltA g19_5.lt
    have l22 := neA g19_11
    have l23 := orA g19_12
    have u24 : ∀ z_ ∈ (cs ++ ds), ¬ z_ < 0 ∧ ¬ (65535 : Int32) < z_ := allA y9 (fun z q => wd16 (Pr1.2.2.2.2.1 z q))
    have f25 : SbA Z h19 x d219 kd219 (cs ++ ds) := Or.inr ⟨cap219, g19_0, g19_1, g19_2, g19_3, g19_4, g19_5, g19_6, g19_8, g19_9, u24⟩
    have A26 := X19.at
    refine Gets.via (fun _ k => (XS.pop A26 hx rfl (D d17_5) rfl rfl (XS.aloadN A26 hx rfl (D d17_6) rfl rfl k))) ?_
    exact X19.retA hret rfl rfl rfl (D d17_7) (by decide) (by decide) (fun vmE CE => ⟨d219, kd219, rfl, ((Keep.refl h0 [x, d]).trans K19 (allS (Or.inl (memI (i := 0) rfl)) (allS (Or.inl (memI (i := 1) rfl)) all0))), f25, CE.safe (x := d219) (ltA (by omega)) g19_7, g19_10, g19_11, g19_12⟩)
abbrev RrmApcA : Room := { frames := 7, cells := 2, slots := 200, locals := 102 }
def QrmApcA (Z : State) (x : Addr) (u : Int32) (d : Addr) (kd : ClassId) (cs : List Int32) (h0 : Heap) (v : Option Value) (vm : Vm) (h : Heap) : Prop := ∃ (d2 : Addr) (kd2 : ClassId), v = some (.ref x) ∧ Keep h0 h [x, d] ∧ SbA Z h x d2 kd2 (cs ++ [u]) ∧ Safe Z consts_1 vm h d2 ∧ Z.heap.size ≤ d2 ∧ x ≠ d2 ∧ (d2 = d ∨ h0.size ≤ d2)
theorem rmApcA (hcx : Cx Z a0 zc fm) (x : Addr) (u : Int32) (d : Addr) (kd : ClassId) (cs : List Int32) (h0 : Heap) (O0 : Old Z Z.heap.size h0) (Pr0 : SbA Z h0 x d kd cs) (Pr1 : (cs).length + 1 ≤ 18) (Pr2 : ¬ u < 0 ∧ ¬ (65535 : Int32) < u) (Pr3 : Z.heap.size ≤ x) (Pr4 : Z.heap.size ≤ d) (Pr5 : x ≠ d) : Met l Z consts_1 (⟨"java/lang/StringBuilder", "append", "(C)Ljava/lang/StringBuilder;"⟩ : MethodName) jdk_67_method_14_code 2 (some (.object "java/lang/StringBuilder")) [] RrmApcA [d] #[(.ref x), (.int u)] h0 (QrmApcA Z x u d kd cs h0) := by
  have ⟨hw, hEL, O2, P5, O4, P6, OA, OH, OB⟩ := hcx
  refine Met.start (a0 := a0) (Ls := #[vR x, vI u]) pn38 hEL O0 (fun m => by first | (simp [entryFrame, mkF, argsToLocals, Value.category]; done) | rfl) ?_
  intro p e s m below meth cc T0 vm0 X0 sf0_ D hml hret hnm hx zz A0
  have l1 := ltA Pr0.lt
  have l2 := ltA Pr0.lb
  have l3 := neA Pr5
  have s4 := sf0_ d (memI (i := 0) rfl)
  rcases Pr0 with ⟨cp, y0, y1, y2, y3, y4, y5, y6, y7, y8, y9⟩ | ⟨cp, y0, y1, y2, y3, y4, y5, y6, y7, y8, y9⟩
  · skip
    refine Gets.via (fun _ k => (XS.aloadN A0 hx rfl (D d38_0) rfl rfl (XS.iloadN A0 hx rfl (D d38_1) rfl k))) ?_
    rcases Classical.em ((255 : Int32) < u) with hw_ | hw_
    · skip
      refine X0.callU (W := 0) (by decide) (w210 hw) (same_self (w211 hw) (w107 hw) rfl (by decide)) (w211 hw) (w98 hw) (w213 hw) (X0.payM (sf := [d]) (rmGacW hcx x u d kd cp cs h0 X0.old y0 y1 y2 y3 y4 y5 y6 y7 y8 Pr1 Pr3 Pr4 Pr5 hw_ y9) (sfS s4 sf0) (w213 hw) (w58 hw)) y0 rfl (sz hml rfl) (argsL := [(.int u)]) (rest := []) (lenOf pd31 rfl) rfl rfl (mroom rfl rfl) (D d38_2) (by decide) (by decide) fun T5 h5 vm5 v5 X5 C5 z5 q5 => ?_
      obtain ⟨d25, kd25, cap25, rfl, K5, g5_0, g5_1, g5_2, g5_3, g5_4, g5_5, g5_6, g5_7, g5_8, g5_9, g5_10, g5_11, g5_12⟩ := q5
      have l6 := ltA g5_0.lt
      have l7 := ltA g5_5.lt
      have l8 := neA g5_11
      have l9 := orA g5_12
      have u10 : ∀ z_ ∈ (cs ++ [u]), ¬ z_ < 0 ∧ ¬ (65535 : Int32) < z_ := allA (fun z q => wd16 (y9 z q)) (allI Pr2 allN)
      have f11 : SbA Z h5 x d25 kd25 (cs ++ [u]) := Or.inr ⟨cap25, g5_0, g5_1, g5_2, g5_3, g5_4, g5_5, g5_6, g5_8, g5_9, u10⟩
      have A12 := X5.at
      refine Gets.via (fun _ k => (XS.pop A12 hx rfl (D d38_5) rfl rfl (XS.aloadN A12 hx rfl (D d38_6) rfl rfl k))) ?_
      exact X5.retA hret rfl rfl rfl (D d38_7) (by decide) (by decide) (fun vmE CE => ⟨d25, kd25, rfl, ((Keep.refl h0 [x, d]).trans K5 (allS (Or.inl (memI (i := 0) rfl)) (allS (Or.inl (memI (i := 1) rfl)) all0))), f11, CE.safe (x := d25) (ltA (by omega)) g5_7, g5_10, g5_11, g5_12⟩)
    · have hl : ¬ u < 0 ∧ ¬ (255 : Int32) < u := ⟨Pr2.1, hw_⟩
      refine X0.callU (W := 0) (by decide) (w210 hw) (same_self (w211 hw) (w107 hw) rfl (by decide)) (w211 hw) (w98 hw) (w213 hw) (X0.payM (sf := [d]) (rmGacL hcx x u d kd cp cs h0 X0.old y0 y1 y2 y3 y4 y5 y6 y7 y8 Pr1 Pr3 Pr4 Pr5 hl) (sfS s4 sf0) (w213 hw) (w58 hw)) y0 rfl (sz hml rfl) (argsL := [(.int u)]) (rest := []) (lenOf pd31 rfl) rfl rfl (mroom rfl rfl) (D d38_2) (by decide) (by decide) fun T13 h13 vm13 v13 X13 C13 z13 q13 => ?_
      obtain ⟨d213, kd213, cap213, rfl, K13, g13_0, g13_1, g13_2, g13_3, g13_4, g13_5, g13_6, g13_7, g13_8, g13_9, g13_10, g13_11, g13_12⟩ := q13
      have l14 := ltA g13_0.lt
      have l15 := ltA g13_5.lt
      have l16 := neA g13_11
      have l17 := orA g13_12
      show Gets p e below _ (T13.setTop (mkF m 5 #[vR x, vI u] [(.ref x)]))
      have u18 : ∀ z_ ∈ (cs ++ [u]), ¬ z_ < 0 ∧ ¬ (255 : Int32) < z_ := allA y9 (allI hl allN)
      have f19 : SbA Z h13 x d213 kd213 (cs ++ [u]) := Or.inl ⟨cap213, g13_0, g13_1, g13_2, g13_3, g13_4, g13_5, g13_6, g13_8, g13_9, u18⟩
      have A20 := X13.at
      refine Gets.via (fun _ k => (XS.pop A20 hx rfl (D d38_5) rfl rfl (XS.aloadN A20 hx rfl (D d38_6) rfl rfl k))) ?_
      exact X13.retA hret rfl rfl rfl (D d38_7) (by decide) (by decide) (fun vmE CE => ⟨d213, kd213, rfl, ((Keep.refl h0 [x, d]).trans K13 (allS (Or.inl (memI (i := 0) rfl)) (allS (Or.inl (memI (i := 1) rfl)) all0))), f19, CE.safe (x := d213) (ltA (by omega)) g13_7, g13_10, g13_11, g13_12⟩)
  · skip
    refine Gets.via (fun _ k => (XS.aloadN A0 hx rfl (D d38_0) rfl rfl (XS.iloadN A0 hx rfl (D d38_1) rfl k))) ?_
    refine X0.callU (W := 0) (by decide) (w210 hw) (same_self (w211 hw) (w107 hw) rfl (by decide)) (w211 hw) (w98 hw) (w213 hw) (X0.payM (sf := [d]) (rmGacU hcx x u d kd cp cs h0 X0.old y0 y1 y2 y3 y4 y5 y6 y7 y8 Pr1 Pr3 Pr4 Pr5) (sfS s4 sf0) (w213 hw) (w58 hw)) y0 rfl (sz hml rfl) (argsL := [(.int u)]) (rest := []) (lenOf pd31 rfl) rfl rfl (mroom rfl rfl) (D d38_2) (by decide) (by decide) fun T21 h21 vm21 v21 X21 C21 z21 q21 => ?_
    obtain ⟨d221, kd221, cap221, rfl, K21, g21_0, g21_1, g21_2, g21_3, g21_4, g21_5, g21_6, g21_7, g21_8, g21_9, g21_10, g21_11, g21_12⟩ := q21
    have l22 := ltA g21_0.lt
    have l23 := ltA g21_5.lt
    have l24 := neA g21_11
    have l25 := orA g21_12
    have u26 : ∀ z_ ∈ (cs ++ [u]), ¬ z_ < 0 ∧ ¬ (65535 : Int32) < z_ := allA y9 (allI Pr2 allN)
    have f27 : SbA Z h21 x d221 kd221 (cs ++ [u]) := Or.inr ⟨cap221, g21_0, g21_1, g21_2, g21_3, g21_4, g21_5, g21_6, g21_8, g21_9, u26⟩
    have A28 := X21.at
    refine Gets.via (fun _ k => (XS.pop A28 hx rfl (D d38_5) rfl rfl (XS.aloadN A28 hx rfl (D d38_6) rfl rfl k))) ?_
    exact X21.retA hret rfl rfl rfl (D d38_7) (by decide) (by decide) (fun vmE CE => ⟨d221, kd221, rfl, ((Keep.refl h0 [x, d]).trans K21 (allS (Or.inl (memI (i := 0) rfl)) (allS (Or.inl (memI (i := 1) rfl)) all0))), f27, CE.safe (x := d221) (ltA (by omega)) g21_7, g21_10, g21_11, g21_12⟩)
abbrev RrmTsA : Room := { frames := 5, cells := 2, slots := 44, locals := 83 }
def QrmTsA (Z : State) (z : Addr) (d : Addr) (kd : ClassId) (cs : List Int32) (h0 : Heap) (v : Option Value) (vm : Vm) (h : Heap) : Prop := ∃ (a : Addr), v = some (.ref a) ∧ Keep h0 h [] ∧ Any Z h a cs
theorem rmTsA (hcx : Cx Z a0 zc fm) (z : Addr) (d : Addr) (kd : ClassId) (cs : List Int32) (h0 : Heap) (O0 : Old Z Z.heap.size h0) (Pr0 : SbA Z h0 z d kd cs) (Pr1 : (cs).length ≤ 18) : Met l Z consts_1 (⟨"java/lang/StringBuilder", "toString", "()Ljava/lang/String;"⟩ : MethodName) jdk_67_method_42_code 1 (some (.object "java/lang/String")) [] RrmTsA [] #[(.ref z)] h0 (QrmTsA Z z d kd cs h0) := by
  have ⟨hw, hEL, O2, P5, O4, P6, OA, OH, OB⟩ := hcx
  refine Met.start (a0 := a0) (Ls := #[vR z]) pn28 hEL O0 (fun m => by first | (simp [entryFrame, mkF, argsToLocals, Value.category]; done) | rfl) ?_
  intro p e s m below meth cc T0 vm0 X0 sf0_ D hml hret hnm hx zz A0
  have l1 := ltA Pr0.lt
  have l2 := ltA Pr0.lb
  rcases Pr0 with ⟨cp, y0, y1, y2, y3, y4, y5, y6, y7, y8, y9⟩ | ⟨cp, y0, y1, y2, y3, y4, y5, y6, y7, y8, y9⟩
  · skip
    refine X0.new (w157 hw) (w6 hw) (w7 hw) rfl (D d28_0) (by decide) (by decide) fun T3 h3 a3 X3 C3 E3 g3 Z3 S3 D3 => ?_
    have z3 := E3.1
    have l3 := ltA Z3.lt
    have A4 := X3.at
    refine Gets.via (fun _ k => (XS.dup A4 hx rfl (D d28_3) rfl rfl (XS.aloadN A4 hx rfl (D d28_4) rfl rfl k))) ?_
    have f5 := y3.ext E3
    have f6 := y1.ext E3
    have f7 := y5.ext E3
    have f8 := y0.ext E3
    have f9 := y2.ext E3
    have f10 := y4.ext E3
    have f11 := y6.ext E3
    refine X3.callI (y := (⟨"java/lang/String", "<init>", "(Ljava/lang/StringBuilder;)V"⟩ : MethodName)) (W := 1) rfl (w158 hw) (w159 hw) (w160 hw) (by decide) (X3.payM (sf := [a3]) (rmGt1_0 hcx a3 z d kd cp cs h3 X3.old Z3 (D3 (Or.inr (w31 hw)) (ty := .byte) (by decide) : Fld Z h3 a3 "java/lang/String" "coder" "B" (.int (0 : Int32))) ((D3 (Or.inr (w33 hw)) (ty := (.array .byte)) (by decide) : Fld Z h3 a3 "java/lang/String" "value" "[B" .null)) (leA (by omega)) f8 f6 f9 f5 f10 f7 f11 y7 y8 (neA (by omega)) Pr1 y9) (sfS S3 sf0) (w160 hw) (w7 hw)) rfl (sz hml rfl) (a := a3) (argsL := [(.ref z)]) (rest := [(.ref a3)]) (lenOf pd32 rfl) rfl rfl (mroom rfl rfl) (D d28_5) (by decide) (by decide) fun T12 h12 vm12 v12 X12 C12 z12 q12 => ?_
    obtain ⟨t12, kt12, rfl, K12, g12_0⟩ := q12
    have l13 := ltA g12_0.lt
    have l14 := ltA g12_0.lb
    have f15 : Any Z h12 a3 cs := Or.inl ⟨_, _, g12_0⟩
    exact X12.retA hret rfl rfl rfl (D d28_8) (by decide) (by decide) (fun vmE CE => ⟨a3, rfl, (((Keep.refl h0 []).ext E3).trans K12 (allS (Or.inr (leA (by omega))) all0)), f15⟩)
  · skip
    refine X0.new (w157 hw) (w6 hw) (w7 hw) rfl (D d28_0) (by decide) (by decide) fun T16 h16 a16 X16 C16 E16 g16 Z16 S16 D16 => ?_
    have z16 := E16.1
    have l16 := ltA Z16.lt
    show Gets p e below _ (T16.setTop (mkF m 3 #[vR z] [(.ref a16)]))
    have A17 := X16.at
    refine Gets.via (fun _ k => (XS.dup A17 hx rfl (D d28_3) rfl rfl (XS.aloadN A17 hx rfl (D d28_4) rfl rfl k))) ?_
    have f18 := y3.ext E16
    have f19 := y1.ext E16
    have f20 := y5.ext E16
    have f21 := y0.ext E16
    have f22 := y2.ext E16
    have f23 := y4.ext E16
    have f24 := y6.ext E16
    refine X16.callI (y := (⟨"java/lang/String", "<init>", "(Ljava/lang/StringBuilder;)V"⟩ : MethodName)) (W := 1) rfl (w158 hw) (w159 hw) (w160 hw) (by decide) (X16.payM (sf := [a16]) (rmGt1_1 hcx a16 z d kd cp cs h16 X16.old Z16 (D16 (Or.inr (w31 hw)) (ty := .byte) (by decide) : Fld Z h16 a16 "java/lang/String" "coder" "B" (.int (0 : Int32))) ((D16 (Or.inr (w33 hw)) (ty := (.array .byte)) (by decide) : Fld Z h16 a16 "java/lang/String" "value" "[B" .null)) (leA (by omega)) f21 f19 f22 f18 f23 f20 f24 y7 y8 (neA (by omega)) Pr1 y9) (sfS S16 sf0) (w160 hw) (w7 hw)) rfl (sz hml rfl) (a := a16) (argsL := [(.ref z)]) (rest := [(.ref a16)]) (lenOf pd32 rfl) rfl rfl (mroom rfl rfl) (D d28_5) (by decide) (by decide) fun T25 h25 vm25 v25 X25 C25 z25 q25 => ?_
    obtain ⟨t25, kt25, rfl, K25, g25_0⟩ := q25
    have l26 := ltA g25_0.lt
    have l27 := ltA g25_0.lb
    have f28 : Any Z h25 a16 cs := Or.inr ⟨_, _, g25_0⟩
    exact X25.retA hret rfl rfl rfl (D d28_8) (by decide) (by decide) (fun vmE CE => ⟨a16, rfl, (((Keep.refl h0 []).ext E16).trans K25 (allS (Or.inr (leA (by omega))) all0)), f28⟩)
abbrev RrmIsU : Room := { frames := 0, cells := 0, slots := 0, locals := 0 }
def QrmIsU (Z : State) (x : Addr) (h0 : Heap) (v : Option Value) (vm : Vm) (h : Heap) : Prop := v = some (.int (0 : Int32)) ∧ h = h0
theorem rmIsU (hcx : Cx Z a0 zc fm) (x : Addr) (h0 : Heap) (O0 : Old Z Z.heap.size h0) (Pr0 : Exa Z h0 x "java/lang/String") (Pr1 : Fld Z h0 x "java/lang/String" "coder" "B" (.int (1 : Int32))) : Met l Z consts_1 (⟨"java/lang/String", "isLatin1", "()Z"⟩ : MethodName) jdk_42_method_154_code 1 (some .boolean) [] RrmIsU [] #[(.ref x)] h0 (QrmIsU Z x h0) := by
  have ⟨hw, hEL, O2, P5, O4, P6, OA, OH, OB⟩ := hcx
  refine Met.start (a0 := a0) (Ls := #[vR x]) pn13 hEL O0 (fun m => by first | (simp [entryFrame, mkF, argsToLocals, Value.category]; done) | rfl) ?_
  intro p e s m below meth cc T0 vm0 X0 sf0_ D hml hret hnm hx zz A0
  have l1 := ltA Pr0.lt
  refine X0.getS (host := "") (Or.inl (w18 hw)) Via.refl (X0.sta O2) rfl (D d13_0) fun T2 X2 => ?_
  have A3 := X2.at
  refine Gets.via (fun _ k => (XS.ifNo A3 hx rfl (D d13_3) rfl (Jvm.Free.XT.i0_eq_f P5) k)) ?_
  refine Gets.via (fun _ k => (XS.aloadN A3 hx rfl (D d13_6) rfl rfl k)) ?_
  refine X2.getF (host := "") (Or.inl (w30 hw)) Via.refl Pr1 rfl rfl (D d13_7) fun T4 X4 => ?_
  have A5 := X4.at
  refine Gets.via (fun _ k => (XS.ifYes A5 hx rfl (pc0 := 10) (pc' := 17) rfl (D d13_10) rfl (Jvm.Free.XT.i0_ne_t (by decide)) (by decide) (by decide) k)) ?_
  show Gets p e below _ (T4.setTop (mkF m 17 #[vR x] []))
  refine Gets.via (fun _ k => (XS.iconst A5 hx rfl (D d13_17) k)) ?_
  exact X4.retI hret (by decide) (by simp) (D d13_18) (by decide) (by decide) (fun vmE CE => ⟨rfl, rfl⟩)
abbrev RrmIsL : Room := { frames := 0, cells := 0, slots := 0, locals := 0 }
def QrmIsL (Z : State) (x : Addr) (h0 : Heap) (v : Option Value) (vm : Vm) (h : Heap) : Prop := v = some (.int (1 : Int32)) ∧ h = h0
theorem rmIsL (hcx : Cx Z a0 zc fm) (x : Addr) (h0 : Heap) (O0 : Old Z Z.heap.size h0) (Pr0 : Exa Z h0 x "java/lang/String") (Pr1 : Fld Z h0 x "java/lang/String" "coder" "B" (.int (0 : Int32))) : Met l Z consts_1 (⟨"java/lang/String", "isLatin1", "()Z"⟩ : MethodName) jdk_42_method_154_code 1 (some .boolean) [] RrmIsL [] #[(.ref x)] h0 (QrmIsL Z x h0) := by
  have ⟨hw, hEL, O2, P5, O4, P6, OA, OH, OB⟩ := hcx
  refine Met.start (a0 := a0) (Ls := #[vR x]) pn13 hEL O0 (fun m => by first | (simp [entryFrame, mkF, argsToLocals, Value.category]; done) | rfl) ?_
  intro p e s m below meth cc T0 vm0 X0 sf0_ D hml hret hnm hx zz A0
  have l1 := ltA Pr0.lt
  refine X0.getS (host := "") (Or.inl (w18 hw)) Via.refl (X0.sta O2) rfl (D d13_0) fun T2 X2 => ?_
  have A3 := X2.at
  refine Gets.via (fun _ k => (XS.ifNo A3 hx rfl (D d13_3) rfl (Jvm.Free.XT.i0_eq_f P5) k)) ?_
  refine Gets.via (fun _ k => (XS.aloadN A3 hx rfl (D d13_6) rfl rfl k)) ?_
  refine X2.getF (host := "") (Or.inl (w30 hw)) Via.refl Pr1 rfl rfl (D d13_7) fun T4 X4 => ?_
  have A5 := X4.at
  refine Gets.via (fun _ k => (XS.ifNo A5 hx rfl (D d13_10) rfl (Jvm.Free.XT.i0_ne_f (by decide)) k)) ?_
  show Gets p e below _ (T4.setTop (mkF m 13 #[vR x] []))
  refine Gets.via (fun _ k => (XS.iconst A5 hx rfl (D d13_13) (XS.goto A5 hx rfl (pc0 := 14) (pc' := 18) rfl (D d13_14) (by decide) (by decide) k))) ?_
  exact X4.retI hret (by decide) (by simp) (D d13_18) (by decide) (by decide) (fun vmE CE => ⟨rfl, rfl⟩)
abbrev RrmLch : Room := { frames := 2, cells := 0, slots := 0, locals := 27 }
def QrmLch (Z : State) (b : Addr) (i : Nat) (kb : ClassId) (cs : List Int32) (h0 : Heap) (v : Option Value) (vm : Vm) (h : Heap) : Prop := v = some (.int (cs.getD i 0)) ∧ h = h0
theorem rmLch (hcx : Cx Z a0 zc fm) (b : Addr) (i : Nat) (kb : ClassId) (cs : List Int32) (h0 : Heap) (O0 : Old Z Z.heap.size h0) (Pr0 : Arv Z h0 b kb .byte (Int32.ofNat (cs).length) ((cs.map fun c => c.toInt8.toInt32).map Value.int) (.int (0 : Int32))) (Pr1 : (cs).length ≤ 4000) (Pr2 : i < (cs).length) (Pr3 : ∀ z_ ∈ cs, ¬ z_ < 0 ∧ ¬ (255 : Int32) < z_) : Met l Z consts_1 (⟨"java/lang/StringLatin1", "charAt", "([BI)C"⟩ : MethodName) jdk_43_method_2_code 2 (some .char) [] RrmLch [] #[(.ref b), (.int (Int32.ofNat i))] h0 (QrmLch Z b i kb cs h0) := by
  have ⟨hw, hEL, O2, P5, O4, P6, OA, OH, OB⟩ := hcx
  refine Met.start (a0 := a0) (Ls := #[vR b, vI (Int32.ofNat i)]) pn14 hEL O0 (fun m => by first | (simp [entryFrame, mkF, argsToLocals, Value.category]; done) | rfl) ?_
  intro p e s m below meth cc T0 vm0 X0 sf0_ D hml hret hnm hx zz A0
  have l1 := ltA Pr0.lt
  have hr := mem_getD Pr2 Pr3
  have u2 : ¬ (Int32.ofNat i) < (0 : Int32) := of_pos (by omega)
  have u3 : (Int32.ofNat i) < (Int32.ofNat (cs).length) := of_lt (by omega) (by omega)
  refine Gets.via (fun _ k => (XS.iloadN A0 hx rfl (D d14_0) rfl (XS.aloadN A0 hx rfl (D d14_1) rfl rfl k))) ?_
  refine X0.alen Pr0 rfl rfl (D d14_2) ?_
  refine X0.callS (W := 0) (w80 hw) (w81 hw) (w7 hw) (w82 hw) (by decide) (X0.payM (sf := []) (rm15 hcx (Int32.ofNat i) (Int32.ofNat (cs).length) h0 X0.old u2 u3) sf0 (w82 hw) (w7 hw)) rfl (sz hml rfl) (argsL := [(.int (Int32.ofNat i)), (.int (Int32.ofNat (cs).length))]) (rest := []) (lenOf pd4 rfl) rfl rfl (mroom rfl rfl) (D d14_3) (by decide) (by decide) fun T4 h4 vm4 v4 X4 C4 z4 q4 => ?_
  obtain ⟨rfl, K4⟩ := q4
  rw [K4] at X4 C4
  have A5 := X4.at
  refine Gets.via (fun _ k => (XS.aloadN A5 hx rfl (D d14_6) rfl rfl (XS.iloadN A5 hx rfl (D d14_7) rfl k))) ?_
  show Gets p e below _ (T4.setTop (mkF m 8 #[vR b, vI (Int32.ofNat i)] [(.int (Int32.ofNat i)), (.ref b)]))
  refine X4.ldB Pr0 (j := (Int32.ofNat i)) (i := i) (of_pos (by omega)) (toN (by omega)) (by rw [toN (by omega)]; exact Pr2) (v := (.int ((cs.getD i 0).toInt8.toInt32))) (by_get Pr2) rfl rfl (D d14_8) ?_
  refine Gets.via (fun _ k => (XS.sipush A5 hx rfl (D d14_9) (XS.iand A5 hx rfl (D d14_12) rfl (i2cV A5 hx rfl (D d14_13) rfl (v := (cs.getD i 0)) (StrChars.chr8_lo8 hr.1 hr.2) k)))) ?_
  exact X4.retI hret (nar_small hr) (by simp) (D d14_14) (by decide) (by decide) (fun vmE CE => ⟨rfl, rfl⟩)
abbrev RrmUch : Room := { frames := 3, cells := 0, slots := 0, locals := 40 }
def QrmUch (Z : State) (b : Addr) (i : Nat) (kb : ClassId) (cs : List Int32) (h0 : Heap) (v : Option Value) (vm : Vm) (h : Heap) : Prop := v = some (.int (cs.getD i 0)) ∧ h = h0
theorem rmUch (hcx : Cx Z a0 zc fm) (b : Addr) (i : Nat) (kb : ClassId) (cs : List Int32) (h0 : Heap) (O0 : Old Z Z.heap.size h0) (Pr0 : Arv Z h0 b kb .byte (Int32.ofNat (2 * (cs).length)) (enc16 cs) (.int (0 : Int32))) (Pr1 : (cs).length ≤ 2000) (Pr2 : i < (cs).length) (Pr3 : ∀ z_ ∈ cs, ¬ z_ < 0 ∧ ¬ (65535 : Int32) < z_) : Met l Z consts_1 (⟨"java/lang/StringUTF16", "charAt", "([BI)C"⟩ : MethodName) jdk_52_method_83_code 2 (some .char) [] RrmUch [] #[(.ref b), (.int (Int32.ofNat i))] h0 (QrmUch Z b i kb cs h0) := by
  have ⟨hw, hEL, O2, P5, O4, P6, OA, OH, OB⟩ := hcx
  refine Met.start (a0 := a0) (Ls := #[vR b, vI (Int32.ofNat i)]) pn52 hEL O0 (fun m => by first | (simp [entryFrame, mkF, argsToLocals, Value.category]; done) | rfl) ?_
  intro p e s m below meth cc T0 vm0 X0 sf0_ D hml hret hnm hx zz A0
  have l1 := ltA Pr0.lt
  refine Gets.via (fun _ k => (XS.iloadN A0 hx rfl (D d52_0) rfl (XS.aloadN A0 hx rfl (D d52_1) rfl rfl k))) ?_
  refine X0.callS (W := 0) (w264 hw) (w265 hw) (w21 hw) (w266 hw) (by decide) (X0.payM (sf := []) (rmUChk hcx i b kb ((cs).length) (enc16 cs) h0 X0.old Pr0 Pr1 Pr2) sf0 (w266 hw) (w21 hw)) rfl (sz hml rfl) (argsL := [(.int (Int32.ofNat i)), (.ref b)]) (rest := []) (lenOf pd25 rfl) rfl rfl (mroom rfl rfl) (D d52_2) (by decide) (by decide) fun T2 h2 vm2 v2 X2 C2 z2 q2 => ?_
  obtain ⟨rfl, K2⟩ := q2
  rw [K2] at X2 C2
  have A3 := X2.at
  refine Gets.via (fun _ k => (XS.aloadN A3 hx rfl (D d52_5) rfl rfl (XS.iloadN A3 hx rfl (D d52_6) rfl k))) ?_
  refine X2.callS (W := 0) (w258 hw) (w259 hw) (w21 hw) (w260 hw) (by decide) (X2.payM (sf := []) (rmGetC hcx b i kb (Int32.ofNat (2 * (cs).length)) (2 * (cs).length) cs h0 X2.old Pr0 (toN (by omega)) (by omega) (by omega) Pr2 Pr3) sf0 (w260 hw) (w21 hw)) rfl (sz hml rfl) (argsL := [(.ref b), (.int (Int32.ofNat i))]) (rest := []) (lenOf pd10 rfl) rfl rfl (mroom rfl rfl) (D d52_7) (by decide) (by decide) fun T4 h4 vm4 v4 X4 C4 z4 q4 => ?_
  obtain ⟨rfl, K4⟩ := q4
  rw [K4] at X4 C4
  show Gets p e below _ (T4.setTop (mkF m 10 #[vR b, vI (Int32.ofNat i)] [(.int (cs.getD i 0))]))
  exact X4.retI hret (nar16 (mem_getD Pr2 Pr3)) (by simp) (D d52_10) (by decide) (by decide) (fun vmE CE => ⟨rfl, rfl⟩)
abbrev RrmChA : Room := { frames := 4, cells := 0, slots := 0, locals := 53 }
def QrmChA (Z : State) (x : Addr) (j : Int32) (i : Nat) (cs : List Int32) (h0 : Heap) (v : Option Value) (vm : Vm) (h : Heap) : Prop := v = some (.int (cs.getD i 0)) ∧ h = h0
theorem rmChA (hcx : Cx Z a0 zc fm) (x : Addr) (j : Int32) (i : Nat) (cs : List Int32) (h0 : Heap) (O0 : Old Z Z.heap.size h0) (Pr0 : Any Z h0 x cs) (Pr1 : j = Int32.ofNat i) (Pr2 : i < (cs).length) : Met l Z consts_1 (⟨"java/lang/String", "charAt", "(I)C"⟩ : MethodName) jdk_42_method_56_code 2 (some .char) [] RrmChA [] #[(.ref x), (.int j)] h0 (QrmChA Z x j i cs h0) := by
  have ⟨hw, hEL, O2, P5, O4, P6, OA, OH, OB⟩ := hcx
  refine Met.start (a0 := a0) (Ls := #[vR x, vI j]) pn12 hEL O0 (fun m => by first | (simp [entryFrame, mkF, argsToLocals, Value.category]; done) | rfl) ?_
  intro p e s m below meth cc T0 vm0 X0 sf0_ D hml hret hnm hx zz A0
  have l1 := ltA Pr0.lt
  subst Pr1
  rcases Pr0 with ⟨bb, kk, S⟩ | ⟨bb, kk, S⟩
  · skip
    have l2 := ltA S.lt
    have l3 := ltA S.lb
    have l4 := S.2.2.2.2.2
    refine Gets.via (fun _ k => (XS.aloadN A0 hx rfl (D d12_0) rfl rfl k)) ?_
    refine X0.callV (W := 0) (w71 hw) (w72 hw) (w74 hw) (w73 hw) (nfs rfl (w74 hw)) (by decide) (X0.payM (sf := []) (rmIsL hcx x h0 X0.old S.1 S.2.1) sf0 (w75 hw) (w7 hw)) S.1 rfl (sz hml rfl) (argsL := []) (rest := []) (lenOf pd18 rfl) rfl rfl (mroom rfl rfl) (D d12_1) (by decide) (by decide) fun T4 h4 vm4 v4 X4 C4 z4 q4 => ?_
    obtain ⟨rfl, K4⟩ := q4
    rw [K4] at X4 C4
    have A5 := X4.at
    refine Gets.via (fun _ k => (XS.ifNo A5 hx rfl (D d12_4) rfl (Jvm.Free.XT.i0_eq_f (by decide)) k)) ?_
    refine Gets.via (fun _ k => (XS.aloadN A5 hx rfl (D d12_7) rfl rfl k)) ?_
    refine X4.getF (host := "") (Or.inl (w32 hw)) Via.refl S.2.2.1 rfl rfl (D d12_8) fun T6 X6 => ?_
    show Gets p e below _ (T6.setTop (mkF m 11 #[vR x, vI (Int32.ofNat i)] [(.ref bb)]))
    have A7 := X6.at
    refine Gets.via (fun _ k => (XS.iloadN A7 hx rfl (D d12_11) rfl k)) ?_
    refine X6.callS (W := 0) (w76 hw) (w77 hw) (w78 hw) (w79 hw) (by decide) (X6.payM (sf := []) (rmLch hcx bb i kk cs h0 X6.old S.2.2.2.1 l4 Pr2 S.2.2.2.2.1) sf0 (w79 hw) (w78 hw)) rfl (sz hml rfl) (argsL := [(.ref bb), (.int (Int32.ofNat i))]) (rest := []) (lenOf pd10 rfl) rfl rfl (mroom rfl rfl) (D d12_12) (by decide) (by decide) fun T8 h8 vm8 v8 X8 C8 z8 q8 => ?_
    obtain ⟨rfl, K8⟩ := q8
    rw [K8] at X8 C8
    exact X8.retI hret (nar16 (wd16 (mem_getD Pr2 S.2.2.2.2.1))) (by simp) (D d12_15) (by decide) (by decide) (fun vmE CE => ⟨rfl, rfl⟩)
  · skip
    have l9 := ltA S.lt
    have l10 := ltA S.lb
    have l4 := S.2.2.2.2.2
    refine Gets.via (fun _ k => (XS.aloadN A0 hx rfl (D d12_0) rfl rfl k)) ?_
    refine X0.callV (W := 0) (w71 hw) (w72 hw) (w74 hw) (w73 hw) (nfs rfl (w74 hw)) (by decide) (X0.payM (sf := []) (rmIsU hcx x h0 X0.old S.1 S.2.1) sf0 (w75 hw) (w7 hw)) S.1 rfl (sz hml rfl) (argsL := []) (rest := []) (lenOf pd18 rfl) rfl rfl (mroom rfl rfl) (D d12_1) (by decide) (by decide) fun T11 h11 vm11 v11 X11 C11 z11 q11 => ?_
    obtain ⟨rfl, K11⟩ := q11
    rw [K11] at X11 C11
    have A12 := X11.at
    refine Gets.via (fun _ k => (XS.ifYes A12 hx rfl (pc0 := 4) (pc' := 16) rfl (D d12_4) rfl (Jvm.Free.XT.i0_eq_t (by decide)) (by decide) (by decide) k)) ?_
    refine Gets.via (fun _ k => (XS.aloadN A12 hx rfl (D d12_16) rfl rfl k)) ?_
    refine X11.getF (host := "") (Or.inl (w32 hw)) Via.refl S.2.2.1 rfl rfl (D d12_17) fun T13 X13 => ?_
    show Gets p e below _ (T13.setTop (mkF m 20 #[vR x, vI (Int32.ofNat i)] [(.ref bb)]))
    have A14 := X13.at
    refine Gets.via (fun _ k => (XS.iloadN A14 hx rfl (D d12_20) rfl k)) ?_
    refine X13.callS (W := 0) (w261 hw) (w262 hw) (w21 hw) (w263 hw) (by decide) (X13.payM (sf := []) (rmUch hcx bb i kk cs h0 X13.old S.2.2.2.1 l4 Pr2 S.2.2.2.2.1) sf0 (w263 hw) (w21 hw)) rfl (sz hml rfl) (argsL := [(.ref bb), (.int (Int32.ofNat i))]) (rest := []) (lenOf pd10 rfl) rfl rfl (mroom rfl rfl) (D d12_21) (by decide) (by decide) fun T15 h15 vm15 v15 X15 C15 z15 q15 => ?_
    obtain ⟨rfl, K15⟩ := q15
    rw [K15] at X15 C15
    exact X15.retI hret (nar16 (mem_getD Pr2 S.2.2.2.2.1)) (by simp) (D d12_24) (by decide) (by decide) (fun vmE CE => ⟨rfl, rfl⟩)
abbrev RrmLenA : Room := { frames := 1, cells := 0, slots := 0, locals := 13 }
def QrmLenA (Z : State) (x : Addr) (cs : List Int32) (h0 : Heap) (v : Option Value) (vm : Vm) (h : Heap) : Prop := v = some (.int (Int32.ofNat (cs).length)) ∧ h = h0
theorem rmLenA (hcx : Cx Z a0 zc fm) (x : Addr) (cs : List Int32) (h0 : Heap) (O0 : Old Z Z.heap.size h0) (Pr0 : Any Z h0 x cs) : Met l Z consts_1 (⟨"java/lang/String", "length", "()I"⟩ : MethodName) jdk_42_method_54_code 1 (some .int) [] RrmLenA [] #[(.ref x)] h0 (QrmLenA Z x cs h0) := by
  have ⟨hw, hEL, O2, P5, O4, P6, OA, OH, OB⟩ := hcx
  refine Met.start (a0 := a0) (Ls := #[vR x]) pn8 hEL O0 (fun m => by first | (simp [entryFrame, mkF, argsToLocals, Value.category]; done) | rfl) ?_
  intro p e s m below meth cc T0 vm0 X0 sf0_ D hml hret hnm hx zz A0
  have l1 := ltA Pr0.lt
  rcases Pr0 with ⟨bb, kk, S⟩ | ⟨bb, kk, S⟩
  · skip
    have l2 := ltA S.lt
    have l3 := ltA S.lb
    have l4 := S.2.2.2.2.2
    refine Gets.via (fun _ k => (XS.aloadN A0 hx rfl (D d8_0) rfl rfl k)) ?_
    refine X0.getF (host := "") (Or.inl (w32 hw)) Via.refl S.2.2.1 rfl rfl (D d8_1) fun T4 X4 => ?_
    refine X4.alen S.2.2.2.1 rfl rfl (D d8_4) ?_
    have A5 := X4.at
    refine Gets.via (fun _ k => (XS.aloadN A5 hx rfl (D d8_5) rfl rfl k)) ?_
    refine X4.callV (W := 1) (w46 hw) (w47 hw) (w49 hw) (w48 hw) (nfs rfl (w49 hw)) (by decide) (X4.payM (sf := []) (rmCoder0 hcx x h0 X4.old S.1 S.2.1) sf0 (w50 hw) (w7 hw)) S.1 rfl (sz hml rfl) (argsL := []) (rest := [(.int (Int32.ofNat (cs).length))]) (lenOf pd1 rfl) rfl rfl (mroom rfl rfl) (D d8_6) (by decide) (by decide) fun T6 h6 vm6 v6 X6 C6 z6 q6 => ?_
    obtain ⟨rfl, K6⟩ := q6
    rw [K6] at X6 C6
    show Gets p e below _ (T6.setTop (mkF m 9 #[vR x] [(.int (0 : Int32)), (.int (Int32.ofNat (cs).length))]))
    have A7 := X6.at
    refine Gets.via (fun _ k => (ishrV A7 hx rfl (D d8_9) rfl (v := (Int32.ofNat (cs).length)) (shr0 _) k)) ?_
    exact X6.retI hret rfl (by simp) (D d8_10) (by decide) (by decide) (fun vmE CE => ⟨rfl, rfl⟩)
  · skip
    have l8 := ltA S.lt
    have l9 := ltA S.lb
    have l4 := S.2.2.2.2.2
    refine Gets.via (fun _ k => (XS.aloadN A0 hx rfl (D d8_0) rfl rfl k)) ?_
    refine X0.getF (host := "") (Or.inl (w32 hw)) Via.refl S.2.2.1 rfl rfl (D d8_1) fun T10 X10 => ?_
    refine X10.alen S.2.2.2.1 rfl rfl (D d8_4) ?_
    have A11 := X10.at
    refine Gets.via (fun _ k => (XS.aloadN A11 hx rfl (D d8_5) rfl rfl k)) ?_
    refine X10.callV (W := 1) (w46 hw) (w47 hw) (w49 hw) (w48 hw) (nfs rfl (w49 hw)) (by decide) (X10.payM (sf := []) (rmCoder1 hcx x h0 X10.old S.1 S.2.1) sf0 (w50 hw) (w7 hw)) S.1 rfl (sz hml rfl) (argsL := []) (rest := [(.int (Int32.ofNat (2 * (cs).length)))]) (lenOf pd1 rfl) rfl rfl (mroom rfl rfl) (D d8_6) (by decide) (by decide) fun T12 h12 vm12 v12 X12 C12 z12 q12 => ?_
    obtain ⟨rfl, K12⟩ := q12
    rw [K12] at X12 C12
    show Gets p e below _ (T12.setTop (mkF m 9 #[vR x] [(.int (1 : Int32)), (.int (Int32.ofNat (2 * (cs).length)))]))
    have A13 := X12.at
    refine Gets.via (fun _ k => (ishrV A13 hx rfl (D d8_9) rfl (v := (Int32.ofNat (cs).length)) (shr1 (by omega)) k)) ?_
    exact X12.retI hret rfl (by simp) (D d8_10) (by decide) (by decide) (fun vmE CE => ⟨rfl, rfl⟩)
abbrev RrmGi4 : Room := { frames := 1, cells := 1, slots := 3, locals := 12 }
def QrmGi4 (Z : State) (x : Addr) (n : Nat) (h0 : Heap) (v : Option Value) (vm : Vm) (h : Heap) : Prop := ∃ (d : Addr) (kd : ClassId), v = none ∧ Keep h0 h [x] ∧ Exa Z h x "java/lang/StringBuilder" ∧ Fld Z h x "java/lang/AbstractStringBuilder" "value" "[B" (.ref d) ∧ Fld Z h x "java/lang/AbstractStringBuilder" "coder" "B" (.int (0 : Int32)) ∧ Fld Z h x "java/lang/AbstractStringBuilder" "count" "I" (.int (Int32.ofNat (([] : List Int32)).length)) ∧ Fld Z h x "java/lang/AbstractStringBuilder" "maybeLatin1" "Z" (.int (0 : Int32)) ∧ Arv Z h d kd .byte (Int32.ofNat n) ((([] : List Int32).map fun c => c.toInt8.toInt32).map Value.int) (.int (0 : Int32)) ∧ Exa Z h d "[B" ∧ Safe Z consts_1 vm h d ∧ h0.size ≤ d
theorem rmGi4 (hcx : Cx Z a0 zc fm) (x : Addr) (n : Nat) (h0 : Heap) (O0 : Old Z Z.heap.size h0) (Pr0 : Exa Z h0 x "java/lang/StringBuilder") (Pr1 : Fld Z h0 x "java/lang/AbstractStringBuilder" "value" "[B" .null) (Pr2 : Fld Z h0 x "java/lang/AbstractStringBuilder" "coder" "B" (.int (0 : Int32))) (Pr3 : Fld Z h0 x "java/lang/AbstractStringBuilder" "count" "I" (.int (0 : Int32))) (Pr4 : Fld Z h0 x "java/lang/AbstractStringBuilder" "maybeLatin1" "Z" (.int (0 : Int32))) (Pr5 : Z.heap.size ≤ x) (Pr6 : n ≤ 3) : Met l Z consts_1 (⟨"java/lang/AbstractStringBuilder", "<init>", "(I)V"⟩ : MethodName) jdk_68_method_2_code 2 (none) [] RrmGi4 [] #[(.ref x), (.int (Int32.ofNat n))] h0 (QrmGi4 Z x n h0) := by
  have ⟨hw, hEL, O2, P5, O4, P6, OA, OH, OB⟩ := hcx
  refine Met.start (a0 := a0) (Ls := #[vR x, vI (Int32.ofNat n)]) pn11 hEL O0 (fun m => by first | (simp [entryFrame, mkF, argsToLocals, Value.category]; done) | rfl) ?_
  intro p e s m below meth cc T0 vm0 X0 sf0_ D hml hret hnm hx zz A0
  have l1 := ltA Pr0.lt
  refine Gets.via (fun _ k => (XS.aloadN A0 hx rfl (D d11_0) rfl rfl k)) ?_
  refine X0.objInit (w60 hw) (w16 hw) (w17 hw) rfl (sz hml rfl) rfl (D d11_1) (by decide) (W := 0) (mroom rfl rfl) (by decide) fun T2 X2 => ?_
  refine X2.getS (host := "") (Or.inl (w61 hw)) Via.refl (X2.sta O2) rfl (D d11_4) fun T3 X3 => ?_
  have A4 := X3.at
  refine Gets.via (fun _ k => (XS.ifNo A4 hx rfl (D d11_7) rfl (Jvm.Free.XT.i0_eq_f P5) k)) ?_
  refine Gets.via (fun _ k => (XS.aloadN A4 hx rfl (D d11_10) rfl rfl (XS.iloadN A4 hx rfl (D d11_11) rfl k))) ?_
  show Gets p e below _ (T3.setTop (mkF m 12 #[vR x, vI (Int32.ofNat n)] [(.int (Int32.ofNat n)), (.ref x)]))
  refine X3.newAB (w23 hw) rfl (D d11_12) rfl (of_pos (by omega)) (cap := 3) (by rw [toN (by omega)]; omega) (by decide) (by decide) (by decide) fun T5 h5 a5 k5 X5 C5 E5 g5 S5 V5 Z5 => ?_
  have z5 := E5.1
  have l5 := ltA V5.lt
  have f7 := Pr1.ext E5
  have f8 := Pr0.ext E5
  refine X5.putF (host := "") (Or.inl (w62 hw)) Via.refl f7 f8 (Or.inl (w63 hw)) (w39 hw) (ty := (.array .byte)) (by decide) rfl rfl (leA (by omega)) (Safe.exa X5.hZ.alike f8 (by decide) (by decide)) rfl rfl (D d11_14) fun T6 h6 X6 C6 W6 F6 Z6 => ?_
  have z6 := W6.size
  have A9 := X6.at
  refine Gets.via (fun _ k => (XS.aloadN A9 hx rfl (D d11_17) rfl rfl (XS.iconst A9 hx rfl (D d11_18) k))) ?_
  have f11 := Pr2.ext E5
  have f12 := f11.other W6 (Or.inr (slot_ne (t := .byte) (t' := (.array .byte)) (Or.inl (w65 hw)) (Or.inl (w63 hw)) (by decide) (by decide) (by decide)))
  refine X6.putF (host := "") (Or.inl (w64 hw)) Via.refl f12 Z6 (Or.inl (w65 hw)) (w39 hw) (ty := .byte) (by decide) (by decide) (by decide) (leA (by omega)) (Safe.exa X6.hZ.alike Z6 (by decide) (by decide)) rfl rfl (D d11_19) fun T10 h10 X10 C10 W10 F10 Z10 => ?_
  have z10 := W10.size
  have A13 := X10.at
  refine Gets.via (fun _ k => (XS.goto A13 hx rfl (pc0 := 22) (pc' := 38) rfl (D d11_22) (by decide) (by decide) k)) ?_
  show Gets p e below _ (T10.setTop (mkF m 38 #[vR x, vI (Int32.ofNat n)] []))
  have f14 := F6.other W10 (Or.inr (slot_ne (t := (.array .byte)) (t' := .byte) (Or.inl (w63 hw)) (Or.inl (w65 hw)) (by decide) (by decide) (by decide)))
  have f15 := Pr3.ext E5
  have f16 := f15.other W6 (Or.inr (slot_ne (t := .int) (t' := (.array .byte)) (Or.inl (w103 hw)) (Or.inl (w63 hw)) (by decide) (by decide) (by decide)))
  have f17 := f16.other W10 (Or.inr (slot_ne (t := .int) (t' := .byte) (Or.inl (w103 hw)) (Or.inl (w65 hw)) (by decide) (by decide) (by decide)))
  have f18 := Pr4.ext E5
  have f19 := f18.other W6 (Or.inr (slot_ne (t := .boolean) (t' := (.array .byte)) (Or.inl (w296 hw)) (Or.inl (w63 hw)) (by decide) (by decide) (by decide)))
  have f20 := f19.other W10 (Or.inr (slot_ne (t := .boolean) (t' := .byte) (Or.inl (w296 hw)) (Or.inl (w65 hw)) (by decide) (by decide) (by decide)))
  have f21 := V5.other W6 (neA (by omega))
  have f22 := f21.other W10 (neA (by omega))
  have f23 := Z5.wr W6
  have f24 := f23.wr W10
  have f25 := C6.safe (x := a5) (ltA (by omega)) S5
  have f26 := C10.safe (x := a5) (ltA (by omega)) f25
  exact X10.retV hret (D d11_38) (by decide) (by decide) (fun vmE CE => ⟨a5, k5, rfl, ((((Keep.refl h0 [x]).ext E5).wr W6 (Or.inl (memI (i := 0) rfl))).wr W10 (Or.inl (memI (i := 0) rfl))), Z10, f14, F10, f17, f20, f22, f24, CE.safe (x := a5) (ltA (by omega)) f26, (leA (by omega))⟩)
abbrev RrmGi1 : Room := { frames := 2, cells := 1, slots := 3, locals := 25 }
def QrmGi1 (Z : State) (x : Addr) (n : Nat) (h0 : Heap) (v : Option Value) (vm : Vm) (h : Heap) : Prop := ∃ (d : Addr) (kd : ClassId), v = none ∧ Keep h0 h [x] ∧ Exa Z h x "java/lang/StringBuilder" ∧ Fld Z h x "java/lang/AbstractStringBuilder" "value" "[B" (.ref d) ∧ Fld Z h x "java/lang/AbstractStringBuilder" "coder" "B" (.int (0 : Int32)) ∧ Fld Z h x "java/lang/AbstractStringBuilder" "count" "I" (.int (Int32.ofNat (([] : List Int32)).length)) ∧ Fld Z h x "java/lang/AbstractStringBuilder" "maybeLatin1" "Z" (.int (0 : Int32)) ∧ Arv Z h d kd .byte (Int32.ofNat n) ((([] : List Int32).map fun c => c.toInt8.toInt32).map Value.int) (.int (0 : Int32)) ∧ Exa Z h d "[B" ∧ Safe Z consts_1 vm h d ∧ h0.size ≤ d
theorem rmGi1 (hcx : Cx Z a0 zc fm) (x : Addr) (n : Nat) (h0 : Heap) (O0 : Old Z Z.heap.size h0) (Pr0 : Exa Z h0 x "java/lang/StringBuilder") (Pr1 : Fld Z h0 x "java/lang/AbstractStringBuilder" "value" "[B" .null) (Pr2 : Fld Z h0 x "java/lang/AbstractStringBuilder" "coder" "B" (.int (0 : Int32))) (Pr3 : Fld Z h0 x "java/lang/AbstractStringBuilder" "count" "I" (.int (0 : Int32))) (Pr4 : Fld Z h0 x "java/lang/AbstractStringBuilder" "maybeLatin1" "Z" (.int (0 : Int32))) (Pr5 : Z.heap.size ≤ x) (Pr6 : n ≤ 3) : Met l Z consts_1 (⟨"java/lang/StringBuilder", "<init>", "(I)V"⟩ : MethodName) jdk_67_method_2_code 2 (none) [] RrmGi1 [] #[(.ref x), (.int (Int32.ofNat n))] h0 (QrmGi1 Z x n h0) := by
  have ⟨hw, hEL, O2, P5, O4, P6, OA, OH, OB⟩ := hcx
  refine Met.start (a0 := a0) (Ls := #[vR x, vI (Int32.ofNat n)]) pn10 hEL O0 (fun m => by first | (simp [entryFrame, mkF, argsToLocals, Value.category]; done) | rfl) ?_
  intro p e s m below meth cc T0 vm0 X0 sf0_ D hml hret hnm hx zz A0
  have l1 := ltA Pr0.lt
  refine Gets.via (fun _ k => (XS.aloadN A0 hx rfl (D d10_0) rfl rfl (XS.iloadN A0 hx rfl (D d10_1) rfl k))) ?_
  refine X0.callI (y := (⟨"java/lang/AbstractStringBuilder", "<init>", "(I)V"⟩ : MethodName)) (W := 0) rfl (w54 hw) (w55 hw) (w59 hw) (by decide) (X0.payM (sf := []) (rmGi4 hcx x n h0 X0.old Pr0 Pr1 Pr2 Pr3 Pr4 Pr5 Pr6) sf0 (w59 hw) (w58 hw)) rfl (sz hml rfl) (a := x) (argsL := [(.int (Int32.ofNat n))]) (rest := []) (lenOf pd23 rfl) rfl rfl (mroom rfl rfl) (D d10_2) (by decide) (by decide) fun T2 h2 vm2 v2 X2 C2 z2 q2 => ?_
  obtain ⟨d2, kd2, rfl, K2, g2_0, g2_1, g2_2, g2_3, g2_4, g2_5, g2_6, g2_7, g2_8⟩ := q2
  have l3 := ltA g2_0.lt
  have l4 := ltA g2_5.lt
  exact X2.retV hret (D d10_5) (by decide) (by decide) (fun vmE CE => ⟨d2, kd2, rfl, ((Keep.refl h0 [x]).trans K2 (allS (Or.inl (memI (i := 0) rfl)) all0)), g2_0, g2_1, g2_2, g2_3, g2_4, g2_5, g2_6, CE.safe (x := d2) (ltA (by omega)) g2_7, g2_8⟩)
abbrev RrmEsc : Room := { frames := 9, cells := 16, slots := 776, locals := 132 }
def QrmEsc (Z : State) (x : Addr) (cs : List Int32) (h0 : Heap) (v : Option Value) (vm : Vm) (h : Heap) : Prop := ∃ (a : Addr) (os : List Int32), v = some (.ref a) ∧ Keep h0 h [] ∧ Any Z h a os ∧ os = esc cs
theorem rmEsc (hcx : Cx Z a0 zc fm) (x : Addr) (cs : List Int32) (h0 : Heap) (O0 : Old Z Z.heap.size h0) (Pr0 : Any Z h0 x cs) (Pr1 : (cs).length ≤ 3) (Pr2 : ∀ z_ ∈ cs, ¬ z_ < 0 ∧ ¬ (65535 : Int32) < z_) : Met l Z consts_1 (⟨"com/example/carve/carve/http/Html", "escape", "(Ljava/lang/String;)Ljava/lang/String;"⟩ : MethodName) prog_24_method_8_code 4 (some (.object "java/lang/String")) [] RrmEsc [] #[(.ref x)] h0 (QrmEsc Z x cs h0) := by
  have ⟨hw, hEL, O2, P5, O4, P6, OA, OH, OB⟩ := hcx
  refine Met.start (a0 := a0) (Ls := #[vR x, .unset, .unset, .unset]) pn7 hEL O0 (fun m => by first | (simp [entryFrame, mkF, argsToLocals, Value.category]; done) | rfl) ?_
  intro p e s m below meth cc T0 vm0 X0 sf0_ D hml hret hnm hx zz A0
  have l1 := ltA Pr0.lt
  have l3 := Pr1
  refine X0.new (w38 hw) (w39 hw) (w40 hw) rfl (D d7_0) (by decide) (by decide) fun T2 h2 a2 X2 C2 E2 g2 Z2 S2 D2 => ?_
  have z2 := E2.1
  have l2 := ltA Z2.lt
  have A3 := X2.at
  refine Gets.via (fun _ k => (XS.dup A3 hx rfl (D d7_3) rfl rfl (XS.aloadN A3 hx rfl (D d7_4) rfl rfl k))) ?_
  have f4 : Any Z h2 x cs := Pr0.keep ((Keep.refl h0 []).ext E2)
  refine X2.callV (W := 2) (w41 hw) (w42 hw) (w44 hw) (w43 hw) (nfs rfl (w44 hw)) (by decide) (X2.payM (sf := []) (rmLenA hcx x cs h2 X2.old f4) sf0 (w45 hw) (w7 hw)) f4.exa rfl (sz hml rfl) (argsL := []) (rest := [(.ref a2), (.ref a2)]) (lenOf pd22 rfl) rfl rfl (mroom rfl rfl) (D d7_5) (by decide) (by decide) fun T5 h5 vm5 v5 X5 C5 z5 q5 => ?_
  obtain ⟨rfl, K5⟩ := q5
  rw [K5] at X5 C5
  refine X5.callI (y := (⟨"java/lang/StringBuilder", "<init>", "(I)V"⟩ : MethodName)) (W := 1) rfl (w51 hw) (w52 hw) (w53 hw) (by decide) (X5.payM (sf := []) (rmGi1 hcx a2 ((cs).length) h2 X5.old Z2 ((D2 (Or.inl (w63 hw)) (ty := (.array .byte)) (by decide) : Fld Z h2 a2 "java/lang/AbstractStringBuilder" "value" "[B" .null)) (D2 (Or.inl (w65 hw)) (ty := .byte) (by decide) : Fld Z h2 a2 "java/lang/AbstractStringBuilder" "coder" "B" (.int (0 : Int32))) (D2 (Or.inl (w103 hw)) (ty := .int) (by decide) : Fld Z h2 a2 "java/lang/AbstractStringBuilder" "count" "I" (.int (0 : Int32))) (D2 (Or.inl (w296 hw)) (ty := .boolean) (by decide) : Fld Z h2 a2 "java/lang/AbstractStringBuilder" "maybeLatin1" "Z" (.int (0 : Int32))) (leA (by omega)) Pr1) sf0 (w53 hw) (w40 hw)) rfl (sz hml rfl) (a := a2) (argsL := [(.int (Int32.ofNat (cs).length))]) (rest := [(.ref a2)]) (lenOf pd23 rfl) rfl rfl (mroom rfl rfl) (D d7_8) (by decide) (by decide) fun T6 h6 vm6 v6 X6 C6 z6 q6 => ?_
  obtain ⟨d6, kd6, rfl, K6, g6_0, g6_1, g6_2, g6_3, g6_4, g6_5, g6_6, g6_7, g6_8⟩ := q6
  have l7 := ltA g6_0.lt
  have l8 := ltA g6_5.lt
  show Gets p e below _ (T6.setTop (mkF m 11 #[vR x, .unset, .unset, .unset] [(.ref a2)]))
  have A9 := X6.at
  refine Gets.via (fun _ k => (XS.astoreN A9 hx rfl (D d7_11) rfl rfl (l' := #[vR x, vR a2, .unset, .unset]) rfl (XS.iconst A9 hx rfl (D d7_12) (XS.istoreN A9 hx rfl (D d7_13) rfl (l' := #[vR x, vR a2, vI (0 : Int32), .unset]) rfl (XS.iloadN A9 hx rfl (D d7_14) rfl (XS.aloadN A9 hx rfl (D d7_15) rfl rfl k)))))) ?_
  have f10 : Any Z h6 x cs := Pr0.keep (((Keep.refl h0 []).ext E2).trans K6 (allS (Or.inr (leA (by omega))) all0))
  refine X6.callV (W := 1) (w41 hw) (w42 hw) (w44 hw) (w43 hw) (nfs rfl (w44 hw)) (by decide) (X6.payM (sf := []) (rmLenA hcx x cs h6 X6.old f10) sf0 (w45 hw) (w7 hw)) f10.exa rfl (sz hml rfl) (argsL := []) (rest := [(.int (0 : Int32))]) (lenOf pd22 rfl) rfl rfl (mroom rfl rfl) (D d7_16) (by decide) (by decide) fun T11 h11 vm11 v11 X11 C11 z11 q11 => ?_
  obtain ⟨rfl, K11⟩ := q11
  rw [K11] at X11 C11
  by_cases b19 : (0 : Int32) < (Int32.ofNat (cs).length)
  · have A12 := X11.at
    refine Gets.via (fun _ k => (XS.icmpNo A12 hx rfl (D d7_19) rfl (Jvm.Free.XT.ii_ge_f b19) k)) ?_
    have hi0 : 0 < (cs).length := of_lt_inv (a := 0) (by omega) b19
    have hr0 := mem_getD hi0 Pr2
    have u13 : ∀ z_ ∈ ([] : List Int32), ¬ z_ < 0 ∧ ¬ (255 : Int32) < z_ := allN
    have f14 : SbA Z h6 a2 d6 kd6 ([] : List Int32) := Or.inl ⟨(cs).length, g6_0, g6_1, g6_2, g6_3, g6_4, g6_5, g6_6, (by simp only [List.length_append, List.length_cons, List.length_nil]; omega), (by simp only [List.length_append, List.length_cons, List.length_nil]; omega), u13⟩
    have j118_0 : ∀ (T15 : State) (h15 : Heap) (vm15 : Vm) (sd0 : Addr) (sk0 : ClassId) (ev0 : List Int32) (X15 : Wk p l e RrmEsc s m #[(.ref x)] below meth cc "com/example/carve/carve/http/Html" Z a0 consts_1 h0 T15 h15 vm15 6 252) (K15 : Keep h6 h15 [a2, d6]) (j15_0 : SbA Z h15 a2 sd0 sk0 ev0) (j15_1 : ev0 = esc (cs.take 1)) (j15_2 : (ev0).length ≤ 6) (j15_3 : Z.heap.size ≤ sd0) (j15_4 : a2 ≠ sd0) (j15_5 : h0.size ≤ sd0) (js15_0 : Safe Z consts_1 vm15 h15 sd0), Gets p e below (Jvm.Ow.Out s Z consts_1 RrmEsc (QrmEsc Z x cs h0)) (T15.setTop (mkF m 118 #[vR x, vR a2, vI (0 : Int32), vI (cs.getD 0 0)] [])) := by
      intro T15 h15 vm15 sd0 sk0 ev0 X15 K15 j15_0 j15_1 j15_2 j15_3 j15_4 j15_5 js15_0
      have z15 := K15.1
      have l16 := ltA j15_0.lt
      have l17 := ltA j15_0.lb
      have A18 := X15.at
      refine Gets.via (fun _ k => (iincV A18 hx rfl (D d7_118) rfl (v := (1 : Int32)) (by decide) (l' := #[vR x, vR a2, vI (1 : Int32), vI (cs.getD 0 0)]) rfl (XS.goto A18 hx rfl (pc0 := 121) (pc' := 14) rfl (D d7_121) (by decide) (by decide) k))) ?_
      refine Gets.via (fun _ k => (XS.iloadN A18 hx rfl (D d7_14) rfl (XS.aloadN A18 hx rfl (D d7_15) rfl rfl k))) ?_
      show Gets p e below _ (T15.setTop (mkF m 16 #[vR x, vR a2, vI (1 : Int32), vI (cs.getD 0 0)] [(.ref x), (.int (1 : Int32))]))
      have f19 : Any Z h15 x cs := Pr0.keep ((((Keep.refl h0 []).ext E2).trans K6 (allS (Or.inr (leA (by omega))) all0)).trans K15 (allS (Or.inr (leA (by omega))) (allS (Or.inr (leA (by omega))) all0)))
      refine X15.callV (W := 1) (w41 hw) (w42 hw) (w44 hw) (w43 hw) (nfs rfl (w44 hw)) (by decide) (X15.payM (sf := []) (rmLenA hcx x cs h15 X15.old f19) sf0 (w45 hw) (w7 hw)) f19.exa rfl (sz hml rfl) (argsL := []) (rest := [(.int (1 : Int32))]) (lenOf pd22 rfl) rfl rfl (mroom rfl rfl) (D d7_16) (by decide) (by decide) fun T20 h20 vm20 v20 X20 C20 z20 q20 => ?_
      obtain ⟨rfl, K20⟩ := q20
      rw [K20] at X20 C20
      by_cases b19_1 : (1 : Int32) < (Int32.ofNat (cs).length)
      · have A21 := X20.at
        refine Gets.via (fun _ k => (XS.icmpNo A21 hx rfl (D d7_19) rfl (Jvm.Free.XT.ii_ge_f b19_1) k)) ?_
        have hi1 : 1 < (cs).length := of_lt_inv (a := 1) (by omega) b19_1
        have hr1 := mem_getD hi1 Pr2
        have l22 := neA j15_4
        have j118_1 : ∀ (T23 : State) (h23 : Heap) (vm23 : Vm) (sd1 : Addr) (sk1 : ClassId) (ev1 : List Int32) (X23 : Wk p l e RrmEsc s m #[(.ref x)] below meth cc "com/example/carve/carve/http/Html" Z a0 consts_1 h0 T23 h23 vm23 10 492) (K23 : Keep h15 h23 [a2, sd0]) (j23_0 : SbA Z h23 a2 sd1 sk1 ev1) (j23_1 : ev1 = esc (cs.take 2)) (j23_2 : (ev1).length ≤ 12) (j23_3 : Z.heap.size ≤ sd1) (j23_4 : a2 ≠ sd1) (j23_5 : h0.size ≤ sd1) (js23_0 : Safe Z consts_1 vm23 h23 sd1), Gets p e below (Jvm.Ow.Out s Z consts_1 RrmEsc (QrmEsc Z x cs h0)) (T23.setTop (mkF m 118 #[vR x, vR a2, vI (1 : Int32), vI (cs.getD 1 0)] [])) := by
          intro T23 h23 vm23 sd1 sk1 ev1 X23 K23 j23_0 j23_1 j23_2 j23_3 j23_4 j23_5 js23_0
          have z23 := K23.1
          have l24 := ltA j23_0.lt
          have l25 := ltA j23_0.lb
          have A26 := X23.at
          refine Gets.via (fun _ k => (iincV A26 hx rfl (D d7_118) rfl (v := (2 : Int32)) (by decide) (l' := #[vR x, vR a2, vI (2 : Int32), vI (cs.getD 1 0)]) rfl (XS.goto A26 hx rfl (pc0 := 121) (pc' := 14) rfl (D d7_121) (by decide) (by decide) k))) ?_
          refine Gets.via (fun _ k => (XS.iloadN A26 hx rfl (D d7_14) rfl (XS.aloadN A26 hx rfl (D d7_15) rfl rfl k))) ?_
          have f27 : Any Z h23 x cs := Pr0.keep (((((Keep.refl h0 []).ext E2).trans K6 (allS (Or.inr (leA (by omega))) all0)).trans K15 (allS (Or.inr (leA (by omega))) (allS (Or.inr (leA (by omega))) all0))).trans K23 (allS (Or.inr (leA (by omega))) (allS (Or.inr (leA (by omega))) all0)))
          refine X23.callV (W := 1) (w41 hw) (w42 hw) (w44 hw) (w43 hw) (nfs rfl (w44 hw)) (by decide) (X23.payM (sf := []) (rmLenA hcx x cs h23 X23.old f27) sf0 (w45 hw) (w7 hw)) f27.exa rfl (sz hml rfl) (argsL := []) (rest := [(.int (2 : Int32))]) (lenOf pd22 rfl) rfl rfl (mroom rfl rfl) (D d7_16) (by decide) (by decide) fun T28 h28 vm28 v28 X28 C28 z28 q28 => ?_
          obtain ⟨rfl, K28⟩ := q28
          rw [K28] at X28 C28
          by_cases b19_2 : (2 : Int32) < (Int32.ofNat (cs).length)
          · have A29 := X28.at
            refine Gets.via (fun _ k => (XS.icmpNo A29 hx rfl (D d7_19) rfl (Jvm.Free.XT.ii_ge_f b19_2) k)) ?_
            show Gets p e below _ (T28.setTop (mkF m 22 #[vR x, vR a2, vI (2 : Int32), vI (cs.getD 1 0)] []))
            have hi2 : 2 < (cs).length := of_lt_inv (a := 2) (by omega) b19_2
            have hr2 := mem_getD hi2 Pr2
            have l30 := neA j23_4
            have j118_2 : ∀ (T31 : State) (h31 : Heap) (vm31 : Vm) (sd2 : Addr) (sk2 : ClassId) (ev2 : List Int32) (X31 : Wk p l e RrmEsc s m #[(.ref x)] below meth cc "com/example/carve/carve/http/Html" Z a0 consts_1 h0 T31 h31 vm31 14 732) (K31 : Keep h23 h31 [a2, sd1]) (j31_0 : SbA Z h31 a2 sd2 sk2 ev2) (j31_1 : ev2 = esc (cs.take 3)) (j31_2 : (ev2).length ≤ 18) (j31_3 : Z.heap.size ≤ sd2) (j31_4 : a2 ≠ sd2) (j31_5 : h0.size ≤ sd2) (js31_0 : Safe Z consts_1 vm31 h31 sd2), Gets p e below (Jvm.Ow.Out s Z consts_1 RrmEsc (QrmEsc Z x cs h0)) (T31.setTop (mkF m 118 #[vR x, vR a2, vI (2 : Int32), vI (cs.getD 2 0)] [])) := by
              intro T31 h31 vm31 sd2 sk2 ev2 X31 K31 j31_0 j31_1 j31_2 j31_3 j31_4 j31_5 js31_0
              have z31 := K31.1
              have l32 := ltA j31_0.lt
              have l33 := ltA j31_0.lb
              have A34 := X31.at
              refine Gets.via (fun _ k => (iincV A34 hx rfl (D d7_118) rfl (v := (3 : Int32)) (by decide) (l' := #[vR x, vR a2, vI (3 : Int32), vI (cs.getD 2 0)]) rfl (XS.goto A34 hx rfl (pc0 := 121) (pc' := 14) rfl (D d7_121) (by decide) (by decide) k))) ?_
              refine Gets.via (fun _ k => (XS.iloadN A34 hx rfl (D d7_14) rfl (XS.aloadN A34 hx rfl (D d7_15) rfl rfl k))) ?_
              have f35 : Any Z h31 x cs := Pr0.keep ((((((Keep.refl h0 []).ext E2).trans K6 (allS (Or.inr (leA (by omega))) all0)).trans K15 (allS (Or.inr (leA (by omega))) (allS (Or.inr (leA (by omega))) all0))).trans K23 (allS (Or.inr (leA (by omega))) (allS (Or.inr (leA (by omega))) all0))).trans K31 (allS (Or.inr (leA (by omega))) (allS (Or.inr (leA (by omega))) all0)))
              refine X31.callV (W := 1) (w41 hw) (w42 hw) (w44 hw) (w43 hw) (nfs rfl (w44 hw)) (by decide) (X31.payM (sf := []) (rmLenA hcx x cs h31 X31.old f35) sf0 (w45 hw) (w7 hw)) f35.exa rfl (sz hml rfl) (argsL := []) (rest := [(.int (3 : Int32))]) (lenOf pd22 rfl) rfl rfl (mroom rfl rfl) (D d7_16) (by decide) (by decide) fun T36 h36 vm36 v36 X36 C36 z36 q36 => ?_
              obtain ⟨rfl, K36⟩ := q36
              rw [K36] at X36 C36
              have A37 := X36.at
              refine Gets.via (fun _ k => (XS.icmpYes A37 hx rfl (pc0 := 19) (pc' := 124) rfl (D d7_19) rfl (Jvm.Free.XT.ii_ge_t (of_nlt (a := (cs).length) (b := 3) (by omega) (by omega) (by omega))) (by decide) (by decide) k)) ?_
              refine Gets.via (fun _ k => (XS.aloadN A37 hx rfl (D d7_124) rfl rfl k)) ?_
              have hE : ev2 = esc cs := esc_all j31_1 (by have := of_ge_inv (a := 3) (by omega) (of_nlt (a := (cs).length) (b := 3) (by omega) (by omega) (by omega)); omega)
              have f38 := g6_0.keep K15
              have f39 := f38.keep K23
              have f40 := f39.keep K31
              refine X36.callV (W := 0) (w152 hw) (w153 hw) (w155 hw) (w154 hw) (nfs rfl (w155 hw)) (by decide) (X36.payM (sf := []) (rmTsA hcx a2 sd2 sk2 ev2 h31 X36.old j31_0 j31_2) sf0 (w156 hw) (w40 hw)) f40 rfl (sz hml rfl) (argsL := []) (rest := []) (lenOf pd33 rfl) rfl rfl (mroom rfl rfl) (D d7_125) (by decide) (by decide) fun T41 h41 vm41 v41 X41 C41 z41 q41 => ?_
              obtain ⟨a41, rfl, K41, g41_0⟩ := q41
              have l42 := ltA g41_0.lt
              show Gets p e below _ (T41.setTop (mkF m 128 #[vR x, vR a2, vI (3 : Int32), vI (cs.getD 2 0)] [(.ref a41)]))
              exact X41.retA hret rfl rfl rfl (D d7_128) (by decide) (by decide) (fun vmE CE => ⟨a41, ev2, rfl, (((((((Keep.refl h0 []).ext E2).trans K6 (allS (Or.inr (leA (by omega))) all0)).trans K15 (allS (Or.inr (leA (by omega))) (allS (Or.inr (leA (by omega))) all0))).trans K23 (allS (Or.inr (leA (by omega))) (allS (Or.inr (leA (by omega))) all0))).trans K31 (allS (Or.inr (leA (by omega))) (allS (Or.inr (leA (by omega))) all0))).trans K41 all0), g41_0, hE⟩)
            refine Gets.via (fun _ k => (XS.aloadN A29 hx rfl (D d7_22) rfl rfl (XS.iloadN A29 hx rfl (D d7_23) rfl k))) ?_
            have f43 : Any Z h23 x cs := Pr0.keep (((((Keep.refl h0 []).ext E2).trans K6 (allS (Or.inr (leA (by omega))) all0)).trans K15 (allS (Or.inr (leA (by omega))) (allS (Or.inr (leA (by omega))) all0))).trans K23 (allS (Or.inr (leA (by omega))) (allS (Or.inr (leA (by omega))) all0)))
            refine X28.callV (W := 0) (w66 hw) (w67 hw) (w69 hw) (w68 hw) (nfs rfl (w69 hw)) (by decide) (X28.payM (sf := []) (rmChA hcx x (2 : Int32) 2 cs h23 X28.old f43 (by decide) hi2) sf0 (w70 hw) (w7 hw)) f43.exa rfl (sz hml rfl) (argsL := [(.int (2 : Int32))]) (rest := []) (lenOf pd34 rfl) rfl rfl (mroom rfl rfl) (D d7_24) (by decide) (by decide) fun T44 h44 vm44 v44 X44 C44 z44 q44 => ?_
            obtain ⟨rfl, K44⟩ := q44
            rw [K44] at X44 C44
            have A45 := X44.at
            refine Gets.via (fun _ k => (XS.istoreN A45 hx rfl (D d7_27) rfl (l' := #[vR x, vR a2, vI (2 : Int32), vI (cs.getD 2 0)]) rfl (XS.iloadN A45 hx rfl (D d7_28) rfl k))) ?_
            show Gets p e below _ (T44.setTop (mkF m 29 #[vR x, vR a2, vI (2 : Int32), vI (cs.getD 2 0)] [(.int (cs.getD 2 0))]))
            by_cases b29_34 : (cs.getD 2 0) = (34 : Int32)
            · refine X44.lswH rfl rfl (D d7_29) (by decide) (a := 34) (off := 73) (by rw [b29_34]; decide) (pc' := 102) (by show (0 : Int) ≤ ((29 : Nat) : Int) + 73; decide) rfl ?_
              refine Gets.via (fun _ k => (XS.aloadN A45 hx rfl (D d7_102) rfl rfl k)) ?_
              refine X44.ldcC (w218 hw) (wSt hw) (by decide) (vs := [(.int (38 : Int32)), (.int (113 : Int32)), (.int (117 : Int32)), (.int (111 : Int32)), (.int (116 : Int32)), (.int (59 : Int32))]) (z := (6 : Int32)) ⟨by decide, by decide⟩ (by decide) (by decide) rfl (D d7_103) (n := 24) (by decide) (by decide) (by decide) (by decide) fun T46 h46 vm46 a46 yb46 k46 X46 C46 E46 Z46 Fc46 Fv46 V46 q46 => ?_
              have z46 := E46.1
              have l46 := ltA Z46.lt
              have lb46 := ltA V46.lt
              have f47 := C5.safe (x := a2) (ltA (by omega)) S2
              have f48 := C6.safe (x := a2) (ltA (by omega)) f47
              have f49 := C11.safe (x := a2) (ltA (by omega)) f48
              have f50 := g6_0.keep K15
              have f51 := f50.keep K23
              have f52 := f51.ext E46
              have ne53 := neA (q46 a2 (Safe.exa X46.hZ.alike f52 (by decide) (by decide))).1
              have nf53 := neA (q46 a2 (Safe.exa X46.hZ.alike f52 (by decide) (by decide))).2
              have f54 := C11.safe (x := d6) (ltA (by omega)) g6_7
              have f55 := g6_6.keep K15
              have f56 := f55.keep K23
              have f57 := f56.ext E46
              have f58 := C20.safe (x := sd0) (ltA (by omega)) js15_0
              have f59 := C28.safe (x := sd1) (ltA (by omega)) js23_0
              have f60 := C44.safe (x := sd1) (ltA (by omega)) f59
              have f61 := C46.safe (x := sd1) (ltA (by omega)) f60
              have ne62 := neA (q46 sd1 f61).1
              have nf62 := neA (q46 sd1 f61).2
              have f63 : Str Z h46 a46 yb46 k46 [(38 : Int32), (113 : Int32), (117 : Int32), (111 : Int32), (116 : Int32), (59 : Int32)] := ⟨Z46, Fc46, Fv46, V46, (allI ⟨by decide, by decide⟩ (allI ⟨by decide, by decide⟩ (allI ⟨by decide, by decide⟩ (allI ⟨by decide, by decide⟩ (allI ⟨by decide, by decide⟩ (allI ⟨by decide, by decide⟩ allN)))))), Nat.le_of_ble_eq_true rfl⟩
              have f64 : SbA Z h46 a2 sd1 sk1 ev1 := j23_0.ext E46
              refine X46.callV (W := 0) (w91 hw) (w92 hw) (w94 hw) (w93 hw) (nfs rfl (w94 hw)) (by decide) (X46.payM (sf := [sd1]) (rmApA hcx a2 a46 sd1 sk1 ev1 yb46 k46 [(38 : Int32), (113 : Int32), (117 : Int32), (111 : Int32), (116 : Int32), (59 : Int32)] h46 X46.old f64 f63 (by simp only [List.length_append, List.length_cons, List.length_nil]; omega) (leA (by omega)) j23_3 j23_4 (neA (by omega)) (neA (by omega)) (neA (by omega)) (neA (by omega))) (sfS f61 sf0) (w95 hw) (w40 hw)) f52 rfl (sz hml rfl) (argsL := [(.ref a46)]) (rest := []) (lenOf pd35 rfl) rfl rfl (mroom rfl rfl) (D d7_105) (by decide) (by decide) fun T65 h65 vm65 v65 X65 C65 z65 q65 => ?_
              obtain ⟨d265, kd265, rfl, K65, g65_0, g65_1, g65_2, g65_3, g65_4⟩ := q65
              have l66 := ltA g65_0.lt
              have l67 := ltA g65_0.lb
              have l68 := neA g65_3
              have l69 := orA g65_4
              have A70 := X65.at
              refine Gets.via (fun _ k => (XS.pop A70 hx rfl (D d7_108) rfl rfl (XS.goto A70 hx rfl (pc0 := 109) (pc' := 118) rfl (D d7_109) (by decide) (by decide) k))) ?_
              exact j118_2 T65 h65 vm65 d265 kd265 (ev1 ++ [(38 : Int32), (113 : Int32), (117 : Int32), (111 : Int32), (116 : Int32), (59 : Int32)]) (X65.more (by decide) (by decide)) (((Keep.refl h23 [a2, sd1]).ext E46).trans K65 (allS (Or.inl (memI (i := 0) rfl)) (allS (Or.inl (memI (i := 1) rfl)) all0))) g65_0 (esc_take hi2 j23_1 (pc_34 b29_34)) (by simp only [List.length_append, List.length_cons, List.length_nil]; omega) g65_2 g65_3 (leA (by omega)) g65_1
            · skip
              by_cases b29_38 : (cs.getD 2 0) = (38 : Int32)
              · refine X44.lswH rfl rfl (D d7_29) (by decide) (a := 38) (off := 43) (by rw [b29_38]; decide) (pc' := 72) (by show (0 : Int) ≤ ((29 : Nat) : Int) + 43; decide) rfl ?_
                refine Gets.via (fun _ k => (XS.aloadN A45 hx rfl (D d7_72) rfl rfl k)) ?_
                refine X44.ldcC (w88 hw) (wSt hw) (by decide) (vs := [(.int (38 : Int32)), (.int (97 : Int32)), (.int (109 : Int32)), (.int (112 : Int32)), (.int (59 : Int32))]) (z := (5 : Int32)) ⟨by decide, by decide⟩ (by decide) (by decide) rfl (D d7_73) (n := 20) (by decide) (by decide) (by decide) (by decide) fun T71 h71 vm71 a71 yb71 k71 X71 C71 E71 Z71 Fc71 Fv71 V71 q71 => ?_
                have z71 := E71.1
                have l71 := ltA Z71.lt
                have lb71 := ltA V71.lt
                have f72 := C5.safe (x := a2) (ltA (by omega)) S2
                have f73 := C6.safe (x := a2) (ltA (by omega)) f72
                have f74 := C11.safe (x := a2) (ltA (by omega)) f73
                have f75 := g6_0.keep K15
                have f76 := f75.keep K23
                have f77 := f76.ext E71
                have ne78 := neA (q71 a2 (Safe.exa X71.hZ.alike f77 (by decide) (by decide))).1
                have nf78 := neA (q71 a2 (Safe.exa X71.hZ.alike f77 (by decide) (by decide))).2
                have f79 := C11.safe (x := d6) (ltA (by omega)) g6_7
                have f80 := g6_6.keep K15
                have f81 := f80.keep K23
                have f82 := f81.ext E71
                have f83 := C20.safe (x := sd0) (ltA (by omega)) js15_0
                have f84 := C28.safe (x := sd1) (ltA (by omega)) js23_0
                have f85 := C44.safe (x := sd1) (ltA (by omega)) f84
                have f86 := C71.safe (x := sd1) (ltA (by omega)) f85
                have ne87 := neA (q71 sd1 f86).1
                have nf87 := neA (q71 sd1 f86).2
                show Gets p e below _ (T71.setTop (mkF m 75 #[vR x, vR a2, vI (2 : Int32), vI (cs.getD 2 0)] [(.ref a71), (.ref a2)]))
                have f88 : Str Z h71 a71 yb71 k71 [(38 : Int32), (97 : Int32), (109 : Int32), (112 : Int32), (59 : Int32)] := ⟨Z71, Fc71, Fv71, V71, (allI ⟨by decide, by decide⟩ (allI ⟨by decide, by decide⟩ (allI ⟨by decide, by decide⟩ (allI ⟨by decide, by decide⟩ (allI ⟨by decide, by decide⟩ allN))))), Nat.le_of_ble_eq_true rfl⟩
                have f89 : SbA Z h71 a2 sd1 sk1 ev1 := j23_0.ext E71
                refine X71.callV (W := 0) (w91 hw) (w92 hw) (w94 hw) (w93 hw) (nfs rfl (w94 hw)) (by decide) (X71.payM (sf := [sd1]) (rmApA hcx a2 a71 sd1 sk1 ev1 yb71 k71 [(38 : Int32), (97 : Int32), (109 : Int32), (112 : Int32), (59 : Int32)] h71 X71.old f89 f88 (by simp only [List.length_append, List.length_cons, List.length_nil]; omega) (leA (by omega)) j23_3 j23_4 (neA (by omega)) (neA (by omega)) (neA (by omega)) (neA (by omega))) (sfS f86 sf0) (w95 hw) (w40 hw)) f77 rfl (sz hml rfl) (argsL := [(.ref a71)]) (rest := []) (lenOf pd35 rfl) rfl rfl (mroom rfl rfl) (D d7_75) (by decide) (by decide) fun T90 h90 vm90 v90 X90 C90 z90 q90 => ?_
                obtain ⟨d290, kd290, rfl, K90, g90_0, g90_1, g90_2, g90_3, g90_4⟩ := q90
                have l91 := ltA g90_0.lt
                have l92 := ltA g90_0.lb
                have l93 := neA g90_3
                have l94 := orA g90_4
                have A95 := X90.at
                refine Gets.via (fun _ k => (XS.pop A95 hx rfl (D d7_78) rfl rfl (XS.goto A95 hx rfl (pc0 := 79) (pc' := 118) rfl (D d7_79) (by decide) (by decide) k))) ?_
                exact j118_2 T90 h90 vm90 d290 kd290 (ev1 ++ [(38 : Int32), (97 : Int32), (109 : Int32), (112 : Int32), (59 : Int32)]) (X90.more (by decide) (by decide)) (((Keep.refl h23 [a2, sd1]).ext E71).trans K90 (allS (Or.inl (memI (i := 0) rfl)) (allS (Or.inl (memI (i := 1) rfl)) all0))) g90_0 (esc_take hi2 j23_1 (pc_38 b29_38)) (by simp only [List.length_append, List.length_cons, List.length_nil]; omega) g90_2 g90_3 (leA (by omega)) g90_1
              · skip
                by_cases b29_60 : (cs.getD 2 0) = (60 : Int32)
                · refine X44.lswH rfl rfl (D d7_29) (by decide) (a := 60) (off := 53) (by rw [b29_60]; decide) (pc' := 82) (by show (0 : Int) ≤ ((29 : Nat) : Int) + 53; decide) rfl ?_
                  refine Gets.via (fun _ k => (XS.aloadN A45 hx rfl (D d7_82) rfl rfl k)) ?_
                  refine X44.ldcC (w241 hw) (wSt hw) (by decide) (vs := [(.int (38 : Int32)), (.int (108 : Int32)), (.int (116 : Int32)), (.int (59 : Int32))]) (z := (4 : Int32)) ⟨by decide, by decide⟩ (by decide) (by decide) rfl (D d7_83) (n := 16) (by decide) (by decide) (by decide) (by decide) fun T96 h96 vm96 a96 yb96 k96 X96 C96 E96 Z96 Fc96 Fv96 V96 q96 => ?_
                  have z96 := E96.1
                  have l96 := ltA Z96.lt
                  have lb96 := ltA V96.lt
                  have f97 := C5.safe (x := a2) (ltA (by omega)) S2
                  have f98 := C6.safe (x := a2) (ltA (by omega)) f97
                  have f99 := C11.safe (x := a2) (ltA (by omega)) f98
                  have f100 := g6_0.keep K15
                  have f101 := f100.keep K23
                  have f102 := f101.ext E96
                  have ne103 := neA (q96 a2 (Safe.exa X96.hZ.alike f102 (by decide) (by decide))).1
                  have nf103 := neA (q96 a2 (Safe.exa X96.hZ.alike f102 (by decide) (by decide))).2
                  have f104 := C11.safe (x := d6) (ltA (by omega)) g6_7
                  have f105 := g6_6.keep K15
                  have f106 := f105.keep K23
                  have f107 := f106.ext E96
                  have f108 := C20.safe (x := sd0) (ltA (by omega)) js15_0
                  have f109 := C28.safe (x := sd1) (ltA (by omega)) js23_0
                  have f110 := C44.safe (x := sd1) (ltA (by omega)) f109
                  have f111 := C96.safe (x := sd1) (ltA (by omega)) f110
                  have ne112 := neA (q96 sd1 f111).1
                  have nf112 := neA (q96 sd1 f111).2
                  have f113 : Str Z h96 a96 yb96 k96 [(38 : Int32), (108 : Int32), (116 : Int32), (59 : Int32)] := ⟨Z96, Fc96, Fv96, V96, (allI ⟨by decide, by decide⟩ (allI ⟨by decide, by decide⟩ (allI ⟨by decide, by decide⟩ (allI ⟨by decide, by decide⟩ allN)))), Nat.le_of_ble_eq_true rfl⟩
                  have f114 : SbA Z h96 a2 sd1 sk1 ev1 := j23_0.ext E96
                  refine X96.callV (W := 0) (w91 hw) (w92 hw) (w94 hw) (w93 hw) (nfs rfl (w94 hw)) (by decide) (X96.payM (sf := [sd1]) (rmApA hcx a2 a96 sd1 sk1 ev1 yb96 k96 [(38 : Int32), (108 : Int32), (116 : Int32), (59 : Int32)] h96 X96.old f114 f113 (by simp only [List.length_append, List.length_cons, List.length_nil]; omega) (leA (by omega)) j23_3 j23_4 (neA (by omega)) (neA (by omega)) (neA (by omega)) (neA (by omega))) (sfS f111 sf0) (w95 hw) (w40 hw)) f102 rfl (sz hml rfl) (argsL := [(.ref a96)]) (rest := []) (lenOf pd35 rfl) rfl rfl (mroom rfl rfl) (D d7_85) (by decide) (by decide) fun T115 h115 vm115 v115 X115 C115 z115 q115 => ?_
                  obtain ⟨d2115, kd2115, rfl, K115, g115_0, g115_1, g115_2, g115_3, g115_4⟩ := q115
                  have l116 := ltA g115_0.lt
                  have l117 := ltA g115_0.lb
                  have l118 := neA g115_3
                  have l119 := orA g115_4
                  show Gets p e below _ (T115.setTop (mkF m 88 #[vR x, vR a2, vI (2 : Int32), vI (cs.getD 2 0)] [(.ref a2)]))
                  have A120 := X115.at
                  refine Gets.via (fun _ k => (XS.pop A120 hx rfl (D d7_88) rfl rfl (XS.goto A120 hx rfl (pc0 := 89) (pc' := 118) rfl (D d7_89) (by decide) (by decide) k))) ?_
                  exact j118_2 T115 h115 vm115 d2115 kd2115 (ev1 ++ [(38 : Int32), (108 : Int32), (116 : Int32), (59 : Int32)]) (X115.more (by decide) (by decide)) (((Keep.refl h23 [a2, sd1]).ext E96).trans K115 (allS (Or.inl (memI (i := 0) rfl)) (allS (Or.inl (memI (i := 1) rfl)) all0))) g115_0 (esc_take hi2 j23_1 (pc_60 b29_60)) (by simp only [List.length_append, List.length_cons, List.length_nil]; omega) g115_2 g115_3 (leA (by omega)) g115_1
                · skip
                  by_cases b29_62 : (cs.getD 2 0) = (62 : Int32)
                  · refine X44.lswH rfl rfl (D d7_29) (by decide) (a := 62) (off := 63) (by rw [b29_62]; decide) (pc' := 92) (by show (0 : Int) ≤ ((29 : Nat) : Int) + 63; decide) rfl ?_
                    refine Gets.via (fun _ k => (XS.aloadN A45 hx rfl (D d7_92) rfl rfl k)) ?_
                    refine X44.ldcC (w298 hw) (wSt hw) (by decide) (vs := [(.int (38 : Int32)), (.int (103 : Int32)), (.int (116 : Int32)), (.int (59 : Int32))]) (z := (4 : Int32)) ⟨by decide, by decide⟩ (by decide) (by decide) rfl (D d7_93) (n := 16) (by decide) (by decide) (by decide) (by decide) fun T121 h121 vm121 a121 yb121 k121 X121 C121 E121 Z121 Fc121 Fv121 V121 q121 => ?_
                    have z121 := E121.1
                    have l121 := ltA Z121.lt
                    have lb121 := ltA V121.lt
                    have f122 := C5.safe (x := a2) (ltA (by omega)) S2
                    have f123 := C6.safe (x := a2) (ltA (by omega)) f122
                    have f124 := C11.safe (x := a2) (ltA (by omega)) f123
                    have f125 := g6_0.keep K15
                    have f126 := f125.keep K23
                    have f127 := f126.ext E121
                    have ne128 := neA (q121 a2 (Safe.exa X121.hZ.alike f127 (by decide) (by decide))).1
                    have nf128 := neA (q121 a2 (Safe.exa X121.hZ.alike f127 (by decide) (by decide))).2
                    have f129 := C11.safe (x := d6) (ltA (by omega)) g6_7
                    have f130 := g6_6.keep K15
                    have f131 := f130.keep K23
                    have f132 := f131.ext E121
                    have f133 := C20.safe (x := sd0) (ltA (by omega)) js15_0
                    have f134 := C28.safe (x := sd1) (ltA (by omega)) js23_0
                    have f135 := C44.safe (x := sd1) (ltA (by omega)) f134
                    have f136 := C121.safe (x := sd1) (ltA (by omega)) f135
                    have ne137 := neA (q121 sd1 f136).1
                    have nf137 := neA (q121 sd1 f136).2
                    have f138 : Str Z h121 a121 yb121 k121 [(38 : Int32), (103 : Int32), (116 : Int32), (59 : Int32)] := ⟨Z121, Fc121, Fv121, V121, (allI ⟨by decide, by decide⟩ (allI ⟨by decide, by decide⟩ (allI ⟨by decide, by decide⟩ (allI ⟨by decide, by decide⟩ allN)))), Nat.le_of_ble_eq_true rfl⟩
                    have f139 : SbA Z h121 a2 sd1 sk1 ev1 := j23_0.ext E121
                    refine X121.callV (W := 0) (w91 hw) (w92 hw) (w94 hw) (w93 hw) (nfs rfl (w94 hw)) (by decide) (X121.payM (sf := [sd1]) (rmApA hcx a2 a121 sd1 sk1 ev1 yb121 k121 [(38 : Int32), (103 : Int32), (116 : Int32), (59 : Int32)] h121 X121.old f139 f138 (by simp only [List.length_append, List.length_cons, List.length_nil]; omega) (leA (by omega)) j23_3 j23_4 (neA (by omega)) (neA (by omega)) (neA (by omega)) (neA (by omega))) (sfS f136 sf0) (w95 hw) (w40 hw)) f127 rfl (sz hml rfl) (argsL := [(.ref a121)]) (rest := []) (lenOf pd35 rfl) rfl rfl (mroom rfl rfl) (D d7_95) (by decide) (by decide) fun T140 h140 vm140 v140 X140 C140 z140 q140 => ?_
                    obtain ⟨d2140, kd2140, rfl, K140, g140_0, g140_1, g140_2, g140_3, g140_4⟩ := q140
                    have l141 := ltA g140_0.lt
                    have l142 := ltA g140_0.lb
                    have l143 := neA g140_3
                    have l144 := orA g140_4
                    have A145 := X140.at
                    refine Gets.via (fun _ k => (XS.pop A145 hx rfl (D d7_98) rfl rfl (XS.goto A145 hx rfl (pc0 := 99) (pc' := 118) rfl (D d7_99) (by decide) (by decide) k))) ?_
                    exact j118_2 T140 h140 vm140 d2140 kd2140 (ev1 ++ [(38 : Int32), (103 : Int32), (116 : Int32), (59 : Int32)]) (X140.more (by decide) (by decide)) (((Keep.refl h23 [a2, sd1]).ext E121).trans K140 (allS (Or.inl (memI (i := 0) rfl)) (allS (Or.inl (memI (i := 1) rfl)) all0))) g140_0 (esc_take hi2 j23_1 (pc_62 b29_62)) (by simp only [List.length_append, List.length_cons, List.length_nil]; omega) g140_2 g140_3 (leA (by omega)) g140_1
                  · skip
                    refine X44.lswM rfl rfl (D d7_29) (by decide) (ls_none b29_34 b29_38 b29_60 b29_62) (pc' := 112) (by show (0 : Int) ≤ ((29 : Nat) : Int) + 83; decide) rfl ?_
                    refine Gets.via (fun _ k => (XS.aloadN A45 hx rfl (D d7_112) rfl rfl (XS.iloadN A45 hx rfl (D d7_113) rfl k))) ?_
                    show Gets p e below _ (T44.setTop (mkF m 114 #[vR x, vR a2, vI (2 : Int32), vI (cs.getD 2 0)] [(.int (cs.getD 2 0)), (.ref a2)]))
                    have f146 := g6_0.keep K15
                    have f147 := f146.keep K23
                    have f148 := C28.safe (x := sd1) (ltA (by omega)) js23_0
                    have f149 := C44.safe (x := sd1) (ltA (by omega)) f148
                    refine X44.callV (W := 0) (w205 hw) (w206 hw) (w208 hw) (w207 hw) (nfs rfl (w208 hw)) (by decide) (X44.payM (sf := [sd1]) (rmApcA hcx a2 (cs.getD 2 0) sd1 sk1 ev1 h23 X44.old j23_0 (by omega) hr2 (leA (by omega)) j23_3 j23_4) (sfS f149 sf0) (w209 hw) (w40 hw)) f147 rfl (sz hml rfl) (argsL := [(.int (cs.getD 2 0))]) (rest := []) (lenOf pd36 rfl) rfl rfl (mroom rfl rfl) (D d7_114) (by decide) (by decide) fun T150 h150 vm150 v150 X150 C150 z150 q150 => ?_
                    obtain ⟨d2150, kd2150, rfl, K150, g150_0, g150_1, g150_2, g150_3, g150_4⟩ := q150
                    have l151 := ltA g150_0.lt
                    have l152 := ltA g150_0.lb
                    have l153 := neA g150_3
                    have l154 := orA g150_4
                    have A155 := X150.at
                    refine Gets.via (fun _ k => (XS.pop A155 hx rfl (D d7_117) rfl rfl k)) ?_
                    exact j118_2 T150 h150 vm150 d2150 kd2150 (ev1 ++ [(cs.getD 2 0)]) (X150.more (by decide) (by decide)) ((Keep.refl h23 [a2, sd1]).trans K150 (allS (Or.inl (memI (i := 0) rfl)) (allS (Or.inl (memI (i := 1) rfl)) all0))) g150_0 (esc_take hi2 j23_1 (pc_o b29_34 b29_38 b29_60 b29_62)) (by simp only [List.length_append, List.length_cons, List.length_nil]; omega) g150_2 g150_3 (leA (by omega)) g150_1
          · have A156 := X28.at
            refine Gets.via (fun _ k => (XS.icmpYes A156 hx rfl (pc0 := 19) (pc' := 124) rfl (D d7_19) rfl (Jvm.Free.XT.ii_ge_t b19_2) (by decide) (by decide) k)) ?_
            refine Gets.via (fun _ k => (XS.aloadN A156 hx rfl (D d7_124) rfl rfl k)) ?_
            have hE : ev1 = esc cs := esc_all j23_1 (by have := of_ge_inv (a := 2) (by omega) b19_2; omega)
            have f157 := g6_0.keep K15
            have f158 := f157.keep K23
            refine X28.callV (W := 0) (w152 hw) (w153 hw) (w155 hw) (w154 hw) (nfs rfl (w155 hw)) (by decide) (X28.payM (sf := []) (rmTsA hcx a2 sd1 sk1 ev1 h23 X28.old j23_0 (by omega)) sf0 (w156 hw) (w40 hw)) f158 rfl (sz hml rfl) (argsL := []) (rest := []) (lenOf pd33 rfl) rfl rfl (mroom rfl rfl) (D d7_125) (by decide) (by decide) fun T159 h159 vm159 v159 X159 C159 z159 q159 => ?_
            obtain ⟨a159, rfl, K159, g159_0⟩ := q159
            have l160 := ltA g159_0.lt
            exact X159.retA hret rfl rfl rfl (D d7_128) (by decide) (by decide) (fun vmE CE => ⟨a159, ev1, rfl, ((((((Keep.refl h0 []).ext E2).trans K6 (allS (Or.inr (leA (by omega))) all0)).trans K15 (allS (Or.inr (leA (by omega))) (allS (Or.inr (leA (by omega))) all0))).trans K23 (allS (Or.inr (leA (by omega))) (allS (Or.inr (leA (by omega))) all0))).trans K159 all0), g159_0, hE⟩)
        refine Gets.via (fun _ k => (XS.aloadN A21 hx rfl (D d7_22) rfl rfl (XS.iloadN A21 hx rfl (D d7_23) rfl k))) ?_
        have f161 : Any Z h15 x cs := Pr0.keep ((((Keep.refl h0 []).ext E2).trans K6 (allS (Or.inr (leA (by omega))) all0)).trans K15 (allS (Or.inr (leA (by omega))) (allS (Or.inr (leA (by omega))) all0)))
        refine X20.callV (W := 0) (w66 hw) (w67 hw) (w69 hw) (w68 hw) (nfs rfl (w69 hw)) (by decide) (X20.payM (sf := []) (rmChA hcx x (1 : Int32) 1 cs h15 X20.old f161 (by decide) hi1) sf0 (w70 hw) (w7 hw)) f161.exa rfl (sz hml rfl) (argsL := [(.int (1 : Int32))]) (rest := []) (lenOf pd34 rfl) rfl rfl (mroom rfl rfl) (D d7_24) (by decide) (by decide) fun T162 h162 vm162 v162 X162 C162 z162 q162 => ?_
        obtain ⟨rfl, K162⟩ := q162
        rw [K162] at X162 C162
        show Gets p e below _ (T162.setTop (mkF m 27 #[vR x, vR a2, vI (1 : Int32), vI (cs.getD 0 0)] [(.int (cs.getD 1 0))]))
        have A163 := X162.at
        refine Gets.via (fun _ k => (XS.istoreN A163 hx rfl (D d7_27) rfl (l' := #[vR x, vR a2, vI (1 : Int32), vI (cs.getD 1 0)]) rfl (XS.iloadN A163 hx rfl (D d7_28) rfl k))) ?_
        show Gets p e below _ (T162.setTop (mkF m 29 #[vR x, vR a2, vI (1 : Int32), vI (cs.getD 1 0)] [(.int (cs.getD 1 0))]))
        by_cases b29_34 : (cs.getD 1 0) = (34 : Int32)
        · refine X162.lswH rfl rfl (D d7_29) (by decide) (a := 34) (off := 73) (by rw [b29_34]; decide) (pc' := 102) (by show (0 : Int) ≤ ((29 : Nat) : Int) + 73; decide) rfl ?_
          refine Gets.via (fun _ k => (XS.aloadN A163 hx rfl (D d7_102) rfl rfl k)) ?_
          refine X162.ldcC (w218 hw) (wSt hw) (by decide) (vs := [(.int (38 : Int32)), (.int (113 : Int32)), (.int (117 : Int32)), (.int (111 : Int32)), (.int (116 : Int32)), (.int (59 : Int32))]) (z := (6 : Int32)) ⟨by decide, by decide⟩ (by decide) (by decide) rfl (D d7_103) (n := 24) (by decide) (by decide) (by decide) (by decide) fun T164 h164 vm164 a164 yb164 k164 X164 C164 E164 Z164 Fc164 Fv164 V164 q164 => ?_
          have z164 := E164.1
          have l164 := ltA Z164.lt
          have lb164 := ltA V164.lt
          have f165 := C5.safe (x := a2) (ltA (by omega)) S2
          have f166 := C6.safe (x := a2) (ltA (by omega)) f165
          have f167 := C11.safe (x := a2) (ltA (by omega)) f166
          have f168 := g6_0.keep K15
          have f169 := f168.ext E164
          have ne170 := neA (q164 a2 (Safe.exa X164.hZ.alike f169 (by decide) (by decide))).1
          have nf170 := neA (q164 a2 (Safe.exa X164.hZ.alike f169 (by decide) (by decide))).2
          have f171 := C11.safe (x := d6) (ltA (by omega)) g6_7
          have f172 := g6_6.keep K15
          have f173 := f172.ext E164
          have f174 := C20.safe (x := sd0) (ltA (by omega)) js15_0
          have f175 := C162.safe (x := sd0) (ltA (by omega)) f174
          have f176 := C164.safe (x := sd0) (ltA (by omega)) f175
          have ne177 := neA (q164 sd0 f176).1
          have nf177 := neA (q164 sd0 f176).2
          have f178 : Str Z h164 a164 yb164 k164 [(38 : Int32), (113 : Int32), (117 : Int32), (111 : Int32), (116 : Int32), (59 : Int32)] := ⟨Z164, Fc164, Fv164, V164, (allI ⟨by decide, by decide⟩ (allI ⟨by decide, by decide⟩ (allI ⟨by decide, by decide⟩ (allI ⟨by decide, by decide⟩ (allI ⟨by decide, by decide⟩ (allI ⟨by decide, by decide⟩ allN)))))), Nat.le_of_ble_eq_true rfl⟩
          have f179 : SbA Z h164 a2 sd0 sk0 ev0 := j15_0.ext E164
          refine X164.callV (W := 0) (w91 hw) (w92 hw) (w94 hw) (w93 hw) (nfs rfl (w94 hw)) (by decide) (X164.payM (sf := [sd0]) (rmApA hcx a2 a164 sd0 sk0 ev0 yb164 k164 [(38 : Int32), (113 : Int32), (117 : Int32), (111 : Int32), (116 : Int32), (59 : Int32)] h164 X164.old f179 f178 (by simp only [List.length_append, List.length_cons, List.length_nil]; omega) (leA (by omega)) j15_3 j15_4 (neA (by omega)) (neA (by omega)) (neA (by omega)) (neA (by omega))) (sfS f176 sf0) (w95 hw) (w40 hw)) f169 rfl (sz hml rfl) (argsL := [(.ref a164)]) (rest := []) (lenOf pd35 rfl) rfl rfl (mroom rfl rfl) (D d7_105) (by decide) (by decide) fun T180 h180 vm180 v180 X180 C180 z180 q180 => ?_
          obtain ⟨d2180, kd2180, rfl, K180, g180_0, g180_1, g180_2, g180_3, g180_4⟩ := q180
          have l181 := ltA g180_0.lt
          have l182 := ltA g180_0.lb
          have l183 := neA g180_3
          have l184 := orA g180_4
          have A185 := X180.at
          refine Gets.via (fun _ k => (XS.pop A185 hx rfl (D d7_108) rfl rfl (XS.goto A185 hx rfl (pc0 := 109) (pc' := 118) rfl (D d7_109) (by decide) (by decide) k))) ?_
          exact j118_1 T180 h180 vm180 d2180 kd2180 (ev0 ++ [(38 : Int32), (113 : Int32), (117 : Int32), (111 : Int32), (116 : Int32), (59 : Int32)]) (X180.more (by decide) (by decide)) (((Keep.refl h15 [a2, sd0]).ext E164).trans K180 (allS (Or.inl (memI (i := 0) rfl)) (allS (Or.inl (memI (i := 1) rfl)) all0))) g180_0 (esc_take hi1 j15_1 (pc_34 b29_34)) (by simp only [List.length_append, List.length_cons, List.length_nil]; omega) g180_2 g180_3 (leA (by omega)) g180_1
        · skip
          by_cases b29_38 : (cs.getD 1 0) = (38 : Int32)
          · refine X162.lswH rfl rfl (D d7_29) (by decide) (a := 38) (off := 43) (by rw [b29_38]; decide) (pc' := 72) (by show (0 : Int) ≤ ((29 : Nat) : Int) + 43; decide) rfl ?_
            refine Gets.via (fun _ k => (XS.aloadN A163 hx rfl (D d7_72) rfl rfl k)) ?_
            refine X162.ldcC (w88 hw) (wSt hw) (by decide) (vs := [(.int (38 : Int32)), (.int (97 : Int32)), (.int (109 : Int32)), (.int (112 : Int32)), (.int (59 : Int32))]) (z := (5 : Int32)) ⟨by decide, by decide⟩ (by decide) (by decide) rfl (D d7_73) (n := 20) (by decide) (by decide) (by decide) (by decide) fun T186 h186 vm186 a186 yb186 k186 X186 C186 E186 Z186 Fc186 Fv186 V186 q186 => ?_
            have z186 := E186.1
            have l186 := ltA Z186.lt
            have lb186 := ltA V186.lt
            have f187 := C5.safe (x := a2) (ltA (by omega)) S2
            have f188 := C6.safe (x := a2) (ltA (by omega)) f187
            have f189 := C11.safe (x := a2) (ltA (by omega)) f188
            have f190 := g6_0.keep K15
            have f191 := f190.ext E186
            have ne192 := neA (q186 a2 (Safe.exa X186.hZ.alike f191 (by decide) (by decide))).1
            have nf192 := neA (q186 a2 (Safe.exa X186.hZ.alike f191 (by decide) (by decide))).2
            have f193 := C11.safe (x := d6) (ltA (by omega)) g6_7
            have f194 := g6_6.keep K15
            have f195 := f194.ext E186
            have f196 := C20.safe (x := sd0) (ltA (by omega)) js15_0
            have f197 := C162.safe (x := sd0) (ltA (by omega)) f196
            have f198 := C186.safe (x := sd0) (ltA (by omega)) f197
            have ne199 := neA (q186 sd0 f198).1
            have nf199 := neA (q186 sd0 f198).2
            show Gets p e below _ (T186.setTop (mkF m 75 #[vR x, vR a2, vI (1 : Int32), vI (cs.getD 1 0)] [(.ref a186), (.ref a2)]))
            have f200 : Str Z h186 a186 yb186 k186 [(38 : Int32), (97 : Int32), (109 : Int32), (112 : Int32), (59 : Int32)] := ⟨Z186, Fc186, Fv186, V186, (allI ⟨by decide, by decide⟩ (allI ⟨by decide, by decide⟩ (allI ⟨by decide, by decide⟩ (allI ⟨by decide, by decide⟩ (allI ⟨by decide, by decide⟩ allN))))), Nat.le_of_ble_eq_true rfl⟩
            have f201 : SbA Z h186 a2 sd0 sk0 ev0 := j15_0.ext E186
            refine X186.callV (W := 0) (w91 hw) (w92 hw) (w94 hw) (w93 hw) (nfs rfl (w94 hw)) (by decide) (X186.payM (sf := [sd0]) (rmApA hcx a2 a186 sd0 sk0 ev0 yb186 k186 [(38 : Int32), (97 : Int32), (109 : Int32), (112 : Int32), (59 : Int32)] h186 X186.old f201 f200 (by simp only [List.length_append, List.length_cons, List.length_nil]; omega) (leA (by omega)) j15_3 j15_4 (neA (by omega)) (neA (by omega)) (neA (by omega)) (neA (by omega))) (sfS f198 sf0) (w95 hw) (w40 hw)) f191 rfl (sz hml rfl) (argsL := [(.ref a186)]) (rest := []) (lenOf pd35 rfl) rfl rfl (mroom rfl rfl) (D d7_75) (by decide) (by decide) fun T202 h202 vm202 v202 X202 C202 z202 q202 => ?_
            obtain ⟨d2202, kd2202, rfl, K202, g202_0, g202_1, g202_2, g202_3, g202_4⟩ := q202
            have l203 := ltA g202_0.lt
            have l204 := ltA g202_0.lb
            have l205 := neA g202_3
            have l206 := orA g202_4
            have A207 := X202.at
            refine Gets.via (fun _ k => (XS.pop A207 hx rfl (D d7_78) rfl rfl (XS.goto A207 hx rfl (pc0 := 79) (pc' := 118) rfl (D d7_79) (by decide) (by decide) k))) ?_
            exact j118_1 T202 h202 vm202 d2202 kd2202 (ev0 ++ [(38 : Int32), (97 : Int32), (109 : Int32), (112 : Int32), (59 : Int32)]) (X202.more (by decide) (by decide)) (((Keep.refl h15 [a2, sd0]).ext E186).trans K202 (allS (Or.inl (memI (i := 0) rfl)) (allS (Or.inl (memI (i := 1) rfl)) all0))) g202_0 (esc_take hi1 j15_1 (pc_38 b29_38)) (by simp only [List.length_append, List.length_cons, List.length_nil]; omega) g202_2 g202_3 (leA (by omega)) g202_1
          · skip
            by_cases b29_60 : (cs.getD 1 0) = (60 : Int32)
            · refine X162.lswH rfl rfl (D d7_29) (by decide) (a := 60) (off := 53) (by rw [b29_60]; decide) (pc' := 82) (by show (0 : Int) ≤ ((29 : Nat) : Int) + 53; decide) rfl ?_
              refine Gets.via (fun _ k => (XS.aloadN A163 hx rfl (D d7_82) rfl rfl k)) ?_
              refine X162.ldcC (w241 hw) (wSt hw) (by decide) (vs := [(.int (38 : Int32)), (.int (108 : Int32)), (.int (116 : Int32)), (.int (59 : Int32))]) (z := (4 : Int32)) ⟨by decide, by decide⟩ (by decide) (by decide) rfl (D d7_83) (n := 16) (by decide) (by decide) (by decide) (by decide) fun T208 h208 vm208 a208 yb208 k208 X208 C208 E208 Z208 Fc208 Fv208 V208 q208 => ?_
              have z208 := E208.1
              have l208 := ltA Z208.lt
              have lb208 := ltA V208.lt
              have f209 := C5.safe (x := a2) (ltA (by omega)) S2
              have f210 := C6.safe (x := a2) (ltA (by omega)) f209
              have f211 := C11.safe (x := a2) (ltA (by omega)) f210
              have f212 := g6_0.keep K15
              have f213 := f212.ext E208
              have ne214 := neA (q208 a2 (Safe.exa X208.hZ.alike f213 (by decide) (by decide))).1
              have nf214 := neA (q208 a2 (Safe.exa X208.hZ.alike f213 (by decide) (by decide))).2
              have f215 := C11.safe (x := d6) (ltA (by omega)) g6_7
              have f216 := g6_6.keep K15
              have f217 := f216.ext E208
              have f218 := C20.safe (x := sd0) (ltA (by omega)) js15_0
              have f219 := C162.safe (x := sd0) (ltA (by omega)) f218
              have f220 := C208.safe (x := sd0) (ltA (by omega)) f219
              have ne221 := neA (q208 sd0 f220).1
              have nf221 := neA (q208 sd0 f220).2
              have f222 : Str Z h208 a208 yb208 k208 [(38 : Int32), (108 : Int32), (116 : Int32), (59 : Int32)] := ⟨Z208, Fc208, Fv208, V208, (allI ⟨by decide, by decide⟩ (allI ⟨by decide, by decide⟩ (allI ⟨by decide, by decide⟩ (allI ⟨by decide, by decide⟩ allN)))), Nat.le_of_ble_eq_true rfl⟩
              have f223 : SbA Z h208 a2 sd0 sk0 ev0 := j15_0.ext E208
              refine X208.callV (W := 0) (w91 hw) (w92 hw) (w94 hw) (w93 hw) (nfs rfl (w94 hw)) (by decide) (X208.payM (sf := [sd0]) (rmApA hcx a2 a208 sd0 sk0 ev0 yb208 k208 [(38 : Int32), (108 : Int32), (116 : Int32), (59 : Int32)] h208 X208.old f223 f222 (by simp only [List.length_append, List.length_cons, List.length_nil]; omega) (leA (by omega)) j15_3 j15_4 (neA (by omega)) (neA (by omega)) (neA (by omega)) (neA (by omega))) (sfS f220 sf0) (w95 hw) (w40 hw)) f213 rfl (sz hml rfl) (argsL := [(.ref a208)]) (rest := []) (lenOf pd35 rfl) rfl rfl (mroom rfl rfl) (D d7_85) (by decide) (by decide) fun T224 h224 vm224 v224 X224 C224 z224 q224 => ?_
              obtain ⟨d2224, kd2224, rfl, K224, g224_0, g224_1, g224_2, g224_3, g224_4⟩ := q224
              have l225 := ltA g224_0.lt
              have l226 := ltA g224_0.lb
              have l227 := neA g224_3
              have l228 := orA g224_4
              show Gets p e below _ (T224.setTop (mkF m 88 #[vR x, vR a2, vI (1 : Int32), vI (cs.getD 1 0)] [(.ref a2)]))
              have A229 := X224.at
              refine Gets.via (fun _ k => (XS.pop A229 hx rfl (D d7_88) rfl rfl (XS.goto A229 hx rfl (pc0 := 89) (pc' := 118) rfl (D d7_89) (by decide) (by decide) k))) ?_
              exact j118_1 T224 h224 vm224 d2224 kd2224 (ev0 ++ [(38 : Int32), (108 : Int32), (116 : Int32), (59 : Int32)]) (X224.more (by decide) (by decide)) (((Keep.refl h15 [a2, sd0]).ext E208).trans K224 (allS (Or.inl (memI (i := 0) rfl)) (allS (Or.inl (memI (i := 1) rfl)) all0))) g224_0 (esc_take hi1 j15_1 (pc_60 b29_60)) (by simp only [List.length_append, List.length_cons, List.length_nil]; omega) g224_2 g224_3 (leA (by omega)) g224_1
            · skip
              by_cases b29_62 : (cs.getD 1 0) = (62 : Int32)
              · refine X162.lswH rfl rfl (D d7_29) (by decide) (a := 62) (off := 63) (by rw [b29_62]; decide) (pc' := 92) (by show (0 : Int) ≤ ((29 : Nat) : Int) + 63; decide) rfl ?_
                refine Gets.via (fun _ k => (XS.aloadN A163 hx rfl (D d7_92) rfl rfl k)) ?_
                refine X162.ldcC (w298 hw) (wSt hw) (by decide) (vs := [(.int (38 : Int32)), (.int (103 : Int32)), (.int (116 : Int32)), (.int (59 : Int32))]) (z := (4 : Int32)) ⟨by decide, by decide⟩ (by decide) (by decide) rfl (D d7_93) (n := 16) (by decide) (by decide) (by decide) (by decide) fun T230 h230 vm230 a230 yb230 k230 X230 C230 E230 Z230 Fc230 Fv230 V230 q230 => ?_
                have z230 := E230.1
                have l230 := ltA Z230.lt
                have lb230 := ltA V230.lt
                have f231 := C5.safe (x := a2) (ltA (by omega)) S2
                have f232 := C6.safe (x := a2) (ltA (by omega)) f231
                have f233 := C11.safe (x := a2) (ltA (by omega)) f232
                have f234 := g6_0.keep K15
                have f235 := f234.ext E230
                have ne236 := neA (q230 a2 (Safe.exa X230.hZ.alike f235 (by decide) (by decide))).1
                have nf236 := neA (q230 a2 (Safe.exa X230.hZ.alike f235 (by decide) (by decide))).2
                have f237 := C11.safe (x := d6) (ltA (by omega)) g6_7
                have f238 := g6_6.keep K15
                have f239 := f238.ext E230
                have f240 := C20.safe (x := sd0) (ltA (by omega)) js15_0
                have f241 := C162.safe (x := sd0) (ltA (by omega)) f240
                have f242 := C230.safe (x := sd0) (ltA (by omega)) f241
                have ne243 := neA (q230 sd0 f242).1
                have nf243 := neA (q230 sd0 f242).2
                have f244 : Str Z h230 a230 yb230 k230 [(38 : Int32), (103 : Int32), (116 : Int32), (59 : Int32)] := ⟨Z230, Fc230, Fv230, V230, (allI ⟨by decide, by decide⟩ (allI ⟨by decide, by decide⟩ (allI ⟨by decide, by decide⟩ (allI ⟨by decide, by decide⟩ allN)))), Nat.le_of_ble_eq_true rfl⟩
                have f245 : SbA Z h230 a2 sd0 sk0 ev0 := j15_0.ext E230
                refine X230.callV (W := 0) (w91 hw) (w92 hw) (w94 hw) (w93 hw) (nfs rfl (w94 hw)) (by decide) (X230.payM (sf := [sd0]) (rmApA hcx a2 a230 sd0 sk0 ev0 yb230 k230 [(38 : Int32), (103 : Int32), (116 : Int32), (59 : Int32)] h230 X230.old f245 f244 (by simp only [List.length_append, List.length_cons, List.length_nil]; omega) (leA (by omega)) j15_3 j15_4 (neA (by omega)) (neA (by omega)) (neA (by omega)) (neA (by omega))) (sfS f242 sf0) (w95 hw) (w40 hw)) f235 rfl (sz hml rfl) (argsL := [(.ref a230)]) (rest := []) (lenOf pd35 rfl) rfl rfl (mroom rfl rfl) (D d7_95) (by decide) (by decide) fun T246 h246 vm246 v246 X246 C246 z246 q246 => ?_
                obtain ⟨d2246, kd2246, rfl, K246, g246_0, g246_1, g246_2, g246_3, g246_4⟩ := q246
                have l247 := ltA g246_0.lt
                have l248 := ltA g246_0.lb
                have l249 := neA g246_3
                have l250 := orA g246_4
                have A251 := X246.at
                refine Gets.via (fun _ k => (XS.pop A251 hx rfl (D d7_98) rfl rfl (XS.goto A251 hx rfl (pc0 := 99) (pc' := 118) rfl (D d7_99) (by decide) (by decide) k))) ?_
                exact j118_1 T246 h246 vm246 d2246 kd2246 (ev0 ++ [(38 : Int32), (103 : Int32), (116 : Int32), (59 : Int32)]) (X246.more (by decide) (by decide)) (((Keep.refl h15 [a2, sd0]).ext E230).trans K246 (allS (Or.inl (memI (i := 0) rfl)) (allS (Or.inl (memI (i := 1) rfl)) all0))) g246_0 (esc_take hi1 j15_1 (pc_62 b29_62)) (by simp only [List.length_append, List.length_cons, List.length_nil]; omega) g246_2 g246_3 (leA (by omega)) g246_1
              · skip
                refine X162.lswM rfl rfl (D d7_29) (by decide) (ls_none b29_34 b29_38 b29_60 b29_62) (pc' := 112) (by show (0 : Int) ≤ ((29 : Nat) : Int) + 83; decide) rfl ?_
                refine Gets.via (fun _ k => (XS.aloadN A163 hx rfl (D d7_112) rfl rfl (XS.iloadN A163 hx rfl (D d7_113) rfl k))) ?_
                show Gets p e below _ (T162.setTop (mkF m 114 #[vR x, vR a2, vI (1 : Int32), vI (cs.getD 1 0)] [(.int (cs.getD 1 0)), (.ref a2)]))
                have f252 := g6_0.keep K15
                have f253 := C20.safe (x := sd0) (ltA (by omega)) js15_0
                have f254 := C162.safe (x := sd0) (ltA (by omega)) f253
                refine X162.callV (W := 0) (w205 hw) (w206 hw) (w208 hw) (w207 hw) (nfs rfl (w208 hw)) (by decide) (X162.payM (sf := [sd0]) (rmApcA hcx a2 (cs.getD 1 0) sd0 sk0 ev0 h15 X162.old j15_0 (by omega) hr1 (leA (by omega)) j15_3 j15_4) (sfS f254 sf0) (w209 hw) (w40 hw)) f252 rfl (sz hml rfl) (argsL := [(.int (cs.getD 1 0))]) (rest := []) (lenOf pd36 rfl) rfl rfl (mroom rfl rfl) (D d7_114) (by decide) (by decide) fun T255 h255 vm255 v255 X255 C255 z255 q255 => ?_
                obtain ⟨d2255, kd2255, rfl, K255, g255_0, g255_1, g255_2, g255_3, g255_4⟩ := q255
                have l256 := ltA g255_0.lt
                have l257 := ltA g255_0.lb
                have l258 := neA g255_3
                have l259 := orA g255_4
                have A260 := X255.at
                refine Gets.via (fun _ k => (XS.pop A260 hx rfl (D d7_117) rfl rfl k)) ?_
                exact j118_1 T255 h255 vm255 d2255 kd2255 (ev0 ++ [(cs.getD 1 0)]) (X255.more (by decide) (by decide)) ((Keep.refl h15 [a2, sd0]).trans K255 (allS (Or.inl (memI (i := 0) rfl)) (allS (Or.inl (memI (i := 1) rfl)) all0))) g255_0 (esc_take hi1 j15_1 (pc_o b29_34 b29_38 b29_60 b29_62)) (by simp only [List.length_append, List.length_cons, List.length_nil]; omega) g255_2 g255_3 (leA (by omega)) g255_1
      · have A261 := X20.at
        refine Gets.via (fun _ k => (XS.icmpYes A261 hx rfl (pc0 := 19) (pc' := 124) rfl (D d7_19) rfl (Jvm.Free.XT.ii_ge_t b19_1) (by decide) (by decide) k)) ?_
        refine Gets.via (fun _ k => (XS.aloadN A261 hx rfl (D d7_124) rfl rfl k)) ?_
        have hE : ev0 = esc cs := esc_all j15_1 (by have := of_ge_inv (a := 1) (by omega) b19_1; omega)
        have f262 := g6_0.keep K15
        refine X20.callV (W := 0) (w152 hw) (w153 hw) (w155 hw) (w154 hw) (nfs rfl (w155 hw)) (by decide) (X20.payM (sf := []) (rmTsA hcx a2 sd0 sk0 ev0 h15 X20.old j15_0 (by omega)) sf0 (w156 hw) (w40 hw)) f262 rfl (sz hml rfl) (argsL := []) (rest := []) (lenOf pd33 rfl) rfl rfl (mroom rfl rfl) (D d7_125) (by decide) (by decide) fun T263 h263 vm263 v263 X263 C263 z263 q263 => ?_
        obtain ⟨a263, rfl, K263, g263_0⟩ := q263
        have l264 := ltA g263_0.lt
        exact X263.retA hret rfl rfl rfl (D d7_128) (by decide) (by decide) (fun vmE CE => ⟨a263, ev0, rfl, (((((Keep.refl h0 []).ext E2).trans K6 (allS (Or.inr (leA (by omega))) all0)).trans K15 (allS (Or.inr (leA (by omega))) (allS (Or.inr (leA (by omega))) all0))).trans K263 all0), g263_0, hE⟩)
    refine Gets.via (fun _ k => (XS.aloadN A12 hx rfl (D d7_22) rfl rfl (XS.iloadN A12 hx rfl (D d7_23) rfl k))) ?_
    have f265 : Any Z h6 x cs := Pr0.keep (((Keep.refl h0 []).ext E2).trans K6 (allS (Or.inr (leA (by omega))) all0))
    refine X11.callV (W := 0) (w66 hw) (w67 hw) (w69 hw) (w68 hw) (nfs rfl (w69 hw)) (by decide) (X11.payM (sf := []) (rmChA hcx x (0 : Int32) 0 cs h6 X11.old f265 (by decide) hi0) sf0 (w70 hw) (w7 hw)) f265.exa rfl (sz hml rfl) (argsL := [(.int (0 : Int32))]) (rest := []) (lenOf pd34 rfl) rfl rfl (mroom rfl rfl) (D d7_24) (by decide) (by decide) fun T266 h266 vm266 v266 X266 C266 z266 q266 => ?_
    obtain ⟨rfl, K266⟩ := q266
    rw [K266] at X266 C266
    show Gets p e below _ (T266.setTop (mkF m 27 #[vR x, vR a2, vI (0 : Int32), .unset] [(.int (cs.getD 0 0))]))
    have A267 := X266.at
    refine Gets.via (fun _ k => (XS.istoreN A267 hx rfl (D d7_27) rfl (l' := #[vR x, vR a2, vI (0 : Int32), vI (cs.getD 0 0)]) rfl (XS.iloadN A267 hx rfl (D d7_28) rfl k))) ?_
    show Gets p e below _ (T266.setTop (mkF m 29 #[vR x, vR a2, vI (0 : Int32), vI (cs.getD 0 0)] [(.int (cs.getD 0 0))]))
    by_cases b29_34 : (cs.getD 0 0) = (34 : Int32)
    · refine X266.lswH rfl rfl (D d7_29) (by decide) (a := 34) (off := 73) (by rw [b29_34]; decide) (pc' := 102) (by show (0 : Int) ≤ ((29 : Nat) : Int) + 73; decide) rfl ?_
      refine Gets.via (fun _ k => (XS.aloadN A267 hx rfl (D d7_102) rfl rfl k)) ?_
      refine X266.ldcC (w218 hw) (wSt hw) (by decide) (vs := [(.int (38 : Int32)), (.int (113 : Int32)), (.int (117 : Int32)), (.int (111 : Int32)), (.int (116 : Int32)), (.int (59 : Int32))]) (z := (6 : Int32)) ⟨by decide, by decide⟩ (by decide) (by decide) rfl (D d7_103) (n := 24) (by decide) (by decide) (by decide) (by decide) fun T268 h268 vm268 a268 yb268 k268 X268 C268 E268 Z268 Fc268 Fv268 V268 q268 => ?_
      have z268 := E268.1
      have l268 := ltA Z268.lt
      have lb268 := ltA V268.lt
      have f269 := C5.safe (x := a2) (ltA (by omega)) S2
      have f270 := C6.safe (x := a2) (ltA (by omega)) f269
      have f271 := C11.safe (x := a2) (ltA (by omega)) f270
      have f272 := C266.safe (x := a2) (ltA (by omega)) f271
      have f273 := C268.safe (x := a2) (ltA (by omega)) f272
      have ne274 := neA (q268 a2 f273).1
      have nf274 := neA (q268 a2 f273).2
      have f275 := C11.safe (x := d6) (ltA (by omega)) g6_7
      have f276 := C266.safe (x := d6) (ltA (by omega)) f275
      have f277 := C268.safe (x := d6) (ltA (by omega)) f276
      have ne278 := neA (q268 d6 f277).1
      have nf278 := neA (q268 d6 f277).2
      have f279 : Str Z h268 a268 yb268 k268 [(38 : Int32), (113 : Int32), (117 : Int32), (111 : Int32), (116 : Int32), (59 : Int32)] := ⟨Z268, Fc268, Fv268, V268, (allI ⟨by decide, by decide⟩ (allI ⟨by decide, by decide⟩ (allI ⟨by decide, by decide⟩ (allI ⟨by decide, by decide⟩ (allI ⟨by decide, by decide⟩ (allI ⟨by decide, by decide⟩ allN)))))), Nat.le_of_ble_eq_true rfl⟩
      have f280 := g6_0.ext E268
      have f281 : SbA Z h268 a2 d6 kd6 ([] : List Int32) := f14.ext E268
      refine X268.callV (W := 0) (w91 hw) (w92 hw) (w94 hw) (w93 hw) (nfs rfl (w94 hw)) (by decide) (X268.payM (sf := [d6]) (rmApA hcx a2 a268 d6 kd6 ([] : List Int32) yb268 k268 [(38 : Int32), (113 : Int32), (117 : Int32), (111 : Int32), (116 : Int32), (59 : Int32)] h268 X268.old f281 f279 (by first | exact Nat.le_of_ble_eq_true rfl | omega) (leA (by omega)) (leA (by omega)) (neA (by omega)) (neA (by omega)) (neA (by omega)) (neA (by omega)) (neA (by omega))) (sfS f277 sf0) (w95 hw) (w40 hw)) f280 rfl (sz hml rfl) (argsL := [(.ref a268)]) (rest := []) (lenOf pd35 rfl) rfl rfl (mroom rfl rfl) (D d7_105) (by decide) (by decide) fun T282 h282 vm282 v282 X282 C282 z282 q282 => ?_
      obtain ⟨d2282, kd2282, rfl, K282, g282_0, g282_1, g282_2, g282_3, g282_4⟩ := q282
      have l283 := ltA g282_0.lt
      have l284 := ltA g282_0.lb
      have l285 := neA g282_3
      have l286 := orA g282_4
      have A287 := X282.at
      refine Gets.via (fun _ k => (XS.pop A287 hx rfl (D d7_108) rfl rfl (XS.goto A287 hx rfl (pc0 := 109) (pc' := 118) rfl (D d7_109) (by decide) (by decide) k))) ?_
      exact j118_0 T282 h282 vm282 d2282 kd2282 (([] : List Int32) ++ [(38 : Int32), (113 : Int32), (117 : Int32), (111 : Int32), (116 : Int32), (59 : Int32)]) (X282.more (by decide) (by decide)) (((Keep.refl h6 [a2, d6]).ext E268).trans K282 (allS (Or.inl (memI (i := 0) rfl)) (allS (Or.inl (memI (i := 1) rfl)) all0))) g282_0 (esc_take hi0 (show ([] : List Int32) = esc (cs.take 0) from rfl) (pc_34 b29_34)) (by simp only [List.length_append, List.length_cons, List.length_nil]; omega) g282_2 g282_3 (leA (by omega)) g282_1
    · skip
      by_cases b29_38 : (cs.getD 0 0) = (38 : Int32)
      · refine X266.lswH rfl rfl (D d7_29) (by decide) (a := 38) (off := 43) (by rw [b29_38]; decide) (pc' := 72) (by show (0 : Int) ≤ ((29 : Nat) : Int) + 43; decide) rfl ?_
        refine Gets.via (fun _ k => (XS.aloadN A267 hx rfl (D d7_72) rfl rfl k)) ?_
        refine X266.ldcC (w88 hw) (wSt hw) (by decide) (vs := [(.int (38 : Int32)), (.int (97 : Int32)), (.int (109 : Int32)), (.int (112 : Int32)), (.int (59 : Int32))]) (z := (5 : Int32)) ⟨by decide, by decide⟩ (by decide) (by decide) rfl (D d7_73) (n := 20) (by decide) (by decide) (by decide) (by decide) fun T288 h288 vm288 a288 yb288 k288 X288 C288 E288 Z288 Fc288 Fv288 V288 q288 => ?_
        have z288 := E288.1
        have l288 := ltA Z288.lt
        have lb288 := ltA V288.lt
        have f289 := C5.safe (x := a2) (ltA (by omega)) S2
        have f290 := C6.safe (x := a2) (ltA (by omega)) f289
        have f291 := C11.safe (x := a2) (ltA (by omega)) f290
        have f292 := C266.safe (x := a2) (ltA (by omega)) f291
        have f293 := C288.safe (x := a2) (ltA (by omega)) f292
        have ne294 := neA (q288 a2 f293).1
        have nf294 := neA (q288 a2 f293).2
        have f295 := C11.safe (x := d6) (ltA (by omega)) g6_7
        have f296 := C266.safe (x := d6) (ltA (by omega)) f295
        have f297 := C288.safe (x := d6) (ltA (by omega)) f296
        have ne298 := neA (q288 d6 f297).1
        have nf298 := neA (q288 d6 f297).2
        show Gets p e below _ (T288.setTop (mkF m 75 #[vR x, vR a2, vI (0 : Int32), vI (cs.getD 0 0)] [(.ref a288), (.ref a2)]))
        have f299 : Str Z h288 a288 yb288 k288 [(38 : Int32), (97 : Int32), (109 : Int32), (112 : Int32), (59 : Int32)] := ⟨Z288, Fc288, Fv288, V288, (allI ⟨by decide, by decide⟩ (allI ⟨by decide, by decide⟩ (allI ⟨by decide, by decide⟩ (allI ⟨by decide, by decide⟩ (allI ⟨by decide, by decide⟩ allN))))), Nat.le_of_ble_eq_true rfl⟩
        have f300 := g6_0.ext E288
        have f301 : SbA Z h288 a2 d6 kd6 ([] : List Int32) := f14.ext E288
        refine X288.callV (W := 0) (w91 hw) (w92 hw) (w94 hw) (w93 hw) (nfs rfl (w94 hw)) (by decide) (X288.payM (sf := [d6]) (rmApA hcx a2 a288 d6 kd6 ([] : List Int32) yb288 k288 [(38 : Int32), (97 : Int32), (109 : Int32), (112 : Int32), (59 : Int32)] h288 X288.old f301 f299 (by first | exact Nat.le_of_ble_eq_true rfl | omega) (leA (by omega)) (leA (by omega)) (neA (by omega)) (neA (by omega)) (neA (by omega)) (neA (by omega)) (neA (by omega))) (sfS f297 sf0) (w95 hw) (w40 hw)) f300 rfl (sz hml rfl) (argsL := [(.ref a288)]) (rest := []) (lenOf pd35 rfl) rfl rfl (mroom rfl rfl) (D d7_75) (by decide) (by decide) fun T302 h302 vm302 v302 X302 C302 z302 q302 => ?_
        obtain ⟨d2302, kd2302, rfl, K302, g302_0, g302_1, g302_2, g302_3, g302_4⟩ := q302
        have l303 := ltA g302_0.lt
        have l304 := ltA g302_0.lb
        have l305 := neA g302_3
        have l306 := orA g302_4
        have A307 := X302.at
        refine Gets.via (fun _ k => (XS.pop A307 hx rfl (D d7_78) rfl rfl (XS.goto A307 hx rfl (pc0 := 79) (pc' := 118) rfl (D d7_79) (by decide) (by decide) k))) ?_
        exact j118_0 T302 h302 vm302 d2302 kd2302 (([] : List Int32) ++ [(38 : Int32), (97 : Int32), (109 : Int32), (112 : Int32), (59 : Int32)]) (X302.more (by decide) (by decide)) (((Keep.refl h6 [a2, d6]).ext E288).trans K302 (allS (Or.inl (memI (i := 0) rfl)) (allS (Or.inl (memI (i := 1) rfl)) all0))) g302_0 (esc_take hi0 (show ([] : List Int32) = esc (cs.take 0) from rfl) (pc_38 b29_38)) (by simp only [List.length_append, List.length_cons, List.length_nil]; omega) g302_2 g302_3 (leA (by omega)) g302_1
      · skip
        by_cases b29_60 : (cs.getD 0 0) = (60 : Int32)
        · refine X266.lswH rfl rfl (D d7_29) (by decide) (a := 60) (off := 53) (by rw [b29_60]; decide) (pc' := 82) (by show (0 : Int) ≤ ((29 : Nat) : Int) + 53; decide) rfl ?_
          refine Gets.via (fun _ k => (XS.aloadN A267 hx rfl (D d7_82) rfl rfl k)) ?_
          refine X266.ldcC (w241 hw) (wSt hw) (by decide) (vs := [(.int (38 : Int32)), (.int (108 : Int32)), (.int (116 : Int32)), (.int (59 : Int32))]) (z := (4 : Int32)) ⟨by decide, by decide⟩ (by decide) (by decide) rfl (D d7_83) (n := 16) (by decide) (by decide) (by decide) (by decide) fun T308 h308 vm308 a308 yb308 k308 X308 C308 E308 Z308 Fc308 Fv308 V308 q308 => ?_
          have z308 := E308.1
          have l308 := ltA Z308.lt
          have lb308 := ltA V308.lt
          have f309 := C5.safe (x := a2) (ltA (by omega)) S2
          have f310 := C6.safe (x := a2) (ltA (by omega)) f309
          have f311 := C11.safe (x := a2) (ltA (by omega)) f310
          have f312 := C266.safe (x := a2) (ltA (by omega)) f311
          have f313 := C308.safe (x := a2) (ltA (by omega)) f312
          have ne314 := neA (q308 a2 f313).1
          have nf314 := neA (q308 a2 f313).2
          have f315 := C11.safe (x := d6) (ltA (by omega)) g6_7
          have f316 := C266.safe (x := d6) (ltA (by omega)) f315
          have f317 := C308.safe (x := d6) (ltA (by omega)) f316
          have ne318 := neA (q308 d6 f317).1
          have nf318 := neA (q308 d6 f317).2
          have f319 : Str Z h308 a308 yb308 k308 [(38 : Int32), (108 : Int32), (116 : Int32), (59 : Int32)] := ⟨Z308, Fc308, Fv308, V308, (allI ⟨by decide, by decide⟩ (allI ⟨by decide, by decide⟩ (allI ⟨by decide, by decide⟩ (allI ⟨by decide, by decide⟩ allN)))), Nat.le_of_ble_eq_true rfl⟩
          have f320 := g6_0.ext E308
          have f321 : SbA Z h308 a2 d6 kd6 ([] : List Int32) := f14.ext E308
          refine X308.callV (W := 0) (w91 hw) (w92 hw) (w94 hw) (w93 hw) (nfs rfl (w94 hw)) (by decide) (X308.payM (sf := [d6]) (rmApA hcx a2 a308 d6 kd6 ([] : List Int32) yb308 k308 [(38 : Int32), (108 : Int32), (116 : Int32), (59 : Int32)] h308 X308.old f321 f319 (by first | exact Nat.le_of_ble_eq_true rfl | omega) (leA (by omega)) (leA (by omega)) (neA (by omega)) (neA (by omega)) (neA (by omega)) (neA (by omega)) (neA (by omega))) (sfS f317 sf0) (w95 hw) (w40 hw)) f320 rfl (sz hml rfl) (argsL := [(.ref a308)]) (rest := []) (lenOf pd35 rfl) rfl rfl (mroom rfl rfl) (D d7_85) (by decide) (by decide) fun T322 h322 vm322 v322 X322 C322 z322 q322 => ?_
          obtain ⟨d2322, kd2322, rfl, K322, g322_0, g322_1, g322_2, g322_3, g322_4⟩ := q322
          have l323 := ltA g322_0.lt
          have l324 := ltA g322_0.lb
          have l325 := neA g322_3
          have l326 := orA g322_4
          show Gets p e below _ (T322.setTop (mkF m 88 #[vR x, vR a2, vI (0 : Int32), vI (cs.getD 0 0)] [(.ref a2)]))
          have A327 := X322.at
          refine Gets.via (fun _ k => (XS.pop A327 hx rfl (D d7_88) rfl rfl (XS.goto A327 hx rfl (pc0 := 89) (pc' := 118) rfl (D d7_89) (by decide) (by decide) k))) ?_
          exact j118_0 T322 h322 vm322 d2322 kd2322 (([] : List Int32) ++ [(38 : Int32), (108 : Int32), (116 : Int32), (59 : Int32)]) (X322.more (by decide) (by decide)) (((Keep.refl h6 [a2, d6]).ext E308).trans K322 (allS (Or.inl (memI (i := 0) rfl)) (allS (Or.inl (memI (i := 1) rfl)) all0))) g322_0 (esc_take hi0 (show ([] : List Int32) = esc (cs.take 0) from rfl) (pc_60 b29_60)) (by simp only [List.length_append, List.length_cons, List.length_nil]; omega) g322_2 g322_3 (leA (by omega)) g322_1
        · skip
          by_cases b29_62 : (cs.getD 0 0) = (62 : Int32)
          · refine X266.lswH rfl rfl (D d7_29) (by decide) (a := 62) (off := 63) (by rw [b29_62]; decide) (pc' := 92) (by show (0 : Int) ≤ ((29 : Nat) : Int) + 63; decide) rfl ?_
            refine Gets.via (fun _ k => (XS.aloadN A267 hx rfl (D d7_92) rfl rfl k)) ?_
            refine X266.ldcC (w298 hw) (wSt hw) (by decide) (vs := [(.int (38 : Int32)), (.int (103 : Int32)), (.int (116 : Int32)), (.int (59 : Int32))]) (z := (4 : Int32)) ⟨by decide, by decide⟩ (by decide) (by decide) rfl (D d7_93) (n := 16) (by decide) (by decide) (by decide) (by decide) fun T328 h328 vm328 a328 yb328 k328 X328 C328 E328 Z328 Fc328 Fv328 V328 q328 => ?_
            have z328 := E328.1
            have l328 := ltA Z328.lt
            have lb328 := ltA V328.lt
            have f329 := C5.safe (x := a2) (ltA (by omega)) S2
            have f330 := C6.safe (x := a2) (ltA (by omega)) f329
            have f331 := C11.safe (x := a2) (ltA (by omega)) f330
            have f332 := C266.safe (x := a2) (ltA (by omega)) f331
            have f333 := C328.safe (x := a2) (ltA (by omega)) f332
            have ne334 := neA (q328 a2 f333).1
            have nf334 := neA (q328 a2 f333).2
            have f335 := C11.safe (x := d6) (ltA (by omega)) g6_7
            have f336 := C266.safe (x := d6) (ltA (by omega)) f335
            have f337 := C328.safe (x := d6) (ltA (by omega)) f336
            have ne338 := neA (q328 d6 f337).1
            have nf338 := neA (q328 d6 f337).2
            have f339 : Str Z h328 a328 yb328 k328 [(38 : Int32), (103 : Int32), (116 : Int32), (59 : Int32)] := ⟨Z328, Fc328, Fv328, V328, (allI ⟨by decide, by decide⟩ (allI ⟨by decide, by decide⟩ (allI ⟨by decide, by decide⟩ (allI ⟨by decide, by decide⟩ allN)))), Nat.le_of_ble_eq_true rfl⟩
            have f340 := g6_0.ext E328
            have f341 : SbA Z h328 a2 d6 kd6 ([] : List Int32) := f14.ext E328
            refine X328.callV (W := 0) (w91 hw) (w92 hw) (w94 hw) (w93 hw) (nfs rfl (w94 hw)) (by decide) (X328.payM (sf := [d6]) (rmApA hcx a2 a328 d6 kd6 ([] : List Int32) yb328 k328 [(38 : Int32), (103 : Int32), (116 : Int32), (59 : Int32)] h328 X328.old f341 f339 (by first | exact Nat.le_of_ble_eq_true rfl | omega) (leA (by omega)) (leA (by omega)) (neA (by omega)) (neA (by omega)) (neA (by omega)) (neA (by omega)) (neA (by omega))) (sfS f337 sf0) (w95 hw) (w40 hw)) f340 rfl (sz hml rfl) (argsL := [(.ref a328)]) (rest := []) (lenOf pd35 rfl) rfl rfl (mroom rfl rfl) (D d7_95) (by decide) (by decide) fun T342 h342 vm342 v342 X342 C342 z342 q342 => ?_
            obtain ⟨d2342, kd2342, rfl, K342, g342_0, g342_1, g342_2, g342_3, g342_4⟩ := q342
            have l343 := ltA g342_0.lt
            have l344 := ltA g342_0.lb
            have l345 := neA g342_3
            have l346 := orA g342_4
            have A347 := X342.at
            refine Gets.via (fun _ k => (XS.pop A347 hx rfl (D d7_98) rfl rfl (XS.goto A347 hx rfl (pc0 := 99) (pc' := 118) rfl (D d7_99) (by decide) (by decide) k))) ?_
            exact j118_0 T342 h342 vm342 d2342 kd2342 (([] : List Int32) ++ [(38 : Int32), (103 : Int32), (116 : Int32), (59 : Int32)]) (X342.more (by decide) (by decide)) (((Keep.refl h6 [a2, d6]).ext E328).trans K342 (allS (Or.inl (memI (i := 0) rfl)) (allS (Or.inl (memI (i := 1) rfl)) all0))) g342_0 (esc_take hi0 (show ([] : List Int32) = esc (cs.take 0) from rfl) (pc_62 b29_62)) (by simp only [List.length_append, List.length_cons, List.length_nil]; omega) g342_2 g342_3 (leA (by omega)) g342_1
          · skip
            refine X266.lswM rfl rfl (D d7_29) (by decide) (ls_none b29_34 b29_38 b29_60 b29_62) (pc' := 112) (by show (0 : Int) ≤ ((29 : Nat) : Int) + 83; decide) rfl ?_
            refine Gets.via (fun _ k => (XS.aloadN A267 hx rfl (D d7_112) rfl rfl (XS.iloadN A267 hx rfl (D d7_113) rfl k))) ?_
            show Gets p e below _ (T266.setTop (mkF m 114 #[vR x, vR a2, vI (0 : Int32), vI (cs.getD 0 0)] [(.int (cs.getD 0 0)), (.ref a2)]))
            have f348 := C11.safe (x := d6) (ltA (by omega)) g6_7
            have f349 := C266.safe (x := d6) (ltA (by omega)) f348
            refine X266.callV (W := 0) (w205 hw) (w206 hw) (w208 hw) (w207 hw) (nfs rfl (w208 hw)) (by decide) (X266.payM (sf := [d6]) (rmApcA hcx a2 (cs.getD 0 0) d6 kd6 ([] : List Int32) h6 X266.old f14 (by first | exact Nat.le_of_ble_eq_true rfl | omega) hr0 (leA (by omega)) (leA (by omega)) (neA (by omega))) (sfS f349 sf0) (w209 hw) (w40 hw)) g6_0 rfl (sz hml rfl) (argsL := [(.int (cs.getD 0 0))]) (rest := []) (lenOf pd36 rfl) rfl rfl (mroom rfl rfl) (D d7_114) (by decide) (by decide) fun T350 h350 vm350 v350 X350 C350 z350 q350 => ?_
            obtain ⟨d2350, kd2350, rfl, K350, g350_0, g350_1, g350_2, g350_3, g350_4⟩ := q350
            have l351 := ltA g350_0.lt
            have l352 := ltA g350_0.lb
            have l353 := neA g350_3
            have l354 := orA g350_4
            have A355 := X350.at
            refine Gets.via (fun _ k => (XS.pop A355 hx rfl (D d7_117) rfl rfl k)) ?_
            exact j118_0 T350 h350 vm350 d2350 kd2350 (([] : List Int32) ++ [(cs.getD 0 0)]) (X350.more (by decide) (by decide)) ((Keep.refl h6 [a2, d6]).trans K350 (allS (Or.inl (memI (i := 0) rfl)) (allS (Or.inl (memI (i := 1) rfl)) all0))) g350_0 (esc_take hi0 (show ([] : List Int32) = esc (cs.take 0) from rfl) (pc_o b29_34 b29_38 b29_60 b29_62)) (by simp only [List.length_append, List.length_cons, List.length_nil]; omega) g350_2 g350_3 (leA (by omega)) g350_1
  · have A356 := X11.at
    refine Gets.via (fun _ k => (XS.icmpYes A356 hx rfl (pc0 := 19) (pc' := 124) rfl (D d7_19) rfl (Jvm.Free.XT.ii_ge_t b19) (by decide) (by decide) k)) ?_
    refine Gets.via (fun _ k => (XS.aloadN A356 hx rfl (D d7_124) rfl rfl k)) ?_
    have u357 : ∀ z_ ∈ ([] : List Int32), ¬ z_ < 0 ∧ ¬ (255 : Int32) < z_ := allN
    have f358 : SbA Z h6 a2 d6 kd6 ([] : List Int32) := Or.inl ⟨(cs).length, g6_0, g6_1, g6_2, g6_3, g6_4, g6_5, g6_6, (by simp only [List.length_append, List.length_cons, List.length_nil]; omega), (by simp only [List.length_append, List.length_cons, List.length_nil]; omega), u357⟩
    have hE : ([] : List Int32) = esc cs := esc_all (show ([] : List Int32) = esc (cs.take 0) from rfl) (by have := of_ge_inv (a := 0) (by omega) b19; omega)
    refine X11.callV (W := 0) (w152 hw) (w153 hw) (w155 hw) (w154 hw) (nfs rfl (w155 hw)) (by decide) (X11.payM (sf := []) (rmTsA hcx a2 d6 kd6 ([] : List Int32) h6 X11.old f358 (by first | exact Nat.le_of_ble_eq_true rfl | omega)) sf0 (w156 hw) (w40 hw)) g6_0 rfl (sz hml rfl) (argsL := []) (rest := []) (lenOf pd33 rfl) rfl rfl (mroom rfl rfl) (D d7_125) (by decide) (by decide) fun T359 h359 vm359 v359 X359 C359 z359 q359 => ?_
    obtain ⟨a359, rfl, K359, g359_0⟩ := q359
    have l360 := ltA g359_0.lt
    exact X359.retA hret rfl rfl rfl (D d7_128) (by decide) (by decide) (fun vmE CE => ⟨a359, ([] : List Int32), rfl, ((((Keep.refl h0 []).ext E2).trans K6 (allS (Or.inr (leA (by omega))) all0)).trans K359 all0), g359_0, hE⟩)
abbrev RrmPick : Room := { frames := 0, cells := 0, slots := 0, locals := 0 }
def QrmPick (Z : State) (u : Int32) (h0 : Heap) (v : Option Value) (vm : Vm) (h : Heap) : Prop := ∃ (r : Int32), v = some (.int r) ∧ h = h0 ∧ ¬ r < 0 ∧ ¬ (65535 : Int32) < r
theorem rmPick (hcx : Cx Z a0 zc fm) (u : Int32) (h0 : Heap) (O0 : Old Z Z.heap.size h0)  : Met l Z consts_1 (⟨"com/example/carve/carve/http/HtmlEscapePinLaw", "pick", "(I)C"⟩ : MethodName) method_2_code 2 (some .char) [] RrmPick [] #[(.int u)] h0 (QrmPick Z u h0) := by
  have ⟨hw, hEL, O2, P5, O4, P6, OA, OH, OB⟩ := hcx
  refine Met.start (a0 := a0) (Ls := #[vI u, .unset]) pn0 hEL O0 (fun m => by first | (simp [entryFrame, mkF, argsToLocals, Value.category]; done) | rfl) ?_
  intro p e s m below meth cc T0 vm0 X0 sf0_ D hml hret hnm hx zz A0
  refine Gets.via (fun _ k => (XS.iloadN A0 hx rfl (D d0_0) rfl (XS.bipush A0 hx rfl (D d0_1) (XS.iand A0 hx rfl (D d0_3) rfl (XS.istoreN A0 hx rfl (D d0_4) rfl (l' := #[vI u, vI (u &&& (7 : Int32))]) rfl (XS.iloadN A0 hx rfl (D d0_5) rfl k)))))) ?_
  by_cases b6 : (u &&& (7 : Int32)) = (0 : Int32)
  · refine Gets.via (fun _ k => (XS.ifNo A0 hx rfl (D d0_6) rfl (Jvm.Free.XT.i0_ne_f b6) k)) ?_
    refine Gets.via (fun _ k => (XS.bipush A0 hx rfl (D d0_9) k)) ?_
    exact X0.retI hret (by decide) (by simp) (D d0_11) (by decide) (by decide) (fun vmE CE => ⟨(38 : Int32), rfl, rfl, ⟨by decide, by decide⟩⟩)
  · refine Gets.via (fun _ k => (XS.ifYes A0 hx rfl (pc0 := 6) (pc' := 12) rfl (D d0_6) rfl (Jvm.Free.XT.i0_ne_t b6) (by decide) (by decide) k)) ?_
    refine Gets.via (fun _ k => (XS.iloadN A0 hx rfl (D d0_12) rfl (XS.iconst A0 hx rfl (D d0_13) k))) ?_
    show Gets p e below _ (T0.setTop (mkF m 14 #[vI u, vI (u &&& (7 : Int32))] [(.int (1 : Int32)), (.int (u &&& (7 : Int32)))]))
    by_cases b14 : (u &&& (7 : Int32)) = (1 : Int32)
    · refine Gets.via (fun _ k => (XS.icmpNo A0 hx rfl (D d0_14) rfl (Jvm.Free.XT.ii_ne_f b14) k)) ?_
      refine Gets.via (fun _ k => (XS.bipush A0 hx rfl (D d0_17) k)) ?_
      exact X0.retI hret (by decide) (by simp) (D d0_19) (by decide) (by decide) (fun vmE CE => ⟨(60 : Int32), rfl, rfl, ⟨by decide, by decide⟩⟩)
    · refine Gets.via (fun _ k => (XS.icmpYes A0 hx rfl (pc0 := 14) (pc' := 20) rfl (D d0_14) rfl (Jvm.Free.XT.ii_ne_t b14) (by decide) (by decide) k)) ?_
      refine Gets.via (fun _ k => (XS.iloadN A0 hx rfl (D d0_20) rfl (XS.iconst A0 hx rfl (D d0_21) k))) ?_
      by_cases b22 : (u &&& (7 : Int32)) = (2 : Int32)
      · refine Gets.via (fun _ k => (XS.icmpNo A0 hx rfl (D d0_22) rfl (Jvm.Free.XT.ii_ne_f b22) k)) ?_
        refine Gets.via (fun _ k => (XS.bipush A0 hx rfl (D d0_25) k)) ?_
        exact X0.retI hret (by decide) (by simp) (D d0_27) (by decide) (by decide) (fun vmE CE => ⟨(62 : Int32), rfl, rfl, ⟨by decide, by decide⟩⟩)
      · refine Gets.via (fun _ k => (XS.icmpYes A0 hx rfl (pc0 := 22) (pc' := 28) rfl (D d0_22) rfl (Jvm.Free.XT.ii_ne_t b22) (by decide) (by decide) k)) ?_
        refine Gets.via (fun _ k => (XS.iloadN A0 hx rfl (D d0_28) rfl (XS.iconst A0 hx rfl (D d0_29) k))) ?_
        by_cases b30 : (u &&& (7 : Int32)) = (3 : Int32)
        · refine Gets.via (fun _ k => (XS.icmpNo A0 hx rfl (D d0_30) rfl (Jvm.Free.XT.ii_ne_f b30) k)) ?_
          refine Gets.via (fun _ k => (XS.bipush A0 hx rfl (D d0_33) k)) ?_
          show Gets p e below _ (T0.setTop (mkF m 35 #[vI u, vI (u &&& (7 : Int32))] [(.int (34 : Int32))]))
          exact X0.retI hret (by decide) (by simp) (D d0_35) (by decide) (by decide) (fun vmE CE => ⟨(34 : Int32), rfl, rfl, ⟨by decide, by decide⟩⟩)
        · refine Gets.via (fun _ k => (XS.icmpYes A0 hx rfl (pc0 := 30) (pc' := 36) rfl (D d0_30) rfl (Jvm.Free.XT.ii_ne_t b30) (by decide) (by decide) k)) ?_
          refine Gets.via (fun _ k => (XS.iloadN A0 hx rfl (D d0_36) rfl (XS.iconst A0 hx rfl (D d0_37) (XS.iushr A0 hx rfl (D d0_38) rfl (i2cV A0 hx rfl (D d0_39) rfl (v := (i2c (Jvm.Free.XT.ushr u (3 : Int32)))) rfl k))))) ?_
          exact X0.retI hret (nar16 (i2c_rng _)) (by simp) (D d0_40) (by decide) (by decide) (fun vmE CE => ⟨(i2c (Jvm.Free.XT.ushr u (3 : Int32))), rfl, rfl, (i2c_rng _)⟩)
abbrev Rrm40 : Room := { frames := 0, cells := 0, slots := 0, locals := 0 }
def Qrm40 (Z : State) (c : Int32) (h0 : Heap) (v : Option Value) (vm : Vm) (h : Heap) : Prop := v = some (.int (1 : Int32)) ∧ h = h0
theorem rm40 (hcx : Cx Z a0 zc fm) (c : Int32) (h0 : Heap) (O0 : Old Z Z.heap.size h0) (Pr0 : ¬ c < 0 ∧ ¬ (255 : Int32) < c) : Met l Z consts_1 (⟨"java/lang/StringLatin1", "canEncode", "(C)Z"⟩ : MethodName) jdk_43_method_3_code 1 (some .boolean) [] Rrm40 [] #[(.int c)] h0 (Qrm40 Z c h0) := by
  have ⟨hw, hEL, O2, P5, O4, P6, OA, OH, OB⟩ := hcx
  refine Met.start (a0 := a0) (Ls := #[vI c]) pn40 hEL O0 (fun m => by first | (simp [entryFrame, mkF, argsToLocals, Value.category]; done) | rfl) ?_
  intro p e s m below meth cc T0 vm0 X0 sf0_ D hml hret hnm hx zz A0
  refine Gets.via (fun _ k => (XS.iloadN A0 hx rfl (D d40_0) rfl (XS.sipush A0 hx rfl (D d40_1) (XS.icmpNo A0 hx rfl (D d40_4) rfl (Jvm.Free.XT.ii_gt_f Pr0.2) k)))) ?_
  refine Gets.via (fun _ k => (XS.iconst A0 hx rfl (D d40_7) (XS.goto A0 hx rfl (pc0 := 8) (pc' := 12) rfl (D d40_8) (by decide) (by decide) k))) ?_
  exact X0.retI hret (by decide) (by simp) (D d40_12) (by decide) (by decide) (fun vmE CE => ⟨rfl, rfl⟩)
abbrev Rrm42 : Room := { frames := 0, cells := 1, slots := 1, locals := 0 }
def Qrm42 (Z : State) (c : Int32) (h0 : Heap) (v : Option Value) (vm : Vm) (h : Heap) : Prop := ∃ (t : Addr) (kb : ClassId), v = some (.ref t) ∧ Keep h0 h [] ∧ Arv Z h t kb .byte (1 : Int32) [(.int (c.toInt8.toInt32))] (.int (0 : Int32)) ∧ h0.size ≤ t
theorem rm42 (hcx : Cx Z a0 zc fm) (c : Int32) (h0 : Heap) (O0 : Old Z Z.heap.size h0)  : Met l Z consts_1 (⟨"java/lang/StringLatin1", "toBytes", "(C)[B"⟩ : MethodName) jdk_43_method_46_code 1 (some (.array .byte)) [] Rrm42 [] #[(.int c)] h0 (Qrm42 Z c h0) := by
  have ⟨hw, hEL, O2, P5, O4, P6, OA, OH, OB⟩ := hcx
  refine Met.start (a0 := a0) (Ls := #[vI c]) pn42 hEL O0 (fun m => by first | (simp [entryFrame, mkF, argsToLocals, Value.category]; done) | rfl) ?_
  intro p e s m below meth cc T0 vm0 X0 sf0_ D hml hret hnm hx zz A0
  refine Gets.via (fun _ k => (XS.iconst A0 hx rfl (D d42_0) k)) ?_
  refine X0.newAB (w23 hw) rfl (D d42_1) rfl (by decide) (cap := 1) (by decide) (by decide) (by decide) (by decide) fun T1 h1 a1 k1 X1 C1 E1 g1 S1 V1 Z1 => ?_
  have z1 := E1.1
  have l1 := ltA V1.lt
  have V1_ : Arv Z h1 a1 k1 .byte (1 : Int32) [(.int (0 : Int32))] (.int (0 : Int32)) := padN V1 1
  have A2 := X1.at
  refine Gets.via (fun _ k => (XS.dup A2 hx rfl (D d42_3) rfl rfl (XS.iconst A2 hx rfl (D d42_4) (XS.iloadN A2 hx rfl (D d42_5) rfl (XS.i2b A2 hx rfl (D d42_6) rfl k))))) ?_
  refine X1.stB V1_ (i := 0) (by decide) (by decide) (Nat.le_of_ble_eq_true rfl) (by decide) (v := (c.toInt8.toInt32)) (nar_b _) S1 (leA (by omega)) rfl rfl (D d42_7) fun T3 h3 X3 C3 K3 V3 => ?_
  have z3 := K3.1
  have V3_ : Arv Z h3 a1 k1 .byte (1 : Int32) [(.int (c.toInt8.toInt32))] (.int (0 : Int32)) := V3
  show Gets p e below _ (T3.setTop (mkF m 8 #[vI c] [(.ref a1)]))
  exact X3.retA hret rfl rfl rfl (D d42_8) (by decide) (by decide) (fun vmE CE => ⟨a1, k1, rfl, (((Keep.refl h0 []).ext E1).trans K3 (allS (Or.inr (leA (by omega))) all0)), V3_, (leA (by omega))⟩)
abbrev Rrm43 : Room := { frames := 1, cells := 0, slots := 0, locals := 12 }
def Qrm43 (Z : State) (x : Addr) (t : Addr) (h0 : Heap) (v : Option Value) (vm : Vm) (h : Heap) : Prop := v = none ∧ Keep h0 h [x] ∧ Exa Z h x "java/lang/String" ∧ Fld Z h x "java/lang/String" "coder" "B" (.int (0 : Int32)) ∧ Fld Z h x "java/lang/String" "value" "[B" (.ref t)
theorem rm43 (hcx : Cx Z a0 zc fm) (x : Addr) (t : Addr) (h0 : Heap) (O0 : Old Z Z.heap.size h0) (Pr0 : Exa Z h0 x "java/lang/String") (Pr1 : Fld Z h0 x "java/lang/String" "coder" "B" (.int (0 : Int32))) (Pr2 : Fld Z h0 x "java/lang/String" "value" "[B" .null) (Pr3 : Z.heap.size ≤ x) : Met l Z consts_1 (⟨"java/lang/String", "<init>", "([BB)V"⟩ : MethodName) jdk_42_method_151_code 3 (none) [] Rrm43 [x] #[(.ref x), (.ref t), (.int (0 : Int32))] h0 (Qrm43 Z x t h0) := by
  have ⟨hw, hEL, O2, P5, O4, P6, OA, OH, OB⟩ := hcx
  refine Met.start (a0 := a0) (Ls := #[vR x, vR t, vI (0 : Int32)]) pn43 hEL O0 (fun m => by first | (simp [entryFrame, mkF, argsToLocals, Value.category]; done) | rfl) ?_
  intro p e s m below meth cc T0 vm0 X0 sf0_ D hml hret hnm hx zz A0
  have l1 := ltA Pr0.lt
  have s2 := sf0_ x (memI (i := 0) rfl)
  refine Gets.via (fun _ k => (XS.aloadN A0 hx rfl (D d43_0) rfl rfl k)) ?_
  refine X0.objInit (w15 hw) (w16 hw) (w17 hw) rfl (sz hml rfl) rfl (D d43_1) (by decide) (W := 0) (mroom rfl rfl) (by decide) fun T3 X3 => ?_
  have A4 := X3.at
  refine Gets.via (fun _ k => (XS.aloadN A4 hx rfl (D d43_4) rfl rfl (XS.aloadN A4 hx rfl (D d43_5) rfl rfl k))) ?_
  refine X3.putF (host := "") (Or.inl (w32 hw)) Via.refl Pr2 Pr0 (Or.inr ⟨(w33 hw), rfl, hnm⟩) (w6 hw) (ty := (.array .byte)) (by decide) rfl rfl (leA (by omega)) s2 rfl rfl (D d43_6) fun T5 h5 X5 C5 W5 F5 Z5 => ?_
  have z5 := W5.size
  show Gets p e below _ (T5.setTop (mkF m 9 #[vR x, vR t, vI (0 : Int32)] []))
  have A6 := X5.at
  refine Gets.via (fun _ k => (XS.aloadN A6 hx rfl (D d43_9) rfl rfl (XS.iloadN A6 hx rfl (D d43_10) rfl k))) ?_
  have f8 := Pr1.other W5 (Or.inr (slot_ne (t := .byte) (t' := (.array .byte)) (Or.inr (w31 hw)) (Or.inr (w33 hw)) (by decide) (by decide) (by decide)))
  have f9 := C5.safe (x := x) (ltA (by omega)) s2
  refine X5.putF (host := "") (Or.inl (w30 hw)) Via.refl f8 Z5 (Or.inr ⟨(w31 hw), rfl, hnm⟩) (w6 hw) (ty := .byte) (by decide) (by decide) (by decide) (leA (by omega)) f9 rfl rfl (D d43_11) fun T7 h7 X7 C7 W7 F7 Z7 => ?_
  have z7 := W7.size
  have f10 := F5.other W7 (Or.inr (slot_ne (t := (.array .byte)) (t' := .byte) (Or.inr (w33 hw)) (Or.inr (w31 hw)) (by decide) (by decide) (by decide)))
  exact X7.retV hret (D d43_14) (by decide) (by decide) (fun vmE CE => ⟨rfl, (((Keep.refl h0 [x]).wr W5 (Or.inl (memI (i := 0) rfl))).wr W7 (Or.inl (memI (i := 0) rfl))), Z7, F7, f10⟩)
abbrev Rrm41 : Room := { frames := 2, cells := 2, slots := 5, locals := 27 }
def Qrm41 (Z : State) (c : Int32) (h0 : Heap) (v : Option Value) (vm : Vm) (h : Heap) : Prop := ∃ (a : Addr) (t : Addr) (kb : ClassId), v = some (.ref a) ∧ Keep h0 h [] ∧ Str Z h a t kb [c] ∧ h0.size ≤ a ∧ h0.size ≤ t
theorem rm41 (hcx : Cx Z a0 zc fm) (c : Int32) (h0 : Heap) (O0 : Old Z Z.heap.size h0) (Pr0 : ¬ c < 0 ∧ ¬ (255 : Int32) < c) : Met l Z consts_1 (⟨"java/lang/String", "valueOf", "(C)Ljava/lang/String;"⟩ : MethodName) jdk_42_method_139_code 1 (some (.object "java/lang/String")) [] Rrm41 [] #[(.int c)] h0 (Qrm41 Z c h0) := by
  have ⟨hw, hEL, O2, P5, O4, P6, OA, OH, OB⟩ := hcx
  refine Met.start (a0 := a0) (Ls := #[vI c]) pn41 hEL O0 (fun m => by first | (simp [entryFrame, mkF, argsToLocals, Value.category]; done) | rfl) ?_
  intro p e s m below meth cc T0 vm0 X0 sf0_ D hml hret hnm hx zz A0
  refine X0.getS (host := "") (Or.inl (w18 hw)) Via.refl (X0.sta O2) rfl (D d41_0) fun T1 X1 => ?_
  have A2 := X1.at
  refine Gets.via (fun _ k => (XS.ifNo A2 hx rfl (D d41_3) rfl (Jvm.Free.XT.i0_eq_f P5) k)) ?_
  refine Gets.via (fun _ k => (XS.iloadN A2 hx rfl (D d41_6) rfl k)) ?_
  refine X1.callS (W := 0) (w222 hw) (w216 hw) (w78 hw) (w217 hw) (by decide) (X1.payM (sf := []) (rm40 hcx c h0 X1.old Pr0) sf0 (w217 hw) (w78 hw)) rfl (sz hml rfl) (argsL := [(.int c)]) (rest := []) (lenOf pd26 rfl) rfl rfl (mroom rfl rfl) (D d41_7) (by decide) (by decide) fun T3 h3 vm3 v3 X3 C3 z3 q3 => ?_
  obtain ⟨rfl, K3⟩ := q3
  rw [K3] at X3 C3
  have A4 := X3.at
  refine Gets.via (fun _ k => (XS.ifNo A4 hx rfl (D d41_10) rfl (Jvm.Free.XT.i0_eq_f (by decide)) k)) ?_
  show Gets p e below _ (T3.setTop (mkF m 13 #[vI c] []))
  refine X3.new (w223 hw) (w6 hw) (w7 hw) rfl (D d41_13) (by decide) (by decide) fun T5 h5 a5 X5 C5 E5 g5 Z5 S5 D5 => ?_
  have z5 := E5.1
  have l5 := ltA Z5.lt
  have A6 := X5.at
  refine Gets.via (fun _ k => (XS.dup A6 hx rfl (D d41_16) rfl rfl (XS.iloadN A6 hx rfl (D d41_17) rfl k))) ?_
  refine X5.callS (W := 2) (w224 hw) (w225 hw) (w78 hw) (w226 hw) (by decide) (X5.payM (sf := []) (rm42 hcx c h5 X5.old ) sf0 (w226 hw) (w78 hw)) rfl (sz hml rfl) (argsL := [(.int c)]) (rest := [(.ref a5), (.ref a5)]) (lenOf pd37 rfl) rfl rfl (mroom rfl rfl) (D d41_18) (by decide) (by decide) fun T7 h7 vm7 v7 X7 C7 z7 q7 => ?_
  obtain ⟨t7, kb7, rfl, K7, g7_0, g7_1⟩ := q7
  have l8 := ltA g7_0.lt
  have A9 := X7.at
  refine Gets.via (fun _ k => (XS.iconst A9 hx rfl (D d41_21) k)) ?_
  have f10 := Z5.keep K7
  have f11 := (D5 (Or.inr (w31 hw)) (ty := .byte) (by decide) : Fld Z h5 a5 "java/lang/String" "coder" "B" (.int (0 : Int32))).keep K7 nin0
  have f12 := (D5 (Or.inr (w33 hw)) (ty := (.array .byte)) (by decide) : Fld Z h5 a5 "java/lang/String" "value" "[B" .null).keep K7 nin0
  have f13 := C7.safe (x := a5) (ltA (by omega)) S5
  refine X7.callI (y := (⟨"java/lang/String", "<init>", "([BB)V"⟩ : MethodName)) (W := 1) rfl (w227 hw) (w228 hw) (w229 hw) (by decide) (X7.payM (sf := [a5]) (rm43 hcx a5 t7 h7 X7.old f10 f11 f12 (leA (by omega))) (sfS f13 sf0) (w229 hw) (w7 hw)) rfl (sz hml rfl) (a := a5) (argsL := [(.ref t7), (.int (0 : Int32))]) (rest := [(.ref a5)]) (lenOf pd38 rfl) rfl rfl (mroom rfl rfl) (D d41_22) (by decide) (by decide) fun T14 h14 vm14 v14 X14 C14 z14 q14 => ?_
  obtain ⟨rfl, K14, g14_0, g14_1, g14_2⟩ := q14
  have l15 := ltA g14_0.lt
  show Gets p e below _ (T14.setTop (mkF m 25 #[vI c] [(.ref a5)]))
  have f16 := g7_0.keep K14 (ninS (neA (by omega)) nin0)
  have f17 : Str Z h14 a5 t7 kb7 [c] := ⟨g14_0, g14_1, g14_2, f16, (allI Pr0 allN), Nat.le_of_ble_eq_true rfl⟩
  exact X14.retA hret rfl rfl rfl (D d41_25) (by decide) (by decide) (fun vmE CE => ⟨a5, t7, kb7, rfl, ((((Keep.refl h0 []).ext E5).trans K7 all0).trans K14 (allS (Or.inr (leA (by omega))) all0)), f17, (leA (by omega)), (leA (by omega))⟩)
abbrev RrmTbC : Room := { frames := 1, cells := 1, slots := 2, locals := 14 }
def QrmTbC (Z : State) (u : Int32) (h0 : Heap) (v : Option Value) (vm : Vm) (h : Heap) : Prop := ∃ (t : Addr) (kt : ClassId), v = some (.ref t) ∧ Keep h0 h [] ∧ Arv Z h t kt .byte (2 : Int32) (enc16 [u]) (.int (0 : Int32)) ∧ h0.size ≤ t
theorem rmTbC (hcx : Cx Z a0 zc fm) (u : Int32) (h0 : Heap) (O0 : Old Z Z.heap.size h0)  : Met l Z consts_1 (⟨"java/lang/StringUTF16", "toBytes", "(C)[B"⟩ : MethodName) jdk_52_method_24_code 2 (some (.array .byte)) [] RrmTbC [] #[(.int u)] h0 (QrmTbC Z u h0) := by
  have ⟨hw, hEL, O2, P5, O4, P6, OA, OH, OB⟩ := hcx
  refine Met.start (a0 := a0) (Ls := #[vI u, .unset]) pn44 hEL O0 (fun m => by first | (simp [entryFrame, mkF, argsToLocals, Value.category]; done) | rfl) ?_
  intro p e s m below meth cc T0 vm0 X0 sf0_ D hml hret hnm hx zz A0
  refine Gets.via (fun _ k => (XS.iconst A0 hx rfl (D d44_0) k)) ?_
  refine X0.newAB (w23 hw) rfl (D d44_1) rfl (by decide) (cap := 2) (by decide) (by decide) (by decide) (by decide) fun T1 h1 a1 k1 X1 C1 E1 g1 S1 V1 Z1 => ?_
  have z1 := E1.1
  have l1 := ltA V1.lt
  have A2 := X1.at
  refine Gets.via (fun _ k => (XS.astoreN A2 hx rfl (D d44_3) rfl rfl (l' := #[vI u, vR a1]) rfl (XS.aloadN A2 hx rfl (D d44_4) rfl rfl (XS.iconst A2 hx rfl (D d44_5) (XS.iloadN A2 hx rfl (D d44_6) rfl k))))) ?_
  refine X1.callS (W := 0) (w234 hw) (w235 hw) (w21 hw) (w236 hw) (by decide) (X1.payM (sf := [a1]) (rmPutC hcx a1 0 u k1 (2 : Int32) 2 [] h1 X1.old V1 rfl (by decide) rfl (by decide) (leA (by omega))) (sfS S1 sf0) (w236 hw) (w21 hw)) rfl (sz hml rfl) (argsL := [(.ref a1), (.int (0 : Int32)), (.int u)]) (rest := []) (lenOf pd8 rfl) rfl rfl (mroom rfl rfl) (D d44_7) (by decide) (by decide) fun T3 h3 vm3 v3 X3 C3 z3 q3 => ?_
  obtain ⟨rfl, K3, g3_0⟩ := q3
  have l4 := ltA g3_0.lt
  show Gets p e below _ (T3.setTop (mkF m 10 #[vI u, vR a1] []))
  have f5 : Arv Z h3 a1 k1 .byte (2 : Int32) (enc16 [u]) (.int (0 : Int32)) := encL1 u ▸ g3_0
  have A6 := X3.at
  refine Gets.via (fun _ k => (XS.aloadN A6 hx rfl (D d44_10) rfl rfl k)) ?_
  exact X3.retA hret rfl rfl rfl (D d44_11) (by decide) (by decide) (fun vmE CE => ⟨a1, k1, rfl, (((Keep.refl h0 []).ext E1).trans K3 (allS (Or.inr (leA (by omega))) all0)), f5, (leA (by omega))⟩)
abbrev RrmInitB1 : Room := { frames := 1, cells := 0, slots := 0, locals := 12 }
def QrmInitB1 (Z : State) (x : Addr) (t : Addr) (h0 : Heap) (v : Option Value) (vm : Vm) (h : Heap) : Prop := v = none ∧ Keep h0 h [x] ∧ Exa Z h x "java/lang/String" ∧ Fld Z h x "java/lang/String" "coder" "B" (.int (1 : Int32)) ∧ Fld Z h x "java/lang/String" "value" "[B" (.ref t)
theorem rmInitB1 (hcx : Cx Z a0 zc fm) (x : Addr) (t : Addr) (h0 : Heap) (O0 : Old Z Z.heap.size h0) (Pr0 : Exa Z h0 x "java/lang/String") (Pr1 : Fld Z h0 x "java/lang/String" "coder" "B" (.int (0 : Int32))) (Pr2 : Fld Z h0 x "java/lang/String" "value" "[B" .null) (Pr3 : Z.heap.size ≤ x) : Met l Z consts_1 (⟨"java/lang/String", "<init>", "([BB)V"⟩ : MethodName) jdk_42_method_151_code 3 (none) [] RrmInitB1 [x] #[(.ref x), (.ref t), (.int (1 : Int32))] h0 (QrmInitB1 Z x t h0) := by
  have ⟨hw, hEL, O2, P5, O4, P6, OA, OH, OB⟩ := hcx
  refine Met.start (a0 := a0) (Ls := #[vR x, vR t, vI (1 : Int32)]) pn43 hEL O0 (fun m => by first | (simp [entryFrame, mkF, argsToLocals, Value.category]; done) | rfl) ?_
  intro p e s m below meth cc T0 vm0 X0 sf0_ D hml hret hnm hx zz A0
  have l1 := ltA Pr0.lt
  have s2 := sf0_ x (memI (i := 0) rfl)
  refine Gets.via (fun _ k => (XS.aloadN A0 hx rfl (D d43_0) rfl rfl k)) ?_
  refine X0.objInit (w15 hw) (w16 hw) (w17 hw) rfl (sz hml rfl) rfl (D d43_1) (by decide) (W := 0) (mroom rfl rfl) (by decide) fun T3 X3 => ?_
  have A4 := X3.at
  refine Gets.via (fun _ k => (XS.aloadN A4 hx rfl (D d43_4) rfl rfl (XS.aloadN A4 hx rfl (D d43_5) rfl rfl k))) ?_
  refine X3.putF (host := "") (Or.inl (w32 hw)) Via.refl Pr2 Pr0 (Or.inr ⟨(w33 hw), rfl, hnm⟩) (w6 hw) (ty := (.array .byte)) (by decide) rfl rfl (leA (by omega)) s2 rfl rfl (D d43_6) fun T5 h5 X5 C5 W5 F5 Z5 => ?_
  have z5 := W5.size
  show Gets p e below _ (T5.setTop (mkF m 9 #[vR x, vR t, vI (1 : Int32)] []))
  have A6 := X5.at
  refine Gets.via (fun _ k => (XS.aloadN A6 hx rfl (D d43_9) rfl rfl (XS.iloadN A6 hx rfl (D d43_10) rfl k))) ?_
  have f8 := Pr1.other W5 (Or.inr (slot_ne (t := .byte) (t' := (.array .byte)) (Or.inr (w31 hw)) (Or.inr (w33 hw)) (by decide) (by decide) (by decide)))
  have f9 := C5.safe (x := x) (ltA (by omega)) s2
  refine X5.putF (host := "") (Or.inl (w30 hw)) Via.refl f8 Z5 (Or.inr ⟨(w31 hw), rfl, hnm⟩) (w6 hw) (ty := .byte) (by decide) (by decide) (by decide) (leA (by omega)) f9 rfl rfl (D d43_11) fun T7 h7 X7 C7 W7 F7 Z7 => ?_
  have z7 := W7.size
  have f10 := F5.other W7 (Or.inr (slot_ne (t := (.array .byte)) (t' := .byte) (Or.inr (w33 hw)) (Or.inr (w31 hw)) (by decide) (by decide) (by decide)))
  exact X7.retV hret (D d43_14) (by decide) (by decide) (fun vmE CE => ⟨rfl, (((Keep.refl h0 [x]).wr W5 (Or.inl (memI (i := 0) rfl))).wr W7 (Or.inl (memI (i := 0) rfl))), Z7, F7, f10⟩)
abbrev RrmVoU : Room := { frames := 2, cells := 2, slots := 6, locals := 29 }
def QrmVoU (Z : State) (u : Int32) (h0 : Heap) (v : Option Value) (vm : Vm) (h : Heap) : Prop := ∃ (a : Addr) (t : Addr) (kt : ClassId), v = some (.ref a) ∧ Keep h0 h [] ∧ StrU Z h a t kt [u]
theorem rmVoU (hcx : Cx Z a0 zc fm) (u : Int32) (h0 : Heap) (O0 : Old Z Z.heap.size h0) (Pr0 : (255 : Int32) < u) (Pr1 : ¬ u < 0 ∧ ¬ (65535 : Int32) < u) : Met l Z consts_1 (⟨"java/lang/String", "valueOf", "(C)Ljava/lang/String;"⟩ : MethodName) jdk_42_method_139_code 1 (some (.object "java/lang/String")) [] RrmVoU [] #[(.int u)] h0 (QrmVoU Z u h0) := by
  have ⟨hw, hEL, O2, P5, O4, P6, OA, OH, OB⟩ := hcx
  refine Met.start (a0 := a0) (Ls := #[vI u]) pn41 hEL O0 (fun m => by first | (simp [entryFrame, mkF, argsToLocals, Value.category]; done) | rfl) ?_
  intro p e s m below meth cc T0 vm0 X0 sf0_ D hml hret hnm hx zz A0
  refine X0.getS (host := "") (Or.inl (w18 hw)) Via.refl (X0.sta O2) rfl (D d41_0) fun T1 X1 => ?_
  have A2 := X1.at
  refine Gets.via (fun _ k => (XS.ifNo A2 hx rfl (D d41_3) rfl (Jvm.Free.XT.i0_eq_f P5) k)) ?_
  refine Gets.via (fun _ k => (XS.iloadN A2 hx rfl (D d41_6) rfl k)) ?_
  refine X1.callS (W := 0) (w222 hw) (w216 hw) (w78 hw) (w217 hw) (by decide) (X1.payM (sf := []) (rmCeU hcx u h0 X1.old Pr0) sf0 (w217 hw) (w78 hw)) rfl (sz hml rfl) (argsL := [(.int u)]) (rest := []) (lenOf pd26 rfl) rfl rfl (mroom rfl rfl) (D d41_7) (by decide) (by decide) fun T3 h3 vm3 v3 X3 C3 z3 q3 => ?_
  obtain ⟨rfl, K3⟩ := q3
  rw [K3] at X3 C3
  have A4 := X3.at
  refine Gets.via (fun _ k => (XS.ifYes A4 hx rfl (pc0 := 10) (pc' := 26) rfl (D d41_10) rfl (Jvm.Free.XT.i0_eq_t (by decide)) (by decide) (by decide) k)) ?_
  show Gets p e below _ (T3.setTop (mkF m 26 #[vI u] []))
  refine X3.new (w223 hw) (w6 hw) (w7 hw) rfl (D d41_26) (by decide) (by decide) fun T5 h5 a5 X5 C5 E5 g5 Z5 S5 D5 => ?_
  have z5 := E5.1
  have l5 := ltA Z5.lt
  have A6 := X5.at
  refine Gets.via (fun _ k => (XS.dup A6 hx rfl (D d41_29) rfl rfl (XS.iloadN A6 hx rfl (D d41_30) rfl k))) ?_
  refine X5.callS (W := 2) (w231 hw) (w232 hw) (w21 hw) (w233 hw) (by decide) (X5.payM (sf := []) (rmTbC hcx u h5 X5.old ) sf0 (w233 hw) (w21 hw)) rfl (sz hml rfl) (argsL := [(.int u)]) (rest := [(.ref a5), (.ref a5)]) (lenOf pd37 rfl) rfl rfl (mroom rfl rfl) (D d41_31) (by decide) (by decide) fun T7 h7 vm7 v7 X7 C7 z7 q7 => ?_
  obtain ⟨t7, kt7, rfl, K7, g7_0, g7_1⟩ := q7
  have l8 := ltA g7_0.lt
  have A9 := X7.at
  refine Gets.via (fun _ k => (XS.iconst A9 hx rfl (D d41_34) k)) ?_
  have f10 := Z5.keep K7
  have f11 := (D5 (Or.inr (w31 hw)) (ty := .byte) (by decide) : Fld Z h5 a5 "java/lang/String" "coder" "B" (.int (0 : Int32))).keep K7 nin0
  have f12 := (D5 (Or.inr (w33 hw)) (ty := (.array .byte)) (by decide) : Fld Z h5 a5 "java/lang/String" "value" "[B" .null).keep K7 nin0
  have f13 := C7.safe (x := a5) (ltA (by omega)) S5
  refine X7.callI (y := (⟨"java/lang/String", "<init>", "([BB)V"⟩ : MethodName)) (W := 1) rfl (w227 hw) (w228 hw) (w229 hw) (by decide) (X7.payM (sf := [a5]) (rmInitB1 hcx a5 t7 h7 X7.old f10 f11 f12 (leA (by omega))) (sfS f13 sf0) (w229 hw) (w7 hw)) rfl (sz hml rfl) (a := a5) (argsL := [(.ref t7), (.int (1 : Int32))]) (rest := [(.ref a5)]) (lenOf pd38 rfl) rfl rfl (mroom rfl rfl) (D d41_35) (by decide) (by decide) fun T14 h14 vm14 v14 X14 C14 z14 q14 => ?_
  obtain ⟨rfl, K14, g14_0, g14_1, g14_2⟩ := q14
  have l15 := ltA g14_0.lt
  show Gets p e below _ (T14.setTop (mkF m 38 #[vI u] [(.ref a5)]))
  have f16 := g7_0.keep K14 (ninS (neA (by omega)) nin0)
  have SU : StrU Z h14 a5 t7 kt7 [u] := ⟨g14_0, g14_1, g14_2, f16, allI Pr1 allN, Nat.le_of_ble_eq_true rfl⟩
  exact X14.retA hret rfl rfl rfl (D d41_38) (by decide) (by decide) (fun vmE CE => ⟨a5, t7, kt7, rfl, ((((Keep.refl h0 []).ext E5).trans K7 all0).trans K14 (allS (Or.inr (leA (by omega))) all0)), SU⟩)
abbrev RrmPiece : Room := { frames := 3, cells := 2, slots := 28, locals := 41 }
def QrmPiece (Z : State) (u : Int32) (h0 : Heap) (v : Option Value) (vm : Vm) (h : Heap) : Prop := ∃ (a : Addr) (ds : List Int32), v = some (.ref a) ∧ Keep h0 h [] ∧ Any Z h a ds ∧ ds = pcL u
theorem rmPiece (hcx : Cx Z a0 zc fm) (u : Int32) (h0 : Heap) (O0 : Old Z Z.heap.size h0) (Pr0 : ¬ u < 0 ∧ ¬ (65535 : Int32) < u) : Met l Z consts_1 (⟨"com/example/carve/carve/http/HtmlEscapePinLaw", "piece", "(C)Ljava/lang/String;"⟩ : MethodName) method_3_code 1 (some (.object "java/lang/String")) [] RrmPiece [] #[(.int u)] h0 (QrmPiece Z u h0) := by
  have ⟨hw, hEL, O2, P5, O4, P6, OA, OH, OB⟩ := hcx
  refine Met.start (a0 := a0) (Ls := #[vI u]) pn36 hEL O0 (fun m => by first | (simp [entryFrame, mkF, argsToLocals, Value.category]; done) | rfl) ?_
  intro p e s m below meth cc T0 vm0 X0 sf0_ D hml hret hnm hx zz A0
  refine Gets.via (fun _ k => (XS.iloadN A0 hx rfl (D d36_0) rfl (XS.bipush A0 hx rfl (D d36_1) k))) ?_
  by_cases b3 : u = (38 : Int32)
  · refine Gets.via (fun _ k => (XS.icmpNo A0 hx rfl (D d36_3) rfl (Jvm.Free.XT.ii_ne_f b3) k)) ?_
    refine X0.ldcC (w197 hw) (wSt hw) (by decide) (vs := [(.int (38 : Int32)), (.int (97 : Int32)), (.int (109 : Int32)), (.int (112 : Int32)), (.int (59 : Int32))]) (z := (5 : Int32)) ⟨by decide, by decide⟩ (by decide) (by decide) rfl (D d36_6) (n := 20) (by decide) (by decide) (by decide) (by decide) fun T1 h1 vm1 a1 yb1 k1 X1 C1 E1 Z1 Fc1 Fv1 V1 q1 => ?_
    have z1 := E1.1
    have l1 := ltA Z1.lt
    have lb1 := ltA V1.lt
    have f2 : Str Z h1 a1 yb1 k1 [(38 : Int32), (97 : Int32), (109 : Int32), (112 : Int32), (59 : Int32)] := ⟨Z1, Fc1, Fv1, V1, (allI ⟨by decide, by decide⟩ (allI ⟨by decide, by decide⟩ (allI ⟨by decide, by decide⟩ (allI ⟨by decide, by decide⟩ (allI ⟨by decide, by decide⟩ allN))))), Nat.le_of_ble_eq_true rfl⟩
    have f3 : Any Z h1 a1 [(38 : Int32), (97 : Int32), (109 : Int32), (112 : Int32), (59 : Int32)] := Or.inl ⟨_, _, f2⟩
    exact X1.retA hret rfl rfl rfl (D d36_8) (by decide) (by decide) (fun vmE CE => ⟨a1, [(38 : Int32), (97 : Int32), (109 : Int32), (112 : Int32), (59 : Int32)], rfl, ((Keep.refl h0 []).ext E1), f3, (pc_38 b3).symm⟩)
  · refine Gets.via (fun _ k => (XS.icmpYes A0 hx rfl (pc0 := 3) (pc' := 9) rfl (D d36_3) rfl (Jvm.Free.XT.ii_ne_t b3) (by decide) (by decide) k)) ?_
    refine Gets.via (fun _ k => (XS.iloadN A0 hx rfl (D d36_9) rfl (XS.bipush A0 hx rfl (D d36_10) k))) ?_
    show Gets p e below _ (T0.setTop (mkF m 12 #[vI u] [(.int (60 : Int32)), (.int u)]))
    by_cases b12 : u = (60 : Int32)
    · refine Gets.via (fun _ k => (XS.icmpNo A0 hx rfl (D d36_12) rfl (Jvm.Free.XT.ii_ne_f b12) k)) ?_
      refine X0.ldcC (w240 hw) (wSt hw) (by decide) (vs := [(.int (38 : Int32)), (.int (108 : Int32)), (.int (116 : Int32)), (.int (59 : Int32))]) (z := (4 : Int32)) ⟨by decide, by decide⟩ (by decide) (by decide) rfl (D d36_15) (n := 16) (by decide) (by decide) (by decide) (by decide) fun T4 h4 vm4 a4 yb4 k4 X4 C4 E4 Z4 Fc4 Fv4 V4 q4 => ?_
      have z4 := E4.1
      have l4 := ltA Z4.lt
      have lb4 := ltA V4.lt
      have f5 : Str Z h4 a4 yb4 k4 [(38 : Int32), (108 : Int32), (116 : Int32), (59 : Int32)] := ⟨Z4, Fc4, Fv4, V4, (allI ⟨by decide, by decide⟩ (allI ⟨by decide, by decide⟩ (allI ⟨by decide, by decide⟩ (allI ⟨by decide, by decide⟩ allN)))), Nat.le_of_ble_eq_true rfl⟩
      have f6 : Any Z h4 a4 [(38 : Int32), (108 : Int32), (116 : Int32), (59 : Int32)] := Or.inl ⟨_, _, f5⟩
      exact X4.retA hret rfl rfl rfl (D d36_17) (by decide) (by decide) (fun vmE CE => ⟨a4, [(38 : Int32), (108 : Int32), (116 : Int32), (59 : Int32)], rfl, ((Keep.refl h0 []).ext E4), f6, (pc_60 b12).symm⟩)
    · refine Gets.via (fun _ k => (XS.icmpYes A0 hx rfl (pc0 := 12) (pc' := 18) rfl (D d36_12) rfl (Jvm.Free.XT.ii_ne_t b12) (by decide) (by decide) k)) ?_
      refine Gets.via (fun _ k => (XS.iloadN A0 hx rfl (D d36_18) rfl (XS.bipush A0 hx rfl (D d36_19) k))) ?_
      by_cases b21 : u = (62 : Int32)
      · refine Gets.via (fun _ k => (XS.icmpNo A0 hx rfl (D d36_21) rfl (Jvm.Free.XT.ii_ne_f b21) k)) ?_
        refine X0.ldcC (w199 hw) (wSt hw) (by decide) (vs := [(.int (38 : Int32)), (.int (103 : Int32)), (.int (116 : Int32)), (.int (59 : Int32))]) (z := (4 : Int32)) ⟨by decide, by decide⟩ (by decide) (by decide) rfl (D d36_24) (n := 16) (by decide) (by decide) (by decide) (by decide) fun T7 h7 vm7 a7 yb7 k7 X7 C7 E7 Z7 Fc7 Fv7 V7 q7 => ?_
        have z7 := E7.1
        have l7 := ltA Z7.lt
        have lb7 := ltA V7.lt
        have f8 : Str Z h7 a7 yb7 k7 [(38 : Int32), (103 : Int32), (116 : Int32), (59 : Int32)] := ⟨Z7, Fc7, Fv7, V7, (allI ⟨by decide, by decide⟩ (allI ⟨by decide, by decide⟩ (allI ⟨by decide, by decide⟩ (allI ⟨by decide, by decide⟩ allN)))), Nat.le_of_ble_eq_true rfl⟩
        have f9 : Any Z h7 a7 [(38 : Int32), (103 : Int32), (116 : Int32), (59 : Int32)] := Or.inl ⟨_, _, f8⟩
        exact X7.retA hret rfl rfl rfl (D d36_26) (by decide) (by decide) (fun vmE CE => ⟨a7, [(38 : Int32), (103 : Int32), (116 : Int32), (59 : Int32)], rfl, ((Keep.refl h0 []).ext E7), f9, (pc_62 b21).symm⟩)
      · refine Gets.via (fun _ k => (XS.icmpYes A0 hx rfl (pc0 := 21) (pc' := 27) rfl (D d36_21) rfl (Jvm.Free.XT.ii_ne_t b21) (by decide) (by decide) k)) ?_
        show Gets p e below _ (T0.setTop (mkF m 27 #[vI u] []))
        refine Gets.via (fun _ k => (XS.iloadN A0 hx rfl (D d36_27) rfl (XS.bipush A0 hx rfl (D d36_28) k))) ?_
        by_cases b30 : u = (34 : Int32)
        · refine Gets.via (fun _ k => (XS.icmpNo A0 hx rfl (D d36_30) rfl (Jvm.Free.XT.ii_ne_f b30) k)) ?_
          refine X0.ldcC (w198 hw) (wSt hw) (by decide) (vs := [(.int (38 : Int32)), (.int (113 : Int32)), (.int (117 : Int32)), (.int (111 : Int32)), (.int (116 : Int32)), (.int (59 : Int32))]) (z := (6 : Int32)) ⟨by decide, by decide⟩ (by decide) (by decide) rfl (D d36_33) (n := 24) (by decide) (by decide) (by decide) (by decide) fun T10 h10 vm10 a10 yb10 k10 X10 C10 E10 Z10 Fc10 Fv10 V10 q10 => ?_
          have z10 := E10.1
          have l10 := ltA Z10.lt
          have lb10 := ltA V10.lt
          have f11 : Str Z h10 a10 yb10 k10 [(38 : Int32), (113 : Int32), (117 : Int32), (111 : Int32), (116 : Int32), (59 : Int32)] := ⟨Z10, Fc10, Fv10, V10, (allI ⟨by decide, by decide⟩ (allI ⟨by decide, by decide⟩ (allI ⟨by decide, by decide⟩ (allI ⟨by decide, by decide⟩ (allI ⟨by decide, by decide⟩ (allI ⟨by decide, by decide⟩ allN)))))), Nat.le_of_ble_eq_true rfl⟩
          have f12 : Any Z h10 a10 [(38 : Int32), (113 : Int32), (117 : Int32), (111 : Int32), (116 : Int32), (59 : Int32)] := Or.inl ⟨_, _, f11⟩
          exact X10.retA hret rfl rfl rfl (D d36_35) (by decide) (by decide) (fun vmE CE => ⟨a10, [(38 : Int32), (113 : Int32), (117 : Int32), (111 : Int32), (116 : Int32), (59 : Int32)], rfl, ((Keep.refl h0 []).ext E10), f12, (pc_34 b30).symm⟩)
        · refine Gets.via (fun _ k => (XS.icmpYes A0 hx rfl (pc0 := 30) (pc' := 36) rfl (D d36_30) rfl (Jvm.Free.XT.ii_ne_t b30) (by decide) (by decide) k)) ?_
          rcases Classical.em ((255 : Int32) < u) with hw_ | hw_
          · skip
            refine Gets.via (fun _ k => (XS.iloadN A0 hx rfl (D d36_36) rfl k)) ?_
            refine X0.callS (W := 0) (w219 hw) (w220 hw) (w7 hw) (w221 hw) (by decide) (X0.payM (sf := []) (rmVoU hcx u h0 X0.old hw_ Pr0) sf0 (w221 hw) (w7 hw)) rfl (sz hml rfl) (argsL := [(.int u)]) (rest := []) (lenOf pd39 rfl) rfl rfl (mroom rfl rfl) (D d36_37) (by decide) (by decide) fun T13 h13 vm13 v13 X13 C13 z13 q13 => ?_
            obtain ⟨a13, t13, kt13, rfl, K13, g13_0⟩ := q13
            have l14 := ltA g13_0.lt
            have l15 := ltA g13_0.lb
            have f16 : Any Z h13 a13 [u] := Or.inr ⟨_, _, g13_0⟩
            exact X13.retA hret rfl rfl rfl (D d36_40) (by decide) (by decide) (fun vmE CE => ⟨a13, [u], rfl, ((Keep.refl h0 []).trans K13 all0), f16, (pc_o b30 b3 b12 b21).symm⟩)
          · have hl : ¬ u < 0 ∧ ¬ (255 : Int32) < u := ⟨Pr0.1, hw_⟩
            refine Gets.via (fun _ k => (XS.iloadN A0 hx rfl (D d36_36) rfl k)) ?_
            show Gets p e below _ (T0.setTop (mkF m 37 #[vI u] [(.int u)]))
            refine X0.callS (W := 0) (w219 hw) (w220 hw) (w7 hw) (w221 hw) (by decide) (X0.payM (sf := []) (rm41 hcx u h0 X0.old hl) sf0 (w221 hw) (w7 hw)) rfl (sz hml rfl) (argsL := [(.int u)]) (rest := []) (lenOf pd39 rfl) rfl rfl (mroom rfl rfl) (D d36_37) (by decide) (by decide) fun T17 h17 vm17 v17 X17 C17 z17 q17 => ?_
            obtain ⟨a17, t17, kb17, rfl, K17, g17_0, g17_1, g17_2⟩ := q17
            have l18 := ltA g17_0.lt
            have l19 := ltA g17_0.lb
            have f20 : Any Z h17 a17 [u] := Or.inl ⟨_, _, g17_0⟩
            exact X17.retA hret rfl rfl rfl (D d36_40) (by decide) (by decide) (fun vmE CE => ⟨a17, [u], rfl, ((Keep.refl h0 []).trans K17 all0), f20, (pc_o b30 b3 b12 b21).symm⟩)
abbrev RrmAt : Room := { frames := 5, cells := 0, slots := 0, locals := 67 }
def QrmAt (Z : State) (o : Addr) (u : Int32) (q : Addr) (os : List Int32) (ps : List Int32) (h0 : Heap) (v : Option Value) (vm : Vm) (h : Heap) : Prop := v = some (.int (1 : Int32)) ∧ h = h0
theorem rmAt (hcx : Cx Z a0 zc fm) (o : Addr) (u : Int32) (q : Addr) (os : List Int32) (ps : List Int32) (h0 : Heap) (O0 : Old Z Z.heap.size h0) (Pr0 : Any Z h0 o os) (Pr1 : Any Z h0 q ps) (Pr2 : AtOk os u ps) : Met l Z consts_1 (⟨"com/example/carve/carve/http/HtmlEscapePinLaw", "at", "(Ljava/lang/String;ILjava/lang/String;)Z"⟩ : MethodName) method_4_code 4 (some .boolean) [] RrmAt [] #[(.ref o), (.int u), (.ref q)] h0 (QrmAt Z o u q os ps h0) := by
  have ⟨hw, hEL, O2, P5, O4, P6, OA, OH, OB⟩ := hcx
  refine Met.start (a0 := a0) (Ls := #[vR o, vI u, vR q, .unset]) pn37 hEL O0 (fun m => by first | (simp [entryFrame, mkF, argsToLocals, Value.category]; done) | rfl) ?_
  intro p e s m below meth cc T0 vm0 X0 sf0_ D hml hret hnm hx zz A0
  have l1 := ltA Pr0.lt
  have l2 := ltA Pr1.lt
  refine Gets.via (fun _ k => (XS.aloadN A0 hx rfl (D d37_0) rfl rfl k)) ?_
  refine X0.callV (W := 0) (w200 hw) (w42 hw) (w44 hw) (w43 hw) (nfs rfl (w44 hw)) (by decide) (X0.payM (sf := []) (rmLenA hcx q ps h0 X0.old Pr1) sf0 (w45 hw) (w7 hw)) Pr1.exa rfl (sz hml rfl) (argsL := []) (rest := []) (lenOf pd22 rfl) rfl rfl (mroom rfl rfl) (D d37_1) (by decide) (by decide) fun T3 h3 vm3 v3 X3 C3 z3 q3 => ?_
  obtain ⟨rfl, K3⟩ := q3
  rw [K3] at X3 C3
  have A4 := X3.at
  refine Gets.via (fun _ k => (XS.istoreN A4 hx rfl (D d37_4) rfl (l' := #[vR o, vI u, vR q, vI (Int32.ofNat (ps).length)]) rfl (XS.iloadN A4 hx rfl (D d37_5) rfl k))) ?_
  have j24 : ∀ (T5 : State) (vm5 : Vm) (X5 : Wk p l e RrmAt s m #[(.ref o), (.int u), (.ref q)] below meth cc "com/example/carve/carve/http/HtmlEscapePinLaw" Z a0 consts_1 h0 T5 h0 vm5 0 0), Gets p e below (Jvm.Ow.Out s Z consts_1 RrmAt (QrmAt Z o u q os ps h0)) (T5.setTop (mkF m 24 #[vR o, vI u, vR q, vI (Int32.ofNat (ps).length)] [])) := by
    intro T5 vm5 X5 
    have A6 := X5.at
    refine Gets.via (fun _ k => (XS.iloadN A6 hx rfl (D d37_24) rfl (XS.iconst A6 hx rfl (D d37_25) k))) ?_
    have j46 : ∀ (T7 : State) (vm7 : Vm) (X7 : Wk p l e RrmAt s m #[(.ref o), (.int u), (.ref q)] below meth cc "com/example/carve/carve/http/HtmlEscapePinLaw" Z a0 consts_1 h0 T7 h0 vm7 0 0), Gets p e below (Jvm.Ow.Out s Z consts_1 RrmAt (QrmAt Z o u q os ps h0)) (T7.setTop (mkF m 46 #[vR o, vI u, vR q, vI (Int32.ofNat (ps).length)] [])) := by
      intro T7 vm7 X7 
      have A8 := X7.at
      refine Gets.via (fun _ k => (XS.iloadN A8 hx rfl (D d37_46) rfl (XS.iconst A8 hx rfl (D d37_47) k))) ?_
      show Gets p e below _ (T7.setTop (mkF m 48 #[vR o, vI u, vR q, vI (Int32.ofNat (ps).length)] [(.int (2 : Int32)), (.int (Int32.ofNat (ps).length))]))
      have j68 : ∀ (T9 : State) (vm9 : Vm) (X9 : Wk p l e RrmAt s m #[(.ref o), (.int u), (.ref q)] below meth cc "com/example/carve/carve/http/HtmlEscapePinLaw" Z a0 consts_1 h0 T9 h0 vm9 0 0), Gets p e below (Jvm.Ow.Out s Z consts_1 RrmAt (QrmAt Z o u q os ps h0)) (T9.setTop (mkF m 68 #[vR o, vI u, vR q, vI (Int32.ofNat (ps).length)] [])) := by
        intro T9 vm9 X9 
        have A10 := X9.at
        refine Gets.via (fun _ k => (XS.iloadN A10 hx rfl (D d37_68) rfl (XS.iconst A10 hx rfl (D d37_69) k))) ?_
        have j90 : ∀ (T11 : State) (vm11 : Vm) (X11 : Wk p l e RrmAt s m #[(.ref o), (.int u), (.ref q)] below meth cc "com/example/carve/carve/http/HtmlEscapePinLaw" Z a0 consts_1 h0 T11 h0 vm11 0 0), Gets p e below (Jvm.Ow.Out s Z consts_1 RrmAt (QrmAt Z o u q os ps h0)) (T11.setTop (mkF m 90 #[vR o, vI u, vR q, vI (Int32.ofNat (ps).length)] [])) := by
          intro T11 vm11 X11 
          have A12 := X11.at
          refine Gets.via (fun _ k => (XS.iloadN A12 hx rfl (D d37_90) rfl (XS.iconst A12 hx rfl (D d37_91) k))) ?_
          have j112 : ∀ (T13 : State) (vm13 : Vm) (X13 : Wk p l e RrmAt s m #[(.ref o), (.int u), (.ref q)] below meth cc "com/example/carve/carve/http/HtmlEscapePinLaw" Z a0 consts_1 h0 T13 h0 vm13 0 0), Gets p e below (Jvm.Ow.Out s Z consts_1 RrmAt (QrmAt Z o u q os ps h0)) (T13.setTop (mkF m 112 #[vR o, vI u, vR q, vI (Int32.ofNat (ps).length)] [])) := by
            intro T13 vm13 X13 
            have A14 := X13.at
            refine Gets.via (fun _ k => (XS.iloadN A14 hx rfl (D d37_112) rfl (XS.iconst A14 hx rfl (D d37_113) k))) ?_
            have j134 : ∀ (T15 : State) (vm15 : Vm) (X15 : Wk p l e RrmAt s m #[(.ref o), (.int u), (.ref q)] below meth cc "com/example/carve/carve/http/HtmlEscapePinLaw" Z a0 consts_1 h0 T15 h0 vm15 0 0), Gets p e below (Jvm.Ow.Out s Z consts_1 RrmAt (QrmAt Z o u q os ps h0)) (T15.setTop (mkF m 134 #[vR o, vI u, vR q, vI (Int32.ofNat (ps).length)] [])) := by
              intro T15 vm15 X15 
              have A16 := X15.at
              refine Gets.via (fun _ k => (XS.iconst A16 hx rfl (D d37_134) k)) ?_
              exact X15.retI hret (by decide) (by simp) (D d37_135) (by decide) (by decide) (fun vmE CE => ⟨rfl, rfl⟩)
            by_cases b114 : (5 : Int32) < (Int32.ofNat (ps).length)
            · refine Gets.via (fun _ k => (XS.icmpNo A14 hx rfl (D d37_114) rfl (Jvm.Free.XT.ii_le_f b114) k)) ?_
              refine Gets.via (fun _ k => (XS.aloadN A14 hx rfl (D d37_117) rfl rfl (XS.iloadN A14 hx rfl (D d37_118) rfl (XS.iconst A14 hx rfl (D d37_119) (XS.iadd A14 hx rfl (D d37_120) rfl k))))) ?_
              show Gets p e below _ (T13.setTop (mkF m 121 #[vR o, vI u, vR q, vI (Int32.ofNat (ps).length)] [(.int (u + (5 : Int32))), (.ref o)]))
              have hi5 : 5 < (ps).length := of_lt_inv (by have := Pr2.1; omega) b114
              have g5 := Pr2.2 5 hi5
              refine X13.callV (W := 0) (w204 hw) (w67 hw) (w69 hw) (w68 hw) (nfs rfl (w69 hw)) (by decide) (X13.payM (sf := []) (rmChA hcx o (u + (5 : Int32)) ((u + (5 : Int32)).toNatClampNeg) os h0 X13.old Pr0 g5.1 g5.2.1) sf0 (w70 hw) (w7 hw)) Pr0.exa rfl (sz hml rfl) (argsL := [(.int (u + (5 : Int32)))]) (rest := []) (lenOf pd34 rfl) rfl rfl (mroom rfl rfl) (D d37_121) (by decide) (by decide) fun T17 h17 vm17 v17 X17 C17 z17 q17 => ?_
              obtain ⟨rfl, K17⟩ := q17
              rw [K17] at X17 C17
              have A18 := X17.at
              refine Gets.via (fun _ k => (XS.aloadN A18 hx rfl (D d37_124) rfl rfl (XS.iconst A18 hx rfl (D d37_125) k))) ?_
              refine X17.callV (W := 1) (w204 hw) (w67 hw) (w69 hw) (w68 hw) (nfs rfl (w69 hw)) (by decide) (X17.payM (sf := []) (rmChA hcx q (5 : Int32) 5 ps h0 X17.old Pr1 (by decide) hi5) sf0 (w70 hw) (w7 hw)) Pr1.exa rfl (sz hml rfl) (argsL := [(.int (5 : Int32))]) (rest := [(.int (os.getD (u + (5 : Int32)).toNatClampNeg 0))]) (lenOf pd34 rfl) rfl rfl (mroom rfl rfl) (D d37_126) (by decide) (by decide) fun T19 h19 vm19 v19 X19 C19 z19 q19 => ?_
              obtain ⟨rfl, K19⟩ := q19
              rw [K19] at X19 C19
              have A20 := X19.at
              refine Gets.via (fun _ k => (XS.icmpYes A20 hx rfl (pc0 := 129) (pc' := 134) rfl (D d37_129) rfl (Jvm.Free.XT.ii_eq_t g5.2.2) (by decide) (by decide) k)) ?_
              exact j134 T19 vm19 X19
            · refine Gets.via (fun _ k => (XS.icmpYes A14 hx rfl (pc0 := 114) (pc' := 134) rfl (D d37_114) rfl (Jvm.Free.XT.ii_le_t b114) (by decide) (by decide) k)) ?_
              exact j134 T13 vm13 X13
          by_cases b92 : (4 : Int32) < (Int32.ofNat (ps).length)
          · refine Gets.via (fun _ k => (XS.icmpNo A12 hx rfl (D d37_92) rfl (Jvm.Free.XT.ii_le_f b92) k)) ?_
            refine Gets.via (fun _ k => (XS.aloadN A12 hx rfl (D d37_95) rfl rfl (XS.iloadN A12 hx rfl (D d37_96) rfl (XS.iconst A12 hx rfl (D d37_97) (XS.iadd A12 hx rfl (D d37_98) rfl k))))) ?_
            show Gets p e below _ (T11.setTop (mkF m 99 #[vR o, vI u, vR q, vI (Int32.ofNat (ps).length)] [(.int (u + (4 : Int32))), (.ref o)]))
            have hi4 : 4 < (ps).length := of_lt_inv (by have := Pr2.1; omega) b92
            have g4 := Pr2.2 4 hi4
            refine X11.callV (W := 0) (w204 hw) (w67 hw) (w69 hw) (w68 hw) (nfs rfl (w69 hw)) (by decide) (X11.payM (sf := []) (rmChA hcx o (u + (4 : Int32)) ((u + (4 : Int32)).toNatClampNeg) os h0 X11.old Pr0 g4.1 g4.2.1) sf0 (w70 hw) (w7 hw)) Pr0.exa rfl (sz hml rfl) (argsL := [(.int (u + (4 : Int32)))]) (rest := []) (lenOf pd34 rfl) rfl rfl (mroom rfl rfl) (D d37_99) (by decide) (by decide) fun T21 h21 vm21 v21 X21 C21 z21 q21 => ?_
            obtain ⟨rfl, K21⟩ := q21
            rw [K21] at X21 C21
            have A22 := X21.at
            refine Gets.via (fun _ k => (XS.aloadN A22 hx rfl (D d37_102) rfl rfl (XS.iconst A22 hx rfl (D d37_103) k))) ?_
            refine X21.callV (W := 1) (w204 hw) (w67 hw) (w69 hw) (w68 hw) (nfs rfl (w69 hw)) (by decide) (X21.payM (sf := []) (rmChA hcx q (4 : Int32) 4 ps h0 X21.old Pr1 (by decide) hi4) sf0 (w70 hw) (w7 hw)) Pr1.exa rfl (sz hml rfl) (argsL := [(.int (4 : Int32))]) (rest := [(.int (os.getD (u + (4 : Int32)).toNatClampNeg 0))]) (lenOf pd34 rfl) rfl rfl (mroom rfl rfl) (D d37_104) (by decide) (by decide) fun T23 h23 vm23 v23 X23 C23 z23 q23 => ?_
            obtain ⟨rfl, K23⟩ := q23
            rw [K23] at X23 C23
            have A24 := X23.at
            refine Gets.via (fun _ k => (XS.icmpYes A24 hx rfl (pc0 := 107) (pc' := 112) rfl (D d37_107) rfl (Jvm.Free.XT.ii_eq_t g4.2.2) (by decide) (by decide) k)) ?_
            exact j112 T23 vm23 X23
          · refine Gets.via (fun _ k => (XS.icmpYes A12 hx rfl (pc0 := 92) (pc' := 112) rfl (D d37_92) rfl (Jvm.Free.XT.ii_le_t b92) (by decide) (by decide) k)) ?_
            exact j112 T11 vm11 X11
        by_cases b70 : (3 : Int32) < (Int32.ofNat (ps).length)
        · refine Gets.via (fun _ k => (XS.icmpNo A10 hx rfl (D d37_70) rfl (Jvm.Free.XT.ii_le_f b70) k)) ?_
          refine Gets.via (fun _ k => (XS.aloadN A10 hx rfl (D d37_73) rfl rfl (XS.iloadN A10 hx rfl (D d37_74) rfl (XS.iconst A10 hx rfl (D d37_75) (XS.iadd A10 hx rfl (D d37_76) rfl k))))) ?_
          show Gets p e below _ (T9.setTop (mkF m 77 #[vR o, vI u, vR q, vI (Int32.ofNat (ps).length)] [(.int (u + (3 : Int32))), (.ref o)]))
          have hi3 : 3 < (ps).length := of_lt_inv (by have := Pr2.1; omega) b70
          have g3 := Pr2.2 3 hi3
          refine X9.callV (W := 0) (w204 hw) (w67 hw) (w69 hw) (w68 hw) (nfs rfl (w69 hw)) (by decide) (X9.payM (sf := []) (rmChA hcx o (u + (3 : Int32)) ((u + (3 : Int32)).toNatClampNeg) os h0 X9.old Pr0 g3.1 g3.2.1) sf0 (w70 hw) (w7 hw)) Pr0.exa rfl (sz hml rfl) (argsL := [(.int (u + (3 : Int32)))]) (rest := []) (lenOf pd34 rfl) rfl rfl (mroom rfl rfl) (D d37_77) (by decide) (by decide) fun T25 h25 vm25 v25 X25 C25 z25 q25 => ?_
          obtain ⟨rfl, K25⟩ := q25
          rw [K25] at X25 C25
          have A26 := X25.at
          refine Gets.via (fun _ k => (XS.aloadN A26 hx rfl (D d37_80) rfl rfl (XS.iconst A26 hx rfl (D d37_81) k))) ?_
          refine X25.callV (W := 1) (w204 hw) (w67 hw) (w69 hw) (w68 hw) (nfs rfl (w69 hw)) (by decide) (X25.payM (sf := []) (rmChA hcx q (3 : Int32) 3 ps h0 X25.old Pr1 (by decide) hi3) sf0 (w70 hw) (w7 hw)) Pr1.exa rfl (sz hml rfl) (argsL := [(.int (3 : Int32))]) (rest := [(.int (os.getD (u + (3 : Int32)).toNatClampNeg 0))]) (lenOf pd34 rfl) rfl rfl (mroom rfl rfl) (D d37_82) (by decide) (by decide) fun T27 h27 vm27 v27 X27 C27 z27 q27 => ?_
          obtain ⟨rfl, K27⟩ := q27
          rw [K27] at X27 C27
          have A28 := X27.at
          refine Gets.via (fun _ k => (XS.icmpYes A28 hx rfl (pc0 := 85) (pc' := 90) rfl (D d37_85) rfl (Jvm.Free.XT.ii_eq_t g3.2.2) (by decide) (by decide) k)) ?_
          exact j90 T27 vm27 X27
        · refine Gets.via (fun _ k => (XS.icmpYes A10 hx rfl (pc0 := 70) (pc' := 90) rfl (D d37_70) rfl (Jvm.Free.XT.ii_le_t b70) (by decide) (by decide) k)) ?_
          exact j90 T9 vm9 X9
      by_cases b48 : (2 : Int32) < (Int32.ofNat (ps).length)
      · refine Gets.via (fun _ k => (XS.icmpNo A8 hx rfl (D d37_48) rfl (Jvm.Free.XT.ii_le_f b48) k)) ?_
        refine Gets.via (fun _ k => (XS.aloadN A8 hx rfl (D d37_51) rfl rfl (XS.iloadN A8 hx rfl (D d37_52) rfl (XS.iconst A8 hx rfl (D d37_53) (XS.iadd A8 hx rfl (D d37_54) rfl k))))) ?_
        show Gets p e below _ (T7.setTop (mkF m 55 #[vR o, vI u, vR q, vI (Int32.ofNat (ps).length)] [(.int (u + (2 : Int32))), (.ref o)]))
        have hi2 : 2 < (ps).length := of_lt_inv (by have := Pr2.1; omega) b48
        have g2 := Pr2.2 2 hi2
        refine X7.callV (W := 0) (w204 hw) (w67 hw) (w69 hw) (w68 hw) (nfs rfl (w69 hw)) (by decide) (X7.payM (sf := []) (rmChA hcx o (u + (2 : Int32)) ((u + (2 : Int32)).toNatClampNeg) os h0 X7.old Pr0 g2.1 g2.2.1) sf0 (w70 hw) (w7 hw)) Pr0.exa rfl (sz hml rfl) (argsL := [(.int (u + (2 : Int32)))]) (rest := []) (lenOf pd34 rfl) rfl rfl (mroom rfl rfl) (D d37_55) (by decide) (by decide) fun T29 h29 vm29 v29 X29 C29 z29 q29 => ?_
        obtain ⟨rfl, K29⟩ := q29
        rw [K29] at X29 C29
        have A30 := X29.at
        refine Gets.via (fun _ k => (XS.aloadN A30 hx rfl (D d37_58) rfl rfl (XS.iconst A30 hx rfl (D d37_59) k))) ?_
        refine X29.callV (W := 1) (w204 hw) (w67 hw) (w69 hw) (w68 hw) (nfs rfl (w69 hw)) (by decide) (X29.payM (sf := []) (rmChA hcx q (2 : Int32) 2 ps h0 X29.old Pr1 (by decide) hi2) sf0 (w70 hw) (w7 hw)) Pr1.exa rfl (sz hml rfl) (argsL := [(.int (2 : Int32))]) (rest := [(.int (os.getD (u + (2 : Int32)).toNatClampNeg 0))]) (lenOf pd34 rfl) rfl rfl (mroom rfl rfl) (D d37_60) (by decide) (by decide) fun T31 h31 vm31 v31 X31 C31 z31 q31 => ?_
        obtain ⟨rfl, K31⟩ := q31
        rw [K31] at X31 C31
        have A32 := X31.at
        refine Gets.via (fun _ k => (XS.icmpYes A32 hx rfl (pc0 := 63) (pc' := 68) rfl (D d37_63) rfl (Jvm.Free.XT.ii_eq_t g2.2.2) (by decide) (by decide) k)) ?_
        exact j68 T31 vm31 X31
      · refine Gets.via (fun _ k => (XS.icmpYes A8 hx rfl (pc0 := 48) (pc' := 68) rfl (D d37_48) rfl (Jvm.Free.XT.ii_le_t b48) (by decide) (by decide) k)) ?_
        exact j68 T7 vm7 X7
    by_cases b26 : (1 : Int32) < (Int32.ofNat (ps).length)
    · refine Gets.via (fun _ k => (XS.icmpNo A6 hx rfl (D d37_26) rfl (Jvm.Free.XT.ii_le_f b26) k)) ?_
      refine Gets.via (fun _ k => (XS.aloadN A6 hx rfl (D d37_29) rfl rfl (XS.iloadN A6 hx rfl (D d37_30) rfl (XS.iconst A6 hx rfl (D d37_31) (XS.iadd A6 hx rfl (D d37_32) rfl k))))) ?_
      show Gets p e below _ (T5.setTop (mkF m 33 #[vR o, vI u, vR q, vI (Int32.ofNat (ps).length)] [(.int (u + (1 : Int32))), (.ref o)]))
      have hi1 : 1 < (ps).length := of_lt_inv (by have := Pr2.1; omega) b26
      have g1 := Pr2.2 1 hi1
      refine X5.callV (W := 0) (w204 hw) (w67 hw) (w69 hw) (w68 hw) (nfs rfl (w69 hw)) (by decide) (X5.payM (sf := []) (rmChA hcx o (u + (1 : Int32)) ((u + (1 : Int32)).toNatClampNeg) os h0 X5.old Pr0 g1.1 g1.2.1) sf0 (w70 hw) (w7 hw)) Pr0.exa rfl (sz hml rfl) (argsL := [(.int (u + (1 : Int32)))]) (rest := []) (lenOf pd34 rfl) rfl rfl (mroom rfl rfl) (D d37_33) (by decide) (by decide) fun T33 h33 vm33 v33 X33 C33 z33 q33 => ?_
      obtain ⟨rfl, K33⟩ := q33
      rw [K33] at X33 C33
      have A34 := X33.at
      refine Gets.via (fun _ k => (XS.aloadN A34 hx rfl (D d37_36) rfl rfl (XS.iconst A34 hx rfl (D d37_37) k))) ?_
      refine X33.callV (W := 1) (w204 hw) (w67 hw) (w69 hw) (w68 hw) (nfs rfl (w69 hw)) (by decide) (X33.payM (sf := []) (rmChA hcx q (1 : Int32) 1 ps h0 X33.old Pr1 (by decide) hi1) sf0 (w70 hw) (w7 hw)) Pr1.exa rfl (sz hml rfl) (argsL := [(.int (1 : Int32))]) (rest := [(.int (os.getD (u + (1 : Int32)).toNatClampNeg 0))]) (lenOf pd34 rfl) rfl rfl (mroom rfl rfl) (D d37_38) (by decide) (by decide) fun T35 h35 vm35 v35 X35 C35 z35 q35 => ?_
      obtain ⟨rfl, K35⟩ := q35
      rw [K35] at X35 C35
      have A36 := X35.at
      refine Gets.via (fun _ k => (XS.icmpYes A36 hx rfl (pc0 := 41) (pc' := 46) rfl (D d37_41) rfl (Jvm.Free.XT.ii_eq_t g1.2.2) (by decide) (by decide) k)) ?_
      exact j46 T35 vm35 X35
    · refine Gets.via (fun _ k => (XS.icmpYes A6 hx rfl (pc0 := 26) (pc' := 46) rfl (D d37_26) rfl (Jvm.Free.XT.ii_le_t b26) (by decide) (by decide) k)) ?_
      exact j46 T5 vm5 X5
  by_cases b6 : (0 : Int32) < (Int32.ofNat (ps).length)
  · refine Gets.via (fun _ k => (XS.ifNo A4 hx rfl (D d37_6) rfl (Jvm.Free.XT.i0_le_f b6) k)) ?_
    refine Gets.via (fun _ k => (XS.aloadN A4 hx rfl (D d37_9) rfl rfl (XS.iloadN A4 hx rfl (D d37_10) rfl k))) ?_
    show Gets p e below _ (T3.setTop (mkF m 11 #[vR o, vI u, vR q, vI (Int32.ofNat (ps).length)] [(.int u), (.ref o)]))
    have hi0 : 0 < (ps).length := of_lt_inv (by have := Pr2.1; omega) b6
    have g0 := Pr2.2 0 hi0
    rw [show u + Int32.ofNat 0 = u from Int32.add_zero _] at g0
    refine X3.callV (W := 0) (w204 hw) (w67 hw) (w69 hw) (w68 hw) (nfs rfl (w69 hw)) (by decide) (X3.payM (sf := []) (rmChA hcx o u u.toNatClampNeg os h0 X3.old Pr0 g0.1 g0.2.1) sf0 (w70 hw) (w7 hw)) Pr0.exa rfl (sz hml rfl) (argsL := [(.int u)]) (rest := []) (lenOf pd34 rfl) rfl rfl (mroom rfl rfl) (D d37_11) (by decide) (by decide) fun T37 h37 vm37 v37 X37 C37 z37 q37 => ?_
    obtain ⟨rfl, K37⟩ := q37
    rw [K37] at X37 C37
    have A38 := X37.at
    refine Gets.via (fun _ k => (XS.aloadN A38 hx rfl (D d37_14) rfl rfl (XS.iconst A38 hx rfl (D d37_15) k))) ?_
    refine X37.callV (W := 1) (w204 hw) (w67 hw) (w69 hw) (w68 hw) (nfs rfl (w69 hw)) (by decide) (X37.payM (sf := []) (rmChA hcx q (0 : Int32) 0 ps h0 X37.old Pr1 (by decide) hi0) sf0 (w70 hw) (w7 hw)) Pr1.exa rfl (sz hml rfl) (argsL := [(.int (0 : Int32))]) (rest := [(.int (os.getD u.toNatClampNeg 0))]) (lenOf pd34 rfl) rfl rfl (mroom rfl rfl) (D d37_16) (by decide) (by decide) fun T39 h39 vm39 v39 X39 C39 z39 q39 => ?_
    obtain ⟨rfl, K39⟩ := q39
    rw [K39] at X39 C39
    have A40 := X39.at
    refine Gets.via (fun _ k => (XS.icmpYes A40 hx rfl (pc0 := 19) (pc' := 24) rfl (D d37_19) rfl (Jvm.Free.XT.ii_eq_t g0.2.2) (by decide) (by decide) k)) ?_
    exact j24 T39 vm39 X39
  · refine Gets.via (fun _ k => (XS.ifYes A4 hx rfl (pc0 := 6) (pc' := 24) rfl (D d37_6) rfl (Jvm.Free.XT.i0_le_t b6) (by decide) (by decide) k)) ?_
    exact j24 T3 vm3 X3
abbrev RrmLaw : Room := room_1
def QrmLaw (Z : State) (p0 : Int32) (p1 : Int32) (p2 : Int32) (p3 : Int32) (h0 : Heap) (v : Option Value) (vm : Vm) (h : Heap) : Prop := v = some (.int (1 : Int32)) ∧ Keep h0 h []
theorem rmLaw (hcx : Cx Z a0 zc fm) (p0 : Int32) (p1 : Int32) (p2 : Int32) (p3 : Int32) (h0 : Heap) (O0 : Old Z Z.heap.size h0)  : Met l Z consts_1 x code maxLocals ret tables_1 RrmLaw [] #[(.int p0), (.int p1), (.int p2), (.int p3)] h0 (QrmLaw Z p0 p1 p2 p3 h0) := by
  have ⟨hw, hEL, O2, P5, O4, P6, OA, OH, OB⟩ := hcx
  refine Met.start (a0 := a0) (Ls := #[vI p0, vI p1, vI p2, vI p3, .unset, .unset, .unset, .unset, .unset, .unset, .unset, .unset, .unset, .unset, .unset, .unset, .unset, .unset, .unset, .unset]) pn62 hEL O0 (fun m => by first | (simp [entryFrame, mkF, argsToLocals, Value.category, maxLocals]; done) | rfl) ?_
  intro p e s m below meth cc T0 vm0 X0 sf0_ D hml hret hnm hx zz A0
  refine Gets.via (fun _ k => (XS.iloadN A0 hx rfl (D at_0) rfl (XS.iconst A0 hx rfl (D at_1) (XS.iand A0 hx rfl (D at_2) rfl (XS.istore A0 hx rfl (D at_3) rfl (l' := #[vI p0, vI p1, vI p2, vI p3, vI (p3 &&& (3 : Int32)), .unset, .unset, .unset, .unset, .unset, .unset, .unset, .unset, .unset, .unset, .unset, .unset, .unset, .unset, .unset]) rfl (XS.iloadN A0 hx rfl (D at_5) rfl k)))))) ?_
  refine X0.callS (W := 0) (w0 hw) (w1 hw) (w2 hw) (w3 hw) (by decide) (X0.payM (sf := []) (rmPick hcx p0 h0 X0.old ) sf0 (w3 hw) (w2 hw)) rfl (sz hml rfl) (argsL := [(.int p0)]) (rest := []) (lenOf pd34 rfl) rfl rfl (mroom rfl rfl) (D at_6) (by decide) (by decide) fun T1 h1 vm1 v1 X1 C1 z1 q1 => ?_
  obtain ⟨r1, rfl, K1, g1_0⟩ := q1
  rw [K1] at X1 C1
  have A2 := X1.at
  refine Gets.via (fun _ k => (XS.istore A2 hx rfl (D at_9) rfl (l' := #[vI p0, vI p1, vI p2, vI p3, vI (p3 &&& (3 : Int32)), vI r1, .unset, .unset, .unset, .unset, .unset, .unset, .unset, .unset, .unset, .unset, .unset, .unset, .unset, .unset]) rfl (XS.iloadN A2 hx rfl (D at_11) rfl k))) ?_
  show Gets p e below _ (T1.setTop (mkF m 12 #[vI p0, vI p1, vI p2, vI p3, vI (p3 &&& (3 : Int32)), vI r1, .unset, .unset, .unset, .unset, .unset, .unset, .unset, .unset, .unset, .unset, .unset, .unset, .unset, .unset] [(.int p1)]))
  refine X1.callS (W := 0) (w0 hw) (w1 hw) (w2 hw) (w3 hw) (by decide) (X1.payM (sf := []) (rmPick hcx p1 h0 X1.old ) sf0 (w3 hw) (w2 hw)) rfl (sz hml rfl) (argsL := [(.int p1)]) (rest := []) (lenOf pd34 rfl) rfl rfl (mroom rfl rfl) (D at_12) (by decide) (by decide) fun T3 h3 vm3 v3 X3 C3 z3 q3 => ?_
  obtain ⟨r3, rfl, K3, g3_0⟩ := q3
  rw [K3] at X3 C3
  have A4 := X3.at
  refine Gets.via (fun _ k => (XS.istore A4 hx rfl (D at_15) rfl (l' := #[vI p0, vI p1, vI p2, vI p3, vI (p3 &&& (3 : Int32)), vI r1, vI r3, .unset, .unset, .unset, .unset, .unset, .unset, .unset, .unset, .unset, .unset, .unset, .unset, .unset]) rfl (XS.iloadN A4 hx rfl (D at_17) rfl k))) ?_
  refine X3.callS (W := 0) (w0 hw) (w1 hw) (w2 hw) (w3 hw) (by decide) (X3.payM (sf := []) (rmPick hcx p2 h0 X3.old ) sf0 (w3 hw) (w2 hw)) rfl (sz hml rfl) (argsL := [(.int p2)]) (rest := []) (lenOf pd34 rfl) rfl rfl (mroom rfl rfl) (D at_18) (by decide) (by decide) fun T5 h5 vm5 v5 X5 C5 z5 q5 => ?_
  obtain ⟨r5, rfl, K5, g5_0⟩ := q5
  rw [K5] at X5 C5
  have A6 := X5.at
  refine Gets.via (fun _ k => (XS.istore A6 hx rfl (D at_21) rfl (l' := #[vI p0, vI p1, vI p2, vI p3, vI (p3 &&& (3 : Int32)), vI r1, vI r3, vI r5, .unset, .unset, .unset, .unset, .unset, .unset, .unset, .unset, .unset, .unset, .unset, .unset]) rfl (XS.iconst A6 hx rfl (D at_23) k))) ?_
  refine X5.newA (aty := .char) (w4 hw) rfl (D at_24) rfl (by decide) (cap := 0) (by decide) (by decide) (by decide) (by decide) fun T7 h7 a7 k7 X7 C7 E7 g7 S7 V7 => ?_
  have z7 := E7.1
  have l7 := ltA V7.lt
  have V7_ : Arv Z h7 a7 k7 .char (0 : Int32) [] (.int (0 : Int32)) := padN V7 0
  show Gets p e below _ (T7.setTop (mkF m 26 #[vI p0, vI p1, vI p2, vI p3, vI (p3 &&& (3 : Int32)), vI r1, vI r3, vI r5, .unset, .unset, .unset, .unset, .unset, .unset, .unset, .unset, .unset, .unset, .unset, .unset] [(.ref a7)]))
  have A8 := X7.at
  refine Gets.via (fun _ k => (XS.astore A8 hx rfl (D at_26) rfl rfl (l' := #[vI p0, vI p1, vI p2, vI p3, vI (p3 &&& (3 : Int32)), vI r1, vI r3, vI r5, vR a7, .unset, .unset, .unset, .unset, .unset, .unset, .unset, .unset, .unset, .unset, .unset]) rfl (XS.iconst A8 hx rfl (D at_28) k))) ?_
  refine X7.newA (aty := .char) (w4 hw) rfl (D at_29) rfl (by decide) (cap := 1) (by decide) (by decide) (by decide) (by decide) fun T9 h9 a9 k9 X9 C9 E9 g9 S9 V9 => ?_
  have z9 := E9.1
  have l9 := ltA V9.lt
  have V9_ : Arv Z h9 a9 k9 .char (1 : Int32) [(.int (0 : Int32))] (.int (0 : Int32)) := padN V9 1
  have A10 := X9.at
  refine Gets.via (fun _ k => (XS.dup A10 hx rfl (D at_31) rfl rfl (XS.iconst A10 hx rfl (D at_32) (XS.iload A10 hx rfl (D at_33) rfl k)))) ?_
  refine X9.stC V9_ (i := 0) (by decide) (by decide) (Nat.le_of_ble_eq_true rfl) (by decide) (v := r1) (i2c_in g1_0.1 g1_0.2) (leA (by omega)) rfl rfl (D at_35) fun T11 h11 X11 C11 K11 V11 => ?_
  have z11 := K11.1
  have V11_ : Arv Z h11 a9 k9 .char (1 : Int32) [(.int r1)] (.int (0 : Int32)) := V11
  have A12 := X11.at
  refine Gets.via (fun _ k => (XS.astore A12 hx rfl (D at_36) rfl rfl (l' := #[vI p0, vI p1, vI p2, vI p3, vI (p3 &&& (3 : Int32)), vI r1, vI r3, vI r5, vR a7, vR a9, .unset, .unset, .unset, .unset, .unset, .unset, .unset, .unset, .unset, .unset]) rfl (XS.iconst A12 hx rfl (D at_38) k))) ?_
  show Gets p e below _ (T11.setTop (mkF m 39 #[vI p0, vI p1, vI p2, vI p3, vI (p3 &&& (3 : Int32)), vI r1, vI r3, vI r5, vR a7, vR a9, .unset, .unset, .unset, .unset, .unset, .unset, .unset, .unset, .unset, .unset] [(.int (2 : Int32))]))
  refine X11.newA (aty := .char) (w4 hw) rfl (D at_39) rfl (by decide) (cap := 2) (by decide) (by decide) (by decide) (by decide) fun T13 h13 a13 k13 X13 C13 E13 g13 S13 V13 => ?_
  have z13 := E13.1
  have l13 := ltA V13.lt
  have V13_ : Arv Z h13 a13 k13 .char (2 : Int32) [(.int (0 : Int32)), (.int (0 : Int32))] (.int (0 : Int32)) := padN V13 2
  have A14 := X13.at
  refine Gets.via (fun _ k => (XS.dup A14 hx rfl (D at_41) rfl rfl (XS.iconst A14 hx rfl (D at_42) (XS.iload A14 hx rfl (D at_43) rfl k)))) ?_
  refine X13.stC V13_ (i := 0) (by decide) (by decide) (Nat.le_of_ble_eq_true rfl) (by decide) (v := r1) (i2c_in g1_0.1 g1_0.2) (leA (by omega)) rfl rfl (D at_45) fun T15 h15 X15 C15 K15 V15 => ?_
  have z15 := K15.1
  have V15_ : Arv Z h15 a13 k13 .char (2 : Int32) [(.int r1), (.int (0 : Int32))] (.int (0 : Int32)) := V15
  have A16 := X15.at
  refine Gets.via (fun _ k => (XS.dup A16 hx rfl (D at_46) rfl rfl (XS.iconst A16 hx rfl (D at_47) (XS.iload A16 hx rfl (D at_48) rfl k)))) ?_
  show Gets p e below _ (T15.setTop (mkF m 50 #[vI p0, vI p1, vI p2, vI p3, vI (p3 &&& (3 : Int32)), vI r1, vI r3, vI r5, vR a7, vR a9, .unset, .unset, .unset, .unset, .unset, .unset, .unset, .unset, .unset, .unset] [(.int r3), (.int (1 : Int32)), (.ref a13), (.ref a13)]))
  refine X15.stC V15_ (i := 1) (by decide) (by decide) (Nat.le_of_ble_eq_true rfl) (by decide) (v := r3) (i2c_in g3_0.1 g3_0.2) (leA (by omega)) rfl rfl (D at_50) fun T17 h17 X17 C17 K17 V17 => ?_
  have z17 := K17.1
  have V17_ : Arv Z h17 a13 k13 .char (2 : Int32) [(.int r1), (.int r3)] (.int (0 : Int32)) := V17
  have A18 := X17.at
  refine Gets.via (fun _ k => (XS.astore A18 hx rfl (D at_51) rfl rfl (l' := #[vI p0, vI p1, vI p2, vI p3, vI (p3 &&& (3 : Int32)), vI r1, vI r3, vI r5, vR a7, vR a9, vR a13, .unset, .unset, .unset, .unset, .unset, .unset, .unset, .unset, .unset]) rfl (XS.iconst A18 hx rfl (D at_53) k))) ?_
  refine X17.newA (aty := .char) (w4 hw) rfl (D at_54) rfl (by decide) (cap := 3) (by decide) (by decide) (by decide) (by decide) fun T19 h19 a19 k19 X19 C19 E19 g19 S19 V19 => ?_
  have z19 := E19.1
  have l19 := ltA V19.lt
  have V19_ : Arv Z h19 a19 k19 .char (3 : Int32) [(.int (0 : Int32)), (.int (0 : Int32)), (.int (0 : Int32))] (.int (0 : Int32)) := padN V19 3
  have A20 := X19.at
  refine Gets.via (fun _ k => (XS.dup A20 hx rfl (D at_56) rfl rfl (XS.iconst A20 hx rfl (D at_57) (XS.iload A20 hx rfl (D at_58) rfl k)))) ?_
  refine X19.stC V19_ (i := 0) (by decide) (by decide) (Nat.le_of_ble_eq_true rfl) (by decide) (v := r1) (i2c_in g1_0.1 g1_0.2) (leA (by omega)) rfl rfl (D at_60) fun T21 h21 X21 C21 K21 V21 => ?_
  have z21 := K21.1
  have V21_ : Arv Z h21 a19 k19 .char (3 : Int32) [(.int r1), (.int (0 : Int32)), (.int (0 : Int32))] (.int (0 : Int32)) := V21
  show Gets p e below _ (T21.setTop (mkF m 61 #[vI p0, vI p1, vI p2, vI p3, vI (p3 &&& (3 : Int32)), vI r1, vI r3, vI r5, vR a7, vR a9, vR a13, .unset, .unset, .unset, .unset, .unset, .unset, .unset, .unset, .unset] [(.ref a19)]))
  have A22 := X21.at
  refine Gets.via (fun _ k => (XS.dup A22 hx rfl (D at_61) rfl rfl (XS.iconst A22 hx rfl (D at_62) (XS.iload A22 hx rfl (D at_63) rfl k)))) ?_
  refine X21.stC V21_ (i := 1) (by decide) (by decide) (Nat.le_of_ble_eq_true rfl) (by decide) (v := r3) (i2c_in g3_0.1 g3_0.2) (leA (by omega)) rfl rfl (D at_65) fun T23 h23 X23 C23 K23 V23 => ?_
  have z23 := K23.1
  have V23_ : Arv Z h23 a19 k19 .char (3 : Int32) [(.int r1), (.int r3), (.int (0 : Int32))] (.int (0 : Int32)) := V23
  have A24 := X23.at
  refine Gets.via (fun _ k => (XS.dup A24 hx rfl (D at_66) rfl rfl (XS.iconst A24 hx rfl (D at_67) (XS.iload A24 hx rfl (D at_68) rfl k)))) ?_
  refine X23.stC V23_ (i := 2) (by decide) (by decide) (Nat.le_of_ble_eq_true rfl) (by decide) (v := r5) (i2c_in g5_0.1 g5_0.2) (leA (by omega)) rfl rfl (D at_70) fun T25 h25 X25 C25 K25 V25 => ?_
  have z25 := K25.1
  have V25_ : Arv Z h25 a19 k19 .char (3 : Int32) [(.int r1), (.int r3), (.int r5)] (.int (0 : Int32)) := V25
  show Gets p e below _ (T25.setTop (mkF m 71 #[vI p0, vI p1, vI p2, vI p3, vI (p3 &&& (3 : Int32)), vI r1, vI r3, vI r5, vR a7, vR a9, vR a13, .unset, .unset, .unset, .unset, .unset, .unset, .unset, .unset, .unset] [(.ref a19)]))
  have A26 := X25.at
  refine Gets.via (fun _ k => (XS.astore A26 hx rfl (D at_71) rfl rfl (l' := #[vI p0, vI p1, vI p2, vI p3, vI (p3 &&& (3 : Int32)), vI r1, vI r3, vI r5, vR a7, vR a9, vR a13, vR a19, .unset, .unset, .unset, .unset, .unset, .unset, .unset, .unset]) rfl k)) ?_
  have j150 : ∀ (T27 : State) (h27 : Heap) (vm27 : Vm) (sa : Addr) (oa : Addr) (os : List Int32) (X27 : Wk p l e RrmLaw s m #[(.int p0), (.int p1), (.int p2), (.int p3)] below meth cc x.cls Z a0 consts_1 h0 T27 h27 vm27 40 2000) (K27 : Keep h25 h27 []) (j27_0 : Any Z h27 oa os) (j27_1 : os = esc ([r1, r3, r5].take (p3 &&& (3 : Int32)).toNatClampNeg)), Gets p e below (Jvm.Ow.Out s Z consts_1 RrmLaw (QrmLaw Z p0 p1 p2 p3 h0)) (T27.setTop (mkF m 150 #[vI p0, vI p1, vI p2, vI p3, vI (p3 &&& (3 : Int32)), vI r1, vI r3, vI r5, vR a7, vR a9, vR a13, vR a19, vR sa, vR oa, .unset, .unset, .unset, .unset, .unset, .unset] [])) := by
    intro T27 h27 vm27 sa oa os X27 K27 j27_0 j27_1
    have z27 := K27.1
    have l28 := ltA j27_0.lt
    have A29 := X27.at
    refine Gets.via (fun _ k => (XS.iload A29 hx rfl (D at_150) rfl k)) ?_
    refine X27.callS (W := 0) (w194 hw) (w195 hw) (w2 hw) (w196 hw) (by decide) (X27.payM (sf := []) (rmPiece hcx r1 h27 X27.old g1_0) sf0 (w196 hw) (w2 hw)) rfl (sz hml rfl) (argsL := [(.int r1)]) (rest := []) (lenOf pd39 rfl) rfl rfl (mroom rfl rfl) (D at_152) (by decide) (by decide) fun T30 h30 vm30 v30 X30 C30 z30 q30 => ?_
    obtain ⟨a30, ds30, rfl, K30, g30_0, rfl⟩ := q30
    have l31 := ltA g30_0.lt
    have A32 := X30.at
    refine Gets.via (fun _ k => (XS.astore A32 hx rfl (D at_155) rfl rfl (l' := #[vI p0, vI p1, vI p2, vI p3, vI (p3 &&& (3 : Int32)), vI r1, vI r3, vI r5, vR a7, vR a9, vR a13, vR a19, vR sa, vR oa, vR a30, .unset, .unset, .unset, .unset, .unset]) rfl (XS.iload A32 hx rfl (D at_157) rfl k))) ?_
    refine X30.callS (W := 0) (w194 hw) (w195 hw) (w2 hw) (w196 hw) (by decide) (X30.payM (sf := []) (rmPiece hcx r3 h30 X30.old g3_0) sf0 (w196 hw) (w2 hw)) rfl (sz hml rfl) (argsL := [(.int r3)]) (rest := []) (lenOf pd39 rfl) rfl rfl (mroom rfl rfl) (D at_159) (by decide) (by decide) fun T33 h33 vm33 v33 X33 C33 z33 q33 => ?_
    obtain ⟨a33, ds33, rfl, K33, g33_0, rfl⟩ := q33
    have l34 := ltA g33_0.lt
    have A35 := X33.at
    refine Gets.via (fun _ k => (XS.astore A35 hx rfl (D at_162) rfl rfl (l' := #[vI p0, vI p1, vI p2, vI p3, vI (p3 &&& (3 : Int32)), vI r1, vI r3, vI r5, vR a7, vR a9, vR a13, vR a19, vR sa, vR oa, vR a30, vR a33, .unset, .unset, .unset, .unset]) rfl (XS.iload A35 hx rfl (D at_164) rfl k))) ?_
    show Gets p e below _ (T33.setTop (mkF m 166 #[vI p0, vI p1, vI p2, vI p3, vI (p3 &&& (3 : Int32)), vI r1, vI r3, vI r5, vR a7, vR a9, vR a13, vR a19, vR sa, vR oa, vR a30, vR a33, .unset, .unset, .unset, .unset] [(.int r5)]))
    refine X33.callS (W := 0) (w194 hw) (w195 hw) (w2 hw) (w196 hw) (by decide) (X33.payM (sf := []) (rmPiece hcx r5 h33 X33.old g5_0) sf0 (w196 hw) (w2 hw)) rfl (sz hml rfl) (argsL := [(.int r5)]) (rest := []) (lenOf pd39 rfl) rfl rfl (mroom rfl rfl) (D at_166) (by decide) (by decide) fun T36 h36 vm36 v36 X36 C36 z36 q36 => ?_
    obtain ⟨a36, ds36, rfl, K36, g36_0, rfl⟩ := q36
    have l37 := ltA g36_0.lt
    have A38 := X36.at
    refine Gets.via (fun _ k => (XS.astore A38 hx rfl (D at_169) rfl rfl (l' := #[vI p0, vI p1, vI p2, vI p3, vI (p3 &&& (3 : Int32)), vI r1, vI r3, vI r5, vR a7, vR a9, vR a13, vR a19, vR sa, vR oa, vR a30, vR a33, vR a36, .unset, .unset, .unset]) rfl (XS.iload A38 hx rfl (D at_171) rfl (XS.iconst A38 hx rfl (D at_173) k)))) ?_
    have f39 : Any Z h36 a30 (pcL r1) := g30_0.keep (((Keep.refl h30 []).trans K33 all0).trans K36 all0)
    have j186 : ∀ (T40 : State) (vm40 : Vm) (X40 : Wk p l e RrmLaw s m #[(.int p0), (.int p1), (.int p2), (.int p3)] below meth cc x.cls Z a0 consts_1 h0 T40 h36 vm40 46 2084) (l0_ : Int32) (ql0_ : l0_ = if (p3 &&& (3 : Int32)) < (1 : Int32) then (0 : Int32) else Int32.ofNat ((pcL r1)).length), Gets p e below (Jvm.Ow.Out s Z consts_1 RrmLaw (QrmLaw Z p0 p1 p2 p3 h0)) (T40.setTop (mkF m 186 #[vI p0, vI p1, vI p2, vI p3, vI (p3 &&& (3 : Int32)), vI r1, vI r3, vI r5, vR a7, vR a9, vR a13, vR a19, vR sa, vR oa, vR a30, vR a33, vR a36, .unset, .unset, .unset] [(.int l0_)])) := by
      intro T40 vm40 X40 l0_ ql0_
      have A41 := X40.at
      refine Gets.via (fun _ k => (XS.istore A41 hx rfl (D at_186) rfl (l' := #[vI p0, vI p1, vI p2, vI p3, vI (p3 &&& (3 : Int32)), vI r1, vI r3, vI r5, vR a7, vR a9, vR a13, vR a19, vR sa, vR oa, vR a30, vR a33, vR a36, vI l0_, .unset, .unset]) rfl (XS.iload A41 hx rfl (D at_188) rfl (XS.iconst A41 hx rfl (D at_190) k)))) ?_
      have f42 : Any Z h36 a33 (pcL r3) := g33_0.keep ((Keep.refl h33 []).trans K36 all0)
      have j203 : ∀ (T43 : State) (vm43 : Vm) (X43 : Wk p l e RrmLaw s m #[(.int p0), (.int p1), (.int p2), (.int p3)] below meth cc x.cls Z a0 consts_1 h0 T43 h36 vm43 46 2084) (l1_ : Int32) (ql1_ : l1_ = if (p3 &&& (3 : Int32)) < (2 : Int32) then (0 : Int32) else Int32.ofNat ((pcL r3)).length), Gets p e below (Jvm.Ow.Out s Z consts_1 RrmLaw (QrmLaw Z p0 p1 p2 p3 h0)) (T43.setTop (mkF m 203 #[vI p0, vI p1, vI p2, vI p3, vI (p3 &&& (3 : Int32)), vI r1, vI r3, vI r5, vR a7, vR a9, vR a13, vR a19, vR sa, vR oa, vR a30, vR a33, vR a36, vI l0_, .unset, .unset] [(.int l1_)])) := by
        intro T43 vm43 X43 l1_ ql1_
        have A44 := X43.at
        refine Gets.via (fun _ k => (XS.istore A44 hx rfl (D at_203) rfl (l' := #[vI p0, vI p1, vI p2, vI p3, vI (p3 &&& (3 : Int32)), vI r1, vI r3, vI r5, vR a7, vR a9, vR a13, vR a19, vR sa, vR oa, vR a30, vR a33, vR a36, vI l0_, vI l1_, .unset]) rfl (XS.iload A44 hx rfl (D at_205) rfl (XS.iconst A44 hx rfl (D at_207) k)))) ?_
        show Gets p e below _ (T43.setTop (mkF m 208 #[vI p0, vI p1, vI p2, vI p3, vI (p3 &&& (3 : Int32)), vI r1, vI r3, vI r5, vR a7, vR a9, vR a13, vR a19, vR sa, vR oa, vR a30, vR a33, vR a36, vI l0_, vI l1_, .unset] [(.int (3 : Int32)), (.int (p3 &&& (3 : Int32)))]))
        have j220 : ∀ (T45 : State) (vm45 : Vm) (X45 : Wk p l e RrmLaw s m #[(.int p0), (.int p1), (.int p2), (.int p3)] below meth cc x.cls Z a0 consts_1 h0 T45 h36 vm45 46 2084) (l2_ : Int32) (ql2_ : l2_ = if (p3 &&& (3 : Int32)) < (3 : Int32) then (0 : Int32) else Int32.ofNat ((pcL r5)).length), Gets p e below (Jvm.Ow.Out s Z consts_1 RrmLaw (QrmLaw Z p0 p1 p2 p3 h0)) (T45.setTop (mkF m 220 #[vI p0, vI p1, vI p2, vI p3, vI (p3 &&& (3 : Int32)), vI r1, vI r3, vI r5, vR a7, vR a9, vR a13, vR a19, vR sa, vR oa, vR a30, vR a33, vR a36, vI l0_, vI l1_, .unset] [(.int l2_)])) := by
          intro T45 vm45 X45 l2_ ql2_
          have A46 := X45.at
          refine Gets.via (fun _ k => (XS.istore A46 hx rfl (D at_220) rfl (l' := #[vI p0, vI p1, vI p2, vI p3, vI (p3 &&& (3 : Int32)), vI r1, vI r3, vI r5, vR a7, vR a9, vR a13, vR a19, vR sa, vR oa, vR a30, vR a33, vR a36, vI l0_, vI l1_, vI l2_]) rfl (XS.aload A46 hx rfl (D at_222) rfl rfl k))) ?_
          have hF := fin3 (sz4 p3) j27_1 ql0_ ql1_ ql2_
          have f47 : Any Z h36 oa os := j27_0.keep ((((Keep.refl h27 []).trans K30 all0).trans K33 all0).trans K36 all0)
          refine X45.callV (W := 0) (w200 hw) (w42 hw) (w44 hw) (w43 hw) (nfs rfl (w44 hw)) (by decide) (X45.payM (sf := []) (rmLenA hcx oa os h36 X45.old f47) sf0 (w45 hw) (w7 hw)) f47.exa rfl (sz hml rfl) (argsL := []) (rest := []) (lenOf pd22 rfl) rfl rfl (mroom rfl rfl) (D at_224) (by decide) (by decide) fun T48 h48 vm48 v48 X48 C48 z48 q48 => ?_
          obtain ⟨rfl, K48⟩ := q48
          rw [K48] at X48 C48
          have A49 := X48.at
          refine Gets.via (fun _ k => (XS.iload A49 hx rfl (D at_227) rfl (XS.iload A49 hx rfl (D at_229) rfl (XS.iadd A49 hx rfl (D at_231) rfl (XS.iload A49 hx rfl (D at_232) rfl (XS.iadd A49 hx rfl (D at_234) rfl (XS.icmpYes A49 hx rfl (pc0 := 235) (pc' := 240) rfl (D at_235) rfl (Jvm.Free.XT.ii_eq_t hF.1) (by decide) (by decide) k))))))) ?_
          refine Gets.via (fun _ k => (XS.iload A49 hx rfl (D at_240) rfl (XS.iconst A49 hx rfl (D at_242) k))) ?_
          show Gets p e below _ (T48.setTop (mkF m 243 #[vI p0, vI p1, vI p2, vI p3, vI (p3 &&& (3 : Int32)), vI r1, vI r3, vI r5, vR a7, vR a9, vR a13, vR a19, vR sa, vR oa, vR a30, vR a33, vR a36, vI l0_, vI l1_, vI l2_] [(.int (1 : Int32)), (.int (p3 &&& (3 : Int32)))]))
          have j259 : ∀ (T50 : State) (vm50 : Vm) (X50 : Wk p l e RrmLaw s m #[(.int p0), (.int p1), (.int p2), (.int p3)] below meth cc x.cls Z a0 consts_1 h0 T50 h36 vm50 46 2084), Gets p e below (Jvm.Ow.Out s Z consts_1 RrmLaw (QrmLaw Z p0 p1 p2 p3 h0)) (T50.setTop (mkF m 259 #[vI p0, vI p1, vI p2, vI p3, vI (p3 &&& (3 : Int32)), vI r1, vI r3, vI r5, vR a7, vR a9, vR a13, vR a19, vR sa, vR oa, vR a30, vR a33, vR a36, vI l0_, vI l1_, vI l2_] [])) := by
            intro T50 vm50 X50 
            have A51 := X50.at
            refine Gets.via (fun _ k => (XS.iload A51 hx rfl (D at_259) rfl (XS.iconst A51 hx rfl (D at_261) k))) ?_
            have j279 : ∀ (T52 : State) (vm52 : Vm) (X52 : Wk p l e RrmLaw s m #[(.int p0), (.int p1), (.int p2), (.int p3)] below meth cc x.cls Z a0 consts_1 h0 T52 h36 vm52 46 2084), Gets p e below (Jvm.Ow.Out s Z consts_1 RrmLaw (QrmLaw Z p0 p1 p2 p3 h0)) (T52.setTop (mkF m 279 #[vI p0, vI p1, vI p2, vI p3, vI (p3 &&& (3 : Int32)), vI r1, vI r3, vI r5, vR a7, vR a9, vR a13, vR a19, vR sa, vR oa, vR a30, vR a33, vR a36, vI l0_, vI l1_, vI l2_] [])) := by
              intro T52 vm52 X52 
              have A53 := X52.at
              refine Gets.via (fun _ k => (XS.iload A53 hx rfl (D at_279) rfl (XS.iconst A53 hx rfl (D at_281) k))) ?_
              have j302 : ∀ (T54 : State) (vm54 : Vm) (X54 : Wk p l e RrmLaw s m #[(.int p0), (.int p1), (.int p2), (.int p3)] below meth cc x.cls Z a0 consts_1 h0 T54 h36 vm54 46 2084), Gets p e below (Jvm.Ow.Out s Z consts_1 RrmLaw (QrmLaw Z p0 p1 p2 p3 h0)) (T54.setTop (mkF m 302 #[vI p0, vI p1, vI p2, vI p3, vI (p3 &&& (3 : Int32)), vI r1, vI r3, vI r5, vR a7, vR a9, vR a13, vR a19, vR sa, vR oa, vR a30, vR a33, vR a36, vI l0_, vI l1_, vI l2_] [])) := by
                intro T54 vm54 X54 
                have A55 := X54.at
                refine Gets.via (fun _ k => (XS.iconst A55 hx rfl (D at_302) k)) ?_
                exact X54.retI hret (by decide) (by simp) (D at_303) (by decide) (by decide) (fun vmE CE => ⟨rfl, (((((((((((((((Keep.refl h0 []).ext E7).ext E9).trans K11 (allS (Or.inr (leA (by omega))) all0)).ext E13).trans K15 (allS (Or.inr (leA (by omega))) all0)).trans K17 (allS (Or.inr (leA (by omega))) all0)).ext E19).trans K21 (allS (Or.inr (leA (by omega))) all0)).trans K23 (allS (Or.inr (leA (by omega))) all0)).trans K25 (allS (Or.inr (leA (by omega))) all0)).trans K27 all0).trans K30 all0).trans K33 all0).trans K36 all0)⟩)
              by_cases b282 : (p3 &&& (3 : Int32)) < (3 : Int32)
              · refine Gets.via (fun _ k => (XS.icmpYes A53 hx rfl (pc0 := 282) (pc' := 302) rfl (D at_282) rfl (Jvm.Free.XT.ii_lt_t b282) (by decide) (by decide) k)) ?_
                exact j302 T52 vm52 X52
              · refine Gets.via (fun _ k => (XS.icmpNo A53 hx rfl (D at_282) rfl (Jvm.Free.XT.ii_lt_f b282) k)) ?_
                refine Gets.via (fun _ k => (XS.aload A53 hx rfl (D at_285) rfl rfl (XS.iload A53 hx rfl (D at_287) rfl (XS.iload A53 hx rfl (D at_289) rfl (XS.iadd A53 hx rfl (D at_291) rfl (XS.aload A53 hx rfl (D at_292) rfl rfl k)))))) ?_
                show Gets p e below _ (T52.setTop (mkF m 294 #[vI p0, vI p1, vI p2, vI p3, vI (p3 &&& (3 : Int32)), vI r1, vI r3, vI r5, vR a7, vR a9, vR a13, vR a19, vR sa, vR oa, vR a30, vR a33, vR a36, vI l0_, vI l1_, vI l2_] [(.ref a36), (.int (l0_ + l1_)), (.ref oa)]))
                have f56 : Any Z h36 oa os := j27_0.keep ((((Keep.refl h27 []).trans K30 all0).trans K33 all0).trans K36 all0)
                refine X52.callS (W := 0) (w201 hw) (w202 hw) (w2 hw) (w203 hw) (by decide) (X52.payM (sf := []) (rmAt hcx oa (l0_ + l1_) a36 os (pcL r5) h36 X52.old f56 g36_0 (hF.2.2.2 b282)) sf0 (w203 hw) (w2 hw)) rfl (sz hml rfl) (argsL := [(.ref oa), (.int (l0_ + l1_)), (.ref a36)]) (rest := []) (lenOf pd40 rfl) rfl rfl (mroom rfl rfl) (D at_294) (by decide) (by decide) fun T57 h57 vm57 v57 X57 C57 z57 q57 => ?_
                obtain ⟨rfl, K57⟩ := q57
                rw [K57] at X57 C57
                have A58 := X57.at
                refine Gets.via (fun _ k => (XS.ifYes A58 hx rfl (pc0 := 297) (pc' := 302) rfl (D at_297) rfl (Jvm.Free.XT.i0_ne_t (by decide)) (by decide) (by decide) k)) ?_
                exact j302 T57 vm57 X57
            by_cases b262 : (p3 &&& (3 : Int32)) < (2 : Int32)
            · refine Gets.via (fun _ k => (XS.icmpYes A51 hx rfl (pc0 := 262) (pc' := 279) rfl (D at_262) rfl (Jvm.Free.XT.ii_lt_t b262) (by decide) (by decide) k)) ?_
              exact j279 T50 vm50 X50
            · refine Gets.via (fun _ k => (XS.icmpNo A51 hx rfl (D at_262) rfl (Jvm.Free.XT.ii_lt_f b262) k)) ?_
              refine Gets.via (fun _ k => (XS.aload A51 hx rfl (D at_265) rfl rfl (XS.iload A51 hx rfl (D at_267) rfl (XS.aload A51 hx rfl (D at_269) rfl rfl k)))) ?_
              have f59 : Any Z h36 a33 (pcL r3) := g33_0.keep ((Keep.refl h33 []).trans K36 all0)
              have f60 : Any Z h36 oa os := j27_0.keep ((((Keep.refl h27 []).trans K30 all0).trans K33 all0).trans K36 all0)
              refine X50.callS (W := 0) (w201 hw) (w202 hw) (w2 hw) (w203 hw) (by decide) (X50.payM (sf := []) (rmAt hcx oa l0_ a33 os (pcL r3) h36 X50.old f60 f59 (hF.2.2.1 b262)) sf0 (w203 hw) (w2 hw)) rfl (sz hml rfl) (argsL := [(.ref oa), (.int l0_), (.ref a33)]) (rest := []) (lenOf pd40 rfl) rfl rfl (mroom rfl rfl) (D at_271) (by decide) (by decide) fun T61 h61 vm61 v61 X61 C61 z61 q61 => ?_
              obtain ⟨rfl, K61⟩ := q61
              rw [K61] at X61 C61
              show Gets p e below _ (T61.setTop (mkF m 274 #[vI p0, vI p1, vI p2, vI p3, vI (p3 &&& (3 : Int32)), vI r1, vI r3, vI r5, vR a7, vR a9, vR a13, vR a19, vR sa, vR oa, vR a30, vR a33, vR a36, vI l0_, vI l1_, vI l2_] [(.int (1 : Int32))]))
              have A62 := X61.at
              refine Gets.via (fun _ k => (XS.ifYes A62 hx rfl (pc0 := 274) (pc' := 279) rfl (D at_274) rfl (Jvm.Free.XT.i0_ne_t (by decide)) (by decide) (by decide) k)) ?_
              exact j279 T61 vm61 X61
          by_cases b243 : (p3 &&& (3 : Int32)) < (1 : Int32)
          · refine Gets.via (fun _ k => (XS.icmpYes A49 hx rfl (pc0 := 243) (pc' := 259) rfl (D at_243) rfl (Jvm.Free.XT.ii_lt_t b243) (by decide) (by decide) k)) ?_
            exact j259 T48 vm48 X48
          · refine Gets.via (fun _ k => (XS.icmpNo A49 hx rfl (D at_243) rfl (Jvm.Free.XT.ii_lt_f b243) k)) ?_
            refine Gets.via (fun _ k => (XS.aload A49 hx rfl (D at_246) rfl rfl (XS.iconst A49 hx rfl (D at_248) (XS.aload A49 hx rfl (D at_249) rfl rfl k)))) ?_
            have f63 : Any Z h36 a30 (pcL r1) := g30_0.keep (((Keep.refl h30 []).trans K33 all0).trans K36 all0)
            have f64 : Any Z h36 oa os := j27_0.keep ((((Keep.refl h27 []).trans K30 all0).trans K33 all0).trans K36 all0)
            refine X48.callS (W := 0) (w201 hw) (w202 hw) (w2 hw) (w203 hw) (by decide) (X48.payM (sf := []) (rmAt hcx oa (0 : Int32) a30 os (pcL r1) h36 X48.old f64 f63 (hF.2.1 b243)) sf0 (w203 hw) (w2 hw)) rfl (sz hml rfl) (argsL := [(.ref oa), (.int (0 : Int32)), (.ref a30)]) (rest := []) (lenOf pd40 rfl) rfl rfl (mroom rfl rfl) (D at_251) (by decide) (by decide) fun T65 h65 vm65 v65 X65 C65 z65 q65 => ?_
            obtain ⟨rfl, K65⟩ := q65
            rw [K65] at X65 C65
            have A66 := X65.at
            refine Gets.via (fun _ k => (XS.ifYes A66 hx rfl (pc0 := 254) (pc' := 259) rfl (D at_254) rfl (Jvm.Free.XT.i0_ne_t (by decide)) (by decide) (by decide) k)) ?_
            exact j259 T65 vm65 X65
        by_cases b208 : (p3 &&& (3 : Int32)) < (3 : Int32)
        · refine Gets.via (fun _ k => (XS.icmpYes A44 hx rfl (pc0 := 208) (pc' := 219) rfl (D at_208) rfl (Jvm.Free.XT.ii_lt_t b208) (by decide) (by decide) k)) ?_
          refine Gets.via (fun _ k => (XS.iconst A44 hx rfl (D at_219) k)) ?_
          show Gets p e below _ (T43.setTop (mkF m 220 #[vI p0, vI p1, vI p2, vI p3, vI (p3 &&& (3 : Int32)), vI r1, vI r3, vI r5, vR a7, vR a9, vR a13, vR a19, vR sa, vR oa, vR a30, vR a33, vR a36, vI l0_, vI l1_, .unset] [(.int (0 : Int32))]))
          exact j220 T43 vm43 X43 _ (if_pos b208).symm
        · refine Gets.via (fun _ k => (XS.icmpNo A44 hx rfl (D at_208) rfl (Jvm.Free.XT.ii_lt_f b208) k)) ?_
          refine Gets.via (fun _ k => (XS.aload A44 hx rfl (D at_211) rfl rfl k)) ?_
          refine X43.callV (W := 0) (w200 hw) (w42 hw) (w44 hw) (w43 hw) (nfs rfl (w44 hw)) (by decide) (X43.payM (sf := []) (rmLenA hcx a36 (pcL r5) h36 X43.old g36_0) sf0 (w45 hw) (w7 hw)) g36_0.exa rfl (sz hml rfl) (argsL := []) (rest := []) (lenOf pd22 rfl) rfl rfl (mroom rfl rfl) (D at_213) (by decide) (by decide) fun T67 h67 vm67 v67 X67 C67 z67 q67 => ?_
          obtain ⟨rfl, K67⟩ := q67
          rw [K67] at X67 C67
          have A68 := X67.at
          refine Gets.via (fun _ k => (XS.goto A68 hx rfl (pc0 := 216) (pc' := 220) rfl (D at_216) (by decide) (by decide) k)) ?_
          exact j220 T67 vm67 X67 _ (if_neg b208).symm
      by_cases b191 : (p3 &&& (3 : Int32)) < (2 : Int32)
      · refine Gets.via (fun _ k => (XS.icmpYes A41 hx rfl (pc0 := 191) (pc' := 202) rfl (D at_191) rfl (Jvm.Free.XT.ii_lt_t b191) (by decide) (by decide) k)) ?_
        refine Gets.via (fun _ k => (XS.iconst A41 hx rfl (D at_202) k)) ?_
        exact j203 T40 vm40 X40 _ (if_pos b191).symm
      · refine Gets.via (fun _ k => (XS.icmpNo A41 hx rfl (D at_191) rfl (Jvm.Free.XT.ii_lt_f b191) k)) ?_
        refine Gets.via (fun _ k => (XS.aload A41 hx rfl (D at_194) rfl rfl k)) ?_
        refine X40.callV (W := 0) (w200 hw) (w42 hw) (w44 hw) (w43 hw) (nfs rfl (w44 hw)) (by decide) (X40.payM (sf := []) (rmLenA hcx a33 (pcL r3) h36 X40.old f42) sf0 (w45 hw) (w7 hw)) f42.exa rfl (sz hml rfl) (argsL := []) (rest := []) (lenOf pd22 rfl) rfl rfl (mroom rfl rfl) (D at_196) (by decide) (by decide) fun T69 h69 vm69 v69 X69 C69 z69 q69 => ?_
        obtain ⟨rfl, K69⟩ := q69
        rw [K69] at X69 C69
        show Gets p e below _ (T69.setTop (mkF m 199 #[vI p0, vI p1, vI p2, vI p3, vI (p3 &&& (3 : Int32)), vI r1, vI r3, vI r5, vR a7, vR a9, vR a13, vR a19, vR sa, vR oa, vR a30, vR a33, vR a36, vI l0_, .unset, .unset] [(.int (Int32.ofNat ((pcL r3)).length))]))
        have A70 := X69.at
        refine Gets.via (fun _ k => (XS.goto A70 hx rfl (pc0 := 199) (pc' := 203) rfl (D at_199) (by decide) (by decide) k)) ?_
        exact j203 T69 vm69 X69 _ (if_neg b191).symm
    by_cases b174 : (p3 &&& (3 : Int32)) < (1 : Int32)
    · refine Gets.via (fun _ k => (XS.icmpYes A38 hx rfl (pc0 := 174) (pc' := 185) rfl (D at_174) rfl (Jvm.Free.XT.ii_lt_t b174) (by decide) (by decide) k)) ?_
      refine Gets.via (fun _ k => (XS.iconst A38 hx rfl (D at_185) k)) ?_
      exact j186 T36 vm36 X36 _ (if_pos b174).symm
    · refine Gets.via (fun _ k => (XS.icmpNo A38 hx rfl (D at_174) rfl (Jvm.Free.XT.ii_lt_f b174) k)) ?_
      refine Gets.via (fun _ k => (XS.aload A38 hx rfl (D at_177) rfl rfl k)) ?_
      refine X36.callV (W := 0) (w200 hw) (w42 hw) (w44 hw) (w43 hw) (nfs rfl (w44 hw)) (by decide) (X36.payM (sf := []) (rmLenA hcx a30 (pcL r1) h36 X36.old f39) sf0 (w45 hw) (w7 hw)) f39.exa rfl (sz hml rfl) (argsL := []) (rest := []) (lenOf pd22 rfl) rfl rfl (mroom rfl rfl) (D at_179) (by decide) (by decide) fun T71 h71 vm71 v71 X71 C71 z71 q71 => ?_
      obtain ⟨rfl, K71⟩ := q71
      rw [K71] at X71 C71
      have A72 := X71.at
      refine Gets.via (fun _ k => (XS.goto A72 hx rfl (pc0 := 182) (pc' := 186) rfl (D at_182) (by decide) (by decide) k)) ?_
      exact j186 T71 vm71 X71 _ (if_neg b174).symm
  rcases sz4 p3 with hs | hs | hs | hs
  · skip
    have hRk : ∀ z_ ∈ ([] : List Int32), ¬ z_ < 0 ∧ ¬ (65535 : Int32) < z_ := allN
    refine Gets.via (fun _ k => (XS.iload A26 hx rfl (D at_73) rfl (XS.ifNo A26 hx rfl (D at_75) rfl (Jvm.Free.XT.i0_ne_f hs) k))) ?_
    refine X25.new (w5 hw) (w6 hw) (w7 hw) rfl (D at_78) (by decide) (by decide) fun T73 h73 a73 X73 C73 E73 g73 Z73 S73 D73 => ?_
    have z73 := E73.1
    have l73 := ltA Z73.lt
    show Gets p e below _ (T73.setTop (mkF m 81 #[vI p0, vI p1, vI p2, vI p3, vI (p3 &&& (3 : Int32)), vI r1, vI r3, vI r5, vR a7, vR a9, vR a13, vR a19, .unset, .unset, .unset, .unset, .unset, .unset, .unset, .unset] [(.ref a73)]))
    have A74 := X73.at
    refine Gets.via (fun _ k => (XS.dup A74 hx rfl (D at_81) rfl rfl (XS.aload A74 hx rfl (D at_82) rfl rfl k))) ?_
    have f75 := V7_.ext E9
    have f76 := f75.keep K11 (ninS (neA (by omega)) nin0)
    have f77 := f76.ext E13
    have f78 := f77.keep K15 (ninS (neA (by omega)) nin0)
    have f79 := f78.keep K17 (ninS (neA (by omega)) nin0)
    have f80 := f79.ext E19
    have f81 := f80.keep K21 (ninS (neA (by omega)) nin0)
    have f82 := f81.keep K23 (ninS (neA (by omega)) nin0)
    have f83 := f82.keep K25 (ninS (neA (by omega)) nin0)
    have f84 := f83.ext E73
    refine X73.callI (y := (⟨"java/lang/String", "<init>", "([C)V"⟩ : MethodName)) (W := 1) rfl (w8 hw) (w9 hw) (w10 hw) (by decide) (X73.payM (sf := [a73]) (rmE1 hcx a73 a7 k7 h73 X73.old Z73 (D73 (Or.inr (w31 hw)) (ty := .byte) (by decide) : Fld Z h73 a73 "java/lang/String" "coder" "B" (.int (0 : Int32))) ((D73 (Or.inr (w33 hw)) (ty := (.array .byte)) (by decide) : Fld Z h73 a73 "java/lang/String" "value" "[B" .null)) (leA (by omega)) f84) (sfS S73 sf0) (w10 hw) (w7 hw)) rfl (sz hml rfl) (a := a73) (argsL := [(.ref a7)]) (rest := [(.ref a73)]) (lenOf pd41 rfl) rfl rfl (mroom rfl rfl) (D at_84) (by decide) (by decide) fun T85 h85 vm85 v85 X85 C85 z85 q85 => ?_
    obtain ⟨t85, kb85, rfl, K85, g85_0⟩ := q85
    have l86 := ltA g85_0.lt
    have l87 := ltA g85_0.lb
    have A88 := X85.at
    refine Gets.via (fun _ k => (XS.astore A88 hx rfl (D at_87) rfl rfl (l' := #[vI p0, vI p1, vI p2, vI p3, vI (p3 &&& (3 : Int32)), vI r1, vI r3, vI r5, vR a7, vR a9, vR a13, vR a19, vR a73, .unset, .unset, .unset, .unset, .unset, .unset, .unset]) rfl (XS.goto A88 hx rfl (pc0 := 89) (pc' := 143) rfl (D at_89) (by decide) (by decide) k))) ?_
    refine Gets.via (fun _ k => (XS.aload A88 hx rfl (D at_143) rfl rfl k)) ?_
    have f89 : Any Z h85 a73 [] := Or.inl ⟨_, _, g85_0⟩
    refine X85.callS (W := 0) (w34 hw) (w35 hw) (w36 hw) (w37 hw) (by decide) (X85.payM (sf := []) (rmEsc hcx a73 [] h85 X85.old f89 (by first | exact Nat.le_of_ble_eq_true rfl | omega) hRk) sf0 (w37 hw) (w36 hw)) rfl (sz hml rfl) (argsL := [(.ref a73)]) (rest := []) (lenOf pd42 rfl) rfl rfl (mroom rfl rfl) (D at_145) (by decide) (by decide) fun T90 h90 vm90 v90 X90 C90 z90 q90 => ?_
    obtain ⟨a90, os90, rfl, K90, g90_0, rfl⟩ := q90
    have l91 := ltA g90_0.lt
    have A92 := X90.at
    refine Gets.via (fun _ k => (XS.astore A92 hx rfl (D at_148) rfl rfl (l' := #[vI p0, vI p1, vI p2, vI p3, vI (p3 &&& (3 : Int32)), vI r1, vI r3, vI r5, vR a7, vR a9, vR a13, vR a19, vR a73, vR a90, .unset, .unset, .unset, .unset, .unset, .unset]) rfl k)) ?_
    show Gets p e below _ (T90.setTop (mkF m 150 #[vI p0, vI p1, vI p2, vI p3, vI (p3 &&& (3 : Int32)), vI r1, vI r3, vI r5, vR a7, vR a9, vR a13, vR a19, vR a73, vR a90, .unset, .unset, .unset, .unset, .unset, .unset] []))
    exact j150 T90 h90 vm90 a73 a90 (esc []) (X90.more (by decide) (by decide)) ((((Keep.refl h25 []).ext E73).trans K85 (allS (Or.inr (leA (by omega))) all0)).trans K90 all0) g90_0 (by rw [hs] <;> rfl)
  · skip
    have hRk : ∀ z_ ∈ [r1], ¬ z_ < 0 ∧ ¬ (65535 : Int32) < z_ := allI g1_0 (allN)
    rcases Classical.em ((255 : Int32) < r1) with hw_ | hw_
    · skip
      refine Gets.via (fun _ k => (XS.iload A26 hx rfl (D at_73) rfl (XS.ifYes A26 hx rfl (pc0 := 75) (pc' := 92) rfl (D at_75) rfl (Jvm.Free.XT.i0_ne_t (by rw [hs]; decide)) (by decide) (by decide) k))) ?_
      refine Gets.via (fun _ k => (XS.iload A26 hx rfl (D at_92) rfl (XS.iconst A26 hx rfl (D at_94) (XS.icmpNo A26 hx rfl (D at_95) rfl (Jvm.Free.XT.ii_ne_f hs) k)))) ?_
      refine X25.new (w5 hw) (w6 hw) (w7 hw) rfl (D at_98) (by decide) (by decide) fun T93 h93 a93 X93 C93 E93 g93 Z93 S93 D93 => ?_
      have z93 := E93.1
      have l93 := ltA Z93.lt
      have A94 := X93.at
      refine Gets.via (fun _ k => (XS.dup A94 hx rfl (D at_101) rfl rfl (XS.aload A94 hx rfl (D at_102) rfl rfl k))) ?_
      have f95 := V11_.ext E13
      have f96 := f95.keep K15 (ninS (neA (by omega)) nin0)
      have f97 := f96.keep K17 (ninS (neA (by omega)) nin0)
      have f98 := f97.ext E19
      have f99 := f98.keep K21 (ninS (neA (by omega)) nin0)
      have f100 := f99.keep K23 (ninS (neA (by omega)) nin0)
      have f101 := f100.keep K25 (ninS (neA (by omega)) nin0)
      have f102 := f101.ext E93
      refine X93.callI (y := (⟨"java/lang/String", "<init>", "([C)V"⟩ : MethodName)) (W := 1) rfl (w8 hw) (w9 hw) (w10 hw) (by decide) (X93.payM (sf := [a93]) (rmU1_1 hcx a93 a9 k9 r1 h93 X93.old Z93 (D93 (Or.inr (w31 hw)) (ty := .byte) (by decide) : Fld Z h93 a93 "java/lang/String" "coder" "B" (.int (0 : Int32))) ((D93 (Or.inr (w33 hw)) (ty := (.array .byte)) (by decide) : Fld Z h93 a93 "java/lang/String" "value" "[B" .null)) (leA (by omega)) f102 hw_ g1_0) (sfS S93 sf0) (w10 hw) (w7 hw)) rfl (sz hml rfl) (a := a93) (argsL := [(.ref a9)]) (rest := [(.ref a93)]) (lenOf pd41 rfl) rfl rfl (mroom rfl rfl) (D at_104) (by decide) (by decide) fun T103 h103 vm103 v103 X103 C103 z103 q103 => ?_
      obtain ⟨t103, kt103, rfl, K103, g103_0⟩ := q103
      have l104 := ltA g103_0.lt
      have l105 := ltA g103_0.lb
      show Gets p e below _ (T103.setTop (mkF m 107 #[vI p0, vI p1, vI p2, vI p3, vI (p3 &&& (3 : Int32)), vI r1, vI r3, vI r5, vR a7, vR a9, vR a13, vR a19, .unset, .unset, .unset, .unset, .unset, .unset, .unset, .unset] [(.ref a93)]))
      have A106 := X103.at
      refine Gets.via (fun _ k => (XS.astore A106 hx rfl (D at_107) rfl rfl (l' := #[vI p0, vI p1, vI p2, vI p3, vI (p3 &&& (3 : Int32)), vI r1, vI r3, vI r5, vR a7, vR a9, vR a13, vR a19, vR a93, .unset, .unset, .unset, .unset, .unset, .unset, .unset]) rfl (XS.goto A106 hx rfl (pc0 := 109) (pc' := 143) rfl (D at_109) (by decide) (by decide) k))) ?_
      refine Gets.via (fun _ k => (XS.aload A106 hx rfl (D at_143) rfl rfl k)) ?_
      have f107 : Any Z h103 a93 [r1] := Or.inr ⟨_, _, g103_0⟩
      refine X103.callS (W := 0) (w34 hw) (w35 hw) (w36 hw) (w37 hw) (by decide) (X103.payM (sf := []) (rmEsc hcx a93 [r1] h103 X103.old f107 (by first | exact Nat.le_of_ble_eq_true rfl | omega) hRk) sf0 (w37 hw) (w36 hw)) rfl (sz hml rfl) (argsL := [(.ref a93)]) (rest := []) (lenOf pd42 rfl) rfl rfl (mroom rfl rfl) (D at_145) (by decide) (by decide) fun T108 h108 vm108 v108 X108 C108 z108 q108 => ?_
      obtain ⟨a108, os108, rfl, K108, g108_0, rfl⟩ := q108
      have l109 := ltA g108_0.lt
      have A110 := X108.at
      refine Gets.via (fun _ k => (XS.astore A110 hx rfl (D at_148) rfl rfl (l' := #[vI p0, vI p1, vI p2, vI p3, vI (p3 &&& (3 : Int32)), vI r1, vI r3, vI r5, vR a7, vR a9, vR a13, vR a19, vR a93, vR a108, .unset, .unset, .unset, .unset, .unset, .unset]) rfl k)) ?_
      exact j150 T108 h108 vm108 a93 a108 (esc [r1]) (X108.more (by decide) (by decide)) ((((Keep.refl h25 []).ext E93).trans K103 (allS (Or.inr (leA (by omega))) all0)).trans K108 all0) g108_0 (by rw [hs] <;> rfl)
    · have hn0 : ¬ r1 < 0 ∧ ¬ (255 : Int32) < r1 := ⟨g1_0.1, fun q => hw_ (q)⟩
      refine Gets.via (fun _ k => (XS.iload A26 hx rfl (D at_73) rfl (XS.ifYes A26 hx rfl (pc0 := 75) (pc' := 92) rfl (D at_75) rfl (Jvm.Free.XT.i0_ne_t (by rw [hs]; decide)) (by decide) (by decide) k))) ?_
      refine Gets.via (fun _ k => (XS.iload A26 hx rfl (D at_92) rfl (XS.iconst A26 hx rfl (D at_94) (XS.icmpNo A26 hx rfl (D at_95) rfl (Jvm.Free.XT.ii_ne_f hs) k)))) ?_
      show Gets p e below _ (T25.setTop (mkF m 98 #[vI p0, vI p1, vI p2, vI p3, vI (p3 &&& (3 : Int32)), vI r1, vI r3, vI r5, vR a7, vR a9, vR a13, vR a19, .unset, .unset, .unset, .unset, .unset, .unset, .unset, .unset] []))
      refine X25.new (w5 hw) (w6 hw) (w7 hw) rfl (D at_98) (by decide) (by decide) fun T111 h111 a111 X111 C111 E111 g111 Z111 S111 D111 => ?_
      have z111 := E111.1
      have l111 := ltA Z111.lt
      have A112 := X111.at
      refine Gets.via (fun _ k => (XS.dup A112 hx rfl (D at_101) rfl rfl (XS.aload A112 hx rfl (D at_102) rfl rfl k))) ?_
      have f113 := V11_.ext E13
      have f114 := f113.keep K15 (ninS (neA (by omega)) nin0)
      have f115 := f114.keep K17 (ninS (neA (by omega)) nin0)
      have f116 := f115.ext E19
      have f117 := f116.keep K21 (ninS (neA (by omega)) nin0)
      have f118 := f117.keep K23 (ninS (neA (by omega)) nin0)
      have f119 := f118.keep K25 (ninS (neA (by omega)) nin0)
      have f120 := f119.ext E111
      refine X111.callI (y := (⟨"java/lang/String", "<init>", "([C)V"⟩ : MethodName)) (W := 1) rfl (w8 hw) (w9 hw) (w10 hw) (by decide) (payStr X111 hw (w6 hw) [r1] 1 (leA (by omega)) Z111 (D111 (Or.inr (w33 hw)) (ty := (.array .byte)) (by decide) : Fld Z h111 a111 "java/lang/String" "value" "[B" .null) (D111 (Or.inr (w31 hw)) (ty := .byte) (by decide) : Fld Z h111 a111 "java/lang/String" "coder" "B" (.int (0 : Int32))) f120 O2 P5 rfl rfl (by decide) (by decide) (allI hn0 allN) (by decide) (by decide) S111) rfl (sz hml rfl) (a := a111) (argsL := [(.ref a9)]) (rest := [(.ref a111)]) (lenOf pd41 rfl) rfl rfl (mroom rfl rfl) (D at_104) (by decide) (by decide) fun T121 h121 vm121 v121 X121 C121 z121 q121 => ?_
      obtain ⟨t121, kb121, rfl, K121, g121_0, g121_1, g121_2, g121_3, g121_4⟩ := q121
      have g121_5 : Str Z h121 a111 t121 kb121 [r1] := ⟨g121_0, g121_1, g121_2, g121_3, (allI hn0 allN), Nat.le_of_ble_eq_true rfl⟩
      have l122 := ltA g121_5.lt
      have l123 := ltA g121_5.lb
      have A124 := X121.at
      refine Gets.via (fun _ k => (XS.astore A124 hx rfl (D at_107) rfl rfl (l' := #[vI p0, vI p1, vI p2, vI p3, vI (p3 &&& (3 : Int32)), vI r1, vI r3, vI r5, vR a7, vR a9, vR a13, vR a19, vR a111, .unset, .unset, .unset, .unset, .unset, .unset, .unset]) rfl (XS.goto A124 hx rfl (pc0 := 109) (pc' := 143) rfl (D at_109) (by decide) (by decide) k))) ?_
      refine Gets.via (fun _ k => (XS.aload A124 hx rfl (D at_143) rfl rfl k)) ?_
      have f125 : Any Z h121 a111 [r1] := Or.inl ⟨_, _, g121_5⟩
      refine X121.callS (W := 0) (w34 hw) (w35 hw) (w36 hw) (w37 hw) (by decide) (X121.payM (sf := []) (rmEsc hcx a111 [r1] h121 X121.old f125 (by first | exact Nat.le_of_ble_eq_true rfl | omega) hRk) sf0 (w37 hw) (w36 hw)) rfl (sz hml rfl) (argsL := [(.ref a111)]) (rest := []) (lenOf pd42 rfl) rfl rfl (mroom rfl rfl) (D at_145) (by decide) (by decide) fun T126 h126 vm126 v126 X126 C126 z126 q126 => ?_
      obtain ⟨a126, os126, rfl, K126, g126_0, rfl⟩ := q126
      have l127 := ltA g126_0.lt
      show Gets p e below _ (T126.setTop (mkF m 148 #[vI p0, vI p1, vI p2, vI p3, vI (p3 &&& (3 : Int32)), vI r1, vI r3, vI r5, vR a7, vR a9, vR a13, vR a19, vR a111, .unset, .unset, .unset, .unset, .unset, .unset, .unset] [(.ref a126)]))
      have A128 := X126.at
      refine Gets.via (fun _ k => (XS.astore A128 hx rfl (D at_148) rfl rfl (l' := #[vI p0, vI p1, vI p2, vI p3, vI (p3 &&& (3 : Int32)), vI r1, vI r3, vI r5, vR a7, vR a9, vR a13, vR a19, vR a111, vR a126, .unset, .unset, .unset, .unset, .unset, .unset]) rfl k)) ?_
      exact j150 T126 h126 vm126 a111 a126 (esc [r1]) (X126.more (by decide) (by decide)) ((((Keep.refl h25 []).ext E111).trans K121 (allS (Or.inr (leA (by omega))) all0)).trans K126 all0) g126_0 (by rw [hs] <;> rfl)
  · skip
    have hRk : ∀ z_ ∈ [r1, r3], ¬ z_ < 0 ∧ ¬ (65535 : Int32) < z_ := allI g1_0 (allI g3_0 (allN))
    rcases Classical.em ((255 : Int32) < r1 ∨ (255 : Int32) < r3) with hw_ | hw_
    · skip
      refine Gets.via (fun _ k => (XS.iload A26 hx rfl (D at_73) rfl (XS.ifYes A26 hx rfl (pc0 := 75) (pc' := 92) rfl (D at_75) rfl (Jvm.Free.XT.i0_ne_t (by rw [hs]; decide)) (by decide) (by decide) k))) ?_
      refine Gets.via (fun _ k => (XS.iload A26 hx rfl (D at_92) rfl (XS.iconst A26 hx rfl (D at_94) (XS.icmpYes A26 hx rfl (pc0 := 95) (pc' := 112) rfl (D at_95) rfl (Jvm.Free.XT.ii_ne_t (by rw [hs]; decide)) (by decide) (by decide) k)))) ?_
      refine Gets.via (fun _ k => (XS.iload A26 hx rfl (D at_112) rfl (XS.iconst A26 hx rfl (D at_114) (XS.icmpNo A26 hx rfl (D at_115) rfl (Jvm.Free.XT.ii_ne_f hs) k)))) ?_
      refine X25.new (w5 hw) (w6 hw) (w7 hw) rfl (D at_118) (by decide) (by decide) fun T129 h129 a129 X129 C129 E129 g129 Z129 S129 D129 => ?_
      have z129 := E129.1
      have l129 := ltA Z129.lt
      show Gets p e below _ (T129.setTop (mkF m 121 #[vI p0, vI p1, vI p2, vI p3, vI (p3 &&& (3 : Int32)), vI r1, vI r3, vI r5, vR a7, vR a9, vR a13, vR a19, .unset, .unset, .unset, .unset, .unset, .unset, .unset, .unset] [(.ref a129)]))
      have A130 := X129.at
      refine Gets.via (fun _ k => (XS.dup A130 hx rfl (D at_121) rfl rfl (XS.aload A130 hx rfl (D at_122) rfl rfl k))) ?_
      have f131 := V17_.ext E19
      have f132 := f131.keep K21 (ninS (neA (by omega)) nin0)
      have f133 := f132.keep K23 (ninS (neA (by omega)) nin0)
      have f134 := f133.keep K25 (ninS (neA (by omega)) nin0)
      have f135 := f134.ext E129
      refine X129.callI (y := (⟨"java/lang/String", "<init>", "([C)V"⟩ : MethodName)) (W := 1) rfl (w8 hw) (w9 hw) (w10 hw) (by decide) (X129.payM (sf := [a129]) (rmU1_2 hcx a129 a13 k13 r1 r3 h129 X129.old Z129 (D129 (Or.inr (w31 hw)) (ty := .byte) (by decide) : Fld Z h129 a129 "java/lang/String" "coder" "B" (.int (0 : Int32))) ((D129 (Or.inr (w33 hw)) (ty := (.array .byte)) (by decide) : Fld Z h129 a129 "java/lang/String" "value" "[B" .null)) (leA (by omega)) f135 hw_ g1_0 g3_0) (sfS S129 sf0) (w10 hw) (w7 hw)) rfl (sz hml rfl) (a := a129) (argsL := [(.ref a13)]) (rest := [(.ref a129)]) (lenOf pd41 rfl) rfl rfl (mroom rfl rfl) (D at_124) (by decide) (by decide) fun T136 h136 vm136 v136 X136 C136 z136 q136 => ?_
      obtain ⟨t136, kt136, rfl, K136, g136_0⟩ := q136
      have l137 := ltA g136_0.lt
      have l138 := ltA g136_0.lb
      have A139 := X136.at
      refine Gets.via (fun _ k => (XS.astore A139 hx rfl (D at_127) rfl rfl (l' := #[vI p0, vI p1, vI p2, vI p3, vI (p3 &&& (3 : Int32)), vI r1, vI r3, vI r5, vR a7, vR a9, vR a13, vR a19, vR a129, .unset, .unset, .unset, .unset, .unset, .unset, .unset]) rfl (XS.goto A139 hx rfl (pc0 := 129) (pc' := 143) rfl (D at_129) (by decide) (by decide) k))) ?_
      refine Gets.via (fun _ k => (XS.aload A139 hx rfl (D at_143) rfl rfl k)) ?_
      have f140 : Any Z h136 a129 [r1, r3] := Or.inr ⟨_, _, g136_0⟩
      refine X136.callS (W := 0) (w34 hw) (w35 hw) (w36 hw) (w37 hw) (by decide) (X136.payM (sf := []) (rmEsc hcx a129 [r1, r3] h136 X136.old f140 (by first | exact Nat.le_of_ble_eq_true rfl | omega) hRk) sf0 (w37 hw) (w36 hw)) rfl (sz hml rfl) (argsL := [(.ref a129)]) (rest := []) (lenOf pd42 rfl) rfl rfl (mroom rfl rfl) (D at_145) (by decide) (by decide) fun T141 h141 vm141 v141 X141 C141 z141 q141 => ?_
      obtain ⟨a141, os141, rfl, K141, g141_0, rfl⟩ := q141
      have l142 := ltA g141_0.lt
      have A143 := X141.at
      refine Gets.via (fun _ k => (XS.astore A143 hx rfl (D at_148) rfl rfl (l' := #[vI p0, vI p1, vI p2, vI p3, vI (p3 &&& (3 : Int32)), vI r1, vI r3, vI r5, vR a7, vR a9, vR a13, vR a19, vR a129, vR a141, .unset, .unset, .unset, .unset, .unset, .unset]) rfl k)) ?_
      show Gets p e below _ (T141.setTop (mkF m 150 #[vI p0, vI p1, vI p2, vI p3, vI (p3 &&& (3 : Int32)), vI r1, vI r3, vI r5, vR a7, vR a9, vR a13, vR a19, vR a129, vR a141, .unset, .unset, .unset, .unset, .unset, .unset] []))
      exact j150 T141 h141 vm141 a129 a141 (esc [r1, r3]) (X141.more (by decide) (by decide)) ((((Keep.refl h25 []).ext E129).trans K136 (allS (Or.inr (leA (by omega))) all0)).trans K141 all0) g141_0 (by rw [hs] <;> rfl)
    · have hn0 : ¬ r1 < 0 ∧ ¬ (255 : Int32) < r1 := ⟨g1_0.1, fun q => hw_ (Or.inl q)⟩
      have hn1 : ¬ r3 < 0 ∧ ¬ (255 : Int32) < r3 := ⟨g3_0.1, fun q => hw_ (Or.inr (q))⟩
      refine Gets.via (fun _ k => (XS.iload A26 hx rfl (D at_73) rfl (XS.ifYes A26 hx rfl (pc0 := 75) (pc' := 92) rfl (D at_75) rfl (Jvm.Free.XT.i0_ne_t (by rw [hs]; decide)) (by decide) (by decide) k))) ?_
      refine Gets.via (fun _ k => (XS.iload A26 hx rfl (D at_92) rfl (XS.iconst A26 hx rfl (D at_94) (XS.icmpYes A26 hx rfl (pc0 := 95) (pc' := 112) rfl (D at_95) rfl (Jvm.Free.XT.ii_ne_t (by rw [hs]; decide)) (by decide) (by decide) k)))) ?_
      refine Gets.via (fun _ k => (XS.iload A26 hx rfl (D at_112) rfl (XS.iconst A26 hx rfl (D at_114) (XS.icmpNo A26 hx rfl (D at_115) rfl (Jvm.Free.XT.ii_ne_f hs) k)))) ?_
      refine X25.new (w5 hw) (w6 hw) (w7 hw) rfl (D at_118) (by decide) (by decide) fun T144 h144 a144 X144 C144 E144 g144 Z144 S144 D144 => ?_
      have z144 := E144.1
      have l144 := ltA Z144.lt
      have A145 := X144.at
      refine Gets.via (fun _ k => (XS.dup A145 hx rfl (D at_121) rfl rfl (XS.aload A145 hx rfl (D at_122) rfl rfl k))) ?_
      show Gets p e below _ (T144.setTop (mkF m 124 #[vI p0, vI p1, vI p2, vI p3, vI (p3 &&& (3 : Int32)), vI r1, vI r3, vI r5, vR a7, vR a9, vR a13, vR a19, .unset, .unset, .unset, .unset, .unset, .unset, .unset, .unset] [(.ref a13), (.ref a144), (.ref a144)]))
      have f146 := V17_.ext E19
      have f147 := f146.keep K21 (ninS (neA (by omega)) nin0)
      have f148 := f147.keep K23 (ninS (neA (by omega)) nin0)
      have f149 := f148.keep K25 (ninS (neA (by omega)) nin0)
      have f150 := f149.ext E144
      refine X144.callI (y := (⟨"java/lang/String", "<init>", "([C)V"⟩ : MethodName)) (W := 1) rfl (w8 hw) (w9 hw) (w10 hw) (by decide) (payStr X144 hw (w6 hw) [r1, r3] 2 (leA (by omega)) Z144 (D144 (Or.inr (w33 hw)) (ty := (.array .byte)) (by decide) : Fld Z h144 a144 "java/lang/String" "value" "[B" .null) (D144 (Or.inr (w31 hw)) (ty := .byte) (by decide) : Fld Z h144 a144 "java/lang/String" "coder" "B" (.int (0 : Int32))) f150 O2 P5 rfl rfl (by decide) (by decide) (allI hn0 (allI hn1 allN)) (by decide) (by decide) S144) rfl (sz hml rfl) (a := a144) (argsL := [(.ref a13)]) (rest := [(.ref a144)]) (lenOf pd41 rfl) rfl rfl (mroom rfl rfl) (D at_124) (by decide) (by decide) fun T151 h151 vm151 v151 X151 C151 z151 q151 => ?_
      obtain ⟨t151, kb151, rfl, K151, g151_0, g151_1, g151_2, g151_3, g151_4⟩ := q151
      have g151_5 : Str Z h151 a144 t151 kb151 [r1, r3] := ⟨g151_0, g151_1, g151_2, g151_3, (allI hn0 (allI hn1 allN)), Nat.le_of_ble_eq_true rfl⟩
      have l152 := ltA g151_5.lt
      have l153 := ltA g151_5.lb
      have A154 := X151.at
      refine Gets.via (fun _ k => (XS.astore A154 hx rfl (D at_127) rfl rfl (l' := #[vI p0, vI p1, vI p2, vI p3, vI (p3 &&& (3 : Int32)), vI r1, vI r3, vI r5, vR a7, vR a9, vR a13, vR a19, vR a144, .unset, .unset, .unset, .unset, .unset, .unset, .unset]) rfl (XS.goto A154 hx rfl (pc0 := 129) (pc' := 143) rfl (D at_129) (by decide) (by decide) k))) ?_
      refine Gets.via (fun _ k => (XS.aload A154 hx rfl (D at_143) rfl rfl k)) ?_
      have f155 : Any Z h151 a144 [r1, r3] := Or.inl ⟨_, _, g151_5⟩
      refine X151.callS (W := 0) (w34 hw) (w35 hw) (w36 hw) (w37 hw) (by decide) (X151.payM (sf := []) (rmEsc hcx a144 [r1, r3] h151 X151.old f155 (by first | exact Nat.le_of_ble_eq_true rfl | omega) hRk) sf0 (w37 hw) (w36 hw)) rfl (sz hml rfl) (argsL := [(.ref a144)]) (rest := []) (lenOf pd42 rfl) rfl rfl (mroom rfl rfl) (D at_145) (by decide) (by decide) fun T156 h156 vm156 v156 X156 C156 z156 q156 => ?_
      obtain ⟨a156, os156, rfl, K156, g156_0, rfl⟩ := q156
      have l157 := ltA g156_0.lt
      have A158 := X156.at
      refine Gets.via (fun _ k => (XS.astore A158 hx rfl (D at_148) rfl rfl (l' := #[vI p0, vI p1, vI p2, vI p3, vI (p3 &&& (3 : Int32)), vI r1, vI r3, vI r5, vR a7, vR a9, vR a13, vR a19, vR a144, vR a156, .unset, .unset, .unset, .unset, .unset, .unset]) rfl k)) ?_
      exact j150 T156 h156 vm156 a144 a156 (esc [r1, r3]) (X156.more (by decide) (by decide)) ((((Keep.refl h25 []).ext E144).trans K151 (allS (Or.inr (leA (by omega))) all0)).trans K156 all0) g156_0 (by rw [hs] <;> rfl)
  · skip
    have hRk : ∀ z_ ∈ [r1, r3, r5], ¬ z_ < 0 ∧ ¬ (65535 : Int32) < z_ := allI g1_0 (allI g3_0 (allI g5_0 (allN)))
    rcases Classical.em ((255 : Int32) < r1 ∨ (255 : Int32) < r3 ∨ (255 : Int32) < r5) with hw_ | hw_
    · skip
      refine Gets.via (fun _ k => (XS.iload A26 hx rfl (D at_73) rfl (XS.ifYes A26 hx rfl (pc0 := 75) (pc' := 92) rfl (D at_75) rfl (Jvm.Free.XT.i0_ne_t (by rw [hs]; decide)) (by decide) (by decide) k))) ?_
      show Gets p e below _ (T25.setTop (mkF m 92 #[vI p0, vI p1, vI p2, vI p3, vI (p3 &&& (3 : Int32)), vI r1, vI r3, vI r5, vR a7, vR a9, vR a13, vR a19, .unset, .unset, .unset, .unset, .unset, .unset, .unset, .unset] []))
      refine Gets.via (fun _ k => (XS.iload A26 hx rfl (D at_92) rfl (XS.iconst A26 hx rfl (D at_94) (XS.icmpYes A26 hx rfl (pc0 := 95) (pc' := 112) rfl (D at_95) rfl (Jvm.Free.XT.ii_ne_t (by rw [hs]; decide)) (by decide) (by decide) k)))) ?_
      refine Gets.via (fun _ k => (XS.iload A26 hx rfl (D at_112) rfl (XS.iconst A26 hx rfl (D at_114) (XS.icmpYes A26 hx rfl (pc0 := 115) (pc' := 132) rfl (D at_115) rfl (Jvm.Free.XT.ii_ne_t (by rw [hs]; decide)) (by decide) (by decide) k)))) ?_
      refine X25.new (w5 hw) (w6 hw) (w7 hw) rfl (D at_132) (by decide) (by decide) fun T159 h159 a159 X159 C159 E159 g159 Z159 S159 D159 => ?_
      have z159 := E159.1
      have l159 := ltA Z159.lt
      have A160 := X159.at
      refine Gets.via (fun _ k => (XS.dup A160 hx rfl (D at_135) rfl rfl (XS.aload A160 hx rfl (D at_136) rfl rfl k))) ?_
      have f161 := V25_.ext E159
      refine X159.callI (y := (⟨"java/lang/String", "<init>", "([C)V"⟩ : MethodName)) (W := 1) rfl (w8 hw) (w9 hw) (w10 hw) (by decide) (X159.payM (sf := [a159]) (rmU1_3 hcx a159 a19 k19 r1 r3 r5 h159 X159.old Z159 (D159 (Or.inr (w31 hw)) (ty := .byte) (by decide) : Fld Z h159 a159 "java/lang/String" "coder" "B" (.int (0 : Int32))) ((D159 (Or.inr (w33 hw)) (ty := (.array .byte)) (by decide) : Fld Z h159 a159 "java/lang/String" "value" "[B" .null)) (leA (by omega)) f161 hw_ g1_0 g3_0 g5_0) (sfS S159 sf0) (w10 hw) (w7 hw)) rfl (sz hml rfl) (a := a159) (argsL := [(.ref a19)]) (rest := [(.ref a159)]) (lenOf pd41 rfl) rfl rfl (mroom rfl rfl) (D at_138) (by decide) (by decide) fun T162 h162 vm162 v162 X162 C162 z162 q162 => ?_
      obtain ⟨t162, kt162, rfl, K162, g162_0⟩ := q162
      have l163 := ltA g162_0.lt
      have l164 := ltA g162_0.lb
      show Gets p e below _ (T162.setTop (mkF m 141 #[vI p0, vI p1, vI p2, vI p3, vI (p3 &&& (3 : Int32)), vI r1, vI r3, vI r5, vR a7, vR a9, vR a13, vR a19, .unset, .unset, .unset, .unset, .unset, .unset, .unset, .unset] [(.ref a159)]))
      have A165 := X162.at
      refine Gets.via (fun _ k => (XS.astore A165 hx rfl (D at_141) rfl rfl (l' := #[vI p0, vI p1, vI p2, vI p3, vI (p3 &&& (3 : Int32)), vI r1, vI r3, vI r5, vR a7, vR a9, vR a13, vR a19, vR a159, .unset, .unset, .unset, .unset, .unset, .unset, .unset]) rfl (XS.aload A165 hx rfl (D at_143) rfl rfl k))) ?_
      have f166 : Any Z h162 a159 [r1, r3, r5] := Or.inr ⟨_, _, g162_0⟩
      refine X162.callS (W := 0) (w34 hw) (w35 hw) (w36 hw) (w37 hw) (by decide) (X162.payM (sf := []) (rmEsc hcx a159 [r1, r3, r5] h162 X162.old f166 (by first | exact Nat.le_of_ble_eq_true rfl | omega) hRk) sf0 (w37 hw) (w36 hw)) rfl (sz hml rfl) (argsL := [(.ref a159)]) (rest := []) (lenOf pd42 rfl) rfl rfl (mroom rfl rfl) (D at_145) (by decide) (by decide) fun T167 h167 vm167 v167 X167 C167 z167 q167 => ?_
      obtain ⟨a167, os167, rfl, K167, g167_0, rfl⟩ := q167
      have l168 := ltA g167_0.lt
      have A169 := X167.at
      refine Gets.via (fun _ k => (XS.astore A169 hx rfl (D at_148) rfl rfl (l' := #[vI p0, vI p1, vI p2, vI p3, vI (p3 &&& (3 : Int32)), vI r1, vI r3, vI r5, vR a7, vR a9, vR a13, vR a19, vR a159, vR a167, .unset, .unset, .unset, .unset, .unset, .unset]) rfl k)) ?_
      exact j150 T167 h167 vm167 a159 a167 (esc [r1, r3, r5]) (X167.more (by decide) (by decide)) ((((Keep.refl h25 []).ext E159).trans K162 (allS (Or.inr (leA (by omega))) all0)).trans K167 all0) g167_0 (by rw [hs] <;> rfl)
    · have hn0 : ¬ r1 < 0 ∧ ¬ (255 : Int32) < r1 := ⟨g1_0.1, fun q => hw_ (Or.inl q)⟩
      have hn1 : ¬ r3 < 0 ∧ ¬ (255 : Int32) < r3 := ⟨g3_0.1, fun q => hw_ (Or.inr (Or.inl q))⟩
      have hn2 : ¬ r5 < 0 ∧ ¬ (255 : Int32) < r5 := ⟨g5_0.1, fun q => hw_ (Or.inr (Or.inr (q)))⟩
      refine Gets.via (fun _ k => (XS.iload A26 hx rfl (D at_73) rfl (XS.ifYes A26 hx rfl (pc0 := 75) (pc' := 92) rfl (D at_75) rfl (Jvm.Free.XT.i0_ne_t (by rw [hs]; decide)) (by decide) (by decide) k))) ?_
      refine Gets.via (fun _ k => (XS.iload A26 hx rfl (D at_92) rfl (XS.iconst A26 hx rfl (D at_94) (XS.icmpYes A26 hx rfl (pc0 := 95) (pc' := 112) rfl (D at_95) rfl (Jvm.Free.XT.ii_ne_t (by rw [hs]; decide)) (by decide) (by decide) k)))) ?_
      refine Gets.via (fun _ k => (XS.iload A26 hx rfl (D at_112) rfl (XS.iconst A26 hx rfl (D at_114) (XS.icmpYes A26 hx rfl (pc0 := 115) (pc' := 132) rfl (D at_115) rfl (Jvm.Free.XT.ii_ne_t (by rw [hs]; decide)) (by decide) (by decide) k)))) ?_
      show Gets p e below _ (T25.setTop (mkF m 132 #[vI p0, vI p1, vI p2, vI p3, vI (p3 &&& (3 : Int32)), vI r1, vI r3, vI r5, vR a7, vR a9, vR a13, vR a19, .unset, .unset, .unset, .unset, .unset, .unset, .unset, .unset] []))
      refine X25.new (w5 hw) (w6 hw) (w7 hw) rfl (D at_132) (by decide) (by decide) fun T170 h170 a170 X170 C170 E170 g170 Z170 S170 D170 => ?_
      have z170 := E170.1
      have l170 := ltA Z170.lt
      have A171 := X170.at
      refine Gets.via (fun _ k => (XS.dup A171 hx rfl (D at_135) rfl rfl (XS.aload A171 hx rfl (D at_136) rfl rfl k))) ?_
      have f172 := V25_.ext E170
      refine X170.callI (y := (⟨"java/lang/String", "<init>", "([C)V"⟩ : MethodName)) (W := 1) rfl (w8 hw) (w9 hw) (w10 hw) (by decide) (payStr X170 hw (w6 hw) [r1, r3, r5] 3 (leA (by omega)) Z170 (D170 (Or.inr (w33 hw)) (ty := (.array .byte)) (by decide) : Fld Z h170 a170 "java/lang/String" "value" "[B" .null) (D170 (Or.inr (w31 hw)) (ty := .byte) (by decide) : Fld Z h170 a170 "java/lang/String" "coder" "B" (.int (0 : Int32))) f172 O2 P5 rfl rfl (by decide) (by decide) (allI hn0 (allI hn1 (allI hn2 allN))) (by decide) (by decide) S170) rfl (sz hml rfl) (a := a170) (argsL := [(.ref a19)]) (rest := [(.ref a170)]) (lenOf pd41 rfl) rfl rfl (mroom rfl rfl) (D at_138) (by decide) (by decide) fun T173 h173 vm173 v173 X173 C173 z173 q173 => ?_
      obtain ⟨t173, kb173, rfl, K173, g173_0, g173_1, g173_2, g173_3, g173_4⟩ := q173
      have g173_5 : Str Z h173 a170 t173 kb173 [r1, r3, r5] := ⟨g173_0, g173_1, g173_2, g173_3, (allI hn0 (allI hn1 (allI hn2 allN))), Nat.le_of_ble_eq_true rfl⟩
      have l174 := ltA g173_5.lt
      have l175 := ltA g173_5.lb
      have A176 := X173.at
      refine Gets.via (fun _ k => (XS.astore A176 hx rfl (D at_141) rfl rfl (l' := #[vI p0, vI p1, vI p2, vI p3, vI (p3 &&& (3 : Int32)), vI r1, vI r3, vI r5, vR a7, vR a9, vR a13, vR a19, vR a170, .unset, .unset, .unset, .unset, .unset, .unset, .unset]) rfl (XS.aload A176 hx rfl (D at_143) rfl rfl k))) ?_
      have f177 : Any Z h173 a170 [r1, r3, r5] := Or.inl ⟨_, _, g173_5⟩
      refine X173.callS (W := 0) (w34 hw) (w35 hw) (w36 hw) (w37 hw) (by decide) (X173.payM (sf := []) (rmEsc hcx a170 [r1, r3, r5] h173 X173.old f177 (by first | exact Nat.le_of_ble_eq_true rfl | omega) hRk) sf0 (w37 hw) (w36 hw)) rfl (sz hml rfl) (argsL := [(.ref a170)]) (rest := []) (lenOf pd42 rfl) rfl rfl (mroom rfl rfl) (D at_145) (by decide) (by decide) fun T178 h178 vm178 v178 X178 C178 z178 q178 => ?_
      obtain ⟨a178, os178, rfl, K178, g178_0, rfl⟩ := q178
      have l179 := ltA g178_0.lt
      show Gets p e below _ (T178.setTop (mkF m 148 #[vI p0, vI p1, vI p2, vI p3, vI (p3 &&& (3 : Int32)), vI r1, vI r3, vI r5, vR a7, vR a9, vR a13, vR a19, vR a170, .unset, .unset, .unset, .unset, .unset, .unset, .unset] [(.ref a178)]))
      have A180 := X178.at
      refine Gets.via (fun _ k => (XS.astore A180 hx rfl (D at_148) rfl rfl (l' := #[vI p0, vI p1, vI p2, vI p3, vI (p3 &&& (3 : Int32)), vI r1, vI r3, vI r5, vR a7, vR a9, vR a13, vR a19, vR a170, vR a178, .unset, .unset, .unset, .unset, .unset, .unset]) rfl k)) ?_
      exact j150 T178 h178 vm178 a170 a178 (esc [r1, r3, r5]) (X178.more (by decide) (by decide)) ((((Keep.refl h25 []).ext E170).trans K173 (allS (Or.inr (leA (by omega))) all0)).trans K178 all0) g178_0 (by rw [hs] <;> rfl)
set_option maxRecDepth 65536 in
set_option maxHeartbeats 40000000 in
theorem comes_1 {Post : Tables → Env → Array Value → State → Outcome → State → Prop} (hpost : ∀ tb e args s v u, (limb_1_1.after args s (.returned v) u = true ∧ limb_1_2.after args s (.returned v) u = true ∧ True) → FramedW s (.returned v) u (Jvm.fieldLocs frame_1_writes args s ++ Jvm.arrayLocs frame_1_arrays args s ++ Jvm.staticLocs frame_1_statics s) 64 9600 → Post tb e args s (.returned v) u) :
    ArmFor flags0 classFile x code maxLocals ret World_1 tables_1 room_1 Calls_1 rest_1 Pre_1 Post := by
  intro l hfl _ _ p e ha hc hk s m args below hf hA hF happ hP
  obtain ⟨hcalls, hrest, hpre⟩ := hP
  obtain ⟨-, -, -, hnamed, -, -, -, hat⟩ := (Spec.applies_iff hf).mp happ
  obtain ⟨hg, hn⟩ := and_e (Cond.before_iff.mp (show (Jvm.Cond.and given_1 narrow_1).before args s = true from hpre))
  obtain ⟨h1, h2⟩ := and_e hg
  obtain ⟨w0, w1, w2, w3, rfl⟩ : ∃ w0 w1 w2 w3 : Value, args = #[w0, w1, w2, w3] := by
    have hs : args.size = 4 := by simpa [Cond.value, given_1] using h1
    obtain ⟨L⟩ := args
    match L, hs with
    | [w0, w1, w2, w3], _ => exact ⟨w0, w1, w2, w3, rfl⟩
  have hw := fun d (hd : d ∈ tables_1) => atoms_spec (ws := Jvm.Cond.code x code maxLocals ret :: tables_1) hat d (List.mem_cons_of_mem _ hd)
  obtain ⟨u0, r0⟩ := and_e h2
  obtain ⟨i0, e0⟩ := is_v u0
  obtain rfl : w0 = (.int i0) := Option.some.inj e0
  obtain ⟨u1, r1⟩ := and_e r0
  obtain ⟨i1, e1⟩ := is_v u1
  obtain rfl : w1 = (.int i1) := Option.some.inj e1
  obtain ⟨u2, r2⟩ := and_e r1
  obtain ⟨i2, e2⟩ := is_v u2
  obtain rfl : w2 = (.int i2) := Option.some.inj e2
  obtain ⟨i3, e3⟩ := is_v r2
  obtain rfl : w3 = (.int i3) := Option.some.inj e3
  obtain ⟨hst, hown0⟩ := atoms_of _ (rest_1_c_eq ▸ (show rest_1_c.before _ s = true from hrest))
  obtain ⟨zc, ez⟩ := is_v (Cond.before_iff.mp (hst _ (List.mem_of_getElem? (i := 1) rfl)))
  have O2 : Sta s s.heap "java/lang/String" "COMPACT_STRINGS" "Z" (.int zc) := Sta.start ez (Or.inl (hst _ (List.mem_of_getElem? (i := 0) rfl)))
  have P5 : ¬ zc = 0 := gotF (Cond.eq_ints ez (Term.int_eval (0))) (not_v (Cond.before_iff.mp (hst _ (List.mem_of_getElem? (i := 2) rfl))))
  have hEL : EW s _ consts_1 := (EW.cons (w88 hw) (by decide) (EW.cons (w241 hw) (by decide) (EW.cons (w298 hw) (by decide) (EW.cons (w218 hw) (by decide) (EW.cons (w197 hw) (by decide) (EW.cons (w240 hw) (by decide) (EW.cons (w199 hw) (by decide) (EW.cons (w198 hw) (by decide) (EW.cons (w230 hw) (by decide) EW.nil)))))))))
  have hCH : CHv s consts_1 s.vm s.heap := CHv.start hEL hcalls.1 (hst _ (List.mem_of_getElem? (i := 2) rfl)) (w23 hw) (w6 hw)
  obtain ⟨fm, v4, P6⟩ := isR_v (Cond.before_iff.mp (hst _ (List.mem_of_getElem? (i := 8) rfl)))
  have O4 : Sta s s.heap "jdk/internal/util/Preconditions" "SIOOBE_FORMATTER" "Ljava/util/function/BiFunction;" fm := Sta.start v4 (Or.inl (hst _ (List.mem_of_getElem? (i := 7) rfl)))
  have OA : Sta s s.heap "java/lang/StringUTF16" "$assertionsDisabled" "Z" (.int (1 : Int32)) := Sta.start (Cond.eq_int (hst _ (List.mem_of_getElem? (i := 12) rfl)) rfl) (Or.inl (hst _ (List.mem_of_getElem? (i := 11) rfl)))
  have OH : Sta s s.heap "java/lang/StringUTF16" "HI_BYTE_SHIFT" "I" (.int (0 : Int32)) := Sta.start (Cond.eq_int (hst _ (List.mem_of_getElem? (i := 15) rfl)) rfl) (Or.inl (hst _ (List.mem_of_getElem? (i := 14) rfl)))
  have OB : Sta s s.heap "java/lang/StringUTF16" "LO_BYTE_SHIFT" "I" (.int (8 : Int32)) := Sta.start (Cond.eq_int (hst _ (List.mem_of_getElem? (i := 18) rfl)) rfl) (Or.inl (hst _ (List.mem_of_getElem? (i := 17) rfl)))
  obtain ⟨n, o, h1, h2, h3, v, L, rfl, ⟨⟨rfl, -⟩, N, -⟩, -, hq⟩ := rmLaw ⟨hw, hEL, O2, P5, O4, P6, OA, OH, OB⟩ i0 i1 i2 i3 s.heap (Old.start s) p e ha hc hk s m _ below hf ((Spec.applies_iff_loose hf).mp happ).1 ⟨rfl, State.Warmed39.refl s, rfl, hCH, fun _ q => nomatch q⟩ trivial
  refine ⟨n, _, h1, h2, h3, hpost _ _ _ _ _ _ ⟨Cond.after_iff.mpr rfl, Cond.after_iff.mpr (eq_i res_at (Term.int_eval (1)) rfl), trivial⟩ ⟨hq.1, hq.2.1, hq.2.2.1, (hq.2.2.2.sift fun y hy => Or.inr (N y hy)).mono (by decide) (by decide)⟩⟩
theorem main_1_1 : Claimed_1_1 := comes_1 fun _ _ _ _ _ _ h hF => ⟨h.1, hF⟩
theorem main_1_2 : Claimed_1_2 := comes_1 fun _ _ _ _ _ _ h hF => ⟨h.2.1, hF⟩
end Jvm.Pilot.@@N@@
namespace Jvm.Pilot.@@N@@
open Jvm Jvm.ClassFile Sem Op Lib Jvm.Free Jvm.Stand Jvm.Pilot.@@N@@.Jvm.D
/-! MADE BY PROGRAM (witnessworld.py) out of the Statement's table words and the real class files: 26 classes; the members and pool entries that the words name. The judged class is class 1, her method 4. -/
namespace start1
open Jvm.ClassFile
def u (s : String) : CpInfo := .utf8 (stringToUtf16 s)
/-- a pool by its gaps: so many unusable entries, then the entry; so many at the end -/
def gap : Nat → List CpInfo → List CpInfo
  | 0, r => r
  | n + 1, r => .unusable :: gap n r
def poolList (es : List (Nat × CpInfo)) (last : Nat) : List CpInfo := es.foldr (fun e r => gap e.1 (e.2 :: r)) (gap last [])
def pool (es : List (Nat × CpInfo)) (last : Nat) : Array CpInfo := ⟨poolList es last⟩
def fileOf (pool : Array CpInfo) (this : Nat) (attrs : Array Attribute := #[]) (ms : Array MethodInfo := #[]) (fl : Nat := 33) (sup : Nat := 0) (ifs : Array Nat := #[]) (fds : Array FieldInfo := #[]) : ClassFile where
  minorVersion := 0
  majorVersion := 65
  constantPool := pool
  accessFlags := fl
  thisClass := this
  superClass := sup
  interfaces := ifs
  fields := fds
  methods := ms
  attributes := attrs
def plain (name : String) (sup : Option ClassId) : Class where
  name := name
  kind := .ordinary
  loader := none
  accessFlags := 33
  super := sup
  interfaces := #[]
  cf := none
  fields := #[]
  methods := #[]
  instanceTypes := #[]
  staticTypes := #[]
  resolved := #[]
  callSites := []
  init := .initialized
  statics := none
  mirror := none

def pool0 : Array CpInfo := pool [(5, u "<init>"), (0, u "()V"), (1, .class_ 10), (1, u "java/lang/Object"), (85, u "clone"), (0, u "()Ljava/lang/Object;")] 26

def k0c0 : Code := { maxStack := 0, maxLocals := 1, code := object_method_1_code, exceptionTable := #[], attributes := #[] }
def k0m0 : Method := { name := "<init>", desc := "()V", sig := { parameters := [], returnType := none }, accessFlags := 1, code := some k0c0 }
def k0m1 : Method := { name := "clone", desc := "()Ljava/lang/Object;", sig := { parameters := [], returnType := some (.object "java/lang/Object") }, accessFlags := 260, code := none }
/-- java/lang/Object -/
def k0 : Class := { plain "java/lang/Object" none with
  accessFlags := 33
  interfaces := #[]
  cf := some (fileOf pool0 8 #[] #[{ accessFlags := 1, nameIndex := 5, descriptorIndex := 6, attributes := #[] }, { accessFlags := 260, nameIndex := 96, descriptorIndex := 97, attributes := #[] }] 33 0 #[] #[])
  fields := #[]
  methods := #[k0m0, k0m1]
  instanceTypes := #[]
  staticTypes := #[]
  resolved := Array.replicate 124 none
  statics := none }

def pool1 : Array CpInfo := pool [(2, .class_ 4), (1, u "java/lang/Object"), (0, u "<init>"), (0, u "()V"), (0, .string 8), (0, u "&amp;"), (0, .string 10), (0, u "&lt;"), (0, .string 12), (0, u "&gt;"), (0, .string 14), (0, u "&quot;"), (0, .methodref 16 17), (0, .class_ 18), (0, .nameAndType 19 20), (0, u "java/lang/String"), (0, u "valueOf"), (0, u "(C)Ljava/lang/String;"), (0, .methodref 16 22), (0, .nameAndType 23 24), (0, u "length"), (0, u "()I"), (0, .methodref 16 26), (0, .nameAndType 27 28), (0, u "charAt"), (0, u "(I)C"), (0, .methodref 30 31), (0, .class_ 32), (0, .nameAndType 33 28), (0, u "com/example/carve/carve/http/HtmlEscapePinLaw"), (0, u "pick"), (0, .methodref 16 35), (0, .nameAndType 5 36), (0, u "([C)V"), (0, .methodref 38 39), (0, .class_ 40), (0, .nameAndType 41 42), (0, u "com/example/carve/carve/http/Html"), (0, u "escape"), (0, u "(Ljava/lang/String;)Ljava/lang/String;"), (0, .methodref 30 44), (0, .nameAndType 45 20), (0, u "piece"), (0, .methodref 30 47), (0, .nameAndType 48 49), (0, u "at"), (0, u "(Ljava/lang/String;ILjava/lang/String;)Z"), (3, u "law"), (0, u "(IIII)Z")] 4

def k1m0 : Method := { name := "<init>", desc := "()V", sig := { parameters := [], returnType := none }, accessFlags := 1, code := none }
def k1c1 : Code := { maxStack := 2, maxLocals := 2, code := method_2_code, exceptionTable := #[], attributes := #[] }
def k1m1 : Method := { name := "pick", desc := "(I)C", sig := { parameters := [.int], returnType := some .char }, accessFlags := 10, code := some k1c1 }
def k1c2 : Code := { maxStack := 2, maxLocals := 1, code := method_3_code, exceptionTable := #[], attributes := #[] }
def k1m2 : Method := { name := "piece", desc := "(C)Ljava/lang/String;", sig := { parameters := [.char], returnType := some (.object "java/lang/String") }, accessFlags := 10, code := some k1c2 }
def k1c3 : Code := { maxStack := 3, maxLocals := 4, code := method_4_code, exceptionTable := #[], attributes := #[] }
def k1m3 : Method := { name := "at", desc := "(Ljava/lang/String;ILjava/lang/String;)Z", sig := { parameters := [(.object "java/lang/String"), .int, (.object "java/lang/String")], returnType := some .boolean }, accessFlags := 10, code := some k1c3 }
def k1c4 : Code := { maxStack := 4, maxLocals := 20, code := code, exceptionTable := #[], attributes := #[] }
def k1m4 : Method := { name := "law", desc := "(IIII)Z", sig := { parameters := [.int, .int, .int, .int], returnType := some .boolean }, accessFlags := 9, code := some k1c4 }
/-- com/example/carve/carve/http/HtmlEscapePinLaw -/
def k1 : Class := { plain "com/example/carve/carve/http/HtmlEscapePinLaw" (some 0) with
  accessFlags := 49
  interfaces := #[]
  cf := some (fileOf pool1 30 #[] #[{ accessFlags := 1, nameIndex := 5, descriptorIndex := 6, attributes := #[] }, { accessFlags := 10, nameIndex := 33, descriptorIndex := 28, attributes := #[] }, { accessFlags := 10, nameIndex := 45, descriptorIndex := 20, attributes := #[] }, { accessFlags := 10, nameIndex := 48, descriptorIndex := 49, attributes := #[] }, { accessFlags := 9, nameIndex := 53, descriptorIndex := 54, attributes := #[] }] 49 2 #[] #[])
  fields := #[]
  methods := #[k1m0, k1m1, k1m2, k1m3, k1m4]
  instanceTypes := #[]
  staticTypes := #[]
  resolved := Array.replicate 59 none
  statics := none }

def pool2 : Array CpInfo := pool [(1, .class_ 2), (0, u "java/io/Serializable"), (0, .class_ 4), (0, u "java/lang/Object")] 2

/-- java/io/Serializable -/
def k2 : Class := { plain "java/io/Serializable" (some 0) with
  accessFlags := 1537
  interfaces := #[]
  cf := some (fileOf pool2 1 #[] #[] 1537 3 #[] #[])
  fields := #[]
  methods := #[]
  instanceTypes := #[]
  staticTypes := #[]
  resolved := Array.replicate 7 none
  statics := none }

def pool3 : Array CpInfo := pool [(1, .class_ 2), (0, u "java/lang/Comparable"), (0, .class_ 4), (0, u "java/lang/Object")] 7

/-- java/lang/Comparable -/
def k3 : Class := { plain "java/lang/Comparable" (some 0) with
  accessFlags := 1537
  interfaces := #[]
  cf := some (fileOf pool3 1 #[] #[] 1537 3 #[] #[])
  fields := #[]
  methods := #[]
  instanceTypes := #[]
  staticTypes := #[]
  resolved := Array.replicate 12 none
  statics := none }

def pool4 : Array CpInfo := pool [(2, .class_ 4), (1, u "java/lang/CharSequence"), (42, .class_ 48), (0, u "java/lang/CharSequence$1CodePointIterator"), (10, .class_ 60), (0, u "java/lang/CharSequence$1CharIterator"), (5, .class_ 67), (0, u "java/lang/Object")] 63

/-- java/lang/CharSequence -/
def k4 : Class := { plain "java/lang/CharSequence" (some 0) with
  accessFlags := 1537
  interfaces := #[]
  cf := some (fileOf pool4 2 #[.nestMembers #[47, 59]] #[] 1537 66 #[] #[])
  fields := #[]
  methods := #[]
  instanceTypes := #[]
  staticTypes := #[]
  resolved := Array.replicate 131 none
  statics := none }

def pool5 : Array CpInfo := pool [(1, .class_ 2), (0, u "java/lang/constant/Constable"), (0, .class_ 4), (0, u "java/lang/Object")] 6

/-- java/lang/constant/Constable -/
def k5 : Class := { plain "java/lang/constant/Constable" (some 0) with
  accessFlags := 1537
  interfaces := #[]
  cf := some (fileOf pool5 1 #[] #[] 1537 3 #[] #[])
  fields := #[]
  methods := #[]
  instanceTypes := #[]
  staticTypes := #[]
  resolved := Array.replicate 11 none
  statics := none }

def pool6 : Array CpInfo := pool [(1, .class_ 2), (0, u "java/lang/constant/ConstantDesc"), (0, .class_ 4), (0, u "java/lang/Object")] 32

/-- java/lang/constant/ConstantDesc -/
def k6 : Class := { plain "java/lang/constant/ConstantDesc" (some 0) with
  accessFlags := 1537
  interfaces := #[]
  cf := some (fileOf pool6 1 #[] #[] 1537 3 #[] #[])
  fields := #[]
  methods := #[]
  instanceTypes := #[]
  staticTypes := #[]
  resolved := Array.replicate 37 none
  statics := none }

def pool7 : Array CpInfo := pool [(1, .methodref 2 3), (0, .class_ 4), (0, .nameAndType 5 6), (0, u "java/lang/Object"), (0, u "<init>"), (0, u "()V"), (0, .string 8), (0, u ""), (0, .fieldref 10 11), (0, .class_ 12), (0, .nameAndType 13 14), (0, u "java/lang/String"), (0, u "value"), (0, u "[B"), (0, .fieldref 10 16), (0, .nameAndType 17 18), (0, u "coder"), (0, u "B"), (2, u "hash"), (0, u "I"), (2, u "hashIsZero"), (0, u "Z"), (0, .methodref 10 28), (0, .nameAndType 5 29), (0, u "([CIILjava/lang/Void;)V"), (6, u "checkBoundsOffCount"), (0, u "(III)I"), (0, .fieldref 10 39), (0, .nameAndType 40 26), (0, u "COMPACT_STRINGS"), (1, .class_ 44), (1, u "java/lang/StringUTF16"), (0, u "compress"), (1, .methodref 42 48), (0, .nameAndType 49 50), (0, u "coderFromArrayLen"), (0, u "([BI)B"), (2, u "toBytes"), (0, .methodref 55 56), (0, .class_ 57), (0, .nameAndType 58 59), (0, u "java/util/Arrays"), (0, u "copyOfRange"), (0, u "([BII)[B"), (46, .methodref 107 108), (0, .class_ 109), (0, .nameAndType 110 111), (0, u "java/lang/StringLatin1"), (0, u "inflate"), (0, u "([BI[BII)V"), (30, u "()Z"), (34, .methodref 42 178), (0, .nameAndType 45 179), (0, u "([CII)[B"), (13, .class_ 195), (1, u "java/lang/System"), (13, .methodref 10 210), (0, .nameAndType 5 211), (0, u "([BB)V"), (0, .methodref 193 213), (0, .nameAndType 214 215), (0, u "arraycopy"), (0, u "(Ljava/lang/Object;ILjava/lang/Object;II)V"), (118, u "()I"), (0, .methodref 10 336), (0, .nameAndType 17 337), (0, u "()B"), (2, u "()[B"), (22, u "([BI)C"), (5, u "(C)Z"), (21, u "(II)V"), (35, u "(I)C"), (61, .methodref 10 490), (0, .nameAndType 5 491), (0, u "(Ljava/lang/AbstractStringBuilder;Ljava/lang/Void;)V"), (0, .methodref 10 493), (0, .nameAndType 494 142), (0, u "isLatin1"), (0, .methodref 107 496), (0, .nameAndType 497 363), (0, u "charAt"), (0, .methodref 42 496), (2, u "checkIndex"), (4, .nameAndType 507 334), (0, u "length"), (24, u "getBytes"), (16, .methodref 550 506), (0, .class_ 551), (0, u "java/lang/AbstractStringBuilder"), (0, .methodref 550 553), (0, .nameAndType 554 340), (0, u "getValue"), (20, .class_ 576), (0, u "java/lang/CharSequence"), (22, u "CASE_INSENSITIVE_ORDER"), (0, u "Ljava/util/Comparator;"), (181, u "valueOf"), (0, u "(C)Ljava/lang/String;"), (37, u "([BIB)V"), (188, u "([C)V"), (4, .methodref 107 1016), (0, .nameAndType 1017 369), (0, u "canEncode"), (0, .methodref 107 1019), (0, .nameAndType 53 1020), (0, u "(C)[B"), (0, .methodref 42 1019), (25, .methodref 550 493), (0, .fieldref 550 1049), (0, .nameAndType 1050 26), (0, u "maybeLatin1"), (2, .fieldref 1054 1055), (0, .class_ 1056), (0, .nameAndType 1057 1058), (0, u "jdk/internal/util/Preconditions"), (0, u "SIOOBE_FORMATTER"), (0, u "Ljava/util/function/BiFunction;"), (0, .methodref 1054 1060), (0, .nameAndType 501 1061), (0, u "(IILjava/util/function/BiFunction;)I"), (2, u "(IIILjava/util/function/BiFunction;)I"), (0, .methodref 1054 1066), (0, .nameAndType 1067 1064), (0, u "checkFromIndexSize"), (33, u "serialPersistentFields"), (0, u "[Ljava/io/ObjectStreamField;"), (0, .class_ 1104), (0, u "java/lang/String$CaseInsensitiveComparator"), (1, .class_ 1107), (0, u "java/io/Serializable"), (0, .class_ 1109), (0, u "java/lang/Comparable"), (0, .class_ 1111), (0, u "java/lang/constant/Constable"), (0, .class_ 1113), (0, u "java/lang/constant/ConstantDesc"), (2, u "serialVersionUID"), (0, u "J"), (3, u "REPL"), (0, u "C"), (2, u "LATIN1"), (1, u "UTF16"), (105, u "(Ljava/lang/StringBuilder;)V")] 217

def k7m0 : Method := { name := "<init>", desc := "()V", sig := { parameters := [], returnType := none }, accessFlags := 1, code := none }
def k7c1 : Code := { maxStack := 5, maxLocals := 2, code := jdk_42_method_3_code, exceptionTable := #[], attributes := #[] }
def k7m1 : Method := { name := "<init>", desc := "([C)V", sig := { parameters := [(.array .char)], returnType := none }, accessFlags := 1, code := some k7c1 }
def k7c2 : Code := { maxStack := 3, maxLocals := 2, code := jdk_42_method_53_code, exceptionTable := #[], attributes := #[] }
def k7m2 : Method := { name := "<init>", desc := "(Ljava/lang/StringBuilder;)V", sig := { parameters := [(.object "java/lang/StringBuilder")], returnType := none }, accessFlags := 1, code := some k7c2 }
def k7c3 : Code := { maxStack := 2, maxLocals := 1, code := jdk_42_method_54_code, exceptionTable := #[], attributes := #[] }
def k7m3 : Method := { name := "length", desc := "()I", sig := { parameters := [], returnType := some .int }, accessFlags := 1, code := some k7c3 }
def k7c4 : Code := { maxStack := 2, maxLocals := 2, code := jdk_42_method_56_code, exceptionTable := #[], attributes := #[] }
def k7m4 : Method := { name := "charAt", desc := "(I)C", sig := { parameters := [.int], returnType := some .char }, accessFlags := 1, code := some k7c4 }
def k7c5 : Code := { maxStack := 4, maxLocals := 1, code := jdk_42_method_139_code, exceptionTable := #[], attributes := #[] }
def k7m5 : Method := { name := "valueOf", desc := "(C)Ljava/lang/String;", sig := { parameters := [.char], returnType := some (.object "java/lang/String") }, accessFlags := 9, code := some k7c5 }
def k7c6 : Code := { maxStack := 5, maxLocals := 4, code := jdk_42_method_147_code, exceptionTable := #[], attributes := #[] }
def k7m6 : Method := { name := "getBytes", desc := "([BIB)V", sig := { parameters := [(.array .byte), .int, .byte], returnType := none }, accessFlags := 0, code := some k7c6 }
def k7c7 : Code := { maxStack := 4, maxLocals := 6, code := jdk_42_method_149_code, exceptionTable := #[], attributes := #[] }
def k7m7 : Method := { name := "<init>", desc := "([CIILjava/lang/Void;)V", sig := { parameters := [(.array .char), .int, .int, (.object "java/lang/Void")], returnType := none }, accessFlags := 2, code := some k7c7 }
def k7c8 : Code := { maxStack := 5, maxLocals := 5, code := jdk_42_method_150_code, exceptionTable := #[], attributes := #[] }
def k7m8 : Method := { name := "<init>", desc := "(Ljava/lang/AbstractStringBuilder;Ljava/lang/Void;)V", sig := { parameters := [(.object "java/lang/AbstractStringBuilder"), (.object "java/lang/Void")], returnType := none }, accessFlags := 0, code := some k7c8 }
def k7c9 : Code := { maxStack := 2, maxLocals := 3, code := jdk_42_method_151_code, exceptionTable := #[], attributes := #[] }
def k7m9 : Method := { name := "<init>", desc := "([BB)V", sig := { parameters := [(.array .byte), .byte], returnType := none }, accessFlags := 0, code := some k7c9 }
def k7c10 : Code := { maxStack := 1, maxLocals := 1, code := jdk_42_method_152_code, exceptionTable := #[], attributes := #[] }
def k7m10 : Method := { name := "coder", desc := "()B", sig := { parameters := [], returnType := some .byte }, accessFlags := 0, code := some k7c10 }
def k7c11 : Code := { maxStack := 1, maxLocals := 1, code := jdk_42_method_154_code, exceptionTable := #[], attributes := #[] }
def k7m11 : Method := { name := "isLatin1", desc := "()Z", sig := { parameters := [], returnType := some .boolean }, accessFlags := 0, code := some k7c11 }
def k7c12 : Code := { maxStack := 3, maxLocals := 2, code := jdk_42_method_155_code, exceptionTable := #[], attributes := #[] }
def k7m12 : Method := { name := "checkIndex", desc := "(II)V", sig := { parameters := [.int, .int], returnType := none }, accessFlags := 8, code := some k7c12 }
def k7c13 : Code := { maxStack := 4, maxLocals := 3, code := jdk_42_method_157_code, exceptionTable := #[], attributes := #[] }
def k7m13 : Method := { name := "checkBoundsOffCount", desc := "(III)I", sig := { parameters := [.int, .int, .int], returnType := some .int }, accessFlags := 8, code := some k7c13 }
/-- java/lang/String -/
def k7 : Class := { plain "java/lang/String" (some 0) with
  accessFlags := 49
  interfaces := #[2, 3, 4, 5, 6]
  cf := some (fileOf pool7 10 #[.nestMembers #[1103]] #[{ accessFlags := 1, nameIndex := 5, descriptorIndex := 6, attributes := #[] }, { accessFlags := 1, nameIndex := 5, descriptorIndex := 1010, attributes := #[] }, { accessFlags := 1, nameIndex := 5, descriptorIndex := 1233, attributes := #[] }, { accessFlags := 1, nameIndex := 507, descriptorIndex := 334, attributes := #[] }, { accessFlags := 1, nameIndex := 497, descriptorIndex := 427, attributes := #[] }, { accessFlags := 9, nameIndex := 782, descriptorIndex := 783, attributes := #[] }, { accessFlags := 0, nameIndex := 532, descriptorIndex := 821, attributes := #[] }, { accessFlags := 2, nameIndex := 5, descriptorIndex := 29, attributes := #[] }, { accessFlags := 0, nameIndex := 5, descriptorIndex := 491, attributes := #[] }, { accessFlags := 0, nameIndex := 5, descriptorIndex := 211, attributes := #[] }, { accessFlags := 0, nameIndex := 17, descriptorIndex := 337, attributes := #[] }, { accessFlags := 0, nameIndex := 494, descriptorIndex := 142, attributes := #[] }, { accessFlags := 8, nameIndex := 501, descriptorIndex := 391, attributes := #[] }, { accessFlags := 8, nameIndex := 36, descriptorIndex := 37, attributes := #[] }] 49 2 #[1106, 1108, 575, 1110, 1112] #[{ accessFlags := 18, nameIndex := 13, descriptorIndex := 14, attributes := #[] }, { accessFlags := 18, nameIndex := 17, descriptorIndex := 18, attributes := #[] }, { accessFlags := 2, nameIndex := 21, descriptorIndex := 22, attributes := #[] }, { accessFlags := 2, nameIndex := 25, descriptorIndex := 26, attributes := #[] }, { accessFlags := 26, nameIndex := 1116, descriptorIndex := 1117, attributes := #[] }, { accessFlags := 24, nameIndex := 40, descriptorIndex := 26, attributes := #[] }, { accessFlags := 26, nameIndex := 1101, descriptorIndex := 1102, attributes := #[] }, { accessFlags := 26, nameIndex := 1121, descriptorIndex := 1122, attributes := #[] }, { accessFlags := 25, nameIndex := 599, descriptorIndex := 600, attributes := #[] }, { accessFlags := 24, nameIndex := 1125, descriptorIndex := 18, attributes := #[] }, { accessFlags := 24, nameIndex := 1127, descriptorIndex := 18, attributes := #[] }])
  fields := #[{ name := "value", type := (.array .byte), accessFlags := 18, slot := 0, constantValue := 0 }, { name := "coder", type := .byte, accessFlags := 18, slot := 1, constantValue := 0 }, { name := "hash", type := .int, accessFlags := 2, slot := 2, constantValue := 0 }, { name := "hashIsZero", type := .boolean, accessFlags := 2, slot := 3, constantValue := 0 }, { name := "serialVersionUID", type := .long, accessFlags := 26, slot := 0, constantValue := 0 }, { name := "COMPACT_STRINGS", type := .boolean, accessFlags := 24, slot := 1, constantValue := 0 }, { name := "serialPersistentFields", type := (.array (.object "java/io/ObjectStreamField")), accessFlags := 26, slot := 2, constantValue := 0 }, { name := "REPL", type := .char, accessFlags := 26, slot := 3, constantValue := 0 }, { name := "CASE_INSENSITIVE_ORDER", type := (.object "java/util/Comparator"), accessFlags := 25, slot := 4, constantValue := 0 }, { name := "LATIN1", type := .byte, accessFlags := 24, slot := 5, constantValue := 0 }, { name := "UTF16", type := .byte, accessFlags := 24, slot := 6, constantValue := 0 }]
  methods := #[k7m0, k7m1, k7m2, k7m3, k7m4, k7m5, k7m6, k7m7, k7m8, k7m9, k7m10, k7m11, k7m12, k7m13]
  instanceTypes := #[(.array .byte), .byte, .int, .boolean]
  staticTypes := #[.long, .boolean, (.array (.object "java/io/ObjectStreamField")), .char, (.object "java/util/Comparator"), .byte, .byte]
  resolved := Array.replicate 1451 none
  statics := some 0 }

def pool8 : Array CpInfo := pool [(3, .class_ 4), (0, u "java/lang/String"), (1, .class_ 8), (1, u "java/lang/Object"), (0, u "<init>"), (0, u "()V"), (0, .methodref 12 13), (0, .class_ 14), (0, .nameAndType 15 16), (0, u "java/lang/StringUTF16"), (0, u "newBytesLength"), (0, u "(I)I"), (3, .integer 1073741823), (23, .fieldref 12 45), (0, .nameAndType 46 47), (0, u "$assertionsDisabled"), (0, u "Z"), (0, .methodref 12 49), (0, .nameAndType 50 51), (0, u "length"), (0, u "([B)I"), (7, .fieldref 12 60), (0, .nameAndType 61 62), (0, u "HI_BYTE_SHIFT"), (0, u "I"), (0, .fieldref 12 64), (0, .nameAndType 65 62), (0, u "LO_BYTE_SHIFT"), (1, .methodref 12 68), (0, .nameAndType 69 70), (0, u "checkIndex"), (0, u "(I[B)V"), (0, .methodref 12 72), (0, .nameAndType 73 74), (0, u "getChar"), (0, u "([BI)C"), (24, u "(II[B)V"), (7, .methodref 12 108), (0, .nameAndType 109 110), (0, u "newBytesFor"), (0, u "(I)[B"), (0, .methodref 12 112), (0, .nameAndType 113 114), (0, u "putChar"), (0, u "([BII)V"), (0, .methodref 12 116), (0, .nameAndType 117 118), (0, u "compress"), (0, u "([CI[BII)I"), (0, .methodref 12 120), (0, .nameAndType 121 122), (0, u "toBytes"), (0, u "([CII)[B"), (17, u "inflate"), (0, u "([BI[BII)V"), (31, .methodref 12 174), (0, .nameAndType 175 99), (0, u "checkBoundsOffCount"), (85, u "coderFromArrayLen"), (0, u "([BI)B"), (18, u "(III)I"), (87, .class_ 371), (1, u "java/lang/StringUTF16$LinesSpliterator"), (20, u "charAt"), (21, .methodref 3 415), (0, .nameAndType 69 416), (0, u "(II)V"), (2, .methodref 3 420), (0, .nameAndType 175 281), (9, u "MAX_LENGTH"), (44, u "(C)[B"), (110, u "putCharSB"), (40, .class_ 628), (0, u "java/lang/StringUTF16$CodePointsSpliterator"), (0, .class_ 630), (0, u "java/lang/StringUTF16$CharsSpliterator")] 4

def k8m0 : Method := { name := "<init>", desc := "()V", sig := { parameters := [], returnType := none }, accessFlags := 0, code := none }
def k8c1 : Code := { maxStack := 1, maxLocals := 1, code := jdk_52_method_2_code, exceptionTable := #[], attributes := #[] }
def k8m1 : Method := { name := "newBytesFor", desc := "(I)[B", sig := { parameters := [.int], returnType := some (.array .byte) }, accessFlags := 9, code := some k8c1 }
def k8c2 : Code := { maxStack := 4, maxLocals := 1, code := jdk_52_method_3_code, exceptionTable := #[], attributes := #[] }
def k8m2 : Method := { name := "newBytesLength", desc := "(I)I", sig := { parameters := [.int], returnType := some .int }, accessFlags := 9, code := some k8c2 }
def k8c3 : Code := { maxStack := 4, maxLocals := 3, code := jdk_52_method_4_code, exceptionTable := #[], attributes := #[] }
def k8m3 : Method := { name := "putChar", desc := "([BII)V", sig := { parameters := [(.array .byte), .int, .int], returnType := none }, accessFlags := 8, code := some k8c3 }
def k8c4 : Code := { maxStack := 3, maxLocals := 2, code := jdk_52_method_5_code, exceptionTable := #[], attributes := #[] }
def k8m4 : Method := { name := "getChar", desc := "([BI)C", sig := { parameters := [(.array .byte), .int], returnType := some .char }, accessFlags := 8, code := some k8c4 }
def k8c5 : Code := { maxStack := 2, maxLocals := 1, code := jdk_52_method_6_code, exceptionTable := #[], attributes := #[] }
def k8m5 : Method := { name := "length", desc := "([B)I", sig := { parameters := [(.array .byte)], returnType := some .int }, accessFlags := 9, code := some k8c5 }
def k8c6 : Code := { maxStack := 4, maxLocals := 5, code := jdk_52_method_14_code, exceptionTable := #[], attributes := #[] }
def k8m6 : Method := { name := "toBytes", desc := "([CII)[B", sig := { parameters := [(.array .char), .int, .int], returnType := some (.array .byte) }, accessFlags := 9, code := some k8c6 }
def k8c7 : Code := { maxStack := 2, maxLocals := 2, code := jdk_52_method_15_code, exceptionTable := #[], attributes := #[] }
def k8m7 : Method := { name := "coderFromArrayLen", desc := "([BI)B", sig := { parameters := [(.array .byte), .int], returnType := some .byte }, accessFlags := 8, code := some k8c7 }
def k8c8 : Code := { maxStack := 5, maxLocals := 6, code := jdk_52_method_16_code, exceptionTable := #[], attributes := #[] }
def k8m8 : Method := { name := "compress", desc := "([CII)[B", sig := { parameters := [(.array .char), .int, .int], returnType := some (.array .byte) }, accessFlags := 9, code := some k8c8 }
def k8c9 : Code := { maxStack := 3, maxLocals := 7, code := jdk_52_method_21_code, exceptionTable := #[], attributes := #[] }
def k8m9 : Method := { name := "compress", desc := "([CI[BII)I", sig := { parameters := [(.array .char), .int, (.array .byte), .int, .int], returnType := some .int }, accessFlags := 9, code := some k8c9 }
def k8c10 : Code := { maxStack := 3, maxLocals := 2, code := jdk_52_method_24_code, exceptionTable := #[], attributes := #[] }
def k8m10 : Method := { name := "toBytes", desc := "(C)[B", sig := { parameters := [.char], returnType := some (.array .byte) }, accessFlags := 9, code := some k8c10 }
def k8c11 : Code := { maxStack := 3, maxLocals := 3, code := jdk_52_method_71_code, exceptionTable := #[], attributes := #[] }
def k8m11 : Method := { name := "putCharSB", desc := "([BII)V", sig := { parameters := [(.array .byte), .int, .int], returnType := none }, accessFlags := 9, code := some k8c11 }
def k8c12 : Code := { maxStack := 2, maxLocals := 2, code := jdk_52_method_83_code, exceptionTable := #[], attributes := #[] }
def k8m12 : Method := { name := "charAt", desc := "([BI)C", sig := { parameters := [(.array .byte), .int], returnType := some .char }, accessFlags := 9, code := some k8c12 }
def k8c13 : Code := { maxStack := 4, maxLocals := 6, code := jdk_52_method_86_code, exceptionTable := #[], attributes := #[] }
def k8m13 : Method := { name := "inflate", desc := "([BI[BII)V", sig := { parameters := [(.array .byte), .int, (.array .byte), .int, .int], returnType := none }, accessFlags := 9, code := some k8c13 }
def k8c14 : Code := { maxStack := 2, maxLocals := 2, code := jdk_52_method_91_code, exceptionTable := #[], attributes := #[] }
def k8m14 : Method := { name := "checkIndex", desc := "(I[B)V", sig := { parameters := [.int, (.array .byte)], returnType := none }, accessFlags := 9, code := some k8c14 }
def k8c15 : Code := { maxStack := 3, maxLocals := 3, code := jdk_52_method_94_code, exceptionTable := #[], attributes := #[] }
def k8m15 : Method := { name := "checkBoundsOffCount", desc := "(II[B)V", sig := { parameters := [.int, .int, (.array .byte)], returnType := none }, accessFlags := 9, code := some k8c15 }
/-- java/lang/StringUTF16 -/
def k8 : Class := { plain "java/lang/StringUTF16" (some 0) with
  accessFlags := 48
  interfaces := #[]
  cf := some (fileOf pool8 12 #[.nestMembers #[627, 629, 369]] #[{ accessFlags := 0, nameIndex := 9, descriptorIndex := 10, attributes := #[] }, { accessFlags := 9, nameIndex := 109, descriptorIndex := 110, attributes := #[] }, { accessFlags := 9, nameIndex := 15, descriptorIndex := 16, attributes := #[] }, { accessFlags := 8, nameIndex := 113, descriptorIndex := 114, attributes := #[] }, { accessFlags := 8, nameIndex := 73, descriptorIndex := 74, attributes := #[] }, { accessFlags := 9, nameIndex := 50, descriptorIndex := 51, attributes := #[] }, { accessFlags := 9, nameIndex := 121, descriptorIndex := 122, attributes := #[] }, { accessFlags := 8, nameIndex := 261, descriptorIndex := 262, attributes := #[] }, { accessFlags := 9, nameIndex := 117, descriptorIndex := 122, attributes := #[] }, { accessFlags := 9, nameIndex := 117, descriptorIndex := 118, attributes := #[] }, { accessFlags := 9, nameIndex := 121, descriptorIndex := 475, attributes := #[] }, { accessFlags := 9, nameIndex := 586, descriptorIndex := 114, attributes := #[] }, { accessFlags := 9, nameIndex := 392, descriptorIndex := 74, attributes := #[] }, { accessFlags := 9, nameIndex := 140, descriptorIndex := 141, attributes := #[] }, { accessFlags := 9, nameIndex := 69, descriptorIndex := 70, attributes := #[] }, { accessFlags := 9, nameIndex := 175, descriptorIndex := 99, attributes := #[] }] 48 6 #[] #[{ accessFlags := 26, nameIndex := 61, descriptorIndex := 62, attributes := #[] }, { accessFlags := 26, nameIndex := 65, descriptorIndex := 62, attributes := #[] }, { accessFlags := 24, nameIndex := 430, descriptorIndex := 62, attributes := #[] }, { accessFlags := 4120, nameIndex := 46, descriptorIndex := 47, attributes := #[] }])
  fields := #[{ name := "HI_BYTE_SHIFT", type := .int, accessFlags := 26, slot := 0, constantValue := 0 }, { name := "LO_BYTE_SHIFT", type := .int, accessFlags := 26, slot := 1, constantValue := 0 }, { name := "MAX_LENGTH", type := .int, accessFlags := 24, slot := 2, constantValue := 0 }, { name := "$assertionsDisabled", type := .boolean, accessFlags := 4120, slot := 3, constantValue := 0 }]
  methods := #[k8m0, k8m1, k8m2, k8m3, k8m4, k8m5, k8m6, k8m7, k8m8, k8m9, k8m10, k8m11, k8m12, k8m13, k8m14, k8m15]
  instanceTypes := #[]
  staticTypes := #[.int, .int, .int, .boolean]
  resolved := Array.replicate 635 none
  statics := some 1 }

def pool9 : Array CpInfo := pool [(2, .class_ 4), (1, u "java/lang/Object"), (0, u "<init>"), (0, u "()V"), (0, .class_ 8), (0, u "java/lang/StringBuilder"), (2, .class_ 13), (1, u "com/example/carve/carve/http/Html"), (0, u "out"), (0, u "Ljava/lang/StringBuilder;"), (0, .methodref 7 17), (0, .nameAndType 18 19), (0, u "append"), (0, u "(C)Ljava/lang/StringBuilder;"), (0, .methodref 7 21), (0, .nameAndType 18 22), (0, u "(Ljava/lang/String;)Ljava/lang/StringBuilder;"), (4, u "escape"), (0, u "(Ljava/lang/String;)Ljava/lang/String;"), (15, .methodref 45 46), (0, .class_ 47), (0, .nameAndType 48 49), (0, u "java/lang/String"), (0, u "length"), (0, u "()I"), (0, .methodref 7 51), (0, .nameAndType 5 52), (0, u "(I)V"), (0, .methodref 45 54), (0, .nameAndType 55 56), (0, u "charAt"), (0, u "(I)C"), (0, .string 58), (0, u "&amp;"), (0, .string 60), (0, u "&lt;"), (0, .string 62), (0, u "&gt;"), (0, .string 64), (0, u "&quot;"), (0, .methodref 7 66), (0, .nameAndType 67 68), (0, u "toString"), (0, u "()Ljava/lang/String;")] 10

def k9m0 : Method := { name := "<init>", desc := "()V", sig := { parameters := [], returnType := none }, accessFlags := 0, code := none }
def k9c1 : Code := { maxStack := 3, maxLocals := 4, code := prog_24_method_8_code, exceptionTable := #[], attributes := #[] }
def k9m1 : Method := { name := "escape", desc := "(Ljava/lang/String;)Ljava/lang/String;", sig := { parameters := [(.object "java/lang/String")], returnType := some (.object "java/lang/String") }, accessFlags := 8, code := some k9c1 }
/-- com/example/carve/carve/http/Html -/
def k9 : Class := { plain "com/example/carve/carve/http/Html" (some 0) with
  accessFlags := 32
  interfaces := #[]
  cf := some (fileOf pool9 11 #[] #[{ accessFlags := 0, nameIndex := 5, descriptorIndex := 6, attributes := #[] }, { accessFlags := 8, nameIndex := 27, descriptorIndex := 28, attributes := #[] }] 32 2 #[] #[{ accessFlags := 18, nameIndex := 14, descriptorIndex := 15, attributes := #[] }])
  fields := #[{ name := "out", type := (.object "java/lang/StringBuilder"), accessFlags := 18, slot := 0, constantValue := 0 }]
  methods := #[k9m0, k9m1]
  instanceTypes := #[(.object "java/lang/StringBuilder")]
  staticTypes := #[]
  resolved := Array.replicate 79 none
  statics := none }

def pool10 : Array CpInfo := pool [(1, .class_ 2), (0, u "java/lang/Appendable"), (0, .class_ 4), (0, u "java/lang/Object")] 9

/-- java/lang/Appendable -/
def k10 : Class := { plain "java/lang/Appendable" (some 0) with
  accessFlags := 1537
  interfaces := #[]
  cf := some (fileOf pool10 1 #[] #[] 1537 3 #[] #[])
  fields := #[]
  methods := #[]
  instanceTypes := #[]
  staticTypes := #[]
  resolved := Array.replicate 14 none
  statics := none }

def pool11 : Array CpInfo := pool [(1, .class_ 2), (0, u "java/lang/String"), (0, .methodref 4 5), (0, .class_ 6), (0, .nameAndType 7 8), (0, u "java/lang/Object"), (0, u "<init>"), (0, u "()V"), (1, .class_ 12), (1, u "java/lang/AbstractStringBuilder"), (0, u "EMPTYVALUE"), (0, u "[B"), (0, .fieldref 10 16), (0, .nameAndType 17 14), (0, u "value"), (0, .fieldref 1 19), (0, .nameAndType 20 21), (0, u "COMPACT_STRINGS"), (0, u "Z"), (0, .fieldref 10 23), (0, .nameAndType 24 25), (0, u "coder"), (0, u "B"), (0, .methodref 27 28), (0, .class_ 29), (0, .nameAndType 30 31), (0, u "java/lang/StringUTF16"), (0, u "newBytesFor"), (0, u "(I)[B"), (0, .methodref 1 33), (0, .nameAndType 34 35), (0, u "length"), (0, u "()I"), (3, .integer 2147483647), (0, .methodref 1 41), (0, .nameAndType 24 42), (0, u "()B"), (2, u "append"), (0, u "(Ljava/lang/String;)Ljava/lang/AbstractStringBuilder;"), (1, .class_ 49), (0, u "java/lang/CharSequence"), (19, u "(Ljava/lang/String;)V"), (5, u "maybeLatin1"), (3, .fieldref 10 80), (0, .nameAndType 81 82), (0, u "count"), (0, u "I"), (0, .methodref 10 84), (0, .nameAndType 85 86), (0, u "isLatin1"), (0, u "()Z"), (1, .class_ 90), (1, u "java/lang/StringLatin1"), (9, .methodref 10 101), (0, .nameAndType 102 103), (0, u "ensureCapacityInternal"), (0, u "(I)V"), (0, .methodref 10 105), (0, .nameAndType 106 107), (0, u "newCapacity"), (0, u "(I)I"), (0, .methodref 109 110), (0, .class_ 111), (0, .nameAndType 112 113), (0, u "java/util/Arrays"), (0, u "copyOf"), (0, u "([BI)[B"), (0, .methodref 115 116), (0, .class_ 117), (0, .nameAndType 118 119), (0, u "jdk/internal/util/ArraysSupport"), (0, u "newLength"), (0, u "(III)I"), (5, .methodref 88 126), (0, .nameAndType 127 128), (0, u "inflate"), (0, u "([BI[BII)V"), (7, u "([BII)V"), (54, .methodref 88 192), (0, .nameAndType 193 194), (0, u "canEncode"), (0, u "(C)Z"), (0, .methodref 10 196), (0, .nameAndType 127 8), (0, .methodref 27 198), (0, .nameAndType 199 136), (0, u "putCharSB"), (8, .methodref 10 209), (0, .nameAndType 210 211), (0, u "putStringAt"), (0, u "(ILjava/lang/String;)V"), (5, u "inflateIfNeededFor"), (2, .nameAndType 221 222), (0, u "getBytes"), (0, u "([BIB)V"), (69, u "(C)Ljava/lang/AbstractStringBuilder;"), (104, .methodref 10 398), (0, .nameAndType 217 69), (0, .methodref 1 220), (3, u "()[B"), (40, .class_ 445), (0, u "java/lang/Appendable"), (106, u "getValue")] 56

def k11m0 : Method := { name := "<init>", desc := "()V", sig := { parameters := [], returnType := none }, accessFlags := 0, code := none }
def k11c1 : Code := { maxStack := 2, maxLocals := 2, code := jdk_68_method_2_code, exceptionTable := #[], attributes := #[] }
def k11m1 : Method := { name := "<init>", desc := "(I)V", sig := { parameters := [.int], returnType := none }, accessFlags := 0, code := some k11c1 }
def k11c2 : Code := { maxStack := 1, maxLocals := 1, code := jdk_68_method_6_code, exceptionTable := #[], attributes := #[] }
def k11m2 : Method := { name := "length", desc := "()I", sig := { parameters := [], returnType := some .int }, accessFlags := 1, code := some k11c2 }
def k11c3 : Code := { maxStack := 4, maxLocals := 3, code := jdk_68_method_9_code, exceptionTable := #[], attributes := #[] }
def k11m3 : Method := { name := "ensureCapacityInternal", desc := "(I)V", sig := { parameters := [.int], returnType := none }, accessFlags := 2, code := some k11c3 }
def k11c4 : Code := { maxStack := 5, maxLocals := 6, code := jdk_68_method_10_code, exceptionTable := #[], attributes := #[] }
def k11m4 : Method := { name := "newCapacity", desc := "(I)I", sig := { parameters := [.int], returnType := some .int }, accessFlags := 2, code := some k11c4 }
def k11c5 : Code := { maxStack := 5, maxLocals := 2, code := jdk_68_method_11_code, exceptionTable := #[], attributes := #[] }
def k11m5 : Method := { name := "inflate", desc := "()V", sig := { parameters := [], returnType := none }, accessFlags := 2, code := some k11c5 }
def k11c6 : Code := { maxStack := 3, maxLocals := 3, code := jdk_68_method_22_code, exceptionTable := #[], attributes := #[] }
def k11m6 : Method := { name := "append", desc := "(Ljava/lang/String;)Ljava/lang/AbstractStringBuilder;", sig := { parameters := [(.object "java/lang/String")], returnType := some (.object "java/lang/AbstractStringBuilder") }, accessFlags := 1, code := some k11c6 }
def k11c7 : Code := { maxStack := 5, maxLocals := 2, code := jdk_68_method_31_code, exceptionTable := #[], attributes := #[] }
def k11m7 : Method := { name := "append", desc := "(C)Ljava/lang/AbstractStringBuilder;", sig := { parameters := [.char], returnType := some (.object "java/lang/AbstractStringBuilder") }, accessFlags := 1, code := some k11c7 }
def k11c8 : Code := { maxStack := 1, maxLocals := 1, code := jdk_68_method_64_code, exceptionTable := #[], attributes := #[] }
def k11m8 : Method := { name := "getValue", desc := "()[B", sig := { parameters := [], returnType := some (.array .byte) }, accessFlags := 16, code := some k11c8 }
def k11c9 : Code := { maxStack := 1, maxLocals := 1, code := jdk_68_method_68_code, exceptionTable := #[], attributes := #[] }
def k11m9 : Method := { name := "isLatin1", desc := "()Z", sig := { parameters := [], returnType := some .boolean }, accessFlags := 16, code := some k11c9 }
def k11c10 : Code := { maxStack := 2, maxLocals := 2, code := jdk_68_method_71_code, exceptionTable := #[], attributes := #[] }
def k11m10 : Method := { name := "inflateIfNeededFor", desc := "(Ljava/lang/String;)V", sig := { parameters := [(.object "java/lang/String")], returnType := none }, accessFlags := 2, code := some k11c10 }
def k11c11 : Code := { maxStack := 4, maxLocals := 3, code := jdk_68_method_73_code, exceptionTable := #[], attributes := #[] }
def k11m11 : Method := { name := "putStringAt", desc := "(ILjava/lang/String;)V", sig := { parameters := [.int, (.object "java/lang/String")], returnType := none }, accessFlags := 2, code := some k11c11 }
/-- java/lang/AbstractStringBuilder -/
def k11 : Class := { plain "java/lang/AbstractStringBuilder" (some 0) with
  accessFlags := 1056
  interfaces := #[10, 4]
  cf := some (fileOf pool11 10 #[] #[{ accessFlags := 0, nameIndex := 7, descriptorIndex := 8, attributes := #[] }, { accessFlags := 0, nameIndex := 7, descriptorIndex := 103, attributes := #[] }, { accessFlags := 1, nameIndex := 34, descriptorIndex := 35, attributes := #[] }, { accessFlags := 2, nameIndex := 102, descriptorIndex := 103, attributes := #[] }, { accessFlags := 2, nameIndex := 106, descriptorIndex := 107, attributes := #[] }, { accessFlags := 2, nameIndex := 127, descriptorIndex := 8, attributes := #[] }, { accessFlags := 1, nameIndex := 45, descriptorIndex := 46, attributes := #[] }, { accessFlags := 1, nameIndex := 45, descriptorIndex := 292, attributes := #[] }, { accessFlags := 16, nameIndex := 552, descriptorIndex := 403, attributes := #[] }, { accessFlags := 16, nameIndex := 85, descriptorIndex := 86, attributes := #[] }, { accessFlags := 2, nameIndex := 217, descriptorIndex := 69, attributes := #[] }, { accessFlags := 2, nameIndex := 210, descriptorIndex := 211, attributes := #[] }] 1056 4 #[444, 48] #[{ accessFlags := 0, nameIndex := 17, descriptorIndex := 14, attributes := #[] }, { accessFlags := 0, nameIndex := 24, descriptorIndex := 25, attributes := #[] }, { accessFlags := 0, nameIndex := 75, descriptorIndex := 21, attributes := #[] }, { accessFlags := 0, nameIndex := 81, descriptorIndex := 82, attributes := #[] }, { accessFlags := 26, nameIndex := 13, descriptorIndex := 14, attributes := #[] }])
  fields := #[{ name := "value", type := (.array .byte), accessFlags := 0, slot := 0, constantValue := 0 }, { name := "coder", type := .byte, accessFlags := 0, slot := 1, constantValue := 0 }, { name := "maybeLatin1", type := .boolean, accessFlags := 0, slot := 2, constantValue := 0 }, { name := "count", type := .int, accessFlags := 0, slot := 3, constantValue := 0 }, { name := "EMPTYVALUE", type := (.array .byte), accessFlags := 26, slot := 0, constantValue := 0 }]
  methods := #[k11m0, k11m1, k11m2, k11m3, k11m4, k11m5, k11m6, k11m7, k11m8, k11m9, k11m10, k11m11]
  instanceTypes := #[(.array .byte), .byte, .boolean, .int]
  staticTypes := #[(.array .byte)]
  resolved := Array.replicate 609 none
  statics := none }

def pool12 : Array CpInfo := pool [(1, .methodref 2 3), (0, .class_ 4), (0, .nameAndType 5 6), (0, u "java/lang/AbstractStringBuilder"), (0, u "<init>"), (0, u "(I)V"), (11, .class_ 20), (1, u "java/lang/String"), (3, .class_ 26), (1, u "java/lang/StringBuilder"), (0, u "append"), (0, u "(Ljava/lang/String;)Ljava/lang/StringBuilder;"), (0, .methodref 2 30), (0, .nameAndType 27 31), (0, u "(Ljava/lang/String;)Ljava/lang/AbstractStringBuilder;"), (18, .methodref 2 51), (0, .nameAndType 27 52), (0, u "(C)Ljava/lang/AbstractStringBuilder;"), (84, .methodref 18 138), (0, .nameAndType 5 139), (0, u "(Ljava/lang/StringBuilder;)V"), (5, u "()V"), (10, u "()I"), (129, u "(C)Ljava/lang/StringBuilder;"), (56, .methodref 2 344), (0, .nameAndType 345 156), (0, u "length"), (3, .class_ 350), (0, u "java/lang/Appendable"), (0, .class_ 352), (0, u "java/io/Serializable"), (0, .class_ 354), (0, u "java/lang/Comparable"), (0, .class_ 356), (0, u "java/lang/CharSequence"), (0, u "serialVersionUID"), (0, u "J"), (40, u "toString"), (0, u "()Ljava/lang/String;")] 21

def k12m0 : Method := { name := "<init>", desc := "()V", sig := { parameters := [], returnType := none }, accessFlags := 1, code := none }
def k12c1 : Code := { maxStack := 2, maxLocals := 2, code := jdk_67_method_2_code, exceptionTable := #[], attributes := #[] }
def k12m1 : Method := { name := "<init>", desc := "(I)V", sig := { parameters := [.int], returnType := none }, accessFlags := 1, code := some k12c1 }
def k12c2 : Code := { maxStack := 2, maxLocals := 2, code := jdk_67_method_7_code, exceptionTable := #[], attributes := #[] }
def k12m2 : Method := { name := "append", desc := "(Ljava/lang/String;)Ljava/lang/StringBuilder;", sig := { parameters := [(.object "java/lang/String")], returnType := some (.object "java/lang/StringBuilder") }, accessFlags := 1, code := some k12c2 }
def k12c3 : Code := { maxStack := 2, maxLocals := 2, code := jdk_67_method_14_code, exceptionTable := #[], attributes := #[] }
def k12m3 : Method := { name := "append", desc := "(C)Ljava/lang/StringBuilder;", sig := { parameters := [.char], returnType := some (.object "java/lang/StringBuilder") }, accessFlags := 1, code := some k12c3 }
def k12c4 : Code := { maxStack := 3, maxLocals := 1, code := jdk_67_method_42_code, exceptionTable := #[], attributes := #[] }
def k12m4 : Method := { name := "toString", desc := "()Ljava/lang/String;", sig := { parameters := [], returnType := some (.object "java/lang/String") }, accessFlags := 1, code := some k12c4 }
def k12c5 : Code := { maxStack := 1, maxLocals := 1, code := jdk_67_method_93_code, exceptionTable := #[], attributes := #[] }
def k12m5 : Method := { name := "length", desc := "()I", sig := { parameters := [], returnType := some .int }, accessFlags := 4161, code := some k12c5 }
/-- java/lang/StringBuilder -/
def k12 : Class := { plain "java/lang/StringBuilder" (some 11) with
  accessFlags := 49
  interfaces := #[10, 2, 3, 4]
  cf := some (fileOf pool12 24 #[] #[{ accessFlags := 1, nameIndex := 5, descriptorIndex := 145, attributes := #[] }, { accessFlags := 1, nameIndex := 5, descriptorIndex := 6, attributes := #[] }, { accessFlags := 1, nameIndex := 27, descriptorIndex := 28, attributes := #[] }, { accessFlags := 1, nameIndex := 27, descriptorIndex := 286, attributes := #[] }, { accessFlags := 1, nameIndex := 399, descriptorIndex := 400, attributes := #[] }, { accessFlags := 4161, nameIndex := 345, descriptorIndex := 156, attributes := #[] }] 49 2 #[349, 351, 353, 355] #[{ accessFlags := 24, nameIndex := 357, descriptorIndex := 358, attributes := #[] }])
  fields := #[{ name := "serialVersionUID", type := .long, accessFlags := 24, slot := 0, constantValue := 0 }]
  methods := #[k12m0, k12m1, k12m2, k12m3, k12m4, k12m5]
  instanceTypes := #[(.array .byte), .byte, .boolean, .int]
  staticTypes := #[.long]
  resolved := Array.replicate 422 none
  statics := none }

def pool13 : Array CpInfo := pool [(1, .class_ 2), (0, u "java/lang/String"), (1, .class_ 6), (1, u "java/lang/Object"), (0, u "<init>"), (0, u "()V"), (0, .methodref 1 10), (0, .nameAndType 11 12), (0, u "checkIndex"), (0, u "(II)V"), (1, .class_ 16), (1, u "java/lang/StringLatin1"), (0, u "inflate"), (2, .class_ 22), (1, u "java/lang/StringUTF16"), (3, .nameAndType 17 27), (0, u "([BI[BII)V"), (25, u "([BI)C"), (36, u "canEncode"), (14, u "(C)Z"), (15, u "$assertionsDisabled"), (0, u "Z"), (98, .class_ 223), (1, u "java/lang/StringLatin1$LinesSpliterator"), (16, .methodref 20 26), (11, u "charAt"), (127, u "toBytes"), (1, u "(C)[B"), (7, .class_ 391), (0, u "java/lang/StringLatin1$CharsSpliterator")] 3

def k13m0 : Method := { name := "<init>", desc := "()V", sig := { parameters := [], returnType := none }, accessFlags := 0, code := none }
def k13c1 : Code := { maxStack := 2, maxLocals := 2, code := jdk_43_method_2_code, exceptionTable := #[], attributes := #[] }
def k13m1 : Method := { name := "charAt", desc := "([BI)C", sig := { parameters := [(.array .byte), .int], returnType := some .char }, accessFlags := 9, code := some k13c1 }
def k13c2 : Code := { maxStack := 2, maxLocals := 1, code := jdk_43_method_3_code, exceptionTable := #[], attributes := #[] }
def k13m2 : Method := { name := "canEncode", desc := "(C)Z", sig := { parameters := [.char], returnType := some .boolean }, accessFlags := 9, code := some k13c2 }
def k13c3 : Code := { maxStack := 4, maxLocals := 1, code := jdk_43_method_46_code, exceptionTable := #[], attributes := #[] }
def k13m3 : Method := { name := "toBytes", desc := "(C)[B", sig := { parameters := [.char], returnType := some (.array .byte) }, accessFlags := 9, code := some k13c3 }
def k13c4 : Code := { maxStack := 5, maxLocals := 5, code := jdk_43_method_50_code, exceptionTable := #[], attributes := #[] }
def k13m4 : Method := { name := "inflate", desc := "([BI[BII)V", sig := { parameters := [(.array .byte), .int, (.array .byte), .int, .int], returnType := none }, accessFlags := 9, code := some k13c4 }
/-- java/lang/StringLatin1 -/
def k13 : Class := { plain "java/lang/StringLatin1" (some 0) with
  accessFlags := 48
  interfaces := #[]
  cf := some (fileOf pool13 14 #[.nestMembers #[390, 221]] #[{ accessFlags := 0, nameIndex := 7, descriptorIndex := 8, attributes := #[] }, { accessFlags := 9, nameIndex := 252, descriptorIndex := 53, attributes := #[] }, { accessFlags := 9, nameIndex := 90, descriptorIndex := 105, attributes := #[] }, { accessFlags := 9, nameIndex := 380, descriptorIndex := 382, attributes := #[] }, { accessFlags := 9, nameIndex := 17, descriptorIndex := 27, attributes := #[] }] 48 4 #[] #[{ accessFlags := 4120, nameIndex := 121, descriptorIndex := 122, attributes := #[] }])
  fields := #[{ name := "$assertionsDisabled", type := .boolean, accessFlags := 4120, slot := 0, constantValue := 0 }]
  methods := #[k13m0, k13m1, k13m2, k13m3, k13m4]
  instanceTypes := #[]
  staticTypes := #[.boolean]
  resolved := Array.replicate 395 none
  statics := none }

def pool14 : Array CpInfo := pool [(2, .class_ 4), (1, u "java/lang/Object"), (0, u "<init>"), (0, u "()V"), (17, .class_ 26), (1, u "jdk/internal/util/Preconditions"), (6, u "checkIndex"), (15, u "checkFromIndexSize"), (5, .class_ 56), (0, u "jdk/internal/util/Preconditions$4"), (57, .class_ 115), (0, u "jdk/internal/util/Preconditions$1"), (7, u "SIOOBE_FORMATTER"), (0, u "Ljava/util/function/BiFunction;"), (0, .class_ 126), (0, u "jdk/internal/util/Preconditions$2"), (3, u "AIOOBE_FORMATTER"), (0, .class_ 132), (0, u "jdk/internal/util/Preconditions$3"), (3, u "IOOBE_FORMATTER"), (41, u "(IILjava/util/function/BiFunction;)I"), (4, u "(IIILjava/util/function/BiFunction;)I")] 10

def k14m0 : Method := { name := "<init>", desc := "()V", sig := { parameters := [], returnType := none }, accessFlags := 1, code := none }
def k14c1 : Code := { maxStack := 3, maxLocals := 3, code := jdk_41_method_11_code, exceptionTable := #[], attributes := #[] }
def k14m1 : Method := { name := "checkIndex", desc := "(IILjava/util/function/BiFunction;)I", sig := { parameters := [.int, .int, (.object "java/util/function/BiFunction")], returnType := some .int }, accessFlags := 9, code := some k14c1 }
def k14c2 : Code := { maxStack := 4, maxLocals := 4, code := jdk_41_method_13_code, exceptionTable := #[], attributes := #[] }
def k14m2 : Method := { name := "checkFromIndexSize", desc := "(IIILjava/util/function/BiFunction;)I", sig := { parameters := [.int, .int, .int, (.object "java/util/function/BiFunction")], returnType := some .int }, accessFlags := 9, code := some k14c2 }
/-- jdk/internal/util/Preconditions -/
def k14 : Class := { plain "jdk/internal/util/Preconditions" (some 0) with
  accessFlags := 33
  interfaces := #[]
  cf := some (fileOf pool14 24 #[.nestMembers #[55, 131, 125, 114]] #[{ accessFlags := 1, nameIndex := 5, descriptorIndex := 6, attributes := #[] }, { accessFlags := 9, nameIndex := 33, descriptorIndex := 178, attributes := #[] }, { accessFlags := 9, nameIndex := 49, descriptorIndex := 183, attributes := #[] }] 33 2 #[] #[{ accessFlags := 25, nameIndex := 123, descriptorIndex := 124, attributes := #[] }, { accessFlags := 25, nameIndex := 130, descriptorIndex := 124, attributes := #[] }, { accessFlags := 25, nameIndex := 136, descriptorIndex := 124, attributes := #[] }])
  fields := #[{ name := "SIOOBE_FORMATTER", type := (.object "java/util/function/BiFunction"), accessFlags := 25, slot := 0, constantValue := 0 }, { name := "AIOOBE_FORMATTER", type := (.object "java/util/function/BiFunction"), accessFlags := 25, slot := 1, constantValue := 0 }, { name := "IOOBE_FORMATTER", type := (.object "java/util/function/BiFunction"), accessFlags := 25, slot := 2, constantValue := 0 }]
  methods := #[k14m0, k14m1, k14m2]
  instanceTypes := #[]
  staticTypes := #[(.object "java/util/function/BiFunction"), (.object "java/util/function/BiFunction"), (.object "java/util/function/BiFunction")]
  resolved := Array.replicate 194 none
  statics := some 2 }

def pool15 : Array CpInfo := pool [(9, u "<init>"), (6, .class_ 18), (1, u "java/lang/Object"), (0, u "()V"), (1, .class_ 23), (1, u "jdk/internal/util/ArraysSupport"), (0, u "LOG2_ARRAY_LONG_INDEX_SCALE"), (0, u "I"), (2, u "U"), (0, u "Ljdk/internal/misc/Unsafe;"), (8, u "BIG_ENDIAN"), (0, u "Z"), (8, u "LOG2_BYTE_BIT_SIZE"), (4, u "LOG2_ARRAY_INT_INDEX_SCALE"), (54, u "JLA"), (0, u "Ljdk/internal/access/JavaLangAccess;"), (11, u "LOG2_ARRAY_BOOLEAN_INDEX_SCALE"), (9, u "LOG2_ARRAY_BYTE_INDEX_SCALE"), (5, u "LOG2_ARRAY_CHAR_INDEX_SCALE"), (5, u "LOG2_ARRAY_SHORT_INDEX_SCALE"), (18, u "LOG2_ARRAY_FLOAT_INDEX_SCALE"), (24, u "LOG2_ARRAY_DOUBLE_INDEX_SCALE"), (6, .methodref 195 196), (0, .class_ 197), (0, .nameAndType 198 199), (0, u "java/lang/Math"), (0, u "max"), (0, u "(II)I"), (0, .integer 2147483639), (76, u "T_BOOLEAN"), (2, u "T_CHAR"), (1, u "T_FLOAT"), (1, u "T_DOUBLE"), (1, u "T_BYTE"), (1, u "T_SHORT"), (1, u "T_INT"), (1, u "T_LONG"), (1, u "SOFT_MAX_ARRAY_LENGTH"), (56, u "newLength"), (0, u "(III)I")] 25

def k15m0 : Method := { name := "<init>", desc := "()V", sig := { parameters := [], returnType := none }, accessFlags := 2, code := none }
def k15c1 : Code := { maxStack := 3, maxLocals := 4, code := jdk_48_method_27_code, exceptionTable := #[], attributes := #[] }
def k15m1 : Method := { name := "newLength", desc := "(III)I", sig := { parameters := [.int, .int, .int], returnType := some .int }, accessFlags := 9, code := some k15c1 }
/-- jdk/internal/util/ArraysSupport -/
def k15 : Class := { plain "jdk/internal/util/ArraysSupport" (some 0) with
  accessFlags := 33
  interfaces := #[]
  cf := some (fileOf pool15 21 #[] #[{ accessFlags := 2, nameIndex := 9, descriptorIndex := 19, attributes := #[] }, { accessFlags := 9, nameIndex := 351, descriptorIndex := 352, attributes := #[] }] 33 16 #[] #[{ accessFlags := 24, nameIndex := 28, descriptorIndex := 29, attributes := #[] }, { accessFlags := 26, nameIndex := 38, descriptorIndex := 39, attributes := #[] }, { accessFlags := 25, nameIndex := 121, descriptorIndex := 25, attributes := #[] }, { accessFlags := 25, nameIndex := 131, descriptorIndex := 25, attributes := #[] }, { accessFlags := 25, nameIndex := 137, descriptorIndex := 25, attributes := #[] }, { accessFlags := 25, nameIndex := 143, descriptorIndex := 25, attributes := #[] }, { accessFlags := 25, nameIndex := 53, descriptorIndex := 25, attributes := #[] }, { accessFlags := 25, nameIndex := 24, descriptorIndex := 25, attributes := #[] }, { accessFlags := 25, nameIndex := 162, descriptorIndex := 25, attributes := #[] }, { accessFlags := 25, nameIndex := 187, descriptorIndex := 25, attributes := #[] }, { accessFlags := 26, nameIndex := 48, descriptorIndex := 25, attributes := #[] }, { accessFlags := 25, nameIndex := 277, descriptorIndex := 25, attributes := #[] }, { accessFlags := 25, nameIndex := 280, descriptorIndex := 25, attributes := #[] }, { accessFlags := 25, nameIndex := 282, descriptorIndex := 25, attributes := #[] }, { accessFlags := 25, nameIndex := 284, descriptorIndex := 25, attributes := #[] }, { accessFlags := 25, nameIndex := 286, descriptorIndex := 25, attributes := #[] }, { accessFlags := 25, nameIndex := 288, descriptorIndex := 25, attributes := #[] }, { accessFlags := 25, nameIndex := 290, descriptorIndex := 25, attributes := #[] }, { accessFlags := 25, nameIndex := 292, descriptorIndex := 25, attributes := #[] }, { accessFlags := 26, nameIndex := 108, descriptorIndex := 109, attributes := #[] }, { accessFlags := 25, nameIndex := 294, descriptorIndex := 25, attributes := #[] }])
  fields := #[{ name := "U", type := (.object "jdk/internal/misc/Unsafe"), accessFlags := 24, slot := 0, constantValue := 0 }, { name := "BIG_ENDIAN", type := .boolean, accessFlags := 26, slot := 1, constantValue := 0 }, { name := "LOG2_ARRAY_BOOLEAN_INDEX_SCALE", type := .int, accessFlags := 25, slot := 2, constantValue := 0 }, { name := "LOG2_ARRAY_BYTE_INDEX_SCALE", type := .int, accessFlags := 25, slot := 3, constantValue := 0 }, { name := "LOG2_ARRAY_CHAR_INDEX_SCALE", type := .int, accessFlags := 25, slot := 4, constantValue := 0 }, { name := "LOG2_ARRAY_SHORT_INDEX_SCALE", type := .int, accessFlags := 25, slot := 5, constantValue := 0 }, { name := "LOG2_ARRAY_INT_INDEX_SCALE", type := .int, accessFlags := 25, slot := 6, constantValue := 0 }, { name := "LOG2_ARRAY_LONG_INDEX_SCALE", type := .int, accessFlags := 25, slot := 7, constantValue := 0 }, { name := "LOG2_ARRAY_FLOAT_INDEX_SCALE", type := .int, accessFlags := 25, slot := 8, constantValue := 0 }, { name := "LOG2_ARRAY_DOUBLE_INDEX_SCALE", type := .int, accessFlags := 25, slot := 9, constantValue := 0 }, { name := "LOG2_BYTE_BIT_SIZE", type := .int, accessFlags := 26, slot := 10, constantValue := 0 }, { name := "T_BOOLEAN", type := .int, accessFlags := 25, slot := 11, constantValue := 0 }, { name := "T_CHAR", type := .int, accessFlags := 25, slot := 12, constantValue := 0 }, { name := "T_FLOAT", type := .int, accessFlags := 25, slot := 13, constantValue := 0 }, { name := "T_DOUBLE", type := .int, accessFlags := 25, slot := 14, constantValue := 0 }, { name := "T_BYTE", type := .int, accessFlags := 25, slot := 15, constantValue := 0 }, { name := "T_SHORT", type := .int, accessFlags := 25, slot := 16, constantValue := 0 }, { name := "T_INT", type := .int, accessFlags := 25, slot := 17, constantValue := 0 }, { name := "T_LONG", type := .int, accessFlags := 25, slot := 18, constantValue := 0 }, { name := "JLA", type := (.object "jdk/internal/access/JavaLangAccess"), accessFlags := 26, slot := 19, constantValue := 0 }, { name := "SOFT_MAX_ARRAY_LENGTH", type := .int, accessFlags := 25, slot := 20, constantValue := 0 }]
  methods := #[k15m0, k15m1]
  instanceTypes := #[]
  staticTypes := #[(.object "jdk/internal/misc/Unsafe"), .boolean, .int, .int, .int, .int, .int, .int, .int, .int, .int, .int, .int, .int, .int, .int, .int, .int, .int, (.object "jdk/internal/access/JavaLangAccess"), .int]
  resolved := Array.replicate 378 none
  statics := none }

def pool16 : Array CpInfo := pool [(1, .class_ 2), (0, u "java/lang/Math"), (1, .class_ 6), (1, u "java/lang/Object"), (0, u "<init>"), (0, u "()V"), (89, .class_ 100), (1, u "java/lang/Math$RandomNumberGeneratorHolder"), (71, u "negativeZeroFloatBits"), (0, u "J"), (2, u "negativeZeroDoubleBits"), (21, u "max"), (2, u "min"), (43, u "$assertionsDisabled"), (0, u "Z"), (88, u "(II)I"), (2, u "twoToTheDoubleScaleDown"), (0, u "D"), (4, u "twoToTheDoubleScaleUp"), (9, u "E"), (3, u "PI"), (2, u "TAU"), (2, u "DEGREES_TO_RADIANS"), (0, u "RADIANS_TO_DEGREES")] 94

def k16m0 : Method := { name := "<init>", desc := "()V", sig := { parameters := [], returnType := none }, accessFlags := 2, code := none }
def k16c1 : Code := { maxStack := 2, maxLocals := 2, code := jdk_29_method_65_code, exceptionTable := #[], attributes := #[] }
def k16m1 : Method := { name := "max", desc := "(II)I", sig := { parameters := [.int, .int], returnType := some .int }, accessFlags := 9, code := some k16c1 }
def k16c2 : Code := { maxStack := 2, maxLocals := 2, code := jdk_29_method_69_code, exceptionTable := #[], attributes := #[] }
def k16m2 : Method := { name := "min", desc := "(II)I", sig := { parameters := [.int, .int], returnType := some .int }, accessFlags := 9, code := some k16c2 }
/-- java/lang/Math -/
def k16 : Class := { plain "java/lang/Math" (some 0) with
  accessFlags := 49
  interfaces := #[]
  cf := some (fileOf pool16 1 #[.nestMembers #[98]] #[{ accessFlags := 2, nameIndex := 7, descriptorIndex := 8, attributes := #[] }, { accessFlags := 9, nameIndex := 198, descriptorIndex := 335, attributes := #[] }, { accessFlags := 9, nameIndex := 201, descriptorIndex := 335, attributes := #[] }] 49 4 #[] #[{ accessFlags := 25, nameIndex := 354, descriptorIndex := 339, attributes := #[] }, { accessFlags := 25, nameIndex := 358, descriptorIndex := 339, attributes := #[] }, { accessFlags := 25, nameIndex := 361, descriptorIndex := 339, attributes := #[] }, { accessFlags := 26, nameIndex := 364, descriptorIndex := 339, attributes := #[] }, { accessFlags := 26, nameIndex := 365, descriptorIndex := 339, attributes := #[] }, { accessFlags := 26, nameIndex := 172, descriptorIndex := 173, attributes := #[] }, { accessFlags := 26, nameIndex := 176, descriptorIndex := 173, attributes := #[] }, { accessFlags := 8, nameIndex := 344, descriptorIndex := 339, attributes := #[] }, { accessFlags := 8, nameIndex := 338, descriptorIndex := 339, attributes := #[] }, { accessFlags := 4120, nameIndex := 245, descriptorIndex := 246, attributes := #[] }])
  fields := #[{ name := "E", type := .double, accessFlags := 25, slot := 0, constantValue := 0 }, { name := "PI", type := .double, accessFlags := 25, slot := 1, constantValue := 0 }, { name := "TAU", type := .double, accessFlags := 25, slot := 2, constantValue := 0 }, { name := "DEGREES_TO_RADIANS", type := .double, accessFlags := 26, slot := 3, constantValue := 0 }, { name := "RADIANS_TO_DEGREES", type := .double, accessFlags := 26, slot := 4, constantValue := 0 }, { name := "negativeZeroFloatBits", type := .long, accessFlags := 26, slot := 5, constantValue := 0 }, { name := "negativeZeroDoubleBits", type := .long, accessFlags := 26, slot := 6, constantValue := 0 }, { name := "twoToTheDoubleScaleUp", type := .double, accessFlags := 8, slot := 7, constantValue := 0 }, { name := "twoToTheDoubleScaleDown", type := .double, accessFlags := 8, slot := 8, constantValue := 0 }, { name := "$assertionsDisabled", type := .boolean, accessFlags := 4120, slot := 9, constantValue := 0 }]
  methods := #[k16m0, k16m1, k16m2]
  instanceTypes := #[]
  staticTypes := #[.double, .double, .double, .double, .double, .long, .long, .double, .double, .boolean]
  resolved := Array.replicate 460 none
  statics := none }

def pool17 : Array CpInfo := pool [(2, .class_ 4), (1, u "java/lang/Object"), (0, u "<init>"), (0, u "()V"), (7, .class_ 16), (1, u "java/util/Arrays"), (57, .class_ 76), (1, u "java/util/Arrays$NaturalOrder"), (32, u "()Ljava/lang/Object;"), (3, .class_ 115), (1, u "java/util/Arrays$LegacyMergeSort"), (1, u "Z"), (10, .nameAndType 129 109), (0, u "clone"), (9, u "copyOfRange"), (10, .methodref 151 152), (0, .class_ 153), (0, .nameAndType 154 155), (0, u "java/lang/System"), (0, u "arraycopy"), (0, u "(Ljava/lang/Object;ILjava/lang/Object;II)V"), (146, u "copyOf"), (1, .methodref 305 306), (0, .class_ 307), (0, .nameAndType 308 309), (0, u "java/lang/Math"), (0, u "min"), (0, u "(II)I"), (0, .methodref 311 128), (0, .class_ 312), (0, u "[B"), (26, .methodref 14 340), (0, .nameAndType 341 342), (0, u "copyOfRangeByte"), (0, u "([BII)[B"), (0, .methodref 14 344), (0, .nameAndType 345 346), (0, u "checkLength"), (0, u "(II)V"), (28, .class_ 376), (0, u "java/util/Arrays$ArrayList"), (68, u "$assertionsDisabled"), (269, u "MIN_ARRAY_SORT_GRAN"), (0, u "I"), (2, u "INSERTIONSORT_THRESHOLD"), (149, u "([BI)[B"), (105, .class_ 976), (0, u "java/util/Arrays$ArrayItr")] 52

def k17m0 : Method := { name := "<init>", desc := "()V", sig := { parameters := [], returnType := none }, accessFlags := 2, code := none }
def k17c1 : Code := { maxStack := 6, maxLocals := 3, code := jdk_65_method_121_code, exceptionTable := #[], attributes := #[] }
def k17m1 : Method := { name := "copyOf", desc := "([BI)[B", sig := { parameters := [(.array .byte), .int], returnType := some (.array .byte) }, accessFlags := 9, code := some k17c1 }
def k17c2 : Code := { maxStack := 4, maxLocals := 2, code := jdk_65_method_131_code, exceptionTable := #[], attributes := #[] }
def k17m2 : Method := { name := "checkLength", desc := "(II)V", sig := { parameters := [.int, .int], returnType := none }, accessFlags := 10, code := some k17c2 }
def k17c3 : Code := { maxStack := 3, maxLocals := 3, code := jdk_65_method_132_code, exceptionTable := #[], attributes := #[] }
def k17m3 : Method := { name := "copyOfRange", desc := "([BII)[B", sig := { parameters := [(.array .byte), .int, .int], returnType := some (.array .byte) }, accessFlags := 9, code := some k17c3 }
def k17c4 : Code := { maxStack := 6, maxLocals := 5, code := jdk_65_method_133_code, exceptionTable := #[], attributes := #[] }
def k17m4 : Method := { name := "copyOfRangeByte", desc := "([BII)[B", sig := { parameters := [(.array .byte), .int, .int], returnType := some (.array .byte) }, accessFlags := 10, code := some k17c4 }
/-- java/util/Arrays -/
def k17 : Class := { plain "java/util/Arrays" (some 0) with
  accessFlags := 49
  interfaces := #[]
  cf := some (fileOf pool17 14 #[.nestMembers #[975, 375, 113, 74]] #[{ accessFlags := 2, nameIndex := 5, descriptorIndex := 6, attributes := #[] }, { accessFlags := 9, nameIndex := 302, descriptorIndex := 869, attributes := #[] }, { accessFlags := 10, nameIndex := 345, descriptorIndex := 346, attributes := #[] }, { accessFlags := 9, nameIndex := 139, descriptorIndex := 342, attributes := #[] }, { accessFlags := 10, nameIndex := 341, descriptorIndex := 342, attributes := #[] }] 49 2 #[] #[{ accessFlags := 26, nameIndex := 715, descriptorIndex := 716, attributes := #[] }, { accessFlags := 26, nameIndex := 719, descriptorIndex := 716, attributes := #[] }, { accessFlags := 4120, nameIndex := 445, descriptorIndex := 117, attributes := #[] }])
  fields := #[{ name := "MIN_ARRAY_SORT_GRAN", type := .int, accessFlags := 26, slot := 0, constantValue := 0 }, { name := "INSERTIONSORT_THRESHOLD", type := .int, accessFlags := 26, slot := 1, constantValue := 0 }, { name := "$assertionsDisabled", type := .boolean, accessFlags := 4120, slot := 2, constantValue := 0 }]
  methods := #[k17m0, k17m1, k17m2, k17m3, k17m4]
  instanceTypes := #[]
  staticTypes := #[.int, .int, .boolean]
  resolved := Array.replicate 1029 none
  statics := none }

def pool18 : Array CpInfo := pool [(2, .class_ 4), (1, u "java/lang/Object"), (0, u "<init>"), (0, u "()V"), (1, .class_ 10), (1, u "java/lang/System"), (0, u "allowSecurityManager"), (0, u "I"), (16, u "cons"), (0, u "Ljava/io/Console;"), (77, .class_ 110), (1, u "java/lang/System$CallersHolder"), (43, u "initialErrStream"), (0, u "Ljava/io/PrintStream;"), (19, u "security"), (0, u "Ljava/lang/SecurityManager;"), (31, .class_ 209), (0, u "java/lang/System$1"), (7, u "props"), (0, u "Ljava/util/Properties;"), (2, u "lineSeparator"), (0, u "Ljava/lang/String;"), (96, .class_ 321), (1, u "java/lang/System$LoggerFinder"), (5, .class_ 328), (0, u "java/lang/System$Logger"), (67, u "err"), (2, u "out"), (91, u "notSupportedJnuEncoding"), (15, u "in"), (17, u "initialIn"), (0, u "Ljava/io/InputStream;"), (35, u "bootLayer"), (0, u "Ljava/lang/ModuleLayer;"), (99, .class_ 664), (0, u "java/lang/System$2"), (9, u "NEVER"), (2, u "MAYBE"), (49, u "arraycopy"), (0, u "(Ljava/lang/Object;ILjava/lang/Object;II)V"), (72, .class_ 802), (0, u "java/lang/System$Logger$Level")] 31

def k18m0 : Method := { name := "<init>", desc := "()V", sig := { parameters := [], returnType := none }, accessFlags := 2, code := none }
def k18m1 : Method := { name := "arraycopy", desc := "(Ljava/lang/Object;ILjava/lang/Object;II)V", sig := { parameters := [(.object "java/lang/Object"), .int, (.object "java/lang/Object"), .int, .int], returnType := none }, accessFlags := 265, code := none }
/-- java/lang/System -/
def k18 : Class := { plain "java/lang/System" (some 0) with
  accessFlags := 49
  interfaces := #[]
  cf := some (fileOf pool18 8 #[.nestMembers #[319, 327, 801, 108, 663, 208]] #[{ accessFlags := 2, nameIndex := 5, descriptorIndex := 6, attributes := #[] }, { accessFlags := 265, nameIndex := 727, descriptorIndex := 728, attributes := #[] }] 49 2 #[] #[{ accessFlags := 25, nameIndex := 507, descriptorIndex := 526, attributes := #[] }, { accessFlags := 25, nameIndex := 399, descriptorIndex := 155, attributes := #[] }, { accessFlags := 25, nameIndex := 396, descriptorIndex := 155, attributes := #[] }, { accessFlags := 10, nameIndex := 525, descriptorIndex := 526, attributes := #[] }, { accessFlags := 26, nameIndex := 674, descriptorIndex := 12, attributes := #[] }, { accessFlags := 26, nameIndex := 677, descriptorIndex := 12, attributes := #[] }, { accessFlags := 10, nameIndex := 11, descriptorIndex := 12, attributes := #[] }, { accessFlags := 74, nameIndex := 175, descriptorIndex := 176, attributes := #[] }, { accessFlags := 10, nameIndex := 491, descriptorIndex := 222, attributes := #[] }, { accessFlags := 74, nameIndex := 29, descriptorIndex := 30, attributes := #[] }, { accessFlags := 74, nameIndex := 154, descriptorIndex := 155, attributes := #[] }, { accessFlags := 10, nameIndex := 217, descriptorIndex := 218, attributes := #[] }, { accessFlags := 10, nameIndex := 221, descriptorIndex := 222, attributes := #[] }, { accessFlags := 8, nameIndex := 562, descriptorIndex := 563, attributes := #[] }])
  fields := #[{ name := "in", type := (.object "java/io/InputStream"), accessFlags := 25, slot := 0, constantValue := 0 }, { name := "out", type := (.object "java/io/PrintStream"), accessFlags := 25, slot := 1, constantValue := 0 }, { name := "err", type := (.object "java/io/PrintStream"), accessFlags := 25, slot := 2, constantValue := 0 }, { name := "initialIn", type := (.object "java/io/InputStream"), accessFlags := 10, slot := 3, constantValue := 0 }, { name := "NEVER", type := .int, accessFlags := 26, slot := 4, constantValue := 0 }, { name := "MAYBE", type := .int, accessFlags := 26, slot := 5, constantValue := 0 }, { name := "allowSecurityManager", type := .int, accessFlags := 10, slot := 6, constantValue := 0 }, { name := "security", type := (.object "java/lang/SecurityManager"), accessFlags := 74, slot := 7, constantValue := 0 }, { name := "notSupportedJnuEncoding", type := (.object "java/lang/String"), accessFlags := 10, slot := 8, constantValue := 0 }, { name := "cons", type := (.object "java/io/Console"), accessFlags := 74, slot := 9, constantValue := 0 }, { name := "initialErrStream", type := (.object "java/io/PrintStream"), accessFlags := 74, slot := 10, constantValue := 0 }, { name := "props", type := (.object "java/util/Properties"), accessFlags := 10, slot := 11, constantValue := 0 }, { name := "lineSeparator", type := (.object "java/lang/String"), accessFlags := 10, slot := 12, constantValue := 0 }, { name := "bootLayer", type := (.object "java/lang/ModuleLayer"), accessFlags := 8, slot := 13, constantValue := 0 }]
  methods := #[k18m0, k18m1]
  instanceTypes := #[]
  staticTypes := #[(.object "java/io/InputStream"), (.object "java/io/PrintStream"), (.object "java/io/PrintStream"), (.object "java/io/InputStream"), .int, .int, .int, (.object "java/lang/SecurityManager"), (.object "java/lang/String"), (.object "java/io/Console"), (.object "java/io/PrintStream"), (.object "java/util/Properties"), (.object "java/lang/String"), (.object "java/lang/ModuleLayer")]
  resolved := Array.replicate 834 none
  statics := none }

def pool19 : Array CpInfo := pool [(1, .class_ 2), (0, u "java/lang/Cloneable"), (0, .class_ 4), (0, u "java/lang/Object")] 2

/-- java/lang/Cloneable -/
def k19 : Class := { plain "java/lang/Cloneable" (some 0) with
  accessFlags := 1537
  interfaces := #[]
  cf := some (fileOf pool19 1 #[] #[] 1537 3 #[] #[])
  fields := #[]
  methods := #[]
  instanceTypes := #[]
  staticTypes := #[]
  resolved := Array.replicate 7 none
  statics := none }

/-- the primitive byte -/
def k20 : Class := { plain "byte" none with kind := .primitive 'B', accessFlags := 0x411 }
/-- [B -/
def k21 : Class := { plain "[B" (some 0) with kind := .array 20 .byte, interfaces := #[19, 2], accessFlags := 1041 }

/-- the primitive char -/
def k22 : Class := { plain "char" none with kind := .primitive 'C', accessFlags := 0x411 }
/-- [C -/
def k23 : Class := { plain "[C" (some 0) with kind := .array 22 .char, interfaces := #[19, 2], accessFlags := 1041 }

/-- the primitive int -/
def k24 : Class := { plain "int" none with kind := .primitive 'I', accessFlags := 0x411 }
/-- [I -/
def k25 : Class := { plain "[I" (some 0) with kind := .array 24 .int, interfaces := #[19, 2], accessFlags := 1041 }

def heap : Heap := #[{ cls := 7, slots := #[.long 0, .int 1, .null, .int 0, .null, .int 0, .int 0], vm := .statics 7 },
  { cls := 8, slots := #[.int 0, .int 8, .int 0, .int 1], vm := .statics 8 },
  { cls := 14, slots := #[.null, .null, .null], vm := .statics 14 }]
def classes : Array Class := #[k0, k1, k2, k3, k4, k5, k6, k7, k8, k9, k10, k11, k12, k13, k14, k15, k16, k17, k18, k19, k20, k21, k22, k23, k24, k25]
def interned : List (Array UInt16 × Addr) := []
def slotsUsed : Nat := 14
def theMethod : MethodId := ⟨1, 4⟩
def args0 : Array Value := #[.int 5, .int 5, .int 5, .int 5]
def aboutOver (below : List Frame) : State where
  vm := { classes := classes, interned := interned.toArray }
  heap := heap
  slotsUsed := slotsUsed
  threads := #[{ frames := .invoking theMethod args0 :: below }]
def below0 : List Frame := [.native { method := ⟨0, 0⟩, args := #[] }]
def about1 : State := aboutOver below0
def p0 : Program := .bare "" "" ""
def e0 : Env := launch0.env 0 0 0
theorem w_frames : about1.frames = Frame.invoking theMethod args0 :: below0 := rfl
set_option maxRecDepth 65536 in
theorem w_args : argsFit about1.vm theMethod args0 = true := by decide +kernel
set_option maxRecDepth 65536 in
theorem w_heap : heapFits about1 = true := by decide +kernel
set_option maxRecDepth 65536 in
theorem w_runnable : about1.curStatus? = some .runnable := by decide +kernel
set_option maxRecDepth 65536 in
theorem w_alone : about1.alone = true := by decide +kernel
set_option maxRecDepth 65536 in
theorem w_named : about1.methodNamed? x = some theMethod := by decide +kernel
set_option maxRecDepth 65536 in
theorem w_hears : about1.hears theMethod below0 = true := by decide +kernel
set_option maxRecDepth 65536 in
theorem w_ripe : about1.ripe theMethod args0 below0 = true := by decide +kernel
theorem w_running : about1.status = .running := rfl
set_option maxRecDepth 65536 in
theorem w_room : about1.hasRoom e0.platform room_1 = true :=
  launch0.hasRoom_least _ room_1 (by decide +kernel) (by decide +kernel) (by decide +kernel) (by decide +kernel) (by decide +kernel) (by decide +kernel)
theorem allAtoms_all (ts : List Jvm.Cond) (a : Array Jvm.Value) (st : Jvm.State) : (allAtoms ts).before a st = ts.all (fun c => c.before a st) := by
  induction ts with
  | nil => rfl
  | cons c t ih =>
    show (Jvm.Cond.and c (allAtoms t)).before a st = _
    rw [Jvm.Cond.before_and, ih, List.all_cons]
def words1 : List Jvm.Cond := Jvm.Cond.code x code maxLocals ret :: tables_1
/-- a 'code' word, met by the world's own term for the bytes: nothing is compared byte by byte -/
theorem code_word {y : MethodName} {bytes : ByteArray} {mx : Nat} {rt : Option FieldType} {a : Array Value} {s : State} {m : MethodId} {meth : Method} {c : Code} (h1 : s.methodNamed? y = some m) (h2 : s.vm.method? m = some meth) (h3 : meth.code = some c) (h4 : c.code = bytes)
    (h5 : (c.maxLocals == mx && c.exceptionTable.isEmpty && decide (c.maxStack ≤ mostOperands) && decide (meth.sig.returnType = rt) && !meth.locks && decide (parseMethodDescriptor y.desc = some meth.sig)) = true) : (Jvm.Cond.code y bytes mx rt).before a s = true := by
  simp only [Bool.and_eq_true, beq_iff_eq, Bool.not_eq_true', decide_eq_true_eq] at h5
  obtain ⟨⟨⟨⟨⟨g1, g2⟩, g3⟩, g4⟩, g5⟩, g6⟩ := h5
  simp [Cond.before, Cond.holds, Cond.value, h1, h2, h3, h4, g1, g2, g3, g4, g5, g6]
def isCode : Jvm.Cond → Bool
  | .code _ _ _ _ => true
  | _ => false
theorem all_split {L : List Jvm.Cond} {P : Jvm.Cond → Bool} (h1 : L.all (fun c => isCode c || P c) = true) (h2 : ∀ c ∈ L.filter isCode, P c = true) : L.all P = true := by
  refine List.all_eq_true.mpr fun c hc => ?_
  have h := List.all_eq_true.mp h1 c hc
  rcases Bool.eq_false_or_eq_true (isCode c) with hi | hi
  · exact h2 c (List.mem_filter.mpr ⟨hc, hi⟩)
  · simpa [hi] using h
set_option maxRecDepth 65536 in
theorem w_c0 : (Jvm.Cond.code x code maxLocals ret).before args0 about1 = true := code_word (m := ⟨1, 4⟩) (meth := k1m4) (c := k1c4) (by decide +kernel) rfl rfl rfl (by decide +kernel)
set_option maxRecDepth 65536 in
theorem w_c1 : (Jvm.Cond.code ({ cls := "com/example/carve/carve/http/HtmlEscapePinLaw", name := "pick", desc := "(I)C" } : Jvm.MethodName) method_2_code (2 : Nat) (Option.some Jvm.ClassFile.FieldType.char)).before args0 about1 = true := code_word (m := ⟨1, 1⟩) (meth := k1m1) (c := k1c1) (by decide +kernel) rfl rfl rfl (by decide +kernel)
set_option maxRecDepth 65536 in
theorem w_c2 : (Jvm.Cond.code ({ cls := "java/lang/String", name := "<init>", desc := "([C)V" } : Jvm.MethodName) jdk_42_method_3_code (2 : Nat) (Option.none : Option Jvm.ClassFile.FieldType)).before args0 about1 = true := code_word (m := ⟨7, 1⟩) (meth := k7m1) (c := k7c1) (by decide +kernel) rfl rfl rfl (by decide +kernel)
set_option maxRecDepth 65536 in
theorem w_c3 : (Jvm.Cond.code ({ cls := "java/lang/String", name := "<init>", desc := "([CIILjava/lang/Void;)V" } : Jvm.MethodName) jdk_42_method_149_code (6 : Nat) (Option.none : Option Jvm.ClassFile.FieldType)).before args0 about1 = true := code_word (m := ⟨7, 7⟩) (meth := k7m7) (c := k7c7) (by decide +kernel) rfl rfl rfl (by decide +kernel)
set_option maxRecDepth 65536 in
theorem w_c4 : (Jvm.Cond.code ({ cls := "java/lang/Object", name := "<init>", desc := "()V" } : Jvm.MethodName) object_method_1_code (1 : Nat) (Option.none : Option Jvm.ClassFile.FieldType)).before args0 about1 = true := code_word (m := ⟨0, 0⟩) (meth := k0m0) (c := k0c0) (by decide +kernel) rfl rfl rfl (by decide +kernel)
set_option maxRecDepth 65536 in
theorem w_c5 : (Jvm.Cond.code ({ cls := "java/lang/StringUTF16", name := "compress", desc := "([CII)[B" } : Jvm.MethodName) jdk_52_method_16_code (6 : Nat) (Option.some (Jvm.ClassFile.FieldType.array Jvm.ClassFile.FieldType.byte))).before args0 about1 = true := code_word (m := ⟨8, 8⟩) (meth := k8m8) (c := k8c8) (by decide +kernel) rfl rfl rfl (by decide +kernel)
set_option maxRecDepth 65536 in
theorem w_c6 : (Jvm.Cond.code ({ cls := "java/lang/StringUTF16", name := "compress", desc := "([CI[BII)I" } : Jvm.MethodName) jdk_52_method_21_code (7 : Nat) (Option.some Jvm.ClassFile.FieldType.int)).before args0 about1 = true := code_word (m := ⟨8, 9⟩) (meth := k8m9) (c := k8c9) (by decide +kernel) rfl rfl rfl (by decide +kernel)
set_option maxRecDepth 65536 in
theorem w_c7 : (Jvm.Cond.code ({ cls := "java/lang/StringUTF16", name := "coderFromArrayLen", desc := "([BI)B" } : Jvm.MethodName) jdk_52_method_15_code (2 : Nat) (Option.some Jvm.ClassFile.FieldType.byte)).before args0 about1 = true := code_word (m := ⟨8, 7⟩) (meth := k8m7) (c := k8c7) (by decide +kernel) rfl rfl rfl (by decide +kernel)
set_option maxRecDepth 65536 in
theorem w_c8 : (Jvm.Cond.code ({ cls := "com/example/carve/carve/http/Html", name := "escape", desc := "(Ljava/lang/String;)Ljava/lang/String;" } : Jvm.MethodName) prog_24_method_8_code (4 : Nat) (Option.some (Jvm.ClassFile.FieldType.object "java/lang/String"))).before args0 about1 = true := code_word (m := ⟨9, 1⟩) (meth := k9m1) (c := k9c1) (by decide +kernel) rfl rfl rfl (by decide +kernel)
set_option maxRecDepth 65536 in
theorem w_c9 : (Jvm.Cond.code ({ cls := "java/lang/String", name := "length", desc := "()I" } : Jvm.MethodName) jdk_42_method_54_code (1 : Nat) (Option.some Jvm.ClassFile.FieldType.int)).before args0 about1 = true := code_word (m := ⟨7, 3⟩) (meth := k7m3) (c := k7c3) (by decide +kernel) rfl rfl rfl (by decide +kernel)
set_option maxRecDepth 65536 in
theorem w_c10 : (Jvm.Cond.code ({ cls := "java/lang/String", name := "coder", desc := "()B" } : Jvm.MethodName) jdk_42_method_152_code (1 : Nat) (Option.some Jvm.ClassFile.FieldType.byte)).before args0 about1 = true := code_word (m := ⟨7, 10⟩) (meth := k7m10) (c := k7c10) (by decide +kernel) rfl rfl rfl (by decide +kernel)
set_option maxRecDepth 65536 in
theorem w_c11 : (Jvm.Cond.code ({ cls := "java/lang/StringBuilder", name := "<init>", desc := "(I)V" } : Jvm.MethodName) jdk_67_method_2_code (2 : Nat) (Option.none : Option Jvm.ClassFile.FieldType)).before args0 about1 = true := code_word (m := ⟨12, 1⟩) (meth := k12m1) (c := k12c1) (by decide +kernel) rfl rfl rfl (by decide +kernel)
set_option maxRecDepth 65536 in
theorem w_c12 : (Jvm.Cond.code ({ cls := "java/lang/AbstractStringBuilder", name := "<init>", desc := "(I)V" } : Jvm.MethodName) jdk_68_method_2_code (2 : Nat) (Option.none : Option Jvm.ClassFile.FieldType)).before args0 about1 = true := code_word (m := ⟨11, 1⟩) (meth := k11m1) (c := k11c1) (by decide +kernel) rfl rfl rfl (by decide +kernel)
set_option maxRecDepth 65536 in
theorem w_c13 : (Jvm.Cond.code ({ cls := "java/lang/String", name := "charAt", desc := "(I)C" } : Jvm.MethodName) jdk_42_method_56_code (2 : Nat) (Option.some Jvm.ClassFile.FieldType.char)).before args0 about1 = true := code_word (m := ⟨7, 4⟩) (meth := k7m4) (c := k7c4) (by decide +kernel) rfl rfl rfl (by decide +kernel)
set_option maxRecDepth 65536 in
theorem w_c14 : (Jvm.Cond.code ({ cls := "java/lang/String", name := "isLatin1", desc := "()Z" } : Jvm.MethodName) jdk_42_method_154_code (1 : Nat) (Option.some Jvm.ClassFile.FieldType.boolean)).before args0 about1 = true := code_word (m := ⟨7, 11⟩) (meth := k7m11) (c := k7c11) (by decide +kernel) rfl rfl rfl (by decide +kernel)
set_option maxRecDepth 65536 in
theorem w_c15 : (Jvm.Cond.code ({ cls := "java/lang/StringLatin1", name := "charAt", desc := "([BI)C" } : Jvm.MethodName) jdk_43_method_2_code (2 : Nat) (Option.some Jvm.ClassFile.FieldType.char)).before args0 about1 = true := code_word (m := ⟨13, 1⟩) (meth := k13m1) (c := k13c1) (by decide +kernel) rfl rfl rfl (by decide +kernel)
set_option maxRecDepth 65536 in
theorem w_c16 : (Jvm.Cond.code ({ cls := "java/lang/String", name := "checkIndex", desc := "(II)V" } : Jvm.MethodName) jdk_42_method_155_code (2 : Nat) (Option.none : Option Jvm.ClassFile.FieldType)).before args0 about1 = true := code_word (m := ⟨7, 12⟩) (meth := k7m12) (c := k7c12) (by decide +kernel) rfl rfl rfl (by decide +kernel)
set_option maxRecDepth 65536 in
theorem w_c17 : (Jvm.Cond.code ({ cls := "jdk/internal/util/Preconditions", name := "checkIndex", desc := "(IILjava/util/function/BiFunction;)I" } : Jvm.MethodName) jdk_41_method_11_code (3 : Nat) (Option.some Jvm.ClassFile.FieldType.int)).before args0 about1 = true := code_word (m := ⟨14, 1⟩) (meth := k14m1) (c := k14c1) (by decide +kernel) rfl rfl rfl (by decide +kernel)
set_option maxRecDepth 65536 in
theorem w_c18 : (Jvm.Cond.code ({ cls := "java/lang/StringBuilder", name := "append", desc := "(Ljava/lang/String;)Ljava/lang/StringBuilder;" } : Jvm.MethodName) jdk_67_method_7_code (2 : Nat) (Option.some (Jvm.ClassFile.FieldType.object "java/lang/StringBuilder"))).before args0 about1 = true := code_word (m := ⟨12, 2⟩) (meth := k12m2) (c := k12c2) (by decide +kernel) rfl rfl rfl (by decide +kernel)
set_option maxRecDepth 65536 in
theorem w_c19 : (Jvm.Cond.code ({ cls := "java/lang/AbstractStringBuilder", name := "append", desc := "(Ljava/lang/String;)Ljava/lang/AbstractStringBuilder;" } : Jvm.MethodName) jdk_68_method_22_code (3 : Nat) (Option.some (Jvm.ClassFile.FieldType.object "java/lang/AbstractStringBuilder"))).before args0 about1 = true := code_word (m := ⟨11, 6⟩) (meth := k11m6) (c := k11c6) (by decide +kernel) rfl rfl rfl (by decide +kernel)
set_option maxRecDepth 65536 in
theorem w_c20 : (Jvm.Cond.code ({ cls := "java/lang/AbstractStringBuilder", name := "ensureCapacityInternal", desc := "(I)V" } : Jvm.MethodName) jdk_68_method_9_code (3 : Nat) (Option.none : Option Jvm.ClassFile.FieldType)).before args0 about1 = true := code_word (m := ⟨11, 3⟩) (meth := k11m3) (c := k11c3) (by decide +kernel) rfl rfl rfl (by decide +kernel)
set_option maxRecDepth 65536 in
theorem w_c21 : (Jvm.Cond.code ({ cls := "java/lang/AbstractStringBuilder", name := "newCapacity", desc := "(I)I" } : Jvm.MethodName) jdk_68_method_10_code (6 : Nat) (Option.some Jvm.ClassFile.FieldType.int)).before args0 about1 = true := code_word (m := ⟨11, 4⟩) (meth := k11m4) (c := k11c4) (by decide +kernel) rfl rfl rfl (by decide +kernel)
set_option maxRecDepth 65536 in
theorem w_c22 : (Jvm.Cond.code ({ cls := "jdk/internal/util/ArraysSupport", name := "newLength", desc := "(III)I" } : Jvm.MethodName) jdk_48_method_27_code (4 : Nat) (Option.some Jvm.ClassFile.FieldType.int)).before args0 about1 = true := code_word (m := ⟨15, 1⟩) (meth := k15m1) (c := k15c1) (by decide +kernel) rfl rfl rfl (by decide +kernel)
set_option maxRecDepth 65536 in
theorem w_c23 : (Jvm.Cond.code ({ cls := "java/lang/Math", name := "max", desc := "(II)I" } : Jvm.MethodName) jdk_29_method_65_code (2 : Nat) (Option.some Jvm.ClassFile.FieldType.int)).before args0 about1 = true := code_word (m := ⟨16, 1⟩) (meth := k16m1) (c := k16c1) (by decide +kernel) rfl rfl rfl (by decide +kernel)
set_option maxRecDepth 65536 in
theorem w_c24 : (Jvm.Cond.code ({ cls := "java/util/Arrays", name := "copyOf", desc := "([BI)[B" } : Jvm.MethodName) jdk_65_method_121_code (3 : Nat) (Option.some (Jvm.ClassFile.FieldType.array Jvm.ClassFile.FieldType.byte))).before args0 about1 = true := code_word (m := ⟨17, 1⟩) (meth := k17m1) (c := k17c1) (by decide +kernel) rfl rfl rfl (by decide +kernel)
set_option maxRecDepth 65536 in
theorem w_c25 : (Jvm.Cond.code ({ cls := "java/lang/Math", name := "min", desc := "(II)I" } : Jvm.MethodName) jdk_29_method_69_code (2 : Nat) (Option.some Jvm.ClassFile.FieldType.int)).before args0 about1 = true := code_word (m := ⟨16, 2⟩) (meth := k16m2) (c := k16c2) (by decide +kernel) rfl rfl rfl (by decide +kernel)
set_option maxRecDepth 65536 in
theorem w_c26 : (Jvm.Cond.code ({ cls := "java/lang/AbstractStringBuilder", name := "putStringAt", desc := "(ILjava/lang/String;)V" } : Jvm.MethodName) jdk_68_method_73_code (3 : Nat) (Option.none : Option Jvm.ClassFile.FieldType)).before args0 about1 = true := code_word (m := ⟨11, 11⟩) (meth := k11m11) (c := k11c11) (by decide +kernel) rfl rfl rfl (by decide +kernel)
set_option maxRecDepth 65536 in
theorem w_c27 : (Jvm.Cond.code ({ cls := "java/lang/AbstractStringBuilder", name := "inflateIfNeededFor", desc := "(Ljava/lang/String;)V" } : Jvm.MethodName) jdk_68_method_71_code (2 : Nat) (Option.none : Option Jvm.ClassFile.FieldType)).before args0 about1 = true := code_word (m := ⟨11, 10⟩) (meth := k11m10) (c := k11c10) (by decide +kernel) rfl rfl rfl (by decide +kernel)
set_option maxRecDepth 65536 in
theorem w_c28 : (Jvm.Cond.code ({ cls := "java/lang/String", name := "getBytes", desc := "([BIB)V" } : Jvm.MethodName) jdk_42_method_147_code (4 : Nat) (Option.none : Option Jvm.ClassFile.FieldType)).before args0 about1 = true := code_word (m := ⟨7, 6⟩) (meth := k7m6) (c := k7c6) (by decide +kernel) rfl rfl rfl (by decide +kernel)
set_option maxRecDepth 65536 in
theorem w_c29 : (Jvm.Cond.code ({ cls := "java/lang/StringBuilder", name := "toString", desc := "()Ljava/lang/String;" } : Jvm.MethodName) jdk_67_method_42_code (1 : Nat) (Option.some (Jvm.ClassFile.FieldType.object "java/lang/String"))).before args0 about1 = true := code_word (m := ⟨12, 4⟩) (meth := k12m4) (c := k12c4) (by decide +kernel) rfl rfl rfl (by decide +kernel)
set_option maxRecDepth 65536 in
theorem w_c30 : (Jvm.Cond.code ({ cls := "java/lang/String", name := "<init>", desc := "(Ljava/lang/StringBuilder;)V" } : Jvm.MethodName) jdk_42_method_53_code (2 : Nat) (Option.none : Option Jvm.ClassFile.FieldType)).before args0 about1 = true := code_word (m := ⟨7, 2⟩) (meth := k7m2) (c := k7c2) (by decide +kernel) rfl rfl rfl (by decide +kernel)
set_option maxRecDepth 65536 in
theorem w_c31 : (Jvm.Cond.code ({ cls := "java/lang/String", name := "<init>", desc := "(Ljava/lang/AbstractStringBuilder;Ljava/lang/Void;)V" } : Jvm.MethodName) jdk_42_method_150_code (5 : Nat) (Option.none : Option Jvm.ClassFile.FieldType)).before args0 about1 = true := code_word (m := ⟨7, 8⟩) (meth := k7m8) (c := k7c8) (by decide +kernel) rfl rfl rfl (by decide +kernel)
set_option maxRecDepth 65536 in
theorem w_c32 : (Jvm.Cond.code ({ cls := "java/lang/AbstractStringBuilder", name := "getValue", desc := "()[B" } : Jvm.MethodName) jdk_68_method_64_code (1 : Nat) (Option.some (Jvm.ClassFile.FieldType.array Jvm.ClassFile.FieldType.byte))).before args0 about1 = true := code_word (m := ⟨11, 8⟩) (meth := k11m8) (c := k11c8) (by decide +kernel) rfl rfl rfl (by decide +kernel)
set_option maxRecDepth 65536 in
theorem w_c33 : (Jvm.Cond.code ({ cls := "java/lang/StringBuilder", name := "length", desc := "()I" } : Jvm.MethodName) jdk_67_method_93_code (1 : Nat) (Option.some Jvm.ClassFile.FieldType.int)).before args0 about1 = true := code_word (m := ⟨12, 5⟩) (meth := k12m5) (c := k12c5) (by decide +kernel) rfl rfl rfl (by decide +kernel)
set_option maxRecDepth 65536 in
theorem w_c34 : (Jvm.Cond.code ({ cls := "java/lang/AbstractStringBuilder", name := "length", desc := "()I" } : Jvm.MethodName) jdk_68_method_6_code (1 : Nat) (Option.some Jvm.ClassFile.FieldType.int)).before args0 about1 = true := code_word (m := ⟨11, 2⟩) (meth := k11m2) (c := k11c2) (by decide +kernel) rfl rfl rfl (by decide +kernel)
set_option maxRecDepth 65536 in
theorem w_c35 : (Jvm.Cond.code ({ cls := "java/lang/AbstractStringBuilder", name := "isLatin1", desc := "()Z" } : Jvm.MethodName) jdk_68_method_68_code (1 : Nat) (Option.some Jvm.ClassFile.FieldType.boolean)).before args0 about1 = true := code_word (m := ⟨11, 9⟩) (meth := k11m9) (c := k11c9) (by decide +kernel) rfl rfl rfl (by decide +kernel)
set_option maxRecDepth 65536 in
theorem w_c36 : (Jvm.Cond.code ({ cls := "java/util/Arrays", name := "copyOfRange", desc := "([BII)[B" } : Jvm.MethodName) jdk_65_method_132_code (3 : Nat) (Option.some (Jvm.ClassFile.FieldType.array Jvm.ClassFile.FieldType.byte))).before args0 about1 = true := code_word (m := ⟨17, 3⟩) (meth := k17m3) (c := k17c3) (by decide +kernel) rfl rfl rfl (by decide +kernel)
set_option maxRecDepth 65536 in
theorem w_c37 : (Jvm.Cond.code ({ cls := "com/example/carve/carve/http/HtmlEscapePinLaw", name := "piece", desc := "(C)Ljava/lang/String;" } : Jvm.MethodName) method_3_code (1 : Nat) (Option.some (Jvm.ClassFile.FieldType.object "java/lang/String"))).before args0 about1 = true := code_word (m := ⟨1, 2⟩) (meth := k1m2) (c := k1c2) (by decide +kernel) rfl rfl rfl (by decide +kernel)
set_option maxRecDepth 65536 in
theorem w_c38 : (Jvm.Cond.code ({ cls := "com/example/carve/carve/http/HtmlEscapePinLaw", name := "at", desc := "(Ljava/lang/String;ILjava/lang/String;)Z" } : Jvm.MethodName) method_4_code (4 : Nat) (Option.some Jvm.ClassFile.FieldType.boolean)).before args0 about1 = true := code_word (m := ⟨1, 3⟩) (meth := k1m3) (c := k1c3) (by decide +kernel) rfl rfl rfl (by decide +kernel)
set_option maxRecDepth 65536 in
theorem w_c39 : (Jvm.Cond.code ({ cls := "java/lang/StringBuilder", name := "append", desc := "(C)Ljava/lang/StringBuilder;" } : Jvm.MethodName) jdk_67_method_14_code (2 : Nat) (Option.some (Jvm.ClassFile.FieldType.object "java/lang/StringBuilder"))).before args0 about1 = true := code_word (m := ⟨12, 3⟩) (meth := k12m3) (c := k12c3) (by decide +kernel) rfl rfl rfl (by decide +kernel)
set_option maxRecDepth 65536 in
theorem w_c40 : (Jvm.Cond.code ({ cls := "java/lang/AbstractStringBuilder", name := "append", desc := "(C)Ljava/lang/AbstractStringBuilder;" } : Jvm.MethodName) jdk_68_method_31_code (2 : Nat) (Option.some (Jvm.ClassFile.FieldType.object "java/lang/AbstractStringBuilder"))).before args0 about1 = true := code_word (m := ⟨11, 7⟩) (meth := k11m7) (c := k11c7) (by decide +kernel) rfl rfl rfl (by decide +kernel)
set_option maxRecDepth 65536 in
theorem w_c41 : (Jvm.Cond.code ({ cls := "java/lang/StringLatin1", name := "canEncode", desc := "(C)Z" } : Jvm.MethodName) jdk_43_method_3_code (1 : Nat) (Option.some Jvm.ClassFile.FieldType.boolean)).before args0 about1 = true := code_word (m := ⟨13, 2⟩) (meth := k13m2) (c := k13c2) (by decide +kernel) rfl rfl rfl (by decide +kernel)
set_option maxRecDepth 65536 in
theorem w_c42 : (Jvm.Cond.code ({ cls := "java/lang/String", name := "valueOf", desc := "(C)Ljava/lang/String;" } : Jvm.MethodName) jdk_42_method_139_code (1 : Nat) (Option.some (Jvm.ClassFile.FieldType.object "java/lang/String"))).before args0 about1 = true := code_word (m := ⟨7, 5⟩) (meth := k7m5) (c := k7c5) (by decide +kernel) rfl rfl rfl (by decide +kernel)
set_option maxRecDepth 65536 in
theorem w_c43 : (Jvm.Cond.code ({ cls := "java/lang/StringLatin1", name := "toBytes", desc := "(C)[B" } : Jvm.MethodName) jdk_43_method_46_code (1 : Nat) (Option.some (Jvm.ClassFile.FieldType.array Jvm.ClassFile.FieldType.byte))).before args0 about1 = true := code_word (m := ⟨13, 3⟩) (meth := k13m3) (c := k13c3) (by decide +kernel) rfl rfl rfl (by decide +kernel)
set_option maxRecDepth 65536 in
theorem w_c44 : (Jvm.Cond.code ({ cls := "java/lang/String", name := "<init>", desc := "([BB)V" } : Jvm.MethodName) jdk_42_method_151_code (3 : Nat) (Option.none : Option Jvm.ClassFile.FieldType)).before args0 about1 = true := code_word (m := ⟨7, 9⟩) (meth := k7m9) (c := k7c9) (by decide +kernel) rfl rfl rfl (by decide +kernel)
set_option maxRecDepth 65536 in
theorem w_c45 : (Jvm.Cond.code ({ cls := "java/lang/StringUTF16", name := "toBytes", desc := "(C)[B" } : Jvm.MethodName) jdk_52_method_24_code (2 : Nat) (Option.some (Jvm.ClassFile.FieldType.array Jvm.ClassFile.FieldType.byte))).before args0 about1 = true := code_word (m := ⟨8, 10⟩) (meth := k8m10) (c := k8c10) (by decide +kernel) rfl rfl rfl (by decide +kernel)
set_option maxRecDepth 65536 in
theorem w_c46 : (Jvm.Cond.code ({ cls := "java/lang/StringUTF16", name := "putChar", desc := "([BII)V" } : Jvm.MethodName) jdk_52_method_4_code (3 : Nat) (Option.none : Option Jvm.ClassFile.FieldType)).before args0 about1 = true := code_word (m := ⟨8, 3⟩) (meth := k8m3) (c := k8c3) (by decide +kernel) rfl rfl rfl (by decide +kernel)
set_option maxRecDepth 65536 in
theorem w_c47 : (Jvm.Cond.code ({ cls := "java/util/Arrays", name := "copyOfRangeByte", desc := "([BII)[B" } : Jvm.MethodName) jdk_65_method_133_code (5 : Nat) (Option.some (Jvm.ClassFile.FieldType.array Jvm.ClassFile.FieldType.byte))).before args0 about1 = true := code_word (m := ⟨17, 4⟩) (meth := k17m4) (c := k17c4) (by decide +kernel) rfl rfl rfl (by decide +kernel)
set_option maxRecDepth 65536 in
theorem w_c48 : (Jvm.Cond.code ({ cls := "java/util/Arrays", name := "checkLength", desc := "(II)V" } : Jvm.MethodName) jdk_65_method_131_code (2 : Nat) (Option.none : Option Jvm.ClassFile.FieldType)).before args0 about1 = true := code_word (m := ⟨17, 2⟩) (meth := k17m2) (c := k17c2) (by decide +kernel) rfl rfl rfl (by decide +kernel)
set_option maxRecDepth 65536 in
theorem w_c49 : (Jvm.Cond.code ({ cls := "java/lang/StringUTF16", name := "toBytes", desc := "([CII)[B" } : Jvm.MethodName) jdk_52_method_14_code (5 : Nat) (Option.some (Jvm.ClassFile.FieldType.array Jvm.ClassFile.FieldType.byte))).before args0 about1 = true := code_word (m := ⟨8, 6⟩) (meth := k8m6) (c := k8c6) (by decide +kernel) rfl rfl rfl (by decide +kernel)
set_option maxRecDepth 65536 in
theorem w_c50 : (Jvm.Cond.code ({ cls := "java/lang/StringUTF16", name := "newBytesFor", desc := "(I)[B" } : Jvm.MethodName) jdk_52_method_2_code (1 : Nat) (Option.some (Jvm.ClassFile.FieldType.array Jvm.ClassFile.FieldType.byte))).before args0 about1 = true := code_word (m := ⟨8, 1⟩) (meth := k8m1) (c := k8c1) (by decide +kernel) rfl rfl rfl (by decide +kernel)
set_option maxRecDepth 65536 in
theorem w_c51 : (Jvm.Cond.code ({ cls := "java/lang/StringUTF16", name := "newBytesLength", desc := "(I)I" } : Jvm.MethodName) jdk_52_method_3_code (1 : Nat) (Option.some Jvm.ClassFile.FieldType.int)).before args0 about1 = true := code_word (m := ⟨8, 2⟩) (meth := k8m2) (c := k8c2) (by decide +kernel) rfl rfl rfl (by decide +kernel)
set_option maxRecDepth 65536 in
theorem w_c52 : (Jvm.Cond.code ({ cls := "java/lang/StringUTF16", name := "getChar", desc := "([BI)C" } : Jvm.MethodName) jdk_52_method_5_code (2 : Nat) (Option.some Jvm.ClassFile.FieldType.char)).before args0 about1 = true := code_word (m := ⟨8, 4⟩) (meth := k8m4) (c := k8c4) (by decide +kernel) rfl rfl rfl (by decide +kernel)
set_option maxRecDepth 65536 in
theorem w_c53 : (Jvm.Cond.code ({ cls := "java/lang/StringUTF16", name := "charAt", desc := "([BI)C" } : Jvm.MethodName) jdk_52_method_83_code (2 : Nat) (Option.some Jvm.ClassFile.FieldType.char)).before args0 about1 = true := code_word (m := ⟨8, 12⟩) (meth := k8m12) (c := k8c12) (by decide +kernel) rfl rfl rfl (by decide +kernel)
set_option maxRecDepth 65536 in
theorem w_c54 : (Jvm.Cond.code ({ cls := "java/lang/StringUTF16", name := "checkIndex", desc := "(I[B)V" } : Jvm.MethodName) jdk_52_method_91_code (2 : Nat) (Option.none : Option Jvm.ClassFile.FieldType)).before args0 about1 = true := code_word (m := ⟨8, 14⟩) (meth := k8m14) (c := k8c14) (by decide +kernel) rfl rfl rfl (by decide +kernel)
set_option maxRecDepth 65536 in
theorem w_c55 : (Jvm.Cond.code ({ cls := "java/lang/StringUTF16", name := "length", desc := "([B)I" } : Jvm.MethodName) jdk_52_method_6_code (1 : Nat) (Option.some Jvm.ClassFile.FieldType.int)).before args0 about1 = true := code_word (m := ⟨8, 5⟩) (meth := k8m5) (c := k8c5) (by decide +kernel) rfl rfl rfl (by decide +kernel)
set_option maxRecDepth 65536 in
theorem w_c56 : (Jvm.Cond.code ({ cls := "java/lang/AbstractStringBuilder", name := "inflate", desc := "()V" } : Jvm.MethodName) jdk_68_method_11_code (2 : Nat) (Option.none : Option Jvm.ClassFile.FieldType)).before args0 about1 = true := code_word (m := ⟨11, 5⟩) (meth := k11m5) (c := k11c5) (by decide +kernel) rfl rfl rfl (by decide +kernel)
set_option maxRecDepth 65536 in
theorem w_c57 : (Jvm.Cond.code ({ cls := "java/lang/StringLatin1", name := "inflate", desc := "([BI[BII)V" } : Jvm.MethodName) jdk_43_method_50_code (5 : Nat) (Option.none : Option Jvm.ClassFile.FieldType)).before args0 about1 = true := code_word (m := ⟨13, 4⟩) (meth := k13m4) (c := k13c4) (by decide +kernel) rfl rfl rfl (by decide +kernel)
set_option maxRecDepth 65536 in
theorem w_c58 : (Jvm.Cond.code ({ cls := "java/lang/StringUTF16", name := "inflate", desc := "([BI[BII)V" } : Jvm.MethodName) jdk_52_method_86_code (6 : Nat) (Option.none : Option Jvm.ClassFile.FieldType)).before args0 about1 = true := code_word (m := ⟨8, 13⟩) (meth := k8m13) (c := k8c13) (by decide +kernel) rfl rfl rfl (by decide +kernel)
set_option maxRecDepth 65536 in
theorem w_c59 : (Jvm.Cond.code ({ cls := "java/lang/StringUTF16", name := "checkBoundsOffCount", desc := "(II[B)V" } : Jvm.MethodName) jdk_52_method_94_code (3 : Nat) (Option.none : Option Jvm.ClassFile.FieldType)).before args0 about1 = true := code_word (m := ⟨8, 15⟩) (meth := k8m15) (c := k8c15) (by decide +kernel) rfl rfl rfl (by decide +kernel)
set_option maxRecDepth 65536 in
theorem w_c60 : (Jvm.Cond.code ({ cls := "java/lang/String", name := "checkBoundsOffCount", desc := "(III)I" } : Jvm.MethodName) jdk_42_method_157_code (3 : Nat) (Option.some Jvm.ClassFile.FieldType.int)).before args0 about1 = true := code_word (m := ⟨7, 13⟩) (meth := k7m13) (c := k7c13) (by decide +kernel) rfl rfl rfl (by decide +kernel)
set_option maxRecDepth 65536 in
theorem w_c61 : (Jvm.Cond.code ({ cls := "jdk/internal/util/Preconditions", name := "checkFromIndexSize", desc := "(IIILjava/util/function/BiFunction;)I" } : Jvm.MethodName) jdk_41_method_13_code (4 : Nat) (Option.some Jvm.ClassFile.FieldType.int)).before args0 about1 = true := code_word (m := ⟨14, 2⟩) (meth := k14m2) (c := k14c2) (by decide +kernel) rfl rfl rfl (by decide +kernel)
set_option maxRecDepth 65536 in
theorem w_c62 : (Jvm.Cond.code ({ cls := "java/lang/StringUTF16", name := "putCharSB", desc := "([BII)V" } : Jvm.MethodName) jdk_52_method_71_code (3 : Nat) (Option.none : Option Jvm.ClassFile.FieldType)).before args0 about1 = true := code_word (m := ⟨8, 11⟩) (meth := k8m11) (c := k8c11) (by decide +kernel) rfl rfl rfl (by decide +kernel)
def codes1 : List Jvm.Cond := [Jvm.Cond.code x code maxLocals ret, Jvm.Cond.code ({ cls := "com/example/carve/carve/http/HtmlEscapePinLaw", name := "pick", desc := "(I)C" } : Jvm.MethodName) method_2_code (2 : Nat) (Option.some Jvm.ClassFile.FieldType.char), Jvm.Cond.code ({ cls := "java/lang/String", name := "<init>", desc := "([C)V" } : Jvm.MethodName) jdk_42_method_3_code (2 : Nat) (Option.none : Option Jvm.ClassFile.FieldType), Jvm.Cond.code ({ cls := "java/lang/String", name := "<init>", desc := "([CIILjava/lang/Void;)V" } : Jvm.MethodName) jdk_42_method_149_code (6 : Nat) (Option.none : Option Jvm.ClassFile.FieldType), Jvm.Cond.code ({ cls := "java/lang/Object", name := "<init>", desc := "()V" } : Jvm.MethodName) object_method_1_code (1 : Nat) (Option.none : Option Jvm.ClassFile.FieldType), Jvm.Cond.code ({ cls := "java/lang/StringUTF16", name := "compress", desc := "([CII)[B" } : Jvm.MethodName) jdk_52_method_16_code (6 : Nat) (Option.some (Jvm.ClassFile.FieldType.array Jvm.ClassFile.FieldType.byte)), Jvm.Cond.code ({ cls := "java/lang/StringUTF16", name := "compress", desc := "([CI[BII)I" } : Jvm.MethodName) jdk_52_method_21_code (7 : Nat) (Option.some Jvm.ClassFile.FieldType.int), Jvm.Cond.code ({ cls := "java/lang/StringUTF16", name := "coderFromArrayLen", desc := "([BI)B" } : Jvm.MethodName) jdk_52_method_15_code (2 : Nat) (Option.some Jvm.ClassFile.FieldType.byte), Jvm.Cond.code ({ cls := "com/example/carve/carve/http/Html", name := "escape", desc := "(Ljava/lang/String;)Ljava/lang/String;" } : Jvm.MethodName) prog_24_method_8_code (4 : Nat) (Option.some (Jvm.ClassFile.FieldType.object "java/lang/String")), Jvm.Cond.code ({ cls := "java/lang/String", name := "length", desc := "()I" } : Jvm.MethodName) jdk_42_method_54_code (1 : Nat) (Option.some Jvm.ClassFile.FieldType.int), Jvm.Cond.code ({ cls := "java/lang/String", name := "coder", desc := "()B" } : Jvm.MethodName) jdk_42_method_152_code (1 : Nat) (Option.some Jvm.ClassFile.FieldType.byte), Jvm.Cond.code ({ cls := "java/lang/StringBuilder", name := "<init>", desc := "(I)V" } : Jvm.MethodName) jdk_67_method_2_code (2 : Nat) (Option.none : Option Jvm.ClassFile.FieldType), Jvm.Cond.code ({ cls := "java/lang/AbstractStringBuilder", name := "<init>", desc := "(I)V" } : Jvm.MethodName) jdk_68_method_2_code (2 : Nat) (Option.none : Option Jvm.ClassFile.FieldType), Jvm.Cond.code ({ cls := "java/lang/String", name := "charAt", desc := "(I)C" } : Jvm.MethodName) jdk_42_method_56_code (2 : Nat) (Option.some Jvm.ClassFile.FieldType.char), Jvm.Cond.code ({ cls := "java/lang/String", name := "isLatin1", desc := "()Z" } : Jvm.MethodName) jdk_42_method_154_code (1 : Nat) (Option.some Jvm.ClassFile.FieldType.boolean), Jvm.Cond.code ({ cls := "java/lang/StringLatin1", name := "charAt", desc := "([BI)C" } : Jvm.MethodName) jdk_43_method_2_code (2 : Nat) (Option.some Jvm.ClassFile.FieldType.char), Jvm.Cond.code ({ cls := "java/lang/String", name := "checkIndex", desc := "(II)V" } : Jvm.MethodName) jdk_42_method_155_code (2 : Nat) (Option.none : Option Jvm.ClassFile.FieldType), Jvm.Cond.code ({ cls := "jdk/internal/util/Preconditions", name := "checkIndex", desc := "(IILjava/util/function/BiFunction;)I" } : Jvm.MethodName) jdk_41_method_11_code (3 : Nat) (Option.some Jvm.ClassFile.FieldType.int), Jvm.Cond.code ({ cls := "java/lang/StringBuilder", name := "append", desc := "(Ljava/lang/String;)Ljava/lang/StringBuilder;" } : Jvm.MethodName) jdk_67_method_7_code (2 : Nat) (Option.some (Jvm.ClassFile.FieldType.object "java/lang/StringBuilder")), Jvm.Cond.code ({ cls := "java/lang/AbstractStringBuilder", name := "append", desc := "(Ljava/lang/String;)Ljava/lang/AbstractStringBuilder;" } : Jvm.MethodName) jdk_68_method_22_code (3 : Nat) (Option.some (Jvm.ClassFile.FieldType.object "java/lang/AbstractStringBuilder")), Jvm.Cond.code ({ cls := "java/lang/AbstractStringBuilder", name := "ensureCapacityInternal", desc := "(I)V" } : Jvm.MethodName) jdk_68_method_9_code (3 : Nat) (Option.none : Option Jvm.ClassFile.FieldType), Jvm.Cond.code ({ cls := "java/lang/AbstractStringBuilder", name := "newCapacity", desc := "(I)I" } : Jvm.MethodName) jdk_68_method_10_code (6 : Nat) (Option.some Jvm.ClassFile.FieldType.int), Jvm.Cond.code ({ cls := "jdk/internal/util/ArraysSupport", name := "newLength", desc := "(III)I" } : Jvm.MethodName) jdk_48_method_27_code (4 : Nat) (Option.some Jvm.ClassFile.FieldType.int), Jvm.Cond.code ({ cls := "java/lang/Math", name := "max", desc := "(II)I" } : Jvm.MethodName) jdk_29_method_65_code (2 : Nat) (Option.some Jvm.ClassFile.FieldType.int), Jvm.Cond.code ({ cls := "java/util/Arrays", name := "copyOf", desc := "([BI)[B" } : Jvm.MethodName) jdk_65_method_121_code (3 : Nat) (Option.some (Jvm.ClassFile.FieldType.array Jvm.ClassFile.FieldType.byte)), Jvm.Cond.code ({ cls := "java/lang/Math", name := "min", desc := "(II)I" } : Jvm.MethodName) jdk_29_method_69_code (2 : Nat) (Option.some Jvm.ClassFile.FieldType.int), Jvm.Cond.code ({ cls := "java/lang/AbstractStringBuilder", name := "putStringAt", desc := "(ILjava/lang/String;)V" } : Jvm.MethodName) jdk_68_method_73_code (3 : Nat) (Option.none : Option Jvm.ClassFile.FieldType), Jvm.Cond.code ({ cls := "java/lang/AbstractStringBuilder", name := "inflateIfNeededFor", desc := "(Ljava/lang/String;)V" } : Jvm.MethodName) jdk_68_method_71_code (2 : Nat) (Option.none : Option Jvm.ClassFile.FieldType), Jvm.Cond.code ({ cls := "java/lang/String", name := "getBytes", desc := "([BIB)V" } : Jvm.MethodName) jdk_42_method_147_code (4 : Nat) (Option.none : Option Jvm.ClassFile.FieldType), Jvm.Cond.code ({ cls := "java/lang/StringBuilder", name := "toString", desc := "()Ljava/lang/String;" } : Jvm.MethodName) jdk_67_method_42_code (1 : Nat) (Option.some (Jvm.ClassFile.FieldType.object "java/lang/String")), Jvm.Cond.code ({ cls := "java/lang/String", name := "<init>", desc := "(Ljava/lang/StringBuilder;)V" } : Jvm.MethodName) jdk_42_method_53_code (2 : Nat) (Option.none : Option Jvm.ClassFile.FieldType), Jvm.Cond.code ({ cls := "java/lang/String", name := "<init>", desc := "(Ljava/lang/AbstractStringBuilder;Ljava/lang/Void;)V" } : Jvm.MethodName) jdk_42_method_150_code (5 : Nat) (Option.none : Option Jvm.ClassFile.FieldType), Jvm.Cond.code ({ cls := "java/lang/AbstractStringBuilder", name := "getValue", desc := "()[B" } : Jvm.MethodName) jdk_68_method_64_code (1 : Nat) (Option.some (Jvm.ClassFile.FieldType.array Jvm.ClassFile.FieldType.byte)), Jvm.Cond.code ({ cls := "java/lang/StringBuilder", name := "length", desc := "()I" } : Jvm.MethodName) jdk_67_method_93_code (1 : Nat) (Option.some Jvm.ClassFile.FieldType.int), Jvm.Cond.code ({ cls := "java/lang/AbstractStringBuilder", name := "length", desc := "()I" } : Jvm.MethodName) jdk_68_method_6_code (1 : Nat) (Option.some Jvm.ClassFile.FieldType.int), Jvm.Cond.code ({ cls := "java/lang/AbstractStringBuilder", name := "isLatin1", desc := "()Z" } : Jvm.MethodName) jdk_68_method_68_code (1 : Nat) (Option.some Jvm.ClassFile.FieldType.boolean), Jvm.Cond.code ({ cls := "java/util/Arrays", name := "copyOfRange", desc := "([BII)[B" } : Jvm.MethodName) jdk_65_method_132_code (3 : Nat) (Option.some (Jvm.ClassFile.FieldType.array Jvm.ClassFile.FieldType.byte)), Jvm.Cond.code ({ cls := "com/example/carve/carve/http/HtmlEscapePinLaw", name := "piece", desc := "(C)Ljava/lang/String;" } : Jvm.MethodName) method_3_code (1 : Nat) (Option.some (Jvm.ClassFile.FieldType.object "java/lang/String")), Jvm.Cond.code ({ cls := "com/example/carve/carve/http/HtmlEscapePinLaw", name := "at", desc := "(Ljava/lang/String;ILjava/lang/String;)Z" } : Jvm.MethodName) method_4_code (4 : Nat) (Option.some Jvm.ClassFile.FieldType.boolean), Jvm.Cond.code ({ cls := "java/lang/StringBuilder", name := "append", desc := "(C)Ljava/lang/StringBuilder;" } : Jvm.MethodName) jdk_67_method_14_code (2 : Nat) (Option.some (Jvm.ClassFile.FieldType.object "java/lang/StringBuilder")), Jvm.Cond.code ({ cls := "java/lang/AbstractStringBuilder", name := "append", desc := "(C)Ljava/lang/AbstractStringBuilder;" } : Jvm.MethodName) jdk_68_method_31_code (2 : Nat) (Option.some (Jvm.ClassFile.FieldType.object "java/lang/AbstractStringBuilder")), Jvm.Cond.code ({ cls := "java/lang/StringLatin1", name := "canEncode", desc := "(C)Z" } : Jvm.MethodName) jdk_43_method_3_code (1 : Nat) (Option.some Jvm.ClassFile.FieldType.boolean), Jvm.Cond.code ({ cls := "java/lang/String", name := "valueOf", desc := "(C)Ljava/lang/String;" } : Jvm.MethodName) jdk_42_method_139_code (1 : Nat) (Option.some (Jvm.ClassFile.FieldType.object "java/lang/String")), Jvm.Cond.code ({ cls := "java/lang/StringLatin1", name := "toBytes", desc := "(C)[B" } : Jvm.MethodName) jdk_43_method_46_code (1 : Nat) (Option.some (Jvm.ClassFile.FieldType.array Jvm.ClassFile.FieldType.byte)), Jvm.Cond.code ({ cls := "java/lang/String", name := "<init>", desc := "([BB)V" } : Jvm.MethodName) jdk_42_method_151_code (3 : Nat) (Option.none : Option Jvm.ClassFile.FieldType), Jvm.Cond.code ({ cls := "java/lang/StringUTF16", name := "toBytes", desc := "(C)[B" } : Jvm.MethodName) jdk_52_method_24_code (2 : Nat) (Option.some (Jvm.ClassFile.FieldType.array Jvm.ClassFile.FieldType.byte)), Jvm.Cond.code ({ cls := "java/lang/StringUTF16", name := "putChar", desc := "([BII)V" } : Jvm.MethodName) jdk_52_method_4_code (3 : Nat) (Option.none : Option Jvm.ClassFile.FieldType), Jvm.Cond.code ({ cls := "java/util/Arrays", name := "copyOfRangeByte", desc := "([BII)[B" } : Jvm.MethodName) jdk_65_method_133_code (5 : Nat) (Option.some (Jvm.ClassFile.FieldType.array Jvm.ClassFile.FieldType.byte)), Jvm.Cond.code ({ cls := "java/util/Arrays", name := "checkLength", desc := "(II)V" } : Jvm.MethodName) jdk_65_method_131_code (2 : Nat) (Option.none : Option Jvm.ClassFile.FieldType), Jvm.Cond.code ({ cls := "java/lang/StringUTF16", name := "toBytes", desc := "([CII)[B" } : Jvm.MethodName) jdk_52_method_14_code (5 : Nat) (Option.some (Jvm.ClassFile.FieldType.array Jvm.ClassFile.FieldType.byte)), Jvm.Cond.code ({ cls := "java/lang/StringUTF16", name := "newBytesFor", desc := "(I)[B" } : Jvm.MethodName) jdk_52_method_2_code (1 : Nat) (Option.some (Jvm.ClassFile.FieldType.array Jvm.ClassFile.FieldType.byte)), Jvm.Cond.code ({ cls := "java/lang/StringUTF16", name := "newBytesLength", desc := "(I)I" } : Jvm.MethodName) jdk_52_method_3_code (1 : Nat) (Option.some Jvm.ClassFile.FieldType.int), Jvm.Cond.code ({ cls := "java/lang/StringUTF16", name := "getChar", desc := "([BI)C" } : Jvm.MethodName) jdk_52_method_5_code (2 : Nat) (Option.some Jvm.ClassFile.FieldType.char), Jvm.Cond.code ({ cls := "java/lang/StringUTF16", name := "charAt", desc := "([BI)C" } : Jvm.MethodName) jdk_52_method_83_code (2 : Nat) (Option.some Jvm.ClassFile.FieldType.char), Jvm.Cond.code ({ cls := "java/lang/StringUTF16", name := "checkIndex", desc := "(I[B)V" } : Jvm.MethodName) jdk_52_method_91_code (2 : Nat) (Option.none : Option Jvm.ClassFile.FieldType), Jvm.Cond.code ({ cls := "java/lang/StringUTF16", name := "length", desc := "([B)I" } : Jvm.MethodName) jdk_52_method_6_code (1 : Nat) (Option.some Jvm.ClassFile.FieldType.int), Jvm.Cond.code ({ cls := "java/lang/AbstractStringBuilder", name := "inflate", desc := "()V" } : Jvm.MethodName) jdk_68_method_11_code (2 : Nat) (Option.none : Option Jvm.ClassFile.FieldType), Jvm.Cond.code ({ cls := "java/lang/StringLatin1", name := "inflate", desc := "([BI[BII)V" } : Jvm.MethodName) jdk_43_method_50_code (5 : Nat) (Option.none : Option Jvm.ClassFile.FieldType), Jvm.Cond.code ({ cls := "java/lang/StringUTF16", name := "inflate", desc := "([BI[BII)V" } : Jvm.MethodName) jdk_52_method_86_code (6 : Nat) (Option.none : Option Jvm.ClassFile.FieldType), Jvm.Cond.code ({ cls := "java/lang/StringUTF16", name := "checkBoundsOffCount", desc := "(II[B)V" } : Jvm.MethodName) jdk_52_method_94_code (3 : Nat) (Option.none : Option Jvm.ClassFile.FieldType), Jvm.Cond.code ({ cls := "java/lang/String", name := "checkBoundsOffCount", desc := "(III)I" } : Jvm.MethodName) jdk_42_method_157_code (3 : Nat) (Option.some Jvm.ClassFile.FieldType.int), Jvm.Cond.code ({ cls := "jdk/internal/util/Preconditions", name := "checkFromIndexSize", desc := "(IIILjava/util/function/BiFunction;)I" } : Jvm.MethodName) jdk_41_method_13_code (4 : Nat) (Option.some Jvm.ClassFile.FieldType.int), Jvm.Cond.code ({ cls := "java/lang/StringUTF16", name := "putCharSB", desc := "([BII)V" } : Jvm.MethodName) jdk_52_method_71_code (3 : Nat) (Option.none : Option Jvm.ClassFile.FieldType)]
set_option maxRecDepth 65536 in
theorem codes_eq : words1.filter isCode = codes1 := rfl
theorem w_codes : ∀ c ∈ words1.filter isCode, c.before args0 about1 = true := by
  rw [codes_eq]
  intro c hc
  simp only [codes1, List.mem_cons, List.not_mem_nil, or_false] at hc
  rcases hc with rfl | rfl | rfl | rfl | rfl | rfl | rfl | rfl | rfl | rfl | rfl | rfl | rfl | rfl | rfl | rfl | rfl | rfl | rfl | rfl | rfl | rfl | rfl | rfl | rfl | rfl | rfl | rfl | rfl | rfl | rfl | rfl | rfl | rfl | rfl | rfl | rfl | rfl | rfl | rfl | rfl | rfl | rfl | rfl | rfl | rfl | rfl | rfl | rfl | rfl | rfl | rfl | rfl | rfl | rfl | rfl | rfl | rfl | rfl | rfl | rfl | rfl | rfl
  · exact w_c0
  · exact w_c1
  · exact w_c2
  · exact w_c3
  · exact w_c4
  · exact w_c5
  · exact w_c6
  · exact w_c7
  · exact w_c8
  · exact w_c9
  · exact w_c10
  · exact w_c11
  · exact w_c12
  · exact w_c13
  · exact w_c14
  · exact w_c15
  · exact w_c16
  · exact w_c17
  · exact w_c18
  · exact w_c19
  · exact w_c20
  · exact w_c21
  · exact w_c22
  · exact w_c23
  · exact w_c24
  · exact w_c25
  · exact w_c26
  · exact w_c27
  · exact w_c28
  · exact w_c29
  · exact w_c30
  · exact w_c31
  · exact w_c32
  · exact w_c33
  · exact w_c34
  · exact w_c35
  · exact w_c36
  · exact w_c37
  · exact w_c38
  · exact w_c39
  · exact w_c40
  · exact w_c41
  · exact w_c42
  · exact w_c43
  · exact w_c44
  · exact w_c45
  · exact w_c46
  · exact w_c47
  · exact w_c48
  · exact w_c49
  · exact w_c50
  · exact w_c51
  · exact w_c52
  · exact w_c53
  · exact w_c54
  · exact w_c55
  · exact w_c56
  · exact w_c57
  · exact w_c58
  · exact w_c59
  · exact w_c60
  · exact w_c61
  · exact w_c62
set_option maxRecDepth 65536 in
theorem w_t1 : (words1.take 24).all (fun c => isCode c || c.before args0 about1) = true := by decide +kernel
set_option maxRecDepth 65536 in
theorem w_t2 : ((words1.drop 24).take 24).all (fun c => isCode c || c.before args0 about1) = true := by decide +kernel
set_option maxRecDepth 65536 in
theorem w_t3 : (((words1.drop 24).drop 24).take 24).all (fun c => isCode c || c.before args0 about1) = true := by decide +kernel
set_option maxRecDepth 65536 in
theorem w_t4 : ((((words1.drop 24).drop 24).drop 24).take 24).all (fun c => isCode c || c.before args0 about1) = true := by decide +kernel
set_option maxRecDepth 65536 in
theorem w_t5 : (((((words1.drop 24).drop 24).drop 24).drop 24).take 24).all (fun c => isCode c || c.before args0 about1) = true := by decide +kernel
set_option maxRecDepth 65536 in
theorem w_t6 : ((((((words1.drop 24).drop 24).drop 24).drop 24).drop 24).take 24).all (fun c => isCode c || c.before args0 about1) = true := by decide +kernel
set_option maxRecDepth 65536 in
theorem w_t7 : (((((((words1.drop 24).drop 24).drop 24).drop 24).drop 24).drop 24).take 24).all (fun c => isCode c || c.before args0 about1) = true := by decide +kernel
set_option maxRecDepth 65536 in
theorem w_t8 : ((((((((words1.drop 24).drop 24).drop 24).drop 24).drop 24).drop 24).drop 24).take 24).all (fun c => isCode c || c.before args0 about1) = true := by decide +kernel
set_option maxRecDepth 65536 in
theorem w_t9 : (((((((((words1.drop 24).drop 24).drop 24).drop 24).drop 24).drop 24).drop 24).drop 24).take 24).all (fun c => isCode c || c.before args0 about1) = true := by decide +kernel
set_option maxRecDepth 65536 in
theorem w_t10 : ((((((((((words1.drop 24).drop 24).drop 24).drop 24).drop 24).drop 24).drop 24).drop 24).drop 24).take 24).all (fun c => isCode c || c.before args0 about1) = true := by decide +kernel
set_option maxRecDepth 65536 in
theorem w_t11 : (((((((((((words1.drop 24).drop 24).drop 24).drop 24).drop 24).drop 24).drop 24).drop 24).drop 24).drop 24).take 24).all (fun c => isCode c || c.before args0 about1) = true := by decide +kernel
set_option maxRecDepth 65536 in
theorem w_t12 : ((((((((((((words1.drop 24).drop 24).drop 24).drop 24).drop 24).drop 24).drop 24).drop 24).drop 24).drop 24).drop 24).take 24).all (fun c => isCode c || c.before args0 about1) = true := by decide +kernel
set_option maxRecDepth 65536 in
theorem w_t13 : ((((((((((((words1.drop 24).drop 24).drop 24).drop 24).drop 24).drop 24).drop 24).drop 24).drop 24).drop 24).drop 24).drop 24).all (fun c => isCode c || c.before args0 about1) = true := by decide +kernel
theorem w_tables : (allAtoms (Jvm.Cond.code x code maxLocals ret :: tables_1)).before args0 about1 = true := by
  rw [allAtoms_all]
  show words1.all (fun c => c.before args0 about1) = true
  refine all_split ?_ w_codes
  rw [← List.take_append_drop 24 words1, List.all_append, w_t1, ← List.take_append_drop 24 (words1.drop 24), List.all_append, w_t2, ← List.take_append_drop 24 ((words1.drop 24).drop 24), List.all_append, w_t3, ← List.take_append_drop 24 (((words1.drop 24).drop 24).drop 24), List.all_append, w_t4, ← List.take_append_drop 24 ((((words1.drop 24).drop 24).drop 24).drop 24), List.all_append, w_t5, ← List.take_append_drop 24 (((((words1.drop 24).drop 24).drop 24).drop 24).drop 24), List.all_append, w_t6, ← List.take_append_drop 24 ((((((words1.drop 24).drop 24).drop 24).drop 24).drop 24).drop 24), List.all_append, w_t7, ← List.take_append_drop 24 (((((((words1.drop 24).drop 24).drop 24).drop 24).drop 24).drop 24).drop 24), List.all_append, w_t8, ← List.take_append_drop 24 ((((((((words1.drop 24).drop 24).drop 24).drop 24).drop 24).drop 24).drop 24).drop 24), List.all_append, w_t9, ← List.take_append_drop 24 (((((((((words1.drop 24).drop 24).drop 24).drop 24).drop 24).drop 24).drop 24).drop 24).drop 24), List.all_append, w_t10, ← List.take_append_drop 24 ((((((((((words1.drop 24).drop 24).drop 24).drop 24).drop 24).drop 24).drop 24).drop 24).drop 24).drop 24), List.all_append, w_t11, ← List.take_append_drop 24 (((((((((((words1.drop 24).drop 24).drop 24).drop 24).drop 24).drop 24).drop 24).drop 24).drop 24).drop 24).drop 24), List.all_append, w_t12, w_t13]
  rfl
set_option maxRecDepth 65536 in
theorem w_rest : rest_1_c.before args0 about1 = true := by decide +kernel
set_option maxRecDepth 65536 in
theorem w_case : (Jvm.Cond.and given_1 narrow_1).before args0 about1 = true := by decide +kernel
set_option maxRecDepth 65536 in
theorem w_consts : constsHeld consts_1 about1 := Jvm.Lit.constsHeldB_iff.mp (by decide +kernel)
theorem w_applies : (headSpec (Jvm.Cond.code x code maxLocals ret :: tables_1) room_1).applies x e0.platform about1 = true :=
  (Spec.applies_iff w_frames).mpr ⟨w_running, w_runnable, w_alone, w_named, w_hears, w_ripe, w_room, w_tables⟩
theorem atStart : AtStart classFile x code maxLocals ret World_1 tables_1 room_1 Calls_1 rest_1 Pre_1 launch0 p0 e0 about1 theMethod args0 below0 :=
  ⟨lists_1, trivial, launch0.admits_env _ _ _, launch0.least_env, fairChoices_fair.cas, fairChoices_fair.clock, w_frames, w_args, w_heap, w_applies, ⟨w_consts, trivial⟩, w_rest, w_case⟩
end start1
theorem witness_1 : WitnessClaimed_1 := ⟨start1.p0, start1.e0, start1.about1, start1.theMethod, start1.args0, start1.below0, start1.atStart⟩
end Jvm.Pilot.@@N@@
