import JvmDerived
import JvmDerived.Pilot.@@N@@Statement
import JvmDerived.Pilot.@@N@@Code
set_option linter.unusedVariables false
set_option linter.unusedSimpArgs false
namespace Jvm.RoadKit
theorem Old.own_le {Z : State} {h : Heap} {n0 : Nat} (O : Old Z n0 h) : n0 ≤ h.size := O.1 ▸ O.2.1
end Jvm.RoadKit
namespace Jvm.OwnKit
open Sem ClassFile Op Lib Jvm.Stand Jvm.Free Jvm.LawKit Jvm.RoadKit
section Kit
variable {p : Program} {l : Launch} {e : Env} {R : Room} {s : State} {m : MethodId} {args : Array Value} {below : List Frame} {meth : Method} {c : Code} {T : State} {locs : List Loc} {cells slots : Nat} {Z : State} {a0 : Array Value} {h h0 : Heap} {Q : Option Value → Heap → List Loc → Prop} {k n : Nat}
/-- from the state A on the body comes to its end; Q says what it leaves -/
def FinP (p : Program) (e : Env) (below : List Frame) (s : State) (Q : Option Value → Heap → List Loc → Prop) (k n : Nat) (A : State) : Prop :=
  ∃ s₂ o, Steps p.tables e below A s₂ ∧ s₂.status = .running ∧ Ended s₂ below o ∧ ∃ v L, o = .returned v ∧ Q v s₂.heap L ∧ FrameEnd s o s₂ L k n
theorem FinP.st {A B : State} (hs : ∀ t, Steps p.tables e below B t → Steps p.tables e below A t) (f : FinP p e below s Q k n B) : FinP p e below s Q k n A := by
  obtain ⟨s2, o, h1, r⟩ := f; exact ⟨s2, o, hs _ h1, r⟩
/-- the contract of a body: called with as at the heap h0 -/
abbrev Con (l : Launch) (Z : State) (h0 : Heap) (x : MethodName) (bytes : ByteArray) (maxL : Nat) (ret : Option FieldType) (ws : List Cond) (rm : Room) (as : Array Value) (Q : Option Value → Heap → List Loc → Prop) : Prop :=
  MetFree l x (head1 (Cond.code x bytes maxL ret :: ws) rm) (fun a U => a = as ∧ Z.Warmed39 U.vm ∧ U.heap = h0) (fun _ _ _ _ _ => True) (fun _ U o U' => ∃ v L, o = .returned v ∧ Q v U'.heap L ∧ FrameEnd U o U' L rm.cells rm.slots)
theorem Con.of {x : MethodName} {bytes : ByteArray} {maxL : Nat} {ret : Option FieldType} {ws : List Cond} {rm : Room} {as : Array Value} (hn : plainFor x = true) {f0 : MethodId → JFrame} (hf0 : ∀ m, entryFrame m as maxL = f0 m)
    (body : ∀ (p : Program) (e : Env) (s : State) (m : MethodId) (below : List Frame) (meth : Method) (c : Code) (T : State), p.tables.exec = Jvm.exec → c.code = bytes → c.maxLocals = maxL → s.vm.findClass x.cls = some m.cls → meth.name = x.name → meth.sig.returnType = ret → meth.locks = false → Z.Warmed39 s.vm →
      Stand p l e rm s m as below meth c T [] 0 0 → T.heap = h0 → FinP p e below s Q rm.cells rm.slots (T.setTop (f0 m))) : Con l Z h0 x bytes maxL ret ws rm as Q := by
  refine MetFree.of_bodySF hn hisR ?_
  intro p e s m args below meth c s₁ Bd hml0 hP hK
  obtain ⟨rfl, hZ, hh⟩ := hP
  have X0 : Stand p l e rm s m args below meth c s₁ [] 0 0 := Stand.of_body Bd
  have e0 : s₁.heap = h0 := by rw [← hh, Bd.state]; rfl
  have q := body p e s m below meth c s₁ Bd.exec Bd.bytes hml0 (findClass_of_methodNamed Bd.named) (name_of_methodNamed Bd.named Bd.method).1 Bd.returns (BodyLoose.notSynchronized Bd) hZ X0 e0
  rw [hf0 m]
  exact q
/-- a paid call -/
abbrev Pay (l : Launch) (R : Room) (p : Program) (e : Env) (below : List Frame) (s : State) (args : Array Value) (y : MethodName) (len W : Nat) (as : Array Value) (h : Heap) (rc rs : Nat) (Q : Option Value → Heap → List Loc → Prop) : Prop :=
  Back l R p e below s args y len W (fun A a => a = as ∧ A.U.heap = h ∧ A.cells + rc ≤ R.cells ∧ A.slots + rs ≤ R.slots) (fun A _ v B => ∃ L, Q v B.U.heap L ∧ B.locs = A.locs ++ L ∧ B.cells = A.cells + rc ∧ B.slots = A.slots + rs)
theorem Con.pay {y : MethodName} {bytes : ByteArray} {maxL : Nat} {ret : Option FieldType} {rm : Room} {len W : Nat} {as : Array Value} (hM : Con l Z h y bytes maxL ret [] rm as Q)
    (hZ : Z.Warmed39 s.vm) (wc : (Cond.code y bytes maxL ret).before a0 Z = true) (wz : (Cond.initialized y.cls).before a0 Z = true) (hf : rm.frames + 1 ≤ R.frames) (hl : W + (maxL + 11) + rm.locals ≤ R.locals) : Pay l R p e below s args y len W as h rm.cells rm.slots Q :=
  backOf hM hZ wc wz hf hl
theorem goI (X : Stand p l e R s m args below meth c T locs cells slots) (hx : p.tables.exec = Jvm.exec) (hZ : Z.Warmed39 s.vm) {own : String} (hown : s.vm.findClass own = some m.cls) {index : Nat} {y : MethodName} (hy1 : y.name = "<init>") (w1 : (Cond.methodLink own index y).before a0 Z = true) (w2 : (Cond.instanceMethod y).before a0 Z = true)
    {bytes : ByteArray} {maxL : Nat} (w3 : (Cond.code y bytes maxL none).before a0 Z = true) (hy : y.cls ≠ "java/lang/invoke/MethodHandle" ∧ y.cls ≠ "java/lang/invoke/VarHandle") {W rc rs : Nat} {as : Array Value} (hK : Pay l R p e below s args y 3 W as h rc rs Q) (eT : T.heap = h)
    {g : JFrame} (hg : g.method = m) (hsize : g.locals.size = c.maxLocals) {a : Addr} (argsL rest : List Value) (hlen : ∀ sig, parseMethodDescriptor y.desc = some sig → argsL.length = sig.parameters.length) (hstack : g.stack = argsL.reverse ++ .ref a :: rest) (hW : 2 * g.monitorRoom + (rest.map fun v => v.category).sum ≤ W)
    (hdg : decode c.code g.pc = .ok (.invokespecial index, 3)) (has : (Value.ref a :: argsL).toArray = as) (hc : cells + rc ≤ R.cells) (hs : slots + rs ≤ R.slots) :
    ∃ (v : Option Value) (T' : State) (h' : Heap) (L : List Loc), Stand p l e R s m args below meth c T' (locs ++ L) (cells + rc) (slots + rs) ∧ T'.heap = h' ∧ Q v h' L ∧ ∀ t, Steps p.tables e below (T'.setTop { g with pc := g.pc + 3, stack := v.toList ++ rest }) t → Steps p.tables e below (T.setTop g) t := by
  obtain ⟨v, _, ⟨T', L', k', n'⟩, -, X', ⟨L, hQ, l1, y1, z1⟩, st⟩ := X.specialBack hx hy1 hown (mvT hZ w1) (mvT hZ w2) (mvT hZ w3) hy hK hg hsize (Steps.refl _) hlen hstack hW hdg (fun _ _ => ⟨has, eT, hc, hs⟩)
  dsimp only [Pt.U, Pt.locs, Pt.cells, Pt.slots] at X' l1 y1 z1 st hQ
  subst l1 y1 z1
  exact ⟨v, T', _, L, X', rfl, hQ, fun t q => st.trans q⟩
theorem goV (X : Stand p l e R s m args below meth c T locs cells slots) (hx : p.tables.exec = Jvm.exec) (hZ : Z.Warmed39 s.vm) {own : String} (hown : s.vm.findClass own = some m.cls) {index : Nat} {C : String} {y z : MethodName} (w1 : (Cond.methodLink own index y).before a0 Z = true) (w2 : (Cond.declares y).before a0 Z = true)
    (w3 : (Cond.selects C y z).before a0 Z = true) (nf : NotFace s y) (w4 : (Cond.instanceMethod z).before a0 Z = true) (hy : y.cls ≠ "java/lang/invoke/MethodHandle" ∧ y.cls ≠ "java/lang/invoke/VarHandle") {W rc rs : Nat} {as : Array Value} (hK : Pay l R p e below s args z 3 W as h rc rs Q) (eT : T.heap = h) {a : Addr} (E : Exa Z h a C)
    {g : JFrame} (hg : g.method = m) (hsize : g.locals.size = c.maxLocals) (argsL rest : List Value) (hlen : ∀ sig, parseMethodDescriptor y.desc = some sig → argsL.length = sig.parameters.length) (hstack : g.stack = argsL.reverse ++ .ref a :: rest) (hW : 2 * g.monitorRoom + (rest.map fun v => v.category).sum ≤ W)
    (hdg : decode c.code g.pc = .ok (.invokevirtual index, 3)) (has : (Value.ref a :: argsL).toArray = as) (hc : cells + rc ≤ R.cells) (hs : slots + rs ≤ R.slots) :
    ∃ (v : Option Value) (T' : State) (h' : Heap) (L : List Loc), Stand p l e R s m args below meth c T' (locs ++ L) (cells + rc) (slots + rs) ∧ T'.heap = h' ∧ Q v h' L ∧ ∀ t, Steps p.tables e below (T'.setTop { g with pc := g.pc + 3, stack := v.toList ++ rest }) t → Steps p.tables e below (T.setTop g) t := by
  obtain ⟨cB, kB, q1, -, q3⟩ := isOf hZ eT E
  obtain ⟨v, _, ⟨T', L', k', n'⟩, -, X', ⟨L, hQ, l1, y1, z1⟩, st⟩ := X.virtualBack hx hown (mvT hZ w1) (mvT hZ w2) nf (mvT hZ w3) (mvT hZ w4) hy hK q1 q3 hg hsize (Steps.refl _) hlen hstack hW hdg (fun _ _ => ⟨has, eT, hc, hs⟩)
  dsimp only [Pt.U, Pt.locs, Pt.cells, Pt.slots] at X' l1 y1 z1 st hQ
  subst l1 y1 z1
  exact ⟨v, T', _, L, X', rfl, hQ, fun t q => st.trans q⟩
theorem goS (X : Stand p l e R s m args below meth c T locs cells slots) (hx : p.tables.exec = Jvm.exec) (hZ : Z.Warmed39 s.vm) {own : String} (hown : s.vm.findClass own = some m.cls) {index : Nat} {y : MethodName} (w1 : (Cond.methodLink own index y).before a0 Z = true) (w2 : (Cond.static y).before a0 Z = true) (w3 : (Cond.initialized y.cls).before a0 Z = true)
    {bytes : ByteArray} {maxL : Nat} {ret : Option FieldType} (w4 : (Cond.code y bytes maxL ret).before a0 Z = true) (hy : y.cls ≠ "java/lang/invoke/MethodHandle" ∧ y.cls ≠ "java/lang/invoke/VarHandle") {W rc rs : Nat} {as : Array Value} (hK : Pay l R p e below s args y 3 W as h rc rs Q) (eT : T.heap = h)
    {g : JFrame} (hg : g.method = m) (hsize : g.locals.size = c.maxLocals) (argsL rest : List Value) (hlen : ∀ sig, parseMethodDescriptor y.desc = some sig → argsL.length = sig.parameters.length) (hstack : g.stack = argsL.reverse ++ rest) (hW : 2 * g.monitorRoom + (rest.map fun v => v.category).sum ≤ W)
    (hdg : decode c.code g.pc = .ok (.invokestatic index, 3)) (has : argsL.toArray = as) (hc : cells + rc ≤ R.cells) (hs : slots + rs ≤ R.slots) :
    ∃ (v : Option Value) (T' : State) (h' : Heap) (L : List Loc), Stand p l e R s m args below meth c T' (locs ++ L) (cells + rc) (slots + rs) ∧ T'.heap = h' ∧ Q v h' L ∧ ∀ t, Steps p.tables e below (T'.setTop { g with pc := g.pc + 3, stack := v.toList ++ rest }) t → Steps p.tables e below (T.setTop g) t := by
  obtain ⟨v, _, ⟨T', L', k', n'⟩, -, X', ⟨L, hQ, l1, y1, z1⟩, st⟩ := Jvm.LawKit.callS X hx hown (mvT hZ w1) (mvT hZ w2) (mvT hZ w3) (mvT hZ w4) hy hK hg hsize hlen hstack hW hdg (fun _ _ => ⟨has, eT, hc, hs⟩)
  dsimp only [Pt.U, Pt.locs, Pt.cells, Pt.slots] at X' l1 y1 z1 st hQ
  subst l1 y1 z1
  exact ⟨v, T', _, L, X', rfl, hQ, st⟩
/-! the ends of a body -/
theorem fin_of (X : Stand p l e R s m args below meth c T locs cells slots) (hlk : meth.locks = false) {v : Option Value} (hv : meth.sig.returnType = none → v = none) {A : State} (eT : T.heap = h) (q : Q v h locs) (hc : cells ≤ k) (hs : slots ≤ n)
    (hst : ∀ fs, (∀ (f : JFrame) (acts : List Action), f.method = m → f.locked = none → f.entered = [] → (doReturn e (T.setTop f) acts v).1 = T.setFrames fs) → Steps p.tables e below A (T.setFrames fs)) : FinP p e below s Q k n A := by
  obtain ⟨fs, hr, hrun, hended, hW, hsame⟩ := X.leave (v := v) hv hlk
  refine ⟨_, _, hst fs hr, hrun, hended, v, locs, rfl, ?_, ⟨_, rfl⟩, hW, hsame.mono hc hs⟩
  show Q v T.heap locs
  rw [eT]; exact q
theorem finV (X : Stand p l e R s m args below meth c T locs cells slots) (hx : p.tables.exec = Jvm.exec) (hlk : meth.locks = false) (hret : meth.sig.returnType = none) {pc : Nat} {Ls : Array Slot} (hd : decode c.code pc = .ok (.return_, 1)) (eT : T.heap = h) (q : Q none h locs) (hc : cells ≤ k) (hs : slots ≤ n) : FinP p e below s Q k n (T.setTop (mkF m pc Ls [])) :=
  fin_of X hlk (fun _ => rfl) eT q hc hs fun fs hr => X.returnOut hx hret hd hr
theorem finO (X : Stand p l e R s m args below meth c T locs cells slots) (hx : p.tables.exec = Jvm.exec) (hlk : meth.locks = false) {t : FieldType} {w : Value} {i : Instr} {rest : List Value} (hret : meth.sig.returnType = some t) (hn : narrow t w = w)
    (hi : (i = .ireturn ∧ (t = .int ∨ t = .boolean ∨ t = .byte ∨ t = .char ∨ t = .short) ∧ ∃ z, w = .int z) ∨ (i = .lreturn ∧ t = .long ∧ ∃ z, w = .long z) ∨ (i = .dreturn ∧ t = .double ∧ ∃ z, w = .double z) ∨ (i = .freturn ∧ t = .float ∧ ∃ z, w = .float z) ∨ (i = .areturn ∧ t.isReference = true ∧ w.isRef = true))
    {pc : Nat} {Ls : Array Slot} (hd : decode c.code pc = .ok (i, 1)) (eT : T.heap = h) (q : Q (some w) h locs) (hc : cells ≤ k) (hs : slots ≤ n) : FinP p e below s Q k n (T.setTop (mkF m pc Ls (w :: rest))) :=
  fin_of X hlk (fun hq => by rw [hret] at hq; cases hq) eT q hc hs fun fs hr => retOut X hx hret hn hi hd hr
theorem finI (X : Stand p l e R s m args below meth c T locs cells slots) (hx : p.tables.exec = Jvm.exec) (hlk : meth.locks = false) {z : Int32} {rest : List Value} (hret : meth.sig.returnType = some .int) {pc : Nat} {Ls : Array Slot} (hd : decode c.code pc = .ok (.ireturn, 1)) (eT : T.heap = h) (q : Q (some (.int z)) h locs) (hc : cells ≤ k) (hs : slots ≤ n) : FinP p e below s Q k n (T.setTop (mkF m pc Ls (.int z :: rest))) :=
  finO X hx hlk hret rfl (Or.inl ⟨rfl, Or.inl rfl, z, rfl⟩) hd eT q hc hs
theorem finL (X : Stand p l e R s m args below meth c T locs cells slots) (hx : p.tables.exec = Jvm.exec) (hlk : meth.locks = false) {z : Int64} {rest : List Value} (hret : meth.sig.returnType = some .long) {pc : Nat} {Ls : Array Slot} (hd : decode c.code pc = .ok (.lreturn, 1)) (eT : T.heap = h) (q : Q (some (.long z)) h locs) (hc : cells ≤ k) (hs : slots ≤ n) : FinP p e below s Q k n (T.setTop (mkF m pc Ls (.long z :: rest))) :=
  finO X hx hlk hret rfl (Or.inr (Or.inl ⟨rfl, rfl, z, rfl⟩)) hd eT q hc hs
theorem finA (X : Stand p l e R s m args below meth c T locs cells slots) (hx : p.tables.exec = Jvm.exec) (hlk : meth.locks = false) {t : FieldType} {w : Value} {rest : List Value} (hret : meth.sig.returnType = some t) (ht : t.isReference = true) (hw : w.isRef = true) (hn : narrow t w = w) {pc : Nat} {Ls : Array Slot} (hd : decode c.code pc = .ok (.areturn, 1)) (eT : T.heap = h) (q : Q (some w) h locs) (hc : cells ≤ k) (hs : slots ≤ n) : FinP p e below s Q k n (T.setTop (mkF m pc Ls (w :: rest))) :=
  finO X hx hlk hret hn (Or.inr (Or.inr (Or.inr (Or.inr ⟨rfl, ht, hw⟩)))) hd eT q hc hs
theorem finN (X : Stand p l e R s m args below meth c T locs cells slots) (hx : p.tables.exec = Jvm.exec) (hlk : meth.locks = false) {t : FieldType} {z : Int32} {rest : List Value} (hret : meth.sig.returnType = some t) (ht : t = .boolean ∨ t = .byte ∨ t = .char ∨ t = .short) {pc : Nat} {Ls : Array Slot} (hd : decode c.code pc = .ok (.ireturn, 1)) (eT : T.heap = h) (q : Q (some (.int (nar t z))) h locs) (hc : cells ≤ k) (hs : slots ≤ n) : FinP p e below s Q k n (T.setTop (mkF m pc Ls (.int z :: rest))) :=
  fin_of X hlk (fun hq => by rw [hret] at hq; cases hq) eT q hc hs fun fs hr => retN X hx hret ht hd hr
/-! the branches, by what holds -/
theorem ieq {x y : Int32} (h : x = y) : if_icmp.holds .eq x y = true := (teq h).1
theorem ieqN {x y : Int32} (h : ¬ x = y) : if_icmp.holds .eq x y = false := (feq h).1
theorem ine {x y : Int32} (h : ¬ x = y) : if_icmp.holds .ne x y = true := (feq h).2
theorem ineN {x y : Int32} (h : x = y) : if_icmp.holds .ne x y = false := (teq h).2
theorem ilt {x y : Int32} (h : x < y) : if_icmp.holds .lt x y = true := (tlt h).1
theorem iltN {x y : Int32} (h : ¬ x < y) : if_icmp.holds .lt x y = false := (flt h).1
theorem ige {x y : Int32} (h : ¬ x < y) : if_icmp.holds .ge x y = true := (flt h).2.1
theorem igeN {x y : Int32} (h : x < y) : if_icmp.holds .ge x y = false := (tlt h).2.1
theorem igt {x y : Int32} (h : y < x) : if_icmp.holds .gt x y = true := (tlt h).2.2.1
theorem igtN {x y : Int32} (h : ¬ y < x) : if_icmp.holds .gt x y = false := (flt h).2.2.1
theorem ile {x y : Int32} (h : ¬ y < x) : if_icmp.holds .le x y = true := (flt h).2.2.2
theorem ileN {x y : Int32} (h : y < x) : if_icmp.holds .le x y = false := (tlt h).2.2.2
theorem zeq {x : Int32} (h : x = 0) : ifCond.holds .eq x = true := (if0 _ _).trans (ieq h)
theorem zeqN {x : Int32} (h : ¬ x = 0) : ifCond.holds .eq x = false := (if0 _ _).trans (ieqN h)
theorem zne {x : Int32} (h : ¬ x = 0) : ifCond.holds .ne x = true := (if0 _ _).trans (ine h)
theorem zneN {x : Int32} (h : x = 0) : ifCond.holds .ne x = false := (if0 _ _).trans (ineN h)
theorem zlt {x : Int32} (h : x < 0) : ifCond.holds .lt x = true := (if0 _ _).trans (ilt h)
theorem zltN {x : Int32} (h : ¬ x < 0) : ifCond.holds .lt x = false := (if0 _ _).trans (iltN h)
theorem zge {x : Int32} (h : ¬ x < 0) : ifCond.holds .ge x = true := (if0 _ _).trans (ige h)
theorem zgeN {x : Int32} (h : x < 0) : ifCond.holds .ge x = false := (if0 _ _).trans (igeN h)
theorem zgt {x : Int32} (h : 0 < x) : ifCond.holds .gt x = true := (if0 _ _).trans (igt h)
theorem zgtN {x : Int32} (h : ¬ 0 < x) : ifCond.holds .gt x = false := (if0 _ _).trans (igtN h)
theorem zle {x : Int32} (h : ¬ 0 < x) : ifCond.holds .le x = true := (if0 _ _).trans (ile h)
theorem zleN {x : Int32} (h : 0 < x) : ifCond.holds .le x = false := (if0 _ _).trans (ileN h)
/-- the heap has grown -/
def Grw (h0 h : Heap) : Prop := h0.size ≤ h.size
theorem Grw.ext {h' : Heap} (B : Grw h0 h) (E : Ext h h') : Grw h0 h' := Nat.le_trans B E.1
theorem Grw.keep {h' : Heap} {ws : List Addr} (B : Grw h0 h) (K : Keep h h' ws) : Grw h0 h' := Nat.le_trans B K.1
theorem Grw.wr {h' : Heap} {a : Addr} {sl : Nat} {v : Value} (B : Grw h0 h) (W : Wr h h' a sl v) : Grw h0 h' := Nat.le_trans B (Nat.le_of_eq W.size.symm)
/-! joining roads -/
theorem join1 {α : Type} {P : α → Prop} {A : α → State} {B : State} (hj : ∀ a, P a → FinP p e below s Q k n (A a)) (go : (∀ a, P a → FinP p e below s Q k n (A a)) → FinP p e below s Q k n B) : FinP p e below s Q k n B := go hj
theorem joinH {α : Type} {P : α → State → Heap → List Loc → Prop} {A : α → State → State} {B : State} (hj : ∀ a T h L, P a T h L → FinP p e below s Q k n (A a T)) (go : (∀ a T h L, P a T h L → FinP p e below s Q k n (A a T)) → FinP p e below s Q k n B) : FinP p e below s Q k n B := go hj
/-! arrays -/
theorem newA0 (X : Stand p l e R s m args below meth c T locs cells slots) (hx : p.tables.exec = Jvm.exec) (hZ : Z.Warmed39 s.vm) {aty : ArrayType} (w : (Cond.arrayClass (newarray.typeOf aty)).before a0 Z = true) (eT : T.heap = h) {g : JFrame} (hg : g.method = m) (hd : decode c.code g.pc = .ok (.newarray aty, 2)) {z : Int32} {rest : List Value} (hs : g.stack = .int z :: rest)
    (hz : ¬ z < 0) {N : Nat} (hN : z.toNatClampNeg = N) (hb : N * 8 ≤ 536870912) (hc : cells + 1 ≤ R.cells) (hl : slots + N ≤ R.slots) :
    ∃ T' h' cA, Stand p l e R s m args below meth c T' locs (cells + 1) (slots + N) ∧ T'.heap = h' ∧ Ext h h' ∧ Arv Z h' h.size cA (newarray.typeOf aty) z (List.replicate N (defaultValue (newarray.typeOf aty))) (defaultValue (newarray.typeOf aty)) ∧
      ∀ target, Steps p.tables e below (T'.setTop { g with pc := g.pc + 2, stack := .ref h.size :: rest }) target → Steps p.tables e below (T.setTop g) target := by
  obtain ⟨T', h', cA, X', e', E', A', st⟩ := newP X hx hZ w eT hg hd hs hz (cap := N) (Nat.le_of_eq hN) hb hc hl
  exact ⟨T', h', cA, X', e', E', (Arv.new A' hz).pad (pad_rep [] _ N), st⟩
theorem stC0 (X : Stand p l e R s m args below meth c T locs cells slots) (hx : p.tables.exec = Jvm.exec) (hZ : Z.Warmed39 s.vm) (eT : T.heap = h) {a : Addr} {ka : ClassId} {z : Int32} {vs : List Value} {dv : Value} (V : Arv Z h a ka .char z vs dv) {j x : Int32} (hj : ¬ j < 0 ∧ j < z) (i : Nat) (hi : j.toNatClampNeg = i) (hil : i < vs.length) (hnx : nar .char x = x)
    {g : JFrame} (hg : g.method = m) {rest : List Value} (hs : g.stack = .int x :: .int j :: .ref a :: rest) (hd : decode c.code g.pc = .ok (.castore, 1)) :
    ∃ T' h', Stand p l e R s m args below meth c T' (locs ++ [⟨a, j.toNatClampNeg⟩]) cells slots ∧ T'.heap = h' ∧ Wr h h' a j.toNatClampNeg (.int x) ∧ Arv Z h' a ka .char z (vs.set i (.int x)) dv ∧ ∀ target, Steps p.tables e below (T'.setTop { g with pc := g.pc + 1, stack := rest }) target → Steps p.tables e below (T.setTop g) target := by
  obtain ⟨cl, A, q1, S, M, H, G⟩ := V
  obtain ⟨T', h', X', e', W, st⟩ := stC X hx hZ eT A (j := j) (inb_of S hj) hg hs hd
  have W' := W
  rw [hnx] at W
  exact ⟨T', h', X', e', W, Arv.set A q1 S M H G (by rw [← hnx]; exact fits_nar_char _) W i hi hil, st⟩
theorem alen (X : Stand p l e R s m args below meth c T locs cells slots) (hx : p.tables.exec = Jvm.exec) (hZ : Z.Warmed39 s.vm) (eT : T.heap = h) {a : Addr} {ka : ClassId} {ty : FieldType} {z : Int32} {vs : List Value} {dv : Value} (V : Arv Z h a ka ty z vs dv)
    {g : JFrame} (hg : g.method = m) {rest : List Value} (hs : g.stack = .ref a :: rest) (hd : decode c.code g.pc = .ok (.arraylength, 1)) :
    ∀ target, Steps p.tables e below (T.setTop { g with pc := g.pc + 1, stack := .int z :: rest }) target → Steps p.tables e below (T.setTop g) target := by
  obtain ⟨cl, A, q1, S, M, H, G⟩ := V
  intro t ht
  refine X.arraylength hx (by rw [eT]; exact A.1) (State.isArrayOf_alike hZ.alike A.2.1) hg hs hd t ?_
  rw [len_of S M]; exact ht
theorem ldC0 (X : Stand p l e R s m args below meth c T locs cells slots) (hx : p.tables.exec = Jvm.exec) (hZ : Z.Warmed39 s.vm) (eT : T.heap = h) {a : Addr} {ka : ClassId} {z : Int32} {vs : List Value} {dv : Value} (V : Arv Z h a ka .char z vs dv) {j : Int32} (hj : ¬ j < 0 ∧ j < z) {v : Value} (hv : vs.getD j.toNatClampNeg dv = v)
    {g : JFrame} (hg : g.method = m) {rest : List Value} (hs : g.stack = .int j :: .ref a :: rest) (hd : decode c.code g.pc = .ok (.caload, 1)) :
    ∀ target, Steps p.tables e below (T.setTop { g with pc := g.pc + 1, stack := v :: rest }) target → Steps p.tables e below (T.setTop g) target := by
  obtain ⟨cl, A, q1, S, M, H, G⟩ := V
  exact X.caload hx (by rw [eT]; exact A.1) (State.isArrayOf_alike hZ.alike A.2.1) A.2.2 (inb_of S hj) (H.at (inb_of S hj) hv) hg hs hd
theorem ldB0 (X : Stand p l e R s m args below meth c T locs cells slots) (hx : p.tables.exec = Jvm.exec) (hZ : Z.Warmed39 s.vm) (eT : T.heap = h) {a : Addr} {ka : ClassId} {z : Int32} {vs : List Value} {dv : Value} (V : Arv Z h a ka .byte z vs dv) {j : Int32} (hj : ¬ j < 0 ∧ j < z) {v : Value} (hv : vs.getD j.toNatClampNeg dv = v)
    {g : JFrame} (hg : g.method = m) {rest : List Value} (hs : g.stack = .int j :: .ref a :: rest) (hd : decode c.code g.pc = .ok (.baload, 1)) :
    ∀ target, Steps p.tables e below (T.setTop { g with pc := g.pc + 1, stack := v :: rest }) target → Steps p.tables e below (T.setTop g) target := by
  obtain ⟨cl, A, q1, S, M, H, G⟩ := V
  exact X.baloadBytes hx (by rw [eT]; exact A.1) (State.isArrayOf_alike hZ.alike A.2.1) A.2.2 (inb_of S hj) (H.at (inb_of S hj) hv) hg hs hd
theorem ldR0 (X : Stand p l e R s m args below meth c T locs cells slots) (hx : p.tables.exec = Jvm.exec) (hZ : Z.Warmed39 s.vm) (eT : T.heap = h) {a : Addr} {ka : ClassId} {ty : FieldType} (hty : ty.isReference = true) {z : Int32} {vs : List Value} {dv : Value} (V : Arv Z h a ka ty z vs dv) {j : Int32} (hj : ¬ j < 0 ∧ j < z) {v : Value} (hv : vs.getD j.toNatClampNeg dv = v)
    {g : JFrame} (hg : g.method = m) {rest : List Value} (hs : g.stack = .int j :: .ref a :: rest) (hd : decode c.code g.pc = .ok (.aaload, 1)) :
    ∀ target, Steps p.tables e below (T.setTop { g with pc := g.pc + 1, stack := v :: rest }) target → Steps p.tables e below (T.setTop g) target := by
  obtain ⟨cl, A, q1, S, M, H, G⟩ := V
  exact X.aaload hx (by rw [eT]; exact A.1) (State.isArrayOf_alike hZ.alike A.2.1) hty A.2.2 (inb_of S hj) (H.at (inb_of S hj) hv) hg hs hd
/-- C's superclass S is the root; K is an ordinary class that is neither -/
theorem notSub {C S K : String} {n : Nat} (w : (Cond.superclass C S).before a0 Z = true) (w2 : (Cond.noSuperclass S).before a0 Z = true) (wi : (Cond.instantiable K n).before a0 Z = true) (h1 : C ≠ K) (h2 : S ≠ K) : ∃ c t, Z.vm.findClass C = some c ∧ Z.vm.findClass K = some t ∧ Z.vm.assignable c t = false := by
  obtain ⟨c, hc⟩ := found_sup w
  obtain ⟨q, k1, kq, a1, a2, a3, a4, a5, -, a7⟩ := Cond.superclass_spec hc w
  obtain ⟨q', k2, b1, b2, b3, -, -⟩ := Cond.noSuperclass_spec w2
  cases a1.symm.trans b1
  cases a3.symm.trans b2
  obtain ⟨t, k3, d1, d2, d3, d4, -⟩ := Cond.instantiable_spec wi
  have ne1 := ids_ne hc d1 h1
  have ne2 := ids_ne a1 d1 h2
  have d5 : k3.isInterface = false := by cases h : k3.isInterface <;> simp [h] at d4 ⊢
  refine ⟨c, t, hc, d1, ?_⟩
  have g0 : ∀ fuel, Z.vm.isSubclassAux fuel q t = false := fun fuel => by
    cases fuel with
    | zero => rfl
    | succ f => simp [Vm.isSubclassAux, ne2, a3, b3]
  have g1 : ∀ fuel, Z.vm.isSubclassAux fuel c t = false := fun fuel => by
    cases fuel with
    | zero => rfl
    | succ f => simp [Vm.isSubclassAux, ne1, a2, a4, g0]
  show Z.vm.assignableAux (255 + 1) c t = false
  simp [Vm.assignableAux, ne1, a2, d2, a5, d3, d5, Vm.isSubclass, g1]
/-! numbers -/
abbrev ush (x y : Int32) : Int32 := (x.toUInt32 >>> (y &&& 31).toUInt32).toInt32
abbrev lush (x : Int64) (y : Int32) : Int64 := (x.toUInt64 >>> (y &&& 0x3f).toInt64.toUInt64).toInt64
abbrev chr (x : Int32) : Int32 := x.toUInt32.toUInt16.toUInt32.toInt32
theorem and_bits (x : Int32) : ¬ (x &&& 255) < 0 ∧ ¬ 255 < (x &&& 255) := by
  have h := c_mask x 255 8 (by decide) (by decide)
  have h2 : (0 : Int32).toInt = 0 := rfl
  have h3 : (255 : Int32).toInt = 255 := rfl
  rw [Int32.lt_iff_toInt_lt, Int32.lt_iff_toInt_lt, h, h2, h3]
  omega
theorem chr_255 (x : Int32) : ∃ c : Int32, chr (x &&& 255) = c ∧ ¬ c < 0 ∧ ¬ 255 < c ∧ c = x &&& 255 := ⟨x &&& 255, i2c_mask x, (and_bits x).1, (and_bits x).2, rfl⟩
theorem nar_chr {c : Int32} (h0 : ¬ c < 0) (h1 : ¬ 255 < c) : nar .char c = c := by
  have e : c = c &&& 255 := by
    have h := c_mask c 255 8 (by decide) (by decide)
    rw [Int32.lt_iff_toInt_lt] at h0 h1
    have h2 : (0 : Int32).toInt = 0 := rfl
    have h3 : (255 : Int32).toInt = 255 := rfl
    rw [h2] at h0; rw [h3] at h1
    apply Int32.toInt_inj.mp
    rw [h]; omega
  rw [e]; exact i2c_mask c
theorem rem5 (x : Int32) : ∃ r : Int32, (x &&& 2147483647) % 5 = r ∧ (r = 0 ∨ r = 1 ∨ r = 2 ∨ r = 3 ∨ r = 4) := by
  refine ⟨_, rfl, ?_⟩
  have h := c_mask x 2147483647 31 (by decide) (by decide)
  have h5 : (5 : Int32).toInt = 5 := rfl
  have h6 : ((x &&& 2147483647) % 5).toInt = (x.toInt % (2 ^ 31 : Nat)).tmod 5 := by rw [Int32.toInt_mod, h, h5]
  have h7 : (0 : Int) ≤ x.toInt % (2 ^ 31 : Nat) := by omega
  rw [Int.tmod_eq_emod_of_nonneg h7] at h6
  have h8 : ((x &&& 2147483647) % 5).toInt = 0 ∨ ((x &&& 2147483647) % 5).toInt = 1 ∨ ((x &&& 2147483647) % 5).toInt = 2 ∨ ((x &&& 2147483647) % 5).toInt = 3 ∨ ((x &&& 2147483647) % 5).toInt = 4 := by omega
  rcases h8 with q | q | q | q | q
  · exact Or.inl (Int32.toInt_inj.mp q)
  · exact Or.inr (Or.inl (Int32.toInt_inj.mp q))
  · exact Or.inr (Or.inr (Or.inl (Int32.toInt_inj.mp q)))
  · exact Or.inr (Or.inr (Or.inr (Or.inl (Int32.toInt_inj.mp q))))
  · exact Or.inr (Or.inr (Or.inr (Or.inr (Int32.toInt_inj.mp q))))
end Kit
end Jvm.OwnKit
/- laws to paste: Road.backV, Road.eqW, Road.codOf (cut by pick.py; bodies as the Statement names them) -/
namespace Jvm.Pilot.@@N@@
namespace StrChars
open Jvm Sem ClassFile Op Lib Jvm.Stand Jvm.Free.XT Jvm.Free.ALB Jvm.Free.JM Jvm.Free
open Jvm.Lib.Cold (StaticIs)
/-- a char array whose places are chars -/
def Ch (a : Addr) (A : Cell) (U : State) : Prop := Arr .char a A U ∧ Typed .char A
theorem Ch.mv {a : Addr} {A : Cell} {U U' : State} (h : Ch a A U) (hal : U.vm.Alike U'.vm) (hh : U'.heap = U.heap) : Ch a A U' := ⟨h.1.mv hal hh, h.2⟩
theorem Ch.keep {a : Addr} {A : Cell} {U U' : State} (h : Ch a A U) (hal : U.vm.Alike U'.vm) (hk : U'.heap[a]? = some A) : Ch a A U' := ⟨h.1.keep hal hk, h.2⟩
/-- what place i of a char[]'s cell holds -/
def cv (A : Cell) (i : Nat) : Int32 := match A.slots[i]? with | some (.int x) => x | _ => 0
theorem Ch.get {a : Addr} {A : Cell} {U : State} (h : Ch a A U) {i : Nat} (hi : i < A.slots.size) : A.slots[i]? = some (.int (cv A i)) := by
  have e := Array.getElem?_eq_getElem hi
  have f := h.2 i _ e
  unfold cv; rw [e]
  generalize A.slots[i] = v at f
  cases v <;> simp [fits] at f ⊢
/-- the byte that i2b leaves of a char -/
def lo8 (x : Int32) : Int32 := x.toInt8.toInt32
theorem fits_lo8 (y : Int32) : fits .byte (.int (lo8 y)) = true := by
  have h1 := y.toInt8.le_toInt
  have h2 := y.toInt8.toInt_lt
  simp only [lo8, fits, Bool.and_eq_true, decide_eq_true_eq, Int32.le_iff_toInt_le, Int8.toInt_toInt32, show (-128 : Int32).toInt = -128 from by decide, show (127 : Int32).toInt = 127 from by decide]
  omega
/-- A' is A but that each place j of lo .. hi - 1 holds f j -/
def Laid (A A' : Cell) (lo hi : Nat) (f : Nat → Value) : Prop := A'.cls = A.cls ∧ A'.vm = A.vm ∧ A'.slots.size = A.slots.size ∧ ∀ i, A'.slots[i]? = if lo ≤ i ∧ i < hi then some (f i) else A.slots[i]?
theorem Laid.zero (A : Cell) (lo : Nat) (f : Nat → Value) : Laid A A lo (lo + 0) f := ⟨rfl, rfl, rfl, fun i => by rw [if_neg (by omega)]⟩
theorem Laid.step {A Ak : Cell} {lo k : Nat} {f : Nat → Value} {v : Value} (h : Laid A Ak lo k f) (hlo : lo ≤ k) (hk : k < Ak.slots.size) (hv : v = f k) : Laid A (Ak.setSlot k v) lo (k + 1) f := by
  refine ⟨h.1, h.2.1, by simpa [Cell.setSlot] using h.2.2.1, fun i => ?_⟩
  by_cases e : k = i
  · subst e; rw [Cell.slots_setSlot_self v hk, if_pos (by omega), hv]
  · rw [Cell.slots_setSlot_ne v e, h.2.2.2 i]
    by_cases q : lo ≤ i ∧ i < k
    · rw [if_pos q, if_pos (by omega)]
    · rw [if_neg q, if_neg (by omega)]
def U16 : String := "java/lang/StringUTF16"
namespace Cmp5
def yN : MethodName := ⟨"java/lang/StringUTF16", "compress", "([CI[BII)I"⟩
abbrev yB : ByteArray := jdk_52_method_21_code
theorem d0 : decode yB 0 = .ok (.iconst 0, 1) := by decide +kernel
theorem d1 : decode yB 1 = .ok (.istore 5, 2) := by decide +kernel
theorem d3 : decode yB 3 = .ok (.iload 5, 2) := by decide +kernel
theorem d5 : decode yB 5 = .ok (.iload 4, 2) := by decide +kernel
theorem d7 : decode yB 7 = .ok (.if_icmp (.ge) 37, 3) := by decide +kernel
theorem d10 : decode yB 10 = .ok (.aload_n 0, 1) := by decide +kernel
theorem d11 : decode yB 11 = .ok (.iload_n 1, 1) := by decide +kernel
theorem d12 : decode yB 12 = .ok (.caload, 1) := by decide +kernel
theorem d13 : decode yB 13 = .ok (.istore 6, 2) := by decide +kernel
theorem d15 : decode yB 15 = .ok (.iload 6, 2) := by decide +kernel
theorem d17 : decode yB 17 = .ok (.sipush 255, 3) := by decide +kernel
theorem d20 : decode yB 20 = .ok (.if_icmp (.le) 6, 3) := by decide +kernel
theorem d26 : decode yB 26 = .ok (.aload_n 2, 1) := by decide +kernel
theorem d27 : decode yB 27 = .ok (.iload_n 3, 1) := by decide +kernel
theorem d28 : decode yB 28 = .ok (.iload 6, 2) := by decide +kernel
theorem d30 : decode yB 30 = .ok (.i2b, 1) := by decide +kernel
theorem d31 : decode yB 31 = .ok (.bastore, 1) := by decide +kernel
theorem d32 : decode yB 32 = .ok (.iinc 1 1, 3) := by decide +kernel
theorem d35 : decode yB 35 = .ok (.iinc 3 1, 3) := by decide +kernel
theorem d38 : decode yB 38 = .ok (.iinc 5 1, 3) := by decide +kernel
theorem d41 : decode yB 41 = .ok (.goto (-38), 3) := by decide +kernel
theorem d44 : decode yB 44 = .ok (.iload 4, 2) := by decide +kernel
theorem d46 : decode yB 46 = .ok (.ireturn, 1) := by decide +kernel
def site : List Cond := []
def tab : Cond := tabOf yN yB 7 (some .int) site
def P (b : Addr) (A : Cell) (d : Addr) (B : Cell) (o q len : Nat) (args : Array Value) (s : State) : Prop := args = #[.ref b, .int (Int32.ofNat o), .ref d, .int (Int32.ofNat q), .int (Int32.ofNat len)] ∧ Ch b A s ∧ Arr .byte d B s ∧ b ≠ d ∧ o + len ≤ A.slots.size ∧ q + len ≤ B.slots.size ∧ ∀ i, i < len → ¬ 255 < cv A (o + i)
def E (b : Addr) (A : Cell) (d : Addr) (B : Cell) (o q len : Nat) (r : Option Value) (s u : State) : Prop := r = some (.int (Int32.ofNat len)) ∧ ∃ B', Put d B' s u ∧ Laid B B' q (q + len) (fun j => Value.int (lo8 (cv A (o + (j - q)))))
/-- no char of the range above 255: len; the places written hold each char's low byte -/
theorem law (l : Launch) (b : Addr) (A : Cell) (d : Addr) (B : Cell) (o q len : Nat) : Law l yN 5 5 0 0 yB 7 (some .int) site (P b A d B o q len) (E b A d B o q len) (copyLocs d q len) 0 0 := by
  refine Law.of_walk (plainFor_of_name (by decide +kernel)) (by decide +kernel) (by decide +kernel) (by decide) (fun _ _ h => by rw [h.1]; rfl) (fun _ U U' hal hh h => ⟨h.1, h.2.1.mv hal hh, h.2.2.1.mv hal hh, h.2.2.2⟩) (fun r U U' V V' h1 hal h2 h => ⟨h.1, h.2.elim fun B' q => ⟨B', q.1.mv h1 h2, q.2⟩⟩) ?_
  intro p e s m args below meth c s₁ X0 hexec hbytes hml hret hlk hnm hown hh0 W hP
  obtain ⟨rfl, hA, hB, hne, l1, l2, hp⟩ := hP
  have c1 : Steps p.tables e below (s₁.setTop (entryFrame m #[.ref b, .int (Int32.ofNat o), .ref d, .int (Int32.ofNat q), .int (Int32.ofNat len)] 7)) (s₁.setTop (mkF m 0 #[.val (.ref b), .val (.int (Int32.ofNat o)), .val (.ref d), .val (.int (Int32.ofNat q)), .val (.int (Int32.ofNat len)), .unset, .unset] [])) := entry rfl
  have hA0 := hA.1.mv X0.warmed.alike hh0
  have hB0 := hB.mv X0.warmed.alike hh0
  have a31 := hA.1.2.2.2
  have c2 : Steps p.tables e below (s₁.setTop (entryFrame m #[.ref b, .int (Int32.ofNat o), .ref d, .int (Int32.ofNat q), .int (Int32.ofNat len)] 7)) (s₁.setTop (mkF m 3 #[.val (.ref b), .val (.int (Int32.ofNat o)), .val (.ref d), .val (.int (Int32.ofNat q)), .val (.int (Int32.ofNat len)), .val (.int 0), .unset] [])) := c1.trans (by
    refine iconstV X0.here hexec rfl 0 (hb hbytes d0) (by decide) ?_
    refine XS.istore X0.here hexec rfl (hb hbytes d1) rfl rfl ?_
    exact Steps.refl _)
  have loop : ∀ (r i : Nat), i + r = len → ∀ (z : Slot), (z = .unset ∨ ∃ w, z = .val w ∧ w.category = 1) → ∀ (Tl : State) (Bk : Cell), Stand p l e { frames := 0, locals := 0, cells := 0, slots := 0 } s m #[.ref b, .int (Int32.ofNat o), .ref d, .int (Int32.ofNat q), .int (Int32.ofNat len)] below meth c Tl ([] ++ copyLocs d q i) 0 0 → Put d Bk s₁ Tl → Laid B Bk q (q + i) (fun j => Value.int (lo8 (cv A (o + (j - q))))) →
      Steps p.tables e below (s₁.setTop (entryFrame m #[.ref b, .int (Int32.ofNat o), .ref d, .int (Int32.ofNat q), .int (Int32.ofNat len)] 7)) (Tl.setTop (mkF m 3 #[.val (.ref b), .val (.int (Int32.ofNat (o + i))), .val (.ref d), .val (.int (Int32.ofNat (q + i))), .val (.int (Int32.ofNat len)), .val (.int (Int32.ofNat i)), z] [])) → ∃ (T' : State) (B' : Cell) (z' : Slot), Stand p l e { frames := 0, locals := 0, cells := 0, slots := 0 } s m #[.ref b, .int (Int32.ofNat o), .ref d, .int (Int32.ofNat q), .int (Int32.ofNat len)] below meth c T' ([] ++ copyLocs d q len) 0 0 ∧ Put d B' s₁ T' ∧ Laid B B' q (q + len) (fun j => Value.int (lo8 (cv A (o + (j - q))))) ∧
      Steps p.tables e below (s₁.setTop (entryFrame m #[.ref b, .int (Int32.ofNat o), .ref d, .int (Int32.ofNat q), .int (Int32.ofNat len)] 7)) (T'.setTop (mkF m 3 #[.val (.ref b), .val (.int (Int32.ofNat (o + len))), .val (.ref d), .val (.int (Int32.ofNat (q + len))), .val (.int (Int32.ofNat len)), .val (.int (Int32.ofNat len)), z'] [])) := by
    intro r
    induction r with
    | zero =>
      intro i hi z hz Tl Bk Xl pl fl cl
      have hil : i = len := by omega
      rw [hil] at Xl fl cl
      exact ⟨Tl, Bk, z, Xl, pl, fl, cl⟩
    | succ r ih =>
      intro i hi z hz Tl Bk Xl pl fl cl
      have all := X0.warmed.alike.symm.trans Xl.warmed.alike
      have hAl := hA0.keep all (pl.other hne hA0.1)
      have hBk := hB0.like all pl.1 fl.1 fl.2.1 fl.2.2.1
      have hlt : q + i < Bk.slots.size := by rw [fl.2.2.1]; omega
      have c3 : Steps p.tables e below (s₁.setTop (entryFrame m #[.ref b, .int (Int32.ofNat o), .ref d, .int (Int32.ofNat q), .int (Int32.ofNat len)] 7)) (Tl.setTop (mkF m 12 #[.val (.ref b), .val (.int (Int32.ofNat (o + i))), .val (.ref d), .val (.int (Int32.ofNat (q + i))), .val (.int (Int32.ofNat len)), .val (.int (Int32.ofNat i)), z] [.int (Int32.ofNat (o + i)), .ref b])) := cl.trans (by
        refine XS.iload Xl.here hexec rfl (hb hbytes d3) rfl ?_
        refine XS.iload Xl.here hexec rfl (hb hbytes d5) rfl ?_
        refine XS.icmpNo Xl.here hexec rfl (hb hbytes d7) rfl (ii_ge_f (lt32 (by omega) (by omega))) ?_
        refine XS.aloadN Xl.here hexec rfl (hb hbytes d10) rfl rfl ?_
        refine XS.iloadN Xl.here hexec rfl (hb hbytes d11) rfl ?_
        exact Steps.refl _)
      have c4 : Steps p.tables e below (s₁.setTop (entryFrame m #[.ref b, .int (Int32.ofNat o), .ref d, .int (Int32.ofNat q), .int (Int32.ofNat len)] 7)) (Tl.setTop (mkF m 13 #[.val (.ref b), .val (.int (Int32.ofNat (o + i))), .val (.ref d), .val (.int (Int32.ofNat (q + i))), .val (.int (Int32.ofNat len)), .val (.int (Int32.ofNat i)), z] [.int (cv A (o + i))])) := c3.trans (by
        refine Xl.aget hexec hAl rfl (hA.get (i := o + i) (by omega)) rfl rfl (hb hbytes d12) ?_
        exact Steps.refl _)
      have c5 : Steps p.tables e below (s₁.setTop (entryFrame m #[.ref b, .int (Int32.ofNat o), .ref d, .int (Int32.ofNat q), .int (Int32.ofNat len)] 7)) (Tl.setTop (mkF m 15 #[.val (.ref b), .val (.int (Int32.ofNat (o + i))), .val (.ref d), .val (.int (Int32.ofNat (q + i))), .val (.int (Int32.ofNat len)), .val (.int (Int32.ofNat i)), .val (.int (cv A (o + i)))] [])) := c4.trans (by
        refine XS.istoreS Xl.here hexec rfl (hb hbytes d13) rfl rfl hz ?_
        exact Steps.refl _)
      have c6 : Steps p.tables e below (s₁.setTop (entryFrame m #[.ref b, .int (Int32.ofNat o), .ref d, .int (Int32.ofNat q), .int (Int32.ofNat len)] 7)) (Tl.setTop (mkF m 31 #[.val (.ref b), .val (.int (Int32.ofNat (o + i))), .val (.ref d), .val (.int (Int32.ofNat (q + i))), .val (.int (Int32.ofNat len)), .val (.int (Int32.ofNat i)), .val (.int (cv A (o + i)))] [.int (lo8 (cv A (o + i))), .int (Int32.ofNat (q + i)), .ref d])) := c5.trans (by
        refine XS.iload Xl.here hexec rfl (hb hbytes d15) rfl ?_
        refine sipushV Xl.here hexec rfl 255 (hb hbytes d17) (by decide) ?_
        refine XS.icmpYes Xl.here hexec rfl (pc0 := 20) rfl (hb hbytes d20) rfl (ii_le_t (hp i (by omega))) (by decide) rfl ?_
        refine XS.aloadN Xl.here hexec rfl (hb hbytes d26) rfl rfl ?_
        refine XS.iloadN Xl.here hexec rfl (hb hbytes d27) rfl ?_
        refine XS.iload Xl.here hexec rfl (hb hbytes d28) rfl ?_
        refine i2b Xl.here hexec rfl (hb hbytes d30) rfl ?_
        exact Steps.refl _)
      obtain ⟨T7, X7, p7, st7⟩ := Xl.aput hexec hBk rfl hlt rfl (fits_lo8 (cv A (o + i))) (g := (mkF m 31 #[.val (.ref b), .val (.int (Int32.ofNat (o + i))), .val (.ref d), .val (.int (Int32.ofNat (q + i))), .val (.int (Int32.ofNat len)), .val (.int (Int32.ofNat i)), .val (.int (cv A (o + i)))] [.int (lo8 (cv A (o + i))), .int (Int32.ofNat (q + i)), .ref d])) rfl (rest := []) rfl (hb hbytes d31)
      have c8 : Steps p.tables e below (s₁.setTop (entryFrame m #[.ref b, .int (Int32.ofNat o), .ref d, .int (Int32.ofNat q), .int (Int32.ofNat len)] 7)) (T7.setTop (mkF m 32 #[.val (.ref b), .val (.int (Int32.ofNat (o + i))), .val (.ref d), .val (.int (Int32.ofNat (q + i))), .val (.int (Int32.ofNat len)), .val (.int (Int32.ofNat i)), .val (.int (cv A (o + i)))] [])) := c6.trans (st7 _ (Steps.refl _))
      have c9 : Steps p.tables e below (s₁.setTop (entryFrame m #[.ref b, .int (Int32.ofNat o), .ref d, .int (Int32.ofNat q), .int (Int32.ofNat len)] 7)) (T7.setTop (mkF m 3 #[.val (.ref b), .val (.int (Int32.ofNat (o + i) + 1)), .val (.ref d), .val (.int (Int32.ofNat (q + i) + 1)), .val (.int (Int32.ofNat len)), .val (.int (Int32.ofNat i + 1)), .val (.int (cv A (o + i)))] [])) := c8.trans (by
        refine iincV X7.here hexec rfl 1 (hb hbytes d32) (by decide) rfl rfl ?_
        refine iincV X7.here hexec rfl 1 (hb hbytes d35) (by decide) rfl rfl ?_
        refine iincV X7.here hexec rfl 1 (hb hbytes d38) (by decide) rfl rfl ?_
        refine XS.goto X7.here hexec rfl (pc0 := 41) rfl (hb hbytes d41) (by decide) rfl ?_
        exact Steps.refl _)
      have c10 : Steps p.tables e below (s₁.setTop (entryFrame m #[.ref b, .int (Int32.ofNat o), .ref d, .int (Int32.ofNat q), .int (Int32.ofNat len)] 7)) (T7.setTop (mkF m 3 #[.val (.ref b), .val (.int (Int32.ofNat (o + (i + 1)))), .val (.ref d), .val (.int (Int32.ofNat (q + (i + 1)))), .val (.int (Int32.ofNat len)), .val (.int (Int32.ofNat (i + 1))), .val (.int (cv A (o + i)))] [])) := by
        have := c9
        rw [succ32, succ32, succ32] at this
        exact this
      exact ih (i + 1) (by omega) _ (Or.inr ⟨_, rfl, rfl⟩) T7 _ (by rw [copyLocs_step, ← List.append_assoc]; exact X7) (pl.trans p7) (fl.step (by omega) hlt (by simp)) c10
  obtain ⟨T9, B9, z9, X9, p9, f9, g9⟩ := loop len 0 (by omega) .unset (Or.inl rfl) s₁ B (by simpa [copyLocs] using X0) ⟨hB0.1, fun _ _ => rfl, rfl⟩ (Laid.zero _ _ _) c2
  have c11 : Steps p.tables e below (s₁.setTop (entryFrame m #[.ref b, .int (Int32.ofNat o), .ref d, .int (Int32.ofNat q), .int (Int32.ofNat len)] 7)) (T9.setTop (mkF m 46 #[.val (.ref b), .val (.int (Int32.ofNat (o + len))), .val (.ref d), .val (.int (Int32.ofNat (q + len))), .val (.int (Int32.ofNat len)), .val (.int (Int32.ofNat len)), z9] [.int (Int32.ofNat len)])) := g9.trans (by
    refine XS.iload X9.here hexec rfl (hb hbytes d3) rfl ?_
    refine XS.iload X9.here hexec rfl (hb hbytes d5) rfl ?_
    refine XS.icmpYes X9.here hexec rfl (pc0 := 7) rfl (hb hbytes d7) rfl (ii_ge_t (nlt32 (by omega) (Nat.le_refl _))) (by decide) rfl ?_
    refine XS.iload X9.here hexec rfl (hb hbytes d44) rfl ?_
    exact Steps.refl _)
  exact ⟨T9, some (.int (Int32.ofNat len)), _, _, _, X9, by simp, rfl, rfl, (fun h => by cases h), ⟨rfl, B9, p9.from hh0, f9⟩, fun fs hl => c11.trans (X9.ireturnOut hexec hret rfl (Or.inl rfl) (hb hbytes d46) hl)⟩
end Cmp5
namespace Cmp3
def yN : MethodName := ⟨"java/lang/StringUTF16", "compress", "([CII)[B"⟩
abbrev yB : ByteArray := jdk_52_method_16_code
theorem d0 : decode yB 0 = .ok (.iload_n 2, 1) := by decide +kernel
theorem d1 : decode yB 1 = .ok (.newarray .byte, 2) := by decide +kernel
theorem d3 : decode yB 3 = .ok (.astore_n 3, 1) := by decide +kernel
theorem d4 : decode yB 4 = .ok (.aload_n 0, 1) := by decide +kernel
theorem d5 : decode yB 5 = .ok (.iload_n 1, 1) := by decide +kernel
theorem d6 : decode yB 6 = .ok (.aload_n 3, 1) := by decide +kernel
theorem d7 : decode yB 7 = .ok (.iconst 0, 1) := by decide +kernel
theorem d8 : decode yB 8 = .ok (.iload_n 2, 1) := by decide +kernel
theorem d9 : decode yB 9 = .ok (.invokestatic 115, 3) := by decide +kernel
theorem d12 : decode yB 12 = .ok (.istore 4, 2) := by decide +kernel
theorem d14 : decode yB 14 = .ok (.iload 4, 2) := by decide +kernel
theorem d16 : decode yB 16 = .ok (.iload_n 2, 1) := by decide +kernel
theorem d17 : decode yB 17 = .ok (.if_icmp (.eq) 40, 3) := by decide +kernel
theorem d57 : decode yB 57 = .ok (.aload_n 3, 1) := by decide +kernel
theorem d58 : decode yB 58 = .ok (.areturn, 1) := by decide +kernel
def site : List Cond := [.arrayClass .byte, Cmp5.tab] ++ staticW U16 115 Cmp5.yN
def tab : Cond := tabOf yN yB 6 (some (.array .byte)) site
def P (b : Addr) (A : Cell) (o len : Nat) (args : Array Value) (s : State) : Prop := args = #[.ref b, .int (Int32.ofNat o), .int (Int32.ofNat len)] ∧ Ch b A s ∧ o + len ≤ A.slots.size ∧ len ≤ 536870912 ∧ ∀ i, i < len → ¬ 255 < cv A (o + i)
def E (b : Addr) (A : Cell) (o len : Nat) (r : Option Value) (s u : State) : Prop := NewArr .byte "[B" len (fun j => .int (lo8 (cv A (o + j)))) r s u ∧ u.heap.size = s.heap.size + 1
/-- no char of the range above 255: a new byte[] of their low bytes -/
theorem law (l : Launch) (b : Addr) (A : Cell) (o len : Nat) : Law l yN 3 3 1 18 yB 6 (some (.array .byte)) site (P b A o len) (E b A o len) [] 1 len := by
  refine Law.of_walk (plainFor_of_name (by decide +kernel)) (by decide +kernel) (by decide +kernel) (by decide) (fun _ _ h => by rw [h.1]; rfl) (fun _ U U' hal hh h => ⟨h.1, h.2.1.mv hal hh, h.2.2⟩) (fun r U U' V V' h1 hal h2 h => ⟨NewArr.mv r U U' V V' h1 hal h2 h.1, by rw [h1, h2]; exact h.2⟩) ?_
  intro p e s m args below meth c s₁ X0 hexec hbytes hml hret hlk hnm hown hh0 W hP
  obtain ⟨rfl, hA, l1, l2, hp⟩ := hP
  have a31 := hA.1.2.2.2
  have c1 : Steps p.tables e below (s₁.setTop (entryFrame m #[.ref b, .int (Int32.ofNat o), .int (Int32.ofNat len)] 6)) (s₁.setTop (mkF m 0 #[.val (.ref b), .val (.int (Int32.ofNat o)), .val (.int (Int32.ofNat len)), .unset, .unset, .unset] [])) := entry rfl
  have c2 : Steps p.tables e below (s₁.setTop (entryFrame m #[.ref b, .int (Int32.ofNat o), .int (Int32.ofNat len)] 6)) (s₁.setTop (mkF m 1 #[.val (.ref b), .val (.int (Int32.ofNat o)), .val (.int (Int32.ofNat len)), .unset, .unset, .unset] [.int (Int32.ofNat len)])) := c1.trans (by
    refine XS.iloadN X0.here hexec rfl (hb hbytes d0) rfl ?_
    exact Steps.refl _)
  obtain ⟨T3, B3, X3, ba3, bs3, bv3, bh3, bf3, st3⟩ := X0.anew hexec (atype := .byte) (wk W (.arrayClass .byte)) rfl (by show len * 1 ≤ _; omega) (by omega) (g := (mkF m 1 #[.val (.ref b), .val (.int (Int32.ofNat o)), .val (.int (Int32.ofNat len)), .unset, .unset, .unset] [.int (Int32.ofNat len)])) rfl (hb hbytes d1) (rest := []) rfl (Nat.le_refl _) (by show 0 + len ≤ len; omega)
  rw [hh0] at ba3 st3
  have kp3 : XT.Kept s T3 := (XT.Kept.of_eq hh0).push bh3
  have hA3 := hA.keep X3.warmed.alike (kp3 _ _ hA.1.1)
  have hne : b ≠ s.heap.size := hA.1.ne
  have c4 : Steps p.tables e below (s₁.setTop (entryFrame m #[.ref b, .int (Int32.ofNat o), .int (Int32.ofNat len)] 6)) (T3.setTop (mkF m 3 #[.val (.ref b), .val (.int (Int32.ofNat o)), .val (.int (Int32.ofNat len)), .unset, .unset, .unset] [.ref s.heap.size])) := c2.trans (st3 _ (Steps.refl _))
  have c5 : Steps p.tables e below (s₁.setTop (entryFrame m #[.ref b, .int (Int32.ofNat o), .int (Int32.ofNat len)] 6)) (T3.setTop (mkF m 9 #[.val (.ref b), .val (.int (Int32.ofNat o)), .val (.int (Int32.ofNat len)), .val (.ref s.heap.size), .unset, .unset] [.int (Int32.ofNat len), .int 0, .ref s.heap.size, .int (Int32.ofNat o), .ref b])) := c4.trans (by
    refine XS.astoreN X3.here hexec rfl (hb hbytes d3) rfl rfl rfl ?_
    refine XS.aloadN X3.here hexec rfl (hb hbytes d4) rfl rfl ?_
    refine XS.iloadN X3.here hexec rfl (hb hbytes d5) rfl ?_
    refine XS.aloadN X3.here hexec rfl (hb hbytes d6) rfl rfl ?_
    refine iconstV X3.here hexec rfl 0 (hb hbytes d7) (by decide) ?_
    refine XS.iloadN X3.here hexec rfl (hb hbytes d8) rfl ?_
    exact Steps.refl _)
  obtain ⟨v6, T6, X6, E6, g6⟩ := X3.callS hexec (Cmp5.law l b A s.heap.size B3 o 0 len) hown (wks W (staticW U16 115 Cmp5.yN)) (wk W Cmp5.tab) (W := 0) (Nat.le_of_ble_eq_true rfl) (Nat.le_of_ble_eq_true rfl) (Nat.le_refl _) (by show 0 + len + 0 ≤ len; omega) (g := (mkF m 9 #[.val (.ref b), .val (.int (Int32.ofNat o)), .val (.int (Int32.ofNat len)), .val (.ref s.heap.size), .unset, .unset] [.int (Int32.ofNat len), .int (Int32.ofNat 0), .ref s.heap.size, .int (Int32.ofNat o), .ref b])) rfl (by rw [hml]; rfl) c5 (argsL := [.ref b, .int (Int32.ofNat o), .ref s.heap.size, .int (Int32.ofNat 0), .int (Int32.ofNat len)]) (rest := []) rfl rfl (by show 2 * 0 + 0 ≤ _; decide) (hb hbytes d9) (⟨rfl, hA3, ba3, hne, l1, by rw [bs3]; simp, hp⟩)
  obtain ⟨rfl, B6, p6, f6⟩ := E6
  have c7 : Steps p.tables e below (s₁.setTop (entryFrame m #[.ref b, .int (Int32.ofNat o), .int (Int32.ofNat len)] 6)) (T6.setTop (mkF m 12 #[.val (.ref b), .val (.int (Int32.ofNat o)), .val (.int (Int32.ofNat len)), .val (.ref s.heap.size), .unset, .unset] [.int (Int32.ofNat len)])) := g6
  have c8 : Steps p.tables e below (s₁.setTop (entryFrame m #[.ref b, .int (Int32.ofNat o), .int (Int32.ofNat len)] 6)) (T6.setTop (mkF m 58 #[.val (.ref b), .val (.int (Int32.ofNat o)), .val (.int (Int32.ofNat len)), .val (.ref s.heap.size), .val (.int (Int32.ofNat len)), .unset] [.ref s.heap.size])) := c7.trans (by
    refine XS.istore X6.here hexec rfl (hb hbytes d12) rfl rfl ?_
    refine XS.iload X6.here hexec rfl (hb hbytes d14) rfl ?_
    refine XS.iloadN X6.here hexec rfl (hb hbytes d16) rfl ?_
    refine XS.icmpYes X6.here hexec rfl (pc0 := 17) rfl (hb hbytes d17) rfl (ii_eq_t rfl) (by decide) rfl ?_
    refine XS.aloadN X6.here hexec rfl (hb hbytes d57) rfl rfl ?_
    exact Steps.refl _)
  have X8 := X6.wide (L' := []) (cells' := 1) (slots' := len) (fun x hx hlt => by
    simp only [List.nil_append, copyLocs, List.mem_map, List.mem_range] at hx
    obtain ⟨i, -, rfl⟩ := hx
    exact absurd hlt (Nat.lt_irrefl _)) (Nat.le_refl _) (by omega)
  exact ⟨T6, some (.ref s.heap.size), _, _, _, X8, rfl, rfl, rfl, (fun h => by cases h), ⟨⟨rfl, B6, ba3.like (X3.warmed.alike.symm.trans X6.warmed.alike) p6.1 f6.1 f6.2.1 f6.2.2.1, f6.2.1.trans bv3, by rw [X6.warmed.alike.findClass, f6.1]; exact bf3, by rw [f6.2.2.1, bs3]; simp, fun j hj => by rw [f6.2.2.2 j, if_pos (by omega)]; rfl, kp3.put p6 (Nat.le_refl _)⟩, by rw [p6.2.2, bh3, hh0]; simp⟩, fun fs hl => c8.trans (X8.areturnOut hexec rfl hret rfl (hb hbytes d58) hl)⟩
end Cmp3
namespace CodL
def yN : MethodName := ⟨"java/lang/StringUTF16", "coderFromArrayLen", "([BI)B"⟩
abbrev yB : ByteArray := jdk_52_method_15_code
theorem d0 : decode yB 0 = .ok (.iload_n 1, 1) := by decide +kernel
theorem d1 : decode yB 1 = .ok (.aload_n 0, 1) := by decide +kernel
theorem d2 : decode yB 2 = .ok (.arraylength, 1) := by decide +kernel
theorem d3 : decode yB 3 = .ok (.isub, 1) := by decide +kernel
theorem d4 : decode yB 4 = .ok (.bipush 31, 2) := by decide +kernel
theorem d6 : decode yB 6 = .ok (.iushr, 1) := by decide +kernel
theorem d7 : decode yB 7 = .ok (.i2b, 1) := by decide +kernel
theorem d8 : decode yB 8 = .ok (.ireturn, 1) := by decide +kernel
def site : List Cond := []
def tab : Cond := tabOf yN yB 2 (some .byte) site
def P (d : Addr) (B : Cell) (args : Array Value) (s : State) : Prop := args = #[.ref d, .int (Int32.ofNat B.slots.size)] ∧ Arr .byte d B s
def E (r : Option Value) (s u : State) : Prop := XT.PureE (some (.int 0)) r s u
/-- an array as long as the number of chars: LATIN1 -/
theorem law (l : Launch) (d : Addr) (B : Cell) : Law l yN 2 2 0 0 yB 2 (some .byte) site (P d B) E [] 0 0 := by
  refine Law.of_walk (plainFor_of_name (by decide +kernel)) (by decide +kernel) (by decide +kernel) (by decide) (fun _ _ h => by rw [h.1]; rfl) (fun _ U U' hal hh h => ⟨h.1, h.2.mv hal hh⟩) (fun r U U' V V' h1 hal h2 h => XT.PureE.mv r U U' V V' h1 hal h2 h) ?_
  intro p e s m args below meth c s₁ X0 hexec hbytes hml hret hlk hnm hown hh0 W hP
  obtain ⟨rfl, hB⟩ := hP
  have hB0 := hB.mv X0.warmed.alike hh0
  have c1 : Steps p.tables e below (s₁.setTop (entryFrame m #[.ref d, .int (Int32.ofNat B.slots.size)] 2)) (s₁.setTop (mkF m 0 #[.val (.ref d), .val (.int (Int32.ofNat B.slots.size))] [])) := entry rfl
  have c2 : Steps p.tables e below (s₁.setTop (entryFrame m #[.ref d, .int (Int32.ofNat B.slots.size)] 2)) (s₁.setTop (mkF m 2 #[.val (.ref d), .val (.int (Int32.ofNat B.slots.size))] [.ref d, .int (Int32.ofNat B.slots.size)])) := c1.trans (by
    refine XS.iloadN X0.here hexec rfl (hb hbytes d0) rfl ?_
    refine XS.aloadN X0.here hexec rfl (hb hbytes d1) rfl rfl ?_
    exact Steps.refl _)
  have c3 : Steps p.tables e below (s₁.setTop (entryFrame m #[.ref d, .int (Int32.ofNat B.slots.size)] 2)) (s₁.setTop (mkF m 8 #[.val (.ref d), .val (.int (Int32.ofNat B.slots.size))] [.int (lo8 (ushr (Int32.ofNat B.slots.size - Int32.ofNat B.slots.size) 31))])) := c2.trans (by
    refine X0.alen hexec hB0 rfl rfl (hb hbytes d2) ?_
    refine XS.isub X0.here hexec rfl (hb hbytes d3) rfl ?_
    refine bipushV X0.here hexec rfl 31 (hb hbytes d4) (by decide) ?_
    refine iushr X0.here hexec rfl (hb hbytes d6) rfl ?_
    refine i2b X0.here hexec rfl (hb hbytes d7) rfl ?_
    exact Steps.refl _)
  have e0 : lo8 (ushr (Int32.ofNat B.slots.size - Int32.ofNat B.slots.size) 31) = 0 := by rw [Int32.sub_self]; decide
  rw [e0] at c3
  exact ⟨s₁, some (.int 0), _, _, _, X0, rfl, rfl, rfl, (fun h => by cases h), ⟨rfl, hh0⟩, fun fs hl => c3.trans (X0.ireturnOut hexec hret rfl (Or.inr (Or.inr (Or.inl rfl))) (hb hbytes d8) hl)⟩
end CodL
/-- the String at a is Latin-1 over a new byte[] (the heap's one new cell): the low bytes of the len chars of A from o on; every cell but a is kept -/
def Got (a : Addr) (D : Cell) (fV fC : Field) (A : Cell) (o len : Nat) (r : Option Value) (s u : State) : Prop := r = none ∧ ∃ D' V : Cell, Blank "java/lang/String" a D' u ∧ Same D D' [fV.slot, fC.slot] ∧ D'.slots[fV.slot]? = some (.ref s.heap.size) ∧ D'.slots[fC.slot]? = some (.int 0) ∧ Arr .byte s.heap.size V u ∧ V.vm = .none ∧ u.vm.findClass "[B" = some V.cls ∧ V.slots.size = len ∧ (∀ j, j < len → V.slots[j]? = some (.int (lo8 (cv A (o + j))))) ∧ (∀ (y : Addr) (c : Cell), y ≠ a → s.heap[y]? = some c → u.heap[y]? = some c) ∧ u.heap.size = s.heap.size + 1
theorem Got.mv {a : Addr} {D A : Cell} {fV fC : Field} {o len : Nat} : ∀ r (U U' V V' : State), U'.heap = U.heap → V.vm.Alike V'.vm → V'.heap = V.heap → Got a D fV fC A o len r U V → Got a D fV fC A o len r U' V' :=
  fun r U U' V V' h1 hal h2 ⟨e0, D', X, a1, a2, a3, a4, a5, a6, a7, a8, a9, a10, a11⟩ => ⟨e0, D', X, a1.mv hal h2, a2, by rw [h1]; exact a3, a4, by rw [h1]; exact a5.mv hal h2, a6, by rw [hal.findClass]; exact a7, a8, a9, by rw [h1, h2]; exact a10, by rw [h1, h2]; exact a11⟩
namespace New4
def yN : MethodName := ⟨"java/lang/String", "<init>", "([CIILjava/lang/Void;)V"⟩
abbrev yB : ByteArray := jdk_42_method_149_code
theorem d0 : decode yB 0 = .ok (.aload_n 0, 1) := by decide +kernel
theorem d1 : decode yB 1 = .ok (.invokespecial 1, 3) := by decide +kernel
theorem d4 : decode yB 4 = .ok (.iload_n 3, 1) := by decide +kernel
theorem d5 : decode yB 5 = .ok (.ifCond (.ne) 22, 3) := by decide +kernel
theorem d27 : decode yB 27 = .ok (.getstatic 38, 3) := by decide +kernel
theorem d30 : decode yB 30 = .ok (.ifCond (.eq) 28, 3) := by decide +kernel
theorem d33 : decode yB 33 = .ok (.aload_n 1, 1) := by decide +kernel
theorem d34 : decode yB 34 = .ok (.iload_n 2, 1) := by decide +kernel
theorem d35 : decode yB 35 = .ok (.iload_n 3, 1) := by decide +kernel
theorem d36 : decode yB 36 = .ok (.invokestatic 177, 3) := by decide +kernel
theorem d39 : decode yB 39 = .ok (.astore 5, 2) := by decide +kernel
theorem d41 : decode yB 41 = .ok (.aload_n 0, 1) := by decide +kernel
theorem d42 : decode yB 42 = .ok (.aload 5, 2) := by decide +kernel
theorem d44 : decode yB 44 = .ok (.iload_n 3, 1) := by decide +kernel
theorem d45 : decode yB 45 = .ok (.invokestatic 47, 3) := by decide +kernel
theorem d48 : decode yB 48 = .ok (.putfield 15, 3) := by decide +kernel
theorem d51 : decode yB 51 = .ok (.aload_n 0, 1) := by decide +kernel
theorem d52 : decode yB 52 = .ok (.aload 5, 2) := by decide +kernel
theorem d54 : decode yB 54 = .ok (.putfield 9, 3) := by decide +kernel
theorem d57 : decode yB 57 = .ok (.return_, 1) := by decide +kernel
def site : List Cond := [.fieldLink "java/lang/String" 38 "java/lang/String" "COMPACT_STRINGS" "Z", Cmp3.tab, CodL.tab, .laysFinal "java/lang/String" "java/lang/String" "value" "[B", .fieldLink "java/lang/String" 9 "java/lang/String" "value" "[B", .laysFinal "java/lang/String" "java/lang/String" "coder" "B", .fieldLink "java/lang/String" 15 "java/lang/String" "coder" "B"] ++ objW "java/lang/String" 1 ++ staticW "java/lang/String" 177 Cmp3.yN ++ staticW "java/lang/String" 47 CodL.yN
def tab : Cond := tabOf yN yB 6 none site
def P (a : Addr) (D : Cell) (fV fC : Field) (b : Addr) (A : Cell) (z : Int32) (o len : Nat) (args : Array Value) (s : State) : Prop := args = #[.ref a, .ref b, .int (Int32.ofNat o), .int (Int32.ofNat len), .null] ∧ Blank "java/lang/String" a D s ∧ Found "java/lang/String" "value" "[B" fV s ∧ Found "java/lang/String" "coder" "B" fC s ∧ Ch b A s ∧ StaticIs s "java/lang/String" "COMPACT_STRINGS" "Z" (.int z) ∧ ¬ z = 0 ∧ 0 < len ∧ o + len ≤ A.slots.size ∧ len ≤ 536870912 ∧ ∀ i, i < len → ¬ 255 < cv A (o + i)
def E (a : Addr) (D : Cell) (fV fC : Field) (A : Cell) (o len : Nat) (r : Option Value) (s u : State) : Prop := Got a D fV fC A o len r s u
/-- len > 0, no char of the range above 255: a Latin-1 String of their low bytes -/
theorem law (l : Launch) (a : Addr) (D : Cell) (fV fC : Field) (b : Addr) (A : Cell) (z : Int32) (o len : Nat) : Law l yN 5 4 2 35 yB 6 none site (P a D fV fC b A z o len) (E a D fV fC A o len) [⟨a, fC.slot⟩, ⟨a, fV.slot⟩] 1 len := by
  refine Law.of_walk (plainFor_of_name (by decide +kernel)) (by decide +kernel) (by decide +kernel) (by decide) (fun _ _ h => by rw [h.1]; rfl) (fun _ U U' hal hh h => ⟨h.1, h.2.1.mv hal hh, h.2.2.1.al hal, h.2.2.2.1.al hal, h.2.2.2.2.1.mv hal hh, h.2.2.2.2.2.1.there hal hh, h.2.2.2.2.2.2⟩) (fun r U U' V V' h1 hal h2 h => Got.mv r U U' V V' h1 hal h2 h) ?_
  intro p e s m args below meth c s₁ X0 hexec hbytes hml hret hlk hnm hown hh0 W hP
  obtain ⟨rfl, hB, f1, f2, hA, s1, hz, l0, l1, l2, hp⟩ := hP
  have a31 := hA.1.2.2.2
  have c1 : Steps p.tables e below (s₁.setTop (entryFrame m #[.ref a, .ref b, .int (Int32.ofNat o), .int (Int32.ofNat len), .null] 6)) (s₁.setTop (mkF m 0 #[.val (.ref a), .val (.ref b), .val (.int (Int32.ofNat o)), .val (.int (Int32.ofNat len)), .val .null, .unset] [])) := entry rfl
  have c2 : Steps p.tables e below (s₁.setTop (entryFrame m #[.ref a, .ref b, .int (Int32.ofNat o), .int (Int32.ofNat len), .null] 6)) (s₁.setTop (mkF m 1 #[.val (.ref a), .val (.ref b), .val (.int (Int32.ofNat o)), .val (.int (Int32.ofNat len)), .val .null, .unset] [.ref a])) := c1.trans (by
    refine XS.aloadN X0.here hexec rfl (hb hbytes d0) rfl rfl ?_
    exact Steps.refl _)
  obtain ⟨T3, X3, q3, st3⟩ := X0.oinit hexec hown (wks W (objW "java/lang/String" 1)) (g := (mkF m 1 #[.val (.ref a), .val (.ref b), .val (.int (Int32.ofNat o)), .val (.int (Int32.ofNat len)), .val .null, .unset] [.ref a])) rfl (by rw [hml]; rfl) (rest := []) rfl (hb hbytes d1) (W := 0) (by show 2 * 0 + 0 ≤ _; decide) (Nat.le_of_ble_eq_true rfl) (Nat.le_of_ble_eq_true rfl)
  have hh3 := q3.trans hh0
  have c4 : Steps p.tables e below (s₁.setTop (entryFrame m #[.ref a, .ref b, .int (Int32.ofNat o), .int (Int32.ofNat len), .null] 6)) (T3.setTop (mkF m 27 #[.val (.ref a), .val (.ref b), .val (.int (Int32.ofNat o)), .val (.int (Int32.ofNat len)), .val .null, .unset] [])) := (c2.trans (st3 _ (Steps.refl _))).trans (by
    refine XS.iloadN X3.here hexec rfl (hb hbytes d4) rfl ?_
    refine XS.ifYes X3.here hexec rfl (pc0 := 5) rfl (hb hbytes d5) rfl (i0_ne_t (nz32 (by omega) l0)) (by decide) rfl ?_
    exact Steps.refl _)
  obtain ⟨T5, X5, q5, st5⟩ := X3.sget hexec hown (wk W (.fieldLink "java/lang/String" 38 "java/lang/String" "COMPACT_STRINGS" "Z")) s1 (fun _ _ h => by rw [hh3]; exact h) (g := (mkF m 27 #[.val (.ref a), .val (.ref b), .val (.int (Int32.ofNat o)), .val (.int (Int32.ofNat len)), .val .null, .unset] [])) rfl (hb hbytes d27)
  have hh5 := q5.trans hh3
  have c6 : Steps p.tables e below (s₁.setTop (entryFrame m #[.ref a, .ref b, .int (Int32.ofNat o), .int (Int32.ofNat len), .null] 6)) (T5.setTop (mkF m 30 #[.val (.ref a), .val (.ref b), .val (.int (Int32.ofNat o)), .val (.int (Int32.ofNat len)), .val .null, .unset] [.int z])) := c4.trans (st5 _ (Steps.refl _))
  have c7 : Steps p.tables e below (s₁.setTop (entryFrame m #[.ref a, .ref b, .int (Int32.ofNat o), .int (Int32.ofNat len), .null] 6)) (T5.setTop (mkF m 36 #[.val (.ref a), .val (.ref b), .val (.int (Int32.ofNat o)), .val (.int (Int32.ofNat len)), .val .null, .unset] [.int (Int32.ofNat len), .int (Int32.ofNat o), .ref b])) := c6.trans (by
    refine XS.ifNo X5.here hexec rfl (hb hbytes d30) rfl (i0_eq_f hz) ?_
    refine XS.aloadN X5.here hexec rfl (hb hbytes d33) rfl rfl ?_
    refine XS.iloadN X5.here hexec rfl (hb hbytes d34) rfl ?_
    refine XS.iloadN X5.here hexec rfl (hb hbytes d35) rfl ?_
    exact Steps.refl _)
  obtain ⟨v8, T8, X8, E8, g8⟩ := X5.callS hexec (Cmp3.law l b A o len) hown (wks W (staticW "java/lang/String" 177 Cmp3.yN)) (wk W Cmp3.tab) (W := 0) (Nat.le_of_ble_eq_true rfl) (Nat.le_of_ble_eq_true rfl) (Nat.le_refl _) (by show 0 + len ≤ len; omega) (g := (mkF m 36 #[.val (.ref a), .val (.ref b), .val (.int (Int32.ofNat o)), .val (.int (Int32.ofNat len)), .val .null, .unset] [.int (Int32.ofNat len), .int (Int32.ofNat o), .ref b])) rfl (by rw [hml]; rfl) c7 (argsL := [.ref b, .int (Int32.ofNat o), .int (Int32.ofNat len)]) (rest := []) rfl rfl (by show 2 * 0 + 0 ≤ _; decide) (hb hbytes d36) (⟨rfl, hA.mv X5.warmed.alike hh5, l1, l2, hp⟩)
  obtain ⟨e8, z8⟩ := E8
  obtain ⟨rfl, N, n1, n2, n3, n4, n5, n6⟩ := NewArr.mv _ T5 s _ _ hh5.symm (Vm.Alike.refl _) rfl e8
  rw [hh5] at z8
  have hB1 := hB.keep X8.warmed.alike (n6 _ _ hB.1)
  have hne : s.heap.size ≠ a := (Nat.ne_of_lt (Array.getElem?_eq_some_iff.mp hB.1).1).symm
  have c9 : Steps p.tables e below (s₁.setTop (entryFrame m #[.ref a, .ref b, .int (Int32.ofNat o), .int (Int32.ofNat len), .null] 6)) (T8.setTop (mkF m 39 #[.val (.ref a), .val (.ref b), .val (.int (Int32.ofNat o)), .val (.int (Int32.ofNat len)), .val .null, .unset] [.ref s.heap.size])) := g8
  have c10 : Steps p.tables e below (s₁.setTop (entryFrame m #[.ref a, .ref b, .int (Int32.ofNat o), .int (Int32.ofNat len), .null] 6)) (T8.setTop (mkF m 45 #[.val (.ref a), .val (.ref b), .val (.int (Int32.ofNat o)), .val (.int (Int32.ofNat len)), .val .null, .val (.ref s.heap.size)] [.int (Int32.ofNat N.slots.size), .ref s.heap.size, .ref a])) := by
    have hc : Steps p.tables e below (s₁.setTop (entryFrame m #[.ref a, .ref b, .int (Int32.ofNat o), .int (Int32.ofNat len), .null] 6)) (T8.setTop (mkF m 45 #[.val (.ref a), .val (.ref b), .val (.int (Int32.ofNat o)), .val (.int (Int32.ofNat len)), .val .null, .val (.ref s.heap.size)] [.int (Int32.ofNat len), .ref s.heap.size, .ref a])) := c9.trans (by
      refine XS.astore X8.here hexec rfl (hb hbytes d39) rfl rfl rfl ?_
      refine XS.aloadN X8.here hexec rfl (hb hbytes d41) rfl rfl ?_
      refine XS.aload X8.here hexec rfl (hb hbytes d42) rfl rfl ?_
      refine XS.iloadN X8.here hexec rfl (hb hbytes d44) rfl ?_
      exact Steps.refl _)
    rw [n4]; exact hc
  obtain ⟨v11, T11, X11, E11, g11⟩ := X8.callS hexec (CodL.law l s.heap.size N) hown (wks W (staticW "java/lang/String" 47 CodL.yN)) (wk W CodL.tab) (W := 1) (Nat.le_of_ble_eq_true rfl) (Nat.le_of_ble_eq_true rfl) (Nat.le_refl _) (by show 0 + len + 0 ≤ len; omega) (g := (mkF m 45 #[.val (.ref a), .val (.ref b), .val (.int (Int32.ofNat o)), .val (.int (Int32.ofNat len)), .val .null, .val (.ref s.heap.size)] [.int (Int32.ofNat N.slots.size), .ref s.heap.size, .ref a])) rfl (by rw [hml]; rfl) c10 (argsL := [.ref s.heap.size, .int (Int32.ofNat N.slots.size)]) (rest := [.ref a]) rfl rfl (by show 2 * 0 + (1 + 0) ≤ _; decide) (hb hbytes d45) (⟨rfl, n1⟩)
  obtain ⟨rfl, q11⟩ := E11
  have hB11 := hB1.mv (X8.warmed.alike.symm.trans X11.warmed.alike) q11
  have c12 : Steps p.tables e below (s₁.setTop (entryFrame m #[.ref a, .ref b, .int (Int32.ofNat o), .int (Int32.ofNat len), .null] 6)) (T11.setTop (mkF m 48 #[.val (.ref a), .val (.ref b), .val (.int (Int32.ofNat o)), .val (.int (Int32.ofNat len)), .val .null, .val (.ref s.heap.size)] [.int 0, .ref a])) := g11
  obtain ⟨T13, X13, p13, bl13, sl13, st13⟩ := X11.finit hexec hown (wk W (.fieldLink "java/lang/String" 15 "java/lang/String" "coder" "B")) (Or.inr ⟨_, (wk W (.laysFinal "java/lang/String" "java/lang/String" "coder" "B"))⟩) (Or.inl ⟨rfl, hnm⟩) f2 (Or.inl rfl) hB11 (t := .byte) (by decide +kernel) rfl (g := (mkF m 48 #[.val (.ref a), .val (.ref b), .val (.int (Int32.ofNat o)), .val (.int (Int32.ofNat len)), .val .null, .val (.ref s.heap.size)] [.int 0, .ref a])) rfl (rest := []) rfl (hb hbytes d48)
  have c14 : Steps p.tables e below (s₁.setTop (entryFrame m #[.ref a, .ref b, .int (Int32.ofNat o), .int (Int32.ofNat len), .null] 6)) (T13.setTop (mkF m 54 #[.val (.ref a), .val (.ref b), .val (.int (Int32.ofNat o)), .val (.int (Int32.ofNat len)), .val .null, .val (.ref s.heap.size)] [.ref s.heap.size, .ref a])) := (c12.trans (st13 _ (Steps.refl _))).trans (by
    refine XS.aloadN X13.here hexec rfl (hb hbytes d51) rfl rfl ?_
    refine XS.aload X13.here hexec rfl (hb hbytes d52) rfl rfl ?_
    exact Steps.refl _)
  obtain ⟨T15, X15, p15, bl15, sl15, st15⟩ := X13.finit hexec hown (wk W (.fieldLink "java/lang/String" 9 "java/lang/String" "value" "[B")) (Or.inr ⟨_, (wk W (.laysFinal "java/lang/String" "java/lang/String" "value" "[B"))⟩) (Or.inl ⟨rfl, hnm⟩) f1 (Or.inl rfl) bl13 (t := (.array .byte)) (by decide +kernel) rfl (g := (mkF m 54 #[.val (.ref a), .val (.ref b), .val (.int (Int32.ofNat o)), .val (.int (Int32.ofNat len)), .val .null, .val (.ref s.heap.size)] [.ref s.heap.size, .ref a])) rfl (rest := []) rfl (hb hbytes d54)
  have c16 : Steps p.tables e below (s₁.setTop (entryFrame m #[.ref a, .ref b, .int (Int32.ofNat o), .int (Int32.ofNat len), .null] 6)) (T15.setTop (mkF m 57 #[.val (.ref a), .val (.ref b), .val (.int (Int32.ofNat o)), .val (.int (Int32.ofNat len)), .val .null, .val (.ref s.heap.size)] [])) := c14.trans (st15 _ (Steps.refl _))
  have ap := apart (Or.inr ⟨_, (wk W (.laysFinal "java/lang/String" "java/lang/String" "value" "[B"))⟩) (Or.inr ⟨_, (wk W (.laysFinal "java/lang/String" "java/lang/String" "coder" "B"))⟩) f1 f2 (t₁ := .array .byte) (t₂ := .byte) (by decide +kernel) (by decide +kernel) (by decide)
  have al := X8.warmed.alike.symm.trans X15.warmed.alike
  have n7 : T11.heap[s.heap.size]? = some N := by rw [q11]; exact n1.1
  exact ⟨T15, none, _, _, _, X15, by simp, rfl, by omega, (fun _ => rfl), ⟨rfl, _, N, bl15, ((Same.refl D _).set _ (by simp)).set _ (by simp), sl15, (Cell.slots_setSlot_ne _ ap).trans sl13, n1.keep al (p15.other hne (p13.other hne n7)), n2, by rw [al.findClass]; exact n3, n4, n5, fun y c h1 h2 => p15.other h1 (p13.other h1 (by rw [q11]; exact n6 y c h2)), by rw [p15.2.2, p13.2.2, q11]; exact z8⟩, fun fs hl => c16.trans (X15.returnOut hexec hret (hb hbytes d57) hl)⟩
end New4
namespace New1
def yN : MethodName := ⟨"java/lang/String", "<init>", "([C)V"⟩
abbrev yB : ByteArray := jdk_42_method_3_code
theorem d0 : decode yB 0 = .ok (.aload_n 0, 1) := by decide +kernel
theorem d1 : decode yB 1 = .ok (.aload_n 1, 1) := by decide +kernel
theorem d2 : decode yB 2 = .ok (.iconst 0, 1) := by decide +kernel
theorem d3 : decode yB 3 = .ok (.aload_n 1, 1) := by decide +kernel
theorem d4 : decode yB 4 = .ok (.arraylength, 1) := by decide +kernel
theorem d5 : decode yB 5 = .ok (.aconst_null, 1) := by decide +kernel
theorem d6 : decode yB 6 = .ok (.invokespecial 27, 3) := by decide +kernel
theorem d9 : decode yB 9 = .ok (.return_, 1) := by decide +kernel
def site : List Cond := [New4.tab] ++ initW "java/lang/String" 27 New4.yN
def tab : Cond := tabOf yN yB 2 none site
def P (a : Addr) (D : Cell) (fV fC : Field) (b : Addr) (A : Cell) (z : Int32) (args : Array Value) (s : State) : Prop := args = #[.ref a, .ref b] ∧ Blank "java/lang/String" a D s ∧ Found "java/lang/String" "value" "[B" fV s ∧ Found "java/lang/String" "coder" "B" fC s ∧ Ch b A s ∧ StaticIs s "java/lang/String" "COMPACT_STRINGS" "Z" (.int z) ∧ ¬ z = 0 ∧ 0 < A.slots.size ∧ A.slots.size ≤ 536870912 ∧ ∀ i, i < A.slots.size → ¬ 255 < cv A i
def E (a : Addr) (D : Cell) (fV fC : Field) (A : Cell) (r : Option Value) (s u : State) : Prop := Got a D fV fC A 0 A.slots.size r s u
/-- new String(chars), not empty, no char above 255: a Latin-1 String of their low bytes -/
theorem law (l : Launch) (a : Addr) (D : Cell) (fV fC : Field) (b : Addr) (A : Cell) (z : Int32) : Law l yN 2 1 3 52 yB 2 none site (P a D fV fC b A z) (E a D fV fC A) [⟨a, fC.slot⟩, ⟨a, fV.slot⟩] 1 A.slots.size := by
  refine Law.of_walk (plainFor_of_name (by decide +kernel)) (by decide +kernel) (by decide +kernel) (by decide) (fun _ _ h => by rw [h.1]; rfl) (fun _ U U' hal hh h => ⟨h.1, h.2.1.mv hal hh, h.2.2.1.al hal, h.2.2.2.1.al hal, h.2.2.2.2.1.mv hal hh, h.2.2.2.2.2.1.there hal hh, h.2.2.2.2.2.2⟩) (fun r U U' V V' h1 hal h2 h => Got.mv r U U' V V' h1 hal h2 h) ?_
  intro p e s m args below meth c s₁ X0 hexec hbytes hml hret hlk hnm hown hh0 W hP
  obtain ⟨rfl, hB, f1, f2, hA, s1, hz, l0, l2, hp⟩ := hP
  have c1 : Steps p.tables e below (s₁.setTop (entryFrame m #[.ref a, .ref b] 2)) (s₁.setTop (mkF m 0 #[.val (.ref a), .val (.ref b)] [])) := entry rfl
  have c2 : Steps p.tables e below (s₁.setTop (entryFrame m #[.ref a, .ref b] 2)) (s₁.setTop (mkF m 6 #[.val (.ref a), .val (.ref b)] [.null, .int (Int32.ofNat A.slots.size), .int 0, .ref b, .ref a])) := c1.trans (by
    refine XS.aloadN X0.here hexec rfl (hb hbytes d0) rfl rfl ?_
    refine XS.aloadN X0.here hexec rfl (hb hbytes d1) rfl rfl ?_
    refine iconstV X0.here hexec rfl 0 (hb hbytes d2) (by decide) ?_
    refine XS.aloadN X0.here hexec rfl (hb hbytes d3) rfl rfl ?_
    refine X0.alen hexec (hA.1.mv X0.warmed.alike hh0) rfl rfl (hb hbytes d4) ?_
    refine XS.aconstNull X0.here hexec rfl (hb hbytes d5) ?_
    exact Steps.refl _)
  obtain ⟨v3, T3, X3, E3, g3⟩ := X0.callN hexec (New4.law l a D fV fC b A z 0 A.slots.size) rfl hown (wks W (initW "java/lang/String" 27 New4.yN)) (W New4.tab (by simp only [site, List.mem_cons, List.mem_append, true_or, or_true])) (W := 0) (Nat.le_of_ble_eq_true rfl) (Nat.le_of_ble_eq_true rfl) (Nat.le_refl _) (by show 0 + A.slots.size ≤ A.slots.size; omega) (g := (mkF m 6 #[.val (.ref a), .val (.ref b)] [.null, .int (Int32.ofNat A.slots.size), .int (Int32.ofNat 0), .ref b, .ref a])) rfl (by rw [hml]; rfl) c2 (argsL := [.ref b, .int (Int32.ofNat 0), .int (Int32.ofNat A.slots.size), .null]) (rest := []) rfl rfl (by show 2 * 0 + 0 ≤ _; decide) (hb hbytes d6) (⟨rfl, hB.mv X0.warmed.alike hh0, f1.al X0.warmed.alike, f2.al X0.warmed.alike, hA.mv X0.warmed.alike hh0, s1.there X0.warmed.alike hh0, hz, l0, by omega, l2, fun i hi => by rw [Nat.zero_add]; exact hp i hi⟩)
  have e0 := Got.mv _ s₁ s _ _ hh0.symm (Vm.Alike.refl _) rfl E3
  obtain rfl := e0.1
  have c4 : Steps p.tables e below (s₁.setTop (entryFrame m #[.ref a, .ref b] 2)) (T3.setTop (mkF m 9 #[.val (.ref a), .val (.ref b)] [])) := g3
  exact ⟨T3, none, _, _, _, X3, by simp, rfl, by omega, (fun _ => rfl), e0, fun fs hl => c4.trans (X3.returnOut hexec hret (hb hbytes d9) hl)⟩
theorem pays {l : Launch} {R : Room} {p : Program} {e : Env} {below : List Frame} {s : State} {sargs : Array Value} {len W : Nat} (a : Addr) (D : Cell) (fV fC : Field) (b : Addr) (A : Cell) (z : Int32) (htab : tab.before sargs s = true) (hfr : 4 ≤ R.frames) (hlo : W + 65 ≤ R.locals) :
    Back l R p e below s sargs yN len W (fun A₁ a₁ => A₁.cells + 1 ≤ R.cells ∧ A₁.slots + A.slots.size ≤ R.slots ∧ P a D fV fC b A z a₁ A₁.U) (fun A₁ _ v₁ B₁ => E a D fV fC A v₁ A₁.U B₁.U ∧ B₁.locs = A₁.locs ++ [⟨a, fC.slot⟩, ⟨a, fV.slot⟩] ∧ B₁.cells = A₁.cells + 1 ∧ B₁.slots = A₁.slots + A.slots.size) :=
  (law l a D fV fC b A z).pays htab hfr (by omega)
end New1
/-- the byte, read back as charAt reads it, is the char -/
theorem lo8_mask {x : Int32} (h0 : ¬ x < 0) (h1 : ¬ 255 < x) : lo8 x &&& 255 = x := by
  have t : ∀ k : Fin 256, lo8 (Int32.ofNat k.val) &&& 255 = Int32.ofNat k.val := by decide +kernel
  rw [Int32.lt_iff_toInt_lt] at h0 h1
  have e0 : (0 : Int32).toInt = 0 := rfl
  have e1 : (255 : Int32).toInt = 255 := rfl
  obtain ⟨k, hk⟩ : ∃ k : Nat, x.toInt = k := ⟨x.toInt.toNat, by omega⟩
  have hx : x = Int32.ofNat k := Int32.toInt_inj.mp (by rw [hk, Int32.toInt_ofNat_small (by omega)])
  rw [hx]
  exact t ⟨k, by omega⟩
end StrChars
namespace StrChars.Road
open Jvm Sem ClassFile Op Lib Jvm.Stand Jvm.Free Jvm.Free.XT
open Jvm.Lib.Cold (StaticIs)
abbrev ST : String := "java/lang/String"
/-- every table word that New1's law asks, flat -/
abbrev words : List Jvm.Cond := [.code New1.yN New1.yB 2 none, .initialized ST, .methodLink ST 27 New4.yN, .instanceMethod New4.yN,
  .code New4.yN New4.yB 6 none, .fieldLink ST 38 ST "COMPACT_STRINGS" "Z", .laysFinal ST ST "value" "[B", .fieldLink ST 9 ST "value" "[B", .laysFinal ST ST "coder" "B", .fieldLink ST 15 ST "coder" "B",
  .methodLink ST 1 Lib.objectInit, .instanceMethod Lib.objectInit, .code Lib.objectInit ⟨#[0xb1]⟩ 1 none, .methodLink ST 177 Cmp3.yN, .static Cmp3.yN, .methodLink ST 47 CodL.yN, .static CodL.yN,
  .code Cmp3.yN Cmp3.yB 6 (some (.array .byte)), .initialized U16, .arrayClass .byte, .methodLink U16 115 Cmp5.yN, .static Cmp5.yN, .code Cmp5.yN Cmp5.yB 7 (some .int), .code CodL.yN CodL.yB 2 (some .byte)]
theorem tab_of {a : Array Value} {s : State} (h : ∀ w ∈ words, w.before a s = true) : New1.tab.before a s = true := by
  have h5 : Cmp5.tab.before a s = true := unparts (wk h (.code Cmp5.yN Cmp5.yB 7 (some .int))) (wks h (.initialized Cmp5.yN.cls :: Cmp5.site))
  have hc : CodL.tab.before a s = true := unparts (wk h (.code CodL.yN CodL.yB 2 (some .byte))) (wks h (.initialized CodL.yN.cls :: CodL.site))
  have q5 : ∀ w ∈ Cmp5.tab :: words, w.before a s = true := fun w hw => (List.mem_cons.mp hw).elim (fun e => e ▸ h5) (h w)
  have h3 : Cmp3.tab.before a s = true := unparts (wk q5 (.code Cmp3.yN Cmp3.yB 6 (some (.array .byte)))) (wks q5 (.initialized Cmp3.yN.cls :: Cmp3.site))
  have q3 : ∀ w ∈ Cmp3.tab :: CodL.tab :: words, w.before a s = true := fun w hw => (List.mem_cons.mp hw).elim (fun e => e ▸ h3) fun hw => (List.mem_cons.mp hw).elim (fun e => e ▸ hc) (h w)
  have h4 : New4.tab.before a s = true := unparts (wk q3 (.code New4.yN New4.yB 6 none)) (wks q3 (.initialized New4.yN.cls :: New4.site))
  have q4 : ∀ w ∈ New4.tab :: words, w.before a s = true := fun w hw => (List.mem_cons.mp hw).elim (fun e => e ▸ h4) (h w)
  exact unparts (wk q4 (.code New1.yN New1.yB 2 none)) (wks q4 (.initialized New1.yN.cls :: New1.site))
/-- the words ride from the start Z to the walk's own state -/
theorem moved {Z s : State} {a0 args : Array Value} (hZ : Z.Warmed39 s.vm) (hw : ∀ d ∈ words, d.before a0 Z = true) : ∀ d ∈ words, d.before args s = true := fun d hd => by
  have q := hw d hd
  have t : ∀ d ∈ words, d = .arrayClass .byte ∨ (d.onTables && d.keepsFace) = true := by decide +kernel
  rcases t d hd with rfl | t
  · exact RoadKit.mvA hZ q
  · exact RoadKit.mv hZ q t
/-- WHAT COMES BACK, over the tables of the start Z: h the heap at the call, h' behind it -/
def Q (Z : State) (x : Addr) (A : Cell) (h : Heap) (v : Option Value) (h' : Heap) (L : List Loc) : Prop := v = none ∧ (∀ y ∈ L, y.base = x) ∧ RoadKit.Keep h h' [x] ∧ h'.size = h.size + 1 ∧ RoadKit.Exa Z h' x ST ∧ RoadKit.Fld Z h' x ST "value" "[B" (.ref h.size) ∧ RoadKit.Fld Z h' x ST "coder" "B" (.int 0) ∧
  (∃ V : Cell, RoadKit.Arr Z h' h.size V .byte ∧ V.vm = .none ∧ Z.vm.findClass "[B" = some V.cls ∧ V.slots.size = A.slots.size ∧ ∀ j, j < A.slots.size → V.slots[j]? = some (.int (lo8 (cv A j)))) ∧
  ∀ (O n d : String) (w : Value), RoadKit.Fld Z h x O n d w → RoadKit.slotOf Z O n d ≠ RoadKit.slotOf Z ST "value" "[B" → RoadKit.slotOf Z O n d ≠ RoadKit.slotOf Z ST "coder" "B" → RoadKit.Fld Z h' x O n d w
/-- **new String(chars) AT A CALL, IN THE ROAD'S FORM**: for specialBack behind newO: x the fresh String, b the char[] with the cell A -/
theorem back {p : Program} {l : Launch} {e : Env} {R : Room} {s : State} {args : Array Value} {below : List Frame} {len W : Nat} {Z : State} {a0 : Array Value} {h : Heap} (hZ : Z.Warmed39 s.vm) (hw : ∀ d ∈ words, d.before a0 Z = true) {kI : Nat} (wi : (Jvm.Cond.instantiable ST kI).before a0 Z = true)
    {x b : Addr} {A : Cell} {z : Int32} {v0 c0 : Value} (E : RoadKit.Exa Z h x ST) (V : RoadKit.Fld Z h x ST "value" "[B" v0) (C : RoadKit.Fld Z h x ST "coder" "B" c0) (K : RoadKit.Arr Z h b A .char) (hty : Typed .char A) (S : RoadKit.Sta Z h ST "COMPACT_STRINGS" "Z" (.int z)) (hz : ¬ z = 0)
    (l0 : 0 < A.slots.size) (l2 : A.slots.size ≤ 536870912) (hp : ∀ i, i < A.slots.size → ¬ 255 < cv A i) (hfr : 4 ≤ R.frames) (hlo : W + 65 ≤ R.locals) :
    Back l R p e below s args New1.yN len W (fun P a => a = #[.ref x, .ref b] ∧ P.U.heap = h ∧ P.cells + 1 ≤ R.cells ∧ P.slots + A.slots.size ≤ R.slots)
      (fun P _ v B => ∃ L, Q Z x A h v B.U.heap L ∧ B.locs = P.locs ++ L ∧ B.cells = P.cells + 1 ∧ B.slots = P.slots + A.slots.size) := by
  intro m meth c P g ig mk a X hg hsize hdg hW hn hp'
  obtain ⟨rfl, rfl, r1, r2⟩ := hp'
  have al : Z.vm.Alike P.U.vm := hZ.alike.trans X.warmed.alike
  obtain ⟨D, cfV, kV, iV, fV, hD, gV, stV, knV, obV, asV, slV⟩ := id V
  obtain ⟨D', cfC, kC, iC, fC, hD', gC, stC, -, -, asC, slC⟩ := id C
  cases hD.symm.trans hD'
  obtain ⟨D2, kD, e1, e2, e3, e4, e5⟩ := id E
  cases hD.symm.trans e1
  obtain ⟨c2, k2, i1, i2, i3, -⟩ := Cond.instantiable_spec wi
  cases e2.symm.trans i1
  cases e3.symm.trans i2
  obtain ⟨kU, u1, u2⟩ := al.2.2 _ _ e3
  have hB : Blank ST x D P.U := ⟨hD, ⟨knV, fun q hq => by rw [hq] at obV; cases obV⟩, by rw [al.findClass]; exact e2, kU, u1, by rw [u2]; exact i3, by rw [u2]; exact e5 i3⟩
  have F1 : Found ST "value" "[B" fV P.U := ⟨SBG.found_only al ⟨cfV, kV, iV, gV⟩, stV⟩
  have F2 : Found ST "coder" "B" fC P.U := ⟨SBG.found_only al ⟨cfC, kC, iC, gC⟩, stC⟩
  have hA : Ch b A P.U := ⟨⟨K.1, State.isArrayOf_alike al K.2.1, K.2.2, by omega⟩, hty⟩
  have hS : StaticIs P.U ST "COMPACT_STRINGS" "Z" (.int z) := by
    obtain ⟨cfS, iS, kS, fS, st, cS, t1, t2, t3, t4, t5, t6, t7⟩ := S
    exact StaticIs.there (s := { Z with heap := P.U.heap }) ⟨cfS, iS, kS, fS, st, cS, t1, t2, t3, t4, t5, (fun q => by rw [q] at t6; cases t6), t7⟩ al rfl
  obtain ⟨v, B, X', ⟨⟨hv, E', V', q1, q2, q3, q4, q5, q6, q7, q8, q9, q10, q11⟩, hl, hc, hs⟩, st⟩ := New1.pays x D fV fC b A z (tab_of (moved hZ hw)) hfr hlo m meth c P g ig mk _ X hg hsize hdg hW hn ⟨r1, r2, rfl, hB, F1, F2, hA, hS, hz, l0, l2, hp⟩
  have al' : Z.vm.Alike B.U.vm := hZ.alike.trans X'.warmed.alike
  have hsz : E'.slots.size = D.slots.size := by
    obtain ⟨-, -, -, kB, w1, w2, w3⟩ := q1
    obtain ⟨kB', y1, y2⟩ := al'.2.2 _ _ e3
    rw [q2.2.1] at w1
    cases w1.symm.trans y1
    rw [w3, e5 i3, y2]
  refine ⟨v, B, X', ⟨_, ⟨hv, ?_, ⟨by omega, fun y cy hy hn' => q10 y cy (by simpa using hn') hy, fun y cy hy => ?_⟩, q11, ⟨E', _, q1.1, by rw [q2.2.1]; exact e2, by rw [q2.2.1]; exact e3, by rw [q2.1]; exact obV, fun _ => by rw [hsz]; exact e5 i3⟩,
    ⟨E', cfV, kV, iV, fV, q1.1, gV, stV, by rw [q2.1]; exact knV, by rw [q2.1]; exact obV, by rw [q2.2.1]; exact asV, q3⟩, ⟨E', cfC, kC, iC, fC, q1.1, gC, stC, by rw [q2.1]; exact knV, by rw [q2.1]; exact obV, by rw [q2.2.1]; exact asC, q4⟩,
    ⟨V', ⟨q5.1, State.isArrayOf_alike al'.symm q5.2.1, q5.2.2.1⟩, q6, by rw [← al'.findClass]; exact q7, q8, fun j hj => by have := q9 j hj; rwa [Nat.zero_add] at this⟩, fun O n d w F n1 n2 => ?_⟩, hl, hc, hs⟩, st⟩
  · intro y hy
    simp only [List.mem_cons, List.not_mem_nil, or_false] at hy
    rcases hy with rfl | rfl <;> rfl
  · by_cases q : y = x
    · subst q
      cases hD.symm.trans hy
      exact ⟨E', q1.1, q2.2.1, q2.1, hsz⟩
    · exact ⟨cy, q10 y cy q hy, rfl, rfl, rfl⟩
  · obtain ⟨D3, cf, k, i, f, g1, g2, g3, g4, g5, g6, g7⟩ := F
    cases hD.symm.trans g1
    simp only [RoadKit.slotOf, g2, gV, gC, Option.map_some, Option.getD_some] at n1 n2
    exact ⟨E', cf, k, i, f, q1.1, g2, g3, by rw [q2.1]; exact g4, by rw [q2.1]; exact g5, by rw [q2.2.1]; exact g6, by rw [q2.2.2 f.slot (by simp [n1, n2])]; exact g7⟩
end StrChars.Road
namespace StrChars.Road
open Jvm Sem ClassFile Op Lib Jvm.Stand Jvm.Free Jvm.Free.XT
/-- WHAT COMES BACK, the byte[] as a list of values -/
def QA (Z : State) (x : Addr) (zn : Int32) (cs : List Int32) (h : Heap) (v : Option Value) (h' : Heap) (L : List Loc) : Prop := v = none ∧ (∀ y ∈ L, y.base = x) ∧ RoadKit.Keep h h' [x] ∧ h'.size = h.size + 1 ∧ RoadKit.Exa Z h' x ST ∧ RoadKit.Fld Z h' x ST "value" "[B" (.ref h.size) ∧ RoadKit.Fld Z h' x ST "coder" "B" (.int 0) ∧
  (∃ kb, Z.vm.findClass "[B" = some kb ∧ RoadKit.Arv Z h' h.size kb .byte zn (cs.map fun c => .int (lo8 c)) (.int 0)) ∧
  ∀ (O n d : String) (w : Value), RoadKit.Fld Z h x O n d w → RoadKit.slotOf Z O n d ≠ RoadKit.slotOf Z ST "value" "[B" → RoadKit.slotOf Z O n d ≠ RoadKit.slotOf Z ST "coder" "B" → RoadKit.Fld Z h' x O n d w
/-- **new String(chars) AT A CALL, THE ARRAYS AS LISTS**: the char[] at b holds cs, not empty, no char above 255 -/
theorem backArv {p : Program} {l : Launch} {e : Env} {R : Room} {s : State} {args : Array Value} {below : List Frame} {len W : Nat} {Z : State} {a0 : Array Value} {h : Heap} (hZ : Z.Warmed39 s.vm) (hw : ∀ d ∈ words, d.before a0 Z = true) {kI : Nat} (wi : (Jvm.Cond.instantiable ST kI).before a0 Z = true)
    {x b : Addr} {k : ClassId} {zn z : Int32} {cs : List Int32} {dv v0 c0 : Value} (E : RoadKit.Exa Z h x ST) (V : RoadKit.Fld Z h x ST "value" "[B" v0) (C : RoadKit.Fld Z h x ST "coder" "B" c0) (K : RoadKit.Arv Z h b k .char zn (cs.map Value.int) dv) (S : RoadKit.Sta Z h ST "COMPACT_STRINGS" "Z" (.int z)) (hz : ¬ z = 0)
    (hlen : zn.toNatClampNeg = cs.length) (h0 : 0 < cs.length) (hbig : cs.length ≤ 536870912) (hall : ∀ c ∈ cs, ¬ 255 < c) (hfr : 4 ≤ R.frames) (hlo : W + 65 ≤ R.locals) :
    Back l R p e below s args New1.yN len W (fun P a => a = #[.ref x, .ref b] ∧ P.U.heap = h ∧ P.cells + 1 ≤ R.cells ∧ P.slots + cs.length ≤ R.slots)
      (fun P _ v B => ∃ L, QA Z x zn cs h v B.U.heap L ∧ B.locs = P.locs ++ L ∧ B.cells = P.cells + 1 ∧ B.slots = P.slots + cs.length) := by
  obtain ⟨A, K1, K2, K3, K4, K5, K6⟩ := K
  have e : A.slots.size = cs.length := K3.trans hlen
  have hat : ∀ (i : Nat) (hi : i < cs.length), A.slots[i]? = some (.int cs[i]) := fun i hi => by rw [K5 i (by omega)]; simp [List.getD_eq_getElem?_getD, hi]
  have hcv : ∀ (i : Nat) (hi : i < cs.length), cv A i = cs[i] := fun i hi => by unfold cv; rw [hat i hi]
  have hty : Typed .char A := fun i v hv => by
    have hi : i < A.slots.size := (Array.getElem?_eq_some_iff.mp hv).1
    have q := K5 i hi
    rw [hv] at q
    rw [Option.some.inj q]
    exact K6 i hi
  refine Back.mono (back hZ hw wi E V C K1 hty S hz (by omega) (by omega) (fun i hi => by rw [hcv i (by omega)]; exact hall _ (List.getElem_mem _)) hfr hlo) (fun P a hp => ⟨hp.1, hp.2.1, hp.2.2.1, by rw [e]; exact hp.2.2.2⟩) (fun P a v B hp hq => ?_)
  obtain ⟨L, ⟨q1, q2, q3, q4, q5, q6, q7, ⟨V', v1, v2, v3, v4, v5⟩, q9⟩, hl, hc, hs⟩ := hq
  refine ⟨L, ⟨q1, q2, q3, q4, q5, q6, q7, ⟨V'.cls, v3, V', v1, rfl, by rw [v4, e, hlen], K4, fun i hi => ?_, fun i hi => ?_⟩, q9⟩, hl, hc, by rw [hs, e]⟩
  · have hi' : i < cs.length := by omega
    rw [v5 i (by omega), hcv i hi']; simp [List.getD_eq_getElem?_getD, hi']
  · have hi' : i < cs.length := by omega
    simp only [List.getD_eq_getElem?_getD, List.getElem?_map, List.getElem?_eq_getElem hi', Option.map_some, Option.getD_some]
    exact fits_lo8 _
end StrChars.Road
namespace StrChars.Road
open Jvm Sem ClassFile Op Lib Jvm.Stand Jvm.Free Jvm.Free.XT
/-- WHAT COMES BACK, in the writer's own shape -/
def QV (Z : State) (x : Addr) (N : Int32) (bs : List Int32) (h : Heap) (n0 : Nat) (v : Option Value) (h' : Heap) (L : List Loc) : Prop := v = none ∧ RoadKit.Fr n0 L ∧ RoadKit.Keep h h' [x] ∧ RoadKit.Exa Z h' x ST ∧ RoadKit.Fld Z h' x ST "coder" "B" (.int 0) ∧
  ∃ (t : Addr) (kb : ClassId), n0 ≤ t ∧ h.size ≤ t ∧ ¬ t = x ∧ RoadKit.Fld Z h' x ST "value" "[B" (.ref t) ∧ RoadKit.Arv Z h' t kb .byte N (bs.map Value.int) (.int 0)
/-- **new String(chars) AT A CALL, FOR THE WRITER**: a char[] of n known ints, each 0 to 255 -/
theorem backV {p : Program} {l : Launch} {e : Env} {R : Room} {s : State} {args : Array Value} {below : List Frame} {len W : Nat} {Z : State} {a0 : Array Value} {h : Heap} (hZ : Z.Warmed39 s.vm) (hw : ∀ d ∈ words, d.before a0 Z = true) {kI : Nat} (wi : (Jvm.Cond.instantiable ST kI).before a0 Z = true)
    {x b : Addr} {kC : ClassId} {cs bs : List Int32} {d v0 c0 : Value} {z N : Int32} {n n0 : Nat} (hx0 : n0 ≤ x) (hh0 : n0 ≤ h.size) (E : RoadKit.Exa Z h x ST) (V : RoadKit.Fld Z h x ST "value" "[B" v0) (C : RoadKit.Fld Z h x ST "coder" "B" c0) (K : RoadKit.Arv Z h b kC .char N (cs.map Value.int) d) (S : RoadKit.Sta Z h ST "COMPACT_STRINGS" "Z" (.int z)) (hz : ¬ z = 0)
    (hn : cs.length = n) (hN : N = Int32.ofNat n) (l0 : 0 < n) (l2 : n ≤ 4000) (hp : ∀ c ∈ cs, ¬ c < 0 ∧ ¬ (255 : Int32) < c) (hb : bs = cs.map (fun c => c.toInt8.toInt32)) (hfr : 4 ≤ R.frames) (hlo : W + 65 ≤ R.locals) :
    Back l R p e below s args (⟨"java/lang/String", "<init>", "([C)V"⟩ : MethodName) len W (fun P a => a = #[.ref x, .ref b] ∧ P.U.heap = h ∧ P.cells + 1 ≤ R.cells ∧ P.slots + n ≤ R.slots)
      (fun P _ v B => ∃ L, QV Z x N bs h n0 v B.U.heap L ∧ B.locs = P.locs ++ L ∧ B.cells = P.cells + 1 ∧ B.slots = P.slots + n) := by
  subst hn hN hb
  refine Back.mono (backArv hZ hw wi E V C K S hz (n32 (by omega)) l0 (by omega) (fun c hc => (hp c hc).2) hfr hlo) (fun P a hp => hp) (fun P a v B hp hq => ?_)
  obtain ⟨L, ⟨q1, q2, q3, q4, q5, q6, q7, ⟨kb, v1, v2⟩, q9⟩, hl, hc, hs⟩ := hq
  exact ⟨L, ⟨q1, fun y hy => by rw [q2 y hy]; exact hx0, q3, q5, q7, h.size, kb, hh0, Nat.le_refl _, Nat.ne_of_gt E.lt, q6, by rw [List.map_map]; exact v2⟩, hl, hc, hs⟩
end StrChars.Road
namespace StrChars
open Jvm Sem ClassFile Op Lib Jvm.Stand Jvm.Free.XT Jvm.Free.ALB Jvm.Free.JM Jvm.Free
open Jvm.Lib.Cold (StaticIs)
def hi8 (x : Int32) : Int32 := lo8 (x >>> ((8 : Int32) &&& 31))
/-- what StringUTF16.getChar makes of two bytes -/
def pairCh (u v : Int32) : Int32 := (((u &&& 255) <<< ((0 : Int32) &&& 31)) ||| ((v &&& 255) <<< ((8 : Int32) &&& 31))).toUInt32.toUInt16.toUInt32.toInt32
theorem lo8_and (x : Int32) : (lo8 x &&& 255).toBitVec.toNat = x.toBitVec.toNat % 256 := by
  have h : (lo8 x).toBitVec = (x.toBitVec.signExtend 8).signExtend 32 := by rw [lo8, Int8.toBitVec_toInt32, Int32.toBitVec_toInt8]
  rw [Int32.toBitVec_and, BitVec.toNat_and, h]
  have e : ((x.toBitVec.signExtend 8).signExtend 32).toNat % 256 = x.toBitVec.toNat % 256 := by
    rw [BitVec.toNat_signExtend]
    have hlt := x.toBitVec.isLt
    simp only [BitVec.toNat_setWidth, BitVec.toNat_signExtend]
    split <;> split <;> omega
  rw [← e]
  exact Nat.and_two_pow_sub_one_eq_mod _ 8
theorem pair_says {c : Int32} (h0 : ¬ c < 0) (h1 : ¬ 65535 < c) : pairCh (lo8 c) (hi8 c) = c := by
  rw [Int32.lt_iff_toInt_lt] at h0 h1
  have e0 : (0 : Int32).toInt = 0 := rfl
  have e1 : (65535 : Int32).toInt = 65535 := rfl
  have hc : c.toInt = c.toBitVec.toNat := by
    have := c.toBitVec.isLt
    have e : c.toInt = c.toBitVec.toInt := rfl
    rw [e] at h0 h1
    rw [e]
    rw [BitVec.toInt_eq_toNat_cond] at h0 h1 ⊢
    split at h0 <;> split <;> omega
  have hn : c.toBitVec.toNat < 65536 := by omega
  have a1 := lo8_and c
  have a2 : (hi8 c &&& 255).toBitVec.toNat = c.toBitVec.toNat / 256 := by
    rw [hi8, lo8_and]
    have e : ((8 : Int32) &&& 31) = 8 := by decide
    rw [e, Int32.toBitVec_shiftRight]
    have e2 : ((8 : Int32).toBitVec.smod 32) = 8#32 := by decide
    rw [e2, BitVec.sshiftRight_eq', BitVec.toNat_sshiftRight_of_msb_false (by rw [BitVec.msb_eq_false_iff_two_mul_lt]; omega)]
    show c.toBitVec.toNat >>> 8 % 256 = _
    rw [Nat.shiftRight_eq_div_pow]
    omega
  unfold pairCh
  apply Int32.toBitVec_inj.mp
  apply BitVec.eq_of_toNat_eq
  have f0 : ((0 : Int32) &&& 31) = 0 := by decide
  have f8 : ((8 : Int32) &&& 31) = 8 := by decide
  rw [f0, f8]
  have g : (((lo8 c &&& 255) <<< (0 : Int32)) ||| ((hi8 c &&& 255) <<< (8 : Int32))).toBitVec.toNat = c.toBitVec.toNat := by
    rw [Int32.toBitVec_or, Int32.toBitVec_shiftLeft, Int32.toBitVec_shiftLeft]
    have s0 : ((0 : Int32).toBitVec.smod 32) = 0#32 := by decide
    have s8 : ((8 : Int32).toBitVec.smod 32) = 8#32 := by decide
    rw [s0, s8, BitVec.toNat_or]
    simp only [BitVec.shiftLeft_eq', BitVec.toNat_shiftLeft, a1, a2]
    show (c.toBitVec.toNat % 256) <<< 0 % 2 ^ 32 ||| (c.toBitVec.toNat / 256) <<< 8 % 2 ^ 32 = _
    rw [Nat.shiftLeft_zero, Nat.mod_eq_of_lt (show c.toBitVec.toNat % 256 < 2 ^ 32 by omega), Nat.mod_eq_of_lt (show (c.toBitVec.toNat / 256) <<< 8 < 2 ^ 32 by rw [Nat.shiftLeft_eq]; omega), Nat.or_comm, ← Nat.shiftLeft_add_eq_or_of_lt (by omega), Nat.shiftLeft_eq]
    omega
  show BitVec.toNat (((((lo8 c &&& 255) <<< (0 : Int32)) ||| ((hi8 c &&& 255) <<< (8 : Int32))).toBitVec.setWidth 16).setWidth 32) = _
  rw [BitVec.toNat_setWidth, BitVec.toNat_setWidth, g]
  omega
end StrChars
namespace StrChars
open Jvm Sem ClassFile Op Lib Jvm.Stand Jvm.Free.XT Jvm.Free.ALB Jvm.Free.JM Jvm.Free
open Jvm.Lib.Cold (StaticIs)
/-- the array's cell V codes the n chars f 0 .. f (n - 1) by the coder cd, as the JDK does: coder 1 just where some char is above 255 -/
def Cod (cd : Int32) (n : Nat) (f : Nat → Int32) (V : Cell) : Prop := (cd = 0 ∧ V.slots.size = n ∧ ∀ j, j < n → V.slots[j]? = some (.int (lo8 (f j))) ∧ ¬ 255 < f j) ∨ (cd = 1 ∧ V.slots.size = 2 * n ∧ (∀ j, j < n → V.slots[2 * j]? = some (.int (lo8 (f j))) ∧ V.slots[2 * j + 1]? = some (.int (hi8 (f j)))) ∧ ∃ j, j < n ∧ 255 < f j)
/-- **x is a String of the n chars f 0 .. f (n - 1)**, Latin-1 or UTF-16; its array at t has the cell V -/
def Txt (x t : Addr) (V : Cell) (cd : Int32) (n : Nat) (f : Nat → Int32) (U : State) : Prop := Exact "java/lang/String" x U ∧ Has x "java/lang/String" "value" "[B" (.ref t) U ∧ Has x "java/lang/String" "coder" "B" (.int cd) U ∧ XT.Arr .byte t V U ∧ Cod cd n f V ∧ ∀ j, j < n → ¬ f j < 0 ∧ ¬ 65535 < f j
theorem Txt.mv {x t : Addr} {V : Cell} {cd : Int32} {n : Nat} {f : Nat → Int32} {U U' : State} (h : Txt x t V cd n f U) (hal : U.vm.Alike U'.vm) (hh : U'.heap = U.heap) : Txt x t V cd n f U' := ⟨h.1.mv hal hh, h.2.1.mv hal hh, h.2.2.1.mv hal hh, h.2.2.2.1.mv hal hh, h.2.2.2.2⟩
end StrChars
namespace StrChars.Road
open Jvm Sem ClassFile Op Lib Jvm.Stand Jvm.Free Jvm.Free.XT
open Jvm.Lib.Cold (StaticIs)
theorem consq {a : Array Value} {s : State} {c : Jvm.Cond} {L : List Jvm.Cond} (h0 : c.before a s = true) (h : ∀ w ∈ L, w.before a s = true) : ∀ w ∈ c :: L, w.before a s = true := fun w hw => (List.mem_cons.mp hw).elim (fun e => e ▸ h0) (h w)
/-- the bytes of the chars cs, low before high -/
def wideBytes : List Int32 → List Value
  | [] => []
  | c :: cs => .int (lo8 c) :: .int (hi8 c) :: wideBytes cs
theorem wide_lo (d : Value) : ∀ (cs : List Int32) (j : Nat), j < cs.length → (wideBytes cs).getD (2 * j) d = .int (lo8 (cs.getD j 0))
  | [], j, h => absurd h (Nat.not_lt_zero j)
  | c :: cs, 0, _ => rfl
  | c :: cs, j + 1, h => by
    have q := wide_lo d cs j (by simpa using h)
    rw [show 2 * (j + 1) = 2 * j + 1 + 1 from by omega]
    simpa [wideBytes] using q
theorem wide_hi (d : Value) : ∀ (cs : List Int32) (j : Nat), j < cs.length → (wideBytes cs).getD (2 * j + 1) d = .int (hi8 (cs.getD j 0))
  | [], j, h => absurd h (Nat.not_lt_zero j)
  | c :: cs, 0, _ => rfl
  | c :: cs, j + 1, h => by
    have q := wide_hi d cs j (by simpa using h)
    rw [show 2 * (j + 1) + 1 = 2 * j + 1 + 1 + 1 from by omega]
    simpa [wideBytes] using q
theorem low_at (d : Value) (cs : List Int32) (j : Nat) (h : j < cs.length) : (cs.map fun c => Value.int (lo8 c)).getD j d = .int (lo8 (cs.getD j 0)) := by
  simp [List.getD_eq_getElem?_getD, h]
/-- an array of N2 bytes vs codes the chars cs by the coder cd -/
def CodA (cs : List Int32) (cd N2 : Int32) (vs : List Value) : Prop := (cd = 0 ∧ N2 = Int32.ofNat cs.length ∧ vs = (cs.map fun c => Value.int (lo8 c)) ∧ ∀ c ∈ cs, ¬ 255 < c) ∨ (cd = 1 ∧ N2 = Int32.ofNat (2 * cs.length) ∧ vs = wideBytes cs ∧ ∃ c ∈ cs, 255 < c)
theorem CodA.cod {cs : List Int32} {cd N2 : Int32} {vs : List Value} {V : Cell} (h : CodA cs cd N2 vs) (hn : 2 * cs.length < 2 ^ 31) (hs : V.slots.size = N2.toNatClampNeg) (hv : RoadKit.Has V vs (.int 0)) : Cod cd cs.length (fun j => cs.getD j 0) V := by
  rcases h with ⟨rfl, rfl, rfl, h⟩ | ⟨rfl, rfl, rfl, c, hc, hw⟩
  · rw [n32 (by omega)] at hs
    exact Or.inl ⟨rfl, hs, fun j hj => ⟨by rw [hv j (by omega), low_at _ _ _ hj], by
      have e : cs.getD j 0 = cs[j] := by simp [List.getD_eq_getElem?_getD, hj]
      show ¬ 255 < cs.getD j 0
      rw [e]; exact h _ (List.getElem_mem _)⟩⟩
  · rw [n32 (by omega)] at hs
    obtain ⟨j, hj, rfl⟩ := List.getElem_of_mem hc
    exact Or.inr ⟨rfl, hs, fun j hj => ⟨by rw [hv _ (by omega), wide_lo _ _ _ hj], by rw [hv _ (by omega), wide_hi _ _ _ hj]⟩, j, hj, by
      have e : cs.getD j 0 = cs[j] := by simp [List.getD_eq_getElem?_getD, hj]
      show 255 < cs.getD j 0
      rw [e]; exact hw⟩
/-- an object of exactly java/lang/String, its two fields found: as the laws ask it -/
theorem strObj {Z U : State} {a0 : Array Value} {kI : Nat} (wi : (Jvm.Cond.instantiable ST kI).before a0 Z = true) (al : Z.vm.Alike U.vm) {x : Addr} {v0 c0 : Value} (E : RoadKit.Exa Z U.heap x ST) (V : RoadKit.Fld Z U.heap x ST "value" "[B" v0) (C : RoadKit.Fld Z U.heap x ST "coder" "B" c0) :
    ∃ (D : Cell) (fV fC : Field), Blank ST x D U ∧ Found ST "value" "[B" fV U ∧ Found ST "coder" "B" fC U ∧ D.slots[fV.slot]? = some v0 ∧ D.slots[fC.slot]? = some c0 ∧ RoadKit.slotOf Z ST "value" "[B" = fV.slot ∧ RoadKit.slotOf Z ST "coder" "B" = fC.slot := by
  obtain ⟨D, cfV, kV, iV, fV, hD, gV, stV, knV, obV, asV, slV⟩ := V
  obtain ⟨D', cfC, kC, iC, fC, hD', gC, stC, -, -, asC, slC⟩ := C
  cases hD.symm.trans hD'
  obtain ⟨D2, kD, e1, e2, e3, e4, e5⟩ := E
  cases hD.symm.trans e1
  obtain ⟨c2, k2, i1, i2, i3, -⟩ := Cond.instantiable_spec wi
  cases e2.symm.trans i1
  cases e3.symm.trans i2
  obtain ⟨kU, u1, u2⟩ := al.2.2 _ _ e3
  exact ⟨D, fV, fC, ⟨hD, ⟨knV, fun q hq => by rw [hq] at obV; cases obV⟩, by rw [al.findClass]; exact e2, kU, u1, by rw [u2]; exact i3, by rw [u2]; exact e5 i3⟩, ⟨SBG.found_only al ⟨cfV, kV, iV, gV⟩, stV⟩, ⟨SBG.found_only al ⟨cfC, kC, iC, gC⟩, stC⟩, slV, slC, by simp [RoadKit.slotOf, gV], by simp [RoadKit.slotOf, gC]⟩
theorem sta_is {Z U : State} (al : Z.vm.Alike U.vm) {C n d : String} {v : Value} (S : RoadKit.Sta Z U.heap C n d v) : StaticIs U C n d v := by
  obtain ⟨cfS, iS, kS, fS, st, cS, t1, t2, t3, t4, t5, t6, t7⟩ := S
  exact StaticIs.there (s := { Z with heap := U.heap }) ⟨cfS, iS, kS, fS, st, cS, t1, t2, t3, t4, t5, (fun q => by rw [q] at t6; cases t6), t7⟩ al rfl
end StrChars.Road
namespace StrChars
open Jvm Sem ClassFile Op Lib Jvm.Stand Jvm.Free.XT Jvm.Free.ALB Jvm.Free.JM Jvm.Free
open Jvm.Lib.Cold (StaticIs)
/-- what place i of a byte[]'s cell holds -/
def yv (A : Cell) (i : Nat) : Int32 := match A.slots[i]? with | some (.int x) => x | _ => 0
theorem yv_get {a : Addr} {A : Cell} {U : State} (h : XT.Arr .byte a A U) (ht : Typed .byte A) {i : Nat} (hi : i < A.slots.size) : A.slots[i]? = some (.int (yv A i)) := by
  have e := Array.getElem?_eq_getElem hi
  have f := ht i _ e
  unfold yv; rw [e]
  generalize A.slots[i] = v at f
  cases v <;> simp [fits] at f ⊢
/-- the two arrays are equal, place for place -/
def EqC (A B : Cell) : Prop := A.slots.size = B.slots.size ∧ ∀ i, i < A.slots.size → yv A i = yv B i
/-- a boolean that says whether p -/
def Says01 (q : Prop) (r : Option Value) (s u : State) : Prop := ∃ v : Int32, r = some (.int v) ∧ u.heap = s.heap ∧ ((v = 1 ∧ q) ∨ (v = 0 ∧ ¬ q))
theorem Says01.mv {q : Prop} : ∀ r (U U' V V' : State), U'.heap = U.heap → V.vm.Alike V'.vm → V'.heap = V.heap → Says01 q r U V → Says01 q r U' V' :=
  fun r U U' V V' h1 _ h2 ⟨v, a, b, c⟩ => ⟨v, a, by rw [h1, h2]; exact b, c⟩
namespace LEq
def yN : MethodName := ⟨"java/lang/StringLatin1", "equals", "([B[B)Z"⟩
abbrev yB : ByteArray := jdk_43_method_13_code
theorem d0 : decode yB 0 = .ok (.aload_n 0, 1) := by decide +kernel
theorem d1 : decode yB 1 = .ok (.arraylength, 1) := by decide +kernel
theorem d2 : decode yB 2 = .ok (.aload_n 1, 1) := by decide +kernel
theorem d3 : decode yB 3 = .ok (.arraylength, 1) := by decide +kernel
theorem d4 : decode yB 4 = .ok (.if_icmp (.ne) 30, 3) := by decide +kernel
theorem d7 : decode yB 7 = .ok (.iconst 0, 1) := by decide +kernel
theorem d8 : decode yB 8 = .ok (.istore_n 2, 1) := by decide +kernel
theorem d9 : decode yB 9 = .ok (.iload_n 2, 1) := by decide +kernel
theorem d10 : decode yB 10 = .ok (.aload_n 0, 1) := by decide +kernel
theorem d11 : decode yB 11 = .ok (.arraylength, 1) := by decide +kernel
theorem d12 : decode yB 12 = .ok (.if_icmp (.ge) 20, 3) := by decide +kernel
theorem d15 : decode yB 15 = .ok (.aload_n 0, 1) := by decide +kernel
theorem d16 : decode yB 16 = .ok (.iload_n 2, 1) := by decide +kernel
theorem d17 : decode yB 17 = .ok (.baload, 1) := by decide +kernel
theorem d18 : decode yB 18 = .ok (.aload_n 1, 1) := by decide +kernel
theorem d19 : decode yB 19 = .ok (.iload_n 2, 1) := by decide +kernel
theorem d20 : decode yB 20 = .ok (.baload, 1) := by decide +kernel
theorem d21 : decode yB 21 = .ok (.if_icmp (.eq) 5, 3) := by decide +kernel
theorem d24 : decode yB 24 = .ok (.iconst 0, 1) := by decide +kernel
theorem d25 : decode yB 25 = .ok (.ireturn, 1) := by decide +kernel
theorem d26 : decode yB 26 = .ok (.iinc 2 1, 3) := by decide +kernel
theorem d29 : decode yB 29 = .ok (.goto (-20), 3) := by decide +kernel
theorem d32 : decode yB 32 = .ok (.iconst 1, 1) := by decide +kernel
theorem d33 : decode yB 33 = .ok (.ireturn, 1) := by decide +kernel
theorem d34 : decode yB 34 = .ok (.iconst 0, 1) := by decide +kernel
theorem d35 : decode yB 35 = .ok (.ireturn, 1) := by decide +kernel
def site : List Cond := []
def tab : Cond := tabOf yN yB 3 (some .boolean) site
def P (a : Addr) (A : Cell) (b : Addr) (B : Cell) (args : Array Value) (s : State) : Prop := args = #[.ref a, .ref b] ∧ XT.Arr .byte a A s ∧ Typed .byte A ∧ XT.Arr .byte b B s ∧ Typed .byte B
/-- whether two byte[] are equal, place for place -/
theorem law (l : Launch) (a : Addr) (A : Cell) (b : Addr) (B : Cell) : Law l yN 2 2 0 0 yB 3 (some .boolean) site (P a A b B) (Says01 (EqC A B)) [] 0 0 := by
  refine Law.of_walk (plainFor_of_name (by decide +kernel)) (by decide +kernel) (by decide +kernel) (by decide) (fun _ _ h => by rw [h.1]; rfl) (fun _ U U' hal hh h => ⟨h.1, h.2.1.mv hal hh, h.2.2.1, h.2.2.2.1.mv hal hh, h.2.2.2.2⟩) (fun r U U' V V' h1 hal h2 h => Says01.mv r U U' V V' h1 hal h2 h) ?_
  intro p e s m args below meth c s₁ X0 hexec hbytes hml hret hlk hnm hown hh0 W hP
  obtain ⟨rfl, hA, tA, hB, tB⟩ := hP
  have a31 := hA.2.2.2
  have b31 := hB.2.2.2
  have hA0 := hA.mv X0.warmed.alike hh0
  have hB0 := hB.mv X0.warmed.alike hh0
  have c1 : Steps p.tables e below (s₁.setTop (entryFrame m #[.ref a, .ref b] 3)) (s₁.setTop (mkF m 0 #[.val (.ref a), .val (.ref b), .unset] [])) := entry rfl
  have c2 : Steps p.tables e below (s₁.setTop (entryFrame m #[.ref a, .ref b] 3)) (s₁.setTop (mkF m 4 #[.val (.ref a), .val (.ref b), .unset] [.int (Int32.ofNat B.slots.size), .int (Int32.ofNat A.slots.size)])) := c1.trans (by
    refine XS.aloadN X0.here hexec rfl (hb hbytes d0) rfl rfl ?_
    refine X0.alen hexec hA0 rfl rfl (hb hbytes d1) ?_
    refine XS.aloadN X0.here hexec rfl (hb hbytes d2) rfl rfl ?_
    refine X0.alen hexec hB0 rfl rfl (hb hbytes d3) ?_
    exact Steps.refl _)
  by_cases hs : A.slots.size = B.slots.size
  · have c3 : Steps p.tables e below (s₁.setTop (entryFrame m #[.ref a, .ref b] 3)) (s₁.setTop (mkF m 9 #[.val (.ref a), .val (.ref b), .val (.int 0)] [])) := c2.trans (by
      refine XS.icmpNo X0.here hexec rfl (hb hbytes d4) rfl (ii_ne_f (by rw [hs])) ?_
      refine iconstV X0.here hexec rfl 0 (hb hbytes d7) (by decide) ?_
      refine XS.istoreN X0.here hexec rfl (hb hbytes d8) rfl rfl ?_
      exact Steps.refl _)
    have loop : ∀ (r i : Nat), i + r = A.slots.size → (∀ j, j < i → yv A j = yv B j) → Steps p.tables e below (s₁.setTop (entryFrame m #[.ref a, .ref b] 3)) (s₁.setTop (mkF m 9 #[.val (.ref a), .val (.ref b), .val (.int (Int32.ofNat i))] [])) → ∃ (pc : Nat) (Ls : Array Slot) (v : Int32), (pc = 25 ∨ pc = 33) ∧ ((v = 1 ∧ EqC A B) ∨ (v = 0 ∧ ¬ EqC A B)) ∧ Steps p.tables e below (s₁.setTop (entryFrame m #[.ref a, .ref b] 3)) (s₁.setTop (mkF m pc Ls [.int v])) := by
      intro r
      induction r with
      | zero =>
        intro i hi he cl
        exact ⟨33, _, 1, Or.inr rfl, Or.inl ⟨rfl, hs, fun j hj => he j (by omega)⟩, cl.trans (by
          refine XS.iloadN X0.here hexec rfl (hb hbytes d9) rfl ?_
          refine XS.aloadN X0.here hexec rfl (hb hbytes d10) rfl rfl ?_
          refine X0.alen hexec hA0 rfl rfl (hb hbytes d11) ?_
          refine XS.icmpYes X0.here hexec rfl (pc0 := 12) rfl (hb hbytes d12) rfl (ii_ge_t (nlt32 (by omega) (by omega))) (by decide) rfl ?_
          refine iconstV X0.here hexec rfl 1 (hb hbytes d32) (by decide) ?_
          exact Steps.refl _)⟩
      | succ r ih =>
        intro i hi he cl
        have c4 : Steps p.tables e below (s₁.setTop (entryFrame m #[.ref a, .ref b] 3)) (s₁.setTop (mkF m 21 #[.val (.ref a), .val (.ref b), .val (.int (Int32.ofNat i))] [.int (yv B i), .int (yv A i)])) := cl.trans (by
          refine XS.iloadN X0.here hexec rfl (hb hbytes d9) rfl ?_
          refine XS.aloadN X0.here hexec rfl (hb hbytes d10) rfl rfl ?_
          refine X0.alen hexec hA0 rfl rfl (hb hbytes d11) ?_
          refine XS.icmpNo X0.here hexec rfl (hb hbytes d12) rfl (ii_ge_f (lt32 (by omega) (by omega))) ?_
          refine XS.aloadN X0.here hexec rfl (hb hbytes d15) rfl rfl ?_
          refine XS.iloadN X0.here hexec rfl (hb hbytes d16) rfl ?_
          refine X0.aget hexec hA0 rfl (yv_get hA tA (i := i) (by omega)) rfl rfl (hb hbytes d17) ?_
          refine XS.aloadN X0.here hexec rfl (hb hbytes d18) rfl rfl ?_
          refine XS.iloadN X0.here hexec rfl (hb hbytes d19) rfl ?_
          refine X0.aget hexec hB0 rfl (yv_get hB tB (i := i) (by omega)) rfl rfl (hb hbytes d20) ?_
          exact Steps.refl _)
        by_cases hv : yv A i = yv B i
        · have c5 : Steps p.tables e below (s₁.setTop (entryFrame m #[.ref a, .ref b] 3)) (s₁.setTop (mkF m 9 #[.val (.ref a), .val (.ref b), .val (.int (Int32.ofNat i + 1))] [])) := c4.trans (by
            refine XS.icmpYes X0.here hexec rfl (pc0 := 21) rfl (hb hbytes d21) rfl (ii_eq_t hv) (by decide) rfl ?_
            refine iincV X0.here hexec rfl 1 (hb hbytes d26) (by decide) rfl rfl ?_
            refine XS.goto X0.here hexec rfl (pc0 := 29) rfl (hb hbytes d29) (by decide) rfl ?_
            exact Steps.refl _)
          rw [succ32] at c5
          exact ih (i + 1) (by omega) (fun j hj => by
            by_cases e : j = i
            · rw [e]; exact hv
            · exact he j (by omega)) c5
        · exact ⟨25, _, 0, Or.inl rfl, Or.inr ⟨rfl, fun q => hv (q.2 i (by omega))⟩, c4.trans (by
            refine XS.icmpNo X0.here hexec rfl (hb hbytes d21) rfl (ii_eq_f hv) ?_
            refine iconstV X0.here hexec rfl 0 (hb hbytes d24) (by decide) ?_
            exact Steps.refl _)⟩
    obtain ⟨pc, Ls, v, hpc, hv, cz⟩ := loop A.slots.size 0 (by omega) (fun j hj => absurd hj (Nat.not_lt_zero j)) c3
    have nv : narrow .boolean (.int v) = .int v := by rcases hv with ⟨rfl, -⟩ | ⟨rfl, -⟩ <;> rfl
    rcases hpc with rfl | rfl
    · exact ⟨s₁, some (.int v), _, _, _, X0, rfl, rfl, rfl, (fun h => by cases h), ⟨v, rfl, hh0, hv⟩, fun fs hl => cz.trans (X0.ireturnOut hexec hret nv (Or.inr (Or.inl rfl)) (hb hbytes d25) hl)⟩
    · exact ⟨s₁, some (.int v), _, _, _, X0, rfl, rfl, rfl, (fun h => by cases h), ⟨v, rfl, hh0, hv⟩, fun fs hl => cz.trans (X0.ireturnOut hexec hret nv (Or.inr (Or.inl rfl)) (hb hbytes d33) hl)⟩
  · have c3 : Steps p.tables e below (s₁.setTop (entryFrame m #[.ref a, .ref b] 3)) (s₁.setTop (mkF m 35 #[.val (.ref a), .val (.ref b), .unset] [.int 0])) := c2.trans (by
      refine XS.icmpYes X0.here hexec rfl (pc0 := 4) rfl (hb hbytes d4) rfl (ii_ne_t (ne32 a31 b31 hs)) (by decide) rfl ?_
      refine iconstV X0.here hexec rfl 0 (hb hbytes d34) (by decide) ?_
      exact Steps.refl _)
    exact ⟨s₁, some (.int 0), _, _, _, X0, rfl, rfl, rfl, (fun h => by cases h), ⟨0, rfl, hh0, Or.inr ⟨rfl, fun q => hs q.1⟩⟩, fun fs hl => c3.trans (X0.ireturnOut hexec hret rfl (Or.inr (Or.inl rfl)) (hb hbytes d35) hl)⟩
end LEq
theorem Cod.ty {cd : Int32} {n : Nat} {f : Nat → Int32} {V : Cell} (h : Cod cd n f V) : Typed .byte V := fun i v hv => by
  have hi : i < V.slots.size := (Array.getElem?_eq_some_iff.mp hv).1
  rcases h with ⟨-, k1, k2⟩ | ⟨-, k1, k2, -⟩
  · rw [(k2 i (by omega)).1] at hv; cases hv; exact fits_lo8 _
  · rcases Nat.mod_two_eq_zero_or_one i with e | e
    · obtain ⟨j, rfl⟩ : ∃ j, i = 2 * j := ⟨i / 2, by omega⟩
      rw [(k2 j (by omega)).1] at hv; cases hv; exact fits_lo8 _
    · obtain ⟨j, rfl⟩ : ∃ j, i = 2 * j + 1 := ⟨i / 2, by omega⟩
      rw [(k2 j (by omega)).2] at hv; cases hv; exact fits_lo8 _
/-- the same text -/
def SameT (n : Nat) (f : Nat → Int32) (k : Nat) (g : Nat → Int32) : Prop := n = k ∧ ∀ j, j < n → f j = g j
theorem lo8_inj {x y : Int32} (h0 : ¬ x < 0) (h1 : ¬ 255 < x) (k0 : ¬ y < 0) (k1 : ¬ 255 < y) (h : lo8 x = lo8 y) : x = y := by
  rw [← lo8_mask h0 h1, ← lo8_mask k0 k1, h]
/-- arrays coded by one coder are equal just where the texts are -/
theorem Cod.eqv {cd : Int32} {n k : Nat} {f g : Nat → Int32} {V V' : Cell} (h : Cod cd n f V) (h' : Cod cd k g V') (hf : ∀ j, j < n → ¬ f j < 0 ∧ ¬ 65535 < f j) (hg : ∀ j, j < k → ¬ g j < 0 ∧ ¬ 65535 < g j) : EqC V V' ↔ SameT n f k g := by
  have yvv : ∀ {W : Cell} {i : Nat} {x : Int32}, W.slots[i]? = some (.int x) → yv W i = x := fun q => by unfold yv; rw [q]
  rcases h with ⟨rfl, k1, k2⟩ | ⟨rfl, k1, k2, -⟩
  · rcases h' with ⟨-, m1, m2⟩ | ⟨e, -⟩
    · constructor
      · rintro ⟨e1, e2⟩
        refine ⟨by omega, fun j hj => ?_⟩
        have q := e2 j (by omega)
        rw [yvv (k2 j hj).1, yvv (m2 j (by omega)).1] at q
        exact lo8_inj (hf j hj).1 (k2 j hj).2 (hg j (by omega)).1 (m2 j (by omega)).2 q
      · rintro ⟨rfl, e2⟩
        refine ⟨by omega, fun j hj => ?_⟩
        rw [yvv (k2 j (by omega)).1, yvv (m2 j (by omega)).1, e2 j (by omega)]
    · exact absurd e (by decide)
  · rcases h' with ⟨e, -⟩ | ⟨-, m1, m2, -⟩
    · exact absurd e (by decide)
    · constructor
      · rintro ⟨e1, e2⟩
        refine ⟨by omega, fun j hj => ?_⟩
        have q1 := e2 (2 * j) (by omega)
        have q2 := e2 (2 * j + 1) (by omega)
        rw [yvv (k2 j hj).1, yvv (m2 j (by omega)).1] at q1
        rw [yvv (k2 j hj).2, yvv (m2 j (by omega)).2] at q2
        rw [← pair_says (hf j hj).1 (hf j hj).2, ← pair_says (hg j (by omega)).1 (hg j (by omega)).2, q1, q2]
      · rintro ⟨rfl, e2⟩
        refine ⟨by omega, fun i hi => ?_⟩
        rcases Nat.mod_two_eq_zero_or_one i with e | e
        · obtain ⟨j, rfl⟩ : ∃ j, i = 2 * j := ⟨i / 2, by omega⟩
          rw [yvv (k2 j (by omega)).1, yvv (m2 j (by omega)).1, e2 j (by omega)]
        · obtain ⟨j, rfl⟩ : ∃ j, i = 2 * j + 1 := ⟨i / 2, by omega⟩
          rw [yvv (k2 j (by omega)).2, yvv (m2 j (by omega)).2, e2 j (by omega)]
/-- two codings differ: so do the texts -/
theorem Cod.dif {cd cd' : Int32} {n k : Nat} {f g : Nat → Int32} {V V' : Cell} (h : Cod cd n f V) (h' : Cod cd' k g V') (hne : ¬ cd = cd') : ¬ SameT n f k g := by
  rintro ⟨rfl, e⟩
  rcases h with ⟨rfl, -, k2⟩ | ⟨rfl, -, -, j, hj, hw⟩
  · rcases h' with ⟨rfl, -⟩ | ⟨-, -, -, j, hj, hw⟩
    · exact hne rfl
    · exact (k2 j hj).2 (by rw [e j hj]; exact hw)
  · rcases h' with ⟨-, -, m2⟩ | ⟨rfl, -⟩
    · exact (m2 j hj).2 (by rw [← e j hj]; exact hw)
    · exact hne rfl
/-- an object of exactly C is an instance of C -/
theorem cinst {p : Program} {l : Launch} {e : Env} {R : Room} {s : State} {m : MethodId} {args : Array Value} {below : List Frame} {meth : Method} {c : Code} {T : State} {locs : List Loc} {cells slots : Nat} (X : Stand p l e R s m args below meth c T locs cells slots) (hexec : p.tables.exec = Jvm.exec) {own C : String} {index : Nat} (hown : s.vm.findClass own = some m.cls) (hlink : (Cond.classLink own index C).before args s = true) {a : Addr} (hE : Exact C a T)
    {g : JFrame} (hg : g.method = m) {rest : List Value} (hstack : g.stack = .ref a :: rest) (hdg : decode c.code g.pc = .ok (.instanceof index, 3)) :
    ∃ T', Stand p l e R s m args below meth c T' locs cells slots ∧ T'.heap = T.heap ∧ ∀ target, Steps p.tables e below (T'.setTop { g with pc := g.pc + 3, stack := .int 1 :: rest }) target → Steps p.tables e below (T.setTop g) target := by
  obtain ⟨cB, h1, D, h2, h3, h4⟩ := hE
  have h1' : s.vm.findClass C = some cB := by rw [← X.warmed.alike.findClass]; exact h1
  obtain ⟨vm', X', st⟩ := X.instanceofYes hexec hown hlink h2 h4 h1' (by rw [h3]; exact Jvm.Free.SB.assignable_self _ _) hg hstack hdg
  exact ⟨_, X', rfl, st⟩
theorem cself {p : Program} {l : Launch} {e : Env} {R : Room} {s : State} {m : MethodId} {args : Array Value} {below : List Frame} {meth : Method} {c : Code} {T : State} {locs : List Loc} {cells slots : Nat} (X : Stand p l e R s m args below meth c T locs cells slots) (hexec : p.tables.exec = Jvm.exec) {own C : String} {index : Nat} (hown : s.vm.findClass own = some m.cls) (hlink : (Cond.classLink own index C).before args s = true) {a : Addr} (hE : Exact C a T)
    {g : JFrame} (hg : g.method = m) {rest : List Value} (hstack : g.stack = .ref a :: rest) (hdg : decode c.code g.pc = .ok (.checkcast index, 3)) :
    ∃ T', Stand p l e R s m args below meth c T' locs cells slots ∧ T'.heap = T.heap ∧ ∀ target, Steps p.tables e below (T'.setTop { g with pc := g.pc + 3, stack := .ref a :: rest }) target → Steps p.tables e below (T.setTop g) target := by
  obtain ⟨cB, h1, D, h2, h3, h4⟩ := hE
  have h1' : s.vm.findClass C = some cB := by rw [← X.warmed.alike.findClass]; exact h1
  obtain ⟨vm', X', st⟩ := X.checkcastYes hexec hown hlink h2 h4 h1' (by rw [h3]; exact Jvm.Free.SB.assignable_self _ _) hg hstack hdg
  exact ⟨_, X', rfl, fun t h => st t (by rw [← hstack] at h; exact h)⟩
namespace SEq
def yN : MethodName := ⟨"java/lang/String", "equals", "(Ljava/lang/Object;)Z"⟩
abbrev yB : ByteArray := jdk_42_method_66_code
theorem d0 : decode yB 0 = .ok (.aload_n 0, 1) := by decide +kernel
theorem d1 : decode yB 1 = .ok (.aload_n 1, 1) := by decide +kernel
theorem d2 : decode yB 2 = .ok (.if_acmp (.ne) 5, 3) := by decide +kernel
theorem d5 : decode yB 5 = .ok (.iconst 1, 1) := by decide +kernel
theorem d6 : decode yB 6 = .ok (.ireturn, 1) := by decide +kernel
theorem d7 : decode yB 7 = .ok (.aload_n 1, 1) := by decide +kernel
theorem d8 : decode yB 8 = .ok (.instanceof 10, 3) := by decide +kernel
theorem d11 : decode yB 11 = .ok (.ifCond (.eq) 43, 3) := by decide +kernel
theorem d14 : decode yB 14 = .ok (.aload_n 1, 1) := by decide +kernel
theorem d15 : decode yB 15 = .ok (.checkcast 10, 3) := by decide +kernel
theorem d18 : decode yB 18 = .ok (.astore_n 2, 1) := by decide +kernel
theorem d19 : decode yB 19 = .ok (.getstatic 38, 3) := by decide +kernel
theorem d22 : decode yB 22 = .ok (.ifCond (.eq) 14, 3) := by decide +kernel
theorem d25 : decode yB 25 = .ok (.aload_n 0, 1) := by decide +kernel
theorem d26 : decode yB 26 = .ok (.getfield 15, 3) := by decide +kernel
theorem d29 : decode yB 29 = .ok (.aload_n 2, 1) := by decide +kernel
theorem d30 : decode yB 30 = .ok (.getfield 15, 3) := by decide +kernel
theorem d33 : decode yB 33 = .ok (.if_icmp (.ne) 21, 3) := by decide +kernel
theorem d36 : decode yB 36 = .ok (.aload_n 0, 1) := by decide +kernel
theorem d37 : decode yB 37 = .ok (.getfield 9, 3) := by decide +kernel
theorem d40 : decode yB 40 = .ok (.aload_n 2, 1) := by decide +kernel
theorem d41 : decode yB 41 = .ok (.getfield 9, 3) := by decide +kernel
theorem d44 : decode yB 44 = .ok (.invokestatic 541, 3) := by decide +kernel
theorem d47 : decode yB 47 = .ok (.ifCond (.eq) 7, 3) := by decide +kernel
theorem d50 : decode yB 50 = .ok (.iconst 1, 1) := by decide +kernel
theorem d51 : decode yB 51 = .ok (.goto 4, 3) := by decide +kernel
theorem d54 : decode yB 54 = .ok (.iconst 0, 1) := by decide +kernel
theorem d55 : decode yB 55 = .ok (.ireturn, 1) := by decide +kernel
def site : List Cond := [.classLink "java/lang/String" 10 "java/lang/String", .fieldLink "java/lang/String" 38 "java/lang/String" "COMPACT_STRINGS" "Z", .fieldLink "java/lang/String" 15 "java/lang/String" "coder" "B", .fieldLink "java/lang/String" 9 "java/lang/String" "value" "[B", LEq.tab] ++ staticW "java/lang/String" 541 LEq.yN
def tab : Cond := tabOf yN yB 3 (some .boolean) site
def P (x t : Addr) (V : Cell) (cd : Int32) (n : Nat) (f : Nat → Int32) (y t' : Addr) (V' : Cell) (cd' : Int32) (k : Nat) (g : Nat → Int32) (z : Int32) (args : Array Value) (s : State) : Prop := args = #[.ref x, .ref y] ∧ Txt x t V cd n f s ∧ Txt y t' V' cd' k g s ∧ StaticIs s "java/lang/String" "COMPACT_STRINGS" "Z" (.int z) ∧ ¬ z = 0
/-- equals(Object) of two Strings: whether the texts are the same -/
theorem law (l : Launch) (x t : Addr) (V : Cell) (cd : Int32) (n : Nat) (f : Nat → Int32) (y t' : Addr) (V' : Cell) (cd' : Int32) (k : Nat) (g : Nat → Int32) (z : Int32) : Law l yN 2 1 1 14 yB 3 (some .boolean) site (P x t V cd n f y t' V' cd' k g z) (Says01 (SameT n f k g)) [] 0 0 := by
  refine Law.of_walk (plainFor_of_name (by decide +kernel)) (by decide +kernel) (by decide +kernel) (by decide) (fun _ _ h => by rw [h.1]; rfl) (fun _ U U' hal hh h => ⟨h.1, h.2.1.mv hal hh, h.2.2.1.mv hal hh, h.2.2.2.1.there hal hh, h.2.2.2.2⟩) (fun r U U' V V' h1 hal h2 h => Says01.mv r U U' V V' h1 hal h2 h) ?_
  intro p e s m args below meth c s₁ X0 hexec hbytes hml hret hlk hnm hown hh0 W hP
  obtain ⟨rfl, hx, hy, s1, hz⟩ := hP
  have c1 : Steps p.tables e below (s₁.setTop (entryFrame m #[.ref x, .ref y] 3)) (s₁.setTop (mkF m 2 #[.val (.ref x), .val (.ref y), .unset] [.ref y, .ref x])) := Steps.trans (entry rfl) (by
    show Steps p.tables e below (s₁.setTop (mkF m 0 #[.val (.ref x), .val (.ref y), .unset] [])) _
    refine XS.aloadN X0.here hexec rfl (hb hbytes d0) rfl rfl ?_
    refine XS.aloadN X0.here hexec rfl (hb hbytes d1) rfl rfl ?_
    exact Steps.refl _)
  by_cases hxy : x = y
  · have c2 : Steps p.tables e below (s₁.setTop (entryFrame m #[.ref x, .ref y] 3)) (s₁.setTop (mkF m 6 #[.val (.ref x), .val (.ref y), .unset] [.int 1])) := c1.trans (by
      refine acmpNo X0.here hexec rfl (hb hbytes d2) rfl rfl rfl (by simp [acmp, hxy]) ?_
      refine iconstV X0.here hexec rfl 1 (hb hbytes d5) (by decide) ?_
      exact Steps.refl _)
    subst hxy
    have ec : cd = cd' := by
      obtain ⟨D, fd, a1, a2, a3⟩ := hx.2.2.1
      obtain ⟨D', fd', b1, b2, b3⟩ := hy.2.2.1
      cases a1.symm.trans b1
      obtain ⟨q1, q2, q3, q4⟩ := a2.1
      obtain ⟨r1, r2, r3, r4⟩ := b2.1
      cases q4.symm.trans r4
      cases a3.symm.trans b3; rfl
    have et : t = t' := by
      obtain ⟨D, fd, a1, a2, a3⟩ := hx.2.1
      obtain ⟨D', fd', b1, b2, b3⟩ := hy.2.1
      cases a1.symm.trans b1
      obtain ⟨q1, q2, q3, q4⟩ := a2.1
      obtain ⟨r1, r2, r3, r4⟩ := b2.1
      cases q4.symm.trans r4
      cases a3.symm.trans b3; rfl
    subst ec et
    have ev : V = V' := by cases hx.2.2.2.1.1.symm.trans hy.2.2.2.1.1; rfl
    subst ev
    have hs : SameT n f k g := (Cod.eqv hx.2.2.2.2.1 hy.2.2.2.2.1 hx.2.2.2.2.2 hy.2.2.2.2.2).mp ⟨rfl, fun _ _ => rfl⟩
    exact ⟨s₁, some (.int 1), _, _, _, X0, rfl, rfl, rfl, (fun h => by cases h), ⟨1, rfl, hh0, Or.inl ⟨rfl, hs⟩⟩, fun fs hl => c2.trans (X0.ireturnOut hexec hret rfl (Or.inr (Or.inl rfl)) (hb hbytes d6) hl)⟩
  · have c2 : Steps p.tables e below (s₁.setTop (entryFrame m #[.ref x, .ref y] 3)) (s₁.setTop (mkF m 8 #[.val (.ref x), .val (.ref y), .unset] [.ref y])) := c1.trans (by
      refine acmpYes X0.here hexec rfl (pc0 := 2) rfl (hb hbytes d2) rfl rfl rfl (by simp [acmp, hxy]) (by decide) rfl ?_
      refine XS.aloadN X0.here hexec rfl (hb hbytes d7) rfl rfl ?_
      exact Steps.refl _)
    obtain ⟨T3, X3, q3, st3⟩ := cinst X0 hexec hown (wk W (.classLink "java/lang/String" 10 "java/lang/String")) (hy.mv X0.warmed.alike hh0).1 (g := (mkF m 8 #[.val (.ref x), .val (.ref y), .unset] [.ref y])) rfl (rest := []) rfl (hb hbytes d8)
    have hh3 := q3.trans hh0
    have c4 : Steps p.tables e below (s₁.setTop (entryFrame m #[.ref x, .ref y] 3)) (T3.setTop (mkF m 15 #[.val (.ref x), .val (.ref y), .unset] [.ref y])) := (c2.trans (st3 _ (Steps.refl _))).trans (by
      refine XS.ifNo X3.here hexec rfl (hb hbytes d11) rfl (i0_eq_f (by decide)) ?_
      refine XS.aloadN X3.here hexec rfl (hb hbytes d14) rfl rfl ?_
      exact Steps.refl _)
    obtain ⟨T5, X5, q5, st5⟩ := cself X3 hexec hown (wk W (.classLink "java/lang/String" 10 "java/lang/String")) (hy.mv X3.warmed.alike hh3).1 (g := (mkF m 15 #[.val (.ref x), .val (.ref y), .unset] [.ref y])) rfl (rest := []) rfl (hb hbytes d15)
    have hh5 := q5.trans hh3
    have c6 : Steps p.tables e below (s₁.setTop (entryFrame m #[.ref x, .ref y] 3)) (T5.setTop (mkF m 19 #[.val (.ref x), .val (.ref y), .val (.ref y)] [])) := (c4.trans (st5 _ (Steps.refl _))).trans (by
      refine XS.astoreN X5.here hexec rfl (hb hbytes d18) rfl rfl rfl ?_
      exact Steps.refl _)
    obtain ⟨T7, X7, q7, st7⟩ := X5.sget hexec hown (wk W (.fieldLink "java/lang/String" 38 "java/lang/String" "COMPACT_STRINGS" "Z")) s1 (fun _ _ h => by rw [hh5]; exact h) (g := (mkF m 19 #[.val (.ref x), .val (.ref y), .val (.ref y)] [])) rfl (hb hbytes d19)
    have hh7 := q7.trans hh5
    have c8 : Steps p.tables e below (s₁.setTop (entryFrame m #[.ref x, .ref y] 3)) (T7.setTop (mkF m 26 #[.val (.ref x), .val (.ref y), .val (.ref y)] [.ref x])) := (c6.trans (st7 _ (Steps.refl _))).trans (by
      refine XS.ifNo X7.here hexec rfl (hb hbytes d22) rfl (i0_eq_f hz) ?_
      refine XS.aloadN X7.here hexec rfl (hb hbytes d25) rfl rfl ?_
      exact Steps.refl _)
    obtain ⟨T9, X9, q9, st9⟩ := X7.hget hexec hown (wk W (.fieldLink "java/lang/String" 15 "java/lang/String" "coder" "B")) (hx.mv X7.warmed.alike hh7).2.2.1 (g := (mkF m 26 #[.val (.ref x), .val (.ref y), .val (.ref y)] [.ref x])) rfl (rest := []) rfl (hb hbytes d26)
    have hh9 := q9.trans hh7
    have c10 : Steps p.tables e below (s₁.setTop (entryFrame m #[.ref x, .ref y] 3)) (T9.setTop (mkF m 30 #[.val (.ref x), .val (.ref y), .val (.ref y)] [.ref y, .int cd])) := (c8.trans (st9 _ (Steps.refl _))).trans (by
      refine XS.aloadN X9.here hexec rfl (hb hbytes d29) rfl rfl ?_
      exact Steps.refl _)
    obtain ⟨T11, X11, q11, st11⟩ := X9.hget hexec hown (wk W (.fieldLink "java/lang/String" 15 "java/lang/String" "coder" "B")) (hy.mv X9.warmed.alike hh9).2.2.1 (g := (mkF m 30 #[.val (.ref x), .val (.ref y), .val (.ref y)] [.ref y, .int cd])) rfl (rest := [.int cd]) rfl (hb hbytes d30)
    have hh11 := q11.trans hh9
    have c12 : Steps p.tables e below (s₁.setTop (entryFrame m #[.ref x, .ref y] 3)) (T11.setTop (mkF m 33 #[.val (.ref x), .val (.ref y), .val (.ref y)] [.int cd', .int cd])) := c10.trans (st11 _ (Steps.refl _))
    by_cases hcd : cd = cd'
    · subst hcd
      have c13 : Steps p.tables e below (s₁.setTop (entryFrame m #[.ref x, .ref y] 3)) (T11.setTop (mkF m 37 #[.val (.ref x), .val (.ref y), .val (.ref y)] [.ref x])) := c12.trans (by
        refine XS.icmpNo X11.here hexec rfl (hb hbytes d33) rfl (ii_ne_f rfl) ?_
        refine XS.aloadN X11.here hexec rfl (hb hbytes d36) rfl rfl ?_
        exact Steps.refl _)
      obtain ⟨T14, X14, q14, st14⟩ := X11.hget hexec hown (wk W (.fieldLink "java/lang/String" 9 "java/lang/String" "value" "[B")) (hx.mv X11.warmed.alike hh11).2.1 (g := (mkF m 37 #[.val (.ref x), .val (.ref y), .val (.ref y)] [.ref x])) rfl (rest := []) rfl (hb hbytes d37)
      have hh14 := q14.trans hh11
      have c15 : Steps p.tables e below (s₁.setTop (entryFrame m #[.ref x, .ref y] 3)) (T14.setTop (mkF m 41 #[.val (.ref x), .val (.ref y), .val (.ref y)] [.ref y, .ref t])) := (c13.trans (st14 _ (Steps.refl _))).trans (by
        refine XS.aloadN X14.here hexec rfl (hb hbytes d40) rfl rfl ?_
        exact Steps.refl _)
      obtain ⟨T16, X16, q16, st16⟩ := X14.hget hexec hown (wk W (.fieldLink "java/lang/String" 9 "java/lang/String" "value" "[B")) (hy.mv X14.warmed.alike hh14).2.1 (g := (mkF m 41 #[.val (.ref x), .val (.ref y), .val (.ref y)] [.ref y, .ref t])) rfl (rest := [.ref t]) rfl (hb hbytes d41)
      have hh16 := q16.trans hh14
      have c17 : Steps p.tables e below (s₁.setTop (entryFrame m #[.ref x, .ref y] 3)) (T16.setTop (mkF m 44 #[.val (.ref x), .val (.ref y), .val (.ref y)] [.ref t', .ref t])) := c15.trans (st16 _ (Steps.refl _))
      obtain ⟨v18, T18, X18, E18, g18⟩ := X16.callS hexec (LEq.law l t V t' V') hown (wks W (staticW "java/lang/String" 541 LEq.yN)) (wk W LEq.tab) (W := 0) (Nat.le_of_ble_eq_true rfl) (Nat.le_of_ble_eq_true rfl) (Nat.le_refl _) (Nat.le_refl _) (g := (mkF m 44 #[.val (.ref x), .val (.ref y), .val (.ref y)] [.ref t', .ref t])) rfl (by rw [hml]; rfl) c17 (argsL := [.ref t, .ref t']) (rest := []) rfl rfl (by show 2 * 0 + 0 ≤ _; decide) (hb hbytes d44) (⟨rfl, hx.2.2.2.1.mv X16.warmed.alike hh16, hx.2.2.2.2.1.ty, hy.2.2.2.1.mv X16.warmed.alike hh16, hy.2.2.2.2.1.ty⟩)
      obtain ⟨v, rfl, q18, hv⟩ := E18
      have iff := Cod.eqv hx.2.2.2.2.1 hy.2.2.2.2.1 hx.2.2.2.2.2 hy.2.2.2.2.2
      rcases hv with ⟨rfl, he⟩ | ⟨rfl, he⟩
      · have c19 : Steps p.tables e below (s₁.setTop (entryFrame m #[.ref x, .ref y] 3)) (T18.setTop (mkF m 55 #[.val (.ref x), .val (.ref y), .val (.ref y)] [.int 1])) := Steps.trans g18 (by
          refine XS.ifNo X18.here hexec rfl (hb hbytes d47) rfl (i0_eq_f (by decide)) ?_
          refine iconstV X18.here hexec rfl 1 (hb hbytes d50) (by decide) ?_
          refine XS.goto X18.here hexec rfl (pc0 := 51) rfl (hb hbytes d51) (by decide) rfl ?_
          exact Steps.refl _)
        exact ⟨T18, some (.int 1), _, _, _, X18, rfl, rfl, rfl, (fun h => by cases h), ⟨1, rfl, q18.trans hh16, Or.inl ⟨rfl, iff.mp he⟩⟩, fun fs hl => c19.trans (X18.ireturnOut hexec hret rfl (Or.inr (Or.inl rfl)) (hb hbytes d55) hl)⟩
      · have c19 : Steps p.tables e below (s₁.setTop (entryFrame m #[.ref x, .ref y] 3)) (T18.setTop (mkF m 55 #[.val (.ref x), .val (.ref y), .val (.ref y)] [.int 0])) := Steps.trans g18 (by
          refine XS.ifYes X18.here hexec rfl (pc0 := 47) rfl (hb hbytes d47) rfl (i0_eq_t rfl) (by decide) rfl ?_
          refine iconstV X18.here hexec rfl 0 (hb hbytes d54) (by decide) ?_
          exact Steps.refl _)
        exact ⟨T18, some (.int 0), _, _, _, X18, rfl, rfl, rfl, (fun h => by cases h), ⟨0, rfl, q18.trans hh16, Or.inr ⟨rfl, fun q => he (iff.mpr q)⟩⟩, fun fs hl => c19.trans (X18.ireturnOut hexec hret rfl (Or.inr (Or.inl rfl)) (hb hbytes d55) hl)⟩
    · have c13 : Steps p.tables e below (s₁.setTop (entryFrame m #[.ref x, .ref y] 3)) (T11.setTop (mkF m 55 #[.val (.ref x), .val (.ref y), .val (.ref y)] [.int 0])) := c12.trans (by
        refine XS.icmpYes X11.here hexec rfl (pc0 := 33) rfl (hb hbytes d33) rfl (ii_ne_t hcd) (by decide) rfl ?_
        refine iconstV X11.here hexec rfl 0 (hb hbytes d54) (by decide) ?_
        exact Steps.refl _)
      exact ⟨T11, some (.int 0), _, _, _, X11, rfl, rfl, rfl, (fun h => by cases h), ⟨0, rfl, hh11, Or.inr ⟨rfl, Cod.dif hx.2.2.2.2.1 hy.2.2.2.2.1 hcd⟩⟩, fun fs hl => c13.trans (X11.ireturnOut hexec hret rfl (Or.inr (Or.inl rfl)) (hb hbytes d55) hl)⟩
theorem pays {l : Launch} {R : Room} {p : Program} {e : Env} {below : List Frame} {s : State} {sargs : Array Value} {len W : Nat} (x t : Addr) (V : Cell) (cd : Int32) (n : Nat) (f : Nat → Int32) (y t' : Addr) (V' : Cell) (cd' : Int32) (k : Nat) (g : Nat → Int32) (z : Int32) (htab : tab.before sargs s = true) (hfr : 2 ≤ R.frames) (hlo : W + 28 ≤ R.locals) :
    Back l R p e below s sargs yN len W (fun A₁ a₁ => A₁.cells + 0 ≤ R.cells ∧ A₁.slots + 0 ≤ R.slots ∧ P x t V cd n f y t' V' cd' k g z a₁ A₁.U) (fun A₁ _ v₁ B₁ => Says01 (SameT n f k g) v₁ A₁.U B₁.U ∧ B₁.locs = A₁.locs ++ [] ∧ B₁.cells = A₁.cells + 0 ∧ B₁.slots = A₁.slots + 0) :=
  (law l x t V cd n f y t' V' cd' k g z).pays htab hfr (by omega)
end SEq
end StrChars
namespace StrChars.Road
open Jvm Sem ClassFile Op Lib Jvm.Stand Jvm.Free Jvm.Free.XT
open Jvm.Lib.Cold (StaticIs)
/-- the words of String.equals(Object) -/
abbrev wordsEq : List Jvm.Cond := [.code SEq.yN SEq.yB 3 (some .boolean), .initialized ST, .classLink ST 10 ST, .fieldLink ST 38 ST "COMPACT_STRINGS" "Z", .fieldLink ST 15 ST "coder" "B", .fieldLink ST 9 ST "value" "[B", .methodLink ST 541 LEq.yN, .static LEq.yN, .code LEq.yN LEq.yB 3 (some .boolean), .initialized "java/lang/StringLatin1"]
theorem tabEq_of {a : Array Value} {s : State} (h : ∀ w ∈ wordsEq, w.before a s = true) : SEq.tab.before a s = true := by
  have hl : LEq.tab.before a s = true := unparts (wk h (.code LEq.yN LEq.yB 3 (some .boolean))) (wks h (.initialized LEq.yN.cls :: LEq.site))
  have q := consq hl h
  exact unparts (wk q (.code SEq.yN SEq.yB 3 (some .boolean))) (wks q (.initialized SEq.yN.cls :: SEq.site))
theorem movedEq {Z s : State} {a0 args : Array Value} (hZ : Z.Warmed39 s.vm) (hw : ∀ d ∈ wordsEq, d.before a0 Z = true) : ∀ d ∈ wordsEq, d.before args s = true := fun d hd => by
  have t : ∀ d ∈ wordsEq, (d.onTables && d.keepsFace) = true := by decide +kernel
  exact RoadKit.mv hZ (hw d hd) (t d hd)
/-- the road's facts of a String, as the laws ask it -/
theorem txt_of {Z U : State} {a0 : Array Value} {kI : Nat} (wi : (Jvm.Cond.instantiable ST kI).before a0 Z = true) (al : Z.vm.Alike U.vm) {x t : Addr} {kb : ClassId} {cs : List Int32} {cd N2 : Int32} {vs : List Value} (E : RoadKit.Exa Z U.heap x ST) (V : RoadKit.Fld Z U.heap x ST "value" "[B" (.ref t)) (C : RoadKit.Fld Z U.heap x ST "coder" "B" (.int cd)) (K : RoadKit.Arv Z U.heap t kb .byte N2 vs (.int 0)) (hc : CodA cs cd N2 vs) (hb : ∀ c ∈ cs, ¬ c < 0 ∧ ¬ (65535 : Int32) < c) (l2 : cs.length ≤ 4000) :
    ∃ A, Txt x t A cd cs.length (fun j => cs.getD j 0) U := by
  obtain ⟨A, K1, K2, K3, K4, K5, K6⟩ := K
  have hcod := hc.cod (by omega) K3 K5
  obtain ⟨D, fV, fC, hB, F1, F2, g1, g2, -, -⟩ := strObj wi al E V C
  exact ⟨A, ⟨_, hB.2.2.1, D, hB.1, rfl, by cases q : D.vm <;> first | rfl | exact absurd q (hB.2.1.2 _)⟩, Has.of hB F1 g1, Has.of hB F2 g2, ⟨K1.1, State.isArrayOf_alike al K1.2.1, K1.2.2, by rcases hcod with ⟨-, q, -⟩ | ⟨-, q, -⟩ <;> omega⟩, hcod, fun j hj => by
    have e : cs.getD j 0 = cs[j] := by simp [List.getD_eq_getElem?_getD, hj]
    show ¬ cs.getD j 0 < 0 ∧ ¬ 65535 < cs.getD j 0
    rw [e]; exact hb _ (List.getElem_mem _)⟩
theorem same_list (cs ds : List Int32) : SameT cs.length (fun j => cs.getD j 0) ds.length (fun j => ds.getD j 0) ↔ cs = ds := by
  constructor
  · rintro ⟨e, q⟩
    refine List.ext_getElem e fun j h1 h2 => ?_
    have := q j h1
    simpa [List.getD_eq_getElem?_getD, h1, h2] using this
  · rintro rfl
    exact ⟨rfl, fun _ _ => rfl⟩
/-- **equals(Object) OF TWO SUCH STRINGS**: 1 just where the chars are the same -/
theorem eqW {p : Program} {l : Launch} {e : Env} {R : Room} {s : State} {args : Array Value} {below : List Frame} {len W : Nat} {Z : State} {a0 : Array Value} {h : Heap} (hZ : Z.Warmed39 s.vm) (hw : ∀ d ∈ wordsEq, d.before a0 Z = true) {kI : Nat} (wi : (Jvm.Cond.instantiable ST kI).before a0 Z = true)
    {x t : Addr} {kb : ClassId} {cs : List Int32} {cd N2 : Int32} {vs : List Value} (E : RoadKit.Exa Z h x ST) (V : RoadKit.Fld Z h x ST "value" "[B" (.ref t)) (C : RoadKit.Fld Z h x ST "coder" "B" (.int cd)) (K : RoadKit.Arv Z h t kb .byte N2 vs (.int 0)) (hc : CodA cs cd N2 vs) (hb : ∀ c ∈ cs, ¬ c < 0 ∧ ¬ (65535 : Int32) < c) (l2 : cs.length ≤ 4000)
    {y t' : Addr} {kb' : ClassId} {ds : List Int32} {cd' N2' : Int32} {vs' : List Value} (E' : RoadKit.Exa Z h y ST) (V' : RoadKit.Fld Z h y ST "value" "[B" (.ref t')) (C' : RoadKit.Fld Z h y ST "coder" "B" (.int cd')) (K' : RoadKit.Arv Z h t' kb' .byte N2' vs' (.int 0)) (hc' : CodA ds cd' N2' vs') (hb' : ∀ c ∈ ds, ¬ c < 0 ∧ ¬ (65535 : Int32) < c) (l2' : ds.length ≤ 4000)
    {z : Int32} (S : RoadKit.Sta Z h ST "COMPACT_STRINGS" "Z" (.int z)) (hz : ¬ z = 0) (hfr : 2 ≤ R.frames) (hlo : W + 28 ≤ R.locals) :
    Back l R p e below s args (⟨"java/lang/String", "equals", "(Ljava/lang/Object;)Z"⟩ : MethodName) len W (fun P a => a = #[.ref x, .ref y] ∧ P.U.heap = h ∧ P.cells + 0 ≤ R.cells ∧ P.slots + 0 ≤ R.slots)
      (fun P _ v B => ∃ L, (((v = some (.int 1) ∧ cs = ds) ∨ (v = some (.int 0) ∧ ¬ cs = ds)) ∧ L = [] ∧ B.U.heap = h) ∧ B.locs = P.locs ++ L ∧ B.cells = P.cells + 0 ∧ B.slots = P.slots + 0) := by
  intro m meth c P g ig mk a X hg hsize hdg hW hn hp'
  obtain ⟨rfl, rfl, r1, r2⟩ := hp'
  have al : Z.vm.Alike P.U.vm := hZ.alike.trans X.warmed.alike
  obtain ⟨A, hx⟩ := txt_of wi al E V C K hc hb l2
  obtain ⟨A', hy⟩ := txt_of wi al E' V' C' K' hc' hb' l2'
  obtain ⟨v, B, X', ⟨⟨w, hv, hh, hq⟩, hl, hk, hs⟩, st⟩ := SEq.pays x t A cd cs.length (fun j => cs.getD j 0) y t' A' cd' ds.length (fun j => ds.getD j 0) z (tabEq_of (movedEq hZ hw)) hfr hlo m meth c P g ig mk _ X hg hsize hdg hW hn ⟨r1, r2, rfl, hx, hy, sta_is al S, hz⟩
  refine ⟨v, B, X', ⟨[], ⟨?_, rfl, hh⟩, hl, hk, hs⟩, st⟩
  rcases hq with ⟨rfl, q⟩ | ⟨rfl, q⟩
  · exact Or.inl ⟨hv, (same_list cs ds).mp q⟩
  · exact Or.inr ⟨hv, fun e => q ((same_list cs ds).mpr e)⟩
end StrChars.Road
namespace StrChars.Road
open Jvm Sem ClassFile Op Lib Jvm.Stand Jvm.Free Jvm.Free.XT
open Jvm.Lib.Cold (StaticIs)
/-- what backV says of its String, as the contracts of this text ask it: cs's low bytes, coder 0 -/
theorem codOf {cs : List Int32} {n : Nat} (hn : cs.length = n) (hb : ∀ c ∈ cs, ¬ 255 < c) : CodA cs 0 (Int32.ofNat n) ((cs.map lo8).map Value.int) := Or.inl ⟨rfl, by rw [hn], by simp [List.map_map, Function.comp_def], hb⟩
end StrChars.Road
end Jvm.Pilot.@@N@@
namespace Jvm.OwnKit
open Sem ClassFile Op Lib Bundle Jvm.Stand Jvm.Free Jvm.LawKit Jvm.RoadKit Jvm.Free.SB Jvm.Free.SBG
section KitW
variable {p : Program} {l : Launch} {e : Env} {R : Room} {s : State} {m : MethodId} {args : Array Value} {below : List Frame} {meth : Method} {c : Code} {T : State} {locs : List Loc} {cells slots : Nat} {Z : State} {a0 : Array Value} {h h' h0 : Heap} {Q : Option Value → Heap → List Loc → Prop} {k n : Nat} {EL : List (String × Nat)} {vm0 vm1 : Vm}
/-- the tables vm0 came of s's; what was interned meanwhile lies in h -/
def Snc (s : State) (vm0 : Vm) (h : Heap) : Prop := ∃ k0, s.Since vm0 k0 ∧ k0 ≤ h.size
theorem Snc.up (B : Snc s vm0 h) (q : h.size ≤ h'.size) : Snc s vm0 h' := by obtain ⟨k0, b, hk⟩ := B; exact ⟨k0, b, Nat.le_trans hk q⟩
theorem Snc.ext (B : Snc s vm0 h) (E : Ext h h') : Snc s vm0 h' := B.up E.1
theorem Snc.keep {ws : List Addr} (B : Snc s vm0 h) (K : Keep h h' ws) : Snc s vm0 h' := B.up K.1
theorem Snc.wr {a : Addr} {sl : Nat} {v : Value} (B : Snc s vm0 h) (W : Wr h h' a sl v) : Snc s vm0 h' := B.up (Nat.le_of_eq W.size.symm)
/-- from A on the body comes to its end (it may intern literals) -/
def FinW (p : Program) (e : Env) (below : List Frame) (s : State) (Z : State) (EL : List (String × Nat)) (h0 : Heap) (Q : Option Value → Heap → List Loc → Prop) (k n : Nat) (A : State) : Prop :=
  ∃ s₂ o, Steps p.tables e below A s₂ ∧ s₂.status = .running ∧ Ended s₂ below o ∧ ∃ v L, o = .returned v ∧ Q v s₂.heap L ∧ CHr Z EL s.vm h0 s₂.vm s₂.heap ∧ ReturnedEndW s o s₂ L k n
theorem FinW.st {A B : State} (hs : ∀ t, Steps p.tables e below B t → Steps p.tables e below A t) (f : FinW p e below s Z EL h0 Q k n B) : FinW p e below s Z EL h0 Q k n A := by
  obtain ⟨s2, o, h1, r⟩ := f; exact ⟨s2, o, hs _ h1, r⟩
abbrev ConW (l : Launch) (Z : State) (EL : List (String × Nat)) (h0 : Heap) (x : MethodName) (bytes : ByteArray) (maxL : Nat) (ret : Option FieldType) (ws : List Cond) (rm : Room) (as : Array Value) (Q : Option Value → Heap → List Loc → Prop) : Prop :=
  MetFree l x (head1 (Cond.code x bytes maxL ret :: ws) rm) (fun a U => a = as ∧ Z.Warmed39 U.vm ∧ U.heap = h0 ∧ CHv Z EL U.vm h0) (fun _ _ _ _ _ => True) (fun _ U o U' => ∃ v L, o = .returned v ∧ Q v U'.heap L ∧ CHr Z EL U.vm U.heap U'.vm U'.heap ∧ ReturnedEndW U o U' L rm.cells rm.slots)
theorem ConW.of {x : MethodName} {bytes : ByteArray} {maxL : Nat} {ret : Option FieldType} {ws : List Cond} {rm : Room} {as : Array Value} (hn : plainFor x = true) {f0 : MethodId → JFrame} (hf0 : ∀ m, entryFrame m as maxL = f0 m)
    (body : ∀ (p : Program) (e : Env) (s : State) (m : MethodId) (below : List Frame) (meth : Method) (c : Code) (T : State) (vm0 : Vm), p.tables.exec = Jvm.exec → c.code = bytes → c.maxLocals = maxL → (s.setVm vm0).vm.findClass x.cls = some m.cls → meth.name = x.name → meth.sig.returnType = ret → meth.locks = false → Z.Warmed39 (s.setVm vm0).vm →
      Stand p l e rm (s.setVm vm0) m as below meth c T [] 0 0 → T.heap = h0 → Snc s vm0 h0 → CHr Z EL s.vm h0 vm0 h0 → Z.Warmed39 s.vm → FinW p e below s Z EL h0 Q rm.cells rm.slots (T.setTop (f0 m))) : ConW l Z EL h0 x bytes maxL ret ws rm as Q := by
  refine MetFree.of_bodySF hn hisR ?_
  intro p e s m args below meth c s₁ Bd hml0 hP hK
  obtain ⟨rfl, hZ, hh, hC⟩ := hP
  have X0 : Stand p l e rm s m args below meth c s₁ [] 0 0 := Stand.of_body Bd
  have e0 : s₁.heap = h0 := by rw [← hh, Bd.state]; rfl
  have q := body p e s m below meth c s₁ s.vm Bd.exec Bd.bytes hml0 (by rw [State.setVm_self]; exact findClass_of_methodNamed Bd.named) (name_of_methodNamed Bd.named Bd.method).1 Bd.returns (BodyLoose.notSynchronized Bd) (by rw [State.setVm_self]; exact hZ) (by rw [State.setVm_self]; exact X0) e0 ⟨h0.size, (State.WarmedH.refl s).since _, Nat.le_refl _⟩ (CHr.refl hC) hZ
  rw [hf0 m, hh]
  exact q
abbrev PayS (l : Launch) (R : Room) (p : Program) (e : Env) (below : List Frame) (s : State) (vm0 : Vm) (args : Array Value) (y : MethodName) (len W : Nat) (Z : State) (EL : List (String × Nat)) (as : Array Value) (h : Heap) (rc rs : Nat) (Q : Option Value → Heap → List Loc → Prop) : Prop :=
  BackS l R p e below (s.setVm vm0) args y len W (fun A a => a = as ∧ A.U.heap = h ∧ A.cells + rc ≤ R.cells ∧ A.slots + rs ≤ R.slots)
      (fun A _ v B => ∃ L, Q v B.U.heap L ∧ B.locs = A.locs ++ L ∧ B.cells = A.cells + rc ∧ B.slots = A.slots + rs ∧ CHr Z EL vm0 h B.U.vm B.U.heap)
theorem ConW.pay {y : MethodName} {bytes : ByteArray} {maxL : Nat} {ret : Option FieldType} {rm : Room} {len W : Nat} {as : Array Value} (hM : ConW l Z EL h y bytes maxL ret [] rm as Q)
    (hZ : Z.Warmed39 (s.setVm vm0).vm) (wc : (Cond.code y bytes maxL ret).before a0 Z = true) (wz : (Cond.initialized y.cls).before a0 Z = true) (hf : rm.frames + 1 ≤ R.frames) (hl : W + (maxL + 11) + rm.locals ≤ R.locals) (hEL : EW Z a0 EL) (H : CHr Z EL s.vm h0 vm0 h) :
    PayS l R p e below s vm0 args y len W Z EL as h rm.cells rm.slots Q := backOfSH hM hZ wc wz hf hl hEL H.1
theorem goIW (X : Stand p l e R (s.setVm vm0) m args below meth c T locs cells slots) (hx : p.tables.exec = Jvm.exec) (hZ : Z.Warmed39 (s.setVm vm0).vm) {own : String} (hown : (s.setVm vm0).vm.findClass own = some m.cls) {index : Nat} {y : MethodName} (hy1 : y.name = "<init>") (w1 : (Cond.methodLink own index y).before a0 Z = true) (w2 : (Cond.instanceMethod y).before a0 Z = true)
    {bytes : ByteArray} {maxL : Nat} (w3 : (Cond.code y bytes maxL none).before a0 Z = true) (hy : y.cls ≠ "java/lang/invoke/MethodHandle" ∧ y.cls ≠ "java/lang/invoke/VarHandle") {W rc rs : Nat} {as : Array Value} (hK : PayS l R p e below s vm0 args y 3 W Z EL as h rc rs Q) (eT : T.heap = h) (B : Snc s vm0 h)
    {g : JFrame} (hg : g.method = m) (hsize : g.locals.size = c.maxLocals) {a : Addr} (argsL rest : List Value) (hlen : ∀ sig, parseMethodDescriptor y.desc = some sig → argsL.length = sig.parameters.length) (hstack : g.stack = argsL.reverse ++ .ref a :: rest) (hW : 2 * g.monitorRoom + (rest.map fun v => v.category).sum ≤ W)
    (hdg : decode c.code g.pc = .ok (.invokespecial index, 3)) (has : (Value.ref a :: argsL).toArray = as) (hc : cells + rc ≤ R.cells) (hs : slots + rs ≤ R.slots) :
    ∃ (v : Option Value) (T' : State) (h' : Heap) (L : List Loc), Stand p l e R (s.setVm T'.vm) m args below meth c T' (locs ++ L) (cells + rc) (slots + rs) ∧ T'.heap = h' ∧ Q v h' L ∧ CHr Z EL vm0 h T'.vm h' ∧ Snc s T'.vm h' ∧ Z.Warmed39 (s.setVm T'.vm).vm ∧ (s.setVm T'.vm).vm.findClass own = some m.cls ∧ ∀ t, Steps p.tables e below (T'.setTop { g with pc := g.pc + 3, stack := v.toList ++ rest }) t → Steps p.tables e below (T.setTop g) t := by
  obtain ⟨v, _, ⟨T', L', k', n'⟩, -, X', hS, hgr, ⟨L, hQ, l1, y1, z1, hC⟩, st⟩ := X.specialBackS hx hy1 hown (mvT hZ w1) (mvT hZ w2) (mvT hZ w3) hy hK hg hsize (Steps.refl _) hlen hstack hW hdg (fun _ _ => ⟨has, eT, hc, hs⟩)
  dsimp only [Pt.U, Pt.locs, Pt.cells, Pt.slots] at X' l1 y1 z1 st hQ hS hgr hC
  subst l1 y1 z1
  obtain ⟨k0, b, hk⟩ := B
  obtain ⟨r1, r2, r3, r4⟩ := rebS b hk X' hS (by rw [← eT]; exact hgr) hZ hown
  exact ⟨v, T', _, L, r1, rfl, hQ, hC, ⟨_, r2, Nat.le_refl _⟩, r3, r4, fun t q => st.trans q⟩
theorem goVW (X : Stand p l e R (s.setVm vm0) m args below meth c T locs cells slots) (hx : p.tables.exec = Jvm.exec) (hZ : Z.Warmed39 (s.setVm vm0).vm) {own : String} (hown : (s.setVm vm0).vm.findClass own = some m.cls) {index : Nat} {C : String} {y z : MethodName} (w1 : (Cond.methodLink own index y).before a0 Z = true) (w2 : (Cond.declares y).before a0 Z = true)
    (w3 : (Cond.selects C y z).before a0 Z = true) (nf : NotFace (s.setVm vm0) y) (w4 : (Cond.instanceMethod z).before a0 Z = true) (hy : y.cls ≠ "java/lang/invoke/MethodHandle" ∧ y.cls ≠ "java/lang/invoke/VarHandle") {W rc rs : Nat} {as : Array Value} (hK : PayS l R p e below s vm0 args z 3 W Z EL as h rc rs Q) (eT : T.heap = h) (B : Snc s vm0 h) {a : Addr} (E : Exa Z h a C)
    {g : JFrame} (hg : g.method = m) (hsize : g.locals.size = c.maxLocals) (argsL rest : List Value) (hlen : ∀ sig, parseMethodDescriptor y.desc = some sig → argsL.length = sig.parameters.length) (hstack : g.stack = argsL.reverse ++ .ref a :: rest) (hW : 2 * g.monitorRoom + (rest.map fun v => v.category).sum ≤ W)
    (hdg : decode c.code g.pc = .ok (.invokevirtual index, 3)) (has : (Value.ref a :: argsL).toArray = as) (hc : cells + rc ≤ R.cells) (hs : slots + rs ≤ R.slots) :
    ∃ (v : Option Value) (T' : State) (h' : Heap) (L : List Loc), Stand p l e R (s.setVm T'.vm) m args below meth c T' (locs ++ L) (cells + rc) (slots + rs) ∧ T'.heap = h' ∧ Q v h' L ∧ CHr Z EL vm0 h T'.vm h' ∧ Snc s T'.vm h' ∧ Z.Warmed39 (s.setVm T'.vm).vm ∧ (s.setVm T'.vm).vm.findClass own = some m.cls ∧ ∀ t, Steps p.tables e below (T'.setTop { g with pc := g.pc + 3, stack := v.toList ++ rest }) t → Steps p.tables e below (T.setTop g) t := by
  obtain ⟨cB, kB, q1, -, q3⟩ := isOf hZ eT E
  obtain ⟨v, _, ⟨T', L', k', n'⟩, -, X', hS, hgr, ⟨L, hQ, l1, y1, z1, hC⟩, st⟩ := X.virtualBackS hx hown (mvT hZ w1) (mvT hZ w2) nf (mvT hZ w3) (mvT hZ w4) hy hK q1 q3 hg hsize (Steps.refl _) hlen hstack hW hdg (fun _ _ => ⟨has, eT, hc, hs⟩)
  dsimp only [Pt.U, Pt.locs, Pt.cells, Pt.slots] at X' l1 y1 z1 st hQ hS hgr hC
  subst l1 y1 z1
  obtain ⟨k0, b, hk⟩ := B
  obtain ⟨r1, r2, r3, r4⟩ := rebS b hk X' hS (by rw [← eT]; exact hgr) hZ hown
  exact ⟨v, T', _, L, r1, rfl, hQ, hC, ⟨_, r2, Nat.le_refl _⟩, r3, r4, fun t q => st.trans q⟩
theorem goSW (X : Stand p l e R (s.setVm vm0) m args below meth c T locs cells slots) (hx : p.tables.exec = Jvm.exec) (hZ : Z.Warmed39 (s.setVm vm0).vm) {own : String} (hown : (s.setVm vm0).vm.findClass own = some m.cls) {index : Nat} {y : MethodName} (w1 : (Cond.methodLink own index y).before a0 Z = true) (w2 : (Cond.static y).before a0 Z = true) (w3 : (Cond.initialized y.cls).before a0 Z = true)
    {bytes : ByteArray} {maxL : Nat} {ret : Option FieldType} (w4 : (Cond.code y bytes maxL ret).before a0 Z = true) (hy : y.cls ≠ "java/lang/invoke/MethodHandle" ∧ y.cls ≠ "java/lang/invoke/VarHandle") {W rc rs : Nat} {as : Array Value} (hK : PayS l R p e below s vm0 args y 3 W Z EL as h rc rs Q) (eT : T.heap = h) (B : Snc s vm0 h)
    {g : JFrame} (hg : g.method = m) (hsize : g.locals.size = c.maxLocals) (argsL rest : List Value) (hlen : ∀ sig, parseMethodDescriptor y.desc = some sig → argsL.length = sig.parameters.length) (hstack : g.stack = argsL.reverse ++ rest) (hW : 2 * g.monitorRoom + (rest.map fun v => v.category).sum ≤ W)
    (hdg : decode c.code g.pc = .ok (.invokestatic index, 3)) (has : argsL.toArray = as) (hc : cells + rc ≤ R.cells) (hs : slots + rs ≤ R.slots) :
    ∃ (v : Option Value) (T' : State) (h' : Heap) (L : List Loc), Stand p l e R (s.setVm T'.vm) m args below meth c T' (locs ++ L) (cells + rc) (slots + rs) ∧ T'.heap = h' ∧ Q v h' L ∧ CHr Z EL vm0 h T'.vm h' ∧ Snc s T'.vm h' ∧ Z.Warmed39 (s.setVm T'.vm).vm ∧ (s.setVm T'.vm).vm.findClass own = some m.cls ∧ ∀ t, Steps p.tables e below (T'.setTop { g with pc := g.pc + 3, stack := v.toList ++ rest }) t → Steps p.tables e below (T.setTop g) t := by
  obtain ⟨v, _, ⟨T', L', k', n'⟩, -, X', hS, hgr, ⟨L, hQ, l1, y1, z1, hC⟩, st⟩ := callSS X hx hown (mvT hZ w1) (mvT hZ w2) (mvT hZ w3) (mvT hZ w4) hy hK hg hsize hlen hstack hW hdg (fun _ _ => ⟨has, eT, hc, hs⟩)
  dsimp only [Pt.U, Pt.locs, Pt.cells, Pt.slots] at X' l1 y1 z1 st hQ hS hgr hC
  subst l1 y1 z1
  obtain ⟨k0, b, hk⟩ := B
  obtain ⟨r1, r2, r3, r4⟩ := rebS b hk X' hS (by rw [← eT]; exact hgr) hZ hown
  exact ⟨v, T', _, L, r1, rfl, hQ, hC, ⟨_, r2, Nat.le_refl _⟩, r3, r4, fun t q => st.trans q⟩
theorem fin_ofW (X : Stand p l e R (s.setVm vm0) m args below meth c T locs cells slots) (hlk : meth.locks = false) {v : Option Value} (hv : meth.sig.returnType = none → v = none) {A : State} (eT : T.heap = h) (hZ : Z.Warmed39 (s.setVm vm0).vm) (hEL : EW Z a0 EL) (B : Snc s vm0 h) (H : CHr Z EL s.vm h0 vm0 h) (q : Q v h locs) (hc : cells ≤ k) (hs : slots ≤ n)
    (hst : ∀ fs, (∀ (f : JFrame) (acts : List Action), f.method = m → f.locked = none → f.entered = [] → (doReturn e (T.setTop f) acts v).1 = T.setFrames fs) → Steps p.tables e below A (T.setFrames fs)) : FinW p e below s Z EL h0 Q k n A := by
  obtain ⟨k0, b, hk⟩ := B
  subst eT
  obtain ⟨fs, hr, hrun, hended, h1, h2, h3, h4⟩ := X.leaveW b hk (v := v) hv hlk
  exact ⟨_, _, hst fs hr, hrun, hended, v, locs, rfl, q, (show CHr Z EL s.vm h0 T.vm T.heap from H.trans (CHv.at X hZ hEL H.1)), h1, h2, h3, h4.mono hc hs⟩
theorem finVW (X : Stand p l e R (s.setVm vm0) m args below meth c T locs cells slots) (hx : p.tables.exec = Jvm.exec) (hlk : meth.locks = false) (hret : meth.sig.returnType = none) {pc : Nat} {Ls : Array Slot} (hd : decode c.code pc = .ok (.return_, 1)) (eT : T.heap = h) (hZ : Z.Warmed39 (s.setVm vm0).vm) (hEL : EW Z a0 EL) (B : Snc s vm0 h) (H : CHr Z EL s.vm h0 vm0 h) (q : Q none h locs) (hc : cells ≤ k) (hs : slots ≤ n) : FinW p e below s Z EL h0 Q k n (T.setTop (mkF m pc Ls [])) :=
  fin_ofW X hlk (fun _ => rfl) eT hZ hEL B H q hc hs fun fs hr => X.returnOut hx hret hd hr
theorem finOW (X : Stand p l e R (s.setVm vm0) m args below meth c T locs cells slots) (hx : p.tables.exec = Jvm.exec) (hlk : meth.locks = false) {t : FieldType} {w : Value} {i : Instr} {rest : List Value} (hret : meth.sig.returnType = some t) (hn : narrow t w = w)
    (hi : (i = .ireturn ∧ (t = .int ∨ t = .boolean ∨ t = .byte ∨ t = .char ∨ t = .short) ∧ ∃ z, w = .int z) ∨ (i = .lreturn ∧ t = .long ∧ ∃ z, w = .long z) ∨ (i = .dreturn ∧ t = .double ∧ ∃ z, w = .double z) ∨ (i = .freturn ∧ t = .float ∧ ∃ z, w = .float z) ∨ (i = .areturn ∧ t.isReference = true ∧ w.isRef = true))
    {pc : Nat} {Ls : Array Slot} (hd : decode c.code pc = .ok (i, 1)) (eT : T.heap = h) (hZ : Z.Warmed39 (s.setVm vm0).vm) (hEL : EW Z a0 EL) (B : Snc s vm0 h) (H : CHr Z EL s.vm h0 vm0 h) (q : Q (some w) h locs) (hc : cells ≤ k) (hs : slots ≤ n) : FinW p e below s Z EL h0 Q k n (T.setTop (mkF m pc Ls (w :: rest))) :=
  fin_ofW X hlk (fun hq => by rw [hret] at hq; cases hq) eT hZ hEL B H q hc hs fun fs hr => retOut X hx hret hn hi hd hr
theorem finIW (X : Stand p l e R (s.setVm vm0) m args below meth c T locs cells slots) (hx : p.tables.exec = Jvm.exec) (hlk : meth.locks = false) {z : Int32} {rest : List Value} (hret : meth.sig.returnType = some .int) {pc : Nat} {Ls : Array Slot} (hd : decode c.code pc = .ok (.ireturn, 1)) (eT : T.heap = h) (hZ : Z.Warmed39 (s.setVm vm0).vm) (hEL : EW Z a0 EL) (B : Snc s vm0 h) (H : CHr Z EL s.vm h0 vm0 h) (q : Q (some (.int z)) h locs) (hc : cells ≤ k) (hs : slots ≤ n) : FinW p e below s Z EL h0 Q k n (T.setTop (mkF m pc Ls (.int z :: rest))) :=
  finOW X hx hlk hret rfl (Or.inl ⟨rfl, Or.inl rfl, z, rfl⟩) hd eT hZ hEL B H q hc hs
theorem finAW (X : Stand p l e R (s.setVm vm0) m args below meth c T locs cells slots) (hx : p.tables.exec = Jvm.exec) (hlk : meth.locks = false) {t : FieldType} {w : Value} {rest : List Value} (hret : meth.sig.returnType = some t) (ht : t.isReference = true) (hw : w.isRef = true) (hn : narrow t w = w) {pc : Nat} {Ls : Array Slot} (hd : decode c.code pc = .ok (.areturn, 1)) (eT : T.heap = h) (hZ : Z.Warmed39 (s.setVm vm0).vm) (hEL : EW Z a0 EL) (B : Snc s vm0 h) (H : CHr Z EL s.vm h0 vm0 h) (q : Q (some w) h locs) (hc : cells ≤ k) (hs : slots ≤ n) : FinW p e below s Z EL h0 Q k n (T.setTop (mkF m pc Ls (w :: rest))) :=
  finOW X hx hlk hret hn (Or.inr (Or.inr (Or.inr (Or.inr ⟨rfl, ht, hw⟩)))) hd eT hZ hEL B H q hc hs
theorem finNW (X : Stand p l e R (s.setVm vm0) m args below meth c T locs cells slots) (hx : p.tables.exec = Jvm.exec) (hlk : meth.locks = false) {t : FieldType} {z : Int32} {rest : List Value} (hret : meth.sig.returnType = some t) (ht : t = .boolean ∨ t = .byte ∨ t = .char ∨ t = .short) {pc : Nat} {Ls : Array Slot} (hd : decode c.code pc = .ok (.ireturn, 1)) (eT : T.heap = h) (hZ : Z.Warmed39 (s.setVm vm0).vm) (hEL : EW Z a0 EL) (B : Snc s vm0 h) (H : CHr Z EL s.vm h0 vm0 h) (q : Q (some (.int (nar t z))) h locs) (hc : cells ≤ k) (hs : slots ≤ n) : FinW p e below s Z EL h0 Q k n (T.setTop (mkF m pc Ls (.int z :: rest))) :=
  fin_ofW X hlk (fun hq => by rw [hret] at hq; cases hq) eT hZ hEL B H q hc hs fun fs hr => retN X hx hret ht hd hr
theorem join1W {α : Type} {P : α → Prop} {A : α → State} {B : State} (hj : ∀ a, P a → FinW p e below s Z EL h0 Q k n (A a)) (go : (∀ a, P a → FinW p e below s Z EL h0 Q k n (A a)) → FinW p e below s Z EL h0 Q k n B) : FinW p e below s Z EL h0 Q k n B := go hj
theorem joinHW {α : Type} {P : α → State → Heap → List Loc → Vm → Prop} {A : α → State → State} {B : State} (hj : ∀ a T h L vm, P a T h L vm → FinW p e below s Z EL h0 Q k n (A a T)) (go : (∀ a T h L vm, P a T h L vm → FinW p e below s Z EL h0 Q k n (A a T)) → FinW p e below s Z EL h0 Q k n B) : FinW p e below s Z EL h0 Q k n B := go hj
/-- a String whose value isn't set yet is no booked one's cell -/
theorem Safe.null {x : Addr} (hal : Z.vm.Alike vm0) (E : Exa Z h x "java/lang/String") (F : Fld Z h x "java/lang/String" "value" "[B" .null) : Safe Z EL vm0 h x := fun B => by
  obtain ⟨cell, k, e1, e2, e3, -, -⟩ := E
  have nm : ∀ {n : String} {c : ClassId}, vm0.findClass n = some c → c = cell.cls → n = "java/lang/String" := fun {n c} f e => by
    subst e
    rw [hal.findClass] at f
    obtain ⟨k1, q1, q2⟩ := Vm.findClass_spec f
    obtain ⟨k2, q3, q4⟩ := Vm.findClass_spec e2
    cases q1.symm.trans q3
    exact q2.symm.trans q4
  obtain ⟨p, -, u, a, -, q, -, G, rfl | rfl⟩ := B
  · have ha := G.ha
    obtain ⟨cS, ⟨⟨-, -, -, ⟨c1, k1, i1, f1, -⟩, -, -, -, v1, -⟩, -⟩, -⟩ := G
    obtain ⟨k', z4⟩ := ff_back (U := Wst Z vm0 h) hal f1
    obtain ⟨cell', cf, k2, i, f, h1, h2, -, -, -, -, h7⟩ := F
    cases (show h[q.sa]? = some q.sC from ha).symm.trans h1
    cases z4.symm.trans h2
    rw [v1] at h7
    cases h7
  · cases (show h[q.sd]? = some q.SA from G.hd).symm.trans e1
    obtain ⟨cS, -, -, f, -⟩ := G
    exact absurd (nm f rfl) (by decide)
/-- ldc of a literal whose text is read -/
theorem ldcRd (X : Stand p l e R (s.setVm vm0) m args below meth c T locs cells slots) (hx : p.tables.exec = Jvm.exec) (hZ : Z.Warmed39 (s.setVm vm0).vm) {own text : String} {index : Nat} (hown : (s.setVm vm0).vm.findClass own = some m.cls) (w : (Cond.stringLink own index text).before a0 Z = true) (wS : ∀ a ∈ Bundle.stringAtoms, a.before a0 Z = true)
    (eT : T.heap = h) (B : Snc s vm0 h) (hEL : EW Z a0 EL) (hmem : (own, index) ∈ EL) (H : CHr Z EL s.vm h0 vm0 h)
    {vs : List Value} {z : Int32} (ht : (∀ c ∈ text.toList, c.toNat < 256) ∧ text.toList.map (fun c => Value.int (Jvm.Lit.byteI c.toNat.toUInt16)) = vs) (hz : ¬ z < 0) (hl : z.toNatClampNeg = vs.length)
    {g : JFrame} (hg : g.method = m) (hd : decode c.code g.pc = .ok (.ldc index, 2)) {n : Nat} (hn : 4 * text.toList.length ≤ n) (hbig : n ≤ 536870912) (hc : cells + 2 ≤ R.cells) (hl' : slots + (n + 4) ≤ R.slots) :
    ∃ (a : Addr) (T' : State) (h' : Heap) (b : Addr) (k : ClassId), Stand p l e R (s.setVm T'.vm) m args below meth c T' locs (cells + 2) (slots + (n + 4)) ∧ T'.heap = h' ∧ Ext h h' ∧ Snc s T'.vm h' ∧ Z.Warmed39 (s.setVm T'.vm).vm ∧ (s.setVm T'.vm).vm.findClass own = some m.cls ∧
      Exa Z h' a "java/lang/String" ∧ Fld Z h' a "java/lang/String" "coder" "B" (.int 0) ∧ Fld Z h' a "java/lang/String" "value" "[B" (.ref b) ∧ Arv Z h' b k .byte z vs (.int 0) ∧ CHr Z EL s.vm h0 T'.vm h' ∧ (∀ x, Safe Z EL T'.vm h' x → x ≠ a ∧ x ≠ b) ∧
      ∀ target, Steps p.tables e below (T'.setTop { g with pc := g.pc + 2, stack := .ref a :: g.stack }) target → Steps p.tables e below (T.setTop g) target := by
  obtain ⟨k0, b0, hk⟩ := B
  obtain ⟨a, T', h', k1, b, kk, X', e', E, hS, hk1, hZ', hown', q1, q2, q3, q4, -, -, hC, -, hne, st⟩ := ldcCH X hx hZ hown w wS eT b0 hk hEL hmem H.1 ht hz hl hg hd hn hbig hc hl'
  exact ⟨a, T', h', b, kk, X', e', E, ⟨k1, hS, hk1⟩, hZ', hown', q1, q2, q3, q4, H.trans hC, hne, st⟩
/-- ldc of a literal of whose text nothing is asked -/
theorem ldcOp (X : Stand p l e R (s.setVm vm0) m args below meth c T locs cells slots) (hx : p.tables.exec = Jvm.exec) (hZ : Z.Warmed39 (s.setVm vm0).vm) {own text : String} {index : Nat} (hown : (s.setVm vm0).vm.findClass own = some m.cls) (w : (Cond.stringLink own index text).before a0 Z = true) (wS : ∀ a ∈ Bundle.stringAtoms, a.before a0 Z = true)
    (eT : T.heap = h) (B : Snc s vm0 h) (hEL : EW Z a0 EL) (H : CHr Z EL s.vm h0 vm0 h)
    {g : JFrame} (hg : g.method = m) (hd : decode c.code g.pc = .ok (.ldc index, 2)) {n : Nat} (hn : 4 * text.toList.length ≤ n) (hbig : n ≤ 536870912) (hc : cells + 2 ≤ R.cells) (hl' : slots + (n + 4) ≤ R.slots) :
    ∃ (a : Addr) (T' : State) (h' : Heap), Stand p l e R (s.setVm T'.vm) m args below meth c T' locs (cells + 2) (slots + (n + 4)) ∧ T'.heap = h' ∧ Ext h h' ∧ Snc s T'.vm h' ∧ Z.Warmed39 (s.setVm T'.vm).vm ∧ (s.setVm T'.vm).vm.findClass own = some m.cls ∧ CHr Z EL s.vm h0 T'.vm h' ∧
      ∀ target, Steps p.tables e below (T'.setTop { g with pc := g.pc + 2, stack := .ref a :: g.stack }) target → Steps p.tables e below (T.setTop g) target := by
  obtain ⟨k0, b0, hk⟩ := B
  obtain ⟨a, T', h', k1, X', e', E, hS, hk1, hZ', hown', hC, -, st⟩ := ldcOH X hx hZ hown w wS eT b0 hk hEL H.1 hg hd hn hbig hc hl'
  exact ⟨a, T', h', X', e', E, ⟨k1, hS, hk1⟩, hZ', hown', H.trans hC, st⟩
end KitW
end Jvm.OwnKit
namespace Jvm.Pilot.@@N@@
open Jvm Jvm.ClassFile Sem Op Lib Jvm.Free Jvm.Stand Jvm.LawKit Jvm.RoadKit Bundle Jvm.OwnKit Jvm.Pilot.@@N@@.Jvm.D
section OwnStr
variable {p : Program} {l : Launch} {e : Env} {R : Room} {s : State} {args : Array Value} {below : List Frame} {Z : State} {a0 : Array Value} {h h' : Heap} {x t : Addr} {cs : List Int32}
/-- the String at x, her byte[] at t: the chars cs, each 0 to 255 -/
def Str (Z : State) (h : Heap) (x t : Addr) (cs : List Int32) : Prop := Exa Z h x "java/lang/String" ∧ Fld Z h x "java/lang/String" "coder" "B" (.int 0) ∧ Fld Z h x "java/lang/String" "value" "[B" (.ref t) ∧ (∃ kb, Arv Z h t kb .byte (Int32.ofNat cs.length) ((cs.map fun c => c.toInt8.toInt32).map Value.int) (.int 0)) ∧ (∀ c ∈ cs, ¬ c < 0 ∧ ¬ (255 : Int32) < c) ∧ cs.length ≤ 4000
theorem Str.exa (S : Str Z h x t cs) : Exa Z h x "java/lang/String" := S.1
theorem Str.lt (S : Str Z h x t cs) : x < h.size := S.1.lt
theorem Str.ltt (S : Str Z h x t cs) : t < h.size := by obtain ⟨-, -, -, ⟨kb, V⟩, -⟩ := S; exact V.lt
theorem Str.ext (S : Str Z h x t cs) (E : Ext h h') : Str Z h' x t cs := by obtain ⟨a, b, c, ⟨kb, V⟩, d⟩ := S; exact ⟨a.ext E, b.ext E, c.ext E, ⟨kb, V.ext E⟩, d⟩
theorem Str.keep {ws : List Addr} (S : Str Z h x t cs) (K : Keep h h' ws) (q : x ∉ ws) (r : t ∉ ws) : Str Z h' x t cs := by obtain ⟨a, b, c, ⟨kb, V⟩, d⟩ := S; exact ⟨a.keep K, b.keep K q, c.keep K q, ⟨kb, V.keep K r⟩, d⟩
theorem Str.other {a : Addr} {sl : Nat} {v : Value} (S : Str Z h x t cs) (W : Wr h h' a sl v) (q : x ≠ a) (r : t ≠ a) : Str Z h' x t cs := S.keep (Keep.of_wr W) (ninS q nin0) (ninS r nin0)
theorem up8 (h : ∀ c ∈ cs, ¬ c < 0 ∧ ¬ (255 : Int32) < c) : ∀ c ∈ cs, ¬ c < 0 ∧ ¬ (65535 : Int32) < c := fun c hc => ⟨(h c hc).1, fun q => (h c hc).2 (by rw [Int32.lt_iff_toInt_lt] at q ⊢; have e1 : (65535 : Int32).toInt = 65535 := rfl; have e2 : (255 : Int32).toInt = 255 := rfl; omega)⟩
theorem own_words : ∀ d ∈ StrChars.Road.words, d ∈ tables_1 := by decide +kernel
theorem strNew {len W : Nat} (hZ : Z.Warmed39 s.vm) (hw : ∀ d ∈ tables_1, d.before a0 Z = true) (wi : (Jvm.Cond.instantiable "java/lang/String" 4).before a0 Z = true) {b : Addr} {kC : ClassId} {d v0 c0 : Value} {z : Int32} {n n0 : Nat} (hx0 : n0 ≤ x) (hh0 : n0 ≤ h.size)
    (E : Exa Z h x "java/lang/String") (V : Fld Z h x "java/lang/String" "value" "[B" v0) (C : Fld Z h x "java/lang/String" "coder" "B" c0) (K : Arv Z h b kC .char (Int32.ofNat n) (cs.map Value.int) d) (S : Sta Z h "java/lang/String" "COMPACT_STRINGS" "Z" (.int z)) (hz : ¬ z = 0)
    (hn : cs.length = n) (l0 : 0 < n) (l2 : n ≤ 4000) (hp : ∀ c ∈ cs, ¬ c < 0 ∧ ¬ (255 : Int32) < c) (hfr : 4 ≤ R.frames) (hlo : W + 65 ≤ R.locals) :
    Pay l R p e below s args ⟨"java/lang/String", "<init>", "([C)V"⟩ len W #[.ref x, .ref b] h 1 n (fun v h' L => v = none ∧ Fr n0 L ∧ Keep h h' [x] ∧ ∃ t, n0 ≤ t ∧ h.size ≤ t ∧ ¬ t = x ∧ Str Z h' x t cs) := by
  refine Back.mono (StrChars.Road.backV hZ (fun d hd => hw d (own_words d hd)) wi hx0 hh0 E V C K S hz hn rfl l0 l2 hp rfl hfr hlo) (fun _ _ q => q) (fun P a v B hp' hq => ?_)
  obtain ⟨L, ⟨q1, q2, q3, q4, q5, t, kb, q6, q7, q8, q9, q10⟩, r1, r2, r3⟩ := hq
  subst hn
  exact ⟨L, ⟨q1, q2, q3, t, q6, q7, q8, q4, q5, q9, ⟨kb, q10⟩, hp, l2⟩, r1, r2, r3⟩
end OwnStr
end Jvm.Pilot.@@N@@
namespace Jvm.Pilot.@@N@@
open Jvm Jvm.ClassFile Sem Op Lib Jvm.Free Jvm.Stand Jvm.LawKit Jvm.RoadKit Bundle Jvm.OwnKit Jvm.Pilot.@@N@@.Jvm.D
section OwnStr
variable {p : Program} {l : Launch} {e : Env} {R : Room} {s : State} {args : Array Value} {below : List Frame} {Z : State} {a0 : Array Value} {h h' : Heap} {x t y u : Addr} {cs ds : List Int32}
theorem own_wordsEq : ∀ d ∈ StrChars.Road.wordsEq, d ∈ tables_1 := by decide +kernel
theorem strEq {len W : Nat} (hZ : Z.Warmed39 s.vm) (hw : ∀ d ∈ tables_1, d.before a0 Z = true) (wi : (Jvm.Cond.instantiable "java/lang/String" 4).before a0 Z = true) {z : Int32} (S : Str Z h x t cs) (S' : Str Z h y u ds) (SC : Sta Z h "java/lang/String" "COMPACT_STRINGS" "Z" (.int z)) (hz : ¬ z = 0) (hfr : 2 ≤ R.frames) (hlo : W + 28 ≤ R.locals) :
    Pay l R p e below s args ⟨"java/lang/String", "equals", "(Ljava/lang/Object;)Z"⟩ len W #[.ref x, .ref y] h 0 0 (fun v h' L => v = some (.int (if cs = ds then 1 else 0)) ∧ L = [] ∧ h' = h) := by
  obtain ⟨E, C, V, ⟨kb, K⟩, hp, l2⟩ := S
  obtain ⟨E', C', V', ⟨kb', K'⟩, hp', l2'⟩ := S'
  refine Back.mono (StrChars.Road.eqW hZ (fun d hd => hw d (own_wordsEq d hd)) wi E V C K (StrChars.Road.codOf rfl (fun c hc => (hp c hc).2)) (up8 hp) l2 E' V' C' K' (StrChars.Road.codOf rfl (fun c hc => (hp' c hc).2)) (up8 hp') l2' SC hz hfr hlo) (fun _ _ q => q) (fun P a v B hp' hq => ?_)
  obtain ⟨L, ⟨q1, q2, q3⟩, r⟩ := hq
  refine ⟨L, ⟨?_, q2, q3⟩, r⟩
  rcases q1 with ⟨rfl, q⟩ | ⟨rfl, q⟩
  · rw [if_pos q]
  · rw [if_neg q]
end OwnStr
end Jvm.Pilot.@@N@@
namespace Jvm.Pilot.@@N@@
open Jvm Jvm.ClassFile Sem Op Lib Jvm.Free Jvm.Stand Jvm.LawKit Jvm.RoadKit Bundle Jvm.OwnKit Jvm.Pilot.@@N@@.Jvm.D
def EL : List (String × Nat) := [("com/example/grantwell/grantwell/server/AuthMethodNamedPinLaw", 19), ("com/example/grantwell/grantwell/server/AuthMethodNamedPinLaw", 31), ("com/example/grantwell/grantwell/server/AuthMethodNamedPinLaw", 36), ("java/lang/String", 7)]
theorem own_EW {a0 : Array Value} {Z : State} (hw : ∀ d ∈ tables_1, d.before a0 Z = true) : EW Z a0 EL := (EW.cons (hw _ (List.mem_of_getElem? (i := 31) rfl)) (by decide +kernel) (EW.cons (hw _ (List.mem_of_getElem? (i := 70) rfl)) (by decide +kernel) (EW.cons (hw _ (List.mem_of_getElem? (i := 71) rfl)) (by decide +kernel) (EW.cons (hw _ (List.mem_of_getElem? (i := 78) rfl)) (by decide +kernel) EW.nil))))
theorem own_wS {a0 : Array Value} {Z : State} (hw : ∀ d ∈ tables_1, d.before a0 Z = true) : ∀ d ∈ Bundle.stringAtoms, d.before a0 Z = true := fun d hd => hw d ((by decide +kernel : ∀ d ∈ Bundle.stringAtoms, d ∈ tables_1) d hd)
abbrev nm0 : List Int32 := [99, 108, 105, 101, 110, 116, 95, 115, 101, 99, 114, 101, 116, 95, 98, 97, 115, 105, 99]
abbrev nm1 : List Int32 := [99, 108, 105, 101, 110, 116, 95, 115, 101, 99, 114, 101, 116, 95, 112, 111, 115, 116]
abbrev nm2 : List Int32 := [110, 111, 110, 101]
/-- the three constants and their array, as they stood at the start -/
def Enm (Z : State) (va : Addr) (cv : Cell) (en0 en1 en2 s0 s1 s2 u0 u1 u2 : Addr) : Prop := Sta Z Z.heap "com/example/grantwell/grantwell/server/AuthMethod" "$VALUES" "[Lcom/example/grantwell/grantwell/server/AuthMethod;" (.ref va) ∧ (∃ k, Arv Z Z.heap va k (.object "com/example/grantwell/grantwell/server/AuthMethod") 3 [.ref en0, .ref en1, .ref en2] .null) ∧ Arr Z Z.heap va cv (.object "com/example/grantwell/grantwell/server/AuthMethod") ∧ Exa Z Z.heap va "[Lcom/example/grantwell/grantwell/server/AuthMethod;" ∧ FitC Z cv ∧
  (Exa Z Z.heap en0 "com/example/grantwell/grantwell/server/AuthMethod" ∧ Fld Z Z.heap en0 "com/example/grantwell/grantwell/server/AuthMethod" "_name" "Ljava/lang/String;" (.ref s0) ∧ Str Z Z.heap s0 u0 nm0) ∧ (Exa Z Z.heap en1 "com/example/grantwell/grantwell/server/AuthMethod" ∧ Fld Z Z.heap en1 "com/example/grantwell/grantwell/server/AuthMethod" "_name" "Ljava/lang/String;" (.ref s1) ∧ Str Z Z.heap s1 u1 nm1) ∧ (Exa Z Z.heap en2 "com/example/grantwell/grantwell/server/AuthMethod" ∧ Fld Z Z.heap en2 "com/example/grantwell/grantwell/server/AuthMethod" "_name" "Ljava/lang/String;" (.ref s2) ∧ Str Z Z.heap s2 u2 nm2)
theorem pn_0 : plainName "java/lang/String" = true := by first | (simp [plainName, overriddenIn]; done) | decide +kernel
theorem d_jdk_42_method_149_0 : decode jdk_42_method_149_code 0 = .ok (.aload_n 0, 1) := by decide +kernel
theorem d_jdk_42_method_149_1 : decode jdk_42_method_149_code 1 = .ok (.invokespecial 1, 3) := by decide +kernel
theorem d_jdk_42_method_149_4 : decode jdk_42_method_149_code 4 = .ok (.iload_n 3, 1) := by decide +kernel
theorem d_jdk_42_method_149_5 : decode jdk_42_method_149_code 5 = .ok (.ifCond .ne 22, 3) := by decide +kernel
theorem d_jdk_42_method_149_8 : decode jdk_42_method_149_code 8 = .ok (.aload_n 0, 1) := by decide +kernel
theorem d_jdk_42_method_149_9 : decode jdk_42_method_149_code 9 = .ok (.ldc 7, 2) := by decide +kernel
theorem d_jdk_42_method_149_11 : decode jdk_42_method_149_code 11 = .ok (.getfield 9, 3) := by decide +kernel
theorem d_jdk_42_method_149_14 : decode jdk_42_method_149_code 14 = .ok (.putfield 9, 3) := by decide +kernel
theorem d_jdk_42_method_149_17 : decode jdk_42_method_149_code 17 = .ok (.aload_n 0, 1) := by decide +kernel
theorem d_jdk_42_method_149_18 : decode jdk_42_method_149_code 18 = .ok (.ldc 7, 2) := by decide +kernel
theorem d_jdk_42_method_149_20 : decode jdk_42_method_149_code 20 = .ok (.getfield 15, 3) := by decide +kernel
theorem d_jdk_42_method_149_23 : decode jdk_42_method_149_code 23 = .ok (.putfield 15, 3) := by decide +kernel
theorem d_jdk_42_method_149_26 : decode jdk_42_method_149_code 26 = .ok (.return_, 1) := by decide +kernel
set_option maxRecDepth 65536 in
set_option maxHeartbeats 40000000 in
theorem rmE2 (l : Launch) (Z : State) (a0 : Array Value) (hw : ∀ d ∈ tables_1, d.before a0 Z = true) (ws : List Jvm.Cond) (x b : Addr) (h0 : Heap) (n0 : Nat) (O : Old Z n0 h0) (E1 : Exa Z h0 x "java/lang/String") (F1 : Fld Z h0 x "java/lang/String" "value" "[B" .null) (F2 : Fld Z h0 x "java/lang/String" "coder" "B" (.int 0)) (g1 : n0 ≤ x) :
    ConW l Z EL h0 ⟨"java/lang/String", "<init>", "([CIILjava/lang/Void;)V"⟩ jdk_42_method_149_code 6 none ws ({ frames := 1, cells := 4, slots := 8, locals := 12 } : Room) #[(.ref x), (.ref b), (.int (0 : Int32)), (.int (0 : Int32)), .null] (fun v h L => v = none ∧ Fr n0 L ∧ Keep h0 h [x] ∧ ∃ t, ¬ t = x ∧ Str Z h x t []) := by
  refine ConW.of (plainFor_of_name pn_0) (f0 := fun m => (mkF m 0 #[.val (.ref x), .val (.ref b), .val (.int (0 : Int32)), .val (.int (0 : Int32)), .val .null, .unset] [])) (fun m => by first | (simp [entryFrame, mkF, argsToLocals, Value.category, maxLocals]; done) | rfl) ?_
  intro p e s m below meth c T0 vm0 hx hby hml hown hnm hret hlk hZ X0 e0 B0 CH0 hZs
  have hEL := own_EW hw
  have hown : (s.setVm vm0).vm.findClass "java/lang/String" = some m.cls := hown
  have N0 := Fr.nil n0
  have KP0 := Keep.refl h0 [x]
  have GW0 : Grw h0 h0 := Nat.le_refl _
  show FinW p e below s Z EL h0 _ _ _ (T0.setTop (mkF m 0 #[.val (.ref x), .val (.ref b), .val (.int (0 : Int32)), .val (.int (0 : Int32)), .val .null, .unset] []))
  have sf0x := Jvm.OwnKit.Safe.null (EL := EL) hZs.alike E1 F1
  refine FinW.st (fun _ => XS.aloadN X0.here hx rfl (Jvm.hb hby d_jdk_42_method_149_0) rfl rfl) ?_
  show FinW p e below s Z EL h0 _ _ _ (T0.setTop (mkF m 1 #[.val (.ref x), .val (.ref b), .val (.int (0 : Int32)), .val (.int (0 : Int32)), .val .null, .unset] [(.ref x)]))
  obtain ⟨T101, X101, e101, st101⟩ := initO X0 hx hZ hown (hw _ (List.mem_of_getElem? (i := 12) rfl)) (hw _ (List.mem_of_getElem? (i := 13) rfl)) (hw _ (List.mem_of_getElem? (i := 14) rfl)) e0 (g := (mkF m 1 #[.val (.ref x), .val (.ref b), .val (.int (0 : Int32)), .val (.int (0 : Int32)), .val .null, .unset] [(.ref x)])) rfl (by rw [hml]; rfl) rfl (Jvm.hb hby d_jdk_42_method_149_1) (by decide) (W := 0) (by show 2 * 0 + _ ≤ _; exact Nat.le_of_eq rfl) (by decide)
  refine FinW.st st101 ?_
  show FinW p e below s Z EL h0 _ _ _ (T101.setTop (mkF m 4 #[.val (.ref x), .val (.ref b), .val (.int (0 : Int32)), .val (.int (0 : Int32)), .val .null, .unset] []))
  refine FinW.st (fun _ => XS.iloadN X101.here hx rfl (Jvm.hb hby d_jdk_42_method_149_4) rfl) ?_
  show FinW p e below s Z EL h0 _ _ _ (T101.setTop (mkF m 5 #[.val (.ref x), .val (.ref b), .val (.int (0 : Int32)), .val (.int (0 : Int32)), .val .null, .unset] [(.int (0 : Int32))]))
  refine FinW.st (fun _ => XS.ifNo X101.here hx rfl (Jvm.hb hby d_jdk_42_method_149_5) rfl (zneN rfl)) ?_
  show FinW p e below s Z EL h0 _ _ _ (T101.setTop (mkF m 8 #[.val (.ref x), .val (.ref b), .val (.int (0 : Int32)), .val (.int (0 : Int32)), .val .null, .unset] []))
  refine FinW.st (fun _ => XS.aloadN X101.here hx rfl (Jvm.hb hby d_jdk_42_method_149_8) rfl rfl) ?_
  show FinW p e below s Z EL h0 _ _ _ (T101.setTop (mkF m 9 #[.val (.ref x), .val (.ref b), .val (.int (0 : Int32)), .val (.int (0 : Int32)), .val .null, .unset] [(.ref x)]))
  obtain ⟨a102, T102, h102, t102, kk102, X102, e102, E102, B102, hZ102, hown102, A102, C102, V102, D102, CH102, SF102, st102⟩ := ldcRd X101 hx hZ hown (hw _ (List.mem_of_getElem? (i := 78) rfl)) (own_wS hw) e101 B0 hEL (by decide) CH0 (vs := (([] : List Int32).map fun c => c.toInt8.toInt32).map Value.int) (z := Int32.ofNat 0) (by decide +kernel) (by decide) rfl (g := (mkF m 9 #[.val (.ref x), .val (.ref b), .val (.int (0 : Int32)), .val (.int (0 : Int32)), .val .null, .unset] [(.ref x)])) rfl (Jvm.hb hby d_jdk_42_method_149_9) (n := 0) (by decide +kernel) (by decide) (by decide) (by decide)
  refine FinW.st st102 ?_
  have S102 : Str Z h102 a102 t102 ([] : List Int32) := ⟨A102, C102, V102, ⟨kk102, D102⟩, by decide, by decide⟩
  show FinW p e below s Z EL h0 _ _ _ (T102.setTop (mkF m 11 #[.val (.ref x), .val (.ref b), .val (.int (0 : Int32)), .val (.int (0 : Int32)), .val .null, .unset] [(.ref a102), (.ref x)]))
  have ne103 := SF102 x (CH102.safe E1.lt sf0x)
  obtain ⟨T104, X104, e104, st104⟩ := getF X102 hx hZ102 hown102 (host := "") (Or.inl (hw _ (List.mem_of_getElem? (i := 29) rfl))) Via.refl e102 V102 (g := (mkF m 11 #[.val (.ref x), .val (.ref b), .val (.int (0 : Int32)), .val (.int (0 : Int32)), .val .null, .unset] [(.ref a102), (.ref x)])) rfl rfl (Jvm.hb hby d_jdk_42_method_149_11)
  refine FinW.st st104 ?_
  show FinW p e below s Z EL h0 _ _ _ (T104.setTop (mkF m 14 #[.val (.ref x), .val (.ref b), .val (.int (0 : Int32)), .val (.int (0 : Int32)), .val .null, .unset] [(.ref t102), (.ref x)]))
  have f105 := F1.ext E102
  have f106 := E1.ext E102
  obtain ⟨T107, h107, X107, e107, W107, st107⟩ := putF X104 hx hZ102 hown102 (host := "") (Or.inl (hw _ (List.mem_of_getElem? (i := 29) rfl))) Via.refl e104 f105 f106 (Or.inr ⟨(hw _ (List.mem_of_getElem? (i := 30) rfl)), rfl, hnm⟩) (hw _ (List.mem_of_getElem? (i := 3) rfl)) (ty := (.array .byte)) (by decide) rfl rfl (g := (mkF m 14 #[.val (.ref x), .val (.ref b), .val (.int (0 : Int32)), .val (.int (0 : Int32)), .val .null, .unset] [(.ref t102), (.ref x)])) rfl rfl (Jvm.hb hby d_jdk_42_method_149_14)
  have N107 := Fr.snoc X107 N0 g1
  have F107 := f105.same W107
  refine FinW.st st107 ?_
  have CH108 := CH102.trans (CHr.wr W107 (CH102.safe E1.lt sf0x) CH102.1)
  show FinW p e below s Z EL h0 _ _ _ (T107.setTop (mkF m 17 #[.val (.ref x), .val (.ref b), .val (.int (0 : Int32)), .val (.int (0 : Int32)), .val .null, .unset] []))
  refine FinW.st (fun _ => XS.aloadN X107.here hx rfl (Jvm.hb hby d_jdk_42_method_149_17) rfl rfl) ?_
  show FinW p e below s Z EL h0 _ _ _ (T107.setTop (mkF m 18 #[.val (.ref x), .val (.ref b), .val (.int (0 : Int32)), .val (.int (0 : Int32)), .val .null, .unset] [(.ref x)]))
  have f110 := B102.wr W107
  have f111 := f106.wr W107
  have f112 := A102.wr W107
  have f113 := S102.other W107 (Ne.symm ne103.1) (Ne.symm ne103.2)
  obtain ⟨a109, T109, h109, t109, kk109, X109, e109, E109, B109, hZ109, hown109, A109, C109, V109, D109, CH109, SF109, st109⟩ := ldcRd X107 hx hZ102 hown102 (hw _ (List.mem_of_getElem? (i := 78) rfl)) (own_wS hw) e107 f110 hEL (by decide) CH108 (vs := (([] : List Int32).map fun c => c.toInt8.toInt32).map Value.int) (z := Int32.ofNat 0) (by decide +kernel) (by decide) rfl (g := (mkF m 18 #[.val (.ref x), .val (.ref b), .val (.int (0 : Int32)), .val (.int (0 : Int32)), .val .null, .unset] [(.ref x)])) rfl (Jvm.hb hby d_jdk_42_method_149_18) (n := 0) (by decide +kernel) (by decide) (by decide) (by decide)
  refine FinW.st st109 ?_
  have S109 : Str Z h109 a109 t109 ([] : List Int32) := ⟨A109, C109, V109, ⟨kk109, D109⟩, by decide, by decide⟩
  show FinW p e below s Z EL h0 _ _ _ (T109.setTop (mkF m 20 #[.val (.ref x), .val (.ref b), .val (.int (0 : Int32)), .val (.int (0 : Int32)), .val .null, .unset] [(.ref a109), (.ref x)]))
  have ne114 := SF109 x (CH109.safe E1.lt sf0x)
  obtain ⟨T115, X115, e115, st115⟩ := getF X109 hx hZ109 hown109 (host := "") (Or.inl (hw _ (List.mem_of_getElem? (i := 27) rfl))) Via.refl e109 C109 (g := (mkF m 20 #[.val (.ref x), .val (.ref b), .val (.int (0 : Int32)), .val (.int (0 : Int32)), .val .null, .unset] [(.ref a109), (.ref x)])) rfl rfl (Jvm.hb hby d_jdk_42_method_149_20)
  refine FinW.st st115 ?_
  show FinW p e below s Z EL h0 _ _ _ (T115.setTop (mkF m 23 #[.val (.ref x), .val (.ref b), .val (.int (0 : Int32)), .val (.int (0 : Int32)), .val .null, .unset] [(.int (0 : Int32)), (.ref x)]))
  have f116 := F2.ext E102
  have f117 := f116.other W107 (Or.inr (slot_ne (Or.inr (hw _ (List.mem_of_getElem? (i := 28) rfl))) (Or.inr (hw _ (List.mem_of_getElem? (i := 30) rfl))) (by decide) (t := .byte) (t' := (.array .byte)) (by decide) (by decide)))
  have f118 := f117.ext E109
  have f119 := f111.ext E109
  obtain ⟨T120, h120, X120, e120, W120, st120⟩ := putF X115 hx hZ109 hown109 (host := "") (Or.inl (hw _ (List.mem_of_getElem? (i := 27) rfl))) Via.refl e115 f118 f119 (Or.inr ⟨(hw _ (List.mem_of_getElem? (i := 28) rfl)), rfl, hnm⟩) (hw _ (List.mem_of_getElem? (i := 3) rfl)) (ty := .byte) (by decide) rfl rfl (g := (mkF m 23 #[.val (.ref x), .val (.ref b), .val (.int (0 : Int32)), .val (.int (0 : Int32)), .val .null, .unset] [(.int (0 : Int32)), (.ref x)])) rfl rfl (Jvm.hb hby d_jdk_42_method_149_23)
  have N120 := Fr.snoc X120 N107 g1
  have F120 := f118.same W120
  refine FinW.st st120 ?_
  have CH121 := CH109.trans (CHr.wr W120 (CH109.safe E1.lt sf0x) CH109.1)
  show FinW p e below s Z EL h0 _ _ _ (T120.setTop (mkF m 26 #[.val (.ref x), .val (.ref b), .val (.int (0 : Int32)), .val (.int (0 : Int32)), .val .null, .unset] []))
  have f122 := f113.ext E109
  have f123 := f122.other W120 (Ne.symm ne103.1) (Ne.symm ne103.2)
  have f124 := KP0.ext E102
  have f125 := f124.wr W107 (Or.inl (List.mem_of_getElem? (i := 0) rfl))
  have f126 := f125.ext E109
  have f127 := f126.wr W120 (Or.inl (List.mem_of_getElem? (i := 0) rfl))
  have f128 := f119.wr W120
  have f129 := F107.ext E109
  have f130 := f129.other W120 (Or.inr (slot_ne (Or.inr (hw _ (List.mem_of_getElem? (i := 30) rfl))) (Or.inr (hw _ (List.mem_of_getElem? (i := 28) rfl))) (by decide) (t := (.array .byte)) (t' := .byte) (by decide) (by decide)))
  have f131 := B109.wr W120
  exact finVW X120 hx hlk hret (Jvm.hb hby d_jdk_42_method_149_26) e120 hZ109 hEL f131 CH121 ⟨rfl, N120, f127, t102, (Ne.symm ne103.2), f128, F120, f130, f123.2.2.2.1, by decide, by decide⟩ (by decide) (by decide)
theorem d_jdk_42_method_3_0 : decode jdk_42_method_3_code 0 = .ok (.aload_n 0, 1) := by decide +kernel
theorem d_jdk_42_method_3_1 : decode jdk_42_method_3_code 1 = .ok (.aload_n 1, 1) := by decide +kernel
theorem d_jdk_42_method_3_2 : decode jdk_42_method_3_code 2 = .ok (.iconst 0, 1) := by decide +kernel
theorem d_jdk_42_method_3_3 : decode jdk_42_method_3_code 3 = .ok (.aload_n 1, 1) := by decide +kernel
theorem d_jdk_42_method_3_4 : decode jdk_42_method_3_code 4 = .ok (.arraylength, 1) := by decide +kernel
theorem d_jdk_42_method_3_5 : decode jdk_42_method_3_code 5 = .ok (.aconst_null, 1) := by decide +kernel
theorem d_jdk_42_method_3_6 : decode jdk_42_method_3_code 6 = .ok (.invokespecial 27, 3) := by decide +kernel
theorem pd_0 : parseMethodDescriptor "([CIILjava/lang/Void;)V" = some ⟨[(.array .char), .int, .int, (.object "java/lang/Void")], none⟩ := by decide +kernel
theorem d_jdk_42_method_3_9 : decode jdk_42_method_3_code 9 = .ok (.return_, 1) := by decide +kernel
set_option maxRecDepth 65536 in
set_option maxHeartbeats 40000000 in
theorem rmE1 (l : Launch) (Z : State) (a0 : Array Value) (hw : ∀ d ∈ tables_1, d.before a0 Z = true) (ws : List Jvm.Cond) (x b : Addr) (kb : ClassId) (h0 : Heap) (n0 : Nat) (O : Old Z n0 h0) (E1 : Exa Z h0 x "java/lang/String") (F1 : Fld Z h0 x "java/lang/String" "value" "[B" .null) (F2 : Fld Z h0 x "java/lang/String" "coder" "B" (.int 0)) (g1 : n0 ≤ x) (V1 : Arv Z h0 b kb .char (0 : Int32) [] (.int 0)) :
    ConW l Z EL h0 ⟨"java/lang/String", "<init>", "([C)V"⟩ jdk_42_method_3_code 2 none ws ({ frames := 2, cells := 4, slots := 8, locals := 34 } : Room) #[(.ref x), (.ref b)] (fun v h L => v = none ∧ Fr n0 L ∧ Keep h0 h [x] ∧ ∃ t, ¬ t = x ∧ Str Z h x t []) := by
  refine ConW.of (plainFor_of_name pn_0) (f0 := fun m => (mkF m 0 #[.val (.ref x), .val (.ref b)] [])) (fun m => by first | (simp [entryFrame, mkF, argsToLocals, Value.category, maxLocals]; done) | rfl) ?_
  intro p e s m below meth c T0 vm0 hx hby hml hown hnm hret hlk hZ X0 e0 B0 CH0 hZs
  have hEL := own_EW hw
  have hown : (s.setVm vm0).vm.findClass "java/lang/String" = some m.cls := hown
  have N0 := Fr.nil n0
  have KP0 := Keep.refl h0 [x]
  have GW0 : Grw h0 h0 := Nat.le_refl _
  show FinW p e below s Z EL h0 _ _ _ (T0.setTop (mkF m 0 #[.val (.ref x), .val (.ref b)] []))
  refine FinW.st (fun _ => XS.aloadN X0.here hx rfl (Jvm.hb hby d_jdk_42_method_3_0) rfl rfl) ?_
  show FinW p e below s Z EL h0 _ _ _ (T0.setTop (mkF m 1 #[.val (.ref x), .val (.ref b)] [(.ref x)]))
  refine FinW.st (fun _ => XS.aloadN X0.here hx rfl (Jvm.hb hby d_jdk_42_method_3_1) rfl rfl) ?_
  show FinW p e below s Z EL h0 _ _ _ (T0.setTop (mkF m 2 #[.val (.ref x), .val (.ref b)] [(.ref b), (.ref x)]))
  refine FinW.st (fun _ => XS.iconst X0.here hx rfl (Jvm.hb hby d_jdk_42_method_3_2)) ?_
  show FinW p e below s Z EL h0 _ _ _ (T0.setTop (mkF m 3 #[.val (.ref x), .val (.ref b)] [(.int (0 : Int32)), (.ref b), (.ref x)]))
  refine FinW.st (fun _ => XS.aloadN X0.here hx rfl (Jvm.hb hby d_jdk_42_method_3_3) rfl rfl) ?_
  show FinW p e below s Z EL h0 _ _ _ (T0.setTop (mkF m 4 #[.val (.ref x), .val (.ref b)] [(.ref b), (.int (0 : Int32)), (.ref b), (.ref x)]))
  refine FinW.st (alen X0 hx hZ e0 V1 (g := (mkF m 4 #[.val (.ref x), .val (.ref b)] [(.ref b), (.int (0 : Int32)), (.ref b), (.ref x)])) rfl rfl (Jvm.hb hby d_jdk_42_method_3_4)) ?_
  show FinW p e below s Z EL h0 _ _ _ (T0.setTop (mkF m 5 #[.val (.ref x), .val (.ref b)] [(.int (0 : Int32)), (.int (0 : Int32)), (.ref b), (.ref x)]))
  refine FinW.st (fun _ => XS.aconstNull X0.here hx rfl (Jvm.hb hby d_jdk_42_method_3_5)) ?_
  show FinW p e below s Z EL h0 _ _ _ (T0.setTop (mkF m 6 #[.val (.ref x), .val (.ref b)] [.null, (.int (0 : Int32)), (.int (0 : Int32)), (.ref b), (.ref x)]))
  obtain ⟨_, T132, h132, L132, X132, e132, ⟨rfl, Nq132, K132, Q132⟩, CHc132, B132, hZ132, hown132, st132⟩ := goIW X0 hx hZ hown rfl (hw _ (List.mem_of_getElem? (i := 8) rfl)) (hw _ (List.mem_of_getElem? (i := 9) rfl)) (hw _ (List.mem_of_getElem? (i := 11) rfl)) (by decide) ((rmE2 l Z a0 hw [] x b h0 n0 O E1 F1 F2 g1).pay (W := 0) hZ (hw _ (List.mem_of_getElem? (i := 11) rfl)) (hw _ (List.mem_of_getElem? (i := 4) rfl)) (by decide) (by decide) hEL CH0) e0 B0 (g := (mkF m 6 #[.val (.ref x), .val (.ref b)] [.null, (.int (0 : Int32)), (.int (0 : Int32)), (.ref b), (.ref x)])) rfl (by rw [hml]; rfl) [(.ref b), (.int (0 : Int32)), (.int (0 : Int32)), .null] [] (lenOf pd_0 rfl) rfl (by show 2 * 0 + _ ≤ _; exact Nat.le_of_eq rfl) (Jvm.hb hby d_jdk_42_method_3_6) rfl (by decide) (by decide)
  have N132 := N0.app Nq132
  refine FinW.st st132 ?_
  have CH132 := CH0.trans CHc132
  show FinW p e below s Z EL h0 _ _ _ (T132.setTop (mkF m 9 #[.val (.ref x), .val (.ref b)] []))
  have f133 := KP0.trans K132 (allS (Or.inl (List.mem_of_getElem? (i := 0) rfl)) (all0))
  exact finVW X132 hx hlk hret (Jvm.hb hby d_jdk_42_method_3_9) e132 hZ132 hEL B132 CH132 ⟨rfl, N132, f133, Q132⟩ (by decide) (by decide)
theorem pn_1 : plainName "com/example/grantwell/grantwell/server/AuthMethodNamedPinLaw" = true := by first | (simp [plainName, overriddenIn]; done) | decide +kernel
theorem d_method_3_0 : decode method_3_code 0 = .ok (.iload_n 1, 1) := by decide +kernel
theorem d_method_3_1 : decode method_3_code 1 = .ok (.sipush 255, 3) := by decide +kernel
theorem d_method_3_4 : decode method_3_code 4 = .ok (.iand, 1) := by decide +kernel
theorem d_method_3_5 : decode method_3_code 5 = .ok (.i2c, 1) := by decide +kernel
theorem d_method_3_6 : decode method_3_code 6 = .ok (.istore_n 2, 1) := by decide +kernel
theorem d_method_3_7 : decode method_3_code 7 = .ok (.iload_n 1, 1) := by decide +kernel
theorem d_method_3_8 : decode method_3_code 8 = .ok (.bipush 8, 2) := by decide +kernel
theorem d_method_3_10 : decode method_3_code 10 = .ok (.iushr, 1) := by decide +kernel
theorem d_method_3_11 : decode method_3_code 11 = .ok (.sipush 255, 3) := by decide +kernel
theorem d_method_3_14 : decode method_3_code 14 = .ok (.iand, 1) := by decide +kernel
theorem d_method_3_15 : decode method_3_code 15 = .ok (.i2c, 1) := by decide +kernel
theorem d_method_3_16 : decode method_3_code 16 = .ok (.istore_n 3, 1) := by decide +kernel
theorem d_method_3_17 : decode method_3_code 17 = .ok (.iload_n 1, 1) := by decide +kernel
theorem d_method_3_18 : decode method_3_code 18 = .ok (.bipush 16, 2) := by decide +kernel
theorem d_method_3_20 : decode method_3_code 20 = .ok (.iushr, 1) := by decide +kernel
theorem d_method_3_21 : decode method_3_code 21 = .ok (.sipush 255, 3) := by decide +kernel
theorem d_method_3_24 : decode method_3_code 24 = .ok (.iand, 1) := by decide +kernel
theorem d_method_3_25 : decode method_3_code 25 = .ok (.i2c, 1) := by decide +kernel
theorem d_method_3_26 : decode method_3_code 26 = .ok (.istore 4, 2) := by decide +kernel
theorem d_method_3_28 : decode method_3_code 28 = .ok (.iload_n 1, 1) := by decide +kernel
theorem d_method_3_29 : decode method_3_code 29 = .ok (.bipush 24, 2) := by decide +kernel
theorem d_method_3_31 : decode method_3_code 31 = .ok (.iushr, 1) := by decide +kernel
theorem d_method_3_32 : decode method_3_code 32 = .ok (.sipush 255, 3) := by decide +kernel
theorem d_method_3_35 : decode method_3_code 35 = .ok (.iand, 1) := by decide +kernel
theorem d_method_3_36 : decode method_3_code 36 = .ok (.i2c, 1) := by decide +kernel
theorem d_method_3_37 : decode method_3_code 37 = .ok (.istore 5, 2) := by decide +kernel
theorem d_method_3_39 : decode method_3_code 39 = .ok (.iload_n 0, 1) := by decide +kernel
theorem d_method_3_40 : decode method_3_code 40 = .ok (.ifCond .ne 14, 3) := by decide +kernel
theorem d_method_3_43 : decode method_3_code 43 = .ok (.new 8, 3) := by decide +kernel
theorem d_method_3_46 : decode method_3_code 46 = .ok (.dup, 1) := by decide +kernel
theorem d_method_3_47 : decode method_3_code 47 = .ok (.iconst 0, 1) := by decide +kernel
theorem d_method_3_48 : decode method_3_code 48 = .ok (.newarray .char, 2) := by decide +kernel
theorem d_method_3_50 : decode method_3_code 50 = .ok (.invokespecial 10, 3) := by decide +kernel
theorem pd_1 : parseMethodDescriptor "([C)V" = some ⟨[(.array .char)], none⟩ := by decide +kernel
theorem d_method_3_53 : decode method_3_code 53 = .ok (.areturn, 1) := by decide +kernel
theorem d_method_3_54 : decode method_3_code 54 = .ok (.iload_n 0, 1) := by decide +kernel
theorem d_method_3_55 : decode method_3_code 55 = .ok (.iconst 1, 1) := by decide +kernel
theorem d_method_3_56 : decode method_3_code 56 = .ok (.if_icmp .ne 18, 3) := by decide +kernel
theorem d_method_3_59 : decode method_3_code 59 = .ok (.new 8, 3) := by decide +kernel
theorem d_method_3_62 : decode method_3_code 62 = .ok (.dup, 1) := by decide +kernel
theorem d_method_3_63 : decode method_3_code 63 = .ok (.iconst 1, 1) := by decide +kernel
theorem d_method_3_64 : decode method_3_code 64 = .ok (.newarray .char, 2) := by decide +kernel
theorem d_method_3_66 : decode method_3_code 66 = .ok (.dup, 1) := by decide +kernel
theorem d_method_3_67 : decode method_3_code 67 = .ok (.iconst 0, 1) := by decide +kernel
theorem d_method_3_68 : decode method_3_code 68 = .ok (.iload_n 2, 1) := by decide +kernel
theorem d_method_3_69 : decode method_3_code 69 = .ok (.castore, 1) := by decide +kernel
theorem d_method_3_70 : decode method_3_code 70 = .ok (.invokespecial 10, 3) := by decide +kernel
theorem d_method_3_73 : decode method_3_code 73 = .ok (.areturn, 1) := by decide +kernel
theorem d_method_3_74 : decode method_3_code 74 = .ok (.iload_n 0, 1) := by decide +kernel
theorem d_method_3_75 : decode method_3_code 75 = .ok (.iconst 2, 1) := by decide +kernel
theorem d_method_3_76 : decode method_3_code 76 = .ok (.if_icmp .ne 22, 3) := by decide +kernel
theorem d_method_3_79 : decode method_3_code 79 = .ok (.new 8, 3) := by decide +kernel
theorem d_method_3_82 : decode method_3_code 82 = .ok (.dup, 1) := by decide +kernel
theorem d_method_3_83 : decode method_3_code 83 = .ok (.iconst 2, 1) := by decide +kernel
theorem d_method_3_84 : decode method_3_code 84 = .ok (.newarray .char, 2) := by decide +kernel
theorem d_method_3_86 : decode method_3_code 86 = .ok (.dup, 1) := by decide +kernel
theorem d_method_3_87 : decode method_3_code 87 = .ok (.iconst 0, 1) := by decide +kernel
theorem d_method_3_88 : decode method_3_code 88 = .ok (.iload_n 2, 1) := by decide +kernel
theorem d_method_3_89 : decode method_3_code 89 = .ok (.castore, 1) := by decide +kernel
theorem d_method_3_90 : decode method_3_code 90 = .ok (.dup, 1) := by decide +kernel
theorem d_method_3_91 : decode method_3_code 91 = .ok (.iconst 1, 1) := by decide +kernel
theorem d_method_3_92 : decode method_3_code 92 = .ok (.iload_n 3, 1) := by decide +kernel
theorem d_method_3_93 : decode method_3_code 93 = .ok (.castore, 1) := by decide +kernel
theorem d_method_3_94 : decode method_3_code 94 = .ok (.invokespecial 10, 3) := by decide +kernel
theorem d_method_3_97 : decode method_3_code 97 = .ok (.areturn, 1) := by decide +kernel
theorem d_method_3_98 : decode method_3_code 98 = .ok (.iload_n 0, 1) := by decide +kernel
theorem d_method_3_99 : decode method_3_code 99 = .ok (.iconst 3, 1) := by decide +kernel
theorem d_method_3_100 : decode method_3_code 100 = .ok (.if_icmp .ne 27, 3) := by decide +kernel
theorem d_method_3_103 : decode method_3_code 103 = .ok (.new 8, 3) := by decide +kernel
theorem d_method_3_106 : decode method_3_code 106 = .ok (.dup, 1) := by decide +kernel
theorem d_method_3_107 : decode method_3_code 107 = .ok (.iconst 3, 1) := by decide +kernel
theorem d_method_3_108 : decode method_3_code 108 = .ok (.newarray .char, 2) := by decide +kernel
theorem d_method_3_110 : decode method_3_code 110 = .ok (.dup, 1) := by decide +kernel
theorem d_method_3_111 : decode method_3_code 111 = .ok (.iconst 0, 1) := by decide +kernel
theorem d_method_3_112 : decode method_3_code 112 = .ok (.iload_n 2, 1) := by decide +kernel
theorem d_method_3_113 : decode method_3_code 113 = .ok (.castore, 1) := by decide +kernel
theorem d_method_3_114 : decode method_3_code 114 = .ok (.dup, 1) := by decide +kernel
theorem d_method_3_115 : decode method_3_code 115 = .ok (.iconst 1, 1) := by decide +kernel
theorem d_method_3_116 : decode method_3_code 116 = .ok (.iload_n 3, 1) := by decide +kernel
theorem d_method_3_117 : decode method_3_code 117 = .ok (.castore, 1) := by decide +kernel
theorem d_method_3_118 : decode method_3_code 118 = .ok (.dup, 1) := by decide +kernel
theorem d_method_3_119 : decode method_3_code 119 = .ok (.iconst 2, 1) := by decide +kernel
theorem d_method_3_120 : decode method_3_code 120 = .ok (.iload 4, 2) := by decide +kernel
theorem d_method_3_122 : decode method_3_code 122 = .ok (.castore, 1) := by decide +kernel
theorem d_method_3_123 : decode method_3_code 123 = .ok (.invokespecial 10, 3) := by decide +kernel
theorem d_method_3_126 : decode method_3_code 126 = .ok (.areturn, 1) := by decide +kernel
theorem d_method_3_127 : decode method_3_code 127 = .ok (.new 8, 3) := by decide +kernel
theorem d_method_3_130 : decode method_3_code 130 = .ok (.dup, 1) := by decide +kernel
theorem d_method_3_131 : decode method_3_code 131 = .ok (.iconst 4, 1) := by decide +kernel
theorem d_method_3_132 : decode method_3_code 132 = .ok (.newarray .char, 2) := by decide +kernel
theorem d_method_3_134 : decode method_3_code 134 = .ok (.dup, 1) := by decide +kernel
theorem d_method_3_135 : decode method_3_code 135 = .ok (.iconst 0, 1) := by decide +kernel
theorem d_method_3_136 : decode method_3_code 136 = .ok (.iload_n 2, 1) := by decide +kernel
theorem d_method_3_137 : decode method_3_code 137 = .ok (.castore, 1) := by decide +kernel
theorem d_method_3_138 : decode method_3_code 138 = .ok (.dup, 1) := by decide +kernel
theorem d_method_3_139 : decode method_3_code 139 = .ok (.iconst 1, 1) := by decide +kernel
theorem d_method_3_140 : decode method_3_code 140 = .ok (.iload_n 3, 1) := by decide +kernel
theorem d_method_3_141 : decode method_3_code 141 = .ok (.castore, 1) := by decide +kernel
theorem d_method_3_142 : decode method_3_code 142 = .ok (.dup, 1) := by decide +kernel
theorem d_method_3_143 : decode method_3_code 143 = .ok (.iconst 2, 1) := by decide +kernel
theorem d_method_3_144 : decode method_3_code 144 = .ok (.iload 4, 2) := by decide +kernel
theorem d_method_3_146 : decode method_3_code 146 = .ok (.castore, 1) := by decide +kernel
theorem d_method_3_147 : decode method_3_code 147 = .ok (.dup, 1) := by decide +kernel
theorem d_method_3_148 : decode method_3_code 148 = .ok (.iconst 3, 1) := by decide +kernel
theorem d_method_3_149 : decode method_3_code 149 = .ok (.iload 5, 2) := by decide +kernel
theorem d_method_3_151 : decode method_3_code 151 = .ok (.castore, 1) := by decide +kernel
theorem d_method_3_152 : decode method_3_code 152 = .ok (.invokespecial 10, 3) := by decide +kernel
theorem d_method_3_155 : decode method_3_code 155 = .ok (.areturn, 1) := by decide +kernel
set_option maxRecDepth 65536 in
set_option maxHeartbeats 40000000 in
theorem rmDrawn (l : Launch) (Z : State) (a0 : Array Value) (hw : ∀ d ∈ tables_1, d.before a0 Z = true) (ws : List Jvm.Cond) (k pk cz : Int32) (h0 : Heap) (n0 : Nat) (O : Old Z n0 h0) (SC : Sta Z Z.heap "java/lang/String" "COMPACT_STRINGS" "Z" (.int cz)) (hcz : ¬ cz = 0) :
    ConW l Z EL h0 ⟨"com/example/grantwell/grantwell/server/AuthMethodNamedPinLaw", "drawn", "(II)Ljava/lang/String;"⟩ method_3_code 6 (some (.object "java/lang/String")) ws ({ frames := 5, cells := 6, slots := 20, locals := 100 } : Room) #[(.int k), (.int pk)] (fun v h L => ∃ x t cs, v = some (.ref x) ∧ Fr n0 L ∧ Keep h0 h [] ∧ n0 ≤ x ∧ Str Z h x t cs) := by
  refine ConW.of (plainFor_of_name pn_1) (f0 := fun m => (mkF m 0 #[.val (.int k), .val (.int pk), .unset, .unset, .unset, .unset] [])) (fun m => by first | (simp [entryFrame, mkF, argsToLocals, Value.category, maxLocals]; done) | rfl) ?_
  intro p e s m below meth c T0 vm0 hx hby hml hown hnm hret hlk hZ X0 e0 B0 CH0 hZs
  have hEL := own_EW hw
  have hown : (s.setVm vm0).vm.findClass "com/example/grantwell/grantwell/server/AuthMethodNamedPinLaw" = some m.cls := hown
  have N0 := Fr.nil n0
  have KP0 := Keep.refl h0 []
  have GW0 : Grw h0 h0 := Nat.le_refl _
  show FinW p e below s Z EL h0 _ _ _ (T0.setTop (mkF m 0 #[.val (.int k), .val (.int pk), .unset, .unset, .unset, .unset] []))
  refine FinW.st (fun _ => XS.iloadN X0.here hx rfl (Jvm.hb hby d_method_3_0) rfl) ?_
  show FinW p e below s Z EL h0 _ _ _ (T0.setTop (mkF m 1 #[.val (.int k), .val (.int pk), .unset, .unset, .unset, .unset] [(.int pk)]))
  refine FinW.st (fun _ => XS.sipush X0.here hx rfl (Jvm.hb hby d_method_3_1)) ?_
  show FinW p e below s Z EL h0 _ _ _ (T0.setTop (mkF m 4 #[.val (.int k), .val (.int pk), .unset, .unset, .unset, .unset] [(.int (255 : Int32)), (.int pk)]))
  refine FinW.st (fun _ => XS.iand X0.here hx rfl (Jvm.hb hby d_method_3_4) rfl) ?_
  show FinW p e below s Z EL h0 _ _ _ (T0.setTop (mkF m 5 #[.val (.int k), .val (.int pk), .unset, .unset, .unset, .unset] [(.int (pk &&& (255 : Int32)))]))
  refine FinW.st (fun _ => XS.i2c X0.here hx rfl (Jvm.hb hby d_method_3_5) rfl) ?_
  show FinW p e below s Z EL h0 _ _ _ (T0.setTop (mkF m 6 #[.val (.int k), .val (.int pk), .unset, .unset, .unset, .unset] [(.int (chr (pk &&& (255 : Int32))))]))
  obtain ⟨c0, hc0, lc0, uc0, wc0⟩ := chr_255 pk
  rw [hc0]
  show FinW p e below s Z EL h0 _ _ _ (T0.setTop (mkF m 6 #[.val (.int k), .val (.int pk), .unset, .unset, .unset, .unset] [(.int c0)]))
  refine FinW.st (fun _ => XS.istoreN X0.here hx rfl (Jvm.hb hby d_method_3_6) rfl (l' := #[.val (.int k), .val (.int pk), .val (.int c0), .unset, .unset, .unset]) rfl) ?_
  show FinW p e below s Z EL h0 _ _ _ (T0.setTop (mkF m 7 #[.val (.int k), .val (.int pk), .val (.int c0), .unset, .unset, .unset] []))
  refine FinW.st (fun _ => XS.iloadN X0.here hx rfl (Jvm.hb hby d_method_3_7) rfl) ?_
  show FinW p e below s Z EL h0 _ _ _ (T0.setTop (mkF m 8 #[.val (.int k), .val (.int pk), .val (.int c0), .unset, .unset, .unset] [(.int pk)]))
  refine FinW.st (fun _ => XS.bipush X0.here hx rfl (Jvm.hb hby d_method_3_8)) ?_
  show FinW p e below s Z EL h0 _ _ _ (T0.setTop (mkF m 10 #[.val (.int k), .val (.int pk), .val (.int c0), .unset, .unset, .unset] [(.int (8 : Int32)), (.int pk)]))
  refine FinW.st (fun _ => XS.iushr X0.here hx rfl (Jvm.hb hby d_method_3_10) rfl) ?_
  show FinW p e below s Z EL h0 _ _ _ (T0.setTop (mkF m 11 #[.val (.int k), .val (.int pk), .val (.int c0), .unset, .unset, .unset] [(.int (ush pk (8 : Int32)))]))
  refine FinW.st (fun _ => XS.sipush X0.here hx rfl (Jvm.hb hby d_method_3_11)) ?_
  show FinW p e below s Z EL h0 _ _ _ (T0.setTop (mkF m 14 #[.val (.int k), .val (.int pk), .val (.int c0), .unset, .unset, .unset] [(.int (255 : Int32)), (.int (ush pk (8 : Int32)))]))
  refine FinW.st (fun _ => XS.iand X0.here hx rfl (Jvm.hb hby d_method_3_14) rfl) ?_
  show FinW p e below s Z EL h0 _ _ _ (T0.setTop (mkF m 15 #[.val (.int k), .val (.int pk), .val (.int c0), .unset, .unset, .unset] [(.int ((ush pk (8 : Int32)) &&& (255 : Int32)))]))
  refine FinW.st (fun _ => XS.i2c X0.here hx rfl (Jvm.hb hby d_method_3_15) rfl) ?_
  show FinW p e below s Z EL h0 _ _ _ (T0.setTop (mkF m 16 #[.val (.int k), .val (.int pk), .val (.int c0), .unset, .unset, .unset] [(.int (chr ((ush pk (8 : Int32)) &&& (255 : Int32))))]))
  obtain ⟨c1, hc1, lc1, uc1, wc1⟩ := chr_255 (ush pk (8 : Int32))
  rw [hc1]
  show FinW p e below s Z EL h0 _ _ _ (T0.setTop (mkF m 16 #[.val (.int k), .val (.int pk), .val (.int c0), .unset, .unset, .unset] [(.int c1)]))
  refine FinW.st (fun _ => XS.istoreN X0.here hx rfl (Jvm.hb hby d_method_3_16) rfl (l' := #[.val (.int k), .val (.int pk), .val (.int c0), .val (.int c1), .unset, .unset]) rfl) ?_
  show FinW p e below s Z EL h0 _ _ _ (T0.setTop (mkF m 17 #[.val (.int k), .val (.int pk), .val (.int c0), .val (.int c1), .unset, .unset] []))
  refine FinW.st (fun _ => XS.iloadN X0.here hx rfl (Jvm.hb hby d_method_3_17) rfl) ?_
  show FinW p e below s Z EL h0 _ _ _ (T0.setTop (mkF m 18 #[.val (.int k), .val (.int pk), .val (.int c0), .val (.int c1), .unset, .unset] [(.int pk)]))
  refine FinW.st (fun _ => XS.bipush X0.here hx rfl (Jvm.hb hby d_method_3_18)) ?_
  show FinW p e below s Z EL h0 _ _ _ (T0.setTop (mkF m 20 #[.val (.int k), .val (.int pk), .val (.int c0), .val (.int c1), .unset, .unset] [(.int (16 : Int32)), (.int pk)]))
  refine FinW.st (fun _ => XS.iushr X0.here hx rfl (Jvm.hb hby d_method_3_20) rfl) ?_
  show FinW p e below s Z EL h0 _ _ _ (T0.setTop (mkF m 21 #[.val (.int k), .val (.int pk), .val (.int c0), .val (.int c1), .unset, .unset] [(.int (ush pk (16 : Int32)))]))
  refine FinW.st (fun _ => XS.sipush X0.here hx rfl (Jvm.hb hby d_method_3_21)) ?_
  show FinW p e below s Z EL h0 _ _ _ (T0.setTop (mkF m 24 #[.val (.int k), .val (.int pk), .val (.int c0), .val (.int c1), .unset, .unset] [(.int (255 : Int32)), (.int (ush pk (16 : Int32)))]))
  refine FinW.st (fun _ => XS.iand X0.here hx rfl (Jvm.hb hby d_method_3_24) rfl) ?_
  show FinW p e below s Z EL h0 _ _ _ (T0.setTop (mkF m 25 #[.val (.int k), .val (.int pk), .val (.int c0), .val (.int c1), .unset, .unset] [(.int ((ush pk (16 : Int32)) &&& (255 : Int32)))]))
  refine FinW.st (fun _ => XS.i2c X0.here hx rfl (Jvm.hb hby d_method_3_25) rfl) ?_
  show FinW p e below s Z EL h0 _ _ _ (T0.setTop (mkF m 26 #[.val (.int k), .val (.int pk), .val (.int c0), .val (.int c1), .unset, .unset] [(.int (chr ((ush pk (16 : Int32)) &&& (255 : Int32))))]))
  obtain ⟨c2, hc2, lc2, uc2, wc2⟩ := chr_255 (ush pk (16 : Int32))
  rw [hc2]
  show FinW p e below s Z EL h0 _ _ _ (T0.setTop (mkF m 26 #[.val (.int k), .val (.int pk), .val (.int c0), .val (.int c1), .unset, .unset] [(.int c2)]))
  refine FinW.st (fun _ => XS.istore X0.here hx rfl (Jvm.hb hby d_method_3_26) rfl (l' := #[.val (.int k), .val (.int pk), .val (.int c0), .val (.int c1), .val (.int c2), .unset]) rfl) ?_
  show FinW p e below s Z EL h0 _ _ _ (T0.setTop (mkF m 28 #[.val (.int k), .val (.int pk), .val (.int c0), .val (.int c1), .val (.int c2), .unset] []))
  refine FinW.st (fun _ => XS.iloadN X0.here hx rfl (Jvm.hb hby d_method_3_28) rfl) ?_
  show FinW p e below s Z EL h0 _ _ _ (T0.setTop (mkF m 29 #[.val (.int k), .val (.int pk), .val (.int c0), .val (.int c1), .val (.int c2), .unset] [(.int pk)]))
  refine FinW.st (fun _ => XS.bipush X0.here hx rfl (Jvm.hb hby d_method_3_29)) ?_
  show FinW p e below s Z EL h0 _ _ _ (T0.setTop (mkF m 31 #[.val (.int k), .val (.int pk), .val (.int c0), .val (.int c1), .val (.int c2), .unset] [(.int (24 : Int32)), (.int pk)]))
  refine FinW.st (fun _ => XS.iushr X0.here hx rfl (Jvm.hb hby d_method_3_31) rfl) ?_
  show FinW p e below s Z EL h0 _ _ _ (T0.setTop (mkF m 32 #[.val (.int k), .val (.int pk), .val (.int c0), .val (.int c1), .val (.int c2), .unset] [(.int (ush pk (24 : Int32)))]))
  refine FinW.st (fun _ => XS.sipush X0.here hx rfl (Jvm.hb hby d_method_3_32)) ?_
  show FinW p e below s Z EL h0 _ _ _ (T0.setTop (mkF m 35 #[.val (.int k), .val (.int pk), .val (.int c0), .val (.int c1), .val (.int c2), .unset] [(.int (255 : Int32)), (.int (ush pk (24 : Int32)))]))
  refine FinW.st (fun _ => XS.iand X0.here hx rfl (Jvm.hb hby d_method_3_35) rfl) ?_
  show FinW p e below s Z EL h0 _ _ _ (T0.setTop (mkF m 36 #[.val (.int k), .val (.int pk), .val (.int c0), .val (.int c1), .val (.int c2), .unset] [(.int ((ush pk (24 : Int32)) &&& (255 : Int32)))]))
  refine FinW.st (fun _ => XS.i2c X0.here hx rfl (Jvm.hb hby d_method_3_36) rfl) ?_
  show FinW p e below s Z EL h0 _ _ _ (T0.setTop (mkF m 37 #[.val (.int k), .val (.int pk), .val (.int c0), .val (.int c1), .val (.int c2), .unset] [(.int (chr ((ush pk (24 : Int32)) &&& (255 : Int32))))]))
  obtain ⟨c3, hc3, lc3, uc3, wc3⟩ := chr_255 (ush pk (24 : Int32))
  rw [hc3]
  show FinW p e below s Z EL h0 _ _ _ (T0.setTop (mkF m 37 #[.val (.int k), .val (.int pk), .val (.int c0), .val (.int c1), .val (.int c2), .unset] [(.int c3)]))
  refine FinW.st (fun _ => XS.istore X0.here hx rfl (Jvm.hb hby d_method_3_37) rfl (l' := #[.val (.int k), .val (.int pk), .val (.int c0), .val (.int c1), .val (.int c2), .val (.int c3)]) rfl) ?_
  show FinW p e below s Z EL h0 _ _ _ (T0.setTop (mkF m 39 #[.val (.int k), .val (.int pk), .val (.int c0), .val (.int c1), .val (.int c2), .val (.int c3)] []))
  refine FinW.st (fun _ => XS.iloadN X0.here hx rfl (Jvm.hb hby d_method_3_39) rfl) ?_
  show FinW p e below s Z EL h0 _ _ _ (T0.setTop (mkF m 40 #[.val (.int k), .val (.int pk), .val (.int c0), .val (.int c1), .val (.int c2), .val (.int c3)] [(.int k)]))
  by_cases q0 : k = (0 : Int32)
  · skip
    refine FinW.st (fun _ => XS.ifNo X0.here hx rfl (Jvm.hb hby d_method_3_40) rfl (zneN q0)) ?_
    show FinW p e below s Z EL h0 _ _ _ (T0.setTop (mkF m 43 #[.val (.int k), .val (.int pk), .val (.int c0), .val (.int c1), .val (.int c2), .val (.int c3)] []))
    obtain ⟨b134, g134⟩ : ∃ z, z = h0.size := ⟨_, rfl⟩
    have ge134 : n0 ≤ b134 := by rw [g134]; exact O.own_le
    have sz134 : h0.size ≤ b134 := by rw [g134]; exact GW0
    obtain ⟨T134, h134, X134, e134, E134, A134, D134, -, st134⟩ := newO X0 hx hZ hown (hw _ (List.mem_of_getElem? (i := 2) rfl)) (hw _ (List.mem_of_getElem? (i := 3) rfl)) (hw _ (List.mem_of_getElem? (i := 4) rfl)) e0 (g := (mkF m 43 #[.val (.int k), .val (.int pk), .val (.int c0), .val (.int c1), .val (.int c2), .val (.int c3)] [])) rfl (Jvm.hb hby d_method_3_43) (by decide) (by decide)
    rw [← g134] at A134 D134 st134
    have CH135 := CH0.trans (CHr.ext E134 CH0.1)
    have F134_coder : Fld Z h134 b134 "java/lang/String" "coder" "B" (.int (0 : Int32)) := D134 (Or.inr (hw _ (List.mem_of_getElem? (i := 28) rfl))) (ty := .byte) (by decide)
    have F134_value : Fld Z h134 b134 "java/lang/String" "value" "[B" .null := D134 (Or.inr (hw _ (List.mem_of_getElem? (i := 30) rfl))) (ty := (.array .byte)) (by decide)
    refine FinW.st st134 ?_
    show FinW p e below s Z EL h0 _ _ _ (T134.setTop (mkF m 46 #[.val (.int k), .val (.int pk), .val (.int c0), .val (.int c1), .val (.int c2), .val (.int c3)] [(.ref b134)]))
    refine FinW.st (fun _ => XS.dup X134.here hx rfl (Jvm.hb hby d_method_3_46) rfl rfl) ?_
    show FinW p e below s Z EL h0 _ _ _ (T134.setTop (mkF m 47 #[.val (.int k), .val (.int pk), .val (.int c0), .val (.int c1), .val (.int c2), .val (.int c3)] [(.ref b134), (.ref b134)]))
    refine FinW.st (fun _ => XS.iconst X134.here hx rfl (Jvm.hb hby d_method_3_47)) ?_
    show FinW p e below s Z EL h0 _ _ _ (T134.setTop (mkF m 48 #[.val (.int k), .val (.int pk), .val (.int c0), .val (.int c1), .val (.int c2), .val (.int c3)] [(.int (0 : Int32)), (.ref b134), (.ref b134)]))
    have f137 := O.ext E134
    obtain ⟨b136, g136⟩ : ∃ z, z = h134.size := ⟨_, rfl⟩
    have ne138 : b134 ≠ b136 := by rw [g136]; exact Nat.ne_of_lt A134.lt
    have ge136 : n0 ≤ b136 := by rw [g136]; exact f137.own_le
    have f139 := GW0.ext E134
    have sz136 : h0.size ≤ b136 := by rw [g136]; exact f139
    obtain ⟨T136, h136, k136, X136, e136, E136, A136, st136⟩ := newA0 X134 hx hZ (hw _ (List.mem_of_getElem? (i := 1) rfl)) e134 (g := (mkF m 48 #[.val (.int k), .val (.int pk), .val (.int c0), .val (.int c1), .val (.int c2), .val (.int c3)] [(.int (0 : Int32)), (.ref b134), (.ref b134)])) rfl (Jvm.hb hby d_method_3_48) rfl (by decide) (N := 0) (by decide) (by decide) (by decide) (by decide)
    rw [← g136] at A136 st136
    have V136 : Arv Z h136 b136 k136 .char (0 : Int32) [] (.int (0 : Int32)) := A136
    have CH140 := CH135.trans (CHr.ext E136 CH135.1)
    refine FinW.st st136 ?_
    show FinW p e below s Z EL h0 _ _ _ (T136.setTop (mkF m 50 #[.val (.int k), .val (.int pk), .val (.int c0), .val (.int c1), .val (.int c2), .val (.int c3)] [(.ref b136), (.ref b134), (.ref b134)]))
    have f141 := A134.ext E136
    have f142 := F134_value.ext E136
    have f143 := F134_coder.ext E136
    have f144 := f137.ext E136
    have f146 := B0.ext E134
    have f147 := f146.ext E136
    obtain ⟨_, T145, h145, L145, X145, e145, ⟨rfl, Nq145, K145, t145, nt145, S145⟩, CHc145, B145, hZ145, hown145, st145⟩ := goIW X136 hx hZ hown rfl (hw _ (List.mem_of_getElem? (i := 5) rfl)) (hw _ (List.mem_of_getElem? (i := 6) rfl)) (hw _ (List.mem_of_getElem? (i := 7) rfl)) (by decide) ((rmE1 l Z a0 hw [] b134 b136 _ h136 n0 f144 f141 f142 f143 ge134 V136).pay (W := 1) hZ (hw _ (List.mem_of_getElem? (i := 7) rfl)) (hw _ (List.mem_of_getElem? (i := 4) rfl)) (by decide) (by decide) hEL CH140) e136 f147 (g := (mkF m 50 #[.val (.int k), .val (.int pk), .val (.int c0), .val (.int c1), .val (.int c2), .val (.int c3)] [(.ref b136), (.ref b134), (.ref b134)])) rfl (by rw [hml]; rfl) [(.ref b136)] [(.ref b134)] (lenOf pd_1 rfl) rfl (by show 2 * 0 + _ ≤ _; exact Nat.le_of_eq rfl) (Jvm.hb hby d_method_3_50) rfl (by decide) (by decide)
    have N145 := N0.app Nq145
    refine FinW.st st145 ?_
    have CH145 := CH140.trans CHc145
    show FinW p e below s Z EL h0 _ _ _ (T145.setTop (mkF m 53 #[.val (.int k), .val (.int pk), .val (.int c0), .val (.int c1), .val (.int c2), .val (.int c3)] [(.ref b134)]))
    have f148 := KP0.ext E134
    have f149 := f148.ext E136
    have f150 := f149.trans K145 (allS (Or.inr sz134) (all0))
    exact finAW X145 hx hlk hret rfl rfl rfl (Jvm.hb hby d_method_3_53) e145 hZ145 hEL B145 CH145 ⟨b134, t145, _, rfl, N145, f150, ge134, S145⟩ (by decide) (by decide)
  · skip
    refine FinW.st (fun _ => XS.ifYes X0.here hx rfl (pc0 := 40) (pc' := 54) rfl (Jvm.hb hby d_method_3_40) rfl (zne q0) (by decide) (by decide)) ?_
    show FinW p e below s Z EL h0 _ _ _ (T0.setTop (mkF m 54 #[.val (.int k), .val (.int pk), .val (.int c0), .val (.int c1), .val (.int c2), .val (.int c3)] []))
    refine FinW.st (fun _ => XS.iloadN X0.here hx rfl (Jvm.hb hby d_method_3_54) rfl) ?_
    show FinW p e below s Z EL h0 _ _ _ (T0.setTop (mkF m 55 #[.val (.int k), .val (.int pk), .val (.int c0), .val (.int c1), .val (.int c2), .val (.int c3)] [(.int k)]))
    refine FinW.st (fun _ => XS.iconst X0.here hx rfl (Jvm.hb hby d_method_3_55)) ?_
    show FinW p e below s Z EL h0 _ _ _ (T0.setTop (mkF m 56 #[.val (.int k), .val (.int pk), .val (.int c0), .val (.int c1), .val (.int c2), .val (.int c3)] [(.int (1 : Int32)), (.int k)]))
    by_cases q1 : k = (1 : Int32)
    · skip
      refine FinW.st (fun _ => XS.icmpNo X0.here hx rfl (Jvm.hb hby d_method_3_56) rfl (ineN q1)) ?_
      show FinW p e below s Z EL h0 _ _ _ (T0.setTop (mkF m 59 #[.val (.int k), .val (.int pk), .val (.int c0), .val (.int c1), .val (.int c2), .val (.int c3)] []))
      obtain ⟨b151, g151⟩ : ∃ z, z = h0.size := ⟨_, rfl⟩
      have ge151 : n0 ≤ b151 := by rw [g151]; exact O.own_le
      have sz151 : h0.size ≤ b151 := by rw [g151]; exact GW0
      obtain ⟨T151, h151, X151, e151, E151, A151, D151, -, st151⟩ := newO X0 hx hZ hown (hw _ (List.mem_of_getElem? (i := 2) rfl)) (hw _ (List.mem_of_getElem? (i := 3) rfl)) (hw _ (List.mem_of_getElem? (i := 4) rfl)) e0 (g := (mkF m 59 #[.val (.int k), .val (.int pk), .val (.int c0), .val (.int c1), .val (.int c2), .val (.int c3)] [])) rfl (Jvm.hb hby d_method_3_59) (by decide) (by decide)
      rw [← g151] at A151 D151 st151
      have CH152 := CH0.trans (CHr.ext E151 CH0.1)
      have F151_coder : Fld Z h151 b151 "java/lang/String" "coder" "B" (.int (0 : Int32)) := D151 (Or.inr (hw _ (List.mem_of_getElem? (i := 28) rfl))) (ty := .byte) (by decide)
      have F151_value : Fld Z h151 b151 "java/lang/String" "value" "[B" .null := D151 (Or.inr (hw _ (List.mem_of_getElem? (i := 30) rfl))) (ty := (.array .byte)) (by decide)
      refine FinW.st st151 ?_
      show FinW p e below s Z EL h0 _ _ _ (T151.setTop (mkF m 62 #[.val (.int k), .val (.int pk), .val (.int c0), .val (.int c1), .val (.int c2), .val (.int c3)] [(.ref b151)]))
      refine FinW.st (fun _ => XS.dup X151.here hx rfl (Jvm.hb hby d_method_3_62) rfl rfl) ?_
      show FinW p e below s Z EL h0 _ _ _ (T151.setTop (mkF m 63 #[.val (.int k), .val (.int pk), .val (.int c0), .val (.int c1), .val (.int c2), .val (.int c3)] [(.ref b151), (.ref b151)]))
      refine FinW.st (fun _ => XS.iconst X151.here hx rfl (Jvm.hb hby d_method_3_63)) ?_
      show FinW p e below s Z EL h0 _ _ _ (T151.setTop (mkF m 64 #[.val (.int k), .val (.int pk), .val (.int c0), .val (.int c1), .val (.int c2), .val (.int c3)] [(.int (1 : Int32)), (.ref b151), (.ref b151)]))
      have f154 := O.ext E151
      obtain ⟨b153, g153⟩ : ∃ z, z = h151.size := ⟨_, rfl⟩
      have ne155 : b151 ≠ b153 := by rw [g153]; exact Nat.ne_of_lt A151.lt
      have ge153 : n0 ≤ b153 := by rw [g153]; exact f154.own_le
      have f156 := GW0.ext E151
      have sz153 : h0.size ≤ b153 := by rw [g153]; exact f156
      obtain ⟨T153, h153, k153, X153, e153, E153, A153, st153⟩ := newA0 X151 hx hZ (hw _ (List.mem_of_getElem? (i := 1) rfl)) e151 (g := (mkF m 64 #[.val (.int k), .val (.int pk), .val (.int c0), .val (.int c1), .val (.int c2), .val (.int c3)] [(.int (1 : Int32)), (.ref b151), (.ref b151)])) rfl (Jvm.hb hby d_method_3_64) rfl (by decide) (N := 1) (by decide) (by decide) (by decide) (by decide)
      rw [← g153] at A153 st153
      have V153 : Arv Z h153 b153 k153 .char (1 : Int32) [(.int (0 : Int32))] (.int (0 : Int32)) := A153
      have CH157 := CH152.trans (CHr.ext E153 CH152.1)
      refine FinW.st st153 ?_
      show FinW p e below s Z EL h0 _ _ _ (T153.setTop (mkF m 66 #[.val (.int k), .val (.int pk), .val (.int c0), .val (.int c1), .val (.int c2), .val (.int c3)] [(.ref b153), (.ref b151), (.ref b151)]))
      refine FinW.st (fun _ => XS.dup X153.here hx rfl (Jvm.hb hby d_method_3_66) rfl rfl) ?_
      show FinW p e below s Z EL h0 _ _ _ (T153.setTop (mkF m 67 #[.val (.int k), .val (.int pk), .val (.int c0), .val (.int c1), .val (.int c2), .val (.int c3)] [(.ref b153), (.ref b153), (.ref b151), (.ref b151)]))
      refine FinW.st (fun _ => XS.iconst X153.here hx rfl (Jvm.hb hby d_method_3_67)) ?_
      show FinW p e below s Z EL h0 _ _ _ (T153.setTop (mkF m 68 #[.val (.int k), .val (.int pk), .val (.int c0), .val (.int c1), .val (.int c2), .val (.int c3)] [(.int (0 : Int32)), (.ref b153), (.ref b153), (.ref b151), (.ref b151)]))
      refine FinW.st (fun _ => XS.iloadN X153.here hx rfl (Jvm.hb hby d_method_3_68) rfl) ?_
      show FinW p e below s Z EL h0 _ _ _ (T153.setTop (mkF m 69 #[.val (.int k), .val (.int pk), .val (.int c0), .val (.int c1), .val (.int c2), .val (.int c3)] [(.int c0), (.int (0 : Int32)), (.ref b153), (.ref b153), (.ref b151), (.ref b151)]))
      obtain ⟨T158, h158, X158, e158, W158, V158, st158⟩ := stC0 X153 hx hZ e153 V153 (j := (0 : Int32)) (by decide) 0 rfl (Nat.le_of_ble_eq_true rfl) (nar_chr lc0 uc0) (g := (mkF m 69 #[.val (.int k), .val (.int pk), .val (.int c0), .val (.int c1), .val (.int c2), .val (.int c3)] [(.int c0), (.int (0 : Int32)), (.ref b153), (.ref b153), (.ref b151), (.ref b151)])) rfl rfl (Jvm.hb hby d_method_3_69)
      have N158 := Fr.snoc X158 N0 ge153
      refine FinW.st st158 ?_
      have CH160 := CH157.trans (CHr.wr W158 (Safe.arv hZ.alike V153 (by decide)) CH157.1)
      have V158 : Arv Z h158 b153 _ .char (1 : Int32) [(.int c0)] (.int (0 : Int32)) := V158
      show FinW p e below s Z EL h0 _ _ _ (T158.setTop (mkF m 70 #[.val (.int k), .val (.int pk), .val (.int c0), .val (.int c1), .val (.int c2), .val (.int c3)] [(.ref b153), (.ref b151), (.ref b151)]))
      have f161 := f154.ext E153
      have f162 := f161.wr W158 ge153
      have f163 := A151.ext E153
      have f164 := f163.wr W158
      have f165 := F151_value.ext E153
      have f166 := f165.other W158 (Or.inl ne155)
      have f167 := F151_coder.ext E153
      have f168 := f167.other W158 (Or.inl ne155)
      have hp169 : ∀ c ∈ [c0], ¬ c < 0 ∧ ¬ (255 : Int32) < c := by
        intro c hc; simp only [List.mem_cons, List.not_mem_nil, or_false] at hc; rcases hc with rfl
        · exact ⟨lc0, uc0⟩
      obtain ⟨_, T170, h170, L170, X170, e170, ⟨rfl, Nq170, K170, t170, gt170, sz170, nt170, S170⟩, st170⟩ := goI X158 hx hZ hown rfl (hw _ (List.mem_of_getElem? (i := 5) rfl)) (hw _ (List.mem_of_getElem? (i := 6) rfl)) (hw _ (List.mem_of_getElem? (i := 7) rfl)) (by decide) (strNew (len := 3) (W := 1) hZ hw (hw _ (List.mem_of_getElem? (i := 3) rfl)) (cs := [c0]) (n := 1) ge151 f162.own_le f164 f166 f168 V158 (SC.ext f162.2) hcz rfl (by decide) (by decide) hp169 (by decide) (by decide)) e158 (g := (mkF m 70 #[.val (.int k), .val (.int pk), .val (.int c0), .val (.int c1), .val (.int c2), .val (.int c3)] [(.ref b153), (.ref b151), (.ref b151)])) rfl (by rw [hml]; rfl) [(.ref b153)] [(.ref b151)] (lenOf pd_1 rfl) rfl (by show 2 * 0 + _ ≤ _; exact Nat.le_of_eq rfl) (Jvm.hb hby d_method_3_70) rfl (by decide) (by decide)
      have ne170_b153 : b153 ≠ t170 := Nat.ne_of_lt (Nat.lt_of_lt_of_le V158.lt sz170)
      have N170 := N158.app Nq170
      refine FinW.st st170 ?_
      have CH171 := CH160.trans (CHr.keep K170 (sfS (Jvm.OwnKit.Safe.null hZ.alike f164 f166) sf0) CH160.1)
      show FinW p e below s Z EL h0 _ _ _ (T170.setTop (mkF m 73 #[.val (.int k), .val (.int pk), .val (.int c0), .val (.int c1), .val (.int c2), .val (.int c3)] [(.ref b151)]))
      have f172 := KP0.ext E151
      have f173 := f172.ext E153
      have f174 := f173.wr W158 (Or.inr sz153)
      have f175 := f174.trans K170 (allS (Or.inr sz151) (all0))
      have f176 := B0.ext E151
      have f177 := f176.ext E153
      have f178 := f177.wr W158
      have f179 := f178.keep K170
      exact finAW X170 hx hlk hret rfl rfl rfl (Jvm.hb hby d_method_3_73) e170 hZ hEL f179 CH171 ⟨b151, t170, _, rfl, N170, f175, ge151, S170⟩ (by decide) (by decide)
    · skip
      refine FinW.st (fun _ => XS.icmpYes X0.here hx rfl (pc0 := 56) (pc' := 74) rfl (Jvm.hb hby d_method_3_56) rfl (ine q1) (by decide) (by decide)) ?_
      show FinW p e below s Z EL h0 _ _ _ (T0.setTop (mkF m 74 #[.val (.int k), .val (.int pk), .val (.int c0), .val (.int c1), .val (.int c2), .val (.int c3)] []))
      refine FinW.st (fun _ => XS.iloadN X0.here hx rfl (Jvm.hb hby d_method_3_74) rfl) ?_
      show FinW p e below s Z EL h0 _ _ _ (T0.setTop (mkF m 75 #[.val (.int k), .val (.int pk), .val (.int c0), .val (.int c1), .val (.int c2), .val (.int c3)] [(.int k)]))
      refine FinW.st (fun _ => XS.iconst X0.here hx rfl (Jvm.hb hby d_method_3_75)) ?_
      show FinW p e below s Z EL h0 _ _ _ (T0.setTop (mkF m 76 #[.val (.int k), .val (.int pk), .val (.int c0), .val (.int c1), .val (.int c2), .val (.int c3)] [(.int (2 : Int32)), (.int k)]))
      by_cases q2 : k = (2 : Int32)
      · skip
        refine FinW.st (fun _ => XS.icmpNo X0.here hx rfl (Jvm.hb hby d_method_3_76) rfl (ineN q2)) ?_
        show FinW p e below s Z EL h0 _ _ _ (T0.setTop (mkF m 79 #[.val (.int k), .val (.int pk), .val (.int c0), .val (.int c1), .val (.int c2), .val (.int c3)] []))
        obtain ⟨b180, g180⟩ : ∃ z, z = h0.size := ⟨_, rfl⟩
        have ge180 : n0 ≤ b180 := by rw [g180]; exact O.own_le
        have sz180 : h0.size ≤ b180 := by rw [g180]; exact GW0
        obtain ⟨T180, h180, X180, e180, E180, A180, D180, -, st180⟩ := newO X0 hx hZ hown (hw _ (List.mem_of_getElem? (i := 2) rfl)) (hw _ (List.mem_of_getElem? (i := 3) rfl)) (hw _ (List.mem_of_getElem? (i := 4) rfl)) e0 (g := (mkF m 79 #[.val (.int k), .val (.int pk), .val (.int c0), .val (.int c1), .val (.int c2), .val (.int c3)] [])) rfl (Jvm.hb hby d_method_3_79) (by decide) (by decide)
        rw [← g180] at A180 D180 st180
        have CH181 := CH0.trans (CHr.ext E180 CH0.1)
        have F180_coder : Fld Z h180 b180 "java/lang/String" "coder" "B" (.int (0 : Int32)) := D180 (Or.inr (hw _ (List.mem_of_getElem? (i := 28) rfl))) (ty := .byte) (by decide)
        have F180_value : Fld Z h180 b180 "java/lang/String" "value" "[B" .null := D180 (Or.inr (hw _ (List.mem_of_getElem? (i := 30) rfl))) (ty := (.array .byte)) (by decide)
        refine FinW.st st180 ?_
        show FinW p e below s Z EL h0 _ _ _ (T180.setTop (mkF m 82 #[.val (.int k), .val (.int pk), .val (.int c0), .val (.int c1), .val (.int c2), .val (.int c3)] [(.ref b180)]))
        refine FinW.st (fun _ => XS.dup X180.here hx rfl (Jvm.hb hby d_method_3_82) rfl rfl) ?_
        show FinW p e below s Z EL h0 _ _ _ (T180.setTop (mkF m 83 #[.val (.int k), .val (.int pk), .val (.int c0), .val (.int c1), .val (.int c2), .val (.int c3)] [(.ref b180), (.ref b180)]))
        refine FinW.st (fun _ => XS.iconst X180.here hx rfl (Jvm.hb hby d_method_3_83)) ?_
        show FinW p e below s Z EL h0 _ _ _ (T180.setTop (mkF m 84 #[.val (.int k), .val (.int pk), .val (.int c0), .val (.int c1), .val (.int c2), .val (.int c3)] [(.int (2 : Int32)), (.ref b180), (.ref b180)]))
        have f183 := O.ext E180
        obtain ⟨b182, g182⟩ : ∃ z, z = h180.size := ⟨_, rfl⟩
        have ne184 : b180 ≠ b182 := by rw [g182]; exact Nat.ne_of_lt A180.lt
        have ge182 : n0 ≤ b182 := by rw [g182]; exact f183.own_le
        have f185 := GW0.ext E180
        have sz182 : h0.size ≤ b182 := by rw [g182]; exact f185
        obtain ⟨T182, h182, k182, X182, e182, E182, A182, st182⟩ := newA0 X180 hx hZ (hw _ (List.mem_of_getElem? (i := 1) rfl)) e180 (g := (mkF m 84 #[.val (.int k), .val (.int pk), .val (.int c0), .val (.int c1), .val (.int c2), .val (.int c3)] [(.int (2 : Int32)), (.ref b180), (.ref b180)])) rfl (Jvm.hb hby d_method_3_84) rfl (by decide) (N := 2) (by decide) (by decide) (by decide) (by decide)
        rw [← g182] at A182 st182
        have V182 : Arv Z h182 b182 k182 .char (2 : Int32) [(.int (0 : Int32)), (.int (0 : Int32))] (.int (0 : Int32)) := A182
        have CH186 := CH181.trans (CHr.ext E182 CH181.1)
        refine FinW.st st182 ?_
        show FinW p e below s Z EL h0 _ _ _ (T182.setTop (mkF m 86 #[.val (.int k), .val (.int pk), .val (.int c0), .val (.int c1), .val (.int c2), .val (.int c3)] [(.ref b182), (.ref b180), (.ref b180)]))
        refine FinW.st (fun _ => XS.dup X182.here hx rfl (Jvm.hb hby d_method_3_86) rfl rfl) ?_
        show FinW p e below s Z EL h0 _ _ _ (T182.setTop (mkF m 87 #[.val (.int k), .val (.int pk), .val (.int c0), .val (.int c1), .val (.int c2), .val (.int c3)] [(.ref b182), (.ref b182), (.ref b180), (.ref b180)]))
        refine FinW.st (fun _ => XS.iconst X182.here hx rfl (Jvm.hb hby d_method_3_87)) ?_
        show FinW p e below s Z EL h0 _ _ _ (T182.setTop (mkF m 88 #[.val (.int k), .val (.int pk), .val (.int c0), .val (.int c1), .val (.int c2), .val (.int c3)] [(.int (0 : Int32)), (.ref b182), (.ref b182), (.ref b180), (.ref b180)]))
        refine FinW.st (fun _ => XS.iloadN X182.here hx rfl (Jvm.hb hby d_method_3_88) rfl) ?_
        show FinW p e below s Z EL h0 _ _ _ (T182.setTop (mkF m 89 #[.val (.int k), .val (.int pk), .val (.int c0), .val (.int c1), .val (.int c2), .val (.int c3)] [(.int c0), (.int (0 : Int32)), (.ref b182), (.ref b182), (.ref b180), (.ref b180)]))
        obtain ⟨T187, h187, X187, e187, W187, V187, st187⟩ := stC0 X182 hx hZ e182 V182 (j := (0 : Int32)) (by decide) 0 rfl (Nat.le_of_ble_eq_true rfl) (nar_chr lc0 uc0) (g := (mkF m 89 #[.val (.int k), .val (.int pk), .val (.int c0), .val (.int c1), .val (.int c2), .val (.int c3)] [(.int c0), (.int (0 : Int32)), (.ref b182), (.ref b182), (.ref b180), (.ref b180)])) rfl rfl (Jvm.hb hby d_method_3_89)
        have N187 := Fr.snoc X187 N0 ge182
        refine FinW.st st187 ?_
        have CH189 := CH186.trans (CHr.wr W187 (Safe.arv hZ.alike V182 (by decide)) CH186.1)
        have V187 : Arv Z h187 b182 _ .char (2 : Int32) [(.int c0), (.int (0 : Int32))] (.int (0 : Int32)) := V187
        show FinW p e below s Z EL h0 _ _ _ (T187.setTop (mkF m 90 #[.val (.int k), .val (.int pk), .val (.int c0), .val (.int c1), .val (.int c2), .val (.int c3)] [(.ref b182), (.ref b180), (.ref b180)]))
        refine FinW.st (fun _ => XS.dup X187.here hx rfl (Jvm.hb hby d_method_3_90) rfl rfl) ?_
        show FinW p e below s Z EL h0 _ _ _ (T187.setTop (mkF m 91 #[.val (.int k), .val (.int pk), .val (.int c0), .val (.int c1), .val (.int c2), .val (.int c3)] [(.ref b182), (.ref b182), (.ref b180), (.ref b180)]))
        refine FinW.st (fun _ => XS.iconst X187.here hx rfl (Jvm.hb hby d_method_3_91)) ?_
        show FinW p e below s Z EL h0 _ _ _ (T187.setTop (mkF m 92 #[.val (.int k), .val (.int pk), .val (.int c0), .val (.int c1), .val (.int c2), .val (.int c3)] [(.int (1 : Int32)), (.ref b182), (.ref b182), (.ref b180), (.ref b180)]))
        refine FinW.st (fun _ => XS.iloadN X187.here hx rfl (Jvm.hb hby d_method_3_92) rfl) ?_
        show FinW p e below s Z EL h0 _ _ _ (T187.setTop (mkF m 93 #[.val (.int k), .val (.int pk), .val (.int c0), .val (.int c1), .val (.int c2), .val (.int c3)] [(.int c1), (.int (1 : Int32)), (.ref b182), (.ref b182), (.ref b180), (.ref b180)]))
        obtain ⟨T190, h190, X190, e190, W190, V190, st190⟩ := stC0 X187 hx hZ e187 V187 (j := (1 : Int32)) (by decide) 1 rfl (Nat.le_of_ble_eq_true rfl) (nar_chr lc1 uc1) (g := (mkF m 93 #[.val (.int k), .val (.int pk), .val (.int c0), .val (.int c1), .val (.int c2), .val (.int c3)] [(.int c1), (.int (1 : Int32)), (.ref b182), (.ref b182), (.ref b180), (.ref b180)])) rfl rfl (Jvm.hb hby d_method_3_93)
        have N190 := Fr.snoc X190 N187 ge182
        refine FinW.st st190 ?_
        have CH192 := CH189.trans (CHr.wr W190 (Safe.arv hZ.alike V187 (by decide)) CH189.1)
        have V190 : Arv Z h190 b182 _ .char (2 : Int32) [(.int c0), (.int c1)] (.int (0 : Int32)) := V190
        show FinW p e below s Z EL h0 _ _ _ (T190.setTop (mkF m 94 #[.val (.int k), .val (.int pk), .val (.int c0), .val (.int c1), .val (.int c2), .val (.int c3)] [(.ref b182), (.ref b180), (.ref b180)]))
        have f193 := f183.ext E182
        have f194 := f193.wr W187 ge182
        have f195 := f194.wr W190 ge182
        have f196 := A180.ext E182
        have f197 := f196.wr W187
        have f198 := f197.wr W190
        have f199 := F180_value.ext E182
        have f200 := f199.other W187 (Or.inl ne184)
        have f201 := f200.other W190 (Or.inl ne184)
        have f202 := F180_coder.ext E182
        have f203 := f202.other W187 (Or.inl ne184)
        have f204 := f203.other W190 (Or.inl ne184)
        have hp205 : ∀ c ∈ [c0, c1], ¬ c < 0 ∧ ¬ (255 : Int32) < c := by
          intro c hc; simp only [List.mem_cons, List.not_mem_nil, or_false] at hc; rcases hc with rfl | rfl
          · exact ⟨lc0, uc0⟩
          · exact ⟨lc1, uc1⟩
        obtain ⟨_, T206, h206, L206, X206, e206, ⟨rfl, Nq206, K206, t206, gt206, sz206, nt206, S206⟩, st206⟩ := goI X190 hx hZ hown rfl (hw _ (List.mem_of_getElem? (i := 5) rfl)) (hw _ (List.mem_of_getElem? (i := 6) rfl)) (hw _ (List.mem_of_getElem? (i := 7) rfl)) (by decide) (strNew (len := 3) (W := 1) hZ hw (hw _ (List.mem_of_getElem? (i := 3) rfl)) (cs := [c0, c1]) (n := 2) ge180 f195.own_le f198 f201 f204 V190 (SC.ext f195.2) hcz rfl (by decide) (by decide) hp205 (by decide) (by decide)) e190 (g := (mkF m 94 #[.val (.int k), .val (.int pk), .val (.int c0), .val (.int c1), .val (.int c2), .val (.int c3)] [(.ref b182), (.ref b180), (.ref b180)])) rfl (by rw [hml]; rfl) [(.ref b182)] [(.ref b180)] (lenOf pd_1 rfl) rfl (by show 2 * 0 + _ ≤ _; exact Nat.le_of_eq rfl) (Jvm.hb hby d_method_3_94) rfl (by decide) (by decide)
        have ne206_b182 : b182 ≠ t206 := Nat.ne_of_lt (Nat.lt_of_lt_of_le V190.lt sz206)
        have N206 := N190.app Nq206
        refine FinW.st st206 ?_
        have CH207 := CH192.trans (CHr.keep K206 (sfS (Jvm.OwnKit.Safe.null hZ.alike f198 f201) sf0) CH192.1)
        show FinW p e below s Z EL h0 _ _ _ (T206.setTop (mkF m 97 #[.val (.int k), .val (.int pk), .val (.int c0), .val (.int c1), .val (.int c2), .val (.int c3)] [(.ref b180)]))
        have f208 := KP0.ext E180
        have f209 := f208.ext E182
        have f210 := f209.wr W187 (Or.inr sz182)
        have f211 := f210.wr W190 (Or.inr sz182)
        have f212 := f211.trans K206 (allS (Or.inr sz180) (all0))
        have f213 := B0.ext E180
        have f214 := f213.ext E182
        have f215 := f214.wr W187
        have f216 := f215.wr W190
        have f217 := f216.keep K206
        exact finAW X206 hx hlk hret rfl rfl rfl (Jvm.hb hby d_method_3_97) e206 hZ hEL f217 CH207 ⟨b180, t206, _, rfl, N206, f212, ge180, S206⟩ (by decide) (by decide)
      · skip
        refine FinW.st (fun _ => XS.icmpYes X0.here hx rfl (pc0 := 76) (pc' := 98) rfl (Jvm.hb hby d_method_3_76) rfl (ine q2) (by decide) (by decide)) ?_
        show FinW p e below s Z EL h0 _ _ _ (T0.setTop (mkF m 98 #[.val (.int k), .val (.int pk), .val (.int c0), .val (.int c1), .val (.int c2), .val (.int c3)] []))
        refine FinW.st (fun _ => XS.iloadN X0.here hx rfl (Jvm.hb hby d_method_3_98) rfl) ?_
        show FinW p e below s Z EL h0 _ _ _ (T0.setTop (mkF m 99 #[.val (.int k), .val (.int pk), .val (.int c0), .val (.int c1), .val (.int c2), .val (.int c3)] [(.int k)]))
        refine FinW.st (fun _ => XS.iconst X0.here hx rfl (Jvm.hb hby d_method_3_99)) ?_
        show FinW p e below s Z EL h0 _ _ _ (T0.setTop (mkF m 100 #[.val (.int k), .val (.int pk), .val (.int c0), .val (.int c1), .val (.int c2), .val (.int c3)] [(.int (3 : Int32)), (.int k)]))
        by_cases q3 : k = (3 : Int32)
        · skip
          refine FinW.st (fun _ => XS.icmpNo X0.here hx rfl (Jvm.hb hby d_method_3_100) rfl (ineN q3)) ?_
          show FinW p e below s Z EL h0 _ _ _ (T0.setTop (mkF m 103 #[.val (.int k), .val (.int pk), .val (.int c0), .val (.int c1), .val (.int c2), .val (.int c3)] []))
          obtain ⟨b218, g218⟩ : ∃ z, z = h0.size := ⟨_, rfl⟩
          have ge218 : n0 ≤ b218 := by rw [g218]; exact O.own_le
          have sz218 : h0.size ≤ b218 := by rw [g218]; exact GW0
          obtain ⟨T218, h218, X218, e218, E218, A218, D218, -, st218⟩ := newO X0 hx hZ hown (hw _ (List.mem_of_getElem? (i := 2) rfl)) (hw _ (List.mem_of_getElem? (i := 3) rfl)) (hw _ (List.mem_of_getElem? (i := 4) rfl)) e0 (g := (mkF m 103 #[.val (.int k), .val (.int pk), .val (.int c0), .val (.int c1), .val (.int c2), .val (.int c3)] [])) rfl (Jvm.hb hby d_method_3_103) (by decide) (by decide)
          rw [← g218] at A218 D218 st218
          have CH219 := CH0.trans (CHr.ext E218 CH0.1)
          have F218_coder : Fld Z h218 b218 "java/lang/String" "coder" "B" (.int (0 : Int32)) := D218 (Or.inr (hw _ (List.mem_of_getElem? (i := 28) rfl))) (ty := .byte) (by decide)
          have F218_value : Fld Z h218 b218 "java/lang/String" "value" "[B" .null := D218 (Or.inr (hw _ (List.mem_of_getElem? (i := 30) rfl))) (ty := (.array .byte)) (by decide)
          refine FinW.st st218 ?_
          show FinW p e below s Z EL h0 _ _ _ (T218.setTop (mkF m 106 #[.val (.int k), .val (.int pk), .val (.int c0), .val (.int c1), .val (.int c2), .val (.int c3)] [(.ref b218)]))
          refine FinW.st (fun _ => XS.dup X218.here hx rfl (Jvm.hb hby d_method_3_106) rfl rfl) ?_
          show FinW p e below s Z EL h0 _ _ _ (T218.setTop (mkF m 107 #[.val (.int k), .val (.int pk), .val (.int c0), .val (.int c1), .val (.int c2), .val (.int c3)] [(.ref b218), (.ref b218)]))
          refine FinW.st (fun _ => XS.iconst X218.here hx rfl (Jvm.hb hby d_method_3_107)) ?_
          show FinW p e below s Z EL h0 _ _ _ (T218.setTop (mkF m 108 #[.val (.int k), .val (.int pk), .val (.int c0), .val (.int c1), .val (.int c2), .val (.int c3)] [(.int (3 : Int32)), (.ref b218), (.ref b218)]))
          have f221 := O.ext E218
          obtain ⟨b220, g220⟩ : ∃ z, z = h218.size := ⟨_, rfl⟩
          have ne222 : b218 ≠ b220 := by rw [g220]; exact Nat.ne_of_lt A218.lt
          have ge220 : n0 ≤ b220 := by rw [g220]; exact f221.own_le
          have f223 := GW0.ext E218
          have sz220 : h0.size ≤ b220 := by rw [g220]; exact f223
          obtain ⟨T220, h220, k220, X220, e220, E220, A220, st220⟩ := newA0 X218 hx hZ (hw _ (List.mem_of_getElem? (i := 1) rfl)) e218 (g := (mkF m 108 #[.val (.int k), .val (.int pk), .val (.int c0), .val (.int c1), .val (.int c2), .val (.int c3)] [(.int (3 : Int32)), (.ref b218), (.ref b218)])) rfl (Jvm.hb hby d_method_3_108) rfl (by decide) (N := 3) (by decide) (by decide) (by decide) (by decide)
          rw [← g220] at A220 st220
          have V220 : Arv Z h220 b220 k220 .char (3 : Int32) [(.int (0 : Int32)), (.int (0 : Int32)), (.int (0 : Int32))] (.int (0 : Int32)) := A220
          have CH224 := CH219.trans (CHr.ext E220 CH219.1)
          refine FinW.st st220 ?_
          show FinW p e below s Z EL h0 _ _ _ (T220.setTop (mkF m 110 #[.val (.int k), .val (.int pk), .val (.int c0), .val (.int c1), .val (.int c2), .val (.int c3)] [(.ref b220), (.ref b218), (.ref b218)]))
          refine FinW.st (fun _ => XS.dup X220.here hx rfl (Jvm.hb hby d_method_3_110) rfl rfl) ?_
          show FinW p e below s Z EL h0 _ _ _ (T220.setTop (mkF m 111 #[.val (.int k), .val (.int pk), .val (.int c0), .val (.int c1), .val (.int c2), .val (.int c3)] [(.ref b220), (.ref b220), (.ref b218), (.ref b218)]))
          refine FinW.st (fun _ => XS.iconst X220.here hx rfl (Jvm.hb hby d_method_3_111)) ?_
          show FinW p e below s Z EL h0 _ _ _ (T220.setTop (mkF m 112 #[.val (.int k), .val (.int pk), .val (.int c0), .val (.int c1), .val (.int c2), .val (.int c3)] [(.int (0 : Int32)), (.ref b220), (.ref b220), (.ref b218), (.ref b218)]))
          refine FinW.st (fun _ => XS.iloadN X220.here hx rfl (Jvm.hb hby d_method_3_112) rfl) ?_
          show FinW p e below s Z EL h0 _ _ _ (T220.setTop (mkF m 113 #[.val (.int k), .val (.int pk), .val (.int c0), .val (.int c1), .val (.int c2), .val (.int c3)] [(.int c0), (.int (0 : Int32)), (.ref b220), (.ref b220), (.ref b218), (.ref b218)]))
          obtain ⟨T225, h225, X225, e225, W225, V225, st225⟩ := stC0 X220 hx hZ e220 V220 (j := (0 : Int32)) (by decide) 0 rfl (Nat.le_of_ble_eq_true rfl) (nar_chr lc0 uc0) (g := (mkF m 113 #[.val (.int k), .val (.int pk), .val (.int c0), .val (.int c1), .val (.int c2), .val (.int c3)] [(.int c0), (.int (0 : Int32)), (.ref b220), (.ref b220), (.ref b218), (.ref b218)])) rfl rfl (Jvm.hb hby d_method_3_113)
          have N225 := Fr.snoc X225 N0 ge220
          refine FinW.st st225 ?_
          have CH227 := CH224.trans (CHr.wr W225 (Safe.arv hZ.alike V220 (by decide)) CH224.1)
          have V225 : Arv Z h225 b220 _ .char (3 : Int32) [(.int c0), (.int (0 : Int32)), (.int (0 : Int32))] (.int (0 : Int32)) := V225
          show FinW p e below s Z EL h0 _ _ _ (T225.setTop (mkF m 114 #[.val (.int k), .val (.int pk), .val (.int c0), .val (.int c1), .val (.int c2), .val (.int c3)] [(.ref b220), (.ref b218), (.ref b218)]))
          refine FinW.st (fun _ => XS.dup X225.here hx rfl (Jvm.hb hby d_method_3_114) rfl rfl) ?_
          show FinW p e below s Z EL h0 _ _ _ (T225.setTop (mkF m 115 #[.val (.int k), .val (.int pk), .val (.int c0), .val (.int c1), .val (.int c2), .val (.int c3)] [(.ref b220), (.ref b220), (.ref b218), (.ref b218)]))
          refine FinW.st (fun _ => XS.iconst X225.here hx rfl (Jvm.hb hby d_method_3_115)) ?_
          show FinW p e below s Z EL h0 _ _ _ (T225.setTop (mkF m 116 #[.val (.int k), .val (.int pk), .val (.int c0), .val (.int c1), .val (.int c2), .val (.int c3)] [(.int (1 : Int32)), (.ref b220), (.ref b220), (.ref b218), (.ref b218)]))
          refine FinW.st (fun _ => XS.iloadN X225.here hx rfl (Jvm.hb hby d_method_3_116) rfl) ?_
          show FinW p e below s Z EL h0 _ _ _ (T225.setTop (mkF m 117 #[.val (.int k), .val (.int pk), .val (.int c0), .val (.int c1), .val (.int c2), .val (.int c3)] [(.int c1), (.int (1 : Int32)), (.ref b220), (.ref b220), (.ref b218), (.ref b218)]))
          obtain ⟨T228, h228, X228, e228, W228, V228, st228⟩ := stC0 X225 hx hZ e225 V225 (j := (1 : Int32)) (by decide) 1 rfl (Nat.le_of_ble_eq_true rfl) (nar_chr lc1 uc1) (g := (mkF m 117 #[.val (.int k), .val (.int pk), .val (.int c0), .val (.int c1), .val (.int c2), .val (.int c3)] [(.int c1), (.int (1 : Int32)), (.ref b220), (.ref b220), (.ref b218), (.ref b218)])) rfl rfl (Jvm.hb hby d_method_3_117)
          have N228 := Fr.snoc X228 N225 ge220
          refine FinW.st st228 ?_
          have CH230 := CH227.trans (CHr.wr W228 (Safe.arv hZ.alike V225 (by decide)) CH227.1)
          have V228 : Arv Z h228 b220 _ .char (3 : Int32) [(.int c0), (.int c1), (.int (0 : Int32))] (.int (0 : Int32)) := V228
          show FinW p e below s Z EL h0 _ _ _ (T228.setTop (mkF m 118 #[.val (.int k), .val (.int pk), .val (.int c0), .val (.int c1), .val (.int c2), .val (.int c3)] [(.ref b220), (.ref b218), (.ref b218)]))
          refine FinW.st (fun _ => XS.dup X228.here hx rfl (Jvm.hb hby d_method_3_118) rfl rfl) ?_
          show FinW p e below s Z EL h0 _ _ _ (T228.setTop (mkF m 119 #[.val (.int k), .val (.int pk), .val (.int c0), .val (.int c1), .val (.int c2), .val (.int c3)] [(.ref b220), (.ref b220), (.ref b218), (.ref b218)]))
          refine FinW.st (fun _ => XS.iconst X228.here hx rfl (Jvm.hb hby d_method_3_119)) ?_
          show FinW p e below s Z EL h0 _ _ _ (T228.setTop (mkF m 120 #[.val (.int k), .val (.int pk), .val (.int c0), .val (.int c1), .val (.int c2), .val (.int c3)] [(.int (2 : Int32)), (.ref b220), (.ref b220), (.ref b218), (.ref b218)]))
          refine FinW.st (fun _ => XS.iload X228.here hx rfl (Jvm.hb hby d_method_3_120) rfl) ?_
          show FinW p e below s Z EL h0 _ _ _ (T228.setTop (mkF m 122 #[.val (.int k), .val (.int pk), .val (.int c0), .val (.int c1), .val (.int c2), .val (.int c3)] [(.int c2), (.int (2 : Int32)), (.ref b220), (.ref b220), (.ref b218), (.ref b218)]))
          obtain ⟨T231, h231, X231, e231, W231, V231, st231⟩ := stC0 X228 hx hZ e228 V228 (j := (2 : Int32)) (by decide) 2 rfl (Nat.le_of_ble_eq_true rfl) (nar_chr lc2 uc2) (g := (mkF m 122 #[.val (.int k), .val (.int pk), .val (.int c0), .val (.int c1), .val (.int c2), .val (.int c3)] [(.int c2), (.int (2 : Int32)), (.ref b220), (.ref b220), (.ref b218), (.ref b218)])) rfl rfl (Jvm.hb hby d_method_3_122)
          have N231 := Fr.snoc X231 N228 ge220
          refine FinW.st st231 ?_
          have CH233 := CH230.trans (CHr.wr W231 (Safe.arv hZ.alike V228 (by decide)) CH230.1)
          have V231 : Arv Z h231 b220 _ .char (3 : Int32) [(.int c0), (.int c1), (.int c2)] (.int (0 : Int32)) := V231
          show FinW p e below s Z EL h0 _ _ _ (T231.setTop (mkF m 123 #[.val (.int k), .val (.int pk), .val (.int c0), .val (.int c1), .val (.int c2), .val (.int c3)] [(.ref b220), (.ref b218), (.ref b218)]))
          have f234 := f221.ext E220
          have f235 := f234.wr W225 ge220
          have f236 := f235.wr W228 ge220
          have f237 := f236.wr W231 ge220
          have f238 := A218.ext E220
          have f239 := f238.wr W225
          have f240 := f239.wr W228
          have f241 := f240.wr W231
          have f242 := F218_value.ext E220
          have f243 := f242.other W225 (Or.inl ne222)
          have f244 := f243.other W228 (Or.inl ne222)
          have f245 := f244.other W231 (Or.inl ne222)
          have f246 := F218_coder.ext E220
          have f247 := f246.other W225 (Or.inl ne222)
          have f248 := f247.other W228 (Or.inl ne222)
          have f249 := f248.other W231 (Or.inl ne222)
          have hp250 : ∀ c ∈ [c0, c1, c2], ¬ c < 0 ∧ ¬ (255 : Int32) < c := by
            intro c hc; simp only [List.mem_cons, List.not_mem_nil, or_false] at hc; rcases hc with rfl | rfl | rfl
            · exact ⟨lc0, uc0⟩
            · exact ⟨lc1, uc1⟩
            · exact ⟨lc2, uc2⟩
          obtain ⟨_, T251, h251, L251, X251, e251, ⟨rfl, Nq251, K251, t251, gt251, sz251, nt251, S251⟩, st251⟩ := goI X231 hx hZ hown rfl (hw _ (List.mem_of_getElem? (i := 5) rfl)) (hw _ (List.mem_of_getElem? (i := 6) rfl)) (hw _ (List.mem_of_getElem? (i := 7) rfl)) (by decide) (strNew (len := 3) (W := 1) hZ hw (hw _ (List.mem_of_getElem? (i := 3) rfl)) (cs := [c0, c1, c2]) (n := 3) ge218 f237.own_le f241 f245 f249 V231 (SC.ext f237.2) hcz rfl (by decide) (by decide) hp250 (by decide) (by decide)) e231 (g := (mkF m 123 #[.val (.int k), .val (.int pk), .val (.int c0), .val (.int c1), .val (.int c2), .val (.int c3)] [(.ref b220), (.ref b218), (.ref b218)])) rfl (by rw [hml]; rfl) [(.ref b220)] [(.ref b218)] (lenOf pd_1 rfl) rfl (by show 2 * 0 + _ ≤ _; exact Nat.le_of_eq rfl) (Jvm.hb hby d_method_3_123) rfl (by decide) (by decide)
          have ne251_b220 : b220 ≠ t251 := Nat.ne_of_lt (Nat.lt_of_lt_of_le V231.lt sz251)
          have N251 := N231.app Nq251
          refine FinW.st st251 ?_
          have CH252 := CH233.trans (CHr.keep K251 (sfS (Jvm.OwnKit.Safe.null hZ.alike f241 f245) sf0) CH233.1)
          show FinW p e below s Z EL h0 _ _ _ (T251.setTop (mkF m 126 #[.val (.int k), .val (.int pk), .val (.int c0), .val (.int c1), .val (.int c2), .val (.int c3)] [(.ref b218)]))
          have f253 := KP0.ext E218
          have f254 := f253.ext E220
          have f255 := f254.wr W225 (Or.inr sz220)
          have f256 := f255.wr W228 (Or.inr sz220)
          have f257 := f256.wr W231 (Or.inr sz220)
          have f258 := f257.trans K251 (allS (Or.inr sz218) (all0))
          have f259 := B0.ext E218
          have f260 := f259.ext E220
          have f261 := f260.wr W225
          have f262 := f261.wr W228
          have f263 := f262.wr W231
          have f264 := f263.keep K251
          exact finAW X251 hx hlk hret rfl rfl rfl (Jvm.hb hby d_method_3_126) e251 hZ hEL f264 CH252 ⟨b218, t251, _, rfl, N251, f258, ge218, S251⟩ (by decide) (by decide)
        · skip
          refine FinW.st (fun _ => XS.icmpYes X0.here hx rfl (pc0 := 100) (pc' := 127) rfl (Jvm.hb hby d_method_3_100) rfl (ine q3) (by decide) (by decide)) ?_
          show FinW p e below s Z EL h0 _ _ _ (T0.setTop (mkF m 127 #[.val (.int k), .val (.int pk), .val (.int c0), .val (.int c1), .val (.int c2), .val (.int c3)] []))
          obtain ⟨b265, g265⟩ : ∃ z, z = h0.size := ⟨_, rfl⟩
          have ge265 : n0 ≤ b265 := by rw [g265]; exact O.own_le
          have sz265 : h0.size ≤ b265 := by rw [g265]; exact GW0
          obtain ⟨T265, h265, X265, e265, E265, A265, D265, -, st265⟩ := newO X0 hx hZ hown (hw _ (List.mem_of_getElem? (i := 2) rfl)) (hw _ (List.mem_of_getElem? (i := 3) rfl)) (hw _ (List.mem_of_getElem? (i := 4) rfl)) e0 (g := (mkF m 127 #[.val (.int k), .val (.int pk), .val (.int c0), .val (.int c1), .val (.int c2), .val (.int c3)] [])) rfl (Jvm.hb hby d_method_3_127) (by decide) (by decide)
          rw [← g265] at A265 D265 st265
          have CH266 := CH0.trans (CHr.ext E265 CH0.1)
          have F265_coder : Fld Z h265 b265 "java/lang/String" "coder" "B" (.int (0 : Int32)) := D265 (Or.inr (hw _ (List.mem_of_getElem? (i := 28) rfl))) (ty := .byte) (by decide)
          have F265_value : Fld Z h265 b265 "java/lang/String" "value" "[B" .null := D265 (Or.inr (hw _ (List.mem_of_getElem? (i := 30) rfl))) (ty := (.array .byte)) (by decide)
          refine FinW.st st265 ?_
          show FinW p e below s Z EL h0 _ _ _ (T265.setTop (mkF m 130 #[.val (.int k), .val (.int pk), .val (.int c0), .val (.int c1), .val (.int c2), .val (.int c3)] [(.ref b265)]))
          refine FinW.st (fun _ => XS.dup X265.here hx rfl (Jvm.hb hby d_method_3_130) rfl rfl) ?_
          show FinW p e below s Z EL h0 _ _ _ (T265.setTop (mkF m 131 #[.val (.int k), .val (.int pk), .val (.int c0), .val (.int c1), .val (.int c2), .val (.int c3)] [(.ref b265), (.ref b265)]))
          refine FinW.st (fun _ => XS.iconst X265.here hx rfl (Jvm.hb hby d_method_3_131)) ?_
          show FinW p e below s Z EL h0 _ _ _ (T265.setTop (mkF m 132 #[.val (.int k), .val (.int pk), .val (.int c0), .val (.int c1), .val (.int c2), .val (.int c3)] [(.int (4 : Int32)), (.ref b265), (.ref b265)]))
          have f268 := O.ext E265
          obtain ⟨b267, g267⟩ : ∃ z, z = h265.size := ⟨_, rfl⟩
          have ne269 : b265 ≠ b267 := by rw [g267]; exact Nat.ne_of_lt A265.lt
          have ge267 : n0 ≤ b267 := by rw [g267]; exact f268.own_le
          have f270 := GW0.ext E265
          have sz267 : h0.size ≤ b267 := by rw [g267]; exact f270
          obtain ⟨T267, h267, k267, X267, e267, E267, A267, st267⟩ := newA0 X265 hx hZ (hw _ (List.mem_of_getElem? (i := 1) rfl)) e265 (g := (mkF m 132 #[.val (.int k), .val (.int pk), .val (.int c0), .val (.int c1), .val (.int c2), .val (.int c3)] [(.int (4 : Int32)), (.ref b265), (.ref b265)])) rfl (Jvm.hb hby d_method_3_132) rfl (by decide) (N := 4) (by decide) (by decide) (by decide) (by decide)
          rw [← g267] at A267 st267
          have V267 : Arv Z h267 b267 k267 .char (4 : Int32) [(.int (0 : Int32)), (.int (0 : Int32)), (.int (0 : Int32)), (.int (0 : Int32))] (.int (0 : Int32)) := A267
          have CH271 := CH266.trans (CHr.ext E267 CH266.1)
          refine FinW.st st267 ?_
          show FinW p e below s Z EL h0 _ _ _ (T267.setTop (mkF m 134 #[.val (.int k), .val (.int pk), .val (.int c0), .val (.int c1), .val (.int c2), .val (.int c3)] [(.ref b267), (.ref b265), (.ref b265)]))
          refine FinW.st (fun _ => XS.dup X267.here hx rfl (Jvm.hb hby d_method_3_134) rfl rfl) ?_
          show FinW p e below s Z EL h0 _ _ _ (T267.setTop (mkF m 135 #[.val (.int k), .val (.int pk), .val (.int c0), .val (.int c1), .val (.int c2), .val (.int c3)] [(.ref b267), (.ref b267), (.ref b265), (.ref b265)]))
          refine FinW.st (fun _ => XS.iconst X267.here hx rfl (Jvm.hb hby d_method_3_135)) ?_
          show FinW p e below s Z EL h0 _ _ _ (T267.setTop (mkF m 136 #[.val (.int k), .val (.int pk), .val (.int c0), .val (.int c1), .val (.int c2), .val (.int c3)] [(.int (0 : Int32)), (.ref b267), (.ref b267), (.ref b265), (.ref b265)]))
          refine FinW.st (fun _ => XS.iloadN X267.here hx rfl (Jvm.hb hby d_method_3_136) rfl) ?_
          show FinW p e below s Z EL h0 _ _ _ (T267.setTop (mkF m 137 #[.val (.int k), .val (.int pk), .val (.int c0), .val (.int c1), .val (.int c2), .val (.int c3)] [(.int c0), (.int (0 : Int32)), (.ref b267), (.ref b267), (.ref b265), (.ref b265)]))
          obtain ⟨T272, h272, X272, e272, W272, V272, st272⟩ := stC0 X267 hx hZ e267 V267 (j := (0 : Int32)) (by decide) 0 rfl (Nat.le_of_ble_eq_true rfl) (nar_chr lc0 uc0) (g := (mkF m 137 #[.val (.int k), .val (.int pk), .val (.int c0), .val (.int c1), .val (.int c2), .val (.int c3)] [(.int c0), (.int (0 : Int32)), (.ref b267), (.ref b267), (.ref b265), (.ref b265)])) rfl rfl (Jvm.hb hby d_method_3_137)
          have N272 := Fr.snoc X272 N0 ge267
          refine FinW.st st272 ?_
          have CH274 := CH271.trans (CHr.wr W272 (Safe.arv hZ.alike V267 (by decide)) CH271.1)
          have V272 : Arv Z h272 b267 _ .char (4 : Int32) [(.int c0), (.int (0 : Int32)), (.int (0 : Int32)), (.int (0 : Int32))] (.int (0 : Int32)) := V272
          show FinW p e below s Z EL h0 _ _ _ (T272.setTop (mkF m 138 #[.val (.int k), .val (.int pk), .val (.int c0), .val (.int c1), .val (.int c2), .val (.int c3)] [(.ref b267), (.ref b265), (.ref b265)]))
          refine FinW.st (fun _ => XS.dup X272.here hx rfl (Jvm.hb hby d_method_3_138) rfl rfl) ?_
          show FinW p e below s Z EL h0 _ _ _ (T272.setTop (mkF m 139 #[.val (.int k), .val (.int pk), .val (.int c0), .val (.int c1), .val (.int c2), .val (.int c3)] [(.ref b267), (.ref b267), (.ref b265), (.ref b265)]))
          refine FinW.st (fun _ => XS.iconst X272.here hx rfl (Jvm.hb hby d_method_3_139)) ?_
          show FinW p e below s Z EL h0 _ _ _ (T272.setTop (mkF m 140 #[.val (.int k), .val (.int pk), .val (.int c0), .val (.int c1), .val (.int c2), .val (.int c3)] [(.int (1 : Int32)), (.ref b267), (.ref b267), (.ref b265), (.ref b265)]))
          refine FinW.st (fun _ => XS.iloadN X272.here hx rfl (Jvm.hb hby d_method_3_140) rfl) ?_
          show FinW p e below s Z EL h0 _ _ _ (T272.setTop (mkF m 141 #[.val (.int k), .val (.int pk), .val (.int c0), .val (.int c1), .val (.int c2), .val (.int c3)] [(.int c1), (.int (1 : Int32)), (.ref b267), (.ref b267), (.ref b265), (.ref b265)]))
          obtain ⟨T275, h275, X275, e275, W275, V275, st275⟩ := stC0 X272 hx hZ e272 V272 (j := (1 : Int32)) (by decide) 1 rfl (Nat.le_of_ble_eq_true rfl) (nar_chr lc1 uc1) (g := (mkF m 141 #[.val (.int k), .val (.int pk), .val (.int c0), .val (.int c1), .val (.int c2), .val (.int c3)] [(.int c1), (.int (1 : Int32)), (.ref b267), (.ref b267), (.ref b265), (.ref b265)])) rfl rfl (Jvm.hb hby d_method_3_141)
          have N275 := Fr.snoc X275 N272 ge267
          refine FinW.st st275 ?_
          have CH277 := CH274.trans (CHr.wr W275 (Safe.arv hZ.alike V272 (by decide)) CH274.1)
          have V275 : Arv Z h275 b267 _ .char (4 : Int32) [(.int c0), (.int c1), (.int (0 : Int32)), (.int (0 : Int32))] (.int (0 : Int32)) := V275
          show FinW p e below s Z EL h0 _ _ _ (T275.setTop (mkF m 142 #[.val (.int k), .val (.int pk), .val (.int c0), .val (.int c1), .val (.int c2), .val (.int c3)] [(.ref b267), (.ref b265), (.ref b265)]))
          refine FinW.st (fun _ => XS.dup X275.here hx rfl (Jvm.hb hby d_method_3_142) rfl rfl) ?_
          show FinW p e below s Z EL h0 _ _ _ (T275.setTop (mkF m 143 #[.val (.int k), .val (.int pk), .val (.int c0), .val (.int c1), .val (.int c2), .val (.int c3)] [(.ref b267), (.ref b267), (.ref b265), (.ref b265)]))
          refine FinW.st (fun _ => XS.iconst X275.here hx rfl (Jvm.hb hby d_method_3_143)) ?_
          show FinW p e below s Z EL h0 _ _ _ (T275.setTop (mkF m 144 #[.val (.int k), .val (.int pk), .val (.int c0), .val (.int c1), .val (.int c2), .val (.int c3)] [(.int (2 : Int32)), (.ref b267), (.ref b267), (.ref b265), (.ref b265)]))
          refine FinW.st (fun _ => XS.iload X275.here hx rfl (Jvm.hb hby d_method_3_144) rfl) ?_
          show FinW p e below s Z EL h0 _ _ _ (T275.setTop (mkF m 146 #[.val (.int k), .val (.int pk), .val (.int c0), .val (.int c1), .val (.int c2), .val (.int c3)] [(.int c2), (.int (2 : Int32)), (.ref b267), (.ref b267), (.ref b265), (.ref b265)]))
          obtain ⟨T278, h278, X278, e278, W278, V278, st278⟩ := stC0 X275 hx hZ e275 V275 (j := (2 : Int32)) (by decide) 2 rfl (Nat.le_of_ble_eq_true rfl) (nar_chr lc2 uc2) (g := (mkF m 146 #[.val (.int k), .val (.int pk), .val (.int c0), .val (.int c1), .val (.int c2), .val (.int c3)] [(.int c2), (.int (2 : Int32)), (.ref b267), (.ref b267), (.ref b265), (.ref b265)])) rfl rfl (Jvm.hb hby d_method_3_146)
          have N278 := Fr.snoc X278 N275 ge267
          refine FinW.st st278 ?_
          have CH280 := CH277.trans (CHr.wr W278 (Safe.arv hZ.alike V275 (by decide)) CH277.1)
          have V278 : Arv Z h278 b267 _ .char (4 : Int32) [(.int c0), (.int c1), (.int c2), (.int (0 : Int32))] (.int (0 : Int32)) := V278
          show FinW p e below s Z EL h0 _ _ _ (T278.setTop (mkF m 147 #[.val (.int k), .val (.int pk), .val (.int c0), .val (.int c1), .val (.int c2), .val (.int c3)] [(.ref b267), (.ref b265), (.ref b265)]))
          refine FinW.st (fun _ => XS.dup X278.here hx rfl (Jvm.hb hby d_method_3_147) rfl rfl) ?_
          show FinW p e below s Z EL h0 _ _ _ (T278.setTop (mkF m 148 #[.val (.int k), .val (.int pk), .val (.int c0), .val (.int c1), .val (.int c2), .val (.int c3)] [(.ref b267), (.ref b267), (.ref b265), (.ref b265)]))
          refine FinW.st (fun _ => XS.iconst X278.here hx rfl (Jvm.hb hby d_method_3_148)) ?_
          show FinW p e below s Z EL h0 _ _ _ (T278.setTop (mkF m 149 #[.val (.int k), .val (.int pk), .val (.int c0), .val (.int c1), .val (.int c2), .val (.int c3)] [(.int (3 : Int32)), (.ref b267), (.ref b267), (.ref b265), (.ref b265)]))
          refine FinW.st (fun _ => XS.iload X278.here hx rfl (Jvm.hb hby d_method_3_149) rfl) ?_
          show FinW p e below s Z EL h0 _ _ _ (T278.setTop (mkF m 151 #[.val (.int k), .val (.int pk), .val (.int c0), .val (.int c1), .val (.int c2), .val (.int c3)] [(.int c3), (.int (3 : Int32)), (.ref b267), (.ref b267), (.ref b265), (.ref b265)]))
          obtain ⟨T281, h281, X281, e281, W281, V281, st281⟩ := stC0 X278 hx hZ e278 V278 (j := (3 : Int32)) (by decide) 3 rfl (Nat.le_of_ble_eq_true rfl) (nar_chr lc3 uc3) (g := (mkF m 151 #[.val (.int k), .val (.int pk), .val (.int c0), .val (.int c1), .val (.int c2), .val (.int c3)] [(.int c3), (.int (3 : Int32)), (.ref b267), (.ref b267), (.ref b265), (.ref b265)])) rfl rfl (Jvm.hb hby d_method_3_151)
          have N281 := Fr.snoc X281 N278 ge267
          refine FinW.st st281 ?_
          have CH283 := CH280.trans (CHr.wr W281 (Safe.arv hZ.alike V278 (by decide)) CH280.1)
          have V281 : Arv Z h281 b267 _ .char (4 : Int32) [(.int c0), (.int c1), (.int c2), (.int c3)] (.int (0 : Int32)) := V281
          show FinW p e below s Z EL h0 _ _ _ (T281.setTop (mkF m 152 #[.val (.int k), .val (.int pk), .val (.int c0), .val (.int c1), .val (.int c2), .val (.int c3)] [(.ref b267), (.ref b265), (.ref b265)]))
          have f284 := f268.ext E267
          have f285 := f284.wr W272 ge267
          have f286 := f285.wr W275 ge267
          have f287 := f286.wr W278 ge267
          have f288 := f287.wr W281 ge267
          have f289 := A265.ext E267
          have f290 := f289.wr W272
          have f291 := f290.wr W275
          have f292 := f291.wr W278
          have f293 := f292.wr W281
          have f294 := F265_value.ext E267
          have f295 := f294.other W272 (Or.inl ne269)
          have f296 := f295.other W275 (Or.inl ne269)
          have f297 := f296.other W278 (Or.inl ne269)
          have f298 := f297.other W281 (Or.inl ne269)
          have f299 := F265_coder.ext E267
          have f300 := f299.other W272 (Or.inl ne269)
          have f301 := f300.other W275 (Or.inl ne269)
          have f302 := f301.other W278 (Or.inl ne269)
          have f303 := f302.other W281 (Or.inl ne269)
          have hp304 : ∀ c ∈ [c0, c1, c2, c3], ¬ c < 0 ∧ ¬ (255 : Int32) < c := by
            intro c hc; simp only [List.mem_cons, List.not_mem_nil, or_false] at hc; rcases hc with rfl | rfl | rfl | rfl
            · exact ⟨lc0, uc0⟩
            · exact ⟨lc1, uc1⟩
            · exact ⟨lc2, uc2⟩
            · exact ⟨lc3, uc3⟩
          obtain ⟨_, T305, h305, L305, X305, e305, ⟨rfl, Nq305, K305, t305, gt305, sz305, nt305, S305⟩, st305⟩ := goI X281 hx hZ hown rfl (hw _ (List.mem_of_getElem? (i := 5) rfl)) (hw _ (List.mem_of_getElem? (i := 6) rfl)) (hw _ (List.mem_of_getElem? (i := 7) rfl)) (by decide) (strNew (len := 3) (W := 1) hZ hw (hw _ (List.mem_of_getElem? (i := 3) rfl)) (cs := [c0, c1, c2, c3]) (n := 4) ge265 f288.own_le f293 f298 f303 V281 (SC.ext f288.2) hcz rfl (by decide) (by decide) hp304 (by decide) (by decide)) e281 (g := (mkF m 152 #[.val (.int k), .val (.int pk), .val (.int c0), .val (.int c1), .val (.int c2), .val (.int c3)] [(.ref b267), (.ref b265), (.ref b265)])) rfl (by rw [hml]; rfl) [(.ref b267)] [(.ref b265)] (lenOf pd_1 rfl) rfl (by show 2 * 0 + _ ≤ _; exact Nat.le_of_eq rfl) (Jvm.hb hby d_method_3_152) rfl (by decide) (by decide)
          have ne305_b267 : b267 ≠ t305 := Nat.ne_of_lt (Nat.lt_of_lt_of_le V281.lt sz305)
          have N305 := N281.app Nq305
          refine FinW.st st305 ?_
          have CH306 := CH283.trans (CHr.keep K305 (sfS (Jvm.OwnKit.Safe.null hZ.alike f293 f298) sf0) CH283.1)
          show FinW p e below s Z EL h0 _ _ _ (T305.setTop (mkF m 155 #[.val (.int k), .val (.int pk), .val (.int c0), .val (.int c1), .val (.int c2), .val (.int c3)] [(.ref b265)]))
          have f307 := KP0.ext E265
          have f308 := f307.ext E267
          have f309 := f308.wr W272 (Or.inr sz267)
          have f310 := f309.wr W275 (Or.inr sz267)
          have f311 := f310.wr W278 (Or.inr sz267)
          have f312 := f311.wr W281 (Or.inr sz267)
          have f313 := f312.trans K305 (allS (Or.inr sz265) (all0))
          have f314 := B0.ext E265
          have f315 := f314.ext E267
          have f316 := f315.wr W272
          have f317 := f316.wr W275
          have f318 := f317.wr W278
          have f319 := f318.wr W281
          have f320 := f319.keep K305
          exact finAW X305 hx hlk hret rfl rfl rfl (Jvm.hb hby d_method_3_155) e305 hZ hEL f320 CH306 ⟨b265, t305, _, rfl, N305, f313, ge265, S305⟩ (by decide) (by decide)
theorem pn_2 : plainName "com/example/grantwell/grantwell/server/AuthMethod" = true := by first | (simp [plainName, overriddenIn]; done) | decide +kernel
theorem d_prog_4_method_1_0 : decode prog_4_method_1_code 0 = .ok (.getstatic 13, 3) := by decide +kernel
theorem d_prog_4_method_1_3 : decode prog_4_method_1_code 3 = .ok (.invokevirtual 17, 3) := by decide +kernel
theorem d_prog_4_method_1_6 : decode prog_4_method_1_code 6 = .ok (.checkcast 18, 3) := by decide +kernel
theorem d_prog_4_method_1_9 : decode prog_4_method_1_code 9 = .ok (.areturn, 1) := by decide +kernel
set_option maxRecDepth 65536 in
set_option maxHeartbeats 40000000 in
theorem rmValues (l : Launch) (Z : State) (a0 : Array Value) (hw : ∀ d ∈ tables_1, d.before a0 Z = true) (ws : List Jvm.Cond) (va : Addr) (cv : Cell) (en0 en1 en2 s0 s1 s2 u0 u1 u2 : Addr) (h0 : Heap) (n0 : Nat) (O : Old Z n0 h0) (EN : Enm Z va cv en0 en1 en2 s0 s1 s2 u0 u1 u2) :
    Con l Z h0 ⟨"com/example/grantwell/grantwell/server/AuthMethod", "values", "()[Lcom/example/grantwell/grantwell/server/AuthMethod;"⟩ prog_4_method_1_code 0 (some (.array (.object "com/example/grantwell/grantwell/server/AuthMethod"))) ws ({ frames := 1, cells := 1, slots := 3, locals := 20 } : Room) #[] (fun v h L => ∃ a k, v = some (.ref a) ∧ Fr n0 L ∧ Keep h0 h [] ∧ Arv Z h a k (.object "com/example/grantwell/grantwell/server/AuthMethod") 3 [.ref en0, .ref en1, .ref en2] .null) := by
  refine Con.of (plainFor_of_name pn_2) (f0 := fun m => (mkF m 0 #[] [])) (fun m => by first | (simp [entryFrame, mkF, argsToLocals, Value.category, maxLocals]; done) | rfl) ?_
  intro p e s m below meth c T0 hx hby hml hown hnm hret hlk hZ X0 e0
  have hown : s.vm.findClass "com/example/grantwell/grantwell/server/AuthMethod" = some m.cls := hown
  have N0 := Fr.nil n0
  have KP0 := Keep.refl h0 []
  have GW0 : Grw h0 h0 := Nat.le_refl _
  show FinP p e below s _ _ _ (T0.setTop (mkF m 0 #[] []))
  obtain ⟨SV, ⟨kv, AV⟩, BV, EV, FV, -⟩ := EN
  obtain ⟨T321, X321, e321, st321⟩ := getS (host := "") X0 hx hZ hown (hw _ (List.mem_of_getElem? (i := 53) rfl)) Via.refl e0 (SV.ext O.2) (g := (mkF m 0 #[] [])) rfl (Jvm.hb hby d_prog_4_method_1_0)
  refine FinP.st st321 ?_
  show FinP p e below s _ _ _ (T321.setTop (mkF m 3 #[] [(.ref va)]))
  obtain ⟨cv2, BV2, q1, S2, M2, H2, G2⟩ := AV
  obtain rfl : cv2 = cv := Option.some.inj (BV2.1.symm.trans BV.1)
  obtain ⟨b322, g322⟩ : ∃ z, z = h0.size := ⟨_, rfl⟩
  obtain ⟨T322, h322, X322, e322, E322, A322, D322, st322⟩ := cloneA X321 hx hZ hown (hw _ (List.mem_of_getElem? (i := 55) rfl)) (hw _ (List.mem_of_getElem? (i := 56) rfl)) (hw _ (List.mem_of_getElem? (i := 60) rfl)) (hw _ (List.mem_of_getElem? (i := 58) rfl)) (hw _ (List.mem_of_getElem? (i := 59) rfl)) (hw _ (List.mem_of_getElem? (i := 61) rfl)) e321 (BV.ext O.2) (EV.ext O.2) FV (g := (mkF m 3 #[] [(.ref va)])) rfl (by rw [hml]; try rfl) rfl (Jvm.hb hby d_prog_4_method_1_3) (by decide) (W := 0) (cap := 3) (by show 2 * 0 + _ ≤ _; exact Nat.le_of_eq rfl) (by decide) (by rw [S2]; decide) (by decide) (by decide)
  rw [← g322] at A322 D322 st322
  refine FinP.st st322 ?_
  show FinP p e below s _ _ _ (T322.setTop (mkF m 6 #[] [(.ref b322)]))
  obtain ⟨T323, X323, e323, st323⟩ := castY X322 hx hZ hown (hw _ (List.mem_of_getElem? (i := 65) rfl)) e322 (Ins.self D322) (g := (mkF m 6 #[] [(.ref b322)])) rfl rfl (Jvm.hb hby d_prog_4_method_1_6)
  refine FinP.st st323 ?_
  show FinP p e below s _ _ _ (T323.setTop (mkF m 9 #[] [(.ref b322)]))
  have f324 := KP0.ext E322
  exact finA X323 hx hlk hret rfl rfl rfl (Jvm.hb hby d_prog_4_method_1_9) e323 ⟨b322, _, rfl, N0, f324, ⟨_, A322, rfl, S2, M2, H2, G2⟩⟩ (by decide) (by decide)
theorem d_jdk_42_method_66_0 : decode jdk_42_method_66_code 0 = .ok (.aload_n 0, 1) := by decide +kernel
theorem d_jdk_42_method_66_1 : decode jdk_42_method_66_code 1 = .ok (.aload_n 1, 1) := by decide +kernel
theorem d_jdk_42_method_66_2 : decode jdk_42_method_66_code 2 = .ok (.if_acmp .ne 5, 3) := by decide +kernel
theorem d_jdk_42_method_66_7 : decode jdk_42_method_66_code 7 = .ok (.aload_n 1, 1) := by decide +kernel
theorem d_jdk_42_method_66_8 : decode jdk_42_method_66_code 8 = .ok (.instanceof 10, 3) := by decide +kernel
theorem d_jdk_42_method_66_11 : decode jdk_42_method_66_code 11 = .ok (.ifCond .eq 43, 3) := by decide +kernel
theorem d_jdk_42_method_66_54 : decode jdk_42_method_66_code 54 = .ok (.iconst 0, 1) := by decide +kernel
theorem d_jdk_42_method_66_55 : decode jdk_42_method_66_code 55 = .ok (.ireturn, 1) := by decide +kernel
set_option maxRecDepth 65536 in
set_option maxHeartbeats 40000000 in
theorem rmEqNull (l : Launch) (Z : State) (a0 : Array Value) (hw : ∀ d ∈ tables_1, d.before a0 Z = true) (ws : List Jvm.Cond) (x : Addr) (h0 : Heap) (n0 : Nat) (O : Old Z n0 h0)  :
    Con l Z h0 ⟨"java/lang/String", "equals", "(Ljava/lang/Object;)Z"⟩ jdk_42_method_66_code 3 (some .boolean) ws ({ frames := 0, cells := 0, slots := 0, locals := 0 } : Room) #[(.ref x), .null] (fun v h L => v = some (.int 0) ∧ L = [] ∧ h = h0) := by
  refine Con.of (plainFor_of_name pn_0) (f0 := fun m => (mkF m 0 #[.val (.ref x), .val .null, .unset] [])) (fun m => by first | (simp [entryFrame, mkF, argsToLocals, Value.category, maxLocals]; done) | rfl) ?_
  intro p e s m below meth c T0 hx hby hml hown hnm hret hlk hZ X0 e0
  have hown : s.vm.findClass "java/lang/String" = some m.cls := hown
  have N0 := Fr.nil n0
  show FinP p e below s _ _ _ (T0.setTop (mkF m 0 #[.val (.ref x), .val .null, .unset] []))
  refine FinP.st (fun _ => XS.aloadN X0.here hx rfl (Jvm.hb hby d_jdk_42_method_66_0) rfl rfl) ?_
  show FinP p e below s _ _ _ (T0.setTop (mkF m 1 #[.val (.ref x), .val .null, .unset] [(.ref x)]))
  refine FinP.st (fun _ => XS.aloadN X0.here hx rfl (Jvm.hb hby d_jdk_42_method_66_1) rfl rfl) ?_
  show FinP p e below s _ _ _ (T0.setTop (mkF m 2 #[.val (.ref x), .val .null, .unset] [.null, (.ref x)]))
  refine FinP.st (fun _ => Jvm.RoadKit.acmp (g := (mkF m 2 #[.val (.ref x), .val .null, .unset] [.null, (.ref x)])) X0 hx rfl rfl rfl (pc0 := 2) (pc' := 7) (same := false) rfl (Jvm.hb hby d_jdk_42_method_66_2) rfl (decide_eq_false (fun q => nomatch q)) (by decide) (by decide)) ?_
  show FinP p e below s _ _ _ (T0.setTop (mkF m 7 #[.val (.ref x), .val .null, .unset] []))
  refine FinP.st (fun _ => XS.aloadN X0.here hx rfl (Jvm.hb hby d_jdk_42_method_66_7) rfl rfl) ?_
  show FinP p e below s _ _ _ (T0.setTop (mkF m 8 #[.val (.ref x), .val .null, .unset] [.null]))
  refine FinP.st (X0.instanceofNull hx (g := (mkF m 8 #[.val (.ref x), .val .null, .unset] [.null])) rfl rfl (Jvm.hb hby d_jdk_42_method_66_8)) ?_
  show FinP p e below s _ _ _ (T0.setTop (mkF m 11 #[.val (.ref x), .val .null, .unset] [(.int (0 : Int32))]))
  refine FinP.st (fun _ => XS.ifYes X0.here hx rfl (pc0 := 11) (pc' := 54) rfl (Jvm.hb hby d_jdk_42_method_66_11) rfl (zeq rfl) (by decide) (by decide)) ?_
  show FinP p e below s _ _ _ (T0.setTop (mkF m 54 #[.val (.ref x), .val .null, .unset] []))
  refine FinP.st (fun _ => XS.iconst X0.here hx rfl (Jvm.hb hby d_jdk_42_method_66_54)) ?_
  show FinP p e below s _ _ _ (T0.setTop (mkF m 55 #[.val (.ref x), .val .null, .unset] [(.int (0 : Int32))]))
  exact finN X0 hx hlk hret (t := .boolean) (by simp) (Jvm.hb hby d_jdk_42_method_66_55) e0 ⟨rfl, rfl, rfl⟩ (by decide) (by decide)
theorem pd_2 : parseMethodDescriptor "()[Lcom/example/grantwell/grantwell/server/AuthMethod;" = some ⟨[], some (.array (.object "com/example/grantwell/grantwell/server/AuthMethod"))⟩ := by decide +kernel
theorem d_prog_4_method_3_0 : decode prog_4_method_3_code 0 = .ok (.invokestatic 28, 3) := by decide +kernel
theorem d_prog_4_method_3_3 : decode prog_4_method_3_code 3 = .ok (.astore_n 1, 1) := by decide +kernel
theorem d_prog_4_method_3_4 : decode prog_4_method_3_code 4 = .ok (.aload_n 1, 1) := by decide +kernel
theorem d_prog_4_method_3_5 : decode prog_4_method_3_code 5 = .ok (.arraylength, 1) := by decide +kernel
theorem d_prog_4_method_3_6 : decode prog_4_method_3_code 6 = .ok (.istore_n 2, 1) := by decide +kernel
theorem d_prog_4_method_3_7 : decode prog_4_method_3_code 7 = .ok (.iconst 0, 1) := by decide +kernel
theorem d_prog_4_method_3_8 : decode prog_4_method_3_code 8 = .ok (.istore_n 3, 1) := by decide +kernel
theorem d_prog_4_method_3_9 : decode prog_4_method_3_code 9 = .ok (.iload_n 3, 1) := by decide +kernel
theorem d_prog_4_method_3_10 : decode prog_4_method_3_code 10 = .ok (.iload_n 2, 1) := by decide +kernel
theorem d_prog_4_method_3_11 : decode prog_4_method_3_code 11 = .ok (.if_icmp .ge 29, 3) := by decide +kernel
theorem d_prog_4_method_3_14 : decode prog_4_method_3_code 14 = .ok (.aload_n 1, 1) := by decide +kernel
theorem d_prog_4_method_3_15 : decode prog_4_method_3_code 15 = .ok (.iload_n 3, 1) := by decide +kernel
theorem d_prog_4_method_3_16 : decode prog_4_method_3_code 16 = .ok (.aaload, 1) := by decide +kernel
theorem d_prog_4_method_3_17 : decode prog_4_method_3_code 17 = .ok (.astore 4, 2) := by decide +kernel
theorem d_prog_4_method_3_19 : decode prog_4_method_3_code 19 = .ok (.aload 4, 2) := by decide +kernel
theorem d_prog_4_method_3_21 : decode prog_4_method_3_code 21 = .ok (.getfield 32, 3) := by decide +kernel
theorem d_prog_4_method_3_24 : decode prog_4_method_3_code 24 = .ok (.aload_n 0, 1) := by decide +kernel
theorem d_prog_4_method_3_25 : decode prog_4_method_3_code 25 = .ok (.invokevirtual 36, 3) := by decide +kernel
theorem pd_3 : parseMethodDescriptor "(Ljava/lang/Object;)Z" = some ⟨[(.object "java/lang/Object")], some .boolean⟩ := by decide +kernel
theorem d_prog_4_method_3_28 : decode prog_4_method_3_code 28 = .ok (.ifCond .eq 6, 3) := by decide +kernel
theorem d_prog_4_method_3_31 : decode prog_4_method_3_code 31 = .ok (.aload 4, 2) := by decide +kernel
theorem d_prog_4_method_3_33 : decode prog_4_method_3_code 33 = .ok (.areturn, 1) := by decide +kernel
theorem d_prog_4_method_3_34 : decode prog_4_method_3_code 34 = .ok (.iinc 3 1, 3) := by decide +kernel
theorem d_prog_4_method_3_37 : decode prog_4_method_3_code 37 = .ok (.goto (-28), 3) := by decide +kernel
theorem d_prog_4_method_3_40 : decode prog_4_method_3_code 40 = .ok (.aconst_null, 1) := by decide +kernel
theorem d_prog_4_method_3_41 : decode prog_4_method_3_code 41 = .ok (.areturn, 1) := by decide +kernel
set_option maxRecDepth 65536 in
set_option maxHeartbeats 40000000 in
theorem rmNamed (l : Launch) (Z : State) (a0 : Array Value) (hw : ∀ d ∈ tables_1, d.before a0 Z = true) (ws : List Jvm.Cond) (x t : Addr) (cs : List Int32) (cz : Int32) (va : Addr) (cv : Cell) (en0 en1 en2 s0 s1 s2 u0 u1 u2 : Addr) (h0 : Heap) (n0 : Nat) (O : Old Z n0 h0) (SC : Sta Z Z.heap "java/lang/String" "COMPACT_STRINGS" "Z" (.int cz)) (hcz : ¬ cz = 0) (Sx : Str Z h0 x t cs) (EN : Enm Z va cv en0 en1 en2 s0 s1 s2 u0 u1 u2) :
    Con l Z h0 ⟨"com/example/grantwell/grantwell/server/AuthMethod", "named", "(Ljava/lang/String;)Lcom/example/grantwell/grantwell/server/AuthMethod;"⟩ prog_4_method_3_code 5 (some (.object "com/example/grantwell/grantwell/server/AuthMethod")) ws ({ frames := 3, cells := 1, slots := 3, locals := 60 } : Room) #[(.ref x)] (fun v h L => v = some (if cs = nm0 then .ref en0 else if cs = nm1 then .ref en1 else if cs = nm2 then .ref en2 else .null) ∧ Fr n0 L ∧ Keep h0 h []) := by
  refine Con.of (plainFor_of_name pn_2) (f0 := fun m => (mkF m 0 #[.val (.ref x), .unset, .unset, .unset, .unset] [])) (fun m => by first | (simp [entryFrame, mkF, argsToLocals, Value.category, maxLocals]; done) | rfl) ?_
  intro p e s m below meth c T0 hx hby hml hown hnm hret hlk hZ X0 e0
  have hown : s.vm.findClass "com/example/grantwell/grantwell/server/AuthMethod" = some m.cls := hown
  have N0 := Fr.nil n0
  have KP0 := Keep.refl h0 []
  have GW0 : Grw h0 h0 := Nat.le_refl _
  show FinP p e below s _ _ _ (T0.setTop (mkF m 0 #[.val (.ref x), .unset, .unset, .unset, .unset] []))
  obtain ⟨_, T326, h326, L326, X326, e326, ⟨va2, kv2, rfl, Nq326, K326, V326⟩, st326⟩ := goS X0 hx hZ hown (hw _ (List.mem_of_getElem? (i := 50) rfl)) (hw _ (List.mem_of_getElem? (i := 51) rfl)) (hw _ (List.mem_of_getElem? (i := 45) rfl)) (hw _ (List.mem_of_getElem? (i := 52) rfl)) (by decide) ((rmValues l Z a0 hw [] va cv en0 en1 en2 s0 s1 s2 u0 u1 u2 h0 n0 O EN).pay (W := 0) hZ (hw _ (List.mem_of_getElem? (i := 52) rfl)) (hw _ (List.mem_of_getElem? (i := 45) rfl)) (by decide) (by decide)) e0 (g := (mkF m 0 #[.val (.ref x), .unset, .unset, .unset, .unset] [])) rfl (by rw [hml]; rfl) [] [] (lenOf pd_2 rfl) rfl (by show 2 * 0 + _ ≤ _; exact Nat.le_of_eq rfl) (Jvm.hb hby d_prog_4_method_3_0) rfl (by decide) (by decide)
  have N326 := N0.app Nq326
  refine FinP.st st326 ?_
  show FinP p e below s _ _ _ (T326.setTop (mkF m 3 #[.val (.ref x), .unset, .unset, .unset, .unset] [(.ref va2)]))
  obtain ⟨-, -, -, -, -, ⟨Ea, Fa, Na⟩, ⟨Eb, Fb, Nb⟩, ⟨Ec, Fc, Nc⟩⟩ := EN
  have f327 := O.keep K326 all0
  refine FinP.st (fun _ => XS.astoreN X326.here hx rfl (Jvm.hb hby d_prog_4_method_3_3) rfl rfl (l' := #[.val (.ref x), .val (.ref va2), .unset, .unset, .unset]) rfl) ?_
  show FinP p e below s _ _ _ (T326.setTop (mkF m 4 #[.val (.ref x), .val (.ref va2), .unset, .unset, .unset] []))
  refine FinP.st (fun _ => XS.aloadN X326.here hx rfl (Jvm.hb hby d_prog_4_method_3_4) rfl rfl) ?_
  show FinP p e below s _ _ _ (T326.setTop (mkF m 5 #[.val (.ref x), .val (.ref va2), .unset, .unset, .unset] [(.ref va2)]))
  refine FinP.st (alen X326 hx hZ e326 V326 (g := (mkF m 5 #[.val (.ref x), .val (.ref va2), .unset, .unset, .unset] [(.ref va2)])) rfl rfl (Jvm.hb hby d_prog_4_method_3_5)) ?_
  show FinP p e below s _ _ _ (T326.setTop (mkF m 6 #[.val (.ref x), .val (.ref va2), .unset, .unset, .unset] [(.int (3 : Int32))]))
  refine FinP.st (fun _ => XS.istoreN X326.here hx rfl (Jvm.hb hby d_prog_4_method_3_6) rfl (l' := #[.val (.ref x), .val (.ref va2), .val (.int (3 : Int32)), .unset, .unset]) rfl) ?_
  show FinP p e below s _ _ _ (T326.setTop (mkF m 7 #[.val (.ref x), .val (.ref va2), .val (.int (3 : Int32)), .unset, .unset] []))
  refine FinP.st (fun _ => XS.iconst X326.here hx rfl (Jvm.hb hby d_prog_4_method_3_7)) ?_
  show FinP p e below s _ _ _ (T326.setTop (mkF m 8 #[.val (.ref x), .val (.ref va2), .val (.int (3 : Int32)), .unset, .unset] [(.int (0 : Int32))]))
  refine FinP.st (fun _ => XS.istoreN X326.here hx rfl (Jvm.hb hby d_prog_4_method_3_8) rfl (l' := #[.val (.ref x), .val (.ref va2), .val (.int (3 : Int32)), .val (.int (0 : Int32)), .unset]) rfl) ?_
  show FinP p e below s _ _ _ (T326.setTop (mkF m 9 #[.val (.ref x), .val (.ref va2), .val (.int (3 : Int32)), .val (.int (0 : Int32)), .unset] []))
  refine FinP.st (fun _ => XS.iloadN X326.here hx rfl (Jvm.hb hby d_prog_4_method_3_9) rfl) ?_
  show FinP p e below s _ _ _ (T326.setTop (mkF m 10 #[.val (.ref x), .val (.ref va2), .val (.int (3 : Int32)), .val (.int (0 : Int32)), .unset] [(.int (0 : Int32))]))
  refine FinP.st (fun _ => XS.iloadN X326.here hx rfl (Jvm.hb hby d_prog_4_method_3_10) rfl) ?_
  show FinP p e below s _ _ _ (T326.setTop (mkF m 11 #[.val (.ref x), .val (.ref va2), .val (.int (3 : Int32)), .val (.int (0 : Int32)), .unset] [(.int (3 : Int32)), (.int (0 : Int32))]))
  refine FinP.st (fun _ => XS.icmpNo X326.here hx rfl (Jvm.hb hby d_prog_4_method_3_11) rfl (igeN (by decide))) ?_
  show FinP p e below s _ _ _ (T326.setTop (mkF m 14 #[.val (.ref x), .val (.ref va2), .val (.int (3 : Int32)), .val (.int (0 : Int32)), .unset] []))
  refine FinP.st (fun _ => XS.aloadN X326.here hx rfl (Jvm.hb hby d_prog_4_method_3_14) rfl rfl) ?_
  show FinP p e below s _ _ _ (T326.setTop (mkF m 15 #[.val (.ref x), .val (.ref va2), .val (.int (3 : Int32)), .val (.int (0 : Int32)), .unset] [(.ref va2)]))
  refine FinP.st (fun _ => XS.iloadN X326.here hx rfl (Jvm.hb hby d_prog_4_method_3_15) rfl) ?_
  show FinP p e below s _ _ _ (T326.setTop (mkF m 16 #[.val (.ref x), .val (.ref va2), .val (.int (3 : Int32)), .val (.int (0 : Int32)), .unset] [(.int (0 : Int32)), (.ref va2)]))
  refine FinP.st (ldR0 X326 hx hZ e326 rfl V326 (j := (0 : Int32)) (by decide) rfl (g := (mkF m 16 #[.val (.ref x), .val (.ref va2), .val (.int (3 : Int32)), .val (.int (0 : Int32)), .unset] [(.int (0 : Int32)), (.ref va2)])) rfl rfl (Jvm.hb hby d_prog_4_method_3_16)) ?_
  show FinP p e below s _ _ _ (T326.setTop (mkF m 17 #[.val (.ref x), .val (.ref va2), .val (.int (3 : Int32)), .val (.int (0 : Int32)), .unset] [(.ref en0)]))
  refine FinP.st (fun _ => XS.astore X326.here hx rfl (Jvm.hb hby d_prog_4_method_3_17) rfl rfl (l' := #[.val (.ref x), .val (.ref va2), .val (.int (3 : Int32)), .val (.int (0 : Int32)), .val (.ref en0)]) rfl) ?_
  show FinP p e below s _ _ _ (T326.setTop (mkF m 19 #[.val (.ref x), .val (.ref va2), .val (.int (3 : Int32)), .val (.int (0 : Int32)), .val (.ref en0)] []))
  refine FinP.st (fun _ => XS.aload X326.here hx rfl (Jvm.hb hby d_prog_4_method_3_19) rfl rfl) ?_
  show FinP p e below s _ _ _ (T326.setTop (mkF m 21 #[.val (.ref x), .val (.ref va2), .val (.int (3 : Int32)), .val (.int (0 : Int32)), .val (.ref en0)] [(.ref en0)]))
  obtain ⟨T328, X328, e328, st328⟩ := getF X326 hx hZ hown (host := "") (Or.inl (hw _ (List.mem_of_getElem? (i := 67) rfl))) Via.refl e326 (Fa.ext f327.2) (g := (mkF m 21 #[.val (.ref x), .val (.ref va2), .val (.int (3 : Int32)), .val (.int (0 : Int32)), .val (.ref en0)] [(.ref en0)])) rfl rfl (Jvm.hb hby d_prog_4_method_3_21)
  refine FinP.st st328 ?_
  show FinP p e below s _ _ _ (T328.setTop (mkF m 24 #[.val (.ref x), .val (.ref va2), .val (.int (3 : Int32)), .val (.int (0 : Int32)), .val (.ref en0)] [(.ref s0)]))
  refine FinP.st (fun _ => XS.aloadN X328.here hx rfl (Jvm.hb hby d_prog_4_method_3_24) rfl rfl) ?_
  show FinP p e below s _ _ _ (T328.setTop (mkF m 25 #[.val (.ref x), .val (.ref va2), .val (.int (3 : Int32)), .val (.int (0 : Int32)), .val (.ref en0)] [(.ref x), (.ref s0)]))
  have f329 := Sx.keep K326 nin0 nin0
  obtain ⟨_, T330, h330, L330, X330, e330, ⟨rfl, rfl, q330⟩, st330⟩ := goV X328 hx hZ hown (hw _ (List.mem_of_getElem? (i := 69) rfl)) (hw _ (List.mem_of_getElem? (i := 35) rfl)) (hw _ (List.mem_of_getElem? (i := 37) rfl)) (notFace_of_selects (args := #[]) (mvT hZ (hw _ (List.mem_of_getElem? (i := 37) rfl)))) (hw _ (List.mem_of_getElem? (i := 36) rfl)) (by decide) (strEq (len := 3) (W := 0) hZ hw (hw _ (List.mem_of_getElem? (i := 3) rfl)) (Na.ext f327.2) f329 (SC.ext f327.2) hcz (by decide) (by decide)) e328 (Na.ext f327.2).exa (g := (mkF m 25 #[.val (.ref x), .val (.ref va2), .val (.int (3 : Int32)), .val (.int (0 : Int32)), .val (.ref en0)] [(.ref x), (.ref s0)])) rfl (by rw [hml]; rfl) [(.ref x)] [] (lenOf pd_3 rfl) rfl (by show 2 * 0 + _ ≤ _; exact Nat.le_of_eq rfl) (Jvm.hb hby d_prog_4_method_3_25) rfl (by decide) (by decide)
  have e330 := e330.trans q330
  have N330 := N326.app (Fr.nil n0)
  refine FinP.st st330 ?_
  show FinP p e below s _ _ _ (T330.setTop (mkF m 28 #[.val (.ref x), .val (.ref va2), .val (.int (3 : Int32)), .val (.int (0 : Int32)), .val (.ref en0)] [(.int (if nm0 = cs then (1 : Int32) else 0))]))
  by_cases hc0 : nm0 = cs
  · skip
    rw [if_pos hc0]
    show FinP p e below s _ _ _ (T330.setTop (mkF m 28 #[.val (.ref x), .val (.ref va2), .val (.int (3 : Int32)), .val (.int (0 : Int32)), .val (.ref en0)] [(.int (1 : Int32))]))
    refine FinP.st (fun _ => XS.ifNo X330.here hx rfl (Jvm.hb hby d_prog_4_method_3_28) rfl (zeqN (by decide))) ?_
    show FinP p e below s _ _ _ (T330.setTop (mkF m 31 #[.val (.ref x), .val (.ref va2), .val (.int (3 : Int32)), .val (.int (0 : Int32)), .val (.ref en0)] []))
    refine FinP.st (fun _ => XS.aload X330.here hx rfl (Jvm.hb hby d_prog_4_method_3_31) rfl rfl) ?_
    show FinP p e below s _ _ _ (T330.setTop (mkF m 33 #[.val (.ref x), .val (.ref va2), .val (.int (3 : Int32)), .val (.int (0 : Int32)), .val (.ref en0)] [(.ref en0)]))
    have f331 := KP0.trans K326 (all0)
    exact finA X330 hx hlk hret rfl rfl rfl (Jvm.hb hby d_prog_4_method_3_33) e330 ⟨by rw [if_pos hc0.symm], N330, f331⟩ (by decide) (by decide)
  · skip
    rw [if_neg hc0]
    show FinP p e below s _ _ _ (T330.setTop (mkF m 28 #[.val (.ref x), .val (.ref va2), .val (.int (3 : Int32)), .val (.int (0 : Int32)), .val (.ref en0)] [(.int (0 : Int32))]))
    refine FinP.st (fun _ => XS.ifYes X330.here hx rfl (pc0 := 28) (pc' := 34) rfl (Jvm.hb hby d_prog_4_method_3_28) rfl (zeq rfl) (by decide) (by decide)) ?_
    show FinP p e below s _ _ _ (T330.setTop (mkF m 34 #[.val (.ref x), .val (.ref va2), .val (.int (3 : Int32)), .val (.int (0 : Int32)), .val (.ref en0)] []))
    refine FinP.st (fun _ => XS.iinc X330.here hx rfl (Jvm.hb hby d_prog_4_method_3_34) rfl (l' := #[.val (.ref x), .val (.ref va2), .val (.int (3 : Int32)), .val (.int ((0 : Int32) + (1 : Int32))), .val (.ref en0)]) rfl) ?_
    show FinP p e below s _ _ _ (T330.setTop (mkF m 37 #[.val (.ref x), .val (.ref va2), .val (.int (3 : Int32)), .val (.int ((0 : Int32) + (1 : Int32))), .val (.ref en0)] []))
    refine FinP.st (fun _ => XS.goto X330.here hx rfl (pc0 := 37) (pc' := 9) rfl (Jvm.hb hby d_prog_4_method_3_37) (by decide) (by decide)) ?_
    show FinP p e below s _ _ _ (T330.setTop (mkF m 9 #[.val (.ref x), .val (.ref va2), .val (.int (3 : Int32)), .val (.int ((0 : Int32) + (1 : Int32))), .val (.ref en0)] []))
    refine FinP.st (fun _ => XS.iloadN X330.here hx rfl (Jvm.hb hby d_prog_4_method_3_9) rfl) ?_
    show FinP p e below s _ _ _ (T330.setTop (mkF m 10 #[.val (.ref x), .val (.ref va2), .val (.int (3 : Int32)), .val (.int ((0 : Int32) + (1 : Int32))), .val (.ref en0)] [(.int ((0 : Int32) + (1 : Int32)))]))
    refine FinP.st (fun _ => XS.iloadN X330.here hx rfl (Jvm.hb hby d_prog_4_method_3_10) rfl) ?_
    show FinP p e below s _ _ _ (T330.setTop (mkF m 11 #[.val (.ref x), .val (.ref va2), .val (.int (3 : Int32)), .val (.int ((0 : Int32) + (1 : Int32))), .val (.ref en0)] [(.int (3 : Int32)), (.int ((0 : Int32) + (1 : Int32)))]))
    refine FinP.st (fun _ => XS.icmpNo X330.here hx rfl (Jvm.hb hby d_prog_4_method_3_11) rfl (igeN (by decide))) ?_
    show FinP p e below s _ _ _ (T330.setTop (mkF m 14 #[.val (.ref x), .val (.ref va2), .val (.int (3 : Int32)), .val (.int ((0 : Int32) + (1 : Int32))), .val (.ref en0)] []))
    refine FinP.st (fun _ => XS.aloadN X330.here hx rfl (Jvm.hb hby d_prog_4_method_3_14) rfl rfl) ?_
    show FinP p e below s _ _ _ (T330.setTop (mkF m 15 #[.val (.ref x), .val (.ref va2), .val (.int (3 : Int32)), .val (.int ((0 : Int32) + (1 : Int32))), .val (.ref en0)] [(.ref va2)]))
    refine FinP.st (fun _ => XS.iloadN X330.here hx rfl (Jvm.hb hby d_prog_4_method_3_15) rfl) ?_
    show FinP p e below s _ _ _ (T330.setTop (mkF m 16 #[.val (.ref x), .val (.ref va2), .val (.int (3 : Int32)), .val (.int ((0 : Int32) + (1 : Int32))), .val (.ref en0)] [(.int ((0 : Int32) + (1 : Int32))), (.ref va2)]))
    refine FinP.st (ldR0 X330 hx hZ e330 rfl V326 (j := ((0 : Int32) + (1 : Int32))) (by decide) rfl (g := (mkF m 16 #[.val (.ref x), .val (.ref va2), .val (.int (3 : Int32)), .val (.int ((0 : Int32) + (1 : Int32))), .val (.ref en0)] [(.int ((0 : Int32) + (1 : Int32))), (.ref va2)])) rfl rfl (Jvm.hb hby d_prog_4_method_3_16)) ?_
    show FinP p e below s _ _ _ (T330.setTop (mkF m 17 #[.val (.ref x), .val (.ref va2), .val (.int (3 : Int32)), .val (.int ((0 : Int32) + (1 : Int32))), .val (.ref en0)] [(.ref en1)]))
    refine FinP.st (fun _ => XS.astore X330.here hx rfl (Jvm.hb hby d_prog_4_method_3_17) rfl rfl (l' := #[.val (.ref x), .val (.ref va2), .val (.int (3 : Int32)), .val (.int ((0 : Int32) + (1 : Int32))), .val (.ref en1)]) rfl) ?_
    show FinP p e below s _ _ _ (T330.setTop (mkF m 19 #[.val (.ref x), .val (.ref va2), .val (.int (3 : Int32)), .val (.int ((0 : Int32) + (1 : Int32))), .val (.ref en1)] []))
    refine FinP.st (fun _ => XS.aload X330.here hx rfl (Jvm.hb hby d_prog_4_method_3_19) rfl rfl) ?_
    show FinP p e below s _ _ _ (T330.setTop (mkF m 21 #[.val (.ref x), .val (.ref va2), .val (.int (3 : Int32)), .val (.int ((0 : Int32) + (1 : Int32))), .val (.ref en1)] [(.ref en1)]))
    obtain ⟨T332, X332, e332, st332⟩ := getF X330 hx hZ hown (host := "") (Or.inl (hw _ (List.mem_of_getElem? (i := 67) rfl))) Via.refl e330 (Fb.ext f327.2) (g := (mkF m 21 #[.val (.ref x), .val (.ref va2), .val (.int (3 : Int32)), .val (.int ((0 : Int32) + (1 : Int32))), .val (.ref en1)] [(.ref en1)])) rfl rfl (Jvm.hb hby d_prog_4_method_3_21)
    refine FinP.st st332 ?_
    show FinP p e below s _ _ _ (T332.setTop (mkF m 24 #[.val (.ref x), .val (.ref va2), .val (.int (3 : Int32)), .val (.int ((0 : Int32) + (1 : Int32))), .val (.ref en1)] [(.ref s1)]))
    refine FinP.st (fun _ => XS.aloadN X332.here hx rfl (Jvm.hb hby d_prog_4_method_3_24) rfl rfl) ?_
    show FinP p e below s _ _ _ (T332.setTop (mkF m 25 #[.val (.ref x), .val (.ref va2), .val (.int (3 : Int32)), .val (.int ((0 : Int32) + (1 : Int32))), .val (.ref en1)] [(.ref x), (.ref s1)]))
    obtain ⟨_, T333, h333, L333, X333, e333, ⟨rfl, rfl, q333⟩, st333⟩ := goV X332 hx hZ hown (hw _ (List.mem_of_getElem? (i := 69) rfl)) (hw _ (List.mem_of_getElem? (i := 35) rfl)) (hw _ (List.mem_of_getElem? (i := 37) rfl)) (notFace_of_selects (args := #[]) (mvT hZ (hw _ (List.mem_of_getElem? (i := 37) rfl)))) (hw _ (List.mem_of_getElem? (i := 36) rfl)) (by decide) (strEq (len := 3) (W := 0) hZ hw (hw _ (List.mem_of_getElem? (i := 3) rfl)) (Nb.ext f327.2) f329 (SC.ext f327.2) hcz (by decide) (by decide)) e332 (Nb.ext f327.2).exa (g := (mkF m 25 #[.val (.ref x), .val (.ref va2), .val (.int (3 : Int32)), .val (.int ((0 : Int32) + (1 : Int32))), .val (.ref en1)] [(.ref x), (.ref s1)])) rfl (by rw [hml]; rfl) [(.ref x)] [] (lenOf pd_3 rfl) rfl (by show 2 * 0 + _ ≤ _; exact Nat.le_of_eq rfl) (Jvm.hb hby d_prog_4_method_3_25) rfl (by decide) (by decide)
    have e333 := e333.trans q333
    have N333 := N330.app (Fr.nil n0)
    refine FinP.st st333 ?_
    show FinP p e below s _ _ _ (T333.setTop (mkF m 28 #[.val (.ref x), .val (.ref va2), .val (.int (3 : Int32)), .val (.int ((0 : Int32) + (1 : Int32))), .val (.ref en1)] [(.int (if nm1 = cs then (1 : Int32) else 0))]))
    by_cases hc1 : nm1 = cs
    · skip
      rw [if_pos hc1]
      show FinP p e below s _ _ _ (T333.setTop (mkF m 28 #[.val (.ref x), .val (.ref va2), .val (.int (3 : Int32)), .val (.int ((0 : Int32) + (1 : Int32))), .val (.ref en1)] [(.int (1 : Int32))]))
      refine FinP.st (fun _ => XS.ifNo X333.here hx rfl (Jvm.hb hby d_prog_4_method_3_28) rfl (zeqN (by decide))) ?_
      show FinP p e below s _ _ _ (T333.setTop (mkF m 31 #[.val (.ref x), .val (.ref va2), .val (.int (3 : Int32)), .val (.int ((0 : Int32) + (1 : Int32))), .val (.ref en1)] []))
      refine FinP.st (fun _ => XS.aload X333.here hx rfl (Jvm.hb hby d_prog_4_method_3_31) rfl rfl) ?_
      show FinP p e below s _ _ _ (T333.setTop (mkF m 33 #[.val (.ref x), .val (.ref va2), .val (.int (3 : Int32)), .val (.int ((0 : Int32) + (1 : Int32))), .val (.ref en1)] [(.ref en1)]))
      have f334 := KP0.trans K326 (all0)
      exact finA X333 hx hlk hret rfl rfl rfl (Jvm.hb hby d_prog_4_method_3_33) e333 ⟨by rw [if_neg (fun z => hc0 z.symm), if_pos hc1.symm], N333, f334⟩ (by decide) (by decide)
    · skip
      rw [if_neg hc1]
      show FinP p e below s _ _ _ (T333.setTop (mkF m 28 #[.val (.ref x), .val (.ref va2), .val (.int (3 : Int32)), .val (.int ((0 : Int32) + (1 : Int32))), .val (.ref en1)] [(.int (0 : Int32))]))
      refine FinP.st (fun _ => XS.ifYes X333.here hx rfl (pc0 := 28) (pc' := 34) rfl (Jvm.hb hby d_prog_4_method_3_28) rfl (zeq rfl) (by decide) (by decide)) ?_
      show FinP p e below s _ _ _ (T333.setTop (mkF m 34 #[.val (.ref x), .val (.ref va2), .val (.int (3 : Int32)), .val (.int ((0 : Int32) + (1 : Int32))), .val (.ref en1)] []))
      refine FinP.st (fun _ => XS.iinc X333.here hx rfl (Jvm.hb hby d_prog_4_method_3_34) rfl (l' := #[.val (.ref x), .val (.ref va2), .val (.int (3 : Int32)), .val (.int (((0 : Int32) + (1 : Int32)) + (1 : Int32))), .val (.ref en1)]) rfl) ?_
      show FinP p e below s _ _ _ (T333.setTop (mkF m 37 #[.val (.ref x), .val (.ref va2), .val (.int (3 : Int32)), .val (.int (((0 : Int32) + (1 : Int32)) + (1 : Int32))), .val (.ref en1)] []))
      refine FinP.st (fun _ => XS.goto X333.here hx rfl (pc0 := 37) (pc' := 9) rfl (Jvm.hb hby d_prog_4_method_3_37) (by decide) (by decide)) ?_
      show FinP p e below s _ _ _ (T333.setTop (mkF m 9 #[.val (.ref x), .val (.ref va2), .val (.int (3 : Int32)), .val (.int (((0 : Int32) + (1 : Int32)) + (1 : Int32))), .val (.ref en1)] []))
      refine FinP.st (fun _ => XS.iloadN X333.here hx rfl (Jvm.hb hby d_prog_4_method_3_9) rfl) ?_
      show FinP p e below s _ _ _ (T333.setTop (mkF m 10 #[.val (.ref x), .val (.ref va2), .val (.int (3 : Int32)), .val (.int (((0 : Int32) + (1 : Int32)) + (1 : Int32))), .val (.ref en1)] [(.int (((0 : Int32) + (1 : Int32)) + (1 : Int32)))]))
      refine FinP.st (fun _ => XS.iloadN X333.here hx rfl (Jvm.hb hby d_prog_4_method_3_10) rfl) ?_
      show FinP p e below s _ _ _ (T333.setTop (mkF m 11 #[.val (.ref x), .val (.ref va2), .val (.int (3 : Int32)), .val (.int (((0 : Int32) + (1 : Int32)) + (1 : Int32))), .val (.ref en1)] [(.int (3 : Int32)), (.int (((0 : Int32) + (1 : Int32)) + (1 : Int32)))]))
      refine FinP.st (fun _ => XS.icmpNo X333.here hx rfl (Jvm.hb hby d_prog_4_method_3_11) rfl (igeN (by decide))) ?_
      show FinP p e below s _ _ _ (T333.setTop (mkF m 14 #[.val (.ref x), .val (.ref va2), .val (.int (3 : Int32)), .val (.int (((0 : Int32) + (1 : Int32)) + (1 : Int32))), .val (.ref en1)] []))
      refine FinP.st (fun _ => XS.aloadN X333.here hx rfl (Jvm.hb hby d_prog_4_method_3_14) rfl rfl) ?_
      show FinP p e below s _ _ _ (T333.setTop (mkF m 15 #[.val (.ref x), .val (.ref va2), .val (.int (3 : Int32)), .val (.int (((0 : Int32) + (1 : Int32)) + (1 : Int32))), .val (.ref en1)] [(.ref va2)]))
      refine FinP.st (fun _ => XS.iloadN X333.here hx rfl (Jvm.hb hby d_prog_4_method_3_15) rfl) ?_
      show FinP p e below s _ _ _ (T333.setTop (mkF m 16 #[.val (.ref x), .val (.ref va2), .val (.int (3 : Int32)), .val (.int (((0 : Int32) + (1 : Int32)) + (1 : Int32))), .val (.ref en1)] [(.int (((0 : Int32) + (1 : Int32)) + (1 : Int32))), (.ref va2)]))
      refine FinP.st (ldR0 X333 hx hZ e333 rfl V326 (j := (((0 : Int32) + (1 : Int32)) + (1 : Int32))) (by decide) rfl (g := (mkF m 16 #[.val (.ref x), .val (.ref va2), .val (.int (3 : Int32)), .val (.int (((0 : Int32) + (1 : Int32)) + (1 : Int32))), .val (.ref en1)] [(.int (((0 : Int32) + (1 : Int32)) + (1 : Int32))), (.ref va2)])) rfl rfl (Jvm.hb hby d_prog_4_method_3_16)) ?_
      show FinP p e below s _ _ _ (T333.setTop (mkF m 17 #[.val (.ref x), .val (.ref va2), .val (.int (3 : Int32)), .val (.int (((0 : Int32) + (1 : Int32)) + (1 : Int32))), .val (.ref en1)] [(.ref en2)]))
      refine FinP.st (fun _ => XS.astore X333.here hx rfl (Jvm.hb hby d_prog_4_method_3_17) rfl rfl (l' := #[.val (.ref x), .val (.ref va2), .val (.int (3 : Int32)), .val (.int (((0 : Int32) + (1 : Int32)) + (1 : Int32))), .val (.ref en2)]) rfl) ?_
      show FinP p e below s _ _ _ (T333.setTop (mkF m 19 #[.val (.ref x), .val (.ref va2), .val (.int (3 : Int32)), .val (.int (((0 : Int32) + (1 : Int32)) + (1 : Int32))), .val (.ref en2)] []))
      refine FinP.st (fun _ => XS.aload X333.here hx rfl (Jvm.hb hby d_prog_4_method_3_19) rfl rfl) ?_
      show FinP p e below s _ _ _ (T333.setTop (mkF m 21 #[.val (.ref x), .val (.ref va2), .val (.int (3 : Int32)), .val (.int (((0 : Int32) + (1 : Int32)) + (1 : Int32))), .val (.ref en2)] [(.ref en2)]))
      obtain ⟨T335, X335, e335, st335⟩ := getF X333 hx hZ hown (host := "") (Or.inl (hw _ (List.mem_of_getElem? (i := 67) rfl))) Via.refl e333 (Fc.ext f327.2) (g := (mkF m 21 #[.val (.ref x), .val (.ref va2), .val (.int (3 : Int32)), .val (.int (((0 : Int32) + (1 : Int32)) + (1 : Int32))), .val (.ref en2)] [(.ref en2)])) rfl rfl (Jvm.hb hby d_prog_4_method_3_21)
      refine FinP.st st335 ?_
      show FinP p e below s _ _ _ (T335.setTop (mkF m 24 #[.val (.ref x), .val (.ref va2), .val (.int (3 : Int32)), .val (.int (((0 : Int32) + (1 : Int32)) + (1 : Int32))), .val (.ref en2)] [(.ref s2)]))
      refine FinP.st (fun _ => XS.aloadN X335.here hx rfl (Jvm.hb hby d_prog_4_method_3_24) rfl rfl) ?_
      show FinP p e below s _ _ _ (T335.setTop (mkF m 25 #[.val (.ref x), .val (.ref va2), .val (.int (3 : Int32)), .val (.int (((0 : Int32) + (1 : Int32)) + (1 : Int32))), .val (.ref en2)] [(.ref x), (.ref s2)]))
      obtain ⟨_, T336, h336, L336, X336, e336, ⟨rfl, rfl, q336⟩, st336⟩ := goV X335 hx hZ hown (hw _ (List.mem_of_getElem? (i := 69) rfl)) (hw _ (List.mem_of_getElem? (i := 35) rfl)) (hw _ (List.mem_of_getElem? (i := 37) rfl)) (notFace_of_selects (args := #[]) (mvT hZ (hw _ (List.mem_of_getElem? (i := 37) rfl)))) (hw _ (List.mem_of_getElem? (i := 36) rfl)) (by decide) (strEq (len := 3) (W := 0) hZ hw (hw _ (List.mem_of_getElem? (i := 3) rfl)) (Nc.ext f327.2) f329 (SC.ext f327.2) hcz (by decide) (by decide)) e335 (Nc.ext f327.2).exa (g := (mkF m 25 #[.val (.ref x), .val (.ref va2), .val (.int (3 : Int32)), .val (.int (((0 : Int32) + (1 : Int32)) + (1 : Int32))), .val (.ref en2)] [(.ref x), (.ref s2)])) rfl (by rw [hml]; rfl) [(.ref x)] [] (lenOf pd_3 rfl) rfl (by show 2 * 0 + _ ≤ _; exact Nat.le_of_eq rfl) (Jvm.hb hby d_prog_4_method_3_25) rfl (by decide) (by decide)
      have e336 := e336.trans q336
      have N336 := N333.app (Fr.nil n0)
      refine FinP.st st336 ?_
      show FinP p e below s _ _ _ (T336.setTop (mkF m 28 #[.val (.ref x), .val (.ref va2), .val (.int (3 : Int32)), .val (.int (((0 : Int32) + (1 : Int32)) + (1 : Int32))), .val (.ref en2)] [(.int (if nm2 = cs then (1 : Int32) else 0))]))
      by_cases hc2 : nm2 = cs
      · skip
        rw [if_pos hc2]
        show FinP p e below s _ _ _ (T336.setTop (mkF m 28 #[.val (.ref x), .val (.ref va2), .val (.int (3 : Int32)), .val (.int (((0 : Int32) + (1 : Int32)) + (1 : Int32))), .val (.ref en2)] [(.int (1 : Int32))]))
        refine FinP.st (fun _ => XS.ifNo X336.here hx rfl (Jvm.hb hby d_prog_4_method_3_28) rfl (zeqN (by decide))) ?_
        show FinP p e below s _ _ _ (T336.setTop (mkF m 31 #[.val (.ref x), .val (.ref va2), .val (.int (3 : Int32)), .val (.int (((0 : Int32) + (1 : Int32)) + (1 : Int32))), .val (.ref en2)] []))
        refine FinP.st (fun _ => XS.aload X336.here hx rfl (Jvm.hb hby d_prog_4_method_3_31) rfl rfl) ?_
        show FinP p e below s _ _ _ (T336.setTop (mkF m 33 #[.val (.ref x), .val (.ref va2), .val (.int (3 : Int32)), .val (.int (((0 : Int32) + (1 : Int32)) + (1 : Int32))), .val (.ref en2)] [(.ref en2)]))
        have f337 := KP0.trans K326 (all0)
        exact finA X336 hx hlk hret rfl rfl rfl (Jvm.hb hby d_prog_4_method_3_33) e336 ⟨by rw [if_neg (fun z => hc0 z.symm), if_neg (fun z => hc1 z.symm), if_pos hc2.symm], N336, f337⟩ (by decide) (by decide)
      · skip
        rw [if_neg hc2]
        show FinP p e below s _ _ _ (T336.setTop (mkF m 28 #[.val (.ref x), .val (.ref va2), .val (.int (3 : Int32)), .val (.int (((0 : Int32) + (1 : Int32)) + (1 : Int32))), .val (.ref en2)] [(.int (0 : Int32))]))
        refine FinP.st (fun _ => XS.ifYes X336.here hx rfl (pc0 := 28) (pc' := 34) rfl (Jvm.hb hby d_prog_4_method_3_28) rfl (zeq rfl) (by decide) (by decide)) ?_
        show FinP p e below s _ _ _ (T336.setTop (mkF m 34 #[.val (.ref x), .val (.ref va2), .val (.int (3 : Int32)), .val (.int (((0 : Int32) + (1 : Int32)) + (1 : Int32))), .val (.ref en2)] []))
        refine FinP.st (fun _ => XS.iinc X336.here hx rfl (Jvm.hb hby d_prog_4_method_3_34) rfl (l' := #[.val (.ref x), .val (.ref va2), .val (.int (3 : Int32)), .val (.int ((((0 : Int32) + (1 : Int32)) + (1 : Int32)) + (1 : Int32))), .val (.ref en2)]) rfl) ?_
        show FinP p e below s _ _ _ (T336.setTop (mkF m 37 #[.val (.ref x), .val (.ref va2), .val (.int (3 : Int32)), .val (.int ((((0 : Int32) + (1 : Int32)) + (1 : Int32)) + (1 : Int32))), .val (.ref en2)] []))
        refine FinP.st (fun _ => XS.goto X336.here hx rfl (pc0 := 37) (pc' := 9) rfl (Jvm.hb hby d_prog_4_method_3_37) (by decide) (by decide)) ?_
        show FinP p e below s _ _ _ (T336.setTop (mkF m 9 #[.val (.ref x), .val (.ref va2), .val (.int (3 : Int32)), .val (.int ((((0 : Int32) + (1 : Int32)) + (1 : Int32)) + (1 : Int32))), .val (.ref en2)] []))
        refine FinP.st (fun _ => XS.iloadN X336.here hx rfl (Jvm.hb hby d_prog_4_method_3_9) rfl) ?_
        show FinP p e below s _ _ _ (T336.setTop (mkF m 10 #[.val (.ref x), .val (.ref va2), .val (.int (3 : Int32)), .val (.int ((((0 : Int32) + (1 : Int32)) + (1 : Int32)) + (1 : Int32))), .val (.ref en2)] [(.int ((((0 : Int32) + (1 : Int32)) + (1 : Int32)) + (1 : Int32)))]))
        refine FinP.st (fun _ => XS.iloadN X336.here hx rfl (Jvm.hb hby d_prog_4_method_3_10) rfl) ?_
        show FinP p e below s _ _ _ (T336.setTop (mkF m 11 #[.val (.ref x), .val (.ref va2), .val (.int (3 : Int32)), .val (.int ((((0 : Int32) + (1 : Int32)) + (1 : Int32)) + (1 : Int32))), .val (.ref en2)] [(.int (3 : Int32)), (.int ((((0 : Int32) + (1 : Int32)) + (1 : Int32)) + (1 : Int32)))]))
        refine FinP.st (fun _ => XS.icmpYes X336.here hx rfl (pc0 := 11) (pc' := 40) rfl (Jvm.hb hby d_prog_4_method_3_11) rfl (ige (by decide)) (by decide) (by decide)) ?_
        show FinP p e below s _ _ _ (T336.setTop (mkF m 40 #[.val (.ref x), .val (.ref va2), .val (.int (3 : Int32)), .val (.int ((((0 : Int32) + (1 : Int32)) + (1 : Int32)) + (1 : Int32))), .val (.ref en2)] []))
        refine FinP.st (fun _ => XS.aconstNull X336.here hx rfl (Jvm.hb hby d_prog_4_method_3_40)) ?_
        show FinP p e below s _ _ _ (T336.setTop (mkF m 41 #[.val (.ref x), .val (.ref va2), .val (.int (3 : Int32)), .val (.int ((((0 : Int32) + (1 : Int32)) + (1 : Int32)) + (1 : Int32))), .val (.ref en2)] [.null]))
        have f338 := KP0.trans K326 (all0)
        exact finA X336 hx hlk hret rfl rfl rfl (Jvm.hb hby d_prog_4_method_3_41) e336 ⟨by rw [if_neg (fun z => hc0 z.symm), if_neg (fun z => hc1 z.symm), if_neg (fun z => hc2 z.symm)], N336, f338⟩ (by decide) (by decide)
set_option maxRecDepth 65536 in
set_option maxHeartbeats 40000000 in
theorem rmNamedN (l : Launch) (Z : State) (a0 : Array Value) (hw : ∀ d ∈ tables_1, d.before a0 Z = true) (ws : List Jvm.Cond) (va : Addr) (cv : Cell) (en0 en1 en2 s0 s1 s2 u0 u1 u2 : Addr) (h0 : Heap) (n0 : Nat) (O : Old Z n0 h0) (EN : Enm Z va cv en0 en1 en2 s0 s1 s2 u0 u1 u2) :
    Con l Z h0 ⟨"com/example/grantwell/grantwell/server/AuthMethod", "named", "(Ljava/lang/String;)Lcom/example/grantwell/grantwell/server/AuthMethod;"⟩ prog_4_method_3_code 5 (some (.object "com/example/grantwell/grantwell/server/AuthMethod")) ws ({ frames := 3, cells := 1, slots := 3, locals := 60 } : Room) #[.null] (fun v h L => v = some .null ∧ Fr n0 L ∧ Keep h0 h []) := by
  refine Con.of (plainFor_of_name pn_2) (f0 := fun m => (mkF m 0 #[.val .null, .unset, .unset, .unset, .unset] [])) (fun m => by first | (simp [entryFrame, mkF, argsToLocals, Value.category, maxLocals]; done) | rfl) ?_
  intro p e s m below meth c T0 hx hby hml hown hnm hret hlk hZ X0 e0
  have hown : s.vm.findClass "com/example/grantwell/grantwell/server/AuthMethod" = some m.cls := hown
  have N0 := Fr.nil n0
  have KP0 := Keep.refl h0 []
  have GW0 : Grw h0 h0 := Nat.le_refl _
  show FinP p e below s _ _ _ (T0.setTop (mkF m 0 #[.val .null, .unset, .unset, .unset, .unset] []))
  obtain ⟨_, T339, h339, L339, X339, e339, ⟨va2, kv2, rfl, Nq339, K339, V339⟩, st339⟩ := goS X0 hx hZ hown (hw _ (List.mem_of_getElem? (i := 50) rfl)) (hw _ (List.mem_of_getElem? (i := 51) rfl)) (hw _ (List.mem_of_getElem? (i := 45) rfl)) (hw _ (List.mem_of_getElem? (i := 52) rfl)) (by decide) ((rmValues l Z a0 hw [] va cv en0 en1 en2 s0 s1 s2 u0 u1 u2 h0 n0 O EN).pay (W := 0) hZ (hw _ (List.mem_of_getElem? (i := 52) rfl)) (hw _ (List.mem_of_getElem? (i := 45) rfl)) (by decide) (by decide)) e0 (g := (mkF m 0 #[.val .null, .unset, .unset, .unset, .unset] [])) rfl (by rw [hml]; rfl) [] [] (lenOf pd_2 rfl) rfl (by show 2 * 0 + _ ≤ _; exact Nat.le_of_eq rfl) (Jvm.hb hby d_prog_4_method_3_0) rfl (by decide) (by decide)
  have N339 := N0.app Nq339
  refine FinP.st st339 ?_
  show FinP p e below s _ _ _ (T339.setTop (mkF m 3 #[.val .null, .unset, .unset, .unset, .unset] [(.ref va2)]))
  obtain ⟨-, -, -, -, -, ⟨Ea, Fa, Na⟩, ⟨Eb, Fb, Nb⟩, ⟨Ec, Fc, Nc⟩⟩ := EN
  have f340 := O.keep K339 all0
  refine FinP.st (fun _ => XS.astoreN X339.here hx rfl (Jvm.hb hby d_prog_4_method_3_3) rfl rfl (l' := #[.val .null, .val (.ref va2), .unset, .unset, .unset]) rfl) ?_
  show FinP p e below s _ _ _ (T339.setTop (mkF m 4 #[.val .null, .val (.ref va2), .unset, .unset, .unset] []))
  refine FinP.st (fun _ => XS.aloadN X339.here hx rfl (Jvm.hb hby d_prog_4_method_3_4) rfl rfl) ?_
  show FinP p e below s _ _ _ (T339.setTop (mkF m 5 #[.val .null, .val (.ref va2), .unset, .unset, .unset] [(.ref va2)]))
  refine FinP.st (alen X339 hx hZ e339 V339 (g := (mkF m 5 #[.val .null, .val (.ref va2), .unset, .unset, .unset] [(.ref va2)])) rfl rfl (Jvm.hb hby d_prog_4_method_3_5)) ?_
  show FinP p e below s _ _ _ (T339.setTop (mkF m 6 #[.val .null, .val (.ref va2), .unset, .unset, .unset] [(.int (3 : Int32))]))
  refine FinP.st (fun _ => XS.istoreN X339.here hx rfl (Jvm.hb hby d_prog_4_method_3_6) rfl (l' := #[.val .null, .val (.ref va2), .val (.int (3 : Int32)), .unset, .unset]) rfl) ?_
  show FinP p e below s _ _ _ (T339.setTop (mkF m 7 #[.val .null, .val (.ref va2), .val (.int (3 : Int32)), .unset, .unset] []))
  refine FinP.st (fun _ => XS.iconst X339.here hx rfl (Jvm.hb hby d_prog_4_method_3_7)) ?_
  show FinP p e below s _ _ _ (T339.setTop (mkF m 8 #[.val .null, .val (.ref va2), .val (.int (3 : Int32)), .unset, .unset] [(.int (0 : Int32))]))
  refine FinP.st (fun _ => XS.istoreN X339.here hx rfl (Jvm.hb hby d_prog_4_method_3_8) rfl (l' := #[.val .null, .val (.ref va2), .val (.int (3 : Int32)), .val (.int (0 : Int32)), .unset]) rfl) ?_
  show FinP p e below s _ _ _ (T339.setTop (mkF m 9 #[.val .null, .val (.ref va2), .val (.int (3 : Int32)), .val (.int (0 : Int32)), .unset] []))
  refine FinP.st (fun _ => XS.iloadN X339.here hx rfl (Jvm.hb hby d_prog_4_method_3_9) rfl) ?_
  show FinP p e below s _ _ _ (T339.setTop (mkF m 10 #[.val .null, .val (.ref va2), .val (.int (3 : Int32)), .val (.int (0 : Int32)), .unset] [(.int (0 : Int32))]))
  refine FinP.st (fun _ => XS.iloadN X339.here hx rfl (Jvm.hb hby d_prog_4_method_3_10) rfl) ?_
  show FinP p e below s _ _ _ (T339.setTop (mkF m 11 #[.val .null, .val (.ref va2), .val (.int (3 : Int32)), .val (.int (0 : Int32)), .unset] [(.int (3 : Int32)), (.int (0 : Int32))]))
  refine FinP.st (fun _ => XS.icmpNo X339.here hx rfl (Jvm.hb hby d_prog_4_method_3_11) rfl (igeN (by decide))) ?_
  show FinP p e below s _ _ _ (T339.setTop (mkF m 14 #[.val .null, .val (.ref va2), .val (.int (3 : Int32)), .val (.int (0 : Int32)), .unset] []))
  refine FinP.st (fun _ => XS.aloadN X339.here hx rfl (Jvm.hb hby d_prog_4_method_3_14) rfl rfl) ?_
  show FinP p e below s _ _ _ (T339.setTop (mkF m 15 #[.val .null, .val (.ref va2), .val (.int (3 : Int32)), .val (.int (0 : Int32)), .unset] [(.ref va2)]))
  refine FinP.st (fun _ => XS.iloadN X339.here hx rfl (Jvm.hb hby d_prog_4_method_3_15) rfl) ?_
  show FinP p e below s _ _ _ (T339.setTop (mkF m 16 #[.val .null, .val (.ref va2), .val (.int (3 : Int32)), .val (.int (0 : Int32)), .unset] [(.int (0 : Int32)), (.ref va2)]))
  refine FinP.st (ldR0 X339 hx hZ e339 rfl V339 (j := (0 : Int32)) (by decide) rfl (g := (mkF m 16 #[.val .null, .val (.ref va2), .val (.int (3 : Int32)), .val (.int (0 : Int32)), .unset] [(.int (0 : Int32)), (.ref va2)])) rfl rfl (Jvm.hb hby d_prog_4_method_3_16)) ?_
  show FinP p e below s _ _ _ (T339.setTop (mkF m 17 #[.val .null, .val (.ref va2), .val (.int (3 : Int32)), .val (.int (0 : Int32)), .unset] [(.ref en0)]))
  refine FinP.st (fun _ => XS.astore X339.here hx rfl (Jvm.hb hby d_prog_4_method_3_17) rfl rfl (l' := #[.val .null, .val (.ref va2), .val (.int (3 : Int32)), .val (.int (0 : Int32)), .val (.ref en0)]) rfl) ?_
  show FinP p e below s _ _ _ (T339.setTop (mkF m 19 #[.val .null, .val (.ref va2), .val (.int (3 : Int32)), .val (.int (0 : Int32)), .val (.ref en0)] []))
  refine FinP.st (fun _ => XS.aload X339.here hx rfl (Jvm.hb hby d_prog_4_method_3_19) rfl rfl) ?_
  show FinP p e below s _ _ _ (T339.setTop (mkF m 21 #[.val .null, .val (.ref va2), .val (.int (3 : Int32)), .val (.int (0 : Int32)), .val (.ref en0)] [(.ref en0)]))
  obtain ⟨T341, X341, e341, st341⟩ := getF X339 hx hZ hown (host := "") (Or.inl (hw _ (List.mem_of_getElem? (i := 67) rfl))) Via.refl e339 (Fa.ext f340.2) (g := (mkF m 21 #[.val .null, .val (.ref va2), .val (.int (3 : Int32)), .val (.int (0 : Int32)), .val (.ref en0)] [(.ref en0)])) rfl rfl (Jvm.hb hby d_prog_4_method_3_21)
  refine FinP.st st341 ?_
  show FinP p e below s _ _ _ (T341.setTop (mkF m 24 #[.val .null, .val (.ref va2), .val (.int (3 : Int32)), .val (.int (0 : Int32)), .val (.ref en0)] [(.ref s0)]))
  refine FinP.st (fun _ => XS.aloadN X341.here hx rfl (Jvm.hb hby d_prog_4_method_3_24) rfl rfl) ?_
  show FinP p e below s _ _ _ (T341.setTop (mkF m 25 #[.val .null, .val (.ref va2), .val (.int (3 : Int32)), .val (.int (0 : Int32)), .val (.ref en0)] [.null, (.ref s0)]))
  obtain ⟨_, T342, h342, L342, X342, e342, ⟨rfl, rfl, q342⟩, st342⟩ := goV X341 hx hZ hown (hw _ (List.mem_of_getElem? (i := 69) rfl)) (hw _ (List.mem_of_getElem? (i := 35) rfl)) (hw _ (List.mem_of_getElem? (i := 37) rfl)) (notFace_of_selects (args := #[]) (mvT hZ (hw _ (List.mem_of_getElem? (i := 37) rfl)))) (hw _ (List.mem_of_getElem? (i := 36) rfl)) (by decide) ((rmEqNull l Z a0 hw [] s0 h339 n0 f340).pay (W := 0) hZ (hw _ (List.mem_of_getElem? (i := 38) rfl)) (hw _ (List.mem_of_getElem? (i := 4) rfl)) (by decide) (by decide)) e341 (Na.ext f340.2).exa (g := (mkF m 25 #[.val .null, .val (.ref va2), .val (.int (3 : Int32)), .val (.int (0 : Int32)), .val (.ref en0)] [.null, (.ref s0)])) rfl (by rw [hml]; rfl) [.null] [] (lenOf pd_3 rfl) rfl (by show 2 * 0 + _ ≤ _; exact Nat.le_of_eq rfl) (Jvm.hb hby d_prog_4_method_3_25) rfl (by decide) (by decide)
  have e342 := e342.trans q342
  have N342 := N339.app (Fr.nil n0)
  refine FinP.st st342 ?_
  show FinP p e below s _ _ _ (T342.setTop (mkF m 28 #[.val .null, .val (.ref va2), .val (.int (3 : Int32)), .val (.int (0 : Int32)), .val (.ref en0)] [(.int (0 : Int32))]))
  refine FinP.st (fun _ => XS.ifYes X342.here hx rfl (pc0 := 28) (pc' := 34) rfl (Jvm.hb hby d_prog_4_method_3_28) rfl (zeq rfl) (by decide) (by decide)) ?_
  show FinP p e below s _ _ _ (T342.setTop (mkF m 34 #[.val .null, .val (.ref va2), .val (.int (3 : Int32)), .val (.int (0 : Int32)), .val (.ref en0)] []))
  refine FinP.st (fun _ => XS.iinc X342.here hx rfl (Jvm.hb hby d_prog_4_method_3_34) rfl (l' := #[.val .null, .val (.ref va2), .val (.int (3 : Int32)), .val (.int ((0 : Int32) + (1 : Int32))), .val (.ref en0)]) rfl) ?_
  show FinP p e below s _ _ _ (T342.setTop (mkF m 37 #[.val .null, .val (.ref va2), .val (.int (3 : Int32)), .val (.int ((0 : Int32) + (1 : Int32))), .val (.ref en0)] []))
  refine FinP.st (fun _ => XS.goto X342.here hx rfl (pc0 := 37) (pc' := 9) rfl (Jvm.hb hby d_prog_4_method_3_37) (by decide) (by decide)) ?_
  show FinP p e below s _ _ _ (T342.setTop (mkF m 9 #[.val .null, .val (.ref va2), .val (.int (3 : Int32)), .val (.int ((0 : Int32) + (1 : Int32))), .val (.ref en0)] []))
  refine FinP.st (fun _ => XS.iloadN X342.here hx rfl (Jvm.hb hby d_prog_4_method_3_9) rfl) ?_
  show FinP p e below s _ _ _ (T342.setTop (mkF m 10 #[.val .null, .val (.ref va2), .val (.int (3 : Int32)), .val (.int ((0 : Int32) + (1 : Int32))), .val (.ref en0)] [(.int ((0 : Int32) + (1 : Int32)))]))
  refine FinP.st (fun _ => XS.iloadN X342.here hx rfl (Jvm.hb hby d_prog_4_method_3_10) rfl) ?_
  show FinP p e below s _ _ _ (T342.setTop (mkF m 11 #[.val .null, .val (.ref va2), .val (.int (3 : Int32)), .val (.int ((0 : Int32) + (1 : Int32))), .val (.ref en0)] [(.int (3 : Int32)), (.int ((0 : Int32) + (1 : Int32)))]))
  refine FinP.st (fun _ => XS.icmpNo X342.here hx rfl (Jvm.hb hby d_prog_4_method_3_11) rfl (igeN (by decide))) ?_
  show FinP p e below s _ _ _ (T342.setTop (mkF m 14 #[.val .null, .val (.ref va2), .val (.int (3 : Int32)), .val (.int ((0 : Int32) + (1 : Int32))), .val (.ref en0)] []))
  refine FinP.st (fun _ => XS.aloadN X342.here hx rfl (Jvm.hb hby d_prog_4_method_3_14) rfl rfl) ?_
  show FinP p e below s _ _ _ (T342.setTop (mkF m 15 #[.val .null, .val (.ref va2), .val (.int (3 : Int32)), .val (.int ((0 : Int32) + (1 : Int32))), .val (.ref en0)] [(.ref va2)]))
  refine FinP.st (fun _ => XS.iloadN X342.here hx rfl (Jvm.hb hby d_prog_4_method_3_15) rfl) ?_
  show FinP p e below s _ _ _ (T342.setTop (mkF m 16 #[.val .null, .val (.ref va2), .val (.int (3 : Int32)), .val (.int ((0 : Int32) + (1 : Int32))), .val (.ref en0)] [(.int ((0 : Int32) + (1 : Int32))), (.ref va2)]))
  refine FinP.st (ldR0 X342 hx hZ e342 rfl V339 (j := ((0 : Int32) + (1 : Int32))) (by decide) rfl (g := (mkF m 16 #[.val .null, .val (.ref va2), .val (.int (3 : Int32)), .val (.int ((0 : Int32) + (1 : Int32))), .val (.ref en0)] [(.int ((0 : Int32) + (1 : Int32))), (.ref va2)])) rfl rfl (Jvm.hb hby d_prog_4_method_3_16)) ?_
  show FinP p e below s _ _ _ (T342.setTop (mkF m 17 #[.val .null, .val (.ref va2), .val (.int (3 : Int32)), .val (.int ((0 : Int32) + (1 : Int32))), .val (.ref en0)] [(.ref en1)]))
  refine FinP.st (fun _ => XS.astore X342.here hx rfl (Jvm.hb hby d_prog_4_method_3_17) rfl rfl (l' := #[.val .null, .val (.ref va2), .val (.int (3 : Int32)), .val (.int ((0 : Int32) + (1 : Int32))), .val (.ref en1)]) rfl) ?_
  show FinP p e below s _ _ _ (T342.setTop (mkF m 19 #[.val .null, .val (.ref va2), .val (.int (3 : Int32)), .val (.int ((0 : Int32) + (1 : Int32))), .val (.ref en1)] []))
  refine FinP.st (fun _ => XS.aload X342.here hx rfl (Jvm.hb hby d_prog_4_method_3_19) rfl rfl) ?_
  show FinP p e below s _ _ _ (T342.setTop (mkF m 21 #[.val .null, .val (.ref va2), .val (.int (3 : Int32)), .val (.int ((0 : Int32) + (1 : Int32))), .val (.ref en1)] [(.ref en1)]))
  obtain ⟨T343, X343, e343, st343⟩ := getF X342 hx hZ hown (host := "") (Or.inl (hw _ (List.mem_of_getElem? (i := 67) rfl))) Via.refl e342 (Fb.ext f340.2) (g := (mkF m 21 #[.val .null, .val (.ref va2), .val (.int (3 : Int32)), .val (.int ((0 : Int32) + (1 : Int32))), .val (.ref en1)] [(.ref en1)])) rfl rfl (Jvm.hb hby d_prog_4_method_3_21)
  refine FinP.st st343 ?_
  show FinP p e below s _ _ _ (T343.setTop (mkF m 24 #[.val .null, .val (.ref va2), .val (.int (3 : Int32)), .val (.int ((0 : Int32) + (1 : Int32))), .val (.ref en1)] [(.ref s1)]))
  refine FinP.st (fun _ => XS.aloadN X343.here hx rfl (Jvm.hb hby d_prog_4_method_3_24) rfl rfl) ?_
  show FinP p e below s _ _ _ (T343.setTop (mkF m 25 #[.val .null, .val (.ref va2), .val (.int (3 : Int32)), .val (.int ((0 : Int32) + (1 : Int32))), .val (.ref en1)] [.null, (.ref s1)]))
  obtain ⟨_, T344, h344, L344, X344, e344, ⟨rfl, rfl, q344⟩, st344⟩ := goV X343 hx hZ hown (hw _ (List.mem_of_getElem? (i := 69) rfl)) (hw _ (List.mem_of_getElem? (i := 35) rfl)) (hw _ (List.mem_of_getElem? (i := 37) rfl)) (notFace_of_selects (args := #[]) (mvT hZ (hw _ (List.mem_of_getElem? (i := 37) rfl)))) (hw _ (List.mem_of_getElem? (i := 36) rfl)) (by decide) ((rmEqNull l Z a0 hw [] s1 h339 n0 f340).pay (W := 0) hZ (hw _ (List.mem_of_getElem? (i := 38) rfl)) (hw _ (List.mem_of_getElem? (i := 4) rfl)) (by decide) (by decide)) e343 (Nb.ext f340.2).exa (g := (mkF m 25 #[.val .null, .val (.ref va2), .val (.int (3 : Int32)), .val (.int ((0 : Int32) + (1 : Int32))), .val (.ref en1)] [.null, (.ref s1)])) rfl (by rw [hml]; rfl) [.null] [] (lenOf pd_3 rfl) rfl (by show 2 * 0 + _ ≤ _; exact Nat.le_of_eq rfl) (Jvm.hb hby d_prog_4_method_3_25) rfl (by decide) (by decide)
  have e344 := e344.trans q344
  have N344 := N342.app (Fr.nil n0)
  refine FinP.st st344 ?_
  show FinP p e below s _ _ _ (T344.setTop (mkF m 28 #[.val .null, .val (.ref va2), .val (.int (3 : Int32)), .val (.int ((0 : Int32) + (1 : Int32))), .val (.ref en1)] [(.int (0 : Int32))]))
  refine FinP.st (fun _ => XS.ifYes X344.here hx rfl (pc0 := 28) (pc' := 34) rfl (Jvm.hb hby d_prog_4_method_3_28) rfl (zeq rfl) (by decide) (by decide)) ?_
  show FinP p e below s _ _ _ (T344.setTop (mkF m 34 #[.val .null, .val (.ref va2), .val (.int (3 : Int32)), .val (.int ((0 : Int32) + (1 : Int32))), .val (.ref en1)] []))
  refine FinP.st (fun _ => XS.iinc X344.here hx rfl (Jvm.hb hby d_prog_4_method_3_34) rfl (l' := #[.val .null, .val (.ref va2), .val (.int (3 : Int32)), .val (.int (((0 : Int32) + (1 : Int32)) + (1 : Int32))), .val (.ref en1)]) rfl) ?_
  show FinP p e below s _ _ _ (T344.setTop (mkF m 37 #[.val .null, .val (.ref va2), .val (.int (3 : Int32)), .val (.int (((0 : Int32) + (1 : Int32)) + (1 : Int32))), .val (.ref en1)] []))
  refine FinP.st (fun _ => XS.goto X344.here hx rfl (pc0 := 37) (pc' := 9) rfl (Jvm.hb hby d_prog_4_method_3_37) (by decide) (by decide)) ?_
  show FinP p e below s _ _ _ (T344.setTop (mkF m 9 #[.val .null, .val (.ref va2), .val (.int (3 : Int32)), .val (.int (((0 : Int32) + (1 : Int32)) + (1 : Int32))), .val (.ref en1)] []))
  refine FinP.st (fun _ => XS.iloadN X344.here hx rfl (Jvm.hb hby d_prog_4_method_3_9) rfl) ?_
  show FinP p e below s _ _ _ (T344.setTop (mkF m 10 #[.val .null, .val (.ref va2), .val (.int (3 : Int32)), .val (.int (((0 : Int32) + (1 : Int32)) + (1 : Int32))), .val (.ref en1)] [(.int (((0 : Int32) + (1 : Int32)) + (1 : Int32)))]))
  refine FinP.st (fun _ => XS.iloadN X344.here hx rfl (Jvm.hb hby d_prog_4_method_3_10) rfl) ?_
  show FinP p e below s _ _ _ (T344.setTop (mkF m 11 #[.val .null, .val (.ref va2), .val (.int (3 : Int32)), .val (.int (((0 : Int32) + (1 : Int32)) + (1 : Int32))), .val (.ref en1)] [(.int (3 : Int32)), (.int (((0 : Int32) + (1 : Int32)) + (1 : Int32)))]))
  refine FinP.st (fun _ => XS.icmpNo X344.here hx rfl (Jvm.hb hby d_prog_4_method_3_11) rfl (igeN (by decide))) ?_
  show FinP p e below s _ _ _ (T344.setTop (mkF m 14 #[.val .null, .val (.ref va2), .val (.int (3 : Int32)), .val (.int (((0 : Int32) + (1 : Int32)) + (1 : Int32))), .val (.ref en1)] []))
  refine FinP.st (fun _ => XS.aloadN X344.here hx rfl (Jvm.hb hby d_prog_4_method_3_14) rfl rfl) ?_
  show FinP p e below s _ _ _ (T344.setTop (mkF m 15 #[.val .null, .val (.ref va2), .val (.int (3 : Int32)), .val (.int (((0 : Int32) + (1 : Int32)) + (1 : Int32))), .val (.ref en1)] [(.ref va2)]))
  refine FinP.st (fun _ => XS.iloadN X344.here hx rfl (Jvm.hb hby d_prog_4_method_3_15) rfl) ?_
  show FinP p e below s _ _ _ (T344.setTop (mkF m 16 #[.val .null, .val (.ref va2), .val (.int (3 : Int32)), .val (.int (((0 : Int32) + (1 : Int32)) + (1 : Int32))), .val (.ref en1)] [(.int (((0 : Int32) + (1 : Int32)) + (1 : Int32))), (.ref va2)]))
  refine FinP.st (ldR0 X344 hx hZ e344 rfl V339 (j := (((0 : Int32) + (1 : Int32)) + (1 : Int32))) (by decide) rfl (g := (mkF m 16 #[.val .null, .val (.ref va2), .val (.int (3 : Int32)), .val (.int (((0 : Int32) + (1 : Int32)) + (1 : Int32))), .val (.ref en1)] [(.int (((0 : Int32) + (1 : Int32)) + (1 : Int32))), (.ref va2)])) rfl rfl (Jvm.hb hby d_prog_4_method_3_16)) ?_
  show FinP p e below s _ _ _ (T344.setTop (mkF m 17 #[.val .null, .val (.ref va2), .val (.int (3 : Int32)), .val (.int (((0 : Int32) + (1 : Int32)) + (1 : Int32))), .val (.ref en1)] [(.ref en2)]))
  refine FinP.st (fun _ => XS.astore X344.here hx rfl (Jvm.hb hby d_prog_4_method_3_17) rfl rfl (l' := #[.val .null, .val (.ref va2), .val (.int (3 : Int32)), .val (.int (((0 : Int32) + (1 : Int32)) + (1 : Int32))), .val (.ref en2)]) rfl) ?_
  show FinP p e below s _ _ _ (T344.setTop (mkF m 19 #[.val .null, .val (.ref va2), .val (.int (3 : Int32)), .val (.int (((0 : Int32) + (1 : Int32)) + (1 : Int32))), .val (.ref en2)] []))
  refine FinP.st (fun _ => XS.aload X344.here hx rfl (Jvm.hb hby d_prog_4_method_3_19) rfl rfl) ?_
  show FinP p e below s _ _ _ (T344.setTop (mkF m 21 #[.val .null, .val (.ref va2), .val (.int (3 : Int32)), .val (.int (((0 : Int32) + (1 : Int32)) + (1 : Int32))), .val (.ref en2)] [(.ref en2)]))
  obtain ⟨T345, X345, e345, st345⟩ := getF X344 hx hZ hown (host := "") (Or.inl (hw _ (List.mem_of_getElem? (i := 67) rfl))) Via.refl e344 (Fc.ext f340.2) (g := (mkF m 21 #[.val .null, .val (.ref va2), .val (.int (3 : Int32)), .val (.int (((0 : Int32) + (1 : Int32)) + (1 : Int32))), .val (.ref en2)] [(.ref en2)])) rfl rfl (Jvm.hb hby d_prog_4_method_3_21)
  refine FinP.st st345 ?_
  show FinP p e below s _ _ _ (T345.setTop (mkF m 24 #[.val .null, .val (.ref va2), .val (.int (3 : Int32)), .val (.int (((0 : Int32) + (1 : Int32)) + (1 : Int32))), .val (.ref en2)] [(.ref s2)]))
  refine FinP.st (fun _ => XS.aloadN X345.here hx rfl (Jvm.hb hby d_prog_4_method_3_24) rfl rfl) ?_
  show FinP p e below s _ _ _ (T345.setTop (mkF m 25 #[.val .null, .val (.ref va2), .val (.int (3 : Int32)), .val (.int (((0 : Int32) + (1 : Int32)) + (1 : Int32))), .val (.ref en2)] [.null, (.ref s2)]))
  obtain ⟨_, T346, h346, L346, X346, e346, ⟨rfl, rfl, q346⟩, st346⟩ := goV X345 hx hZ hown (hw _ (List.mem_of_getElem? (i := 69) rfl)) (hw _ (List.mem_of_getElem? (i := 35) rfl)) (hw _ (List.mem_of_getElem? (i := 37) rfl)) (notFace_of_selects (args := #[]) (mvT hZ (hw _ (List.mem_of_getElem? (i := 37) rfl)))) (hw _ (List.mem_of_getElem? (i := 36) rfl)) (by decide) ((rmEqNull l Z a0 hw [] s2 h339 n0 f340).pay (W := 0) hZ (hw _ (List.mem_of_getElem? (i := 38) rfl)) (hw _ (List.mem_of_getElem? (i := 4) rfl)) (by decide) (by decide)) e345 (Nc.ext f340.2).exa (g := (mkF m 25 #[.val .null, .val (.ref va2), .val (.int (3 : Int32)), .val (.int (((0 : Int32) + (1 : Int32)) + (1 : Int32))), .val (.ref en2)] [.null, (.ref s2)])) rfl (by rw [hml]; rfl) [.null] [] (lenOf pd_3 rfl) rfl (by show 2 * 0 + _ ≤ _; exact Nat.le_of_eq rfl) (Jvm.hb hby d_prog_4_method_3_25) rfl (by decide) (by decide)
  have e346 := e346.trans q346
  have N346 := N344.app (Fr.nil n0)
  refine FinP.st st346 ?_
  show FinP p e below s _ _ _ (T346.setTop (mkF m 28 #[.val .null, .val (.ref va2), .val (.int (3 : Int32)), .val (.int (((0 : Int32) + (1 : Int32)) + (1 : Int32))), .val (.ref en2)] [(.int (0 : Int32))]))
  refine FinP.st (fun _ => XS.ifYes X346.here hx rfl (pc0 := 28) (pc' := 34) rfl (Jvm.hb hby d_prog_4_method_3_28) rfl (zeq rfl) (by decide) (by decide)) ?_
  show FinP p e below s _ _ _ (T346.setTop (mkF m 34 #[.val .null, .val (.ref va2), .val (.int (3 : Int32)), .val (.int (((0 : Int32) + (1 : Int32)) + (1 : Int32))), .val (.ref en2)] []))
  refine FinP.st (fun _ => XS.iinc X346.here hx rfl (Jvm.hb hby d_prog_4_method_3_34) rfl (l' := #[.val .null, .val (.ref va2), .val (.int (3 : Int32)), .val (.int ((((0 : Int32) + (1 : Int32)) + (1 : Int32)) + (1 : Int32))), .val (.ref en2)]) rfl) ?_
  show FinP p e below s _ _ _ (T346.setTop (mkF m 37 #[.val .null, .val (.ref va2), .val (.int (3 : Int32)), .val (.int ((((0 : Int32) + (1 : Int32)) + (1 : Int32)) + (1 : Int32))), .val (.ref en2)] []))
  refine FinP.st (fun _ => XS.goto X346.here hx rfl (pc0 := 37) (pc' := 9) rfl (Jvm.hb hby d_prog_4_method_3_37) (by decide) (by decide)) ?_
  show FinP p e below s _ _ _ (T346.setTop (mkF m 9 #[.val .null, .val (.ref va2), .val (.int (3 : Int32)), .val (.int ((((0 : Int32) + (1 : Int32)) + (1 : Int32)) + (1 : Int32))), .val (.ref en2)] []))
  refine FinP.st (fun _ => XS.iloadN X346.here hx rfl (Jvm.hb hby d_prog_4_method_3_9) rfl) ?_
  show FinP p e below s _ _ _ (T346.setTop (mkF m 10 #[.val .null, .val (.ref va2), .val (.int (3 : Int32)), .val (.int ((((0 : Int32) + (1 : Int32)) + (1 : Int32)) + (1 : Int32))), .val (.ref en2)] [(.int ((((0 : Int32) + (1 : Int32)) + (1 : Int32)) + (1 : Int32)))]))
  refine FinP.st (fun _ => XS.iloadN X346.here hx rfl (Jvm.hb hby d_prog_4_method_3_10) rfl) ?_
  show FinP p e below s _ _ _ (T346.setTop (mkF m 11 #[.val .null, .val (.ref va2), .val (.int (3 : Int32)), .val (.int ((((0 : Int32) + (1 : Int32)) + (1 : Int32)) + (1 : Int32))), .val (.ref en2)] [(.int (3 : Int32)), (.int ((((0 : Int32) + (1 : Int32)) + (1 : Int32)) + (1 : Int32)))]))
  refine FinP.st (fun _ => XS.icmpYes X346.here hx rfl (pc0 := 11) (pc' := 40) rfl (Jvm.hb hby d_prog_4_method_3_11) rfl (ige (by decide)) (by decide) (by decide)) ?_
  show FinP p e below s _ _ _ (T346.setTop (mkF m 40 #[.val .null, .val (.ref va2), .val (.int (3 : Int32)), .val (.int ((((0 : Int32) + (1 : Int32)) + (1 : Int32)) + (1 : Int32))), .val (.ref en2)] []))
  refine FinP.st (fun _ => XS.aconstNull X346.here hx rfl (Jvm.hb hby d_prog_4_method_3_40)) ?_
  show FinP p e below s _ _ _ (T346.setTop (mkF m 41 #[.val .null, .val (.ref va2), .val (.int (3 : Int32)), .val (.int ((((0 : Int32) + (1 : Int32)) + (1 : Int32)) + (1 : Int32))), .val (.ref en2)] [.null]))
  have f347 := KP0.trans K339 (all0)
  exact finA X346 hx hlk hret rfl rfl rfl (Jvm.hb hby d_prog_4_method_3_41) e346 ⟨rfl, N346, f347⟩ (by decide) (by decide)
theorem remN {x n : Int32} (hn : 0 < n) : ∃ r : Int32, (x &&& 2147483647) % n = r ∧ ¬ r < 0 ∧ r < n := by
  refine ⟨_, rfl, ?_⟩
  have h := c_mask x 2147483647 31 (by decide) (by decide)
  have h6 : ((x &&& 2147483647) % n).toInt = (x.toInt % (2 ^ 31 : Nat)).tmod n.toInt := by rw [Int32.toInt_mod, h]
  have h7 : (0 : Int) ≤ x.toInt % (2 ^ 31 : Nat) := by omega
  rw [Int32.lt_iff_toInt_lt] at hn
  have h0 : (0 : Int32).toInt = 0 := rfl
  rw [h0] at hn
  rw [Int.tmod_eq_emod_of_nonneg h7] at h6
  have h8 := Int.emod_nonneg (x.toInt % (2 ^ 31 : Nat)) (b := n.toInt) (by omega)
  have h9 := Int.emod_lt_of_pos (x.toInt % (2 ^ 31 : Nat)) hn
  rw [Int32.lt_iff_toInt_lt, Int32.lt_iff_toInt_lt, h0, h6]
  omega
theorem nlt {r : Int32} {n : Nat} {N : Int32} (hN : N.toNatClampNeg = n) (h0 : ¬ r < 0) (h1 : r < N) : r.toNatClampNeg < n := by
  rw [Int32.lt_iff_toInt_lt] at h0 h1
  have e : (0 : Int32).toInt = 0 := rfl
  simp only [Int32.toNatClampNeg] at hN ⊢
  omega
theorem set_ok {cs : List Int32} {i : Nat} {r : Int32} (h : ∀ c ∈ cs, ¬ c < 0 ∧ ¬ (255 : Int32) < c) (hr : ¬ r < 0 ∧ ¬ (255 : Int32) < r) : ∀ c ∈ cs.set i r, ¬ c < 0 ∧ ¬ (255 : Int32) < c := fun c hc => by
  rcases List.mem_or_eq_of_mem_set hc with q | q
  · exact h c q
  · rw [q]; exact hr
theorem pd_4 : parseMethodDescriptor "(Ljava/lang/String;)Lcom/example/grantwell/grantwell/server/AuthMethod;" = some ⟨[(.object "java/lang/String")], some (.object "com/example/grantwell/grantwell/server/AuthMethod")⟩ := by decide +kernel
theorem pd_5 : parseMethodDescriptor "(II)Ljava/lang/String;" = some ⟨[.int, .int], some (.object "java/lang/String")⟩ := by decide +kernel
set_option maxRecDepth 65536 in
set_option maxHeartbeats 40000000 in
theorem rmLaw (l : Launch) (Z : State) (a0 : Array Value) (hw : ∀ d ∈ tables_1, d.before a0 Z = true) (ws : List Jvm.Cond) (p1 p2 p3 p4 cz : Int32) (va : Addr) (cv : Cell) (en0 en1 en2 s0 s1 s2 u0 u1 u2 : Addr) (h0 : Heap) (n0 : Nat) (O : Old Z n0 h0) (SC : Sta Z Z.heap "java/lang/String" "COMPACT_STRINGS" "Z" (.int cz)) (hcz : ¬ cz = 0) (EN : Enm Z va cv en0 en1 en2 s0 s1 s2 u0 u1 u2) (Ta : Sta Z Z.heap "com/example/grantwell/grantwell/server/AuthMethod" "CLIENT_SECRET_BASIC" "Lcom/example/grantwell/grantwell/server/AuthMethod;" (.ref en0)) (Tb : Sta Z Z.heap "com/example/grantwell/grantwell/server/AuthMethod" "CLIENT_SECRET_POST" "Lcom/example/grantwell/grantwell/server/AuthMethod;" (.ref en1)) (Tc : Sta Z Z.heap "com/example/grantwell/grantwell/server/AuthMethod" "NONE" "Lcom/example/grantwell/grantwell/server/AuthMethod;" (.ref en2)) :
    ConW l Z EL h0 x code maxLocals ret ws room_1 #[(.int p1), (.int p2), (.int p3), (.int p4)] (fun v h L => v = some (.int 1) ∧ Fr n0 L) := by
  refine ConW.of (plainFor_of_name pn_1) (f0 := fun m => (mkF m 0 #[.val (.int p1), .val (.int p2), .val (.int p3), .val (.int p4), .unset, .unset, .unset, .unset, .unset, .unset] [])) (fun m => by first | (simp [entryFrame, mkF, argsToLocals, Value.category, maxLocals]; done) | rfl) ?_
  intro p e s m below meth c T0 vm0 hx hby hml hown hnm hret hlk hZ X0 e0 B0 CH0 hZs
  have hEL := own_EW hw
  have hml : c.maxLocals = 10 := hml
  have hown : (s.setVm vm0).vm.findClass "com/example/grantwell/grantwell/server/AuthMethodNamedPinLaw" = some m.cls := hown
  have N0 := Fr.nil n0
  show FinW p e below s Z EL h0 _ _ _ (T0.setTop (mkF m 0 #[.val (.int p1), .val (.int p2), .val (.int p3), .val (.int p4), .unset, .unset, .unset, .unset, .unset, .unset] []))
  refine FinW.st (fun _ => XS.iloadN X0.here hx rfl (Jvm.hb hby at_0) rfl) ?_
  show FinW p e below s Z EL h0 _ _ _ (T0.setTop (mkF m 1 #[.val (.int p1), .val (.int p2), .val (.int p3), .val (.int p4), .unset, .unset, .unset, .unset, .unset, .unset] [(.int p1)]))
  refine FinW.st (fun _ => X0.ldcI hx hown (mvT hZ (hw _ (List.mem_of_getElem? (i := 0) rfl))) rfl (Jvm.hb hby at_1)) ?_
  show FinW p e below s Z EL h0 _ _ _ (T0.setTop (mkF m 3 #[.val (.int p1), .val (.int p2), .val (.int p3), .val (.int p4), .unset, .unset, .unset, .unset, .unset, .unset] [(.int (2147483647 : Int32)), (.int p1)]))
  refine FinW.st (fun _ => XS.iand X0.here hx rfl (Jvm.hb hby at_3) rfl) ?_
  show FinW p e below s Z EL h0 _ _ _ (T0.setTop (mkF m 4 #[.val (.int p1), .val (.int p2), .val (.int p3), .val (.int p4), .unset, .unset, .unset, .unset, .unset, .unset] [(.int (p1 &&& (2147483647 : Int32)))]))
  refine FinW.st (fun _ => XS.iconst X0.here hx rfl (Jvm.hb hby at_4)) ?_
  show FinW p e below s Z EL h0 _ _ _ (T0.setTop (mkF m 5 #[.val (.int p1), .val (.int p2), .val (.int p3), .val (.int p4), .unset, .unset, .unset, .unset, .unset, .unset] [(.int (5 : Int32)), (.int (p1 &&& (2147483647 : Int32)))]))
  refine FinW.st (fun _ => iremM X0 hx rfl (Jvm.hb hby at_5) rfl (by decide)) ?_
  show FinW p e below s Z EL h0 _ _ _ (T0.setTop (mkF m 6 #[.val (.int p1), .val (.int p2), .val (.int p3), .val (.int p4), .unset, .unset, .unset, .unset, .unset, .unset] [(.int ((p1 &&& (2147483647 : Int32)) % (5 : Int32)))]))
  obtain ⟨m1, hm1, hm5⟩ := rem5 p1
  rw [hm1]
  show FinW p e below s Z EL h0 _ _ _ (T0.setTop (mkF m 6 #[.val (.int p1), .val (.int p2), .val (.int p3), .val (.int p4), .unset, .unset, .unset, .unset, .unset, .unset] [(.int m1)]))
  refine FinW.st (fun _ => XS.istore X0.here hx rfl (Jvm.hb hby at_6) rfl (l' := #[.val (.int p1), .val (.int p2), .val (.int p3), .val (.int p4), .val (.int m1), .unset, .unset, .unset, .unset, .unset]) rfl) ?_
  show FinW p e below s Z EL h0 _ _ _ (T0.setTop (mkF m 8 #[.val (.int p1), .val (.int p2), .val (.int p3), .val (.int p4), .val (.int m1), .unset, .unset, .unset, .unset, .unset] []))
  refine FinW.st (fun _ => XS.iloadN X0.here hx rfl (Jvm.hb hby at_8) rfl) ?_
  show FinW p e below s Z EL h0 _ _ _ (T0.setTop (mkF m 9 #[.val (.int p1), .val (.int p2), .val (.int p3), .val (.int p4), .val (.int m1), .unset, .unset, .unset, .unset, .unset] [(.int p2)]))
  refine FinW.st (fun _ => X0.ldcI hx hown (mvT hZ (hw _ (List.mem_of_getElem? (i := 0) rfl))) rfl (Jvm.hb hby at_9)) ?_
  show FinW p e below s Z EL h0 _ _ _ (T0.setTop (mkF m 11 #[.val (.int p1), .val (.int p2), .val (.int p3), .val (.int p4), .val (.int m1), .unset, .unset, .unset, .unset, .unset] [(.int (2147483647 : Int32)), (.int p2)]))
  refine FinW.st (fun _ => XS.iand X0.here hx rfl (Jvm.hb hby at_11) rfl) ?_
  show FinW p e below s Z EL h0 _ _ _ (T0.setTop (mkF m 12 #[.val (.int p1), .val (.int p2), .val (.int p3), .val (.int p4), .val (.int m1), .unset, .unset, .unset, .unset, .unset] [(.int (p2 &&& (2147483647 : Int32)))]))
  refine FinW.st (fun _ => XS.istore X0.here hx rfl (Jvm.hb hby at_12) rfl (l' := #[.val (.int p1), .val (.int p2), .val (.int p3), .val (.int p4), .val (.int m1), .val (.int (p2 &&& (2147483647 : Int32))), .unset, .unset, .unset, .unset]) rfl) ?_
  show FinW p e below s Z EL h0 _ _ _ (T0.setTop (mkF m 14 #[.val (.int p1), .val (.int p2), .val (.int p3), .val (.int p4), .val (.int m1), .val (.int (p2 &&& (2147483647 : Int32))), .unset, .unset, .unset, .unset] []))
  refine FinW.st (fun _ => XS.iloadN X0.here hx rfl (Jvm.hb hby at_14) rfl) ?_
  show FinW p e below s Z EL h0 _ _ _ (T0.setTop (mkF m 15 #[.val (.int p1), .val (.int p2), .val (.int p3), .val (.int p4), .val (.int m1), .val (.int (p2 &&& (2147483647 : Int32))), .unset, .unset, .unset, .unset] [(.int p3)]))
  refine FinW.st (fun _ => XS.sipush X0.here hx rfl (Jvm.hb hby at_15)) ?_
  show FinW p e below s Z EL h0 _ _ _ (T0.setTop (mkF m 18 #[.val (.int p1), .val (.int p2), .val (.int p3), .val (.int p4), .val (.int m1), .val (.int (p2 &&& (2147483647 : Int32))), .unset, .unset, .unset, .unset] [(.int (256 : Int32)), (.int p3)]))
  refine FinW.st (fun _ => XS.iand X0.here hx rfl (Jvm.hb hby at_18) rfl) ?_
  show FinW p e below s Z EL h0 _ _ _ (T0.setTop (mkF m 19 #[.val (.int p1), .val (.int p2), .val (.int p3), .val (.int p4), .val (.int m1), .val (.int (p2 &&& (2147483647 : Int32))), .unset, .unset, .unset, .unset] [(.int (p3 &&& (256 : Int32)))]))
  refine join1W (α := Int32) (P := fun mu => True) (A := fun mu => T0.setTop (mkF m 27 #[.val (.int p1), .val (.int p2), .val (.int p3), .val (.int p4), .val (.int m1), .val (.int (p2 &&& (2147483647 : Int32))), .unset, .unset, .unset, .unset] [(.int mu)])) ?_ ?_
  · rintro mu -
    show FinW p e below s Z EL h0 _ _ _ (T0.setTop (mkF m 27 #[.val (.int p1), .val (.int p2), .val (.int p3), .val (.int p4), .val (.int m1), .val (.int (p2 &&& (2147483647 : Int32))), .unset, .unset, .unset, .unset] [(.int mu)]))
    refine FinW.st (fun _ => XS.istore X0.here hx rfl (Jvm.hb hby at_27) rfl (l' := #[.val (.int p1), .val (.int p2), .val (.int p3), .val (.int p4), .val (.int m1), .val (.int (p2 &&& (2147483647 : Int32))), .val (.int mu), .unset, .unset, .unset]) rfl) ?_
    show FinW p e below s Z EL h0 _ _ _ (T0.setTop (mkF m 29 #[.val (.int p1), .val (.int p2), .val (.int p3), .val (.int p4), .val (.int m1), .val (.int (p2 &&& (2147483647 : Int32))), .val (.int mu), .unset, .unset, .unset] []))
    refine FinW.st (fun _ => XS.iloadN X0.here hx rfl (Jvm.hb hby at_29) rfl) ?_
    show FinW p e below s Z EL h0 _ _ _ (T0.setTop (mkF m 30 #[.val (.int p1), .val (.int p2), .val (.int p3), .val (.int p4), .val (.int m1), .val (.int (p2 &&& (2147483647 : Int32))), .val (.int mu), .unset, .unset, .unset] [(.int p3)]))
    refine FinW.st (fun _ => XS.sipush X0.here hx rfl (Jvm.hb hby at_30)) ?_
    show FinW p e below s Z EL h0 _ _ _ (T0.setTop (mkF m 33 #[.val (.int p1), .val (.int p2), .val (.int p3), .val (.int p4), .val (.int m1), .val (.int (p2 &&& (2147483647 : Int32))), .val (.int mu), .unset, .unset, .unset] [(.int (255 : Int32)), (.int p3)]))
    refine FinW.st (fun _ => XS.iand X0.here hx rfl (Jvm.hb hby at_33) rfl) ?_
    show FinW p e below s Z EL h0 _ _ _ (T0.setTop (mkF m 34 #[.val (.int p1), .val (.int p2), .val (.int p3), .val (.int p4), .val (.int m1), .val (.int (p2 &&& (2147483647 : Int32))), .val (.int mu), .unset, .unset, .unset] [(.int (p3 &&& (255 : Int32)))]))
    refine FinW.st (fun _ => XS.i2c X0.here hx rfl (Jvm.hb hby at_34) rfl) ?_
    show FinW p e below s Z EL h0 _ _ _ (T0.setTop (mkF m 35 #[.val (.int p1), .val (.int p2), .val (.int p3), .val (.int p4), .val (.int m1), .val (.int (p2 &&& (2147483647 : Int32))), .val (.int mu), .unset, .unset, .unset] [(.int (chr (p3 &&& (255 : Int32))))]))
    obtain ⟨rp, hrp, lrp, urp, wrp⟩ := chr_255 p3
    rw [hrp]
    show FinW p e below s Z EL h0 _ _ _ (T0.setTop (mkF m 35 #[.val (.int p1), .val (.int p2), .val (.int p3), .val (.int p4), .val (.int m1), .val (.int (p2 &&& (2147483647 : Int32))), .val (.int mu), .unset, .unset, .unset] [(.int rp)]))
    refine FinW.st (fun _ => XS.istore X0.here hx rfl (Jvm.hb hby at_35) rfl (l' := #[.val (.int p1), .val (.int p2), .val (.int p3), .val (.int p4), .val (.int m1), .val (.int (p2 &&& (2147483647 : Int32))), .val (.int mu), .val (.int rp), .unset, .unset]) rfl) ?_
    show FinW p e below s Z EL h0 _ _ _ (T0.setTop (mkF m 37 #[.val (.int p1), .val (.int p2), .val (.int p3), .val (.int p4), .val (.int m1), .val (.int (p2 &&& (2147483647 : Int32))), .val (.int mu), .val (.int rp), .unset, .unset] []))
    refine FinW.st (fun _ => XS.iload X0.here hx rfl (Jvm.hb hby at_37) rfl) ?_
    show FinW p e below s Z EL h0 _ _ _ (T0.setTop (mkF m 39 #[.val (.int p1), .val (.int p2), .val (.int p3), .val (.int p4), .val (.int m1), .val (.int (p2 &&& (2147483647 : Int32))), .val (.int mu), .val (.int rp), .unset, .unset] [(.int m1)]))
    refine joinHW (α := Addr × Slot) (P := fun a T348 h348 L348 vm348 => (Stand p l e room_1 (s.setVm vm348) m #[(.int p1), (.int p2), (.int p3), (.int p4)] below meth c T348 L348 10 100) ∧ (T348.heap = h348) ∧ (Fr n0 L348) ∧ (Old Z n0 h348) ∧ ((∃ t cs, Str Z h348 a.1 t cs) ∧ One a.2) ∧ (Snc s vm348 h348) ∧ (CHr Z EL s.vm h0 vm348 h348) ∧ (Z.Warmed39 (s.setVm vm348).vm) ∧ ((s.setVm vm348).vm.findClass "com/example/grantwell/grantwell/server/AuthMethodNamedPinLaw" = some m.cls)) (A := fun a T348 => T348.setTop (mkF m 413 #[.val (.int p1), .val (.int p2), .val (.int p3), .val (.int p4), .val (.int m1), .val (.int (p2 &&& (2147483647 : Int32))), .val (.int mu), .val (.int rp), .val (.ref a.1), a.2] [])) ?_ ?_
    · rintro a T348 h348 L348 vm348 ⟨X348, e348, N348, O348, ⟨⟨t, cs, S1⟩, hone⟩, B348, CH348, hZ348, hown348⟩
      show FinW p e below s Z EL h0 _ _ _ (T348.setTop (mkF m 413 #[.val (.int p1), .val (.int p2), .val (.int p3), .val (.int p4), .val (.int m1), .val (.int (p2 &&& (2147483647 : Int32))), .val (.int mu), .val (.int rp), .val (.ref a.1), a.2] []))
      refine FinW.st (fun _ => XS.aconstNull X348.here hx rfl (Jvm.hb hby at_413)) ?_
      show FinW p e below s Z EL h0 _ _ _ (T348.setTop (mkF m 414 #[.val (.int p1), .val (.int p2), .val (.int p3), .val (.int p4), .val (.int m1), .val (.int (p2 &&& (2147483647 : Int32))), .val (.int mu), .val (.int rp), .val (.ref a.1), a.2] [.null]))
      refine FinW.st (fun _ => XS.astoreS X348.here hx rfl (Jvm.hb hby at_414) rfl rfl rfl rfl hone) ?_
      show FinW p e below s Z EL h0 _ _ _ (T348.setTop (mkF m 416 #[.val (.int p1), .val (.int p2), .val (.int p3), .val (.int p4), .val (.int m1), .val (.int (p2 &&& (2147483647 : Int32))), .val (.int mu), .val (.int rp), .val (.ref a.1), .val .null] []))
      refine FinW.st (fun _ => XS.aload X348.here hx rfl (Jvm.hb hby at_416) rfl rfl) ?_
      show FinW p e below s Z EL h0 _ _ _ (T348.setTop (mkF m 418 #[.val (.int p1), .val (.int p2), .val (.int p3), .val (.int p4), .val (.int m1), .val (.int (p2 &&& (2147483647 : Int32))), .val (.int mu), .val (.int rp), .val (.ref a.1), .val .null] [(.ref a.1)]))
      refine FinW.st (fun _ => XS.ifnullNo X348.here hx rfl (Jvm.hb hby at_418) rfl) ?_
      show FinW p e below s Z EL h0 _ _ _ (T348.setTop (mkF m 421 #[.val (.int p1), .val (.int p2), .val (.int p3), .val (.int p4), .val (.int m1), .val (.int (p2 &&& (2147483647 : Int32))), .val (.int mu), .val (.int rp), .val (.ref a.1), .val .null] []))
      refine FinW.st (fun _ => XS.aload X348.here hx rfl (Jvm.hb hby at_421) rfl rfl) ?_
      show FinW p e below s Z EL h0 _ _ _ (T348.setTop (mkF m 423 #[.val (.int p1), .val (.int p2), .val (.int p3), .val (.int p4), .val (.int m1), .val (.int (p2 &&& (2147483647 : Int32))), .val (.int mu), .val (.int rp), .val (.ref a.1), .val .null] [(.ref a.1)]))
      obtain ⟨a349, T349, h349, t349, kk349, X349, e349, E349, B349, hZ349, hown349, A349, C349, V349, D349, CH349, SF349, st349⟩ := ldcRd X348 hx hZ348 hown348 (hw _ (List.mem_of_getElem? (i := 31) rfl)) (own_wS hw) e348 B348 hEL (by decide) CH348 (vs := (([99, 108, 105, 101, 110, 116, 95, 115, 101, 99, 114, 101, 116, 95, 98, 97, 115, 105, 99] : List Int32).map fun c => c.toInt8.toInt32).map Value.int) (z := Int32.ofNat 19) (by decide +kernel) (by decide) rfl (g := (mkF m 423 #[.val (.int p1), .val (.int p2), .val (.int p3), .val (.int p4), .val (.int m1), .val (.int (p2 &&& (2147483647 : Int32))), .val (.int mu), .val (.int rp), .val (.ref a.1), .val .null] [(.ref a.1)])) rfl (Jvm.hb hby at_423) (n := 76) (by decide +kernel) (by decide) (by decide) (by decide)
      refine FinW.st st349 ?_
      have S349 : Str Z h349 a349 t349 ([99, 108, 105, 101, 110, 116, 95, 115, 101, 99, 114, 101, 116, 95, 98, 97, 115, 105, 99] : List Int32) := ⟨A349, C349, V349, ⟨kk349, D349⟩, by decide, by decide⟩
      show FinW p e below s Z EL h0 _ _ _ (T349.setTop (mkF m 425 #[.val (.int p1), .val (.int p2), .val (.int p3), .val (.int p4), .val (.int m1), .val (.int (p2 &&& (2147483647 : Int32))), .val (.int mu), .val (.int rp), .val (.ref a.1), .val .null] [(.ref a349), (.ref a.1)]))
      have f350 := S1.ext E349
      have f351 := O348.ext E349
      obtain ⟨_, T352, h352, L352, X352, e352, ⟨rfl, rfl, q352⟩, st352⟩ := goV X349 hx hZ349 hown349 (hw _ (List.mem_of_getElem? (i := 34) rfl)) (hw _ (List.mem_of_getElem? (i := 35) rfl)) (hw _ (List.mem_of_getElem? (i := 37) rfl)) (notFace_of_selects (args := #[]) (mvT hZ349 (hw _ (List.mem_of_getElem? (i := 37) rfl)))) (hw _ (List.mem_of_getElem? (i := 36) rfl)) (by decide) (strEq (len := 3) (W := 0) hZ349 hw (hw _ (List.mem_of_getElem? (i := 3) rfl)) f350 S349 (SC.ext f351.2) hcz (by decide) (by decide)) e349 f350.exa (g := (mkF m 425 #[.val (.int p1), .val (.int p2), .val (.int p3), .val (.int p4), .val (.int m1), .val (.int (p2 &&& (2147483647 : Int32))), .val (.int mu), .val (.int rp), .val (.ref a.1), .val .null] [(.ref a349), (.ref a.1)])) rfl (by rw [hml]; rfl) [(.ref a349)] [] (lenOf pd_3 rfl) rfl (by show 2 * 0 + _ ≤ _; exact Nat.le_of_eq rfl) (Jvm.hb hby at_425) rfl (by decide) (by decide)
      have e352 := e352.trans q352
      have N352 := N348.app (Fr.nil n0)
      refine FinW.st st352 ?_
      show FinW p e below s Z EL h0 _ _ _ (T352.setTop (mkF m 428 #[.val (.int p1), .val (.int p2), .val (.int p3), .val (.int p4), .val (.int m1), .val (.int (p2 &&& (2147483647 : Int32))), .val (.int mu), .val (.int rp), .val (.ref a.1), .val .null] [(.int (if cs = nm0 then (1 : Int32) else 0))]))
      by_cases hc0 : cs = nm0
      · skip
        rw [if_pos hc0]
        show FinW p e below s Z EL h0 _ _ _ (T352.setTop (mkF m 428 #[.val (.int p1), .val (.int p2), .val (.int p3), .val (.int p4), .val (.int m1), .val (.int (p2 &&& (2147483647 : Int32))), .val (.int mu), .val (.int rp), .val (.ref a.1), .val .null] [(.int (1 : Int32))]))
        refine FinW.st (fun _ => XS.ifNo X352.here hx rfl (Jvm.hb hby at_428) rfl (zeqN (by decide))) ?_
        show FinW p e below s Z EL h0 _ _ _ (T352.setTop (mkF m 431 #[.val (.int p1), .val (.int p2), .val (.int p3), .val (.int p4), .val (.int m1), .val (.int (p2 &&& (2147483647 : Int32))), .val (.int mu), .val (.int rp), .val (.ref a.1), .val .null] []))
        obtain ⟨T353, X353, e353, st353⟩ := getS (host := "") X352 hx hZ349 hown349 (hw _ (List.mem_of_getElem? (i := 44) rfl)) Via.refl e352 (Ta.ext f351.2) (g := (mkF m 431 #[.val (.int p1), .val (.int p2), .val (.int p3), .val (.int p4), .val (.int m1), .val (.int (p2 &&& (2147483647 : Int32))), .val (.int mu), .val (.int rp), .val (.ref a.1), .val .null] [])) rfl (Jvm.hb hby at_431)
        refine FinW.st st353 ?_
        show FinW p e below s Z EL h0 _ _ _ (T353.setTop (mkF m 434 #[.val (.int p1), .val (.int p2), .val (.int p3), .val (.int p4), .val (.int m1), .val (.int (p2 &&& (2147483647 : Int32))), .val (.int mu), .val (.int rp), .val (.ref a.1), .val .null] [(.ref en0)]))
        refine FinW.st (fun _ => XS.astore X353.here hx rfl (Jvm.hb hby at_434) rfl rfl (l' := #[.val (.int p1), .val (.int p2), .val (.int p3), .val (.int p4), .val (.int m1), .val (.int (p2 &&& (2147483647 : Int32))), .val (.int mu), .val (.int rp), .val (.ref a.1), .val (.ref en0)]) rfl) ?_
        show FinW p e below s Z EL h0 _ _ _ (T353.setTop (mkF m 436 #[.val (.int p1), .val (.int p2), .val (.int p3), .val (.int p4), .val (.int m1), .val (.int (p2 &&& (2147483647 : Int32))), .val (.int mu), .val (.int rp), .val (.ref a.1), .val (.ref en0)] []))
        refine FinW.st (fun _ => XS.goto X353.here hx rfl (pc0 := 436) (pc' := 472) rfl (Jvm.hb hby at_436) (by decide) (by decide)) ?_
        show FinW p e below s Z EL h0 _ _ _ (T353.setTop (mkF m 472 #[.val (.int p1), .val (.int p2), .val (.int p3), .val (.int p4), .val (.int m1), .val (.int (p2 &&& (2147483647 : Int32))), .val (.int mu), .val (.int rp), .val (.ref a.1), .val (.ref en0)] []))
        refine FinW.st (fun _ => XS.aload X353.here hx rfl (Jvm.hb hby at_472) rfl rfl) ?_
        show FinW p e below s Z EL h0 _ _ _ (T353.setTop (mkF m 474 #[.val (.int p1), .val (.int p2), .val (.int p3), .val (.int p4), .val (.int m1), .val (.int (p2 &&& (2147483647 : Int32))), .val (.int mu), .val (.int rp), .val (.ref a.1), .val (.ref en0)] [(.ref a.1)]))
        obtain ⟨_, T354, h354, L354, X354, e354, ⟨rfl, Nq354, K354⟩, st354⟩ := goS X353 hx hZ349 hown349 (hw _ (List.mem_of_getElem? (i := 47) rfl)) (hw _ (List.mem_of_getElem? (i := 48) rfl)) (hw _ (List.mem_of_getElem? (i := 45) rfl)) (hw _ (List.mem_of_getElem? (i := 49) rfl)) (by decide) ((rmNamed l Z a0 hw [] a.1 t cs cz va cv en0 en1 en2 s0 s1 s2 u0 u1 u2 h349 n0 f351 SC hcz f350 EN).pay (W := 0) hZ349 (hw _ (List.mem_of_getElem? (i := 49) rfl)) (hw _ (List.mem_of_getElem? (i := 45) rfl)) (by decide) (by decide)) e353 (g := (mkF m 474 #[.val (.int p1), .val (.int p2), .val (.int p3), .val (.int p4), .val (.int m1), .val (.int (p2 &&& (2147483647 : Int32))), .val (.int mu), .val (.int rp), .val (.ref a.1), .val (.ref en0)] [(.ref a.1)])) rfl (by rw [hml]; rfl) [(.ref a.1)] [] (lenOf pd_4 rfl) rfl (by show 2 * 0 + _ ≤ _; exact Nat.le_of_eq rfl) (Jvm.hb hby at_474) rfl (by decide) (by decide)
        have N354 := N352.app Nq354
        refine FinW.st st354 ?_
        have CH355 := CH349.trans (CHr.keep K354 sf0 CH349.1)
        show FinW p e below s Z EL h0 _ _ _ (T354.setTop (mkF m 477 #[.val (.int p1), .val (.int p2), .val (.int p3), .val (.int p4), .val (.int m1), .val (.int (p2 &&& (2147483647 : Int32))), .val (.int mu), .val (.int rp), .val (.ref a.1), .val (.ref en0)] [(if cs = nm0 then .ref en0 else if cs = nm1 then .ref en1 else if cs = nm2 then .ref en2 else .null)]))
        rw [if_pos hc0]
        show FinW p e below s Z EL h0 _ _ _ (T354.setTop (mkF m 477 #[.val (.int p1), .val (.int p2), .val (.int p3), .val (.int p4), .val (.int m1), .val (.int (p2 &&& (2147483647 : Int32))), .val (.int mu), .val (.int rp), .val (.ref a.1), .val (.ref en0)] [(.ref en0)]))
        refine FinW.st (fun _ => XS.aload X354.here hx rfl (Jvm.hb hby at_477) rfl rfl) ?_
        show FinW p e below s Z EL h0 _ _ _ (T354.setTop (mkF m 479 #[.val (.int p1), .val (.int p2), .val (.int p3), .val (.int p4), .val (.int m1), .val (.int (p2 &&& (2147483647 : Int32))), .val (.int mu), .val (.int rp), .val (.ref a.1), .val (.ref en0)] [(.ref en0), (.ref en0)]))
        refine FinW.st (fun _ => Jvm.RoadKit.acmp (g := (mkF m 479 #[.val (.int p1), .val (.int p2), .val (.int p3), .val (.int p4), .val (.int m1), .val (.int (p2 &&& (2147483647 : Int32))), .val (.int mu), .val (.int rp), .val (.ref a.1), .val (.ref en0)] [(.ref en0), (.ref en0)])) X354 hx rfl rfl rfl (pc0 := 479) (pc' := 482) (same := true) rfl (Jvm.hb hby at_479) rfl (decide_eq_true rfl) (by decide) (by decide)) ?_
        show FinW p e below s Z EL h0 _ _ _ (T354.setTop (mkF m 482 #[.val (.int p1), .val (.int p2), .val (.int p3), .val (.int p4), .val (.int m1), .val (.int (p2 &&& (2147483647 : Int32))), .val (.int mu), .val (.int rp), .val (.ref a.1), .val (.ref en0)] []))
        refine FinW.st (fun _ => XS.iconst X354.here hx rfl (Jvm.hb hby at_482)) ?_
        show FinW p e below s Z EL h0 _ _ _ (T354.setTop (mkF m 483 #[.val (.int p1), .val (.int p2), .val (.int p3), .val (.int p4), .val (.int m1), .val (.int (p2 &&& (2147483647 : Int32))), .val (.int mu), .val (.int rp), .val (.ref a.1), .val (.ref en0)] [(.int (1 : Int32))]))
        refine FinW.st (fun _ => XS.goto X354.here hx rfl (pc0 := 483) (pc' := 487) rfl (Jvm.hb hby at_483) (by decide) (by decide)) ?_
        show FinW p e below s Z EL h0 _ _ _ (T354.setTop (mkF m 487 #[.val (.int p1), .val (.int p2), .val (.int p3), .val (.int p4), .val (.int m1), .val (.int (p2 &&& (2147483647 : Int32))), .val (.int mu), .val (.int rp), .val (.ref a.1), .val (.ref en0)] [(.int (1 : Int32))]))
        have f356 := B349.keep K354
        exact finNW X354 hx hlk hret (t := .boolean) (by simp) (Jvm.hb hby at_487) e354 hZ349 hEL f356 CH355 ⟨rfl, N354⟩ (by decide) (by decide)
      · skip
        rw [if_neg hc0]
        show FinW p e below s Z EL h0 _ _ _ (T352.setTop (mkF m 428 #[.val (.int p1), .val (.int p2), .val (.int p3), .val (.int p4), .val (.int m1), .val (.int (p2 &&& (2147483647 : Int32))), .val (.int mu), .val (.int rp), .val (.ref a.1), .val .null] [(.int (0 : Int32))]))
        refine FinW.st (fun _ => XS.ifYes X352.here hx rfl (pc0 := 428) (pc' := 439) rfl (Jvm.hb hby at_428) rfl (zeq rfl) (by decide) (by decide)) ?_
        show FinW p e below s Z EL h0 _ _ _ (T352.setTop (mkF m 439 #[.val (.int p1), .val (.int p2), .val (.int p3), .val (.int p4), .val (.int m1), .val (.int (p2 &&& (2147483647 : Int32))), .val (.int mu), .val (.int rp), .val (.ref a.1), .val .null] []))
        refine FinW.st (fun _ => XS.aload X352.here hx rfl (Jvm.hb hby at_439) rfl rfl) ?_
        show FinW p e below s Z EL h0 _ _ _ (T352.setTop (mkF m 441 #[.val (.int p1), .val (.int p2), .val (.int p3), .val (.int p4), .val (.int m1), .val (.int (p2 &&& (2147483647 : Int32))), .val (.int mu), .val (.int rp), .val (.ref a.1), .val .null] [(.ref a.1)]))
        obtain ⟨a357, T357, h357, t357, kk357, X357, e357, E357, B357, hZ357, hown357, A357, C357, V357, D357, CH357, SF357, st357⟩ := ldcRd X352 hx hZ349 hown349 (hw _ (List.mem_of_getElem? (i := 70) rfl)) (own_wS hw) e352 B349 hEL (by decide) CH349 (vs := (([99, 108, 105, 101, 110, 116, 95, 115, 101, 99, 114, 101, 116, 95, 112, 111, 115, 116] : List Int32).map fun c => c.toInt8.toInt32).map Value.int) (z := Int32.ofNat 18) (by decide +kernel) (by decide) rfl (g := (mkF m 441 #[.val (.int p1), .val (.int p2), .val (.int p3), .val (.int p4), .val (.int m1), .val (.int (p2 &&& (2147483647 : Int32))), .val (.int mu), .val (.int rp), .val (.ref a.1), .val .null] [(.ref a.1)])) rfl (Jvm.hb hby at_441) (n := 72) (by decide +kernel) (by decide) (by decide) (by decide)
        refine FinW.st st357 ?_
        have S357 : Str Z h357 a357 t357 ([99, 108, 105, 101, 110, 116, 95, 115, 101, 99, 114, 101, 116, 95, 112, 111, 115, 116] : List Int32) := ⟨A357, C357, V357, ⟨kk357, D357⟩, by decide, by decide⟩
        show FinW p e below s Z EL h0 _ _ _ (T357.setTop (mkF m 443 #[.val (.int p1), .val (.int p2), .val (.int p3), .val (.int p4), .val (.int m1), .val (.int (p2 &&& (2147483647 : Int32))), .val (.int mu), .val (.int rp), .val (.ref a.1), .val .null] [(.ref a357), (.ref a.1)]))
        have f358 := f350.ext E357
        have f359 := f351.ext E357
        obtain ⟨_, T360, h360, L360, X360, e360, ⟨rfl, rfl, q360⟩, st360⟩ := goV X357 hx hZ357 hown357 (hw _ (List.mem_of_getElem? (i := 34) rfl)) (hw _ (List.mem_of_getElem? (i := 35) rfl)) (hw _ (List.mem_of_getElem? (i := 37) rfl)) (notFace_of_selects (args := #[]) (mvT hZ357 (hw _ (List.mem_of_getElem? (i := 37) rfl)))) (hw _ (List.mem_of_getElem? (i := 36) rfl)) (by decide) (strEq (len := 3) (W := 0) hZ357 hw (hw _ (List.mem_of_getElem? (i := 3) rfl)) f358 S357 (SC.ext f359.2) hcz (by decide) (by decide)) e357 f358.exa (g := (mkF m 443 #[.val (.int p1), .val (.int p2), .val (.int p3), .val (.int p4), .val (.int m1), .val (.int (p2 &&& (2147483647 : Int32))), .val (.int mu), .val (.int rp), .val (.ref a.1), .val .null] [(.ref a357), (.ref a.1)])) rfl (by rw [hml]; rfl) [(.ref a357)] [] (lenOf pd_3 rfl) rfl (by show 2 * 0 + _ ≤ _; exact Nat.le_of_eq rfl) (Jvm.hb hby at_443) rfl (by decide) (by decide)
        have e360 := e360.trans q360
        have N360 := N352.app (Fr.nil n0)
        refine FinW.st st360 ?_
        show FinW p e below s Z EL h0 _ _ _ (T360.setTop (mkF m 446 #[.val (.int p1), .val (.int p2), .val (.int p3), .val (.int p4), .val (.int m1), .val (.int (p2 &&& (2147483647 : Int32))), .val (.int mu), .val (.int rp), .val (.ref a.1), .val .null] [(.int (if cs = nm1 then (1 : Int32) else 0))]))
        by_cases hc1 : cs = nm1
        · skip
          rw [if_pos hc1]
          show FinW p e below s Z EL h0 _ _ _ (T360.setTop (mkF m 446 #[.val (.int p1), .val (.int p2), .val (.int p3), .val (.int p4), .val (.int m1), .val (.int (p2 &&& (2147483647 : Int32))), .val (.int mu), .val (.int rp), .val (.ref a.1), .val .null] [(.int (1 : Int32))]))
          refine FinW.st (fun _ => XS.ifNo X360.here hx rfl (Jvm.hb hby at_446) rfl (zeqN (by decide))) ?_
          show FinW p e below s Z EL h0 _ _ _ (T360.setTop (mkF m 449 #[.val (.int p1), .val (.int p2), .val (.int p3), .val (.int p4), .val (.int m1), .val (.int (p2 &&& (2147483647 : Int32))), .val (.int mu), .val (.int rp), .val (.ref a.1), .val .null] []))
          obtain ⟨T361, X361, e361, st361⟩ := getS (host := "") X360 hx hZ357 hown357 (hw _ (List.mem_of_getElem? (i := 77) rfl)) Via.refl e360 (Tb.ext f359.2) (g := (mkF m 449 #[.val (.int p1), .val (.int p2), .val (.int p3), .val (.int p4), .val (.int m1), .val (.int (p2 &&& (2147483647 : Int32))), .val (.int mu), .val (.int rp), .val (.ref a.1), .val .null] [])) rfl (Jvm.hb hby at_449)
          refine FinW.st st361 ?_
          show FinW p e below s Z EL h0 _ _ _ (T361.setTop (mkF m 452 #[.val (.int p1), .val (.int p2), .val (.int p3), .val (.int p4), .val (.int m1), .val (.int (p2 &&& (2147483647 : Int32))), .val (.int mu), .val (.int rp), .val (.ref a.1), .val .null] [(.ref en1)]))
          refine FinW.st (fun _ => XS.astore X361.here hx rfl (Jvm.hb hby at_452) rfl rfl (l' := #[.val (.int p1), .val (.int p2), .val (.int p3), .val (.int p4), .val (.int m1), .val (.int (p2 &&& (2147483647 : Int32))), .val (.int mu), .val (.int rp), .val (.ref a.1), .val (.ref en1)]) rfl) ?_
          show FinW p e below s Z EL h0 _ _ _ (T361.setTop (mkF m 454 #[.val (.int p1), .val (.int p2), .val (.int p3), .val (.int p4), .val (.int m1), .val (.int (p2 &&& (2147483647 : Int32))), .val (.int mu), .val (.int rp), .val (.ref a.1), .val (.ref en1)] []))
          refine FinW.st (fun _ => XS.goto X361.here hx rfl (pc0 := 454) (pc' := 472) rfl (Jvm.hb hby at_454) (by decide) (by decide)) ?_
          show FinW p e below s Z EL h0 _ _ _ (T361.setTop (mkF m 472 #[.val (.int p1), .val (.int p2), .val (.int p3), .val (.int p4), .val (.int m1), .val (.int (p2 &&& (2147483647 : Int32))), .val (.int mu), .val (.int rp), .val (.ref a.1), .val (.ref en1)] []))
          refine FinW.st (fun _ => XS.aload X361.here hx rfl (Jvm.hb hby at_472) rfl rfl) ?_
          show FinW p e below s Z EL h0 _ _ _ (T361.setTop (mkF m 474 #[.val (.int p1), .val (.int p2), .val (.int p3), .val (.int p4), .val (.int m1), .val (.int (p2 &&& (2147483647 : Int32))), .val (.int mu), .val (.int rp), .val (.ref a.1), .val (.ref en1)] [(.ref a.1)]))
          obtain ⟨_, T362, h362, L362, X362, e362, ⟨rfl, Nq362, K362⟩, st362⟩ := goS X361 hx hZ357 hown357 (hw _ (List.mem_of_getElem? (i := 47) rfl)) (hw _ (List.mem_of_getElem? (i := 48) rfl)) (hw _ (List.mem_of_getElem? (i := 45) rfl)) (hw _ (List.mem_of_getElem? (i := 49) rfl)) (by decide) ((rmNamed l Z a0 hw [] a.1 t cs cz va cv en0 en1 en2 s0 s1 s2 u0 u1 u2 h357 n0 f359 SC hcz f358 EN).pay (W := 0) hZ357 (hw _ (List.mem_of_getElem? (i := 49) rfl)) (hw _ (List.mem_of_getElem? (i := 45) rfl)) (by decide) (by decide)) e361 (g := (mkF m 474 #[.val (.int p1), .val (.int p2), .val (.int p3), .val (.int p4), .val (.int m1), .val (.int (p2 &&& (2147483647 : Int32))), .val (.int mu), .val (.int rp), .val (.ref a.1), .val (.ref en1)] [(.ref a.1)])) rfl (by rw [hml]; rfl) [(.ref a.1)] [] (lenOf pd_4 rfl) rfl (by show 2 * 0 + _ ≤ _; exact Nat.le_of_eq rfl) (Jvm.hb hby at_474) rfl (by decide) (by decide)
          have N362 := N360.app Nq362
          refine FinW.st st362 ?_
          have CH363 := CH357.trans (CHr.keep K362 sf0 CH357.1)
          show FinW p e below s Z EL h0 _ _ _ (T362.setTop (mkF m 477 #[.val (.int p1), .val (.int p2), .val (.int p3), .val (.int p4), .val (.int m1), .val (.int (p2 &&& (2147483647 : Int32))), .val (.int mu), .val (.int rp), .val (.ref a.1), .val (.ref en1)] [(if cs = nm0 then .ref en0 else if cs = nm1 then .ref en1 else if cs = nm2 then .ref en2 else .null)]))
          rw [if_neg hc0, if_pos hc1]
          show FinW p e below s Z EL h0 _ _ _ (T362.setTop (mkF m 477 #[.val (.int p1), .val (.int p2), .val (.int p3), .val (.int p4), .val (.int m1), .val (.int (p2 &&& (2147483647 : Int32))), .val (.int mu), .val (.int rp), .val (.ref a.1), .val (.ref en1)] [(.ref en1)]))
          refine FinW.st (fun _ => XS.aload X362.here hx rfl (Jvm.hb hby at_477) rfl rfl) ?_
          show FinW p e below s Z EL h0 _ _ _ (T362.setTop (mkF m 479 #[.val (.int p1), .val (.int p2), .val (.int p3), .val (.int p4), .val (.int m1), .val (.int (p2 &&& (2147483647 : Int32))), .val (.int mu), .val (.int rp), .val (.ref a.1), .val (.ref en1)] [(.ref en1), (.ref en1)]))
          refine FinW.st (fun _ => Jvm.RoadKit.acmp (g := (mkF m 479 #[.val (.int p1), .val (.int p2), .val (.int p3), .val (.int p4), .val (.int m1), .val (.int (p2 &&& (2147483647 : Int32))), .val (.int mu), .val (.int rp), .val (.ref a.1), .val (.ref en1)] [(.ref en1), (.ref en1)])) X362 hx rfl rfl rfl (pc0 := 479) (pc' := 482) (same := true) rfl (Jvm.hb hby at_479) rfl (decide_eq_true rfl) (by decide) (by decide)) ?_
          show FinW p e below s Z EL h0 _ _ _ (T362.setTop (mkF m 482 #[.val (.int p1), .val (.int p2), .val (.int p3), .val (.int p4), .val (.int m1), .val (.int (p2 &&& (2147483647 : Int32))), .val (.int mu), .val (.int rp), .val (.ref a.1), .val (.ref en1)] []))
          refine FinW.st (fun _ => XS.iconst X362.here hx rfl (Jvm.hb hby at_482)) ?_
          show FinW p e below s Z EL h0 _ _ _ (T362.setTop (mkF m 483 #[.val (.int p1), .val (.int p2), .val (.int p3), .val (.int p4), .val (.int m1), .val (.int (p2 &&& (2147483647 : Int32))), .val (.int mu), .val (.int rp), .val (.ref a.1), .val (.ref en1)] [(.int (1 : Int32))]))
          refine FinW.st (fun _ => XS.goto X362.here hx rfl (pc0 := 483) (pc' := 487) rfl (Jvm.hb hby at_483) (by decide) (by decide)) ?_
          show FinW p e below s Z EL h0 _ _ _ (T362.setTop (mkF m 487 #[.val (.int p1), .val (.int p2), .val (.int p3), .val (.int p4), .val (.int m1), .val (.int (p2 &&& (2147483647 : Int32))), .val (.int mu), .val (.int rp), .val (.ref a.1), .val (.ref en1)] [(.int (1 : Int32))]))
          have f364 := B357.keep K362
          exact finNW X362 hx hlk hret (t := .boolean) (by simp) (Jvm.hb hby at_487) e362 hZ357 hEL f364 CH363 ⟨rfl, N362⟩ (by decide) (by decide)
        · skip
          rw [if_neg hc1]
          show FinW p e below s Z EL h0 _ _ _ (T360.setTop (mkF m 446 #[.val (.int p1), .val (.int p2), .val (.int p3), .val (.int p4), .val (.int m1), .val (.int (p2 &&& (2147483647 : Int32))), .val (.int mu), .val (.int rp), .val (.ref a.1), .val .null] [(.int (0 : Int32))]))
          refine FinW.st (fun _ => XS.ifYes X360.here hx rfl (pc0 := 446) (pc' := 457) rfl (Jvm.hb hby at_446) rfl (zeq rfl) (by decide) (by decide)) ?_
          show FinW p e below s Z EL h0 _ _ _ (T360.setTop (mkF m 457 #[.val (.int p1), .val (.int p2), .val (.int p3), .val (.int p4), .val (.int m1), .val (.int (p2 &&& (2147483647 : Int32))), .val (.int mu), .val (.int rp), .val (.ref a.1), .val .null] []))
          refine FinW.st (fun _ => XS.aload X360.here hx rfl (Jvm.hb hby at_457) rfl rfl) ?_
          show FinW p e below s Z EL h0 _ _ _ (T360.setTop (mkF m 459 #[.val (.int p1), .val (.int p2), .val (.int p3), .val (.int p4), .val (.int m1), .val (.int (p2 &&& (2147483647 : Int32))), .val (.int mu), .val (.int rp), .val (.ref a.1), .val .null] [(.ref a.1)]))
          have f366 := A349.ext E357
          have f367 := S349.ext E357
          obtain ⟨a365, T365, h365, t365, kk365, X365, e365, E365, B365, hZ365, hown365, A365, C365, V365, D365, CH365, SF365, st365⟩ := ldcRd X360 hx hZ357 hown357 (hw _ (List.mem_of_getElem? (i := 71) rfl)) (own_wS hw) e360 B357 hEL (by decide) CH357 (vs := (([110, 111, 110, 101] : List Int32).map fun c => c.toInt8.toInt32).map Value.int) (z := Int32.ofNat 4) (by decide +kernel) (by decide) rfl (g := (mkF m 459 #[.val (.int p1), .val (.int p2), .val (.int p3), .val (.int p4), .val (.int m1), .val (.int (p2 &&& (2147483647 : Int32))), .val (.int mu), .val (.int rp), .val (.ref a.1), .val .null] [(.ref a.1)])) rfl (Jvm.hb hby at_459) (n := 16) (by decide +kernel) (by decide) (by decide) (by decide)
          refine FinW.st st365 ?_
          have S365 : Str Z h365 a365 t365 ([110, 111, 110, 101] : List Int32) := ⟨A365, C365, V365, ⟨kk365, D365⟩, by decide, by decide⟩
          show FinW p e below s Z EL h0 _ _ _ (T365.setTop (mkF m 461 #[.val (.int p1), .val (.int p2), .val (.int p3), .val (.int p4), .val (.int m1), .val (.int (p2 &&& (2147483647 : Int32))), .val (.int mu), .val (.int rp), .val (.ref a.1), .val .null] [(.ref a365), (.ref a.1)]))
          have f368 := f358.ext E365
          have f369 := f359.ext E365
          obtain ⟨_, T370, h370, L370, X370, e370, ⟨rfl, rfl, q370⟩, st370⟩ := goV X365 hx hZ365 hown365 (hw _ (List.mem_of_getElem? (i := 34) rfl)) (hw _ (List.mem_of_getElem? (i := 35) rfl)) (hw _ (List.mem_of_getElem? (i := 37) rfl)) (notFace_of_selects (args := #[]) (mvT hZ365 (hw _ (List.mem_of_getElem? (i := 37) rfl)))) (hw _ (List.mem_of_getElem? (i := 36) rfl)) (by decide) (strEq (len := 3) (W := 0) hZ365 hw (hw _ (List.mem_of_getElem? (i := 3) rfl)) f368 S365 (SC.ext f369.2) hcz (by decide) (by decide)) e365 f368.exa (g := (mkF m 461 #[.val (.int p1), .val (.int p2), .val (.int p3), .val (.int p4), .val (.int m1), .val (.int (p2 &&& (2147483647 : Int32))), .val (.int mu), .val (.int rp), .val (.ref a.1), .val .null] [(.ref a365), (.ref a.1)])) rfl (by rw [hml]; rfl) [(.ref a365)] [] (lenOf pd_3 rfl) rfl (by show 2 * 0 + _ ≤ _; exact Nat.le_of_eq rfl) (Jvm.hb hby at_461) rfl (by decide) (by decide)
          have e370 := e370.trans q370
          have N370 := N360.app (Fr.nil n0)
          refine FinW.st st370 ?_
          show FinW p e below s Z EL h0 _ _ _ (T370.setTop (mkF m 464 #[.val (.int p1), .val (.int p2), .val (.int p3), .val (.int p4), .val (.int m1), .val (.int (p2 &&& (2147483647 : Int32))), .val (.int mu), .val (.int rp), .val (.ref a.1), .val .null] [(.int (if cs = nm2 then (1 : Int32) else 0))]))
          by_cases hc2 : cs = nm2
          · skip
            rw [if_pos hc2]
            show FinW p e below s Z EL h0 _ _ _ (T370.setTop (mkF m 464 #[.val (.int p1), .val (.int p2), .val (.int p3), .val (.int p4), .val (.int m1), .val (.int (p2 &&& (2147483647 : Int32))), .val (.int mu), .val (.int rp), .val (.ref a.1), .val .null] [(.int (1 : Int32))]))
            refine FinW.st (fun _ => XS.ifNo X370.here hx rfl (Jvm.hb hby at_464) rfl (zeqN (by decide))) ?_
            show FinW p e below s Z EL h0 _ _ _ (T370.setTop (mkF m 467 #[.val (.int p1), .val (.int p2), .val (.int p3), .val (.int p4), .val (.int m1), .val (.int (p2 &&& (2147483647 : Int32))), .val (.int mu), .val (.int rp), .val (.ref a.1), .val .null] []))
            obtain ⟨T371, X371, e371, st371⟩ := getS (host := "") X370 hx hZ365 hown365 (hw _ (List.mem_of_getElem? (i := 72) rfl)) Via.refl e370 (Tc.ext f369.2) (g := (mkF m 467 #[.val (.int p1), .val (.int p2), .val (.int p3), .val (.int p4), .val (.int m1), .val (.int (p2 &&& (2147483647 : Int32))), .val (.int mu), .val (.int rp), .val (.ref a.1), .val .null] [])) rfl (Jvm.hb hby at_467)
            refine FinW.st st371 ?_
            show FinW p e below s Z EL h0 _ _ _ (T371.setTop (mkF m 470 #[.val (.int p1), .val (.int p2), .val (.int p3), .val (.int p4), .val (.int m1), .val (.int (p2 &&& (2147483647 : Int32))), .val (.int mu), .val (.int rp), .val (.ref a.1), .val .null] [(.ref en2)]))
            refine FinW.st (fun _ => XS.astore X371.here hx rfl (Jvm.hb hby at_470) rfl rfl (l' := #[.val (.int p1), .val (.int p2), .val (.int p3), .val (.int p4), .val (.int m1), .val (.int (p2 &&& (2147483647 : Int32))), .val (.int mu), .val (.int rp), .val (.ref a.1), .val (.ref en2)]) rfl) ?_
            show FinW p e below s Z EL h0 _ _ _ (T371.setTop (mkF m 472 #[.val (.int p1), .val (.int p2), .val (.int p3), .val (.int p4), .val (.int m1), .val (.int (p2 &&& (2147483647 : Int32))), .val (.int mu), .val (.int rp), .val (.ref a.1), .val (.ref en2)] []))
            refine FinW.st (fun _ => XS.aload X371.here hx rfl (Jvm.hb hby at_472) rfl rfl) ?_
            show FinW p e below s Z EL h0 _ _ _ (T371.setTop (mkF m 474 #[.val (.int p1), .val (.int p2), .val (.int p3), .val (.int p4), .val (.int m1), .val (.int (p2 &&& (2147483647 : Int32))), .val (.int mu), .val (.int rp), .val (.ref a.1), .val (.ref en2)] [(.ref a.1)]))
            obtain ⟨_, T372, h372, L372, X372, e372, ⟨rfl, Nq372, K372⟩, st372⟩ := goS X371 hx hZ365 hown365 (hw _ (List.mem_of_getElem? (i := 47) rfl)) (hw _ (List.mem_of_getElem? (i := 48) rfl)) (hw _ (List.mem_of_getElem? (i := 45) rfl)) (hw _ (List.mem_of_getElem? (i := 49) rfl)) (by decide) ((rmNamed l Z a0 hw [] a.1 t cs cz va cv en0 en1 en2 s0 s1 s2 u0 u1 u2 h365 n0 f369 SC hcz f368 EN).pay (W := 0) hZ365 (hw _ (List.mem_of_getElem? (i := 49) rfl)) (hw _ (List.mem_of_getElem? (i := 45) rfl)) (by decide) (by decide)) e371 (g := (mkF m 474 #[.val (.int p1), .val (.int p2), .val (.int p3), .val (.int p4), .val (.int m1), .val (.int (p2 &&& (2147483647 : Int32))), .val (.int mu), .val (.int rp), .val (.ref a.1), .val (.ref en2)] [(.ref a.1)])) rfl (by rw [hml]; rfl) [(.ref a.1)] [] (lenOf pd_4 rfl) rfl (by show 2 * 0 + _ ≤ _; exact Nat.le_of_eq rfl) (Jvm.hb hby at_474) rfl (by decide) (by decide)
            have N372 := N370.app Nq372
            refine FinW.st st372 ?_
            have CH373 := CH365.trans (CHr.keep K372 sf0 CH365.1)
            show FinW p e below s Z EL h0 _ _ _ (T372.setTop (mkF m 477 #[.val (.int p1), .val (.int p2), .val (.int p3), .val (.int p4), .val (.int m1), .val (.int (p2 &&& (2147483647 : Int32))), .val (.int mu), .val (.int rp), .val (.ref a.1), .val (.ref en2)] [(if cs = nm0 then .ref en0 else if cs = nm1 then .ref en1 else if cs = nm2 then .ref en2 else .null)]))
            rw [if_neg hc0, if_neg hc1, if_pos hc2]
            show FinW p e below s Z EL h0 _ _ _ (T372.setTop (mkF m 477 #[.val (.int p1), .val (.int p2), .val (.int p3), .val (.int p4), .val (.int m1), .val (.int (p2 &&& (2147483647 : Int32))), .val (.int mu), .val (.int rp), .val (.ref a.1), .val (.ref en2)] [(.ref en2)]))
            refine FinW.st (fun _ => XS.aload X372.here hx rfl (Jvm.hb hby at_477) rfl rfl) ?_
            show FinW p e below s Z EL h0 _ _ _ (T372.setTop (mkF m 479 #[.val (.int p1), .val (.int p2), .val (.int p3), .val (.int p4), .val (.int m1), .val (.int (p2 &&& (2147483647 : Int32))), .val (.int mu), .val (.int rp), .val (.ref a.1), .val (.ref en2)] [(.ref en2), (.ref en2)]))
            refine FinW.st (fun _ => Jvm.RoadKit.acmp (g := (mkF m 479 #[.val (.int p1), .val (.int p2), .val (.int p3), .val (.int p4), .val (.int m1), .val (.int (p2 &&& (2147483647 : Int32))), .val (.int mu), .val (.int rp), .val (.ref a.1), .val (.ref en2)] [(.ref en2), (.ref en2)])) X372 hx rfl rfl rfl (pc0 := 479) (pc' := 482) (same := true) rfl (Jvm.hb hby at_479) rfl (decide_eq_true rfl) (by decide) (by decide)) ?_
            show FinW p e below s Z EL h0 _ _ _ (T372.setTop (mkF m 482 #[.val (.int p1), .val (.int p2), .val (.int p3), .val (.int p4), .val (.int m1), .val (.int (p2 &&& (2147483647 : Int32))), .val (.int mu), .val (.int rp), .val (.ref a.1), .val (.ref en2)] []))
            refine FinW.st (fun _ => XS.iconst X372.here hx rfl (Jvm.hb hby at_482)) ?_
            show FinW p e below s Z EL h0 _ _ _ (T372.setTop (mkF m 483 #[.val (.int p1), .val (.int p2), .val (.int p3), .val (.int p4), .val (.int m1), .val (.int (p2 &&& (2147483647 : Int32))), .val (.int mu), .val (.int rp), .val (.ref a.1), .val (.ref en2)] [(.int (1 : Int32))]))
            refine FinW.st (fun _ => XS.goto X372.here hx rfl (pc0 := 483) (pc' := 487) rfl (Jvm.hb hby at_483) (by decide) (by decide)) ?_
            show FinW p e below s Z EL h0 _ _ _ (T372.setTop (mkF m 487 #[.val (.int p1), .val (.int p2), .val (.int p3), .val (.int p4), .val (.int m1), .val (.int (p2 &&& (2147483647 : Int32))), .val (.int mu), .val (.int rp), .val (.ref a.1), .val (.ref en2)] [(.int (1 : Int32))]))
            have f374 := B365.keep K372
            exact finNW X372 hx hlk hret (t := .boolean) (by simp) (Jvm.hb hby at_487) e372 hZ365 hEL f374 CH373 ⟨rfl, N372⟩ (by decide) (by decide)
          · skip
            rw [if_neg hc2]
            show FinW p e below s Z EL h0 _ _ _ (T370.setTop (mkF m 464 #[.val (.int p1), .val (.int p2), .val (.int p3), .val (.int p4), .val (.int m1), .val (.int (p2 &&& (2147483647 : Int32))), .val (.int mu), .val (.int rp), .val (.ref a.1), .val .null] [(.int (0 : Int32))]))
            refine FinW.st (fun _ => XS.ifYes X370.here hx rfl (pc0 := 464) (pc' := 472) rfl (Jvm.hb hby at_464) rfl (zeq rfl) (by decide) (by decide)) ?_
            show FinW p e below s Z EL h0 _ _ _ (T370.setTop (mkF m 472 #[.val (.int p1), .val (.int p2), .val (.int p3), .val (.int p4), .val (.int m1), .val (.int (p2 &&& (2147483647 : Int32))), .val (.int mu), .val (.int rp), .val (.ref a.1), .val .null] []))
            refine FinW.st (fun _ => XS.aload X370.here hx rfl (Jvm.hb hby at_472) rfl rfl) ?_
            show FinW p e below s Z EL h0 _ _ _ (T370.setTop (mkF m 474 #[.val (.int p1), .val (.int p2), .val (.int p3), .val (.int p4), .val (.int m1), .val (.int (p2 &&& (2147483647 : Int32))), .val (.int mu), .val (.int rp), .val (.ref a.1), .val .null] [(.ref a.1)]))
            obtain ⟨_, T375, h375, L375, X375, e375, ⟨rfl, Nq375, K375⟩, st375⟩ := goS X370 hx hZ365 hown365 (hw _ (List.mem_of_getElem? (i := 47) rfl)) (hw _ (List.mem_of_getElem? (i := 48) rfl)) (hw _ (List.mem_of_getElem? (i := 45) rfl)) (hw _ (List.mem_of_getElem? (i := 49) rfl)) (by decide) ((rmNamed l Z a0 hw [] a.1 t cs cz va cv en0 en1 en2 s0 s1 s2 u0 u1 u2 h365 n0 f369 SC hcz f368 EN).pay (W := 0) hZ365 (hw _ (List.mem_of_getElem? (i := 49) rfl)) (hw _ (List.mem_of_getElem? (i := 45) rfl)) (by decide) (by decide)) e370 (g := (mkF m 474 #[.val (.int p1), .val (.int p2), .val (.int p3), .val (.int p4), .val (.int m1), .val (.int (p2 &&& (2147483647 : Int32))), .val (.int mu), .val (.int rp), .val (.ref a.1), .val .null] [(.ref a.1)])) rfl (by rw [hml]; rfl) [(.ref a.1)] [] (lenOf pd_4 rfl) rfl (by show 2 * 0 + _ ≤ _; exact Nat.le_of_eq rfl) (Jvm.hb hby at_474) rfl (by decide) (by decide)
            have N375 := N370.app Nq375
            refine FinW.st st375 ?_
            have CH376 := CH365.trans (CHr.keep K375 sf0 CH365.1)
            show FinW p e below s Z EL h0 _ _ _ (T375.setTop (mkF m 477 #[.val (.int p1), .val (.int p2), .val (.int p3), .val (.int p4), .val (.int m1), .val (.int (p2 &&& (2147483647 : Int32))), .val (.int mu), .val (.int rp), .val (.ref a.1), .val .null] [(if cs = nm0 then .ref en0 else if cs = nm1 then .ref en1 else if cs = nm2 then .ref en2 else .null)]))
            rw [if_neg hc0, if_neg hc1, if_neg hc2]
            show FinW p e below s Z EL h0 _ _ _ (T375.setTop (mkF m 477 #[.val (.int p1), .val (.int p2), .val (.int p3), .val (.int p4), .val (.int m1), .val (.int (p2 &&& (2147483647 : Int32))), .val (.int mu), .val (.int rp), .val (.ref a.1), .val .null] [.null]))
            refine FinW.st (fun _ => XS.aload X375.here hx rfl (Jvm.hb hby at_477) rfl rfl) ?_
            show FinW p e below s Z EL h0 _ _ _ (T375.setTop (mkF m 479 #[.val (.int p1), .val (.int p2), .val (.int p3), .val (.int p4), .val (.int m1), .val (.int (p2 &&& (2147483647 : Int32))), .val (.int mu), .val (.int rp), .val (.ref a.1), .val .null] [.null, .null]))
            refine FinW.st (fun _ => Jvm.RoadKit.acmp (g := (mkF m 479 #[.val (.int p1), .val (.int p2), .val (.int p3), .val (.int p4), .val (.int m1), .val (.int (p2 &&& (2147483647 : Int32))), .val (.int mu), .val (.int rp), .val (.ref a.1), .val .null] [.null, .null])) X375 hx rfl rfl rfl (pc0 := 479) (pc' := 482) (same := true) rfl (Jvm.hb hby at_479) rfl (decide_eq_true rfl) (by decide) (by decide)) ?_
            show FinW p e below s Z EL h0 _ _ _ (T375.setTop (mkF m 482 #[.val (.int p1), .val (.int p2), .val (.int p3), .val (.int p4), .val (.int m1), .val (.int (p2 &&& (2147483647 : Int32))), .val (.int mu), .val (.int rp), .val (.ref a.1), .val .null] []))
            refine FinW.st (fun _ => XS.iconst X375.here hx rfl (Jvm.hb hby at_482)) ?_
            show FinW p e below s Z EL h0 _ _ _ (T375.setTop (mkF m 483 #[.val (.int p1), .val (.int p2), .val (.int p3), .val (.int p4), .val (.int m1), .val (.int (p2 &&& (2147483647 : Int32))), .val (.int mu), .val (.int rp), .val (.ref a.1), .val .null] [(.int (1 : Int32))]))
            refine FinW.st (fun _ => XS.goto X375.here hx rfl (pc0 := 483) (pc' := 487) rfl (Jvm.hb hby at_483) (by decide) (by decide)) ?_
            show FinW p e below s Z EL h0 _ _ _ (T375.setTop (mkF m 487 #[.val (.int p1), .val (.int p2), .val (.int p3), .val (.int p4), .val (.int m1), .val (.int (p2 &&& (2147483647 : Int32))), .val (.int mu), .val (.int rp), .val (.ref a.1), .val .null] [(.int (1 : Int32))]))
            have f377 := B365.keep K375
            exact finNW X375 hx hlk hret (t := .boolean) (by simp) (Jvm.hb hby at_487) e375 hZ365 hEL f377 CH376 ⟨rfl, N375⟩ (by decide) (by decide)
    intro j413
    by_cases hm0 : m1 = (0 : Int32)
    · skip
      refine FinW.st (fun _ => XS.ifNo X0.here hx rfl (Jvm.hb hby at_39) rfl (zneN hm0)) ?_
      show FinW p e below s Z EL h0 _ _ _ (T0.setTop (mkF m 42 #[.val (.int p1), .val (.int p2), .val (.int p3), .val (.int p4), .val (.int m1), .val (.int (p2 &&& (2147483647 : Int32))), .val (.int mu), .val (.int rp), .unset, .unset] []))
      refine FinW.st (fun _ => XS.bipush X0.here hx rfl (Jvm.hb hby at_42)) ?_
      show FinW p e below s Z EL h0 _ _ _ (T0.setTop (mkF m 44 #[.val (.int p1), .val (.int p2), .val (.int p3), .val (.int p4), .val (.int m1), .val (.int (p2 &&& (2147483647 : Int32))), .val (.int mu), .val (.int rp), .unset, .unset] [(.int (19 : Int32))]))
      obtain ⟨b378, g378⟩ : ∃ z, z = h0.size := ⟨_, rfl⟩
      have ge378 : n0 ≤ b378 := by rw [g378]; exact O.own_le
      obtain ⟨T378, h378, k378, X378, e378, E378, A378, st378⟩ := newA0 X0 hx hZ (hw _ (List.mem_of_getElem? (i := 1) rfl)) e0 (g := (mkF m 44 #[.val (.int p1), .val (.int p2), .val (.int p3), .val (.int p4), .val (.int m1), .val (.int (p2 &&& (2147483647 : Int32))), .val (.int mu), .val (.int rp), .unset, .unset] [(.int (19 : Int32))])) rfl (Jvm.hb hby at_44) rfl (by decide) (N := 19) (by decide) (by decide) (by decide) (by decide)
      rw [← g378] at A378 st378
      have V378 : Arv Z h378 b378 k378 .char (19 : Int32) [(.int (0 : Int32)), (.int (0 : Int32)), (.int (0 : Int32)), (.int (0 : Int32)), (.int (0 : Int32)), (.int (0 : Int32)), (.int (0 : Int32)), (.int (0 : Int32)), (.int (0 : Int32)), (.int (0 : Int32)), (.int (0 : Int32)), (.int (0 : Int32)), (.int (0 : Int32)), (.int (0 : Int32)), (.int (0 : Int32)), (.int (0 : Int32)), (.int (0 : Int32)), (.int (0 : Int32)), (.int (0 : Int32))] (.int (0 : Int32)) := A378
      have CH379 := CH0.trans (CHr.ext E378 CH0.1)
      refine FinW.st st378 ?_
      show FinW p e below s Z EL h0 _ _ _ (T378.setTop (mkF m 46 #[.val (.int p1), .val (.int p2), .val (.int p3), .val (.int p4), .val (.int m1), .val (.int (p2 &&& (2147483647 : Int32))), .val (.int mu), .val (.int rp), .unset, .unset] [(.ref b378)]))
      refine FinW.st (fun _ => XS.dup X378.here hx rfl (Jvm.hb hby at_46) rfl rfl) ?_
      show FinW p e below s Z EL h0 _ _ _ (T378.setTop (mkF m 47 #[.val (.int p1), .val (.int p2), .val (.int p3), .val (.int p4), .val (.int m1), .val (.int (p2 &&& (2147483647 : Int32))), .val (.int mu), .val (.int rp), .unset, .unset] [(.ref b378), (.ref b378)]))
      refine FinW.st (fun _ => XS.iconst X378.here hx rfl (Jvm.hb hby at_47)) ?_
      show FinW p e below s Z EL h0 _ _ _ (T378.setTop (mkF m 48 #[.val (.int p1), .val (.int p2), .val (.int p3), .val (.int p4), .val (.int m1), .val (.int (p2 &&& (2147483647 : Int32))), .val (.int mu), .val (.int rp), .unset, .unset] [(.int (0 : Int32)), (.ref b378), (.ref b378)]))
      refine FinW.st (fun _ => XS.bipush X378.here hx rfl (Jvm.hb hby at_48)) ?_
      show FinW p e below s Z EL h0 _ _ _ (T378.setTop (mkF m 50 #[.val (.int p1), .val (.int p2), .val (.int p3), .val (.int p4), .val (.int m1), .val (.int (p2 &&& (2147483647 : Int32))), .val (.int mu), .val (.int rp), .unset, .unset] [(.int (99 : Int32)), (.int (0 : Int32)), (.ref b378), (.ref b378)]))
      obtain ⟨T380, h380, X380, e380, W380, V380, st380⟩ := stC0 X378 hx hZ e378 V378 (j := (0 : Int32)) (by decide) 0 rfl (Nat.le_of_ble_eq_true rfl) rfl (g := (mkF m 50 #[.val (.int p1), .val (.int p2), .val (.int p3), .val (.int p4), .val (.int m1), .val (.int (p2 &&& (2147483647 : Int32))), .val (.int mu), .val (.int rp), .unset, .unset] [(.int (99 : Int32)), (.int (0 : Int32)), (.ref b378), (.ref b378)])) rfl rfl (Jvm.hb hby at_50)
      have N380 := Fr.snoc X380 N0 ge378
      refine FinW.st st380 ?_
      have CH382 := CH379.trans (CHr.wr W380 (Safe.arv hZ.alike V378 (by decide)) CH379.1)
      have V380 : Arv Z h380 b378 _ .char (19 : Int32) [(.int (99 : Int32)), (.int (0 : Int32)), (.int (0 : Int32)), (.int (0 : Int32)), (.int (0 : Int32)), (.int (0 : Int32)), (.int (0 : Int32)), (.int (0 : Int32)), (.int (0 : Int32)), (.int (0 : Int32)), (.int (0 : Int32)), (.int (0 : Int32)), (.int (0 : Int32)), (.int (0 : Int32)), (.int (0 : Int32)), (.int (0 : Int32)), (.int (0 : Int32)), (.int (0 : Int32)), (.int (0 : Int32))] (.int (0 : Int32)) := V380
      show FinW p e below s Z EL h0 _ _ _ (T380.setTop (mkF m 51 #[.val (.int p1), .val (.int p2), .val (.int p3), .val (.int p4), .val (.int m1), .val (.int (p2 &&& (2147483647 : Int32))), .val (.int mu), .val (.int rp), .unset, .unset] [(.ref b378)]))
      refine FinW.st (fun _ => XS.dup X380.here hx rfl (Jvm.hb hby at_51) rfl rfl) ?_
      show FinW p e below s Z EL h0 _ _ _ (T380.setTop (mkF m 52 #[.val (.int p1), .val (.int p2), .val (.int p3), .val (.int p4), .val (.int m1), .val (.int (p2 &&& (2147483647 : Int32))), .val (.int mu), .val (.int rp), .unset, .unset] [(.ref b378), (.ref b378)]))
      refine FinW.st (fun _ => XS.iconst X380.here hx rfl (Jvm.hb hby at_52)) ?_
      show FinW p e below s Z EL h0 _ _ _ (T380.setTop (mkF m 53 #[.val (.int p1), .val (.int p2), .val (.int p3), .val (.int p4), .val (.int m1), .val (.int (p2 &&& (2147483647 : Int32))), .val (.int mu), .val (.int rp), .unset, .unset] [(.int (1 : Int32)), (.ref b378), (.ref b378)]))
      refine FinW.st (fun _ => XS.bipush X380.here hx rfl (Jvm.hb hby at_53)) ?_
      show FinW p e below s Z EL h0 _ _ _ (T380.setTop (mkF m 55 #[.val (.int p1), .val (.int p2), .val (.int p3), .val (.int p4), .val (.int m1), .val (.int (p2 &&& (2147483647 : Int32))), .val (.int mu), .val (.int rp), .unset, .unset] [(.int (108 : Int32)), (.int (1 : Int32)), (.ref b378), (.ref b378)]))
      obtain ⟨T383, h383, X383, e383, W383, V383, st383⟩ := stC0 X380 hx hZ e380 V380 (j := (1 : Int32)) (by decide) 1 rfl (Nat.le_of_ble_eq_true rfl) rfl (g := (mkF m 55 #[.val (.int p1), .val (.int p2), .val (.int p3), .val (.int p4), .val (.int m1), .val (.int (p2 &&& (2147483647 : Int32))), .val (.int mu), .val (.int rp), .unset, .unset] [(.int (108 : Int32)), (.int (1 : Int32)), (.ref b378), (.ref b378)])) rfl rfl (Jvm.hb hby at_55)
      have N383 := Fr.snoc X383 N380 ge378
      refine FinW.st st383 ?_
      have CH385 := CH382.trans (CHr.wr W383 (Safe.arv hZ.alike V380 (by decide)) CH382.1)
      have V383 : Arv Z h383 b378 _ .char (19 : Int32) [(.int (99 : Int32)), (.int (108 : Int32)), (.int (0 : Int32)), (.int (0 : Int32)), (.int (0 : Int32)), (.int (0 : Int32)), (.int (0 : Int32)), (.int (0 : Int32)), (.int (0 : Int32)), (.int (0 : Int32)), (.int (0 : Int32)), (.int (0 : Int32)), (.int (0 : Int32)), (.int (0 : Int32)), (.int (0 : Int32)), (.int (0 : Int32)), (.int (0 : Int32)), (.int (0 : Int32)), (.int (0 : Int32))] (.int (0 : Int32)) := V383
      show FinW p e below s Z EL h0 _ _ _ (T383.setTop (mkF m 56 #[.val (.int p1), .val (.int p2), .val (.int p3), .val (.int p4), .val (.int m1), .val (.int (p2 &&& (2147483647 : Int32))), .val (.int mu), .val (.int rp), .unset, .unset] [(.ref b378)]))
      refine FinW.st (fun _ => XS.dup X383.here hx rfl (Jvm.hb hby at_56) rfl rfl) ?_
      show FinW p e below s Z EL h0 _ _ _ (T383.setTop (mkF m 57 #[.val (.int p1), .val (.int p2), .val (.int p3), .val (.int p4), .val (.int m1), .val (.int (p2 &&& (2147483647 : Int32))), .val (.int mu), .val (.int rp), .unset, .unset] [(.ref b378), (.ref b378)]))
      refine FinW.st (fun _ => XS.iconst X383.here hx rfl (Jvm.hb hby at_57)) ?_
      show FinW p e below s Z EL h0 _ _ _ (T383.setTop (mkF m 58 #[.val (.int p1), .val (.int p2), .val (.int p3), .val (.int p4), .val (.int m1), .val (.int (p2 &&& (2147483647 : Int32))), .val (.int mu), .val (.int rp), .unset, .unset] [(.int (2 : Int32)), (.ref b378), (.ref b378)]))
      refine FinW.st (fun _ => XS.bipush X383.here hx rfl (Jvm.hb hby at_58)) ?_
      show FinW p e below s Z EL h0 _ _ _ (T383.setTop (mkF m 60 #[.val (.int p1), .val (.int p2), .val (.int p3), .val (.int p4), .val (.int m1), .val (.int (p2 &&& (2147483647 : Int32))), .val (.int mu), .val (.int rp), .unset, .unset] [(.int (105 : Int32)), (.int (2 : Int32)), (.ref b378), (.ref b378)]))
      obtain ⟨T386, h386, X386, e386, W386, V386, st386⟩ := stC0 X383 hx hZ e383 V383 (j := (2 : Int32)) (by decide) 2 rfl (Nat.le_of_ble_eq_true rfl) rfl (g := (mkF m 60 #[.val (.int p1), .val (.int p2), .val (.int p3), .val (.int p4), .val (.int m1), .val (.int (p2 &&& (2147483647 : Int32))), .val (.int mu), .val (.int rp), .unset, .unset] [(.int (105 : Int32)), (.int (2 : Int32)), (.ref b378), (.ref b378)])) rfl rfl (Jvm.hb hby at_60)
      have N386 := Fr.snoc X386 N383 ge378
      refine FinW.st st386 ?_
      have CH388 := CH385.trans (CHr.wr W386 (Safe.arv hZ.alike V383 (by decide)) CH385.1)
      have V386 : Arv Z h386 b378 _ .char (19 : Int32) [(.int (99 : Int32)), (.int (108 : Int32)), (.int (105 : Int32)), (.int (0 : Int32)), (.int (0 : Int32)), (.int (0 : Int32)), (.int (0 : Int32)), (.int (0 : Int32)), (.int (0 : Int32)), (.int (0 : Int32)), (.int (0 : Int32)), (.int (0 : Int32)), (.int (0 : Int32)), (.int (0 : Int32)), (.int (0 : Int32)), (.int (0 : Int32)), (.int (0 : Int32)), (.int (0 : Int32)), (.int (0 : Int32))] (.int (0 : Int32)) := V386
      show FinW p e below s Z EL h0 _ _ _ (T386.setTop (mkF m 61 #[.val (.int p1), .val (.int p2), .val (.int p3), .val (.int p4), .val (.int m1), .val (.int (p2 &&& (2147483647 : Int32))), .val (.int mu), .val (.int rp), .unset, .unset] [(.ref b378)]))
      refine FinW.st (fun _ => XS.dup X386.here hx rfl (Jvm.hb hby at_61) rfl rfl) ?_
      show FinW p e below s Z EL h0 _ _ _ (T386.setTop (mkF m 62 #[.val (.int p1), .val (.int p2), .val (.int p3), .val (.int p4), .val (.int m1), .val (.int (p2 &&& (2147483647 : Int32))), .val (.int mu), .val (.int rp), .unset, .unset] [(.ref b378), (.ref b378)]))
      refine FinW.st (fun _ => XS.iconst X386.here hx rfl (Jvm.hb hby at_62)) ?_
      show FinW p e below s Z EL h0 _ _ _ (T386.setTop (mkF m 63 #[.val (.int p1), .val (.int p2), .val (.int p3), .val (.int p4), .val (.int m1), .val (.int (p2 &&& (2147483647 : Int32))), .val (.int mu), .val (.int rp), .unset, .unset] [(.int (3 : Int32)), (.ref b378), (.ref b378)]))
      refine FinW.st (fun _ => XS.bipush X386.here hx rfl (Jvm.hb hby at_63)) ?_
      show FinW p e below s Z EL h0 _ _ _ (T386.setTop (mkF m 65 #[.val (.int p1), .val (.int p2), .val (.int p3), .val (.int p4), .val (.int m1), .val (.int (p2 &&& (2147483647 : Int32))), .val (.int mu), .val (.int rp), .unset, .unset] [(.int (101 : Int32)), (.int (3 : Int32)), (.ref b378), (.ref b378)]))
      obtain ⟨T389, h389, X389, e389, W389, V389, st389⟩ := stC0 X386 hx hZ e386 V386 (j := (3 : Int32)) (by decide) 3 rfl (Nat.le_of_ble_eq_true rfl) rfl (g := (mkF m 65 #[.val (.int p1), .val (.int p2), .val (.int p3), .val (.int p4), .val (.int m1), .val (.int (p2 &&& (2147483647 : Int32))), .val (.int mu), .val (.int rp), .unset, .unset] [(.int (101 : Int32)), (.int (3 : Int32)), (.ref b378), (.ref b378)])) rfl rfl (Jvm.hb hby at_65)
      have N389 := Fr.snoc X389 N386 ge378
      refine FinW.st st389 ?_
      have CH391 := CH388.trans (CHr.wr W389 (Safe.arv hZ.alike V386 (by decide)) CH388.1)
      have V389 : Arv Z h389 b378 _ .char (19 : Int32) [(.int (99 : Int32)), (.int (108 : Int32)), (.int (105 : Int32)), (.int (101 : Int32)), (.int (0 : Int32)), (.int (0 : Int32)), (.int (0 : Int32)), (.int (0 : Int32)), (.int (0 : Int32)), (.int (0 : Int32)), (.int (0 : Int32)), (.int (0 : Int32)), (.int (0 : Int32)), (.int (0 : Int32)), (.int (0 : Int32)), (.int (0 : Int32)), (.int (0 : Int32)), (.int (0 : Int32)), (.int (0 : Int32))] (.int (0 : Int32)) := V389
      show FinW p e below s Z EL h0 _ _ _ (T389.setTop (mkF m 66 #[.val (.int p1), .val (.int p2), .val (.int p3), .val (.int p4), .val (.int m1), .val (.int (p2 &&& (2147483647 : Int32))), .val (.int mu), .val (.int rp), .unset, .unset] [(.ref b378)]))
      refine FinW.st (fun _ => XS.dup X389.here hx rfl (Jvm.hb hby at_66) rfl rfl) ?_
      show FinW p e below s Z EL h0 _ _ _ (T389.setTop (mkF m 67 #[.val (.int p1), .val (.int p2), .val (.int p3), .val (.int p4), .val (.int m1), .val (.int (p2 &&& (2147483647 : Int32))), .val (.int mu), .val (.int rp), .unset, .unset] [(.ref b378), (.ref b378)]))
      refine FinW.st (fun _ => XS.iconst X389.here hx rfl (Jvm.hb hby at_67)) ?_
      show FinW p e below s Z EL h0 _ _ _ (T389.setTop (mkF m 68 #[.val (.int p1), .val (.int p2), .val (.int p3), .val (.int p4), .val (.int m1), .val (.int (p2 &&& (2147483647 : Int32))), .val (.int mu), .val (.int rp), .unset, .unset] [(.int (4 : Int32)), (.ref b378), (.ref b378)]))
      refine FinW.st (fun _ => XS.bipush X389.here hx rfl (Jvm.hb hby at_68)) ?_
      show FinW p e below s Z EL h0 _ _ _ (T389.setTop (mkF m 70 #[.val (.int p1), .val (.int p2), .val (.int p3), .val (.int p4), .val (.int m1), .val (.int (p2 &&& (2147483647 : Int32))), .val (.int mu), .val (.int rp), .unset, .unset] [(.int (110 : Int32)), (.int (4 : Int32)), (.ref b378), (.ref b378)]))
      obtain ⟨T392, h392, X392, e392, W392, V392, st392⟩ := stC0 X389 hx hZ e389 V389 (j := (4 : Int32)) (by decide) 4 rfl (Nat.le_of_ble_eq_true rfl) rfl (g := (mkF m 70 #[.val (.int p1), .val (.int p2), .val (.int p3), .val (.int p4), .val (.int m1), .val (.int (p2 &&& (2147483647 : Int32))), .val (.int mu), .val (.int rp), .unset, .unset] [(.int (110 : Int32)), (.int (4 : Int32)), (.ref b378), (.ref b378)])) rfl rfl (Jvm.hb hby at_70)
      have N392 := Fr.snoc X392 N389 ge378
      refine FinW.st st392 ?_
      have CH394 := CH391.trans (CHr.wr W392 (Safe.arv hZ.alike V389 (by decide)) CH391.1)
      have V392 : Arv Z h392 b378 _ .char (19 : Int32) [(.int (99 : Int32)), (.int (108 : Int32)), (.int (105 : Int32)), (.int (101 : Int32)), (.int (110 : Int32)), (.int (0 : Int32)), (.int (0 : Int32)), (.int (0 : Int32)), (.int (0 : Int32)), (.int (0 : Int32)), (.int (0 : Int32)), (.int (0 : Int32)), (.int (0 : Int32)), (.int (0 : Int32)), (.int (0 : Int32)), (.int (0 : Int32)), (.int (0 : Int32)), (.int (0 : Int32)), (.int (0 : Int32))] (.int (0 : Int32)) := V392
      show FinW p e below s Z EL h0 _ _ _ (T392.setTop (mkF m 71 #[.val (.int p1), .val (.int p2), .val (.int p3), .val (.int p4), .val (.int m1), .val (.int (p2 &&& (2147483647 : Int32))), .val (.int mu), .val (.int rp), .unset, .unset] [(.ref b378)]))
      refine FinW.st (fun _ => XS.dup X392.here hx rfl (Jvm.hb hby at_71) rfl rfl) ?_
      show FinW p e below s Z EL h0 _ _ _ (T392.setTop (mkF m 72 #[.val (.int p1), .val (.int p2), .val (.int p3), .val (.int p4), .val (.int m1), .val (.int (p2 &&& (2147483647 : Int32))), .val (.int mu), .val (.int rp), .unset, .unset] [(.ref b378), (.ref b378)]))
      refine FinW.st (fun _ => XS.iconst X392.here hx rfl (Jvm.hb hby at_72)) ?_
      show FinW p e below s Z EL h0 _ _ _ (T392.setTop (mkF m 73 #[.val (.int p1), .val (.int p2), .val (.int p3), .val (.int p4), .val (.int m1), .val (.int (p2 &&& (2147483647 : Int32))), .val (.int mu), .val (.int rp), .unset, .unset] [(.int (5 : Int32)), (.ref b378), (.ref b378)]))
      refine FinW.st (fun _ => XS.bipush X392.here hx rfl (Jvm.hb hby at_73)) ?_
      show FinW p e below s Z EL h0 _ _ _ (T392.setTop (mkF m 75 #[.val (.int p1), .val (.int p2), .val (.int p3), .val (.int p4), .val (.int m1), .val (.int (p2 &&& (2147483647 : Int32))), .val (.int mu), .val (.int rp), .unset, .unset] [(.int (116 : Int32)), (.int (5 : Int32)), (.ref b378), (.ref b378)]))
      obtain ⟨T395, h395, X395, e395, W395, V395, st395⟩ := stC0 X392 hx hZ e392 V392 (j := (5 : Int32)) (by decide) 5 rfl (Nat.le_of_ble_eq_true rfl) rfl (g := (mkF m 75 #[.val (.int p1), .val (.int p2), .val (.int p3), .val (.int p4), .val (.int m1), .val (.int (p2 &&& (2147483647 : Int32))), .val (.int mu), .val (.int rp), .unset, .unset] [(.int (116 : Int32)), (.int (5 : Int32)), (.ref b378), (.ref b378)])) rfl rfl (Jvm.hb hby at_75)
      have N395 := Fr.snoc X395 N392 ge378
      refine FinW.st st395 ?_
      have CH397 := CH394.trans (CHr.wr W395 (Safe.arv hZ.alike V392 (by decide)) CH394.1)
      have V395 : Arv Z h395 b378 _ .char (19 : Int32) [(.int (99 : Int32)), (.int (108 : Int32)), (.int (105 : Int32)), (.int (101 : Int32)), (.int (110 : Int32)), (.int (116 : Int32)), (.int (0 : Int32)), (.int (0 : Int32)), (.int (0 : Int32)), (.int (0 : Int32)), (.int (0 : Int32)), (.int (0 : Int32)), (.int (0 : Int32)), (.int (0 : Int32)), (.int (0 : Int32)), (.int (0 : Int32)), (.int (0 : Int32)), (.int (0 : Int32)), (.int (0 : Int32))] (.int (0 : Int32)) := V395
      show FinW p e below s Z EL h0 _ _ _ (T395.setTop (mkF m 76 #[.val (.int p1), .val (.int p2), .val (.int p3), .val (.int p4), .val (.int m1), .val (.int (p2 &&& (2147483647 : Int32))), .val (.int mu), .val (.int rp), .unset, .unset] [(.ref b378)]))
      refine FinW.st (fun _ => XS.dup X395.here hx rfl (Jvm.hb hby at_76) rfl rfl) ?_
      show FinW p e below s Z EL h0 _ _ _ (T395.setTop (mkF m 77 #[.val (.int p1), .val (.int p2), .val (.int p3), .val (.int p4), .val (.int m1), .val (.int (p2 &&& (2147483647 : Int32))), .val (.int mu), .val (.int rp), .unset, .unset] [(.ref b378), (.ref b378)]))
      refine FinW.st (fun _ => XS.bipush X395.here hx rfl (Jvm.hb hby at_77)) ?_
      show FinW p e below s Z EL h0 _ _ _ (T395.setTop (mkF m 79 #[.val (.int p1), .val (.int p2), .val (.int p3), .val (.int p4), .val (.int m1), .val (.int (p2 &&& (2147483647 : Int32))), .val (.int mu), .val (.int rp), .unset, .unset] [(.int (6 : Int32)), (.ref b378), (.ref b378)]))
      refine FinW.st (fun _ => XS.bipush X395.here hx rfl (Jvm.hb hby at_79)) ?_
      show FinW p e below s Z EL h0 _ _ _ (T395.setTop (mkF m 81 #[.val (.int p1), .val (.int p2), .val (.int p3), .val (.int p4), .val (.int m1), .val (.int (p2 &&& (2147483647 : Int32))), .val (.int mu), .val (.int rp), .unset, .unset] [(.int (95 : Int32)), (.int (6 : Int32)), (.ref b378), (.ref b378)]))
      obtain ⟨T398, h398, X398, e398, W398, V398, st398⟩ := stC0 X395 hx hZ e395 V395 (j := (6 : Int32)) (by decide) 6 rfl (Nat.le_of_ble_eq_true rfl) rfl (g := (mkF m 81 #[.val (.int p1), .val (.int p2), .val (.int p3), .val (.int p4), .val (.int m1), .val (.int (p2 &&& (2147483647 : Int32))), .val (.int mu), .val (.int rp), .unset, .unset] [(.int (95 : Int32)), (.int (6 : Int32)), (.ref b378), (.ref b378)])) rfl rfl (Jvm.hb hby at_81)
      have N398 := Fr.snoc X398 N395 ge378
      refine FinW.st st398 ?_
      have CH400 := CH397.trans (CHr.wr W398 (Safe.arv hZ.alike V395 (by decide)) CH397.1)
      have V398 : Arv Z h398 b378 _ .char (19 : Int32) [(.int (99 : Int32)), (.int (108 : Int32)), (.int (105 : Int32)), (.int (101 : Int32)), (.int (110 : Int32)), (.int (116 : Int32)), (.int (95 : Int32)), (.int (0 : Int32)), (.int (0 : Int32)), (.int (0 : Int32)), (.int (0 : Int32)), (.int (0 : Int32)), (.int (0 : Int32)), (.int (0 : Int32)), (.int (0 : Int32)), (.int (0 : Int32)), (.int (0 : Int32)), (.int (0 : Int32)), (.int (0 : Int32))] (.int (0 : Int32)) := V398
      show FinW p e below s Z EL h0 _ _ _ (T398.setTop (mkF m 82 #[.val (.int p1), .val (.int p2), .val (.int p3), .val (.int p4), .val (.int m1), .val (.int (p2 &&& (2147483647 : Int32))), .val (.int mu), .val (.int rp), .unset, .unset] [(.ref b378)]))
      refine FinW.st (fun _ => XS.dup X398.here hx rfl (Jvm.hb hby at_82) rfl rfl) ?_
      show FinW p e below s Z EL h0 _ _ _ (T398.setTop (mkF m 83 #[.val (.int p1), .val (.int p2), .val (.int p3), .val (.int p4), .val (.int m1), .val (.int (p2 &&& (2147483647 : Int32))), .val (.int mu), .val (.int rp), .unset, .unset] [(.ref b378), (.ref b378)]))
      refine FinW.st (fun _ => XS.bipush X398.here hx rfl (Jvm.hb hby at_83)) ?_
      show FinW p e below s Z EL h0 _ _ _ (T398.setTop (mkF m 85 #[.val (.int p1), .val (.int p2), .val (.int p3), .val (.int p4), .val (.int m1), .val (.int (p2 &&& (2147483647 : Int32))), .val (.int mu), .val (.int rp), .unset, .unset] [(.int (7 : Int32)), (.ref b378), (.ref b378)]))
      refine FinW.st (fun _ => XS.bipush X398.here hx rfl (Jvm.hb hby at_85)) ?_
      show FinW p e below s Z EL h0 _ _ _ (T398.setTop (mkF m 87 #[.val (.int p1), .val (.int p2), .val (.int p3), .val (.int p4), .val (.int m1), .val (.int (p2 &&& (2147483647 : Int32))), .val (.int mu), .val (.int rp), .unset, .unset] [(.int (115 : Int32)), (.int (7 : Int32)), (.ref b378), (.ref b378)]))
      obtain ⟨T401, h401, X401, e401, W401, V401, st401⟩ := stC0 X398 hx hZ e398 V398 (j := (7 : Int32)) (by decide) 7 rfl (Nat.le_of_ble_eq_true rfl) rfl (g := (mkF m 87 #[.val (.int p1), .val (.int p2), .val (.int p3), .val (.int p4), .val (.int m1), .val (.int (p2 &&& (2147483647 : Int32))), .val (.int mu), .val (.int rp), .unset, .unset] [(.int (115 : Int32)), (.int (7 : Int32)), (.ref b378), (.ref b378)])) rfl rfl (Jvm.hb hby at_87)
      have N401 := Fr.snoc X401 N398 ge378
      refine FinW.st st401 ?_
      have CH403 := CH400.trans (CHr.wr W401 (Safe.arv hZ.alike V398 (by decide)) CH400.1)
      have V401 : Arv Z h401 b378 _ .char (19 : Int32) [(.int (99 : Int32)), (.int (108 : Int32)), (.int (105 : Int32)), (.int (101 : Int32)), (.int (110 : Int32)), (.int (116 : Int32)), (.int (95 : Int32)), (.int (115 : Int32)), (.int (0 : Int32)), (.int (0 : Int32)), (.int (0 : Int32)), (.int (0 : Int32)), (.int (0 : Int32)), (.int (0 : Int32)), (.int (0 : Int32)), (.int (0 : Int32)), (.int (0 : Int32)), (.int (0 : Int32)), (.int (0 : Int32))] (.int (0 : Int32)) := V401
      show FinW p e below s Z EL h0 _ _ _ (T401.setTop (mkF m 88 #[.val (.int p1), .val (.int p2), .val (.int p3), .val (.int p4), .val (.int m1), .val (.int (p2 &&& (2147483647 : Int32))), .val (.int mu), .val (.int rp), .unset, .unset] [(.ref b378)]))
      refine FinW.st (fun _ => XS.dup X401.here hx rfl (Jvm.hb hby at_88) rfl rfl) ?_
      show FinW p e below s Z EL h0 _ _ _ (T401.setTop (mkF m 89 #[.val (.int p1), .val (.int p2), .val (.int p3), .val (.int p4), .val (.int m1), .val (.int (p2 &&& (2147483647 : Int32))), .val (.int mu), .val (.int rp), .unset, .unset] [(.ref b378), (.ref b378)]))
      refine FinW.st (fun _ => XS.bipush X401.here hx rfl (Jvm.hb hby at_89)) ?_
      show FinW p e below s Z EL h0 _ _ _ (T401.setTop (mkF m 91 #[.val (.int p1), .val (.int p2), .val (.int p3), .val (.int p4), .val (.int m1), .val (.int (p2 &&& (2147483647 : Int32))), .val (.int mu), .val (.int rp), .unset, .unset] [(.int (8 : Int32)), (.ref b378), (.ref b378)]))
      refine FinW.st (fun _ => XS.bipush X401.here hx rfl (Jvm.hb hby at_91)) ?_
      show FinW p e below s Z EL h0 _ _ _ (T401.setTop (mkF m 93 #[.val (.int p1), .val (.int p2), .val (.int p3), .val (.int p4), .val (.int m1), .val (.int (p2 &&& (2147483647 : Int32))), .val (.int mu), .val (.int rp), .unset, .unset] [(.int (101 : Int32)), (.int (8 : Int32)), (.ref b378), (.ref b378)]))
      obtain ⟨T404, h404, X404, e404, W404, V404, st404⟩ := stC0 X401 hx hZ e401 V401 (j := (8 : Int32)) (by decide) 8 rfl (Nat.le_of_ble_eq_true rfl) rfl (g := (mkF m 93 #[.val (.int p1), .val (.int p2), .val (.int p3), .val (.int p4), .val (.int m1), .val (.int (p2 &&& (2147483647 : Int32))), .val (.int mu), .val (.int rp), .unset, .unset] [(.int (101 : Int32)), (.int (8 : Int32)), (.ref b378), (.ref b378)])) rfl rfl (Jvm.hb hby at_93)
      have N404 := Fr.snoc X404 N401 ge378
      refine FinW.st st404 ?_
      have CH406 := CH403.trans (CHr.wr W404 (Safe.arv hZ.alike V401 (by decide)) CH403.1)
      have V404 : Arv Z h404 b378 _ .char (19 : Int32) [(.int (99 : Int32)), (.int (108 : Int32)), (.int (105 : Int32)), (.int (101 : Int32)), (.int (110 : Int32)), (.int (116 : Int32)), (.int (95 : Int32)), (.int (115 : Int32)), (.int (101 : Int32)), (.int (0 : Int32)), (.int (0 : Int32)), (.int (0 : Int32)), (.int (0 : Int32)), (.int (0 : Int32)), (.int (0 : Int32)), (.int (0 : Int32)), (.int (0 : Int32)), (.int (0 : Int32)), (.int (0 : Int32))] (.int (0 : Int32)) := V404
      show FinW p e below s Z EL h0 _ _ _ (T404.setTop (mkF m 94 #[.val (.int p1), .val (.int p2), .val (.int p3), .val (.int p4), .val (.int m1), .val (.int (p2 &&& (2147483647 : Int32))), .val (.int mu), .val (.int rp), .unset, .unset] [(.ref b378)]))
      refine FinW.st (fun _ => XS.dup X404.here hx rfl (Jvm.hb hby at_94) rfl rfl) ?_
      show FinW p e below s Z EL h0 _ _ _ (T404.setTop (mkF m 95 #[.val (.int p1), .val (.int p2), .val (.int p3), .val (.int p4), .val (.int m1), .val (.int (p2 &&& (2147483647 : Int32))), .val (.int mu), .val (.int rp), .unset, .unset] [(.ref b378), (.ref b378)]))
      refine FinW.st (fun _ => XS.bipush X404.here hx rfl (Jvm.hb hby at_95)) ?_
      show FinW p e below s Z EL h0 _ _ _ (T404.setTop (mkF m 97 #[.val (.int p1), .val (.int p2), .val (.int p3), .val (.int p4), .val (.int m1), .val (.int (p2 &&& (2147483647 : Int32))), .val (.int mu), .val (.int rp), .unset, .unset] [(.int (9 : Int32)), (.ref b378), (.ref b378)]))
      refine FinW.st (fun _ => XS.bipush X404.here hx rfl (Jvm.hb hby at_97)) ?_
      show FinW p e below s Z EL h0 _ _ _ (T404.setTop (mkF m 99 #[.val (.int p1), .val (.int p2), .val (.int p3), .val (.int p4), .val (.int m1), .val (.int (p2 &&& (2147483647 : Int32))), .val (.int mu), .val (.int rp), .unset, .unset] [(.int (99 : Int32)), (.int (9 : Int32)), (.ref b378), (.ref b378)]))
      obtain ⟨T407, h407, X407, e407, W407, V407, st407⟩ := stC0 X404 hx hZ e404 V404 (j := (9 : Int32)) (by decide) 9 rfl (Nat.le_of_ble_eq_true rfl) rfl (g := (mkF m 99 #[.val (.int p1), .val (.int p2), .val (.int p3), .val (.int p4), .val (.int m1), .val (.int (p2 &&& (2147483647 : Int32))), .val (.int mu), .val (.int rp), .unset, .unset] [(.int (99 : Int32)), (.int (9 : Int32)), (.ref b378), (.ref b378)])) rfl rfl (Jvm.hb hby at_99)
      have N407 := Fr.snoc X407 N404 ge378
      refine FinW.st st407 ?_
      have CH409 := CH406.trans (CHr.wr W407 (Safe.arv hZ.alike V404 (by decide)) CH406.1)
      have V407 : Arv Z h407 b378 _ .char (19 : Int32) [(.int (99 : Int32)), (.int (108 : Int32)), (.int (105 : Int32)), (.int (101 : Int32)), (.int (110 : Int32)), (.int (116 : Int32)), (.int (95 : Int32)), (.int (115 : Int32)), (.int (101 : Int32)), (.int (99 : Int32)), (.int (0 : Int32)), (.int (0 : Int32)), (.int (0 : Int32)), (.int (0 : Int32)), (.int (0 : Int32)), (.int (0 : Int32)), (.int (0 : Int32)), (.int (0 : Int32)), (.int (0 : Int32))] (.int (0 : Int32)) := V407
      show FinW p e below s Z EL h0 _ _ _ (T407.setTop (mkF m 100 #[.val (.int p1), .val (.int p2), .val (.int p3), .val (.int p4), .val (.int m1), .val (.int (p2 &&& (2147483647 : Int32))), .val (.int mu), .val (.int rp), .unset, .unset] [(.ref b378)]))
      refine FinW.st (fun _ => XS.dup X407.here hx rfl (Jvm.hb hby at_100) rfl rfl) ?_
      show FinW p e below s Z EL h0 _ _ _ (T407.setTop (mkF m 101 #[.val (.int p1), .val (.int p2), .val (.int p3), .val (.int p4), .val (.int m1), .val (.int (p2 &&& (2147483647 : Int32))), .val (.int mu), .val (.int rp), .unset, .unset] [(.ref b378), (.ref b378)]))
      refine FinW.st (fun _ => XS.bipush X407.here hx rfl (Jvm.hb hby at_101)) ?_
      show FinW p e below s Z EL h0 _ _ _ (T407.setTop (mkF m 103 #[.val (.int p1), .val (.int p2), .val (.int p3), .val (.int p4), .val (.int m1), .val (.int (p2 &&& (2147483647 : Int32))), .val (.int mu), .val (.int rp), .unset, .unset] [(.int (10 : Int32)), (.ref b378), (.ref b378)]))
      refine FinW.st (fun _ => XS.bipush X407.here hx rfl (Jvm.hb hby at_103)) ?_
      show FinW p e below s Z EL h0 _ _ _ (T407.setTop (mkF m 105 #[.val (.int p1), .val (.int p2), .val (.int p3), .val (.int p4), .val (.int m1), .val (.int (p2 &&& (2147483647 : Int32))), .val (.int mu), .val (.int rp), .unset, .unset] [(.int (114 : Int32)), (.int (10 : Int32)), (.ref b378), (.ref b378)]))
      obtain ⟨T410, h410, X410, e410, W410, V410, st410⟩ := stC0 X407 hx hZ e407 V407 (j := (10 : Int32)) (by decide) 10 rfl (Nat.le_of_ble_eq_true rfl) rfl (g := (mkF m 105 #[.val (.int p1), .val (.int p2), .val (.int p3), .val (.int p4), .val (.int m1), .val (.int (p2 &&& (2147483647 : Int32))), .val (.int mu), .val (.int rp), .unset, .unset] [(.int (114 : Int32)), (.int (10 : Int32)), (.ref b378), (.ref b378)])) rfl rfl (Jvm.hb hby at_105)
      have N410 := Fr.snoc X410 N407 ge378
      refine FinW.st st410 ?_
      have CH412 := CH409.trans (CHr.wr W410 (Safe.arv hZ.alike V407 (by decide)) CH409.1)
      have V410 : Arv Z h410 b378 _ .char (19 : Int32) [(.int (99 : Int32)), (.int (108 : Int32)), (.int (105 : Int32)), (.int (101 : Int32)), (.int (110 : Int32)), (.int (116 : Int32)), (.int (95 : Int32)), (.int (115 : Int32)), (.int (101 : Int32)), (.int (99 : Int32)), (.int (114 : Int32)), (.int (0 : Int32)), (.int (0 : Int32)), (.int (0 : Int32)), (.int (0 : Int32)), (.int (0 : Int32)), (.int (0 : Int32)), (.int (0 : Int32)), (.int (0 : Int32))] (.int (0 : Int32)) := V410
      show FinW p e below s Z EL h0 _ _ _ (T410.setTop (mkF m 106 #[.val (.int p1), .val (.int p2), .val (.int p3), .val (.int p4), .val (.int m1), .val (.int (p2 &&& (2147483647 : Int32))), .val (.int mu), .val (.int rp), .unset, .unset] [(.ref b378)]))
      refine FinW.st (fun _ => XS.dup X410.here hx rfl (Jvm.hb hby at_106) rfl rfl) ?_
      show FinW p e below s Z EL h0 _ _ _ (T410.setTop (mkF m 107 #[.val (.int p1), .val (.int p2), .val (.int p3), .val (.int p4), .val (.int m1), .val (.int (p2 &&& (2147483647 : Int32))), .val (.int mu), .val (.int rp), .unset, .unset] [(.ref b378), (.ref b378)]))
      refine FinW.st (fun _ => XS.bipush X410.here hx rfl (Jvm.hb hby at_107)) ?_
      show FinW p e below s Z EL h0 _ _ _ (T410.setTop (mkF m 109 #[.val (.int p1), .val (.int p2), .val (.int p3), .val (.int p4), .val (.int m1), .val (.int (p2 &&& (2147483647 : Int32))), .val (.int mu), .val (.int rp), .unset, .unset] [(.int (11 : Int32)), (.ref b378), (.ref b378)]))
      refine FinW.st (fun _ => XS.bipush X410.here hx rfl (Jvm.hb hby at_109)) ?_
      show FinW p e below s Z EL h0 _ _ _ (T410.setTop (mkF m 111 #[.val (.int p1), .val (.int p2), .val (.int p3), .val (.int p4), .val (.int m1), .val (.int (p2 &&& (2147483647 : Int32))), .val (.int mu), .val (.int rp), .unset, .unset] [(.int (101 : Int32)), (.int (11 : Int32)), (.ref b378), (.ref b378)]))
      obtain ⟨T413, h413, X413, e413, W413, V413, st413⟩ := stC0 X410 hx hZ e410 V410 (j := (11 : Int32)) (by decide) 11 rfl (Nat.le_of_ble_eq_true rfl) rfl (g := (mkF m 111 #[.val (.int p1), .val (.int p2), .val (.int p3), .val (.int p4), .val (.int m1), .val (.int (p2 &&& (2147483647 : Int32))), .val (.int mu), .val (.int rp), .unset, .unset] [(.int (101 : Int32)), (.int (11 : Int32)), (.ref b378), (.ref b378)])) rfl rfl (Jvm.hb hby at_111)
      have N413 := Fr.snoc X413 N410 ge378
      refine FinW.st st413 ?_
      have CH415 := CH412.trans (CHr.wr W413 (Safe.arv hZ.alike V410 (by decide)) CH412.1)
      have V413 : Arv Z h413 b378 _ .char (19 : Int32) [(.int (99 : Int32)), (.int (108 : Int32)), (.int (105 : Int32)), (.int (101 : Int32)), (.int (110 : Int32)), (.int (116 : Int32)), (.int (95 : Int32)), (.int (115 : Int32)), (.int (101 : Int32)), (.int (99 : Int32)), (.int (114 : Int32)), (.int (101 : Int32)), (.int (0 : Int32)), (.int (0 : Int32)), (.int (0 : Int32)), (.int (0 : Int32)), (.int (0 : Int32)), (.int (0 : Int32)), (.int (0 : Int32))] (.int (0 : Int32)) := V413
      show FinW p e below s Z EL h0 _ _ _ (T413.setTop (mkF m 112 #[.val (.int p1), .val (.int p2), .val (.int p3), .val (.int p4), .val (.int m1), .val (.int (p2 &&& (2147483647 : Int32))), .val (.int mu), .val (.int rp), .unset, .unset] [(.ref b378)]))
      refine FinW.st (fun _ => XS.dup X413.here hx rfl (Jvm.hb hby at_112) rfl rfl) ?_
      show FinW p e below s Z EL h0 _ _ _ (T413.setTop (mkF m 113 #[.val (.int p1), .val (.int p2), .val (.int p3), .val (.int p4), .val (.int m1), .val (.int (p2 &&& (2147483647 : Int32))), .val (.int mu), .val (.int rp), .unset, .unset] [(.ref b378), (.ref b378)]))
      refine FinW.st (fun _ => XS.bipush X413.here hx rfl (Jvm.hb hby at_113)) ?_
      show FinW p e below s Z EL h0 _ _ _ (T413.setTop (mkF m 115 #[.val (.int p1), .val (.int p2), .val (.int p3), .val (.int p4), .val (.int m1), .val (.int (p2 &&& (2147483647 : Int32))), .val (.int mu), .val (.int rp), .unset, .unset] [(.int (12 : Int32)), (.ref b378), (.ref b378)]))
      refine FinW.st (fun _ => XS.bipush X413.here hx rfl (Jvm.hb hby at_115)) ?_
      show FinW p e below s Z EL h0 _ _ _ (T413.setTop (mkF m 117 #[.val (.int p1), .val (.int p2), .val (.int p3), .val (.int p4), .val (.int m1), .val (.int (p2 &&& (2147483647 : Int32))), .val (.int mu), .val (.int rp), .unset, .unset] [(.int (116 : Int32)), (.int (12 : Int32)), (.ref b378), (.ref b378)]))
      obtain ⟨T416, h416, X416, e416, W416, V416, st416⟩ := stC0 X413 hx hZ e413 V413 (j := (12 : Int32)) (by decide) 12 rfl (Nat.le_of_ble_eq_true rfl) rfl (g := (mkF m 117 #[.val (.int p1), .val (.int p2), .val (.int p3), .val (.int p4), .val (.int m1), .val (.int (p2 &&& (2147483647 : Int32))), .val (.int mu), .val (.int rp), .unset, .unset] [(.int (116 : Int32)), (.int (12 : Int32)), (.ref b378), (.ref b378)])) rfl rfl (Jvm.hb hby at_117)
      have N416 := Fr.snoc X416 N413 ge378
      refine FinW.st st416 ?_
      have CH418 := CH415.trans (CHr.wr W416 (Safe.arv hZ.alike V413 (by decide)) CH415.1)
      have V416 : Arv Z h416 b378 _ .char (19 : Int32) [(.int (99 : Int32)), (.int (108 : Int32)), (.int (105 : Int32)), (.int (101 : Int32)), (.int (110 : Int32)), (.int (116 : Int32)), (.int (95 : Int32)), (.int (115 : Int32)), (.int (101 : Int32)), (.int (99 : Int32)), (.int (114 : Int32)), (.int (101 : Int32)), (.int (116 : Int32)), (.int (0 : Int32)), (.int (0 : Int32)), (.int (0 : Int32)), (.int (0 : Int32)), (.int (0 : Int32)), (.int (0 : Int32))] (.int (0 : Int32)) := V416
      show FinW p e below s Z EL h0 _ _ _ (T416.setTop (mkF m 118 #[.val (.int p1), .val (.int p2), .val (.int p3), .val (.int p4), .val (.int m1), .val (.int (p2 &&& (2147483647 : Int32))), .val (.int mu), .val (.int rp), .unset, .unset] [(.ref b378)]))
      refine FinW.st (fun _ => XS.dup X416.here hx rfl (Jvm.hb hby at_118) rfl rfl) ?_
      show FinW p e below s Z EL h0 _ _ _ (T416.setTop (mkF m 119 #[.val (.int p1), .val (.int p2), .val (.int p3), .val (.int p4), .val (.int m1), .val (.int (p2 &&& (2147483647 : Int32))), .val (.int mu), .val (.int rp), .unset, .unset] [(.ref b378), (.ref b378)]))
      refine FinW.st (fun _ => XS.bipush X416.here hx rfl (Jvm.hb hby at_119)) ?_
      show FinW p e below s Z EL h0 _ _ _ (T416.setTop (mkF m 121 #[.val (.int p1), .val (.int p2), .val (.int p3), .val (.int p4), .val (.int m1), .val (.int (p2 &&& (2147483647 : Int32))), .val (.int mu), .val (.int rp), .unset, .unset] [(.int (13 : Int32)), (.ref b378), (.ref b378)]))
      refine FinW.st (fun _ => XS.bipush X416.here hx rfl (Jvm.hb hby at_121)) ?_
      show FinW p e below s Z EL h0 _ _ _ (T416.setTop (mkF m 123 #[.val (.int p1), .val (.int p2), .val (.int p3), .val (.int p4), .val (.int m1), .val (.int (p2 &&& (2147483647 : Int32))), .val (.int mu), .val (.int rp), .unset, .unset] [(.int (95 : Int32)), (.int (13 : Int32)), (.ref b378), (.ref b378)]))
      obtain ⟨T419, h419, X419, e419, W419, V419, st419⟩ := stC0 X416 hx hZ e416 V416 (j := (13 : Int32)) (by decide) 13 rfl (Nat.le_of_ble_eq_true rfl) rfl (g := (mkF m 123 #[.val (.int p1), .val (.int p2), .val (.int p3), .val (.int p4), .val (.int m1), .val (.int (p2 &&& (2147483647 : Int32))), .val (.int mu), .val (.int rp), .unset, .unset] [(.int (95 : Int32)), (.int (13 : Int32)), (.ref b378), (.ref b378)])) rfl rfl (Jvm.hb hby at_123)
      have N419 := Fr.snoc X419 N416 ge378
      refine FinW.st st419 ?_
      have CH421 := CH418.trans (CHr.wr W419 (Safe.arv hZ.alike V416 (by decide)) CH418.1)
      have V419 : Arv Z h419 b378 _ .char (19 : Int32) [(.int (99 : Int32)), (.int (108 : Int32)), (.int (105 : Int32)), (.int (101 : Int32)), (.int (110 : Int32)), (.int (116 : Int32)), (.int (95 : Int32)), (.int (115 : Int32)), (.int (101 : Int32)), (.int (99 : Int32)), (.int (114 : Int32)), (.int (101 : Int32)), (.int (116 : Int32)), (.int (95 : Int32)), (.int (0 : Int32)), (.int (0 : Int32)), (.int (0 : Int32)), (.int (0 : Int32)), (.int (0 : Int32))] (.int (0 : Int32)) := V419
      show FinW p e below s Z EL h0 _ _ _ (T419.setTop (mkF m 124 #[.val (.int p1), .val (.int p2), .val (.int p3), .val (.int p4), .val (.int m1), .val (.int (p2 &&& (2147483647 : Int32))), .val (.int mu), .val (.int rp), .unset, .unset] [(.ref b378)]))
      refine FinW.st (fun _ => XS.dup X419.here hx rfl (Jvm.hb hby at_124) rfl rfl) ?_
      show FinW p e below s Z EL h0 _ _ _ (T419.setTop (mkF m 125 #[.val (.int p1), .val (.int p2), .val (.int p3), .val (.int p4), .val (.int m1), .val (.int (p2 &&& (2147483647 : Int32))), .val (.int mu), .val (.int rp), .unset, .unset] [(.ref b378), (.ref b378)]))
      refine FinW.st (fun _ => XS.bipush X419.here hx rfl (Jvm.hb hby at_125)) ?_
      show FinW p e below s Z EL h0 _ _ _ (T419.setTop (mkF m 127 #[.val (.int p1), .val (.int p2), .val (.int p3), .val (.int p4), .val (.int m1), .val (.int (p2 &&& (2147483647 : Int32))), .val (.int mu), .val (.int rp), .unset, .unset] [(.int (14 : Int32)), (.ref b378), (.ref b378)]))
      refine FinW.st (fun _ => XS.bipush X419.here hx rfl (Jvm.hb hby at_127)) ?_
      show FinW p e below s Z EL h0 _ _ _ (T419.setTop (mkF m 129 #[.val (.int p1), .val (.int p2), .val (.int p3), .val (.int p4), .val (.int m1), .val (.int (p2 &&& (2147483647 : Int32))), .val (.int mu), .val (.int rp), .unset, .unset] [(.int (98 : Int32)), (.int (14 : Int32)), (.ref b378), (.ref b378)]))
      obtain ⟨T422, h422, X422, e422, W422, V422, st422⟩ := stC0 X419 hx hZ e419 V419 (j := (14 : Int32)) (by decide) 14 rfl (Nat.le_of_ble_eq_true rfl) rfl (g := (mkF m 129 #[.val (.int p1), .val (.int p2), .val (.int p3), .val (.int p4), .val (.int m1), .val (.int (p2 &&& (2147483647 : Int32))), .val (.int mu), .val (.int rp), .unset, .unset] [(.int (98 : Int32)), (.int (14 : Int32)), (.ref b378), (.ref b378)])) rfl rfl (Jvm.hb hby at_129)
      have N422 := Fr.snoc X422 N419 ge378
      refine FinW.st st422 ?_
      have CH424 := CH421.trans (CHr.wr W422 (Safe.arv hZ.alike V419 (by decide)) CH421.1)
      have V422 : Arv Z h422 b378 _ .char (19 : Int32) [(.int (99 : Int32)), (.int (108 : Int32)), (.int (105 : Int32)), (.int (101 : Int32)), (.int (110 : Int32)), (.int (116 : Int32)), (.int (95 : Int32)), (.int (115 : Int32)), (.int (101 : Int32)), (.int (99 : Int32)), (.int (114 : Int32)), (.int (101 : Int32)), (.int (116 : Int32)), (.int (95 : Int32)), (.int (98 : Int32)), (.int (0 : Int32)), (.int (0 : Int32)), (.int (0 : Int32)), (.int (0 : Int32))] (.int (0 : Int32)) := V422
      show FinW p e below s Z EL h0 _ _ _ (T422.setTop (mkF m 130 #[.val (.int p1), .val (.int p2), .val (.int p3), .val (.int p4), .val (.int m1), .val (.int (p2 &&& (2147483647 : Int32))), .val (.int mu), .val (.int rp), .unset, .unset] [(.ref b378)]))
      refine FinW.st (fun _ => XS.dup X422.here hx rfl (Jvm.hb hby at_130) rfl rfl) ?_
      show FinW p e below s Z EL h0 _ _ _ (T422.setTop (mkF m 131 #[.val (.int p1), .val (.int p2), .val (.int p3), .val (.int p4), .val (.int m1), .val (.int (p2 &&& (2147483647 : Int32))), .val (.int mu), .val (.int rp), .unset, .unset] [(.ref b378), (.ref b378)]))
      refine FinW.st (fun _ => XS.bipush X422.here hx rfl (Jvm.hb hby at_131)) ?_
      show FinW p e below s Z EL h0 _ _ _ (T422.setTop (mkF m 133 #[.val (.int p1), .val (.int p2), .val (.int p3), .val (.int p4), .val (.int m1), .val (.int (p2 &&& (2147483647 : Int32))), .val (.int mu), .val (.int rp), .unset, .unset] [(.int (15 : Int32)), (.ref b378), (.ref b378)]))
      refine FinW.st (fun _ => XS.bipush X422.here hx rfl (Jvm.hb hby at_133)) ?_
      show FinW p e below s Z EL h0 _ _ _ (T422.setTop (mkF m 135 #[.val (.int p1), .val (.int p2), .val (.int p3), .val (.int p4), .val (.int m1), .val (.int (p2 &&& (2147483647 : Int32))), .val (.int mu), .val (.int rp), .unset, .unset] [(.int (97 : Int32)), (.int (15 : Int32)), (.ref b378), (.ref b378)]))
      obtain ⟨T425, h425, X425, e425, W425, V425, st425⟩ := stC0 X422 hx hZ e422 V422 (j := (15 : Int32)) (by decide) 15 rfl (Nat.le_of_ble_eq_true rfl) rfl (g := (mkF m 135 #[.val (.int p1), .val (.int p2), .val (.int p3), .val (.int p4), .val (.int m1), .val (.int (p2 &&& (2147483647 : Int32))), .val (.int mu), .val (.int rp), .unset, .unset] [(.int (97 : Int32)), (.int (15 : Int32)), (.ref b378), (.ref b378)])) rfl rfl (Jvm.hb hby at_135)
      have N425 := Fr.snoc X425 N422 ge378
      refine FinW.st st425 ?_
      have CH427 := CH424.trans (CHr.wr W425 (Safe.arv hZ.alike V422 (by decide)) CH424.1)
      have V425 : Arv Z h425 b378 _ .char (19 : Int32) [(.int (99 : Int32)), (.int (108 : Int32)), (.int (105 : Int32)), (.int (101 : Int32)), (.int (110 : Int32)), (.int (116 : Int32)), (.int (95 : Int32)), (.int (115 : Int32)), (.int (101 : Int32)), (.int (99 : Int32)), (.int (114 : Int32)), (.int (101 : Int32)), (.int (116 : Int32)), (.int (95 : Int32)), (.int (98 : Int32)), (.int (97 : Int32)), (.int (0 : Int32)), (.int (0 : Int32)), (.int (0 : Int32))] (.int (0 : Int32)) := V425
      show FinW p e below s Z EL h0 _ _ _ (T425.setTop (mkF m 136 #[.val (.int p1), .val (.int p2), .val (.int p3), .val (.int p4), .val (.int m1), .val (.int (p2 &&& (2147483647 : Int32))), .val (.int mu), .val (.int rp), .unset, .unset] [(.ref b378)]))
      refine FinW.st (fun _ => XS.dup X425.here hx rfl (Jvm.hb hby at_136) rfl rfl) ?_
      show FinW p e below s Z EL h0 _ _ _ (T425.setTop (mkF m 137 #[.val (.int p1), .val (.int p2), .val (.int p3), .val (.int p4), .val (.int m1), .val (.int (p2 &&& (2147483647 : Int32))), .val (.int mu), .val (.int rp), .unset, .unset] [(.ref b378), (.ref b378)]))
      refine FinW.st (fun _ => XS.bipush X425.here hx rfl (Jvm.hb hby at_137)) ?_
      show FinW p e below s Z EL h0 _ _ _ (T425.setTop (mkF m 139 #[.val (.int p1), .val (.int p2), .val (.int p3), .val (.int p4), .val (.int m1), .val (.int (p2 &&& (2147483647 : Int32))), .val (.int mu), .val (.int rp), .unset, .unset] [(.int (16 : Int32)), (.ref b378), (.ref b378)]))
      refine FinW.st (fun _ => XS.bipush X425.here hx rfl (Jvm.hb hby at_139)) ?_
      show FinW p e below s Z EL h0 _ _ _ (T425.setTop (mkF m 141 #[.val (.int p1), .val (.int p2), .val (.int p3), .val (.int p4), .val (.int m1), .val (.int (p2 &&& (2147483647 : Int32))), .val (.int mu), .val (.int rp), .unset, .unset] [(.int (115 : Int32)), (.int (16 : Int32)), (.ref b378), (.ref b378)]))
      obtain ⟨T428, h428, X428, e428, W428, V428, st428⟩ := stC0 X425 hx hZ e425 V425 (j := (16 : Int32)) (by decide) 16 rfl (Nat.le_of_ble_eq_true rfl) rfl (g := (mkF m 141 #[.val (.int p1), .val (.int p2), .val (.int p3), .val (.int p4), .val (.int m1), .val (.int (p2 &&& (2147483647 : Int32))), .val (.int mu), .val (.int rp), .unset, .unset] [(.int (115 : Int32)), (.int (16 : Int32)), (.ref b378), (.ref b378)])) rfl rfl (Jvm.hb hby at_141)
      have N428 := Fr.snoc X428 N425 ge378
      refine FinW.st st428 ?_
      have CH430 := CH427.trans (CHr.wr W428 (Safe.arv hZ.alike V425 (by decide)) CH427.1)
      have V428 : Arv Z h428 b378 _ .char (19 : Int32) [(.int (99 : Int32)), (.int (108 : Int32)), (.int (105 : Int32)), (.int (101 : Int32)), (.int (110 : Int32)), (.int (116 : Int32)), (.int (95 : Int32)), (.int (115 : Int32)), (.int (101 : Int32)), (.int (99 : Int32)), (.int (114 : Int32)), (.int (101 : Int32)), (.int (116 : Int32)), (.int (95 : Int32)), (.int (98 : Int32)), (.int (97 : Int32)), (.int (115 : Int32)), (.int (0 : Int32)), (.int (0 : Int32))] (.int (0 : Int32)) := V428
      show FinW p e below s Z EL h0 _ _ _ (T428.setTop (mkF m 142 #[.val (.int p1), .val (.int p2), .val (.int p3), .val (.int p4), .val (.int m1), .val (.int (p2 &&& (2147483647 : Int32))), .val (.int mu), .val (.int rp), .unset, .unset] [(.ref b378)]))
      refine FinW.st (fun _ => XS.dup X428.here hx rfl (Jvm.hb hby at_142) rfl rfl) ?_
      show FinW p e below s Z EL h0 _ _ _ (T428.setTop (mkF m 143 #[.val (.int p1), .val (.int p2), .val (.int p3), .val (.int p4), .val (.int m1), .val (.int (p2 &&& (2147483647 : Int32))), .val (.int mu), .val (.int rp), .unset, .unset] [(.ref b378), (.ref b378)]))
      refine FinW.st (fun _ => XS.bipush X428.here hx rfl (Jvm.hb hby at_143)) ?_
      show FinW p e below s Z EL h0 _ _ _ (T428.setTop (mkF m 145 #[.val (.int p1), .val (.int p2), .val (.int p3), .val (.int p4), .val (.int m1), .val (.int (p2 &&& (2147483647 : Int32))), .val (.int mu), .val (.int rp), .unset, .unset] [(.int (17 : Int32)), (.ref b378), (.ref b378)]))
      refine FinW.st (fun _ => XS.bipush X428.here hx rfl (Jvm.hb hby at_145)) ?_
      show FinW p e below s Z EL h0 _ _ _ (T428.setTop (mkF m 147 #[.val (.int p1), .val (.int p2), .val (.int p3), .val (.int p4), .val (.int m1), .val (.int (p2 &&& (2147483647 : Int32))), .val (.int mu), .val (.int rp), .unset, .unset] [(.int (105 : Int32)), (.int (17 : Int32)), (.ref b378), (.ref b378)]))
      obtain ⟨T431, h431, X431, e431, W431, V431, st431⟩ := stC0 X428 hx hZ e428 V428 (j := (17 : Int32)) (by decide) 17 rfl (Nat.le_of_ble_eq_true rfl) rfl (g := (mkF m 147 #[.val (.int p1), .val (.int p2), .val (.int p3), .val (.int p4), .val (.int m1), .val (.int (p2 &&& (2147483647 : Int32))), .val (.int mu), .val (.int rp), .unset, .unset] [(.int (105 : Int32)), (.int (17 : Int32)), (.ref b378), (.ref b378)])) rfl rfl (Jvm.hb hby at_147)
      have N431 := Fr.snoc X431 N428 ge378
      refine FinW.st st431 ?_
      have CH433 := CH430.trans (CHr.wr W431 (Safe.arv hZ.alike V428 (by decide)) CH430.1)
      have V431 : Arv Z h431 b378 _ .char (19 : Int32) [(.int (99 : Int32)), (.int (108 : Int32)), (.int (105 : Int32)), (.int (101 : Int32)), (.int (110 : Int32)), (.int (116 : Int32)), (.int (95 : Int32)), (.int (115 : Int32)), (.int (101 : Int32)), (.int (99 : Int32)), (.int (114 : Int32)), (.int (101 : Int32)), (.int (116 : Int32)), (.int (95 : Int32)), (.int (98 : Int32)), (.int (97 : Int32)), (.int (115 : Int32)), (.int (105 : Int32)), (.int (0 : Int32))] (.int (0 : Int32)) := V431
      show FinW p e below s Z EL h0 _ _ _ (T431.setTop (mkF m 148 #[.val (.int p1), .val (.int p2), .val (.int p3), .val (.int p4), .val (.int m1), .val (.int (p2 &&& (2147483647 : Int32))), .val (.int mu), .val (.int rp), .unset, .unset] [(.ref b378)]))
      refine FinW.st (fun _ => XS.dup X431.here hx rfl (Jvm.hb hby at_148) rfl rfl) ?_
      show FinW p e below s Z EL h0 _ _ _ (T431.setTop (mkF m 149 #[.val (.int p1), .val (.int p2), .val (.int p3), .val (.int p4), .val (.int m1), .val (.int (p2 &&& (2147483647 : Int32))), .val (.int mu), .val (.int rp), .unset, .unset] [(.ref b378), (.ref b378)]))
      refine FinW.st (fun _ => XS.bipush X431.here hx rfl (Jvm.hb hby at_149)) ?_
      show FinW p e below s Z EL h0 _ _ _ (T431.setTop (mkF m 151 #[.val (.int p1), .val (.int p2), .val (.int p3), .val (.int p4), .val (.int m1), .val (.int (p2 &&& (2147483647 : Int32))), .val (.int mu), .val (.int rp), .unset, .unset] [(.int (18 : Int32)), (.ref b378), (.ref b378)]))
      refine FinW.st (fun _ => XS.bipush X431.here hx rfl (Jvm.hb hby at_151)) ?_
      show FinW p e below s Z EL h0 _ _ _ (T431.setTop (mkF m 153 #[.val (.int p1), .val (.int p2), .val (.int p3), .val (.int p4), .val (.int m1), .val (.int (p2 &&& (2147483647 : Int32))), .val (.int mu), .val (.int rp), .unset, .unset] [(.int (99 : Int32)), (.int (18 : Int32)), (.ref b378), (.ref b378)]))
      obtain ⟨T434, h434, X434, e434, W434, V434, st434⟩ := stC0 X431 hx hZ e431 V431 (j := (18 : Int32)) (by decide) 18 rfl (Nat.le_of_ble_eq_true rfl) rfl (g := (mkF m 153 #[.val (.int p1), .val (.int p2), .val (.int p3), .val (.int p4), .val (.int m1), .val (.int (p2 &&& (2147483647 : Int32))), .val (.int mu), .val (.int rp), .unset, .unset] [(.int (99 : Int32)), (.int (18 : Int32)), (.ref b378), (.ref b378)])) rfl rfl (Jvm.hb hby at_153)
      have N434 := Fr.snoc X434 N431 ge378
      refine FinW.st st434 ?_
      have CH436 := CH433.trans (CHr.wr W434 (Safe.arv hZ.alike V431 (by decide)) CH433.1)
      have V434 : Arv Z h434 b378 _ .char (19 : Int32) [(.int (99 : Int32)), (.int (108 : Int32)), (.int (105 : Int32)), (.int (101 : Int32)), (.int (110 : Int32)), (.int (116 : Int32)), (.int (95 : Int32)), (.int (115 : Int32)), (.int (101 : Int32)), (.int (99 : Int32)), (.int (114 : Int32)), (.int (101 : Int32)), (.int (116 : Int32)), (.int (95 : Int32)), (.int (98 : Int32)), (.int (97 : Int32)), (.int (115 : Int32)), (.int (105 : Int32)), (.int (99 : Int32))] (.int (0 : Int32)) := V434
      show FinW p e below s Z EL h0 _ _ _ (T434.setTop (mkF m 154 #[.val (.int p1), .val (.int p2), .val (.int p3), .val (.int p4), .val (.int m1), .val (.int (p2 &&& (2147483647 : Int32))), .val (.int mu), .val (.int rp), .unset, .unset] [(.ref b378)]))
      refine FinW.st (fun _ => XS.astore X434.here hx rfl (Jvm.hb hby at_154) rfl rfl (l' := #[.val (.int p1), .val (.int p2), .val (.int p3), .val (.int p4), .val (.int m1), .val (.int (p2 &&& (2147483647 : Int32))), .val (.int mu), .val (.int rp), .unset, .val (.ref b378)]) rfl) ?_
      show FinW p e below s Z EL h0 _ _ _ (T434.setTop (mkF m 156 #[.val (.int p1), .val (.int p2), .val (.int p3), .val (.int p4), .val (.int m1), .val (.int (p2 &&& (2147483647 : Int32))), .val (.int mu), .val (.int rp), .unset, .val (.ref b378)] []))
      refine FinW.st (fun _ => XS.iload X434.here hx rfl (Jvm.hb hby at_156) rfl) ?_
      show FinW p e below s Z EL h0 _ _ _ (T434.setTop (mkF m 158 #[.val (.int p1), .val (.int p2), .val (.int p3), .val (.int p4), .val (.int m1), .val (.int (p2 &&& (2147483647 : Int32))), .val (.int mu), .val (.int rp), .unset, .val (.ref b378)] [(.int mu)]))
      refine joinHW (α := List Int32) (P := fun ds T437 h437 L437 vm437 => (Stand p l e room_1 (s.setVm vm437) m #[(.int p1), (.int p2), (.int p3), (.int p4)] below meth c T437 L437 1 19) ∧ (T437.heap = h437) ∧ (Fr n0 L437) ∧ (Old Z n0 h437) ∧ (ds.length = 19 ∧ (∀ c ∈ ds, ¬ c < 0 ∧ ¬ (255 : Int32) < c)) ∧ (Snc s vm437 h437) ∧ (CHr Z EL s.vm h0 vm437 h437) ∧ (Z.Warmed39 (s.setVm vm437).vm) ∧ ((s.setVm vm437).vm.findClass "com/example/grantwell/grantwell/server/AuthMethodNamedPinLaw" = some m.cls) ∧ (∃ ka, Arv Z h437 b378 ka .char (19 : Int32) (ds.map Value.int) (.int 0))) (A := fun ds T437 => T437.setTop (mkF m 172 #[.val (.int p1), .val (.int p2), .val (.int p3), .val (.int p4), .val (.int m1), .val (.int (p2 &&& (2147483647 : Int32))), .val (.int mu), .val (.int rp), .unset, .val (.ref b378)] [])) ?_ ?_
      · rintro ds T437 h437 L437 vm437 ⟨X437, e437, N437, O437, ⟨hds, hbs⟩, B437, CH437, hZ437, hown437, G437_0⟩
        show FinW p e below s Z EL h0 _ _ _ (T437.setTop (mkF m 172 #[.val (.int p1), .val (.int p2), .val (.int p3), .val (.int p4), .val (.int m1), .val (.int (p2 &&& (2147483647 : Int32))), .val (.int mu), .val (.int rp), .unset, .val (.ref b378)] []))
        obtain ⟨ka, Va⟩ := G437_0
        obtain ⟨b438, g438⟩ : ∃ z, z = h437.size := ⟨_, rfl⟩
        have ne439 : b378 ≠ b438 := by rw [g438]; exact Nat.ne_of_lt Va.lt
        have ge438 : n0 ≤ b438 := by rw [g438]; exact O437.own_le
        obtain ⟨T438, h438, X438, e438, E438, A438, D438, -, st438⟩ := newO X437 hx hZ437 hown437 (hw _ (List.mem_of_getElem? (i := 2) rfl)) (hw _ (List.mem_of_getElem? (i := 3) rfl)) (hw _ (List.mem_of_getElem? (i := 4) rfl)) e437 (g := (mkF m 172 #[.val (.int p1), .val (.int p2), .val (.int p3), .val (.int p4), .val (.int m1), .val (.int (p2 &&& (2147483647 : Int32))), .val (.int mu), .val (.int rp), .unset, .val (.ref b378)] [])) rfl (Jvm.hb hby at_172) (by decide) (by decide)
        rw [← g438] at A438 D438 st438
        have CH440 := CH437.trans (CHr.ext E438 CH437.1)
        have F438_coder : Fld Z h438 b438 "java/lang/String" "coder" "B" (.int (0 : Int32)) := D438 (Or.inr (hw _ (List.mem_of_getElem? (i := 28) rfl))) (ty := .byte) (by decide)
        have F438_value : Fld Z h438 b438 "java/lang/String" "value" "[B" .null := D438 (Or.inr (hw _ (List.mem_of_getElem? (i := 30) rfl))) (ty := (.array .byte)) (by decide)
        refine FinW.st st438 ?_
        show FinW p e below s Z EL h0 _ _ _ (T438.setTop (mkF m 175 #[.val (.int p1), .val (.int p2), .val (.int p3), .val (.int p4), .val (.int m1), .val (.int (p2 &&& (2147483647 : Int32))), .val (.int mu), .val (.int rp), .unset, .val (.ref b378)] [(.ref b438)]))
        refine FinW.st (fun _ => XS.dup X438.here hx rfl (Jvm.hb hby at_175) rfl rfl) ?_
        show FinW p e below s Z EL h0 _ _ _ (T438.setTop (mkF m 176 #[.val (.int p1), .val (.int p2), .val (.int p3), .val (.int p4), .val (.int m1), .val (.int (p2 &&& (2147483647 : Int32))), .val (.int mu), .val (.int rp), .unset, .val (.ref b378)] [(.ref b438), (.ref b438)]))
        refine FinW.st (fun _ => XS.aload X438.here hx rfl (Jvm.hb hby at_176) rfl rfl) ?_
        show FinW p e below s Z EL h0 _ _ _ (T438.setTop (mkF m 178 #[.val (.int p1), .val (.int p2), .val (.int p3), .val (.int p4), .val (.int m1), .val (.int (p2 &&& (2147483647 : Int32))), .val (.int mu), .val (.int rp), .unset, .val (.ref b378)] [(.ref b378), (.ref b438), (.ref b438)]))
        have f441 := O437.ext E438
        have f442 := Va.ext E438
        obtain ⟨_, T443, h443, L443, X443, e443, ⟨rfl, Nq443, K443, t443, gt443, sz443, nt443, S443⟩, st443⟩ := goI X438 hx hZ437 hown437 rfl (hw _ (List.mem_of_getElem? (i := 5) rfl)) (hw _ (List.mem_of_getElem? (i := 6) rfl)) (hw _ (List.mem_of_getElem? (i := 7) rfl)) (by decide) (strNew (len := 3) (W := 1) hZ437 hw (hw _ (List.mem_of_getElem? (i := 3) rfl)) (cs := ds) (n := 19) ge438 f441.own_le A438 F438_value F438_coder f442 (SC.ext f441.2) hcz hds (by decide) (by decide) hbs (by decide) (by decide)) e438 (g := (mkF m 178 #[.val (.int p1), .val (.int p2), .val (.int p3), .val (.int p4), .val (.int m1), .val (.int (p2 &&& (2147483647 : Int32))), .val (.int mu), .val (.int rp), .unset, .val (.ref b378)] [(.ref b378), (.ref b438), (.ref b438)])) rfl (by rw [hml]; rfl) [(.ref b378)] [(.ref b438)] (lenOf pd_1 rfl) rfl (by show 2 * 0 + _ ≤ _; exact Nat.le_of_eq rfl) (Jvm.hb hby at_178) rfl (by decide) (by decide)
        have N443 := N437.app Nq443
        refine FinW.st st443 ?_
        have CH444 := CH440.trans (CHr.keep K443 (sfS (Jvm.OwnKit.Safe.null hZ437.alike A438 F438_value) sf0) CH440.1)
        show FinW p e below s Z EL h0 _ _ _ (T443.setTop (mkF m 181 #[.val (.int p1), .val (.int p2), .val (.int p3), .val (.int p4), .val (.int m1), .val (.int (p2 &&& (2147483647 : Int32))), .val (.int mu), .val (.int rp), .unset, .val (.ref b378)] [(.ref b438)]))
        refine FinW.st (fun _ => XS.astore X443.here hx rfl (Jvm.hb hby at_181) rfl rfl (l' := #[.val (.int p1), .val (.int p2), .val (.int p3), .val (.int p4), .val (.int m1), .val (.int (p2 &&& (2147483647 : Int32))), .val (.int mu), .val (.int rp), .val (.ref b438), .val (.ref b378)]) rfl) ?_
        show FinW p e below s Z EL h0 _ _ _ (T443.setTop (mkF m 183 #[.val (.int p1), .val (.int p2), .val (.int p3), .val (.int p4), .val (.int m1), .val (.int (p2 &&& (2147483647 : Int32))), .val (.int mu), .val (.int rp), .val (.ref b438), .val (.ref b378)] []))
        refine FinW.st (fun _ => XS.goto X443.here hx rfl (pc0 := 183) (pc' := 413) rfl (Jvm.hb hby at_183) (by decide) (by decide)) ?_
        show FinW p e below s Z EL h0 _ _ _ (T443.setTop (mkF m 413 #[.val (.int p1), .val (.int p2), .val (.int p3), .val (.int p4), .val (.int m1), .val (.int (p2 &&& (2147483647 : Int32))), .val (.int mu), .val (.int rp), .val (.ref b438), .val (.ref b378)] []))
        have f445 := f441.keep K443 (allS ge438 all0)
        have f446 := B437.ext E438
        have f447 := f446.keep K443
        exact j413 (b438, .val (.ref b378)) _ _ _ vm437 ⟨X443.more (by decide) (by decide), e443, N443, f445, ⟨⟨_, _, S443⟩, One.val rfl⟩, f447, CH444, hZ437, hown437⟩
      intro j172
      by_cases f172 : mu = (0 : Int32)
      · skip
        refine FinW.st (fun _ => XS.ifYes X434.here hx rfl (pc0 := 158) (pc' := 172) rfl (Jvm.hb hby at_158) rfl (zeq f172) (by decide) (by decide)) ?_
        show FinW p e below s Z EL h0 _ _ _ (T434.setTop (mkF m 172 #[.val (.int p1), .val (.int p2), .val (.int p3), .val (.int p4), .val (.int m1), .val (.int (p2 &&& (2147483647 : Int32))), .val (.int mu), .val (.int rp), .unset, .val (.ref b378)] []))
        have f448 := O.ext E378
        have f449 := f448.wr W380 ge378
        have f450 := f449.wr W383 ge378
        have f451 := f450.wr W386 ge378
        have f452 := f451.wr W389 ge378
        have f453 := f452.wr W392 ge378
        have f454 := f453.wr W395 ge378
        have f455 := f454.wr W398 ge378
        have f456 := f455.wr W401 ge378
        have f457 := f456.wr W404 ge378
        have f458 := f457.wr W407 ge378
        have f459 := f458.wr W410 ge378
        have f460 := f459.wr W413 ge378
        have f461 := f460.wr W416 ge378
        have f462 := f461.wr W419 ge378
        have f463 := f462.wr W422 ge378
        have f464 := f463.wr W425 ge378
        have f465 := f464.wr W428 ge378
        have f466 := f465.wr W431 ge378
        have f467 := f466.wr W434 ge378
        have f468 := B0.ext E378
        have f469 := f468.wr W380
        have f470 := f469.wr W383
        have f471 := f470.wr W386
        have f472 := f471.wr W389
        have f473 := f472.wr W392
        have f474 := f473.wr W395
        have f475 := f474.wr W398
        have f476 := f475.wr W401
        have f477 := f476.wr W404
        have f478 := f477.wr W407
        have f479 := f478.wr W410
        have f480 := f479.wr W413
        have f481 := f480.wr W416
        have f482 := f481.wr W419
        have f483 := f482.wr W422
        have f484 := f483.wr W425
        have f485 := f484.wr W428
        have f486 := f485.wr W431
        have f487 := f486.wr W434
        exact j172 nm0 _ _ _ vm0 ⟨X434.more (by decide) (by decide), e434, N434, f467, ⟨rfl, by decide⟩, f487, CH436, hZ, hown, ⟨_, V434⟩⟩
      · skip
        refine FinW.st (fun _ => XS.ifNo X434.here hx rfl (Jvm.hb hby at_158) rfl (zeqN f172)) ?_
        show FinW p e below s Z EL h0 _ _ _ (T434.setTop (mkF m 161 #[.val (.int p1), .val (.int p2), .val (.int p3), .val (.int p4), .val (.int m1), .val (.int (p2 &&& (2147483647 : Int32))), .val (.int mu), .val (.int rp), .unset, .val (.ref b378)] []))
        refine FinW.st (fun _ => XS.aload X434.here hx rfl (Jvm.hb hby at_161) rfl rfl) ?_
        show FinW p e below s Z EL h0 _ _ _ (T434.setTop (mkF m 163 #[.val (.int p1), .val (.int p2), .val (.int p3), .val (.int p4), .val (.int m1), .val (.int (p2 &&& (2147483647 : Int32))), .val (.int mu), .val (.int rp), .unset, .val (.ref b378)] [(.ref b378)]))
        refine FinW.st (fun _ => XS.iload X434.here hx rfl (Jvm.hb hby at_163) rfl) ?_
        show FinW p e below s Z EL h0 _ _ _ (T434.setTop (mkF m 165 #[.val (.int p1), .val (.int p2), .val (.int p3), .val (.int p4), .val (.int m1), .val (.int (p2 &&& (2147483647 : Int32))), .val (.int mu), .val (.int rp), .unset, .val (.ref b378)] [(.int (p2 &&& (2147483647 : Int32))), (.ref b378)]))
        refine FinW.st (fun _ => XS.aload X434.here hx rfl (Jvm.hb hby at_165) rfl rfl) ?_
        show FinW p e below s Z EL h0 _ _ _ (T434.setTop (mkF m 167 #[.val (.int p1), .val (.int p2), .val (.int p3), .val (.int p4), .val (.int m1), .val (.int (p2 &&& (2147483647 : Int32))), .val (.int mu), .val (.int rp), .unset, .val (.ref b378)] [(.ref b378), (.int (p2 &&& (2147483647 : Int32))), (.ref b378)]))
        refine FinW.st (alen X434 hx hZ e434 V434 (g := (mkF m 167 #[.val (.int p1), .val (.int p2), .val (.int p3), .val (.int p4), .val (.int m1), .val (.int (p2 &&& (2147483647 : Int32))), .val (.int mu), .val (.int rp), .unset, .val (.ref b378)] [(.ref b378), (.int (p2 &&& (2147483647 : Int32))), (.ref b378)])) rfl rfl (Jvm.hb hby at_167)) ?_
        show FinW p e below s Z EL h0 _ _ _ (T434.setTop (mkF m 168 #[.val (.int p1), .val (.int p2), .val (.int p3), .val (.int p4), .val (.int m1), .val (.int (p2 &&& (2147483647 : Int32))), .val (.int mu), .val (.int rp), .unset, .val (.ref b378)] [(.int (19 : Int32)), (.int (p2 &&& (2147483647 : Int32))), (.ref b378)]))
        refine FinW.st (fun _ => iremM X434 hx rfl (Jvm.hb hby at_168) rfl (by decide)) ?_
        show FinW p e below s Z EL h0 _ _ _ (T434.setTop (mkF m 169 #[.val (.int p1), .val (.int p2), .val (.int p3), .val (.int p4), .val (.int m1), .val (.int (p2 &&& (2147483647 : Int32))), .val (.int mu), .val (.int rp), .unset, .val (.ref b378)] [(.int ((p2 &&& (2147483647 : Int32)) % (19 : Int32))), (.ref b378)]))
        refine FinW.st (fun _ => XS.iload X434.here hx rfl (Jvm.hb hby at_169) rfl) ?_
        show FinW p e below s Z EL h0 _ _ _ (T434.setTop (mkF m 171 #[.val (.int p1), .val (.int p2), .val (.int p3), .val (.int p4), .val (.int m1), .val (.int (p2 &&& (2147483647 : Int32))), .val (.int mu), .val (.int rp), .unset, .val (.ref b378)] [(.int rp), (.int ((p2 &&& (2147483647 : Int32)) % (19 : Int32))), (.ref b378)]))
        obtain ⟨ix, hix, lix, uix⟩ := remN (x := p2) (n := (19 : Int32)) (by decide)
        rw [hix]
        show FinW p e below s Z EL h0 _ _ _ (T434.setTop (mkF m 171 #[.val (.int p1), .val (.int p2), .val (.int p3), .val (.int p4), .val (.int m1), .val (.int (p2 &&& (2147483647 : Int32))), .val (.int mu), .val (.int rp), .unset, .val (.ref b378)] [(.int rp), (.int ix), (.ref b378)]))
        obtain ⟨T488, h488, X488, e488, W488, V488, st488⟩ := stC0 X434 hx hZ e434 V434 (j := ix) ⟨lix, uix⟩ _ rfl (nlt (N := (19 : Int32)) rfl lix uix) (nar_chr lrp urp) (g := (mkF m 171 #[.val (.int p1), .val (.int p2), .val (.int p3), .val (.int p4), .val (.int m1), .val (.int (p2 &&& (2147483647 : Int32))), .val (.int mu), .val (.int rp), .unset, .val (.ref b378)] [(.int rp), (.int ix), (.ref b378)])) rfl rfl (Jvm.hb hby at_171)
        have N488 := Fr.snoc X488 N434 ge378
        refine FinW.st st488 ?_
        have CH489 := CH436.trans (CHr.wr W488 (Safe.arv hZ.alike V434 (by decide)) CH436.1)
        show FinW p e below s Z EL h0 _ _ _ (T488.setTop (mkF m 172 #[.val (.int p1), .val (.int p2), .val (.int p3), .val (.int p4), .val (.int m1), .val (.int (p2 &&& (2147483647 : Int32))), .val (.int mu), .val (.int rp), .unset, .val (.ref b378)] []))
        have V488 : ∃ ka, Arv Z h488 b378 ka .char (19 : Int32) ((nm0.set ix.toNatClampNeg rp).map Value.int) (.int 0) := ⟨_, by rw [List.map_set]; exact V488⟩
        have f490 := O.ext E378
        have f491 := f490.wr W380 ge378
        have f492 := f491.wr W383 ge378
        have f493 := f492.wr W386 ge378
        have f494 := f493.wr W389 ge378
        have f495 := f494.wr W392 ge378
        have f496 := f495.wr W395 ge378
        have f497 := f496.wr W398 ge378
        have f498 := f497.wr W401 ge378
        have f499 := f498.wr W404 ge378
        have f500 := f499.wr W407 ge378
        have f501 := f500.wr W410 ge378
        have f502 := f501.wr W413 ge378
        have f503 := f502.wr W416 ge378
        have f504 := f503.wr W419 ge378
        have f505 := f504.wr W422 ge378
        have f506 := f505.wr W425 ge378
        have f507 := f506.wr W428 ge378
        have f508 := f507.wr W431 ge378
        have f509 := f508.wr W434 ge378
        have f510 := f509.wr W488 ge378
        have f511 := B0.ext E378
        have f512 := f511.wr W380
        have f513 := f512.wr W383
        have f514 := f513.wr W386
        have f515 := f514.wr W389
        have f516 := f515.wr W392
        have f517 := f516.wr W395
        have f518 := f517.wr W398
        have f519 := f518.wr W401
        have f520 := f519.wr W404
        have f521 := f520.wr W407
        have f522 := f521.wr W410
        have f523 := f522.wr W413
        have f524 := f523.wr W416
        have f525 := f524.wr W419
        have f526 := f525.wr W422
        have f527 := f526.wr W425
        have f528 := f527.wr W428
        have f529 := f528.wr W431
        have f530 := f529.wr W434
        have f531 := f530.wr W488
        exact j172 (nm0.set ix.toNatClampNeg rp) _ _ _ vm0 ⟨X488.more (by decide) (by decide), e488, N488, f510, ⟨by rw [List.length_set]; try rfl, set_ok (by decide) ⟨lrp, urp⟩⟩, f531, CH489, hZ, hown, V488⟩
    · skip
      refine FinW.st (fun _ => XS.ifYes X0.here hx rfl (pc0 := 39) (pc' := 186) rfl (Jvm.hb hby at_39) rfl (zne hm0) (by decide) (by decide)) ?_
      show FinW p e below s Z EL h0 _ _ _ (T0.setTop (mkF m 186 #[.val (.int p1), .val (.int p2), .val (.int p3), .val (.int p4), .val (.int m1), .val (.int (p2 &&& (2147483647 : Int32))), .val (.int mu), .val (.int rp), .unset, .unset] []))
      refine FinW.st (fun _ => XS.iload X0.here hx rfl (Jvm.hb hby at_186) rfl) ?_
      show FinW p e below s Z EL h0 _ _ _ (T0.setTop (mkF m 188 #[.val (.int p1), .val (.int p2), .val (.int p3), .val (.int p4), .val (.int m1), .val (.int (p2 &&& (2147483647 : Int32))), .val (.int mu), .val (.int rp), .unset, .unset] [(.int m1)]))
      refine FinW.st (fun _ => XS.iconst X0.here hx rfl (Jvm.hb hby at_188)) ?_
      show FinW p e below s Z EL h0 _ _ _ (T0.setTop (mkF m 189 #[.val (.int p1), .val (.int p2), .val (.int p3), .val (.int p4), .val (.int m1), .val (.int (p2 &&& (2147483647 : Int32))), .val (.int mu), .val (.int rp), .unset, .unset] [(.int (1 : Int32)), (.int m1)]))
      by_cases hm1 : m1 = (1 : Int32)
      · skip
        refine FinW.st (fun _ => XS.icmpNo X0.here hx rfl (Jvm.hb hby at_189) rfl (ineN hm1)) ?_
        show FinW p e below s Z EL h0 _ _ _ (T0.setTop (mkF m 192 #[.val (.int p1), .val (.int p2), .val (.int p3), .val (.int p4), .val (.int m1), .val (.int (p2 &&& (2147483647 : Int32))), .val (.int mu), .val (.int rp), .unset, .unset] []))
        refine FinW.st (fun _ => XS.bipush X0.here hx rfl (Jvm.hb hby at_192)) ?_
        show FinW p e below s Z EL h0 _ _ _ (T0.setTop (mkF m 194 #[.val (.int p1), .val (.int p2), .val (.int p3), .val (.int p4), .val (.int m1), .val (.int (p2 &&& (2147483647 : Int32))), .val (.int mu), .val (.int rp), .unset, .unset] [(.int (18 : Int32))]))
        obtain ⟨b532, g532⟩ : ∃ z, z = h0.size := ⟨_, rfl⟩
        have ge532 : n0 ≤ b532 := by rw [g532]; exact O.own_le
        obtain ⟨T532, h532, k532, X532, e532, E532, A532, st532⟩ := newA0 X0 hx hZ (hw _ (List.mem_of_getElem? (i := 1) rfl)) e0 (g := (mkF m 194 #[.val (.int p1), .val (.int p2), .val (.int p3), .val (.int p4), .val (.int m1), .val (.int (p2 &&& (2147483647 : Int32))), .val (.int mu), .val (.int rp), .unset, .unset] [(.int (18 : Int32))])) rfl (Jvm.hb hby at_194) rfl (by decide) (N := 18) (by decide) (by decide) (by decide) (by decide)
        rw [← g532] at A532 st532
        have V532 : Arv Z h532 b532 k532 .char (18 : Int32) [(.int (0 : Int32)), (.int (0 : Int32)), (.int (0 : Int32)), (.int (0 : Int32)), (.int (0 : Int32)), (.int (0 : Int32)), (.int (0 : Int32)), (.int (0 : Int32)), (.int (0 : Int32)), (.int (0 : Int32)), (.int (0 : Int32)), (.int (0 : Int32)), (.int (0 : Int32)), (.int (0 : Int32)), (.int (0 : Int32)), (.int (0 : Int32)), (.int (0 : Int32)), (.int (0 : Int32))] (.int (0 : Int32)) := A532
        have CH533 := CH0.trans (CHr.ext E532 CH0.1)
        refine FinW.st st532 ?_
        show FinW p e below s Z EL h0 _ _ _ (T532.setTop (mkF m 196 #[.val (.int p1), .val (.int p2), .val (.int p3), .val (.int p4), .val (.int m1), .val (.int (p2 &&& (2147483647 : Int32))), .val (.int mu), .val (.int rp), .unset, .unset] [(.ref b532)]))
        refine FinW.st (fun _ => XS.dup X532.here hx rfl (Jvm.hb hby at_196) rfl rfl) ?_
        show FinW p e below s Z EL h0 _ _ _ (T532.setTop (mkF m 197 #[.val (.int p1), .val (.int p2), .val (.int p3), .val (.int p4), .val (.int m1), .val (.int (p2 &&& (2147483647 : Int32))), .val (.int mu), .val (.int rp), .unset, .unset] [(.ref b532), (.ref b532)]))
        refine FinW.st (fun _ => XS.iconst X532.here hx rfl (Jvm.hb hby at_197)) ?_
        show FinW p e below s Z EL h0 _ _ _ (T532.setTop (mkF m 198 #[.val (.int p1), .val (.int p2), .val (.int p3), .val (.int p4), .val (.int m1), .val (.int (p2 &&& (2147483647 : Int32))), .val (.int mu), .val (.int rp), .unset, .unset] [(.int (0 : Int32)), (.ref b532), (.ref b532)]))
        refine FinW.st (fun _ => XS.bipush X532.here hx rfl (Jvm.hb hby at_198)) ?_
        show FinW p e below s Z EL h0 _ _ _ (T532.setTop (mkF m 200 #[.val (.int p1), .val (.int p2), .val (.int p3), .val (.int p4), .val (.int m1), .val (.int (p2 &&& (2147483647 : Int32))), .val (.int mu), .val (.int rp), .unset, .unset] [(.int (99 : Int32)), (.int (0 : Int32)), (.ref b532), (.ref b532)]))
        obtain ⟨T534, h534, X534, e534, W534, V534, st534⟩ := stC0 X532 hx hZ e532 V532 (j := (0 : Int32)) (by decide) 0 rfl (Nat.le_of_ble_eq_true rfl) rfl (g := (mkF m 200 #[.val (.int p1), .val (.int p2), .val (.int p3), .val (.int p4), .val (.int m1), .val (.int (p2 &&& (2147483647 : Int32))), .val (.int mu), .val (.int rp), .unset, .unset] [(.int (99 : Int32)), (.int (0 : Int32)), (.ref b532), (.ref b532)])) rfl rfl (Jvm.hb hby at_200)
        have N534 := Fr.snoc X534 N0 ge532
        refine FinW.st st534 ?_
        have CH536 := CH533.trans (CHr.wr W534 (Safe.arv hZ.alike V532 (by decide)) CH533.1)
        have V534 : Arv Z h534 b532 _ .char (18 : Int32) [(.int (99 : Int32)), (.int (0 : Int32)), (.int (0 : Int32)), (.int (0 : Int32)), (.int (0 : Int32)), (.int (0 : Int32)), (.int (0 : Int32)), (.int (0 : Int32)), (.int (0 : Int32)), (.int (0 : Int32)), (.int (0 : Int32)), (.int (0 : Int32)), (.int (0 : Int32)), (.int (0 : Int32)), (.int (0 : Int32)), (.int (0 : Int32)), (.int (0 : Int32)), (.int (0 : Int32))] (.int (0 : Int32)) := V534
        show FinW p e below s Z EL h0 _ _ _ (T534.setTop (mkF m 201 #[.val (.int p1), .val (.int p2), .val (.int p3), .val (.int p4), .val (.int m1), .val (.int (p2 &&& (2147483647 : Int32))), .val (.int mu), .val (.int rp), .unset, .unset] [(.ref b532)]))
        refine FinW.st (fun _ => XS.dup X534.here hx rfl (Jvm.hb hby at_201) rfl rfl) ?_
        show FinW p e below s Z EL h0 _ _ _ (T534.setTop (mkF m 202 #[.val (.int p1), .val (.int p2), .val (.int p3), .val (.int p4), .val (.int m1), .val (.int (p2 &&& (2147483647 : Int32))), .val (.int mu), .val (.int rp), .unset, .unset] [(.ref b532), (.ref b532)]))
        refine FinW.st (fun _ => XS.iconst X534.here hx rfl (Jvm.hb hby at_202)) ?_
        show FinW p e below s Z EL h0 _ _ _ (T534.setTop (mkF m 203 #[.val (.int p1), .val (.int p2), .val (.int p3), .val (.int p4), .val (.int m1), .val (.int (p2 &&& (2147483647 : Int32))), .val (.int mu), .val (.int rp), .unset, .unset] [(.int (1 : Int32)), (.ref b532), (.ref b532)]))
        refine FinW.st (fun _ => XS.bipush X534.here hx rfl (Jvm.hb hby at_203)) ?_
        show FinW p e below s Z EL h0 _ _ _ (T534.setTop (mkF m 205 #[.val (.int p1), .val (.int p2), .val (.int p3), .val (.int p4), .val (.int m1), .val (.int (p2 &&& (2147483647 : Int32))), .val (.int mu), .val (.int rp), .unset, .unset] [(.int (108 : Int32)), (.int (1 : Int32)), (.ref b532), (.ref b532)]))
        obtain ⟨T537, h537, X537, e537, W537, V537, st537⟩ := stC0 X534 hx hZ e534 V534 (j := (1 : Int32)) (by decide) 1 rfl (Nat.le_of_ble_eq_true rfl) rfl (g := (mkF m 205 #[.val (.int p1), .val (.int p2), .val (.int p3), .val (.int p4), .val (.int m1), .val (.int (p2 &&& (2147483647 : Int32))), .val (.int mu), .val (.int rp), .unset, .unset] [(.int (108 : Int32)), (.int (1 : Int32)), (.ref b532), (.ref b532)])) rfl rfl (Jvm.hb hby at_205)
        have N537 := Fr.snoc X537 N534 ge532
        refine FinW.st st537 ?_
        have CH539 := CH536.trans (CHr.wr W537 (Safe.arv hZ.alike V534 (by decide)) CH536.1)
        have V537 : Arv Z h537 b532 _ .char (18 : Int32) [(.int (99 : Int32)), (.int (108 : Int32)), (.int (0 : Int32)), (.int (0 : Int32)), (.int (0 : Int32)), (.int (0 : Int32)), (.int (0 : Int32)), (.int (0 : Int32)), (.int (0 : Int32)), (.int (0 : Int32)), (.int (0 : Int32)), (.int (0 : Int32)), (.int (0 : Int32)), (.int (0 : Int32)), (.int (0 : Int32)), (.int (0 : Int32)), (.int (0 : Int32)), (.int (0 : Int32))] (.int (0 : Int32)) := V537
        show FinW p e below s Z EL h0 _ _ _ (T537.setTop (mkF m 206 #[.val (.int p1), .val (.int p2), .val (.int p3), .val (.int p4), .val (.int m1), .val (.int (p2 &&& (2147483647 : Int32))), .val (.int mu), .val (.int rp), .unset, .unset] [(.ref b532)]))
        refine FinW.st (fun _ => XS.dup X537.here hx rfl (Jvm.hb hby at_206) rfl rfl) ?_
        show FinW p e below s Z EL h0 _ _ _ (T537.setTop (mkF m 207 #[.val (.int p1), .val (.int p2), .val (.int p3), .val (.int p4), .val (.int m1), .val (.int (p2 &&& (2147483647 : Int32))), .val (.int mu), .val (.int rp), .unset, .unset] [(.ref b532), (.ref b532)]))
        refine FinW.st (fun _ => XS.iconst X537.here hx rfl (Jvm.hb hby at_207)) ?_
        show FinW p e below s Z EL h0 _ _ _ (T537.setTop (mkF m 208 #[.val (.int p1), .val (.int p2), .val (.int p3), .val (.int p4), .val (.int m1), .val (.int (p2 &&& (2147483647 : Int32))), .val (.int mu), .val (.int rp), .unset, .unset] [(.int (2 : Int32)), (.ref b532), (.ref b532)]))
        refine FinW.st (fun _ => XS.bipush X537.here hx rfl (Jvm.hb hby at_208)) ?_
        show FinW p e below s Z EL h0 _ _ _ (T537.setTop (mkF m 210 #[.val (.int p1), .val (.int p2), .val (.int p3), .val (.int p4), .val (.int m1), .val (.int (p2 &&& (2147483647 : Int32))), .val (.int mu), .val (.int rp), .unset, .unset] [(.int (105 : Int32)), (.int (2 : Int32)), (.ref b532), (.ref b532)]))
        obtain ⟨T540, h540, X540, e540, W540, V540, st540⟩ := stC0 X537 hx hZ e537 V537 (j := (2 : Int32)) (by decide) 2 rfl (Nat.le_of_ble_eq_true rfl) rfl (g := (mkF m 210 #[.val (.int p1), .val (.int p2), .val (.int p3), .val (.int p4), .val (.int m1), .val (.int (p2 &&& (2147483647 : Int32))), .val (.int mu), .val (.int rp), .unset, .unset] [(.int (105 : Int32)), (.int (2 : Int32)), (.ref b532), (.ref b532)])) rfl rfl (Jvm.hb hby at_210)
        have N540 := Fr.snoc X540 N537 ge532
        refine FinW.st st540 ?_
        have CH542 := CH539.trans (CHr.wr W540 (Safe.arv hZ.alike V537 (by decide)) CH539.1)
        have V540 : Arv Z h540 b532 _ .char (18 : Int32) [(.int (99 : Int32)), (.int (108 : Int32)), (.int (105 : Int32)), (.int (0 : Int32)), (.int (0 : Int32)), (.int (0 : Int32)), (.int (0 : Int32)), (.int (0 : Int32)), (.int (0 : Int32)), (.int (0 : Int32)), (.int (0 : Int32)), (.int (0 : Int32)), (.int (0 : Int32)), (.int (0 : Int32)), (.int (0 : Int32)), (.int (0 : Int32)), (.int (0 : Int32)), (.int (0 : Int32))] (.int (0 : Int32)) := V540
        show FinW p e below s Z EL h0 _ _ _ (T540.setTop (mkF m 211 #[.val (.int p1), .val (.int p2), .val (.int p3), .val (.int p4), .val (.int m1), .val (.int (p2 &&& (2147483647 : Int32))), .val (.int mu), .val (.int rp), .unset, .unset] [(.ref b532)]))
        refine FinW.st (fun _ => XS.dup X540.here hx rfl (Jvm.hb hby at_211) rfl rfl) ?_
        show FinW p e below s Z EL h0 _ _ _ (T540.setTop (mkF m 212 #[.val (.int p1), .val (.int p2), .val (.int p3), .val (.int p4), .val (.int m1), .val (.int (p2 &&& (2147483647 : Int32))), .val (.int mu), .val (.int rp), .unset, .unset] [(.ref b532), (.ref b532)]))
        refine FinW.st (fun _ => XS.iconst X540.here hx rfl (Jvm.hb hby at_212)) ?_
        show FinW p e below s Z EL h0 _ _ _ (T540.setTop (mkF m 213 #[.val (.int p1), .val (.int p2), .val (.int p3), .val (.int p4), .val (.int m1), .val (.int (p2 &&& (2147483647 : Int32))), .val (.int mu), .val (.int rp), .unset, .unset] [(.int (3 : Int32)), (.ref b532), (.ref b532)]))
        refine FinW.st (fun _ => XS.bipush X540.here hx rfl (Jvm.hb hby at_213)) ?_
        show FinW p e below s Z EL h0 _ _ _ (T540.setTop (mkF m 215 #[.val (.int p1), .val (.int p2), .val (.int p3), .val (.int p4), .val (.int m1), .val (.int (p2 &&& (2147483647 : Int32))), .val (.int mu), .val (.int rp), .unset, .unset] [(.int (101 : Int32)), (.int (3 : Int32)), (.ref b532), (.ref b532)]))
        obtain ⟨T543, h543, X543, e543, W543, V543, st543⟩ := stC0 X540 hx hZ e540 V540 (j := (3 : Int32)) (by decide) 3 rfl (Nat.le_of_ble_eq_true rfl) rfl (g := (mkF m 215 #[.val (.int p1), .val (.int p2), .val (.int p3), .val (.int p4), .val (.int m1), .val (.int (p2 &&& (2147483647 : Int32))), .val (.int mu), .val (.int rp), .unset, .unset] [(.int (101 : Int32)), (.int (3 : Int32)), (.ref b532), (.ref b532)])) rfl rfl (Jvm.hb hby at_215)
        have N543 := Fr.snoc X543 N540 ge532
        refine FinW.st st543 ?_
        have CH545 := CH542.trans (CHr.wr W543 (Safe.arv hZ.alike V540 (by decide)) CH542.1)
        have V543 : Arv Z h543 b532 _ .char (18 : Int32) [(.int (99 : Int32)), (.int (108 : Int32)), (.int (105 : Int32)), (.int (101 : Int32)), (.int (0 : Int32)), (.int (0 : Int32)), (.int (0 : Int32)), (.int (0 : Int32)), (.int (0 : Int32)), (.int (0 : Int32)), (.int (0 : Int32)), (.int (0 : Int32)), (.int (0 : Int32)), (.int (0 : Int32)), (.int (0 : Int32)), (.int (0 : Int32)), (.int (0 : Int32)), (.int (0 : Int32))] (.int (0 : Int32)) := V543
        show FinW p e below s Z EL h0 _ _ _ (T543.setTop (mkF m 216 #[.val (.int p1), .val (.int p2), .val (.int p3), .val (.int p4), .val (.int m1), .val (.int (p2 &&& (2147483647 : Int32))), .val (.int mu), .val (.int rp), .unset, .unset] [(.ref b532)]))
        refine FinW.st (fun _ => XS.dup X543.here hx rfl (Jvm.hb hby at_216) rfl rfl) ?_
        show FinW p e below s Z EL h0 _ _ _ (T543.setTop (mkF m 217 #[.val (.int p1), .val (.int p2), .val (.int p3), .val (.int p4), .val (.int m1), .val (.int (p2 &&& (2147483647 : Int32))), .val (.int mu), .val (.int rp), .unset, .unset] [(.ref b532), (.ref b532)]))
        refine FinW.st (fun _ => XS.iconst X543.here hx rfl (Jvm.hb hby at_217)) ?_
        show FinW p e below s Z EL h0 _ _ _ (T543.setTop (mkF m 218 #[.val (.int p1), .val (.int p2), .val (.int p3), .val (.int p4), .val (.int m1), .val (.int (p2 &&& (2147483647 : Int32))), .val (.int mu), .val (.int rp), .unset, .unset] [(.int (4 : Int32)), (.ref b532), (.ref b532)]))
        refine FinW.st (fun _ => XS.bipush X543.here hx rfl (Jvm.hb hby at_218)) ?_
        show FinW p e below s Z EL h0 _ _ _ (T543.setTop (mkF m 220 #[.val (.int p1), .val (.int p2), .val (.int p3), .val (.int p4), .val (.int m1), .val (.int (p2 &&& (2147483647 : Int32))), .val (.int mu), .val (.int rp), .unset, .unset] [(.int (110 : Int32)), (.int (4 : Int32)), (.ref b532), (.ref b532)]))
        obtain ⟨T546, h546, X546, e546, W546, V546, st546⟩ := stC0 X543 hx hZ e543 V543 (j := (4 : Int32)) (by decide) 4 rfl (Nat.le_of_ble_eq_true rfl) rfl (g := (mkF m 220 #[.val (.int p1), .val (.int p2), .val (.int p3), .val (.int p4), .val (.int m1), .val (.int (p2 &&& (2147483647 : Int32))), .val (.int mu), .val (.int rp), .unset, .unset] [(.int (110 : Int32)), (.int (4 : Int32)), (.ref b532), (.ref b532)])) rfl rfl (Jvm.hb hby at_220)
        have N546 := Fr.snoc X546 N543 ge532
        refine FinW.st st546 ?_
        have CH548 := CH545.trans (CHr.wr W546 (Safe.arv hZ.alike V543 (by decide)) CH545.1)
        have V546 : Arv Z h546 b532 _ .char (18 : Int32) [(.int (99 : Int32)), (.int (108 : Int32)), (.int (105 : Int32)), (.int (101 : Int32)), (.int (110 : Int32)), (.int (0 : Int32)), (.int (0 : Int32)), (.int (0 : Int32)), (.int (0 : Int32)), (.int (0 : Int32)), (.int (0 : Int32)), (.int (0 : Int32)), (.int (0 : Int32)), (.int (0 : Int32)), (.int (0 : Int32)), (.int (0 : Int32)), (.int (0 : Int32)), (.int (0 : Int32))] (.int (0 : Int32)) := V546
        show FinW p e below s Z EL h0 _ _ _ (T546.setTop (mkF m 221 #[.val (.int p1), .val (.int p2), .val (.int p3), .val (.int p4), .val (.int m1), .val (.int (p2 &&& (2147483647 : Int32))), .val (.int mu), .val (.int rp), .unset, .unset] [(.ref b532)]))
        refine FinW.st (fun _ => XS.dup X546.here hx rfl (Jvm.hb hby at_221) rfl rfl) ?_
        show FinW p e below s Z EL h0 _ _ _ (T546.setTop (mkF m 222 #[.val (.int p1), .val (.int p2), .val (.int p3), .val (.int p4), .val (.int m1), .val (.int (p2 &&& (2147483647 : Int32))), .val (.int mu), .val (.int rp), .unset, .unset] [(.ref b532), (.ref b532)]))
        refine FinW.st (fun _ => XS.iconst X546.here hx rfl (Jvm.hb hby at_222)) ?_
        show FinW p e below s Z EL h0 _ _ _ (T546.setTop (mkF m 223 #[.val (.int p1), .val (.int p2), .val (.int p3), .val (.int p4), .val (.int m1), .val (.int (p2 &&& (2147483647 : Int32))), .val (.int mu), .val (.int rp), .unset, .unset] [(.int (5 : Int32)), (.ref b532), (.ref b532)]))
        refine FinW.st (fun _ => XS.bipush X546.here hx rfl (Jvm.hb hby at_223)) ?_
        show FinW p e below s Z EL h0 _ _ _ (T546.setTop (mkF m 225 #[.val (.int p1), .val (.int p2), .val (.int p3), .val (.int p4), .val (.int m1), .val (.int (p2 &&& (2147483647 : Int32))), .val (.int mu), .val (.int rp), .unset, .unset] [(.int (116 : Int32)), (.int (5 : Int32)), (.ref b532), (.ref b532)]))
        obtain ⟨T549, h549, X549, e549, W549, V549, st549⟩ := stC0 X546 hx hZ e546 V546 (j := (5 : Int32)) (by decide) 5 rfl (Nat.le_of_ble_eq_true rfl) rfl (g := (mkF m 225 #[.val (.int p1), .val (.int p2), .val (.int p3), .val (.int p4), .val (.int m1), .val (.int (p2 &&& (2147483647 : Int32))), .val (.int mu), .val (.int rp), .unset, .unset] [(.int (116 : Int32)), (.int (5 : Int32)), (.ref b532), (.ref b532)])) rfl rfl (Jvm.hb hby at_225)
        have N549 := Fr.snoc X549 N546 ge532
        refine FinW.st st549 ?_
        have CH551 := CH548.trans (CHr.wr W549 (Safe.arv hZ.alike V546 (by decide)) CH548.1)
        have V549 : Arv Z h549 b532 _ .char (18 : Int32) [(.int (99 : Int32)), (.int (108 : Int32)), (.int (105 : Int32)), (.int (101 : Int32)), (.int (110 : Int32)), (.int (116 : Int32)), (.int (0 : Int32)), (.int (0 : Int32)), (.int (0 : Int32)), (.int (0 : Int32)), (.int (0 : Int32)), (.int (0 : Int32)), (.int (0 : Int32)), (.int (0 : Int32)), (.int (0 : Int32)), (.int (0 : Int32)), (.int (0 : Int32)), (.int (0 : Int32))] (.int (0 : Int32)) := V549
        show FinW p e below s Z EL h0 _ _ _ (T549.setTop (mkF m 226 #[.val (.int p1), .val (.int p2), .val (.int p3), .val (.int p4), .val (.int m1), .val (.int (p2 &&& (2147483647 : Int32))), .val (.int mu), .val (.int rp), .unset, .unset] [(.ref b532)]))
        refine FinW.st (fun _ => XS.dup X549.here hx rfl (Jvm.hb hby at_226) rfl rfl) ?_
        show FinW p e below s Z EL h0 _ _ _ (T549.setTop (mkF m 227 #[.val (.int p1), .val (.int p2), .val (.int p3), .val (.int p4), .val (.int m1), .val (.int (p2 &&& (2147483647 : Int32))), .val (.int mu), .val (.int rp), .unset, .unset] [(.ref b532), (.ref b532)]))
        refine FinW.st (fun _ => XS.bipush X549.here hx rfl (Jvm.hb hby at_227)) ?_
        show FinW p e below s Z EL h0 _ _ _ (T549.setTop (mkF m 229 #[.val (.int p1), .val (.int p2), .val (.int p3), .val (.int p4), .val (.int m1), .val (.int (p2 &&& (2147483647 : Int32))), .val (.int mu), .val (.int rp), .unset, .unset] [(.int (6 : Int32)), (.ref b532), (.ref b532)]))
        refine FinW.st (fun _ => XS.bipush X549.here hx rfl (Jvm.hb hby at_229)) ?_
        show FinW p e below s Z EL h0 _ _ _ (T549.setTop (mkF m 231 #[.val (.int p1), .val (.int p2), .val (.int p3), .val (.int p4), .val (.int m1), .val (.int (p2 &&& (2147483647 : Int32))), .val (.int mu), .val (.int rp), .unset, .unset] [(.int (95 : Int32)), (.int (6 : Int32)), (.ref b532), (.ref b532)]))
        obtain ⟨T552, h552, X552, e552, W552, V552, st552⟩ := stC0 X549 hx hZ e549 V549 (j := (6 : Int32)) (by decide) 6 rfl (Nat.le_of_ble_eq_true rfl) rfl (g := (mkF m 231 #[.val (.int p1), .val (.int p2), .val (.int p3), .val (.int p4), .val (.int m1), .val (.int (p2 &&& (2147483647 : Int32))), .val (.int mu), .val (.int rp), .unset, .unset] [(.int (95 : Int32)), (.int (6 : Int32)), (.ref b532), (.ref b532)])) rfl rfl (Jvm.hb hby at_231)
        have N552 := Fr.snoc X552 N549 ge532
        refine FinW.st st552 ?_
        have CH554 := CH551.trans (CHr.wr W552 (Safe.arv hZ.alike V549 (by decide)) CH551.1)
        have V552 : Arv Z h552 b532 _ .char (18 : Int32) [(.int (99 : Int32)), (.int (108 : Int32)), (.int (105 : Int32)), (.int (101 : Int32)), (.int (110 : Int32)), (.int (116 : Int32)), (.int (95 : Int32)), (.int (0 : Int32)), (.int (0 : Int32)), (.int (0 : Int32)), (.int (0 : Int32)), (.int (0 : Int32)), (.int (0 : Int32)), (.int (0 : Int32)), (.int (0 : Int32)), (.int (0 : Int32)), (.int (0 : Int32)), (.int (0 : Int32))] (.int (0 : Int32)) := V552
        show FinW p e below s Z EL h0 _ _ _ (T552.setTop (mkF m 232 #[.val (.int p1), .val (.int p2), .val (.int p3), .val (.int p4), .val (.int m1), .val (.int (p2 &&& (2147483647 : Int32))), .val (.int mu), .val (.int rp), .unset, .unset] [(.ref b532)]))
        refine FinW.st (fun _ => XS.dup X552.here hx rfl (Jvm.hb hby at_232) rfl rfl) ?_
        show FinW p e below s Z EL h0 _ _ _ (T552.setTop (mkF m 233 #[.val (.int p1), .val (.int p2), .val (.int p3), .val (.int p4), .val (.int m1), .val (.int (p2 &&& (2147483647 : Int32))), .val (.int mu), .val (.int rp), .unset, .unset] [(.ref b532), (.ref b532)]))
        refine FinW.st (fun _ => XS.bipush X552.here hx rfl (Jvm.hb hby at_233)) ?_
        show FinW p e below s Z EL h0 _ _ _ (T552.setTop (mkF m 235 #[.val (.int p1), .val (.int p2), .val (.int p3), .val (.int p4), .val (.int m1), .val (.int (p2 &&& (2147483647 : Int32))), .val (.int mu), .val (.int rp), .unset, .unset] [(.int (7 : Int32)), (.ref b532), (.ref b532)]))
        refine FinW.st (fun _ => XS.bipush X552.here hx rfl (Jvm.hb hby at_235)) ?_
        show FinW p e below s Z EL h0 _ _ _ (T552.setTop (mkF m 237 #[.val (.int p1), .val (.int p2), .val (.int p3), .val (.int p4), .val (.int m1), .val (.int (p2 &&& (2147483647 : Int32))), .val (.int mu), .val (.int rp), .unset, .unset] [(.int (115 : Int32)), (.int (7 : Int32)), (.ref b532), (.ref b532)]))
        obtain ⟨T555, h555, X555, e555, W555, V555, st555⟩ := stC0 X552 hx hZ e552 V552 (j := (7 : Int32)) (by decide) 7 rfl (Nat.le_of_ble_eq_true rfl) rfl (g := (mkF m 237 #[.val (.int p1), .val (.int p2), .val (.int p3), .val (.int p4), .val (.int m1), .val (.int (p2 &&& (2147483647 : Int32))), .val (.int mu), .val (.int rp), .unset, .unset] [(.int (115 : Int32)), (.int (7 : Int32)), (.ref b532), (.ref b532)])) rfl rfl (Jvm.hb hby at_237)
        have N555 := Fr.snoc X555 N552 ge532
        refine FinW.st st555 ?_
        have CH557 := CH554.trans (CHr.wr W555 (Safe.arv hZ.alike V552 (by decide)) CH554.1)
        have V555 : Arv Z h555 b532 _ .char (18 : Int32) [(.int (99 : Int32)), (.int (108 : Int32)), (.int (105 : Int32)), (.int (101 : Int32)), (.int (110 : Int32)), (.int (116 : Int32)), (.int (95 : Int32)), (.int (115 : Int32)), (.int (0 : Int32)), (.int (0 : Int32)), (.int (0 : Int32)), (.int (0 : Int32)), (.int (0 : Int32)), (.int (0 : Int32)), (.int (0 : Int32)), (.int (0 : Int32)), (.int (0 : Int32)), (.int (0 : Int32))] (.int (0 : Int32)) := V555
        show FinW p e below s Z EL h0 _ _ _ (T555.setTop (mkF m 238 #[.val (.int p1), .val (.int p2), .val (.int p3), .val (.int p4), .val (.int m1), .val (.int (p2 &&& (2147483647 : Int32))), .val (.int mu), .val (.int rp), .unset, .unset] [(.ref b532)]))
        refine FinW.st (fun _ => XS.dup X555.here hx rfl (Jvm.hb hby at_238) rfl rfl) ?_
        show FinW p e below s Z EL h0 _ _ _ (T555.setTop (mkF m 239 #[.val (.int p1), .val (.int p2), .val (.int p3), .val (.int p4), .val (.int m1), .val (.int (p2 &&& (2147483647 : Int32))), .val (.int mu), .val (.int rp), .unset, .unset] [(.ref b532), (.ref b532)]))
        refine FinW.st (fun _ => XS.bipush X555.here hx rfl (Jvm.hb hby at_239)) ?_
        show FinW p e below s Z EL h0 _ _ _ (T555.setTop (mkF m 241 #[.val (.int p1), .val (.int p2), .val (.int p3), .val (.int p4), .val (.int m1), .val (.int (p2 &&& (2147483647 : Int32))), .val (.int mu), .val (.int rp), .unset, .unset] [(.int (8 : Int32)), (.ref b532), (.ref b532)]))
        refine FinW.st (fun _ => XS.bipush X555.here hx rfl (Jvm.hb hby at_241)) ?_
        show FinW p e below s Z EL h0 _ _ _ (T555.setTop (mkF m 243 #[.val (.int p1), .val (.int p2), .val (.int p3), .val (.int p4), .val (.int m1), .val (.int (p2 &&& (2147483647 : Int32))), .val (.int mu), .val (.int rp), .unset, .unset] [(.int (101 : Int32)), (.int (8 : Int32)), (.ref b532), (.ref b532)]))
        obtain ⟨T558, h558, X558, e558, W558, V558, st558⟩ := stC0 X555 hx hZ e555 V555 (j := (8 : Int32)) (by decide) 8 rfl (Nat.le_of_ble_eq_true rfl) rfl (g := (mkF m 243 #[.val (.int p1), .val (.int p2), .val (.int p3), .val (.int p4), .val (.int m1), .val (.int (p2 &&& (2147483647 : Int32))), .val (.int mu), .val (.int rp), .unset, .unset] [(.int (101 : Int32)), (.int (8 : Int32)), (.ref b532), (.ref b532)])) rfl rfl (Jvm.hb hby at_243)
        have N558 := Fr.snoc X558 N555 ge532
        refine FinW.st st558 ?_
        have CH560 := CH557.trans (CHr.wr W558 (Safe.arv hZ.alike V555 (by decide)) CH557.1)
        have V558 : Arv Z h558 b532 _ .char (18 : Int32) [(.int (99 : Int32)), (.int (108 : Int32)), (.int (105 : Int32)), (.int (101 : Int32)), (.int (110 : Int32)), (.int (116 : Int32)), (.int (95 : Int32)), (.int (115 : Int32)), (.int (101 : Int32)), (.int (0 : Int32)), (.int (0 : Int32)), (.int (0 : Int32)), (.int (0 : Int32)), (.int (0 : Int32)), (.int (0 : Int32)), (.int (0 : Int32)), (.int (0 : Int32)), (.int (0 : Int32))] (.int (0 : Int32)) := V558
        show FinW p e below s Z EL h0 _ _ _ (T558.setTop (mkF m 244 #[.val (.int p1), .val (.int p2), .val (.int p3), .val (.int p4), .val (.int m1), .val (.int (p2 &&& (2147483647 : Int32))), .val (.int mu), .val (.int rp), .unset, .unset] [(.ref b532)]))
        refine FinW.st (fun _ => XS.dup X558.here hx rfl (Jvm.hb hby at_244) rfl rfl) ?_
        show FinW p e below s Z EL h0 _ _ _ (T558.setTop (mkF m 245 #[.val (.int p1), .val (.int p2), .val (.int p3), .val (.int p4), .val (.int m1), .val (.int (p2 &&& (2147483647 : Int32))), .val (.int mu), .val (.int rp), .unset, .unset] [(.ref b532), (.ref b532)]))
        refine FinW.st (fun _ => XS.bipush X558.here hx rfl (Jvm.hb hby at_245)) ?_
        show FinW p e below s Z EL h0 _ _ _ (T558.setTop (mkF m 247 #[.val (.int p1), .val (.int p2), .val (.int p3), .val (.int p4), .val (.int m1), .val (.int (p2 &&& (2147483647 : Int32))), .val (.int mu), .val (.int rp), .unset, .unset] [(.int (9 : Int32)), (.ref b532), (.ref b532)]))
        refine FinW.st (fun _ => XS.bipush X558.here hx rfl (Jvm.hb hby at_247)) ?_
        show FinW p e below s Z EL h0 _ _ _ (T558.setTop (mkF m 249 #[.val (.int p1), .val (.int p2), .val (.int p3), .val (.int p4), .val (.int m1), .val (.int (p2 &&& (2147483647 : Int32))), .val (.int mu), .val (.int rp), .unset, .unset] [(.int (99 : Int32)), (.int (9 : Int32)), (.ref b532), (.ref b532)]))
        obtain ⟨T561, h561, X561, e561, W561, V561, st561⟩ := stC0 X558 hx hZ e558 V558 (j := (9 : Int32)) (by decide) 9 rfl (Nat.le_of_ble_eq_true rfl) rfl (g := (mkF m 249 #[.val (.int p1), .val (.int p2), .val (.int p3), .val (.int p4), .val (.int m1), .val (.int (p2 &&& (2147483647 : Int32))), .val (.int mu), .val (.int rp), .unset, .unset] [(.int (99 : Int32)), (.int (9 : Int32)), (.ref b532), (.ref b532)])) rfl rfl (Jvm.hb hby at_249)
        have N561 := Fr.snoc X561 N558 ge532
        refine FinW.st st561 ?_
        have CH563 := CH560.trans (CHr.wr W561 (Safe.arv hZ.alike V558 (by decide)) CH560.1)
        have V561 : Arv Z h561 b532 _ .char (18 : Int32) [(.int (99 : Int32)), (.int (108 : Int32)), (.int (105 : Int32)), (.int (101 : Int32)), (.int (110 : Int32)), (.int (116 : Int32)), (.int (95 : Int32)), (.int (115 : Int32)), (.int (101 : Int32)), (.int (99 : Int32)), (.int (0 : Int32)), (.int (0 : Int32)), (.int (0 : Int32)), (.int (0 : Int32)), (.int (0 : Int32)), (.int (0 : Int32)), (.int (0 : Int32)), (.int (0 : Int32))] (.int (0 : Int32)) := V561
        show FinW p e below s Z EL h0 _ _ _ (T561.setTop (mkF m 250 #[.val (.int p1), .val (.int p2), .val (.int p3), .val (.int p4), .val (.int m1), .val (.int (p2 &&& (2147483647 : Int32))), .val (.int mu), .val (.int rp), .unset, .unset] [(.ref b532)]))
        refine FinW.st (fun _ => XS.dup X561.here hx rfl (Jvm.hb hby at_250) rfl rfl) ?_
        show FinW p e below s Z EL h0 _ _ _ (T561.setTop (mkF m 251 #[.val (.int p1), .val (.int p2), .val (.int p3), .val (.int p4), .val (.int m1), .val (.int (p2 &&& (2147483647 : Int32))), .val (.int mu), .val (.int rp), .unset, .unset] [(.ref b532), (.ref b532)]))
        refine FinW.st (fun _ => XS.bipush X561.here hx rfl (Jvm.hb hby at_251)) ?_
        show FinW p e below s Z EL h0 _ _ _ (T561.setTop (mkF m 253 #[.val (.int p1), .val (.int p2), .val (.int p3), .val (.int p4), .val (.int m1), .val (.int (p2 &&& (2147483647 : Int32))), .val (.int mu), .val (.int rp), .unset, .unset] [(.int (10 : Int32)), (.ref b532), (.ref b532)]))
        refine FinW.st (fun _ => XS.bipush X561.here hx rfl (Jvm.hb hby at_253)) ?_
        show FinW p e below s Z EL h0 _ _ _ (T561.setTop (mkF m 255 #[.val (.int p1), .val (.int p2), .val (.int p3), .val (.int p4), .val (.int m1), .val (.int (p2 &&& (2147483647 : Int32))), .val (.int mu), .val (.int rp), .unset, .unset] [(.int (114 : Int32)), (.int (10 : Int32)), (.ref b532), (.ref b532)]))
        obtain ⟨T564, h564, X564, e564, W564, V564, st564⟩ := stC0 X561 hx hZ e561 V561 (j := (10 : Int32)) (by decide) 10 rfl (Nat.le_of_ble_eq_true rfl) rfl (g := (mkF m 255 #[.val (.int p1), .val (.int p2), .val (.int p3), .val (.int p4), .val (.int m1), .val (.int (p2 &&& (2147483647 : Int32))), .val (.int mu), .val (.int rp), .unset, .unset] [(.int (114 : Int32)), (.int (10 : Int32)), (.ref b532), (.ref b532)])) rfl rfl (Jvm.hb hby at_255)
        have N564 := Fr.snoc X564 N561 ge532
        refine FinW.st st564 ?_
        have CH566 := CH563.trans (CHr.wr W564 (Safe.arv hZ.alike V561 (by decide)) CH563.1)
        have V564 : Arv Z h564 b532 _ .char (18 : Int32) [(.int (99 : Int32)), (.int (108 : Int32)), (.int (105 : Int32)), (.int (101 : Int32)), (.int (110 : Int32)), (.int (116 : Int32)), (.int (95 : Int32)), (.int (115 : Int32)), (.int (101 : Int32)), (.int (99 : Int32)), (.int (114 : Int32)), (.int (0 : Int32)), (.int (0 : Int32)), (.int (0 : Int32)), (.int (0 : Int32)), (.int (0 : Int32)), (.int (0 : Int32)), (.int (0 : Int32))] (.int (0 : Int32)) := V564
        show FinW p e below s Z EL h0 _ _ _ (T564.setTop (mkF m 256 #[.val (.int p1), .val (.int p2), .val (.int p3), .val (.int p4), .val (.int m1), .val (.int (p2 &&& (2147483647 : Int32))), .val (.int mu), .val (.int rp), .unset, .unset] [(.ref b532)]))
        refine FinW.st (fun _ => XS.dup X564.here hx rfl (Jvm.hb hby at_256) rfl rfl) ?_
        show FinW p e below s Z EL h0 _ _ _ (T564.setTop (mkF m 257 #[.val (.int p1), .val (.int p2), .val (.int p3), .val (.int p4), .val (.int m1), .val (.int (p2 &&& (2147483647 : Int32))), .val (.int mu), .val (.int rp), .unset, .unset] [(.ref b532), (.ref b532)]))
        refine FinW.st (fun _ => XS.bipush X564.here hx rfl (Jvm.hb hby at_257)) ?_
        show FinW p e below s Z EL h0 _ _ _ (T564.setTop (mkF m 259 #[.val (.int p1), .val (.int p2), .val (.int p3), .val (.int p4), .val (.int m1), .val (.int (p2 &&& (2147483647 : Int32))), .val (.int mu), .val (.int rp), .unset, .unset] [(.int (11 : Int32)), (.ref b532), (.ref b532)]))
        refine FinW.st (fun _ => XS.bipush X564.here hx rfl (Jvm.hb hby at_259)) ?_
        show FinW p e below s Z EL h0 _ _ _ (T564.setTop (mkF m 261 #[.val (.int p1), .val (.int p2), .val (.int p3), .val (.int p4), .val (.int m1), .val (.int (p2 &&& (2147483647 : Int32))), .val (.int mu), .val (.int rp), .unset, .unset] [(.int (101 : Int32)), (.int (11 : Int32)), (.ref b532), (.ref b532)]))
        obtain ⟨T567, h567, X567, e567, W567, V567, st567⟩ := stC0 X564 hx hZ e564 V564 (j := (11 : Int32)) (by decide) 11 rfl (Nat.le_of_ble_eq_true rfl) rfl (g := (mkF m 261 #[.val (.int p1), .val (.int p2), .val (.int p3), .val (.int p4), .val (.int m1), .val (.int (p2 &&& (2147483647 : Int32))), .val (.int mu), .val (.int rp), .unset, .unset] [(.int (101 : Int32)), (.int (11 : Int32)), (.ref b532), (.ref b532)])) rfl rfl (Jvm.hb hby at_261)
        have N567 := Fr.snoc X567 N564 ge532
        refine FinW.st st567 ?_
        have CH569 := CH566.trans (CHr.wr W567 (Safe.arv hZ.alike V564 (by decide)) CH566.1)
        have V567 : Arv Z h567 b532 _ .char (18 : Int32) [(.int (99 : Int32)), (.int (108 : Int32)), (.int (105 : Int32)), (.int (101 : Int32)), (.int (110 : Int32)), (.int (116 : Int32)), (.int (95 : Int32)), (.int (115 : Int32)), (.int (101 : Int32)), (.int (99 : Int32)), (.int (114 : Int32)), (.int (101 : Int32)), (.int (0 : Int32)), (.int (0 : Int32)), (.int (0 : Int32)), (.int (0 : Int32)), (.int (0 : Int32)), (.int (0 : Int32))] (.int (0 : Int32)) := V567
        show FinW p e below s Z EL h0 _ _ _ (T567.setTop (mkF m 262 #[.val (.int p1), .val (.int p2), .val (.int p3), .val (.int p4), .val (.int m1), .val (.int (p2 &&& (2147483647 : Int32))), .val (.int mu), .val (.int rp), .unset, .unset] [(.ref b532)]))
        refine FinW.st (fun _ => XS.dup X567.here hx rfl (Jvm.hb hby at_262) rfl rfl) ?_
        show FinW p e below s Z EL h0 _ _ _ (T567.setTop (mkF m 263 #[.val (.int p1), .val (.int p2), .val (.int p3), .val (.int p4), .val (.int m1), .val (.int (p2 &&& (2147483647 : Int32))), .val (.int mu), .val (.int rp), .unset, .unset] [(.ref b532), (.ref b532)]))
        refine FinW.st (fun _ => XS.bipush X567.here hx rfl (Jvm.hb hby at_263)) ?_
        show FinW p e below s Z EL h0 _ _ _ (T567.setTop (mkF m 265 #[.val (.int p1), .val (.int p2), .val (.int p3), .val (.int p4), .val (.int m1), .val (.int (p2 &&& (2147483647 : Int32))), .val (.int mu), .val (.int rp), .unset, .unset] [(.int (12 : Int32)), (.ref b532), (.ref b532)]))
        refine FinW.st (fun _ => XS.bipush X567.here hx rfl (Jvm.hb hby at_265)) ?_
        show FinW p e below s Z EL h0 _ _ _ (T567.setTop (mkF m 267 #[.val (.int p1), .val (.int p2), .val (.int p3), .val (.int p4), .val (.int m1), .val (.int (p2 &&& (2147483647 : Int32))), .val (.int mu), .val (.int rp), .unset, .unset] [(.int (116 : Int32)), (.int (12 : Int32)), (.ref b532), (.ref b532)]))
        obtain ⟨T570, h570, X570, e570, W570, V570, st570⟩ := stC0 X567 hx hZ e567 V567 (j := (12 : Int32)) (by decide) 12 rfl (Nat.le_of_ble_eq_true rfl) rfl (g := (mkF m 267 #[.val (.int p1), .val (.int p2), .val (.int p3), .val (.int p4), .val (.int m1), .val (.int (p2 &&& (2147483647 : Int32))), .val (.int mu), .val (.int rp), .unset, .unset] [(.int (116 : Int32)), (.int (12 : Int32)), (.ref b532), (.ref b532)])) rfl rfl (Jvm.hb hby at_267)
        have N570 := Fr.snoc X570 N567 ge532
        refine FinW.st st570 ?_
        have CH572 := CH569.trans (CHr.wr W570 (Safe.arv hZ.alike V567 (by decide)) CH569.1)
        have V570 : Arv Z h570 b532 _ .char (18 : Int32) [(.int (99 : Int32)), (.int (108 : Int32)), (.int (105 : Int32)), (.int (101 : Int32)), (.int (110 : Int32)), (.int (116 : Int32)), (.int (95 : Int32)), (.int (115 : Int32)), (.int (101 : Int32)), (.int (99 : Int32)), (.int (114 : Int32)), (.int (101 : Int32)), (.int (116 : Int32)), (.int (0 : Int32)), (.int (0 : Int32)), (.int (0 : Int32)), (.int (0 : Int32)), (.int (0 : Int32))] (.int (0 : Int32)) := V570
        show FinW p e below s Z EL h0 _ _ _ (T570.setTop (mkF m 268 #[.val (.int p1), .val (.int p2), .val (.int p3), .val (.int p4), .val (.int m1), .val (.int (p2 &&& (2147483647 : Int32))), .val (.int mu), .val (.int rp), .unset, .unset] [(.ref b532)]))
        refine FinW.st (fun _ => XS.dup X570.here hx rfl (Jvm.hb hby at_268) rfl rfl) ?_
        show FinW p e below s Z EL h0 _ _ _ (T570.setTop (mkF m 269 #[.val (.int p1), .val (.int p2), .val (.int p3), .val (.int p4), .val (.int m1), .val (.int (p2 &&& (2147483647 : Int32))), .val (.int mu), .val (.int rp), .unset, .unset] [(.ref b532), (.ref b532)]))
        refine FinW.st (fun _ => XS.bipush X570.here hx rfl (Jvm.hb hby at_269)) ?_
        show FinW p e below s Z EL h0 _ _ _ (T570.setTop (mkF m 271 #[.val (.int p1), .val (.int p2), .val (.int p3), .val (.int p4), .val (.int m1), .val (.int (p2 &&& (2147483647 : Int32))), .val (.int mu), .val (.int rp), .unset, .unset] [(.int (13 : Int32)), (.ref b532), (.ref b532)]))
        refine FinW.st (fun _ => XS.bipush X570.here hx rfl (Jvm.hb hby at_271)) ?_
        show FinW p e below s Z EL h0 _ _ _ (T570.setTop (mkF m 273 #[.val (.int p1), .val (.int p2), .val (.int p3), .val (.int p4), .val (.int m1), .val (.int (p2 &&& (2147483647 : Int32))), .val (.int mu), .val (.int rp), .unset, .unset] [(.int (95 : Int32)), (.int (13 : Int32)), (.ref b532), (.ref b532)]))
        obtain ⟨T573, h573, X573, e573, W573, V573, st573⟩ := stC0 X570 hx hZ e570 V570 (j := (13 : Int32)) (by decide) 13 rfl (Nat.le_of_ble_eq_true rfl) rfl (g := (mkF m 273 #[.val (.int p1), .val (.int p2), .val (.int p3), .val (.int p4), .val (.int m1), .val (.int (p2 &&& (2147483647 : Int32))), .val (.int mu), .val (.int rp), .unset, .unset] [(.int (95 : Int32)), (.int (13 : Int32)), (.ref b532), (.ref b532)])) rfl rfl (Jvm.hb hby at_273)
        have N573 := Fr.snoc X573 N570 ge532
        refine FinW.st st573 ?_
        have CH575 := CH572.trans (CHr.wr W573 (Safe.arv hZ.alike V570 (by decide)) CH572.1)
        have V573 : Arv Z h573 b532 _ .char (18 : Int32) [(.int (99 : Int32)), (.int (108 : Int32)), (.int (105 : Int32)), (.int (101 : Int32)), (.int (110 : Int32)), (.int (116 : Int32)), (.int (95 : Int32)), (.int (115 : Int32)), (.int (101 : Int32)), (.int (99 : Int32)), (.int (114 : Int32)), (.int (101 : Int32)), (.int (116 : Int32)), (.int (95 : Int32)), (.int (0 : Int32)), (.int (0 : Int32)), (.int (0 : Int32)), (.int (0 : Int32))] (.int (0 : Int32)) := V573
        show FinW p e below s Z EL h0 _ _ _ (T573.setTop (mkF m 274 #[.val (.int p1), .val (.int p2), .val (.int p3), .val (.int p4), .val (.int m1), .val (.int (p2 &&& (2147483647 : Int32))), .val (.int mu), .val (.int rp), .unset, .unset] [(.ref b532)]))
        refine FinW.st (fun _ => XS.dup X573.here hx rfl (Jvm.hb hby at_274) rfl rfl) ?_
        show FinW p e below s Z EL h0 _ _ _ (T573.setTop (mkF m 275 #[.val (.int p1), .val (.int p2), .val (.int p3), .val (.int p4), .val (.int m1), .val (.int (p2 &&& (2147483647 : Int32))), .val (.int mu), .val (.int rp), .unset, .unset] [(.ref b532), (.ref b532)]))
        refine FinW.st (fun _ => XS.bipush X573.here hx rfl (Jvm.hb hby at_275)) ?_
        show FinW p e below s Z EL h0 _ _ _ (T573.setTop (mkF m 277 #[.val (.int p1), .val (.int p2), .val (.int p3), .val (.int p4), .val (.int m1), .val (.int (p2 &&& (2147483647 : Int32))), .val (.int mu), .val (.int rp), .unset, .unset] [(.int (14 : Int32)), (.ref b532), (.ref b532)]))
        refine FinW.st (fun _ => XS.bipush X573.here hx rfl (Jvm.hb hby at_277)) ?_
        show FinW p e below s Z EL h0 _ _ _ (T573.setTop (mkF m 279 #[.val (.int p1), .val (.int p2), .val (.int p3), .val (.int p4), .val (.int m1), .val (.int (p2 &&& (2147483647 : Int32))), .val (.int mu), .val (.int rp), .unset, .unset] [(.int (112 : Int32)), (.int (14 : Int32)), (.ref b532), (.ref b532)]))
        obtain ⟨T576, h576, X576, e576, W576, V576, st576⟩ := stC0 X573 hx hZ e573 V573 (j := (14 : Int32)) (by decide) 14 rfl (Nat.le_of_ble_eq_true rfl) rfl (g := (mkF m 279 #[.val (.int p1), .val (.int p2), .val (.int p3), .val (.int p4), .val (.int m1), .val (.int (p2 &&& (2147483647 : Int32))), .val (.int mu), .val (.int rp), .unset, .unset] [(.int (112 : Int32)), (.int (14 : Int32)), (.ref b532), (.ref b532)])) rfl rfl (Jvm.hb hby at_279)
        have N576 := Fr.snoc X576 N573 ge532
        refine FinW.st st576 ?_
        have CH578 := CH575.trans (CHr.wr W576 (Safe.arv hZ.alike V573 (by decide)) CH575.1)
        have V576 : Arv Z h576 b532 _ .char (18 : Int32) [(.int (99 : Int32)), (.int (108 : Int32)), (.int (105 : Int32)), (.int (101 : Int32)), (.int (110 : Int32)), (.int (116 : Int32)), (.int (95 : Int32)), (.int (115 : Int32)), (.int (101 : Int32)), (.int (99 : Int32)), (.int (114 : Int32)), (.int (101 : Int32)), (.int (116 : Int32)), (.int (95 : Int32)), (.int (112 : Int32)), (.int (0 : Int32)), (.int (0 : Int32)), (.int (0 : Int32))] (.int (0 : Int32)) := V576
        show FinW p e below s Z EL h0 _ _ _ (T576.setTop (mkF m 280 #[.val (.int p1), .val (.int p2), .val (.int p3), .val (.int p4), .val (.int m1), .val (.int (p2 &&& (2147483647 : Int32))), .val (.int mu), .val (.int rp), .unset, .unset] [(.ref b532)]))
        refine FinW.st (fun _ => XS.dup X576.here hx rfl (Jvm.hb hby at_280) rfl rfl) ?_
        show FinW p e below s Z EL h0 _ _ _ (T576.setTop (mkF m 281 #[.val (.int p1), .val (.int p2), .val (.int p3), .val (.int p4), .val (.int m1), .val (.int (p2 &&& (2147483647 : Int32))), .val (.int mu), .val (.int rp), .unset, .unset] [(.ref b532), (.ref b532)]))
        refine FinW.st (fun _ => XS.bipush X576.here hx rfl (Jvm.hb hby at_281)) ?_
        show FinW p e below s Z EL h0 _ _ _ (T576.setTop (mkF m 283 #[.val (.int p1), .val (.int p2), .val (.int p3), .val (.int p4), .val (.int m1), .val (.int (p2 &&& (2147483647 : Int32))), .val (.int mu), .val (.int rp), .unset, .unset] [(.int (15 : Int32)), (.ref b532), (.ref b532)]))
        refine FinW.st (fun _ => XS.bipush X576.here hx rfl (Jvm.hb hby at_283)) ?_
        show FinW p e below s Z EL h0 _ _ _ (T576.setTop (mkF m 285 #[.val (.int p1), .val (.int p2), .val (.int p3), .val (.int p4), .val (.int m1), .val (.int (p2 &&& (2147483647 : Int32))), .val (.int mu), .val (.int rp), .unset, .unset] [(.int (111 : Int32)), (.int (15 : Int32)), (.ref b532), (.ref b532)]))
        obtain ⟨T579, h579, X579, e579, W579, V579, st579⟩ := stC0 X576 hx hZ e576 V576 (j := (15 : Int32)) (by decide) 15 rfl (Nat.le_of_ble_eq_true rfl) rfl (g := (mkF m 285 #[.val (.int p1), .val (.int p2), .val (.int p3), .val (.int p4), .val (.int m1), .val (.int (p2 &&& (2147483647 : Int32))), .val (.int mu), .val (.int rp), .unset, .unset] [(.int (111 : Int32)), (.int (15 : Int32)), (.ref b532), (.ref b532)])) rfl rfl (Jvm.hb hby at_285)
        have N579 := Fr.snoc X579 N576 ge532
        refine FinW.st st579 ?_
        have CH581 := CH578.trans (CHr.wr W579 (Safe.arv hZ.alike V576 (by decide)) CH578.1)
        have V579 : Arv Z h579 b532 _ .char (18 : Int32) [(.int (99 : Int32)), (.int (108 : Int32)), (.int (105 : Int32)), (.int (101 : Int32)), (.int (110 : Int32)), (.int (116 : Int32)), (.int (95 : Int32)), (.int (115 : Int32)), (.int (101 : Int32)), (.int (99 : Int32)), (.int (114 : Int32)), (.int (101 : Int32)), (.int (116 : Int32)), (.int (95 : Int32)), (.int (112 : Int32)), (.int (111 : Int32)), (.int (0 : Int32)), (.int (0 : Int32))] (.int (0 : Int32)) := V579
        show FinW p e below s Z EL h0 _ _ _ (T579.setTop (mkF m 286 #[.val (.int p1), .val (.int p2), .val (.int p3), .val (.int p4), .val (.int m1), .val (.int (p2 &&& (2147483647 : Int32))), .val (.int mu), .val (.int rp), .unset, .unset] [(.ref b532)]))
        refine FinW.st (fun _ => XS.dup X579.here hx rfl (Jvm.hb hby at_286) rfl rfl) ?_
        show FinW p e below s Z EL h0 _ _ _ (T579.setTop (mkF m 287 #[.val (.int p1), .val (.int p2), .val (.int p3), .val (.int p4), .val (.int m1), .val (.int (p2 &&& (2147483647 : Int32))), .val (.int mu), .val (.int rp), .unset, .unset] [(.ref b532), (.ref b532)]))
        refine FinW.st (fun _ => XS.bipush X579.here hx rfl (Jvm.hb hby at_287)) ?_
        show FinW p e below s Z EL h0 _ _ _ (T579.setTop (mkF m 289 #[.val (.int p1), .val (.int p2), .val (.int p3), .val (.int p4), .val (.int m1), .val (.int (p2 &&& (2147483647 : Int32))), .val (.int mu), .val (.int rp), .unset, .unset] [(.int (16 : Int32)), (.ref b532), (.ref b532)]))
        refine FinW.st (fun _ => XS.bipush X579.here hx rfl (Jvm.hb hby at_289)) ?_
        show FinW p e below s Z EL h0 _ _ _ (T579.setTop (mkF m 291 #[.val (.int p1), .val (.int p2), .val (.int p3), .val (.int p4), .val (.int m1), .val (.int (p2 &&& (2147483647 : Int32))), .val (.int mu), .val (.int rp), .unset, .unset] [(.int (115 : Int32)), (.int (16 : Int32)), (.ref b532), (.ref b532)]))
        obtain ⟨T582, h582, X582, e582, W582, V582, st582⟩ := stC0 X579 hx hZ e579 V579 (j := (16 : Int32)) (by decide) 16 rfl (Nat.le_of_ble_eq_true rfl) rfl (g := (mkF m 291 #[.val (.int p1), .val (.int p2), .val (.int p3), .val (.int p4), .val (.int m1), .val (.int (p2 &&& (2147483647 : Int32))), .val (.int mu), .val (.int rp), .unset, .unset] [(.int (115 : Int32)), (.int (16 : Int32)), (.ref b532), (.ref b532)])) rfl rfl (Jvm.hb hby at_291)
        have N582 := Fr.snoc X582 N579 ge532
        refine FinW.st st582 ?_
        have CH584 := CH581.trans (CHr.wr W582 (Safe.arv hZ.alike V579 (by decide)) CH581.1)
        have V582 : Arv Z h582 b532 _ .char (18 : Int32) [(.int (99 : Int32)), (.int (108 : Int32)), (.int (105 : Int32)), (.int (101 : Int32)), (.int (110 : Int32)), (.int (116 : Int32)), (.int (95 : Int32)), (.int (115 : Int32)), (.int (101 : Int32)), (.int (99 : Int32)), (.int (114 : Int32)), (.int (101 : Int32)), (.int (116 : Int32)), (.int (95 : Int32)), (.int (112 : Int32)), (.int (111 : Int32)), (.int (115 : Int32)), (.int (0 : Int32))] (.int (0 : Int32)) := V582
        show FinW p e below s Z EL h0 _ _ _ (T582.setTop (mkF m 292 #[.val (.int p1), .val (.int p2), .val (.int p3), .val (.int p4), .val (.int m1), .val (.int (p2 &&& (2147483647 : Int32))), .val (.int mu), .val (.int rp), .unset, .unset] [(.ref b532)]))
        refine FinW.st (fun _ => XS.dup X582.here hx rfl (Jvm.hb hby at_292) rfl rfl) ?_
        show FinW p e below s Z EL h0 _ _ _ (T582.setTop (mkF m 293 #[.val (.int p1), .val (.int p2), .val (.int p3), .val (.int p4), .val (.int m1), .val (.int (p2 &&& (2147483647 : Int32))), .val (.int mu), .val (.int rp), .unset, .unset] [(.ref b532), (.ref b532)]))
        refine FinW.st (fun _ => XS.bipush X582.here hx rfl (Jvm.hb hby at_293)) ?_
        show FinW p e below s Z EL h0 _ _ _ (T582.setTop (mkF m 295 #[.val (.int p1), .val (.int p2), .val (.int p3), .val (.int p4), .val (.int m1), .val (.int (p2 &&& (2147483647 : Int32))), .val (.int mu), .val (.int rp), .unset, .unset] [(.int (17 : Int32)), (.ref b532), (.ref b532)]))
        refine FinW.st (fun _ => XS.bipush X582.here hx rfl (Jvm.hb hby at_295)) ?_
        show FinW p e below s Z EL h0 _ _ _ (T582.setTop (mkF m 297 #[.val (.int p1), .val (.int p2), .val (.int p3), .val (.int p4), .val (.int m1), .val (.int (p2 &&& (2147483647 : Int32))), .val (.int mu), .val (.int rp), .unset, .unset] [(.int (116 : Int32)), (.int (17 : Int32)), (.ref b532), (.ref b532)]))
        obtain ⟨T585, h585, X585, e585, W585, V585, st585⟩ := stC0 X582 hx hZ e582 V582 (j := (17 : Int32)) (by decide) 17 rfl (Nat.le_of_ble_eq_true rfl) rfl (g := (mkF m 297 #[.val (.int p1), .val (.int p2), .val (.int p3), .val (.int p4), .val (.int m1), .val (.int (p2 &&& (2147483647 : Int32))), .val (.int mu), .val (.int rp), .unset, .unset] [(.int (116 : Int32)), (.int (17 : Int32)), (.ref b532), (.ref b532)])) rfl rfl (Jvm.hb hby at_297)
        have N585 := Fr.snoc X585 N582 ge532
        refine FinW.st st585 ?_
        have CH587 := CH584.trans (CHr.wr W585 (Safe.arv hZ.alike V582 (by decide)) CH584.1)
        have V585 : Arv Z h585 b532 _ .char (18 : Int32) [(.int (99 : Int32)), (.int (108 : Int32)), (.int (105 : Int32)), (.int (101 : Int32)), (.int (110 : Int32)), (.int (116 : Int32)), (.int (95 : Int32)), (.int (115 : Int32)), (.int (101 : Int32)), (.int (99 : Int32)), (.int (114 : Int32)), (.int (101 : Int32)), (.int (116 : Int32)), (.int (95 : Int32)), (.int (112 : Int32)), (.int (111 : Int32)), (.int (115 : Int32)), (.int (116 : Int32))] (.int (0 : Int32)) := V585
        show FinW p e below s Z EL h0 _ _ _ (T585.setTop (mkF m 298 #[.val (.int p1), .val (.int p2), .val (.int p3), .val (.int p4), .val (.int m1), .val (.int (p2 &&& (2147483647 : Int32))), .val (.int mu), .val (.int rp), .unset, .unset] [(.ref b532)]))
        refine FinW.st (fun _ => XS.astore X585.here hx rfl (Jvm.hb hby at_298) rfl rfl (l' := #[.val (.int p1), .val (.int p2), .val (.int p3), .val (.int p4), .val (.int m1), .val (.int (p2 &&& (2147483647 : Int32))), .val (.int mu), .val (.int rp), .unset, .val (.ref b532)]) rfl) ?_
        show FinW p e below s Z EL h0 _ _ _ (T585.setTop (mkF m 300 #[.val (.int p1), .val (.int p2), .val (.int p3), .val (.int p4), .val (.int m1), .val (.int (p2 &&& (2147483647 : Int32))), .val (.int mu), .val (.int rp), .unset, .val (.ref b532)] []))
        refine FinW.st (fun _ => XS.iload X585.here hx rfl (Jvm.hb hby at_300) rfl) ?_
        show FinW p e below s Z EL h0 _ _ _ (T585.setTop (mkF m 302 #[.val (.int p1), .val (.int p2), .val (.int p3), .val (.int p4), .val (.int m1), .val (.int (p2 &&& (2147483647 : Int32))), .val (.int mu), .val (.int rp), .unset, .val (.ref b532)] [(.int mu)]))
        refine joinHW (α := List Int32) (P := fun ds T588 h588 L588 vm588 => (Stand p l e room_1 (s.setVm vm588) m #[(.int p1), (.int p2), (.int p3), (.int p4)] below meth c T588 L588 1 18) ∧ (T588.heap = h588) ∧ (Fr n0 L588) ∧ (Old Z n0 h588) ∧ (ds.length = 18 ∧ (∀ c ∈ ds, ¬ c < 0 ∧ ¬ (255 : Int32) < c)) ∧ (Snc s vm588 h588) ∧ (CHr Z EL s.vm h0 vm588 h588) ∧ (Z.Warmed39 (s.setVm vm588).vm) ∧ ((s.setVm vm588).vm.findClass "com/example/grantwell/grantwell/server/AuthMethodNamedPinLaw" = some m.cls) ∧ (∃ ka, Arv Z h588 b532 ka .char (18 : Int32) (ds.map Value.int) (.int 0))) (A := fun ds T588 => T588.setTop (mkF m 316 #[.val (.int p1), .val (.int p2), .val (.int p3), .val (.int p4), .val (.int m1), .val (.int (p2 &&& (2147483647 : Int32))), .val (.int mu), .val (.int rp), .unset, .val (.ref b532)] [])) ?_ ?_
        · rintro ds T588 h588 L588 vm588 ⟨X588, e588, N588, O588, ⟨hds, hbs⟩, B588, CH588, hZ588, hown588, G588_0⟩
          show FinW p e below s Z EL h0 _ _ _ (T588.setTop (mkF m 316 #[.val (.int p1), .val (.int p2), .val (.int p3), .val (.int p4), .val (.int m1), .val (.int (p2 &&& (2147483647 : Int32))), .val (.int mu), .val (.int rp), .unset, .val (.ref b532)] []))
          obtain ⟨ka, Va⟩ := G588_0
          obtain ⟨b589, g589⟩ : ∃ z, z = h588.size := ⟨_, rfl⟩
          have ne590 : b532 ≠ b589 := by rw [g589]; exact Nat.ne_of_lt Va.lt
          have ge589 : n0 ≤ b589 := by rw [g589]; exact O588.own_le
          obtain ⟨T589, h589, X589, e589, E589, A589, D589, -, st589⟩ := newO X588 hx hZ588 hown588 (hw _ (List.mem_of_getElem? (i := 2) rfl)) (hw _ (List.mem_of_getElem? (i := 3) rfl)) (hw _ (List.mem_of_getElem? (i := 4) rfl)) e588 (g := (mkF m 316 #[.val (.int p1), .val (.int p2), .val (.int p3), .val (.int p4), .val (.int m1), .val (.int (p2 &&& (2147483647 : Int32))), .val (.int mu), .val (.int rp), .unset, .val (.ref b532)] [])) rfl (Jvm.hb hby at_316) (by decide) (by decide)
          rw [← g589] at A589 D589 st589
          have CH591 := CH588.trans (CHr.ext E589 CH588.1)
          have F589_coder : Fld Z h589 b589 "java/lang/String" "coder" "B" (.int (0 : Int32)) := D589 (Or.inr (hw _ (List.mem_of_getElem? (i := 28) rfl))) (ty := .byte) (by decide)
          have F589_value : Fld Z h589 b589 "java/lang/String" "value" "[B" .null := D589 (Or.inr (hw _ (List.mem_of_getElem? (i := 30) rfl))) (ty := (.array .byte)) (by decide)
          refine FinW.st st589 ?_
          show FinW p e below s Z EL h0 _ _ _ (T589.setTop (mkF m 319 #[.val (.int p1), .val (.int p2), .val (.int p3), .val (.int p4), .val (.int m1), .val (.int (p2 &&& (2147483647 : Int32))), .val (.int mu), .val (.int rp), .unset, .val (.ref b532)] [(.ref b589)]))
          refine FinW.st (fun _ => XS.dup X589.here hx rfl (Jvm.hb hby at_319) rfl rfl) ?_
          show FinW p e below s Z EL h0 _ _ _ (T589.setTop (mkF m 320 #[.val (.int p1), .val (.int p2), .val (.int p3), .val (.int p4), .val (.int m1), .val (.int (p2 &&& (2147483647 : Int32))), .val (.int mu), .val (.int rp), .unset, .val (.ref b532)] [(.ref b589), (.ref b589)]))
          refine FinW.st (fun _ => XS.aload X589.here hx rfl (Jvm.hb hby at_320) rfl rfl) ?_
          show FinW p e below s Z EL h0 _ _ _ (T589.setTop (mkF m 322 #[.val (.int p1), .val (.int p2), .val (.int p3), .val (.int p4), .val (.int m1), .val (.int (p2 &&& (2147483647 : Int32))), .val (.int mu), .val (.int rp), .unset, .val (.ref b532)] [(.ref b532), (.ref b589), (.ref b589)]))
          have f592 := O588.ext E589
          have f593 := Va.ext E589
          obtain ⟨_, T594, h594, L594, X594, e594, ⟨rfl, Nq594, K594, t594, gt594, sz594, nt594, S594⟩, st594⟩ := goI X589 hx hZ588 hown588 rfl (hw _ (List.mem_of_getElem? (i := 5) rfl)) (hw _ (List.mem_of_getElem? (i := 6) rfl)) (hw _ (List.mem_of_getElem? (i := 7) rfl)) (by decide) (strNew (len := 3) (W := 1) hZ588 hw (hw _ (List.mem_of_getElem? (i := 3) rfl)) (cs := ds) (n := 18) ge589 f592.own_le A589 F589_value F589_coder f593 (SC.ext f592.2) hcz hds (by decide) (by decide) hbs (by decide) (by decide)) e589 (g := (mkF m 322 #[.val (.int p1), .val (.int p2), .val (.int p3), .val (.int p4), .val (.int m1), .val (.int (p2 &&& (2147483647 : Int32))), .val (.int mu), .val (.int rp), .unset, .val (.ref b532)] [(.ref b532), (.ref b589), (.ref b589)])) rfl (by rw [hml]; rfl) [(.ref b532)] [(.ref b589)] (lenOf pd_1 rfl) rfl (by show 2 * 0 + _ ≤ _; exact Nat.le_of_eq rfl) (Jvm.hb hby at_322) rfl (by decide) (by decide)
          have N594 := N588.app Nq594
          refine FinW.st st594 ?_
          have CH595 := CH591.trans (CHr.keep K594 (sfS (Jvm.OwnKit.Safe.null hZ588.alike A589 F589_value) sf0) CH591.1)
          show FinW p e below s Z EL h0 _ _ _ (T594.setTop (mkF m 325 #[.val (.int p1), .val (.int p2), .val (.int p3), .val (.int p4), .val (.int m1), .val (.int (p2 &&& (2147483647 : Int32))), .val (.int mu), .val (.int rp), .unset, .val (.ref b532)] [(.ref b589)]))
          refine FinW.st (fun _ => XS.astore X594.here hx rfl (Jvm.hb hby at_325) rfl rfl (l' := #[.val (.int p1), .val (.int p2), .val (.int p3), .val (.int p4), .val (.int m1), .val (.int (p2 &&& (2147483647 : Int32))), .val (.int mu), .val (.int rp), .val (.ref b589), .val (.ref b532)]) rfl) ?_
          show FinW p e below s Z EL h0 _ _ _ (T594.setTop (mkF m 327 #[.val (.int p1), .val (.int p2), .val (.int p3), .val (.int p4), .val (.int m1), .val (.int (p2 &&& (2147483647 : Int32))), .val (.int mu), .val (.int rp), .val (.ref b589), .val (.ref b532)] []))
          refine FinW.st (fun _ => XS.goto X594.here hx rfl (pc0 := 327) (pc' := 413) rfl (Jvm.hb hby at_327) (by decide) (by decide)) ?_
          show FinW p e below s Z EL h0 _ _ _ (T594.setTop (mkF m 413 #[.val (.int p1), .val (.int p2), .val (.int p3), .val (.int p4), .val (.int m1), .val (.int (p2 &&& (2147483647 : Int32))), .val (.int mu), .val (.int rp), .val (.ref b589), .val (.ref b532)] []))
          have f596 := f592.keep K594 (allS ge589 all0)
          have f597 := B588.ext E589
          have f598 := f597.keep K594
          exact j413 (b589, .val (.ref b532)) _ _ _ vm588 ⟨X594.more (by decide) (by decide), e594, N594, f596, ⟨⟨_, _, S594⟩, One.val rfl⟩, f598, CH595, hZ588, hown588⟩
        intro j316
        by_cases f316 : mu = (0 : Int32)
        · skip
          refine FinW.st (fun _ => XS.ifYes X585.here hx rfl (pc0 := 302) (pc' := 316) rfl (Jvm.hb hby at_302) rfl (zeq f316) (by decide) (by decide)) ?_
          show FinW p e below s Z EL h0 _ _ _ (T585.setTop (mkF m 316 #[.val (.int p1), .val (.int p2), .val (.int p3), .val (.int p4), .val (.int m1), .val (.int (p2 &&& (2147483647 : Int32))), .val (.int mu), .val (.int rp), .unset, .val (.ref b532)] []))
          have f599 := O.ext E532
          have f600 := f599.wr W534 ge532
          have f601 := f600.wr W537 ge532
          have f602 := f601.wr W540 ge532
          have f603 := f602.wr W543 ge532
          have f604 := f603.wr W546 ge532
          have f605 := f604.wr W549 ge532
          have f606 := f605.wr W552 ge532
          have f607 := f606.wr W555 ge532
          have f608 := f607.wr W558 ge532
          have f609 := f608.wr W561 ge532
          have f610 := f609.wr W564 ge532
          have f611 := f610.wr W567 ge532
          have f612 := f611.wr W570 ge532
          have f613 := f612.wr W573 ge532
          have f614 := f613.wr W576 ge532
          have f615 := f614.wr W579 ge532
          have f616 := f615.wr W582 ge532
          have f617 := f616.wr W585 ge532
          have f618 := B0.ext E532
          have f619 := f618.wr W534
          have f620 := f619.wr W537
          have f621 := f620.wr W540
          have f622 := f621.wr W543
          have f623 := f622.wr W546
          have f624 := f623.wr W549
          have f625 := f624.wr W552
          have f626 := f625.wr W555
          have f627 := f626.wr W558
          have f628 := f627.wr W561
          have f629 := f628.wr W564
          have f630 := f629.wr W567
          have f631 := f630.wr W570
          have f632 := f631.wr W573
          have f633 := f632.wr W576
          have f634 := f633.wr W579
          have f635 := f634.wr W582
          have f636 := f635.wr W585
          exact j316 nm1 _ _ _ vm0 ⟨X585.more (by decide) (by decide), e585, N585, f617, ⟨rfl, by decide⟩, f636, CH587, hZ, hown, ⟨_, V585⟩⟩
        · skip
          refine FinW.st (fun _ => XS.ifNo X585.here hx rfl (Jvm.hb hby at_302) rfl (zeqN f316)) ?_
          show FinW p e below s Z EL h0 _ _ _ (T585.setTop (mkF m 305 #[.val (.int p1), .val (.int p2), .val (.int p3), .val (.int p4), .val (.int m1), .val (.int (p2 &&& (2147483647 : Int32))), .val (.int mu), .val (.int rp), .unset, .val (.ref b532)] []))
          refine FinW.st (fun _ => XS.aload X585.here hx rfl (Jvm.hb hby at_305) rfl rfl) ?_
          show FinW p e below s Z EL h0 _ _ _ (T585.setTop (mkF m 307 #[.val (.int p1), .val (.int p2), .val (.int p3), .val (.int p4), .val (.int m1), .val (.int (p2 &&& (2147483647 : Int32))), .val (.int mu), .val (.int rp), .unset, .val (.ref b532)] [(.ref b532)]))
          refine FinW.st (fun _ => XS.iload X585.here hx rfl (Jvm.hb hby at_307) rfl) ?_
          show FinW p e below s Z EL h0 _ _ _ (T585.setTop (mkF m 309 #[.val (.int p1), .val (.int p2), .val (.int p3), .val (.int p4), .val (.int m1), .val (.int (p2 &&& (2147483647 : Int32))), .val (.int mu), .val (.int rp), .unset, .val (.ref b532)] [(.int (p2 &&& (2147483647 : Int32))), (.ref b532)]))
          refine FinW.st (fun _ => XS.aload X585.here hx rfl (Jvm.hb hby at_309) rfl rfl) ?_
          show FinW p e below s Z EL h0 _ _ _ (T585.setTop (mkF m 311 #[.val (.int p1), .val (.int p2), .val (.int p3), .val (.int p4), .val (.int m1), .val (.int (p2 &&& (2147483647 : Int32))), .val (.int mu), .val (.int rp), .unset, .val (.ref b532)] [(.ref b532), (.int (p2 &&& (2147483647 : Int32))), (.ref b532)]))
          refine FinW.st (alen X585 hx hZ e585 V585 (g := (mkF m 311 #[.val (.int p1), .val (.int p2), .val (.int p3), .val (.int p4), .val (.int m1), .val (.int (p2 &&& (2147483647 : Int32))), .val (.int mu), .val (.int rp), .unset, .val (.ref b532)] [(.ref b532), (.int (p2 &&& (2147483647 : Int32))), (.ref b532)])) rfl rfl (Jvm.hb hby at_311)) ?_
          show FinW p e below s Z EL h0 _ _ _ (T585.setTop (mkF m 312 #[.val (.int p1), .val (.int p2), .val (.int p3), .val (.int p4), .val (.int m1), .val (.int (p2 &&& (2147483647 : Int32))), .val (.int mu), .val (.int rp), .unset, .val (.ref b532)] [(.int (18 : Int32)), (.int (p2 &&& (2147483647 : Int32))), (.ref b532)]))
          refine FinW.st (fun _ => iremM X585 hx rfl (Jvm.hb hby at_312) rfl (by decide)) ?_
          show FinW p e below s Z EL h0 _ _ _ (T585.setTop (mkF m 313 #[.val (.int p1), .val (.int p2), .val (.int p3), .val (.int p4), .val (.int m1), .val (.int (p2 &&& (2147483647 : Int32))), .val (.int mu), .val (.int rp), .unset, .val (.ref b532)] [(.int ((p2 &&& (2147483647 : Int32)) % (18 : Int32))), (.ref b532)]))
          refine FinW.st (fun _ => XS.iload X585.here hx rfl (Jvm.hb hby at_313) rfl) ?_
          show FinW p e below s Z EL h0 _ _ _ (T585.setTop (mkF m 315 #[.val (.int p1), .val (.int p2), .val (.int p3), .val (.int p4), .val (.int m1), .val (.int (p2 &&& (2147483647 : Int32))), .val (.int mu), .val (.int rp), .unset, .val (.ref b532)] [(.int rp), (.int ((p2 &&& (2147483647 : Int32)) % (18 : Int32))), (.ref b532)]))
          obtain ⟨ix, hix, lix, uix⟩ := remN (x := p2) (n := (18 : Int32)) (by decide)
          rw [hix]
          show FinW p e below s Z EL h0 _ _ _ (T585.setTop (mkF m 315 #[.val (.int p1), .val (.int p2), .val (.int p3), .val (.int p4), .val (.int m1), .val (.int (p2 &&& (2147483647 : Int32))), .val (.int mu), .val (.int rp), .unset, .val (.ref b532)] [(.int rp), (.int ix), (.ref b532)]))
          obtain ⟨T637, h637, X637, e637, W637, V637, st637⟩ := stC0 X585 hx hZ e585 V585 (j := ix) ⟨lix, uix⟩ _ rfl (nlt (N := (18 : Int32)) rfl lix uix) (nar_chr lrp urp) (g := (mkF m 315 #[.val (.int p1), .val (.int p2), .val (.int p3), .val (.int p4), .val (.int m1), .val (.int (p2 &&& (2147483647 : Int32))), .val (.int mu), .val (.int rp), .unset, .val (.ref b532)] [(.int rp), (.int ix), (.ref b532)])) rfl rfl (Jvm.hb hby at_315)
          have N637 := Fr.snoc X637 N585 ge532
          refine FinW.st st637 ?_
          have CH638 := CH587.trans (CHr.wr W637 (Safe.arv hZ.alike V585 (by decide)) CH587.1)
          show FinW p e below s Z EL h0 _ _ _ (T637.setTop (mkF m 316 #[.val (.int p1), .val (.int p2), .val (.int p3), .val (.int p4), .val (.int m1), .val (.int (p2 &&& (2147483647 : Int32))), .val (.int mu), .val (.int rp), .unset, .val (.ref b532)] []))
          have V637 : ∃ ka, Arv Z h637 b532 ka .char (18 : Int32) ((nm1.set ix.toNatClampNeg rp).map Value.int) (.int 0) := ⟨_, by rw [List.map_set]; exact V637⟩
          have f639 := O.ext E532
          have f640 := f639.wr W534 ge532
          have f641 := f640.wr W537 ge532
          have f642 := f641.wr W540 ge532
          have f643 := f642.wr W543 ge532
          have f644 := f643.wr W546 ge532
          have f645 := f644.wr W549 ge532
          have f646 := f645.wr W552 ge532
          have f647 := f646.wr W555 ge532
          have f648 := f647.wr W558 ge532
          have f649 := f648.wr W561 ge532
          have f650 := f649.wr W564 ge532
          have f651 := f650.wr W567 ge532
          have f652 := f651.wr W570 ge532
          have f653 := f652.wr W573 ge532
          have f654 := f653.wr W576 ge532
          have f655 := f654.wr W579 ge532
          have f656 := f655.wr W582 ge532
          have f657 := f656.wr W585 ge532
          have f658 := f657.wr W637 ge532
          have f659 := B0.ext E532
          have f660 := f659.wr W534
          have f661 := f660.wr W537
          have f662 := f661.wr W540
          have f663 := f662.wr W543
          have f664 := f663.wr W546
          have f665 := f664.wr W549
          have f666 := f665.wr W552
          have f667 := f666.wr W555
          have f668 := f667.wr W558
          have f669 := f668.wr W561
          have f670 := f669.wr W564
          have f671 := f670.wr W567
          have f672 := f671.wr W570
          have f673 := f672.wr W573
          have f674 := f673.wr W576
          have f675 := f674.wr W579
          have f676 := f675.wr W582
          have f677 := f676.wr W585
          have f678 := f677.wr W637
          exact j316 (nm1.set ix.toNatClampNeg rp) _ _ _ vm0 ⟨X637.more (by decide) (by decide), e637, N637, f658, ⟨by rw [List.length_set]; try rfl, set_ok (by decide) ⟨lrp, urp⟩⟩, f678, CH638, hZ, hown, V637⟩
      · skip
        refine FinW.st (fun _ => XS.icmpYes X0.here hx rfl (pc0 := 189) (pc' := 330) rfl (Jvm.hb hby at_189) rfl (ine hm1) (by decide) (by decide)) ?_
        show FinW p e below s Z EL h0 _ _ _ (T0.setTop (mkF m 330 #[.val (.int p1), .val (.int p2), .val (.int p3), .val (.int p4), .val (.int m1), .val (.int (p2 &&& (2147483647 : Int32))), .val (.int mu), .val (.int rp), .unset, .unset] []))
        refine FinW.st (fun _ => XS.iload X0.here hx rfl (Jvm.hb hby at_330) rfl) ?_
        show FinW p e below s Z EL h0 _ _ _ (T0.setTop (mkF m 332 #[.val (.int p1), .val (.int p2), .val (.int p3), .val (.int p4), .val (.int m1), .val (.int (p2 &&& (2147483647 : Int32))), .val (.int mu), .val (.int rp), .unset, .unset] [(.int m1)]))
        refine FinW.st (fun _ => XS.iconst X0.here hx rfl (Jvm.hb hby at_332)) ?_
        show FinW p e below s Z EL h0 _ _ _ (T0.setTop (mkF m 333 #[.val (.int p1), .val (.int p2), .val (.int p3), .val (.int p4), .val (.int m1), .val (.int (p2 &&& (2147483647 : Int32))), .val (.int mu), .val (.int rp), .unset, .unset] [(.int (2 : Int32)), (.int m1)]))
        by_cases hm2 : m1 = (2 : Int32)
        · skip
          refine FinW.st (fun _ => XS.icmpNo X0.here hx rfl (Jvm.hb hby at_333) rfl (ineN hm2)) ?_
          show FinW p e below s Z EL h0 _ _ _ (T0.setTop (mkF m 336 #[.val (.int p1), .val (.int p2), .val (.int p3), .val (.int p4), .val (.int m1), .val (.int (p2 &&& (2147483647 : Int32))), .val (.int mu), .val (.int rp), .unset, .unset] []))
          refine FinW.st (fun _ => XS.iconst X0.here hx rfl (Jvm.hb hby at_336)) ?_
          show FinW p e below s Z EL h0 _ _ _ (T0.setTop (mkF m 337 #[.val (.int p1), .val (.int p2), .val (.int p3), .val (.int p4), .val (.int m1), .val (.int (p2 &&& (2147483647 : Int32))), .val (.int mu), .val (.int rp), .unset, .unset] [(.int (4 : Int32))]))
          obtain ⟨b679, g679⟩ : ∃ z, z = h0.size := ⟨_, rfl⟩
          have ge679 : n0 ≤ b679 := by rw [g679]; exact O.own_le
          obtain ⟨T679, h679, k679, X679, e679, E679, A679, st679⟩ := newA0 X0 hx hZ (hw _ (List.mem_of_getElem? (i := 1) rfl)) e0 (g := (mkF m 337 #[.val (.int p1), .val (.int p2), .val (.int p3), .val (.int p4), .val (.int m1), .val (.int (p2 &&& (2147483647 : Int32))), .val (.int mu), .val (.int rp), .unset, .unset] [(.int (4 : Int32))])) rfl (Jvm.hb hby at_337) rfl (by decide) (N := 4) (by decide) (by decide) (by decide) (by decide)
          rw [← g679] at A679 st679
          have V679 : Arv Z h679 b679 k679 .char (4 : Int32) [(.int (0 : Int32)), (.int (0 : Int32)), (.int (0 : Int32)), (.int (0 : Int32))] (.int (0 : Int32)) := A679
          have CH680 := CH0.trans (CHr.ext E679 CH0.1)
          refine FinW.st st679 ?_
          show FinW p e below s Z EL h0 _ _ _ (T679.setTop (mkF m 339 #[.val (.int p1), .val (.int p2), .val (.int p3), .val (.int p4), .val (.int m1), .val (.int (p2 &&& (2147483647 : Int32))), .val (.int mu), .val (.int rp), .unset, .unset] [(.ref b679)]))
          refine FinW.st (fun _ => XS.dup X679.here hx rfl (Jvm.hb hby at_339) rfl rfl) ?_
          show FinW p e below s Z EL h0 _ _ _ (T679.setTop (mkF m 340 #[.val (.int p1), .val (.int p2), .val (.int p3), .val (.int p4), .val (.int m1), .val (.int (p2 &&& (2147483647 : Int32))), .val (.int mu), .val (.int rp), .unset, .unset] [(.ref b679), (.ref b679)]))
          refine FinW.st (fun _ => XS.iconst X679.here hx rfl (Jvm.hb hby at_340)) ?_
          show FinW p e below s Z EL h0 _ _ _ (T679.setTop (mkF m 341 #[.val (.int p1), .val (.int p2), .val (.int p3), .val (.int p4), .val (.int m1), .val (.int (p2 &&& (2147483647 : Int32))), .val (.int mu), .val (.int rp), .unset, .unset] [(.int (0 : Int32)), (.ref b679), (.ref b679)]))
          refine FinW.st (fun _ => XS.bipush X679.here hx rfl (Jvm.hb hby at_341)) ?_
          show FinW p e below s Z EL h0 _ _ _ (T679.setTop (mkF m 343 #[.val (.int p1), .val (.int p2), .val (.int p3), .val (.int p4), .val (.int m1), .val (.int (p2 &&& (2147483647 : Int32))), .val (.int mu), .val (.int rp), .unset, .unset] [(.int (110 : Int32)), (.int (0 : Int32)), (.ref b679), (.ref b679)]))
          obtain ⟨T681, h681, X681, e681, W681, V681, st681⟩ := stC0 X679 hx hZ e679 V679 (j := (0 : Int32)) (by decide) 0 rfl (Nat.le_of_ble_eq_true rfl) rfl (g := (mkF m 343 #[.val (.int p1), .val (.int p2), .val (.int p3), .val (.int p4), .val (.int m1), .val (.int (p2 &&& (2147483647 : Int32))), .val (.int mu), .val (.int rp), .unset, .unset] [(.int (110 : Int32)), (.int (0 : Int32)), (.ref b679), (.ref b679)])) rfl rfl (Jvm.hb hby at_343)
          have N681 := Fr.snoc X681 N0 ge679
          refine FinW.st st681 ?_
          have CH683 := CH680.trans (CHr.wr W681 (Safe.arv hZ.alike V679 (by decide)) CH680.1)
          have V681 : Arv Z h681 b679 _ .char (4 : Int32) [(.int (110 : Int32)), (.int (0 : Int32)), (.int (0 : Int32)), (.int (0 : Int32))] (.int (0 : Int32)) := V681
          show FinW p e below s Z EL h0 _ _ _ (T681.setTop (mkF m 344 #[.val (.int p1), .val (.int p2), .val (.int p3), .val (.int p4), .val (.int m1), .val (.int (p2 &&& (2147483647 : Int32))), .val (.int mu), .val (.int rp), .unset, .unset] [(.ref b679)]))
          refine FinW.st (fun _ => XS.dup X681.here hx rfl (Jvm.hb hby at_344) rfl rfl) ?_
          show FinW p e below s Z EL h0 _ _ _ (T681.setTop (mkF m 345 #[.val (.int p1), .val (.int p2), .val (.int p3), .val (.int p4), .val (.int m1), .val (.int (p2 &&& (2147483647 : Int32))), .val (.int mu), .val (.int rp), .unset, .unset] [(.ref b679), (.ref b679)]))
          refine FinW.st (fun _ => XS.iconst X681.here hx rfl (Jvm.hb hby at_345)) ?_
          show FinW p e below s Z EL h0 _ _ _ (T681.setTop (mkF m 346 #[.val (.int p1), .val (.int p2), .val (.int p3), .val (.int p4), .val (.int m1), .val (.int (p2 &&& (2147483647 : Int32))), .val (.int mu), .val (.int rp), .unset, .unset] [(.int (1 : Int32)), (.ref b679), (.ref b679)]))
          refine FinW.st (fun _ => XS.bipush X681.here hx rfl (Jvm.hb hby at_346)) ?_
          show FinW p e below s Z EL h0 _ _ _ (T681.setTop (mkF m 348 #[.val (.int p1), .val (.int p2), .val (.int p3), .val (.int p4), .val (.int m1), .val (.int (p2 &&& (2147483647 : Int32))), .val (.int mu), .val (.int rp), .unset, .unset] [(.int (111 : Int32)), (.int (1 : Int32)), (.ref b679), (.ref b679)]))
          obtain ⟨T684, h684, X684, e684, W684, V684, st684⟩ := stC0 X681 hx hZ e681 V681 (j := (1 : Int32)) (by decide) 1 rfl (Nat.le_of_ble_eq_true rfl) rfl (g := (mkF m 348 #[.val (.int p1), .val (.int p2), .val (.int p3), .val (.int p4), .val (.int m1), .val (.int (p2 &&& (2147483647 : Int32))), .val (.int mu), .val (.int rp), .unset, .unset] [(.int (111 : Int32)), (.int (1 : Int32)), (.ref b679), (.ref b679)])) rfl rfl (Jvm.hb hby at_348)
          have N684 := Fr.snoc X684 N681 ge679
          refine FinW.st st684 ?_
          have CH686 := CH683.trans (CHr.wr W684 (Safe.arv hZ.alike V681 (by decide)) CH683.1)
          have V684 : Arv Z h684 b679 _ .char (4 : Int32) [(.int (110 : Int32)), (.int (111 : Int32)), (.int (0 : Int32)), (.int (0 : Int32))] (.int (0 : Int32)) := V684
          show FinW p e below s Z EL h0 _ _ _ (T684.setTop (mkF m 349 #[.val (.int p1), .val (.int p2), .val (.int p3), .val (.int p4), .val (.int m1), .val (.int (p2 &&& (2147483647 : Int32))), .val (.int mu), .val (.int rp), .unset, .unset] [(.ref b679)]))
          refine FinW.st (fun _ => XS.dup X684.here hx rfl (Jvm.hb hby at_349) rfl rfl) ?_
          show FinW p e below s Z EL h0 _ _ _ (T684.setTop (mkF m 350 #[.val (.int p1), .val (.int p2), .val (.int p3), .val (.int p4), .val (.int m1), .val (.int (p2 &&& (2147483647 : Int32))), .val (.int mu), .val (.int rp), .unset, .unset] [(.ref b679), (.ref b679)]))
          refine FinW.st (fun _ => XS.iconst X684.here hx rfl (Jvm.hb hby at_350)) ?_
          show FinW p e below s Z EL h0 _ _ _ (T684.setTop (mkF m 351 #[.val (.int p1), .val (.int p2), .val (.int p3), .val (.int p4), .val (.int m1), .val (.int (p2 &&& (2147483647 : Int32))), .val (.int mu), .val (.int rp), .unset, .unset] [(.int (2 : Int32)), (.ref b679), (.ref b679)]))
          refine FinW.st (fun _ => XS.bipush X684.here hx rfl (Jvm.hb hby at_351)) ?_
          show FinW p e below s Z EL h0 _ _ _ (T684.setTop (mkF m 353 #[.val (.int p1), .val (.int p2), .val (.int p3), .val (.int p4), .val (.int m1), .val (.int (p2 &&& (2147483647 : Int32))), .val (.int mu), .val (.int rp), .unset, .unset] [(.int (110 : Int32)), (.int (2 : Int32)), (.ref b679), (.ref b679)]))
          obtain ⟨T687, h687, X687, e687, W687, V687, st687⟩ := stC0 X684 hx hZ e684 V684 (j := (2 : Int32)) (by decide) 2 rfl (Nat.le_of_ble_eq_true rfl) rfl (g := (mkF m 353 #[.val (.int p1), .val (.int p2), .val (.int p3), .val (.int p4), .val (.int m1), .val (.int (p2 &&& (2147483647 : Int32))), .val (.int mu), .val (.int rp), .unset, .unset] [(.int (110 : Int32)), (.int (2 : Int32)), (.ref b679), (.ref b679)])) rfl rfl (Jvm.hb hby at_353)
          have N687 := Fr.snoc X687 N684 ge679
          refine FinW.st st687 ?_
          have CH689 := CH686.trans (CHr.wr W687 (Safe.arv hZ.alike V684 (by decide)) CH686.1)
          have V687 : Arv Z h687 b679 _ .char (4 : Int32) [(.int (110 : Int32)), (.int (111 : Int32)), (.int (110 : Int32)), (.int (0 : Int32))] (.int (0 : Int32)) := V687
          show FinW p e below s Z EL h0 _ _ _ (T687.setTop (mkF m 354 #[.val (.int p1), .val (.int p2), .val (.int p3), .val (.int p4), .val (.int m1), .val (.int (p2 &&& (2147483647 : Int32))), .val (.int mu), .val (.int rp), .unset, .unset] [(.ref b679)]))
          refine FinW.st (fun _ => XS.dup X687.here hx rfl (Jvm.hb hby at_354) rfl rfl) ?_
          show FinW p e below s Z EL h0 _ _ _ (T687.setTop (mkF m 355 #[.val (.int p1), .val (.int p2), .val (.int p3), .val (.int p4), .val (.int m1), .val (.int (p2 &&& (2147483647 : Int32))), .val (.int mu), .val (.int rp), .unset, .unset] [(.ref b679), (.ref b679)]))
          refine FinW.st (fun _ => XS.iconst X687.here hx rfl (Jvm.hb hby at_355)) ?_
          show FinW p e below s Z EL h0 _ _ _ (T687.setTop (mkF m 356 #[.val (.int p1), .val (.int p2), .val (.int p3), .val (.int p4), .val (.int m1), .val (.int (p2 &&& (2147483647 : Int32))), .val (.int mu), .val (.int rp), .unset, .unset] [(.int (3 : Int32)), (.ref b679), (.ref b679)]))
          refine FinW.st (fun _ => XS.bipush X687.here hx rfl (Jvm.hb hby at_356)) ?_
          show FinW p e below s Z EL h0 _ _ _ (T687.setTop (mkF m 358 #[.val (.int p1), .val (.int p2), .val (.int p3), .val (.int p4), .val (.int m1), .val (.int (p2 &&& (2147483647 : Int32))), .val (.int mu), .val (.int rp), .unset, .unset] [(.int (101 : Int32)), (.int (3 : Int32)), (.ref b679), (.ref b679)]))
          obtain ⟨T690, h690, X690, e690, W690, V690, st690⟩ := stC0 X687 hx hZ e687 V687 (j := (3 : Int32)) (by decide) 3 rfl (Nat.le_of_ble_eq_true rfl) rfl (g := (mkF m 358 #[.val (.int p1), .val (.int p2), .val (.int p3), .val (.int p4), .val (.int m1), .val (.int (p2 &&& (2147483647 : Int32))), .val (.int mu), .val (.int rp), .unset, .unset] [(.int (101 : Int32)), (.int (3 : Int32)), (.ref b679), (.ref b679)])) rfl rfl (Jvm.hb hby at_358)
          have N690 := Fr.snoc X690 N687 ge679
          refine FinW.st st690 ?_
          have CH692 := CH689.trans (CHr.wr W690 (Safe.arv hZ.alike V687 (by decide)) CH689.1)
          have V690 : Arv Z h690 b679 _ .char (4 : Int32) [(.int (110 : Int32)), (.int (111 : Int32)), (.int (110 : Int32)), (.int (101 : Int32))] (.int (0 : Int32)) := V690
          show FinW p e below s Z EL h0 _ _ _ (T690.setTop (mkF m 359 #[.val (.int p1), .val (.int p2), .val (.int p3), .val (.int p4), .val (.int m1), .val (.int (p2 &&& (2147483647 : Int32))), .val (.int mu), .val (.int rp), .unset, .unset] [(.ref b679)]))
          refine FinW.st (fun _ => XS.astore X690.here hx rfl (Jvm.hb hby at_359) rfl rfl (l' := #[.val (.int p1), .val (.int p2), .val (.int p3), .val (.int p4), .val (.int m1), .val (.int (p2 &&& (2147483647 : Int32))), .val (.int mu), .val (.int rp), .unset, .val (.ref b679)]) rfl) ?_
          show FinW p e below s Z EL h0 _ _ _ (T690.setTop (mkF m 361 #[.val (.int p1), .val (.int p2), .val (.int p3), .val (.int p4), .val (.int m1), .val (.int (p2 &&& (2147483647 : Int32))), .val (.int mu), .val (.int rp), .unset, .val (.ref b679)] []))
          refine FinW.st (fun _ => XS.iload X690.here hx rfl (Jvm.hb hby at_361) rfl) ?_
          show FinW p e below s Z EL h0 _ _ _ (T690.setTop (mkF m 363 #[.val (.int p1), .val (.int p2), .val (.int p3), .val (.int p4), .val (.int m1), .val (.int (p2 &&& (2147483647 : Int32))), .val (.int mu), .val (.int rp), .unset, .val (.ref b679)] [(.int mu)]))
          refine joinHW (α := List Int32) (P := fun ds T693 h693 L693 vm693 => (Stand p l e room_1 (s.setVm vm693) m #[(.int p1), (.int p2), (.int p3), (.int p4)] below meth c T693 L693 1 4) ∧ (T693.heap = h693) ∧ (Fr n0 L693) ∧ (Old Z n0 h693) ∧ (ds.length = 4 ∧ (∀ c ∈ ds, ¬ c < 0 ∧ ¬ (255 : Int32) < c)) ∧ (Snc s vm693 h693) ∧ (CHr Z EL s.vm h0 vm693 h693) ∧ (Z.Warmed39 (s.setVm vm693).vm) ∧ ((s.setVm vm693).vm.findClass "com/example/grantwell/grantwell/server/AuthMethodNamedPinLaw" = some m.cls) ∧ (∃ ka, Arv Z h693 b679 ka .char (4 : Int32) (ds.map Value.int) (.int 0))) (A := fun ds T693 => T693.setTop (mkF m 377 #[.val (.int p1), .val (.int p2), .val (.int p3), .val (.int p4), .val (.int m1), .val (.int (p2 &&& (2147483647 : Int32))), .val (.int mu), .val (.int rp), .unset, .val (.ref b679)] [])) ?_ ?_
          · rintro ds T693 h693 L693 vm693 ⟨X693, e693, N693, O693, ⟨hds, hbs⟩, B693, CH693, hZ693, hown693, G693_0⟩
            show FinW p e below s Z EL h0 _ _ _ (T693.setTop (mkF m 377 #[.val (.int p1), .val (.int p2), .val (.int p3), .val (.int p4), .val (.int m1), .val (.int (p2 &&& (2147483647 : Int32))), .val (.int mu), .val (.int rp), .unset, .val (.ref b679)] []))
            obtain ⟨ka, Va⟩ := G693_0
            obtain ⟨b694, g694⟩ : ∃ z, z = h693.size := ⟨_, rfl⟩
            have ne695 : b679 ≠ b694 := by rw [g694]; exact Nat.ne_of_lt Va.lt
            have ge694 : n0 ≤ b694 := by rw [g694]; exact O693.own_le
            obtain ⟨T694, h694, X694, e694, E694, A694, D694, -, st694⟩ := newO X693 hx hZ693 hown693 (hw _ (List.mem_of_getElem? (i := 2) rfl)) (hw _ (List.mem_of_getElem? (i := 3) rfl)) (hw _ (List.mem_of_getElem? (i := 4) rfl)) e693 (g := (mkF m 377 #[.val (.int p1), .val (.int p2), .val (.int p3), .val (.int p4), .val (.int m1), .val (.int (p2 &&& (2147483647 : Int32))), .val (.int mu), .val (.int rp), .unset, .val (.ref b679)] [])) rfl (Jvm.hb hby at_377) (by decide) (by decide)
            rw [← g694] at A694 D694 st694
            have CH696 := CH693.trans (CHr.ext E694 CH693.1)
            have F694_coder : Fld Z h694 b694 "java/lang/String" "coder" "B" (.int (0 : Int32)) := D694 (Or.inr (hw _ (List.mem_of_getElem? (i := 28) rfl))) (ty := .byte) (by decide)
            have F694_value : Fld Z h694 b694 "java/lang/String" "value" "[B" .null := D694 (Or.inr (hw _ (List.mem_of_getElem? (i := 30) rfl))) (ty := (.array .byte)) (by decide)
            refine FinW.st st694 ?_
            show FinW p e below s Z EL h0 _ _ _ (T694.setTop (mkF m 380 #[.val (.int p1), .val (.int p2), .val (.int p3), .val (.int p4), .val (.int m1), .val (.int (p2 &&& (2147483647 : Int32))), .val (.int mu), .val (.int rp), .unset, .val (.ref b679)] [(.ref b694)]))
            refine FinW.st (fun _ => XS.dup X694.here hx rfl (Jvm.hb hby at_380) rfl rfl) ?_
            show FinW p e below s Z EL h0 _ _ _ (T694.setTop (mkF m 381 #[.val (.int p1), .val (.int p2), .val (.int p3), .val (.int p4), .val (.int m1), .val (.int (p2 &&& (2147483647 : Int32))), .val (.int mu), .val (.int rp), .unset, .val (.ref b679)] [(.ref b694), (.ref b694)]))
            refine FinW.st (fun _ => XS.aload X694.here hx rfl (Jvm.hb hby at_381) rfl rfl) ?_
            show FinW p e below s Z EL h0 _ _ _ (T694.setTop (mkF m 383 #[.val (.int p1), .val (.int p2), .val (.int p3), .val (.int p4), .val (.int m1), .val (.int (p2 &&& (2147483647 : Int32))), .val (.int mu), .val (.int rp), .unset, .val (.ref b679)] [(.ref b679), (.ref b694), (.ref b694)]))
            have f697 := O693.ext E694
            have f698 := Va.ext E694
            obtain ⟨_, T699, h699, L699, X699, e699, ⟨rfl, Nq699, K699, t699, gt699, sz699, nt699, S699⟩, st699⟩ := goI X694 hx hZ693 hown693 rfl (hw _ (List.mem_of_getElem? (i := 5) rfl)) (hw _ (List.mem_of_getElem? (i := 6) rfl)) (hw _ (List.mem_of_getElem? (i := 7) rfl)) (by decide) (strNew (len := 3) (W := 1) hZ693 hw (hw _ (List.mem_of_getElem? (i := 3) rfl)) (cs := ds) (n := 4) ge694 f697.own_le A694 F694_value F694_coder f698 (SC.ext f697.2) hcz hds (by decide) (by decide) hbs (by decide) (by decide)) e694 (g := (mkF m 383 #[.val (.int p1), .val (.int p2), .val (.int p3), .val (.int p4), .val (.int m1), .val (.int (p2 &&& (2147483647 : Int32))), .val (.int mu), .val (.int rp), .unset, .val (.ref b679)] [(.ref b679), (.ref b694), (.ref b694)])) rfl (by rw [hml]; rfl) [(.ref b679)] [(.ref b694)] (lenOf pd_1 rfl) rfl (by show 2 * 0 + _ ≤ _; exact Nat.le_of_eq rfl) (Jvm.hb hby at_383) rfl (by decide) (by decide)
            have N699 := N693.app Nq699
            refine FinW.st st699 ?_
            have CH700 := CH696.trans (CHr.keep K699 (sfS (Jvm.OwnKit.Safe.null hZ693.alike A694 F694_value) sf0) CH696.1)
            show FinW p e below s Z EL h0 _ _ _ (T699.setTop (mkF m 386 #[.val (.int p1), .val (.int p2), .val (.int p3), .val (.int p4), .val (.int m1), .val (.int (p2 &&& (2147483647 : Int32))), .val (.int mu), .val (.int rp), .unset, .val (.ref b679)] [(.ref b694)]))
            refine FinW.st (fun _ => XS.astore X699.here hx rfl (Jvm.hb hby at_386) rfl rfl (l' := #[.val (.int p1), .val (.int p2), .val (.int p3), .val (.int p4), .val (.int m1), .val (.int (p2 &&& (2147483647 : Int32))), .val (.int mu), .val (.int rp), .val (.ref b694), .val (.ref b679)]) rfl) ?_
            show FinW p e below s Z EL h0 _ _ _ (T699.setTop (mkF m 388 #[.val (.int p1), .val (.int p2), .val (.int p3), .val (.int p4), .val (.int m1), .val (.int (p2 &&& (2147483647 : Int32))), .val (.int mu), .val (.int rp), .val (.ref b694), .val (.ref b679)] []))
            refine FinW.st (fun _ => XS.goto X699.here hx rfl (pc0 := 388) (pc' := 413) rfl (Jvm.hb hby at_388) (by decide) (by decide)) ?_
            show FinW p e below s Z EL h0 _ _ _ (T699.setTop (mkF m 413 #[.val (.int p1), .val (.int p2), .val (.int p3), .val (.int p4), .val (.int m1), .val (.int (p2 &&& (2147483647 : Int32))), .val (.int mu), .val (.int rp), .val (.ref b694), .val (.ref b679)] []))
            have f701 := f697.keep K699 (allS ge694 all0)
            have f702 := B693.ext E694
            have f703 := f702.keep K699
            exact j413 (b694, .val (.ref b679)) _ _ _ vm693 ⟨X699.more (by decide) (by decide), e699, N699, f701, ⟨⟨_, _, S699⟩, One.val rfl⟩, f703, CH700, hZ693, hown693⟩
          intro j377
          by_cases f377 : mu = (0 : Int32)
          · skip
            refine FinW.st (fun _ => XS.ifYes X690.here hx rfl (pc0 := 363) (pc' := 377) rfl (Jvm.hb hby at_363) rfl (zeq f377) (by decide) (by decide)) ?_
            show FinW p e below s Z EL h0 _ _ _ (T690.setTop (mkF m 377 #[.val (.int p1), .val (.int p2), .val (.int p3), .val (.int p4), .val (.int m1), .val (.int (p2 &&& (2147483647 : Int32))), .val (.int mu), .val (.int rp), .unset, .val (.ref b679)] []))
            have f704 := O.ext E679
            have f705 := f704.wr W681 ge679
            have f706 := f705.wr W684 ge679
            have f707 := f706.wr W687 ge679
            have f708 := f707.wr W690 ge679
            have f709 := B0.ext E679
            have f710 := f709.wr W681
            have f711 := f710.wr W684
            have f712 := f711.wr W687
            have f713 := f712.wr W690
            exact j377 nm2 _ _ _ vm0 ⟨X690.more (by decide) (by decide), e690, N690, f708, ⟨rfl, by decide⟩, f713, CH692, hZ, hown, ⟨_, V690⟩⟩
          · skip
            refine FinW.st (fun _ => XS.ifNo X690.here hx rfl (Jvm.hb hby at_363) rfl (zeqN f377)) ?_
            show FinW p e below s Z EL h0 _ _ _ (T690.setTop (mkF m 366 #[.val (.int p1), .val (.int p2), .val (.int p3), .val (.int p4), .val (.int m1), .val (.int (p2 &&& (2147483647 : Int32))), .val (.int mu), .val (.int rp), .unset, .val (.ref b679)] []))
            refine FinW.st (fun _ => XS.aload X690.here hx rfl (Jvm.hb hby at_366) rfl rfl) ?_
            show FinW p e below s Z EL h0 _ _ _ (T690.setTop (mkF m 368 #[.val (.int p1), .val (.int p2), .val (.int p3), .val (.int p4), .val (.int m1), .val (.int (p2 &&& (2147483647 : Int32))), .val (.int mu), .val (.int rp), .unset, .val (.ref b679)] [(.ref b679)]))
            refine FinW.st (fun _ => XS.iload X690.here hx rfl (Jvm.hb hby at_368) rfl) ?_
            show FinW p e below s Z EL h0 _ _ _ (T690.setTop (mkF m 370 #[.val (.int p1), .val (.int p2), .val (.int p3), .val (.int p4), .val (.int m1), .val (.int (p2 &&& (2147483647 : Int32))), .val (.int mu), .val (.int rp), .unset, .val (.ref b679)] [(.int (p2 &&& (2147483647 : Int32))), (.ref b679)]))
            refine FinW.st (fun _ => XS.aload X690.here hx rfl (Jvm.hb hby at_370) rfl rfl) ?_
            show FinW p e below s Z EL h0 _ _ _ (T690.setTop (mkF m 372 #[.val (.int p1), .val (.int p2), .val (.int p3), .val (.int p4), .val (.int m1), .val (.int (p2 &&& (2147483647 : Int32))), .val (.int mu), .val (.int rp), .unset, .val (.ref b679)] [(.ref b679), (.int (p2 &&& (2147483647 : Int32))), (.ref b679)]))
            refine FinW.st (alen X690 hx hZ e690 V690 (g := (mkF m 372 #[.val (.int p1), .val (.int p2), .val (.int p3), .val (.int p4), .val (.int m1), .val (.int (p2 &&& (2147483647 : Int32))), .val (.int mu), .val (.int rp), .unset, .val (.ref b679)] [(.ref b679), (.int (p2 &&& (2147483647 : Int32))), (.ref b679)])) rfl rfl (Jvm.hb hby at_372)) ?_
            show FinW p e below s Z EL h0 _ _ _ (T690.setTop (mkF m 373 #[.val (.int p1), .val (.int p2), .val (.int p3), .val (.int p4), .val (.int m1), .val (.int (p2 &&& (2147483647 : Int32))), .val (.int mu), .val (.int rp), .unset, .val (.ref b679)] [(.int (4 : Int32)), (.int (p2 &&& (2147483647 : Int32))), (.ref b679)]))
            refine FinW.st (fun _ => iremM X690 hx rfl (Jvm.hb hby at_373) rfl (by decide)) ?_
            show FinW p e below s Z EL h0 _ _ _ (T690.setTop (mkF m 374 #[.val (.int p1), .val (.int p2), .val (.int p3), .val (.int p4), .val (.int m1), .val (.int (p2 &&& (2147483647 : Int32))), .val (.int mu), .val (.int rp), .unset, .val (.ref b679)] [(.int ((p2 &&& (2147483647 : Int32)) % (4 : Int32))), (.ref b679)]))
            refine FinW.st (fun _ => XS.iload X690.here hx rfl (Jvm.hb hby at_374) rfl) ?_
            show FinW p e below s Z EL h0 _ _ _ (T690.setTop (mkF m 376 #[.val (.int p1), .val (.int p2), .val (.int p3), .val (.int p4), .val (.int m1), .val (.int (p2 &&& (2147483647 : Int32))), .val (.int mu), .val (.int rp), .unset, .val (.ref b679)] [(.int rp), (.int ((p2 &&& (2147483647 : Int32)) % (4 : Int32))), (.ref b679)]))
            obtain ⟨ix, hix, lix, uix⟩ := remN (x := p2) (n := (4 : Int32)) (by decide)
            rw [hix]
            show FinW p e below s Z EL h0 _ _ _ (T690.setTop (mkF m 376 #[.val (.int p1), .val (.int p2), .val (.int p3), .val (.int p4), .val (.int m1), .val (.int (p2 &&& (2147483647 : Int32))), .val (.int mu), .val (.int rp), .unset, .val (.ref b679)] [(.int rp), (.int ix), (.ref b679)]))
            obtain ⟨T714, h714, X714, e714, W714, V714, st714⟩ := stC0 X690 hx hZ e690 V690 (j := ix) ⟨lix, uix⟩ _ rfl (nlt (N := (4 : Int32)) rfl lix uix) (nar_chr lrp urp) (g := (mkF m 376 #[.val (.int p1), .val (.int p2), .val (.int p3), .val (.int p4), .val (.int m1), .val (.int (p2 &&& (2147483647 : Int32))), .val (.int mu), .val (.int rp), .unset, .val (.ref b679)] [(.int rp), (.int ix), (.ref b679)])) rfl rfl (Jvm.hb hby at_376)
            have N714 := Fr.snoc X714 N690 ge679
            refine FinW.st st714 ?_
            have CH715 := CH692.trans (CHr.wr W714 (Safe.arv hZ.alike V690 (by decide)) CH692.1)
            show FinW p e below s Z EL h0 _ _ _ (T714.setTop (mkF m 377 #[.val (.int p1), .val (.int p2), .val (.int p3), .val (.int p4), .val (.int m1), .val (.int (p2 &&& (2147483647 : Int32))), .val (.int mu), .val (.int rp), .unset, .val (.ref b679)] []))
            have V714 : ∃ ka, Arv Z h714 b679 ka .char (4 : Int32) ((nm2.set ix.toNatClampNeg rp).map Value.int) (.int 0) := ⟨_, by rw [List.map_set]; exact V714⟩
            have f716 := O.ext E679
            have f717 := f716.wr W681 ge679
            have f718 := f717.wr W684 ge679
            have f719 := f718.wr W687 ge679
            have f720 := f719.wr W690 ge679
            have f721 := f720.wr W714 ge679
            have f722 := B0.ext E679
            have f723 := f722.wr W681
            have f724 := f723.wr W684
            have f725 := f724.wr W687
            have f726 := f725.wr W690
            have f727 := f726.wr W714
            exact j377 (nm2.set ix.toNatClampNeg rp) _ _ _ vm0 ⟨X714.more (by decide) (by decide), e714, N714, f721, ⟨by rw [List.length_set]; try rfl, set_ok (by decide) ⟨lrp, urp⟩⟩, f727, CH715, hZ, hown, V714⟩
        · skip
          refine FinW.st (fun _ => XS.icmpYes X0.here hx rfl (pc0 := 333) (pc' := 391) rfl (Jvm.hb hby at_333) rfl (ine hm2) (by decide) (by decide)) ?_
          show FinW p e below s Z EL h0 _ _ _ (T0.setTop (mkF m 391 #[.val (.int p1), .val (.int p2), .val (.int p3), .val (.int p4), .val (.int m1), .val (.int (p2 &&& (2147483647 : Int32))), .val (.int mu), .val (.int rp), .unset, .unset] []))
          refine FinW.st (fun _ => XS.iload X0.here hx rfl (Jvm.hb hby at_391) rfl) ?_
          show FinW p e below s Z EL h0 _ _ _ (T0.setTop (mkF m 393 #[.val (.int p1), .val (.int p2), .val (.int p3), .val (.int p4), .val (.int m1), .val (.int (p2 &&& (2147483647 : Int32))), .val (.int mu), .val (.int rp), .unset, .unset] [(.int m1)]))
          refine FinW.st (fun _ => XS.iconst X0.here hx rfl (Jvm.hb hby at_393)) ?_
          show FinW p e below s Z EL h0 _ _ _ (T0.setTop (mkF m 394 #[.val (.int p1), .val (.int p2), .val (.int p3), .val (.int p4), .val (.int m1), .val (.int (p2 &&& (2147483647 : Int32))), .val (.int mu), .val (.int rp), .unset, .unset] [(.int (3 : Int32)), (.int m1)]))
          by_cases hm3 : m1 = (3 : Int32)
          · skip
            refine FinW.st (fun _ => XS.icmpNo X0.here hx rfl (Jvm.hb hby at_394) rfl (ineN hm3)) ?_
            show FinW p e below s Z EL h0 _ _ _ (T0.setTop (mkF m 397 #[.val (.int p1), .val (.int p2), .val (.int p3), .val (.int p4), .val (.int m1), .val (.int (p2 &&& (2147483647 : Int32))), .val (.int mu), .val (.int rp), .unset, .unset] []))
            refine FinW.st (fun _ => XS.iload X0.here hx rfl (Jvm.hb hby at_397) rfl) ?_
            show FinW p e below s Z EL h0 _ _ _ (T0.setTop (mkF m 399 #[.val (.int p1), .val (.int p2), .val (.int p3), .val (.int p4), .val (.int m1), .val (.int (p2 &&& (2147483647 : Int32))), .val (.int mu), .val (.int rp), .unset, .unset] [(.int (p2 &&& (2147483647 : Int32)))]))
            refine FinW.st (fun _ => XS.iconst X0.here hx rfl (Jvm.hb hby at_399)) ?_
            show FinW p e below s Z EL h0 _ _ _ (T0.setTop (mkF m 400 #[.val (.int p1), .val (.int p2), .val (.int p3), .val (.int p4), .val (.int m1), .val (.int (p2 &&& (2147483647 : Int32))), .val (.int mu), .val (.int rp), .unset, .unset] [(.int (5 : Int32)), (.int (p2 &&& (2147483647 : Int32)))]))
            refine FinW.st (fun _ => iremM X0 hx rfl (Jvm.hb hby at_400) rfl (by decide)) ?_
            show FinW p e below s Z EL h0 _ _ _ (T0.setTop (mkF m 401 #[.val (.int p1), .val (.int p2), .val (.int p3), .val (.int p4), .val (.int m1), .val (.int (p2 &&& (2147483647 : Int32))), .val (.int mu), .val (.int rp), .unset, .unset] [(.int ((p2 &&& (2147483647 : Int32)) % (5 : Int32)))]))
            refine FinW.st (fun _ => XS.iloadN X0.here hx rfl (Jvm.hb hby at_401) rfl) ?_
            show FinW p e below s Z EL h0 _ _ _ (T0.setTop (mkF m 402 #[.val (.int p1), .val (.int p2), .val (.int p3), .val (.int p4), .val (.int m1), .val (.int (p2 &&& (2147483647 : Int32))), .val (.int mu), .val (.int rp), .unset, .unset] [(.int p4), (.int ((p2 &&& (2147483647 : Int32)) % (5 : Int32)))]))
            obtain ⟨_, T728, h728, L728, X728, e728, ⟨x3, t3, cs3, rfl, Nq728, K728, gx3, S728⟩, CHc728, B728, hZ728, hown728, st728⟩ := goSW X0 hx hZ hown (hw _ (List.mem_of_getElem? (i := 73) rfl)) (hw _ (List.mem_of_getElem? (i := 74) rfl)) (hw _ (List.mem_of_getElem? (i := 75) rfl)) (hw _ (List.mem_of_getElem? (i := 76) rfl)) (by decide) ((rmDrawn l Z a0 hw [] ((p2 &&& (2147483647 : Int32)) % (5 : Int32)) p4 cz h0 n0 O SC hcz).pay (W := 0) hZ (hw _ (List.mem_of_getElem? (i := 76) rfl)) (hw _ (List.mem_of_getElem? (i := 75) rfl)) (by decide) (by decide) hEL CH0) e0 B0 (g := (mkF m 402 #[.val (.int p1), .val (.int p2), .val (.int p3), .val (.int p4), .val (.int m1), .val (.int (p2 &&& (2147483647 : Int32))), .val (.int mu), .val (.int rp), .unset, .unset] [(.int p4), (.int ((p2 &&& (2147483647 : Int32)) % (5 : Int32)))])) rfl (by rw [hml]; rfl) [(.int ((p2 &&& (2147483647 : Int32)) % (5 : Int32))), (.int p4)] [] (lenOf pd_5 rfl) rfl (by show 2 * 0 + _ ≤ _; exact Nat.le_of_eq rfl) (Jvm.hb hby at_402) rfl (by decide) (by decide)
            have N728 := N0.app Nq728
            refine FinW.st st728 ?_
            have CH728 := CH0.trans CHc728
            show FinW p e below s Z EL h0 _ _ _ (T728.setTop (mkF m 405 #[.val (.int p1), .val (.int p2), .val (.int p3), .val (.int p4), .val (.int m1), .val (.int (p2 &&& (2147483647 : Int32))), .val (.int mu), .val (.int rp), .unset, .unset] [(.ref x3)]))
            refine FinW.st (fun _ => XS.astore X728.here hx rfl (Jvm.hb hby at_405) rfl rfl (l' := #[.val (.int p1), .val (.int p2), .val (.int p3), .val (.int p4), .val (.int m1), .val (.int (p2 &&& (2147483647 : Int32))), .val (.int mu), .val (.int rp), .val (.ref x3), .unset]) rfl) ?_
            show FinW p e below s Z EL h0 _ _ _ (T728.setTop (mkF m 407 #[.val (.int p1), .val (.int p2), .val (.int p3), .val (.int p4), .val (.int m1), .val (.int (p2 &&& (2147483647 : Int32))), .val (.int mu), .val (.int rp), .val (.ref x3), .unset] []))
            refine FinW.st (fun _ => XS.goto X728.here hx rfl (pc0 := 407) (pc' := 413) rfl (Jvm.hb hby at_407) (by decide) (by decide)) ?_
            show FinW p e below s Z EL h0 _ _ _ (T728.setTop (mkF m 413 #[.val (.int p1), .val (.int p2), .val (.int p3), .val (.int p4), .val (.int m1), .val (.int (p2 &&& (2147483647 : Int32))), .val (.int mu), .val (.int rp), .val (.ref x3), .unset] []))
            have f729 := O.keep K728 all0
            exact j413 (x3, .unset) _ _ _ T728.vm ⟨X728.more (by decide) (by decide), e728, N728, f729, ⟨⟨_, _, S728⟩, One.u⟩, B728, CH728, hZ728, hown728⟩
          · skip
            refine FinW.st (fun _ => XS.icmpYes X0.here hx rfl (pc0 := 394) (pc' := 410) rfl (Jvm.hb hby at_394) rfl (ine hm3) (by decide) (by decide)) ?_
            show FinW p e below s Z EL h0 _ _ _ (T0.setTop (mkF m 410 #[.val (.int p1), .val (.int p2), .val (.int p3), .val (.int p4), .val (.int m1), .val (.int (p2 &&& (2147483647 : Int32))), .val (.int mu), .val (.int rp), .unset, .unset] []))
            refine FinW.st (fun _ => XS.aconstNull X0.here hx rfl (Jvm.hb hby at_410)) ?_
            show FinW p e below s Z EL h0 _ _ _ (T0.setTop (mkF m 411 #[.val (.int p1), .val (.int p2), .val (.int p3), .val (.int p4), .val (.int m1), .val (.int (p2 &&& (2147483647 : Int32))), .val (.int mu), .val (.int rp), .unset, .unset] [.null]))
            refine FinW.st (fun _ => XS.astore X0.here hx rfl (Jvm.hb hby at_411) rfl rfl (l' := #[.val (.int p1), .val (.int p2), .val (.int p3), .val (.int p4), .val (.int m1), .val (.int (p2 &&& (2147483647 : Int32))), .val (.int mu), .val (.int rp), .val .null, .unset]) rfl) ?_
            show FinW p e below s Z EL h0 _ _ _ (T0.setTop (mkF m 413 #[.val (.int p1), .val (.int p2), .val (.int p3), .val (.int p4), .val (.int m1), .val (.int (p2 &&& (2147483647 : Int32))), .val (.int mu), .val (.int rp), .val .null, .unset] []))
            refine FinW.st (fun _ => XS.aconstNull X0.here hx rfl (Jvm.hb hby at_413)) ?_
            show FinW p e below s Z EL h0 _ _ _ (T0.setTop (mkF m 414 #[.val (.int p1), .val (.int p2), .val (.int p3), .val (.int p4), .val (.int m1), .val (.int (p2 &&& (2147483647 : Int32))), .val (.int mu), .val (.int rp), .val .null, .unset] [.null]))
            refine FinW.st (fun _ => XS.astore X0.here hx rfl (Jvm.hb hby at_414) rfl rfl (l' := #[.val (.int p1), .val (.int p2), .val (.int p3), .val (.int p4), .val (.int m1), .val (.int (p2 &&& (2147483647 : Int32))), .val (.int mu), .val (.int rp), .val .null, .val .null]) rfl) ?_
            show FinW p e below s Z EL h0 _ _ _ (T0.setTop (mkF m 416 #[.val (.int p1), .val (.int p2), .val (.int p3), .val (.int p4), .val (.int m1), .val (.int (p2 &&& (2147483647 : Int32))), .val (.int mu), .val (.int rp), .val .null, .val .null] []))
            refine FinW.st (fun _ => XS.aload X0.here hx rfl (Jvm.hb hby at_416) rfl rfl) ?_
            show FinW p e below s Z EL h0 _ _ _ (T0.setTop (mkF m 418 #[.val (.int p1), .val (.int p2), .val (.int p3), .val (.int p4), .val (.int m1), .val (.int (p2 &&& (2147483647 : Int32))), .val (.int mu), .val (.int rp), .val .null, .val .null] [.null]))
            refine FinW.st (fun _ => XS.ifnullYes X0.here hx rfl (pc0 := 418) (pc' := 472) rfl (Jvm.hb hby at_418) rfl (by decide) (by decide)) ?_
            show FinW p e below s Z EL h0 _ _ _ (T0.setTop (mkF m 472 #[.val (.int p1), .val (.int p2), .val (.int p3), .val (.int p4), .val (.int m1), .val (.int (p2 &&& (2147483647 : Int32))), .val (.int mu), .val (.int rp), .val .null, .val .null] []))
            refine FinW.st (fun _ => XS.aload X0.here hx rfl (Jvm.hb hby at_472) rfl rfl) ?_
            show FinW p e below s Z EL h0 _ _ _ (T0.setTop (mkF m 474 #[.val (.int p1), .val (.int p2), .val (.int p3), .val (.int p4), .val (.int m1), .val (.int (p2 &&& (2147483647 : Int32))), .val (.int mu), .val (.int rp), .val .null, .val .null] [.null]))
            obtain ⟨_, T730, h730, L730, X730, e730, ⟨rfl, Nq730, K730⟩, st730⟩ := goS X0 hx hZ hown (hw _ (List.mem_of_getElem? (i := 47) rfl)) (hw _ (List.mem_of_getElem? (i := 48) rfl)) (hw _ (List.mem_of_getElem? (i := 45) rfl)) (hw _ (List.mem_of_getElem? (i := 49) rfl)) (by decide) ((rmNamedN l Z a0 hw [] va cv en0 en1 en2 s0 s1 s2 u0 u1 u2 h0 n0 O EN).pay (W := 0) hZ (hw _ (List.mem_of_getElem? (i := 49) rfl)) (hw _ (List.mem_of_getElem? (i := 45) rfl)) (by decide) (by decide)) e0 (g := (mkF m 474 #[.val (.int p1), .val (.int p2), .val (.int p3), .val (.int p4), .val (.int m1), .val (.int (p2 &&& (2147483647 : Int32))), .val (.int mu), .val (.int rp), .val .null, .val .null] [.null])) rfl (by rw [hml]; rfl) [.null] [] (lenOf pd_4 rfl) rfl (by show 2 * 0 + _ ≤ _; exact Nat.le_of_eq rfl) (Jvm.hb hby at_474) rfl (by decide) (by decide)
            have N730 := N0.app Nq730
            refine FinW.st st730 ?_
            have CH731 := CH0.trans (CHr.keep K730 sf0 CH0.1)
            show FinW p e below s Z EL h0 _ _ _ (T730.setTop (mkF m 477 #[.val (.int p1), .val (.int p2), .val (.int p3), .val (.int p4), .val (.int m1), .val (.int (p2 &&& (2147483647 : Int32))), .val (.int mu), .val (.int rp), .val .null, .val .null] [.null]))
            refine FinW.st (fun _ => XS.aload X730.here hx rfl (Jvm.hb hby at_477) rfl rfl) ?_
            show FinW p e below s Z EL h0 _ _ _ (T730.setTop (mkF m 479 #[.val (.int p1), .val (.int p2), .val (.int p3), .val (.int p4), .val (.int m1), .val (.int (p2 &&& (2147483647 : Int32))), .val (.int mu), .val (.int rp), .val .null, .val .null] [.null, .null]))
            refine FinW.st (fun _ => Jvm.RoadKit.acmp (g := (mkF m 479 #[.val (.int p1), .val (.int p2), .val (.int p3), .val (.int p4), .val (.int m1), .val (.int (p2 &&& (2147483647 : Int32))), .val (.int mu), .val (.int rp), .val .null, .val .null] [.null, .null])) X730 hx rfl rfl rfl (pc0 := 479) (pc' := 482) (same := true) rfl (Jvm.hb hby at_479) rfl (decide_eq_true rfl) (by decide) (by decide)) ?_
            show FinW p e below s Z EL h0 _ _ _ (T730.setTop (mkF m 482 #[.val (.int p1), .val (.int p2), .val (.int p3), .val (.int p4), .val (.int m1), .val (.int (p2 &&& (2147483647 : Int32))), .val (.int mu), .val (.int rp), .val .null, .val .null] []))
            refine FinW.st (fun _ => XS.iconst X730.here hx rfl (Jvm.hb hby at_482)) ?_
            show FinW p e below s Z EL h0 _ _ _ (T730.setTop (mkF m 483 #[.val (.int p1), .val (.int p2), .val (.int p3), .val (.int p4), .val (.int m1), .val (.int (p2 &&& (2147483647 : Int32))), .val (.int mu), .val (.int rp), .val .null, .val .null] [(.int (1 : Int32))]))
            refine FinW.st (fun _ => XS.goto X730.here hx rfl (pc0 := 483) (pc' := 487) rfl (Jvm.hb hby at_483) (by decide) (by decide)) ?_
            show FinW p e below s Z EL h0 _ _ _ (T730.setTop (mkF m 487 #[.val (.int p1), .val (.int p2), .val (.int p3), .val (.int p4), .val (.int m1), .val (.int (p2 &&& (2147483647 : Int32))), .val (.int mu), .val (.int rp), .val .null, .val .null] [(.int (1 : Int32))]))
            have f732 := B0.keep K730
            exact finNW X730 hx hlk hret (t := .boolean) (by simp) (Jvm.hb hby at_487) e730 hZ hEL f732 CH731 ⟨rfl, N730⟩ (by decide) (by decide)
  intro j27
  by_cases f27 : (p3 &&& (256 : Int32)) = (0 : Int32)
  · skip
    refine FinW.st (fun _ => XS.ifYes X0.here hx rfl (pc0 := 19) (pc' := 26) rfl (Jvm.hb hby at_19) rfl (zeq f27) (by decide) (by decide)) ?_
    show FinW p e below s Z EL h0 _ _ _ (T0.setTop (mkF m 26 #[.val (.int p1), .val (.int p2), .val (.int p3), .val (.int p4), .val (.int m1), .val (.int (p2 &&& (2147483647 : Int32))), .unset, .unset, .unset, .unset] []))
    refine FinW.st (fun _ => XS.iconst X0.here hx rfl (Jvm.hb hby at_26)) ?_
    show FinW p e below s Z EL h0 _ _ _ (T0.setTop (mkF m 27 #[.val (.int p1), .val (.int p2), .val (.int p3), .val (.int p4), .val (.int m1), .val (.int (p2 &&& (2147483647 : Int32))), .unset, .unset, .unset, .unset] [(.int (0 : Int32))]))
    exact j27 _ trivial
  · skip
    refine FinW.st (fun _ => XS.ifNo X0.here hx rfl (Jvm.hb hby at_19) rfl (zeqN f27)) ?_
    show FinW p e below s Z EL h0 _ _ _ (T0.setTop (mkF m 22 #[.val (.int p1), .val (.int p2), .val (.int p3), .val (.int p4), .val (.int m1), .val (.int (p2 &&& (2147483647 : Int32))), .unset, .unset, .unset, .unset] []))
    refine FinW.st (fun _ => XS.iconst X0.here hx rfl (Jvm.hb hby at_22)) ?_
    show FinW p e below s Z EL h0 _ _ _ (T0.setTop (mkF m 23 #[.val (.int p1), .val (.int p2), .val (.int p3), .val (.int p4), .val (.int m1), .val (.int (p2 &&& (2147483647 : Int32))), .unset, .unset, .unset, .unset] [(.int (1 : Int32))]))
    refine FinW.st (fun _ => XS.goto X0.here hx rfl (pc0 := 23) (pc' := 27) rfl (Jvm.hb hby at_23) (by decide) (by decide)) ?_
    show FinW p e below s Z EL h0 _ _ _ (T0.setTop (mkF m 27 #[.val (.int p1), .val (.int p2), .val (.int p3), .val (.int p4), .val (.int m1), .val (.int (p2 &&& (2147483647 : Int32))), .unset, .unset, .unset, .unset] [(.int (1 : Int32))]))
    exact j27 _ trivial
theorem len_word {Z : State} {args : Array Value} {V : Jvm.Term} {u : Addr} {cl : Cell} {ty : FieldType} {z : Int32} (ev : V.eval args Z none [] Z = some (.ref u)) (A : Arr Z Z.heap u cl ty) (h : (Jvm.Cond.eq (Jvm.Term.length V) (Jvm.Term.int z)).value args Z none Z [] = some true) : cl.slots.size < 2 ^ 31 ∧ cl.slots.size.toInt32 = z := by
  have hlen : (Jvm.Term.length V).eval args Z none [] Z = some (.int z) := eqv_i rfl h
  have hAt : Z.arrayAt? u = some cl := A.fin (Vm.Alike.refl _)
  have h31 : cl.slots.size < 2 ^ 31 := Jvm.Free.SBG.length_lt ev hAt hlen
  exact ⟨h31, Value.int.inj (Option.some.inj ((len_f ev hAt h31).symm.trans hlen))⟩
theorem el_at {Z : State} {args : Array Value} {V : Jvm.Term} {u : Addr} {cl : Cell} {ty : FieldType} {j b : Int32} {i : Nat} (ev : V.eval args Z none [] Z = some (.ref u)) (A : Arr Z Z.heap u cl ty) (hi : j.toNatClampNeg = i) (h : (Jvm.Cond.eq (Jvm.Term.elem V (Jvm.Term.int j)) (Jvm.Term.int b)).value args Z none Z [] = some true) : cl.slots[i]? = some (.int b) := by
  have e := eqv_i (y := b) rfl h
  rw [← hi]; exact (elem_in e ev rfl A.1).2
theorem el_ref {Z : State} {args : Array Value} {V F : Jvm.Term} {u b : Addr} {cl : Cell} {ty : FieldType} {j : Int32} {i : Nat} (ev : V.eval args Z none [] Z = some (.ref u)) (A : Arr Z Z.heap u cl ty) (hi : j.toNatClampNeg = i) (eF : F.eval args Z none [] Z = some (.ref b)) (h : (Jvm.Cond.eq (Jvm.Term.elem V (Jvm.Term.int j)) F).value args Z none Z [] = some true) : cl.slots[i]? = some (.ref b) := by
  obtain ⟨x, y, e1, e2, k1, k2⟩ := cmp_v (Or.inl h)
  cases eF.symm.trans e2
  have hx : x.isRef = true := k2.2
  have q : x = .ref b := gotT (eq_R e1 e2 hx rfl) h
  subst q
  rw [← hi]; exact (elem_in e1 ev rfl A.1).2
theorem nm_str {Z : State} {args : Array Value} {t : Jvm.Term} {e : Addr} {cs : List Int32} {z : Int32} {vs : List Value} (hf : Fit Z) (et : t.eval args Z none [] Z = some (.ref e)) (h1 : (Jvm.Cond.exactly (Jvm.Term.field t "com/example/grantwell/grantwell/server/AuthMethod" "_name" "Ljava/lang/String;") "java/lang/String").value args Z none Z [] = some true)
    (h2 : (Jvm.Cond.eq (Jvm.Term.field (Jvm.Term.field t "com/example/grantwell/grantwell/server/AuthMethod" "_name" "Ljava/lang/String;") "java/lang/String" "coder" "B") (Jvm.Term.int 0)).value args Z none Z [] = some true) (h3 : (Jvm.Cond.arrayOf (Jvm.Term.field (Jvm.Term.field t "com/example/grantwell/grantwell/server/AuthMethod" "_name" "Ljava/lang/String;") "java/lang/String" "value" "[B") .byte).value args Z none Z [] = some true)
    (h4 : (Jvm.Cond.eq (Jvm.Term.length (Jvm.Term.field (Jvm.Term.field t "com/example/grantwell/grantwell/server/AuthMethod" "_name" "Ljava/lang/String;") "java/lang/String" "value" "[B")) (Jvm.Term.int z)).value args Z none Z [] = some true) (hz : ¬ z < 0) (hl : z.toNatClampNeg = vs.length) (hzc : z = Int32.ofNat cs.length) (hvs : vs = (cs.map fun c => c.toInt8.toInt32).map Value.int) (hb : ∀ c ∈ cs, ¬ c < 0 ∧ ¬ (255 : Int32) < c) (h4000 : cs.length ≤ 4000)
    (hel : ∀ (u : Addr) (cl : Cell), (Jvm.Term.field (Jvm.Term.field t "com/example/grantwell/grantwell/server/AuthMethod" "_name" "Ljava/lang/String;") "java/lang/String" "value" "[B").eval args Z none [] Z = some (.ref u) → Arr Z Z.heap u cl .byte → HasL cl 0 vs) : ∃ s u, Fld Z Z.heap e "com/example/grantwell/grantwell/server/AuthMethod" "_name" "Ljava/lang/String;" (.ref s) ∧ Str Z Z.heap s u cs := by
  obtain ⟨s, es⟩ := exa_v h1
  obtain ⟨u, eu⟩ := arr_v h3
  obtain ⟨cl, A⟩ := Arr.start eu h3
  obtain ⟨l1, l2⟩ := len_word eu A h4
  refine ⟨s, u, Fld.start ((fld_at et).symm.trans es), Exa.start es h1, Fld.start ((fld_at es).symm.trans (eqv_i rfl h2)), Fld.start ((fld_at es).symm.trans eu), ⟨cl.cls, ?_⟩, hb, h4000⟩
  rw [← hzc, ← hvs]
  exact Arv.start hf A l1 l2 hz hl (hel u cl eu A)
set_option maxRecDepth 65536 in
set_option maxHeartbeats 40000000 in
theorem comes_1 {Post : Tables → Env → Array Value → State → Outcome → State → Prop} (hpost : ∀ tb e args s v u, (limb_1_1.after args s (.returned v) u = true ∧ limb_1_2.after args s (.returned v) u = true ∧ True) → Jvm.D.FramedW s (.returned v) u (Jvm.fieldLocs frame_1_writes args s ++ Jvm.arrayLocs frame_1_arrays args s ++ Jvm.staticLocs frame_1_statics s) 24 4288 → Post tb e args s (.returned v) u) :
    ArmFor flags0 classFile x code maxLocals ret World_1 tables_1 room_1 Calls_1 rest_1 Pre_1 Post := by
  intro l hfl _ _ p e ha hc hk s m args below hf hA hF happ hP
  obtain ⟨hcalls, hrest, hpre⟩ := hP
  obtain ⟨-, -, -, hnamed, -, -, -, hat⟩ := (Spec.applies_iff hf).mp happ
  obtain ⟨hg, hn⟩ := and_e (Cond.before_iff.mp (show (Jvm.Cond.and given_1 narrow_1).before args s = true from hpre))
  obtain ⟨hcnt, hg⟩ := and_e hg
  obtain ⟨g0, hg⟩ := and_e hg
  obtain ⟨g1, hg⟩ := and_e hg
  obtain ⟨g2, hg⟩ := and_e hg
  have g3 := hg
  obtain ⟨w0, w1, w2, w3, rfl⟩ : ∃ w0 w1 w2 w3 : Value, args = #[w0, w1, w2, w3] := by
    have hs : args.size = 4 := by simpa [Cond.value, given_1] using hcnt
    obtain ⟨L⟩ := args
    match L, hs with
    | [w0, w1, w2, w3], _ => exact ⟨w0, w1, w2, w3, rfl⟩
  have hw := fun d (hd : d ∈ tables_1) => atoms_spec (ws := Jvm.Cond.code x code maxLocals ret :: tables_1) hat d (List.mem_cons_of_mem _ hd)
  obtain ⟨hsets, hown0⟩ := atoms_of _ (rest_1_c_eq ▸ (show rest_1_c.before _ s = true from hrest))
  have hfit : Fit s := fun {y c} hc i hi => by
    obtain ⟨ha, rfl⟩ := Array.getElem?_eq_some_iff.mp hc
    have q := List.all_eq_true.mp ((Array.all_eq_true_iff_forall_mem.mp hF) _ (Array.getElem_mem ha)) i (List.mem_range.mpr hi)
    simpa [Array.getElem?_eq_getElem hi] using q
  obtain ⟨i0, ei0⟩ := is_v g0
  obtain rfl : w0 = (.int i0) := Option.some.inj ei0
  obtain ⟨i1, ei1⟩ := is_v g1
  obtain rfl : w1 = (.int i1) := Option.some.inj ei1
  obtain ⟨i2, ei2⟩ := is_v g2
  obtain rfl : w2 = (.int i2) := Option.some.inj ei2
  obtain ⟨i3, ei3⟩ := is_v g3
  obtain rfl : w3 = (.int i3) := Option.some.inj ei3
  have n3 := not_v (Cond.before_iff.mp (hsets _ (List.mem_of_getElem? (i := 2) rfl)))
  obtain ⟨cz, ez⟩ := is_v (Cond.before_iff.mp (hsets _ (List.mem_of_getElem? (i := 1) rfl)))
  have SC : Sta s s.heap "java/lang/String" "COMPACT_STRINGS" "Z" (.int cz) := Sta.start ez (Or.inl (hsets _ (List.mem_of_getElem? (i := 0) rfl)))
  have hcz : ¬ (cz = (0 : Int32)) := gotF (Cond.eq_ints ez (Term.int_eval (0))) n3
  obtain ⟨n0, hn⟩ := and_e hn
  obtain ⟨n1, hn⟩ := and_e hn
  obtain ⟨n2, hn⟩ := and_e hn
  obtain ⟨n3, hn⟩ := and_e hn
  obtain ⟨n4, hn⟩ := and_e hn
  obtain ⟨n5, hn⟩ := and_e hn
  obtain ⟨n6, hn⟩ := and_e hn
  obtain ⟨n7, hn⟩ := and_e hn
  obtain ⟨n8, hn⟩ := and_e hn
  obtain ⟨n9, hn⟩ := and_e hn
  obtain ⟨n10, hn⟩ := and_e hn
  obtain ⟨n11, hn⟩ := and_e hn
  obtain ⟨n12, hn⟩ := and_e hn
  obtain ⟨n13, hn⟩ := and_e hn
  obtain ⟨n14, hn⟩ := and_e hn
  obtain ⟨n15, hn⟩ := and_e hn
  obtain ⟨n16, hn⟩ := and_e hn
  obtain ⟨n17, hn⟩ := and_e hn
  obtain ⟨n18, hn⟩ := and_e hn
  obtain ⟨n19, hn⟩ := and_e hn
  obtain ⟨n20, hn⟩ := and_e hn
  obtain ⟨n21, hn⟩ := and_e hn
  obtain ⟨n22, hn⟩ := and_e hn
  obtain ⟨n23, hn⟩ := and_e hn
  obtain ⟨n24, hn⟩ := and_e hn
  obtain ⟨n25, hn⟩ := and_e hn
  obtain ⟨n26, hn⟩ := and_e hn
  obtain ⟨n27, hn⟩ := and_e hn
  obtain ⟨n28, hn⟩ := and_e hn
  obtain ⟨n29, hn⟩ := and_e hn
  obtain ⟨n30, hn⟩ := and_e hn
  obtain ⟨n31, hn⟩ := and_e hn
  obtain ⟨n32, hn⟩ := and_e hn
  obtain ⟨n33, hn⟩ := and_e hn
  obtain ⟨n34, hn⟩ := and_e hn
  obtain ⟨n35, hn⟩ := and_e hn
  obtain ⟨n36, hn⟩ := and_e hn
  obtain ⟨n37, hn⟩ := and_e hn
  obtain ⟨n38, hn⟩ := and_e hn
  obtain ⟨n39, hn⟩ := and_e hn
  obtain ⟨n40, hn⟩ := and_e hn
  obtain ⟨n41, hn⟩ := and_e hn
  obtain ⟨n42, hn⟩ := and_e hn
  obtain ⟨n43, hn⟩ := and_e hn
  obtain ⟨n44, hn⟩ := and_e hn
  obtain ⟨n45, hn⟩ := and_e hn
  obtain ⟨n46, hn⟩ := and_e hn
  obtain ⟨n47, hn⟩ := and_e hn
  obtain ⟨n48, hn⟩ := and_e hn
  obtain ⟨n49, hn⟩ := and_e hn
  obtain ⟨n50, hn⟩ := and_e hn
  obtain ⟨n51, hn⟩ := and_e hn
  obtain ⟨n52, hn⟩ := and_e hn
  obtain ⟨n53, hn⟩ := and_e hn
  obtain ⟨n54, hn⟩ := and_e hn
  obtain ⟨n55, hn⟩ := and_e hn
  obtain ⟨n56, hn⟩ := and_e hn
  obtain ⟨n57, hn⟩ := and_e hn
  obtain ⟨n58, hn⟩ := and_e hn
  obtain ⟨n59, hn⟩ := and_e hn
  obtain ⟨n60, hn⟩ := and_e hn
  have n61 := hn
  obtain ⟨en0, ev0⟩ := exa_v n0
  have X0 := Exa.start ev0 n0
  have T0 : Sta s s.heap "com/example/grantwell/grantwell/server/AuthMethod" "CLIENT_SECRET_BASIC" "Lcom/example/grantwell/grantwell/server/AuthMethod;" (.ref en0) := Sta.start ev0 (Or.inr ⟨(hw _ (List.mem_of_getElem? (i := 45) rfl)), (hw _ (List.mem_of_getElem? (i := 46) rfl))⟩)
  obtain ⟨s0, u0, F0, S0⟩ := nm_str (cs := nm0) (vs := [.int 99, .int 108, .int 105, .int 101, .int 110, .int 116, .int 95, .int 115, .int 101, .int 99, .int 114, .int 101, .int 116, .int 95, .int 98, .int 97, .int 115, .int 105, .int 99]) hfit ev0 n9 n10 n11 n12 (by decide) rfl rfl (by decide +kernel) (by decide) (by decide) (fun u cl eu A => ⟨el_at eu A rfl n25, el_at eu A rfl n26, el_at eu A rfl n27, el_at eu A rfl n28, el_at eu A rfl n29, el_at eu A rfl n30, el_at eu A rfl n31, el_at eu A rfl n32, el_at eu A rfl n33, el_at eu A rfl n34, el_at eu A rfl n35, el_at eu A rfl n36, el_at eu A rfl n37, el_at eu A rfl n38, el_at eu A rfl n39, el_at eu A rfl n40, el_at eu A rfl n41, el_at eu A rfl n42, el_at eu A rfl n43, trivial⟩)
  obtain ⟨en1, ev1⟩ := exa_v n5
  have X1 := Exa.start ev1 n5
  have T1 : Sta s s.heap "com/example/grantwell/grantwell/server/AuthMethod" "CLIENT_SECRET_POST" "Lcom/example/grantwell/grantwell/server/AuthMethod;" (.ref en1) := Sta.start ev1 (Or.inr ⟨(hw _ (List.mem_of_getElem? (i := 45) rfl)), (hw _ (List.mem_of_getElem? (i := 62) rfl))⟩)
  obtain ⟨s1, u1, F1, S1⟩ := nm_str (cs := nm1) (vs := [.int 99, .int 108, .int 105, .int 101, .int 110, .int 116, .int 95, .int 115, .int 101, .int 99, .int 114, .int 101, .int 116, .int 95, .int 112, .int 111, .int 115, .int 116]) hfit ev1 n13 n14 n15 n16 (by decide) rfl rfl (by decide +kernel) (by decide) (by decide) (fun u cl eu A => ⟨el_at eu A rfl n44, el_at eu A rfl n45, el_at eu A rfl n46, el_at eu A rfl n47, el_at eu A rfl n48, el_at eu A rfl n49, el_at eu A rfl n50, el_at eu A rfl n51, el_at eu A rfl n52, el_at eu A rfl n53, el_at eu A rfl n54, el_at eu A rfl n55, el_at eu A rfl n56, el_at eu A rfl n57, el_at eu A rfl n58, el_at eu A rfl n59, el_at eu A rfl n60, el_at eu A rfl n61, trivial⟩)
  obtain ⟨en2, ev2⟩ := exa_v n7
  have X2 := Exa.start ev2 n7
  have T2 : Sta s s.heap "com/example/grantwell/grantwell/server/AuthMethod" "NONE" "Lcom/example/grantwell/grantwell/server/AuthMethod;" (.ref en2) := Sta.start ev2 (Or.inr ⟨(hw _ (List.mem_of_getElem? (i := 45) rfl)), (hw _ (List.mem_of_getElem? (i := 63) rfl))⟩)
  obtain ⟨s2, u2, F2, S2⟩ := nm_str (cs := nm2) (vs := [.int 110, .int 111, .int 110, .int 101]) hfit ev2 n17 n18 n19 n20 (by decide) rfl rfl (by decide +kernel) (by decide) (by decide) (fun u cl eu A => ⟨el_at eu A rfl n21, el_at eu A rfl n22, el_at eu A rfl n23, el_at eu A rfl n24, trivial⟩)
  obtain ⟨va, evv⟩ := exa_v n2
  have XV := Exa.start evv n2
  have SV : Sta s s.heap "com/example/grantwell/grantwell/server/AuthMethod" "$VALUES" "[Lcom/example/grantwell/grantwell/server/AuthMethod;" (.ref va) := Sta.start evv (Or.inr ⟨(hw _ (List.mem_of_getElem? (i := 45) rfl)), (hw _ (List.mem_of_getElem? (i := 54) rfl))⟩)
  obtain ⟨cv, AV⟩ := Arr.start evv n1
  obtain ⟨lv1, lv2⟩ := len_word evv AV n3
  have VV : Arv s s.heap va cv.cls (.object "com/example/grantwell/grantwell/server/AuthMethod") 3 [.ref en0, .ref en1, .ref en2] .null := Arv.start hfit AV lv1 lv2 (by decide) rfl ⟨el_ref evv AV rfl ev0 n4, el_ref evv AV rfl ev1 n6, el_ref evv AV rfl ev2 n8, trivial⟩
  have EN : Enm s va cv en0 en1 en2 s0 s1 s2 u0 u1 u2 := ⟨SV, ⟨_, VV⟩, AV, XV, FitC.start hfit AV, ⟨X0, F0, S0⟩, ⟨X1, F1, S1⟩, ⟨X2, F2, S2⟩⟩
  have hC : CHv s EL s.vm s.heap := CHv.start (own_EW hw) (fun p hp => hcalls.1 p hp) (hsets _ (List.mem_of_getElem? (i := 2) rfl)) (hw _ (List.mem_of_getElem? (i := 20) rfl)) (hw _ (List.mem_of_getElem? (i := 3) rfl))
  obtain ⟨n, o, h1, h2, h3, _, L, rfl, ⟨rfl, N⟩, -, hq1, hq2, hq3, hq4⟩ := rmLaw l s _ hw tables_1 i0 i1 i2 i3 cz va cv en0 en1 en2 s0 s1 s2 u0 u1 u2 s.heap s.heap.size (Old.start s) SC hcz EN T0 T1 T2 p e ha hc hk s m _ below hf ((Spec.applies_iff_loose hf).mp happ).1 ⟨rfl, State.Warmed39.refl s, rfl, hC⟩ trivial
  exact ⟨n, _, h1, h2, h3, hpost _ _ _ _ _ _ ⟨Cond.after_iff.mpr rfl, Cond.after_iff.mpr (eq_i res_at (Term.int_eval (1)) rfl), trivial⟩ ⟨hq1, hq2, hq3, (hq4.sift fun y hy => Or.inr (N y hy)).mono (by decide) (by decide)⟩⟩
theorem main_1_1 : Claimed_1_1 := comes_1 fun _ _ _ _ _ _ h hF => ⟨h.1, hF⟩
theorem main_1_2 : Claimed_1_2 := comes_1 fun _ _ _ _ _ _ h hF => ⟨h.2.1, hF⟩
end Jvm.Pilot.@@N@@
namespace Jvm.Pilot.@@N@@
open Jvm Jvm.ClassFile Sem Op Lib Jvm.Free Jvm.Stand Jvm.Pilot.@@N@@.Jvm.D
/-! MADE BY PROGRAM (witnessworld.py) out of the Statement's table words and the real class files: 22 classes; the members and pool entries that the words name. The judged class is class 1, her method 1. -/
namespace start1
open Jvm.ClassFile
def u (s : String) : CpInfo := .utf8 (stringToUtf16 s)
/-- a pool by its gaps: so many unusable entries, then the entry; so many at the end -/
def gap : Nat → List CpInfo → List CpInfo
  | 0, r => r
  | n + 1, r => .unusable :: gap n r
def poolList (es : List (Nat × CpInfo)) (last : Nat) : List CpInfo := es.foldr (fun e r => gap e.1 (e.2 :: r)) (gap last [])
def pool (es : List (Nat × CpInfo)) (last : Nat) : Array CpInfo := ⟨poolList es last⟩
def fileOf (pool : Array CpInfo) (this : Nat) (attrs : Array Attribute := #[]) (ms : Array MethodInfo := #[]) (fl : Nat := 33) (sup : Nat := 0) (ifs : Array Nat := #[]) (fds : Array FieldInfo := #[]) : ClassFile where
  minorVersion := 0
  majorVersion := 65
  constantPool := pool
  accessFlags := fl
  thisClass := this
  superClass := sup
  interfaces := ifs
  fields := fds
  methods := ms
  attributes := attrs
def plain (name : String) (sup : Option ClassId) : Class where
  name := name
  kind := .ordinary
  loader := none
  accessFlags := 33
  super := sup
  interfaces := #[]
  cf := none
  fields := #[]
  methods := #[]
  instanceTypes := #[]
  staticTypes := #[]
  resolved := #[]
  callSites := []
  init := .initialized
  statics := none
  mirror := none

def pool0 : Array CpInfo := pool [(5, u "<init>"), (0, u "()V"), (1, .class_ 10), (1, u "java/lang/Object"), (85, u "clone"), (0, u "()Ljava/lang/Object;")] 26

def k0c0 : Code := { maxStack := 0, maxLocals := 1, code := object_method_1_code, exceptionTable := #[], attributes := #[] }
def k0m0 : Method := { name := "<init>", desc := "()V", sig := { parameters := [], returnType := none }, accessFlags := 1, code := some k0c0 }
def k0m1 : Method := { name := "clone", desc := "()Ljava/lang/Object;", sig := { parameters := [], returnType := some (.object "java/lang/Object") }, accessFlags := 260, code := none }
/-- java/lang/Object -/
def k0 : Class := { plain "java/lang/Object" none with
  accessFlags := 33
  interfaces := #[]
  cf := some (fileOf pool0 8 #[] #[{ accessFlags := 1, nameIndex := 5, descriptorIndex := 6, attributes := #[] }, { accessFlags := 260, nameIndex := 96, descriptorIndex := 97, attributes := #[] }] 33 0 #[] #[])
  fields := #[]
  methods := #[k0m0, k0m1]
  instanceTypes := #[]
  staticTypes := #[]
  resolved := Array.replicate 124 none
  statics := none }

def pool1 : Array CpInfo := pool [(2, .class_ 4), (1, u "java/lang/Object"), (0, u "<init>"), (0, u "()V"), (0, .integer 2147483647), (0, .class_ 9), (0, u "java/lang/String"), (0, .methodref 8 11), (0, .nameAndType 5 12), (0, u "([C)V"), (0, .methodref 14 15), (0, .class_ 16), (0, .nameAndType 17 18), (0, u "com/example/grantwell/grantwell/server/AuthMethodNamedPinLaw"), (0, u "drawn"), (0, u "(II)Ljava/lang/String;"), (0, .string 20), (0, u "client_secret_basic"), (0, .methodref 8 22), (0, .nameAndType 23 24), (0, u "equals"), (0, u "(Ljava/lang/Object;)Z"), (0, .fieldref 26 27), (0, .class_ 28), (0, .nameAndType 29 30), (0, u "com/example/grantwell/grantwell/server/AuthMethod"), (0, u "CLIENT_SECRET_BASIC"), (0, u "Lcom/example/grantwell/grantwell/server/AuthMethod;"), (0, .string 32), (0, u "client_secret_post"), (0, .fieldref 26 34), (0, .nameAndType 35 30), (0, u "CLIENT_SECRET_POST"), (0, .string 37), (0, u "none"), (0, .fieldref 26 39), (0, .nameAndType 40 30), (0, u "NONE"), (0, .methodref 26 42), (0, .nameAndType 43 44), (0, u "named"), (0, u "(Ljava/lang/String;)Lcom/example/grantwell/grantwell/server/AuthMethod;"), (2, u "law"), (0, u "(IIII)Z")] 5

def k1m0 : Method := { name := "<init>", desc := "()V", sig := { parameters := [], returnType := none }, accessFlags := 1, code := none }
def k1c1 : Code := { maxStack := 4, maxLocals := 10, code := code, exceptionTable := #[], attributes := #[] }
def k1m1 : Method := { name := "law", desc := "(IIII)Z", sig := { parameters := [.int, .int, .int, .int], returnType := some .boolean }, accessFlags := 9, code := some k1c1 }
def k1c2 : Code := { maxStack := 6, maxLocals := 6, code := method_3_code, exceptionTable := #[], attributes := #[] }
def k1m2 : Method := { name := "drawn", desc := "(II)Ljava/lang/String;", sig := { parameters := [.int, .int], returnType := some (.object "java/lang/String") }, accessFlags := 10, code := some k1c2 }
/-- com/example/grantwell/grantwell/server/AuthMethodNamedPinLaw -/
def k1 : Class := { plain "com/example/grantwell/grantwell/server/AuthMethodNamedPinLaw" (some 0) with
  accessFlags := 49
  interfaces := #[]
  cf := some (fileOf pool1 14 #[] #[{ accessFlags := 1, nameIndex := 5, descriptorIndex := 6, attributes := #[] }, { accessFlags := 9, nameIndex := 47, descriptorIndex := 48, attributes := #[] }, { accessFlags := 10, nameIndex := 17, descriptorIndex := 18, attributes := #[] }] 49 2 #[] #[])
  fields := #[]
  methods := #[k1m0, k1m1, k1m2]
  instanceTypes := #[]
  staticTypes := #[]
  resolved := Array.replicate 54 none
  statics := none }

def pool2 : Array CpInfo := pool [(1, .class_ 2), (0, u "java/io/Serializable"), (0, .class_ 4), (0, u "java/lang/Object")] 2

/-- java/io/Serializable -/
def k2 : Class := { plain "java/io/Serializable" (some 0) with
  accessFlags := 1537
  interfaces := #[]
  cf := some (fileOf pool2 1 #[] #[] 1537 3 #[] #[])
  fields := #[]
  methods := #[]
  instanceTypes := #[]
  staticTypes := #[]
  resolved := Array.replicate 7 none
  statics := none }

def pool3 : Array CpInfo := pool [(1, .class_ 2), (0, u "java/lang/Comparable"), (0, .class_ 4), (0, u "java/lang/Object")] 7

/-- java/lang/Comparable -/
def k3 : Class := { plain "java/lang/Comparable" (some 0) with
  accessFlags := 1537
  interfaces := #[]
  cf := some (fileOf pool3 1 #[] #[] 1537 3 #[] #[])
  fields := #[]
  methods := #[]
  instanceTypes := #[]
  staticTypes := #[]
  resolved := Array.replicate 12 none
  statics := none }

def pool4 : Array CpInfo := pool [(2, .class_ 4), (1, u "java/lang/CharSequence"), (42, .class_ 48), (0, u "java/lang/CharSequence$1CodePointIterator"), (10, .class_ 60), (0, u "java/lang/CharSequence$1CharIterator"), (5, .class_ 67), (0, u "java/lang/Object")] 63

/-- java/lang/CharSequence -/
def k4 : Class := { plain "java/lang/CharSequence" (some 0) with
  accessFlags := 1537
  interfaces := #[]
  cf := some (fileOf pool4 2 #[.nestMembers #[47, 59]] #[] 1537 66 #[] #[])
  fields := #[]
  methods := #[]
  instanceTypes := #[]
  staticTypes := #[]
  resolved := Array.replicate 131 none
  statics := none }

def pool5 : Array CpInfo := pool [(1, .class_ 2), (0, u "java/lang/constant/Constable"), (0, .class_ 4), (0, u "java/lang/Object")] 6

/-- java/lang/constant/Constable -/
def k5 : Class := { plain "java/lang/constant/Constable" (some 0) with
  accessFlags := 1537
  interfaces := #[]
  cf := some (fileOf pool5 1 #[] #[] 1537 3 #[] #[])
  fields := #[]
  methods := #[]
  instanceTypes := #[]
  staticTypes := #[]
  resolved := Array.replicate 11 none
  statics := none }

def pool6 : Array CpInfo := pool [(1, .class_ 2), (0, u "java/lang/constant/ConstantDesc"), (0, .class_ 4), (0, u "java/lang/Object")] 32

/-- java/lang/constant/ConstantDesc -/
def k6 : Class := { plain "java/lang/constant/ConstantDesc" (some 0) with
  accessFlags := 1537
  interfaces := #[]
  cf := some (fileOf pool6 1 #[] #[] 1537 3 #[] #[])
  fields := #[]
  methods := #[]
  instanceTypes := #[]
  staticTypes := #[]
  resolved := Array.replicate 37 none
  statics := none }

def pool7 : Array CpInfo := pool [(1, .methodref 2 3), (0, .class_ 4), (0, .nameAndType 5 6), (0, u "java/lang/Object"), (0, u "<init>"), (0, u "()V"), (0, .string 8), (0, u ""), (0, .fieldref 10 11), (0, .class_ 12), (0, .nameAndType 13 14), (0, u "java/lang/String"), (0, u "value"), (0, u "[B"), (0, .fieldref 10 16), (0, .nameAndType 17 18), (0, u "coder"), (0, u "B"), (2, u "hash"), (0, u "I"), (2, u "hashIsZero"), (0, u "Z"), (0, .methodref 10 28), (0, .nameAndType 5 29), (0, u "([CIILjava/lang/Void;)V"), (8, .fieldref 10 39), (0, .nameAndType 40 26), (0, u "COMPACT_STRINGS"), (1, .class_ 44), (1, u "java/lang/StringUTF16"), (0, u "compress"), (1, .methodref 42 48), (0, .nameAndType 49 50), (0, u "coderFromArrayLen"), (0, u "([BI)B"), (56, .class_ 109), (1, u "java/lang/StringLatin1"), (67, .methodref 42 178), (0, .nameAndType 45 179), (0, u "([CII)[B"), (361, .methodref 107 542), (0, .nameAndType 543 544), (0, u "equals"), (0, u "([B[B)Z"), (28, u "(Ljava/lang/Object;)Z"), (1, .class_ 576), (0, u "java/lang/CharSequence"), (22, u "CASE_INSENSITIVE_ORDER"), (0, u "Ljava/util/Comparator;"), (409, u "([C)V"), (90, u "serialPersistentFields"), (0, u "[Ljava/io/ObjectStreamField;"), (0, .class_ 1104), (0, u "java/lang/String$CaseInsensitiveComparator"), (1, .class_ 1107), (0, u "java/io/Serializable"), (0, .class_ 1109), (0, u "java/lang/Comparable"), (0, .class_ 1111), (0, u "java/lang/constant/Constable"), (0, .class_ 1113), (0, u "java/lang/constant/ConstantDesc"), (2, u "serialVersionUID"), (0, u "J"), (3, u "REPL"), (0, u "C"), (2, u "LATIN1"), (1, u "UTF16")] 323

def k7m0 : Method := { name := "<init>", desc := "()V", sig := { parameters := [], returnType := none }, accessFlags := 1, code := none }
def k7c1 : Code := { maxStack := 5, maxLocals := 2, code := jdk_42_method_3_code, exceptionTable := #[], attributes := #[] }
def k7m1 : Method := { name := "<init>", desc := "([C)V", sig := { parameters := [(.array .char)], returnType := none }, accessFlags := 1, code := some k7c1 }
def k7c2 : Code := { maxStack := 2, maxLocals := 3, code := jdk_42_method_66_code, exceptionTable := #[], attributes := #[] }
def k7m2 : Method := { name := "equals", desc := "(Ljava/lang/Object;)Z", sig := { parameters := [(.object "java/lang/Object")], returnType := some .boolean }, accessFlags := 1, code := some k7c2 }
def k7c3 : Code := { maxStack := 4, maxLocals := 6, code := jdk_42_method_149_code, exceptionTable := #[], attributes := #[] }
def k7m3 : Method := { name := "<init>", desc := "([CIILjava/lang/Void;)V", sig := { parameters := [(.array .char), .int, .int, (.object "java/lang/Void")], returnType := none }, accessFlags := 2, code := some k7c3 }
/-- java/lang/String -/
def k7 : Class := { plain "java/lang/String" (some 0) with
  accessFlags := 49
  interfaces := #[2, 3, 4, 5, 6]
  cf := some (fileOf pool7 10 #[.nestMembers #[1103]] #[{ accessFlags := 1, nameIndex := 5, descriptorIndex := 6, attributes := #[] }, { accessFlags := 1, nameIndex := 5, descriptorIndex := 1010, attributes := #[] }, { accessFlags := 1, nameIndex := 543, descriptorIndex := 573, attributes := #[] }, { accessFlags := 2, nameIndex := 5, descriptorIndex := 29, attributes := #[] }] 49 2 #[1106, 1108, 575, 1110, 1112] #[{ accessFlags := 18, nameIndex := 13, descriptorIndex := 14, attributes := #[] }, { accessFlags := 18, nameIndex := 17, descriptorIndex := 18, attributes := #[] }, { accessFlags := 2, nameIndex := 21, descriptorIndex := 22, attributes := #[] }, { accessFlags := 2, nameIndex := 25, descriptorIndex := 26, attributes := #[] }, { accessFlags := 26, nameIndex := 1116, descriptorIndex := 1117, attributes := #[] }, { accessFlags := 24, nameIndex := 40, descriptorIndex := 26, attributes := #[] }, { accessFlags := 26, nameIndex := 1101, descriptorIndex := 1102, attributes := #[] }, { accessFlags := 26, nameIndex := 1121, descriptorIndex := 1122, attributes := #[] }, { accessFlags := 25, nameIndex := 599, descriptorIndex := 600, attributes := #[] }, { accessFlags := 24, nameIndex := 1125, descriptorIndex := 18, attributes := #[] }, { accessFlags := 24, nameIndex := 1127, descriptorIndex := 18, attributes := #[] }])
  fields := #[{ name := "value", type := (.array .byte), accessFlags := 18, slot := 0, constantValue := 0 }, { name := "coder", type := .byte, accessFlags := 18, slot := 1, constantValue := 0 }, { name := "hash", type := .int, accessFlags := 2, slot := 2, constantValue := 0 }, { name := "hashIsZero", type := .boolean, accessFlags := 2, slot := 3, constantValue := 0 }, { name := "serialVersionUID", type := .long, accessFlags := 26, slot := 0, constantValue := 0 }, { name := "COMPACT_STRINGS", type := .boolean, accessFlags := 24, slot := 1, constantValue := 0 }, { name := "serialPersistentFields", type := (.array (.object "java/io/ObjectStreamField")), accessFlags := 26, slot := 2, constantValue := 0 }, { name := "REPL", type := .char, accessFlags := 26, slot := 3, constantValue := 0 }, { name := "CASE_INSENSITIVE_ORDER", type := (.object "java/util/Comparator"), accessFlags := 25, slot := 4, constantValue := 0 }, { name := "LATIN1", type := .byte, accessFlags := 24, slot := 5, constantValue := 0 }, { name := "UTF16", type := .byte, accessFlags := 24, slot := 6, constantValue := 0 }]
  methods := #[k7m0, k7m1, k7m2, k7m3]
  instanceTypes := #[(.array .byte), .byte, .int, .boolean]
  staticTypes := #[.long, .boolean, (.array (.object "java/io/ObjectStreamField")), .char, (.object "java/util/Comparator"), .byte, .byte]
  resolved := Array.replicate 1451 none
  statics := some 0 }

def pool8 : Array CpInfo := pool [(6, .class_ 8), (1, u "java/lang/Object"), (0, u "<init>"), (0, u "()V"), (1, .class_ 14), (1, u "java/lang/StringUTF16"), (31, u "$assertionsDisabled"), (0, u "Z"), (13, u "HI_BYTE_SHIFT"), (0, u "I"), (2, u "LO_BYTE_SHIFT"), (49, .methodref 12 116), (0, .nameAndType 117 118), (0, u "compress"), (0, u "([CI[BII)I"), (3, u "([CII)[B"), (138, u "coderFromArrayLen"), (0, u "([BI)B"), (106, .class_ 371), (1, u "java/lang/StringUTF16$LinesSpliterator"), (58, u "MAX_LENGTH"), (196, .class_ 628), (0, u "java/lang/StringUTF16$CodePointsSpliterator"), (0, .class_ 630), (0, u "java/lang/StringUTF16$CharsSpliterator")] 4

def k8m0 : Method := { name := "<init>", desc := "()V", sig := { parameters := [], returnType := none }, accessFlags := 0, code := none }
def k8c1 : Code := { maxStack := 2, maxLocals := 2, code := jdk_52_method_15_code, exceptionTable := #[], attributes := #[] }
def k8m1 : Method := { name := "coderFromArrayLen", desc := "([BI)B", sig := { parameters := [(.array .byte), .int], returnType := some .byte }, accessFlags := 8, code := some k8c1 }
def k8c2 : Code := { maxStack := 5, maxLocals := 6, code := jdk_52_method_16_code, exceptionTable := #[], attributes := #[] }
def k8m2 : Method := { name := "compress", desc := "([CII)[B", sig := { parameters := [(.array .char), .int, .int], returnType := some (.array .byte) }, accessFlags := 9, code := some k8c2 }
def k8c3 : Code := { maxStack := 3, maxLocals := 7, code := jdk_52_method_21_code, exceptionTable := #[], attributes := #[] }
def k8m3 : Method := { name := "compress", desc := "([CI[BII)I", sig := { parameters := [(.array .char), .int, (.array .byte), .int, .int], returnType := some .int }, accessFlags := 9, code := some k8c3 }
/-- java/lang/StringUTF16 -/
def k8 : Class := { plain "java/lang/StringUTF16" (some 0) with
  accessFlags := 48
  interfaces := #[]
  cf := some (fileOf pool8 12 #[.nestMembers #[627, 629, 369]] #[{ accessFlags := 0, nameIndex := 9, descriptorIndex := 10, attributes := #[] }, { accessFlags := 8, nameIndex := 261, descriptorIndex := 262, attributes := #[] }, { accessFlags := 9, nameIndex := 117, descriptorIndex := 122, attributes := #[] }, { accessFlags := 9, nameIndex := 117, descriptorIndex := 118, attributes := #[] }] 48 6 #[] #[{ accessFlags := 26, nameIndex := 61, descriptorIndex := 62, attributes := #[] }, { accessFlags := 26, nameIndex := 65, descriptorIndex := 62, attributes := #[] }, { accessFlags := 24, nameIndex := 430, descriptorIndex := 62, attributes := #[] }, { accessFlags := 4120, nameIndex := 46, descriptorIndex := 47, attributes := #[] }])
  fields := #[{ name := "HI_BYTE_SHIFT", type := .int, accessFlags := 26, slot := 0, constantValue := 0 }, { name := "LO_BYTE_SHIFT", type := .int, accessFlags := 26, slot := 1, constantValue := 0 }, { name := "MAX_LENGTH", type := .int, accessFlags := 24, slot := 2, constantValue := 0 }, { name := "$assertionsDisabled", type := .boolean, accessFlags := 4120, slot := 3, constantValue := 0 }]
  methods := #[k8m0, k8m1, k8m2, k8m3]
  instanceTypes := #[]
  staticTypes := #[.int, .int, .int, .boolean]
  resolved := Array.replicate 635 none
  statics := none }

def pool9 : Array CpInfo := pool [(4, .class_ 6), (1, u "java/lang/Object"), (0, u "<init>"), (0, u "()V"), (5, .class_ 16), (1, u "java/lang/StringLatin1"), (104, u "$assertionsDisabled"), (0, u "Z"), (98, .class_ 223), (1, u "java/lang/StringLatin1$LinesSpliterator"), (57, u "equals"), (0, u "([B[B)Z"), (107, .class_ 391), (0, u "java/lang/StringLatin1$CharsSpliterator")] 3

def k9m0 : Method := { name := "<init>", desc := "()V", sig := { parameters := [], returnType := none }, accessFlags := 0, code := none }
def k9c1 : Code := { maxStack := 3, maxLocals := 3, code := jdk_43_method_13_code, exceptionTable := #[], attributes := #[] }
def k9m1 : Method := { name := "equals", desc := "([B[B)Z", sig := { parameters := [(.array .byte), (.array .byte)], returnType := some .boolean }, accessFlags := 9, code := some k9c1 }
/-- java/lang/StringLatin1 -/
def k9 : Class := { plain "java/lang/StringLatin1" (some 0) with
  accessFlags := 48
  interfaces := #[]
  cf := some (fileOf pool9 14 #[.nestMembers #[390, 221]] #[{ accessFlags := 0, nameIndex := 7, descriptorIndex := 8, attributes := #[] }, { accessFlags := 9, nameIndex := 281, descriptorIndex := 282, attributes := #[] }] 48 4 #[] #[{ accessFlags := 4120, nameIndex := 121, descriptorIndex := 122, attributes := #[] }])
  fields := #[{ name := "$assertionsDisabled", type := .boolean, accessFlags := 4120, slot := 0, constantValue := 0 }]
  methods := #[k9m0, k9m1]
  instanceTypes := #[]
  staticTypes := #[.boolean]
  resolved := Array.replicate 395 none
  statics := none }

def pool10 : Array CpInfo := pool [(2, .class_ 4), (1, u "java/lang/Enum"), (0, u "name"), (0, u "Ljava/lang/String;"), (2, u "ordinal"), (0, u "I"), (1, .class_ 14), (1, u "java/lang/Object"), (4, u "hash"), (86, .class_ 108), (1, u "java/lang/Enum$EnumDesc"), (2, .class_ 112), (0, u "java/lang/constant/Constable"), (0, .class_ 114), (0, u "java/lang/Comparable"), (0, .class_ 116), (0, u "java/io/Serializable")] 87

/-- java/lang/Enum -/
def k10 : Class := { plain "java/lang/Enum" (some 0) with
  accessFlags := 1057
  interfaces := #[5, 3, 2]
  cf := some (fileOf pool10 2 #[.nestMembers #[106]] #[] 1057 12 #[111, 113, 115] #[{ accessFlags := 18, nameIndex := 5, descriptorIndex := 6, attributes := #[] }, { accessFlags := 18, nameIndex := 9, descriptorIndex := 10, attributes := #[] }, { accessFlags := 2, nameIndex := 19, descriptorIndex := 10, attributes := #[] }])
  fields := #[{ name := "name", type := (.object "java/lang/String"), accessFlags := 18, slot := 0, constantValue := 0 }, { name := "ordinal", type := .int, accessFlags := 18, slot := 1, constantValue := 0 }, { name := "hash", type := .int, accessFlags := 2, slot := 2, constantValue := 0 }]
  methods := #[]
  instanceTypes := #[(.object "java/lang/String"), .int, .int]
  staticTypes := #[]
  resolved := Array.replicate 204 none
  statics := none }

def pool11 : Array CpInfo := pool [(1, .class_ 2), (0, u "com/example/grantwell/grantwell/server/AuthMethod"), (2, u "CLIENT_SECRET_BASIC"), (0, u "Lcom/example/grantwell/grantwell/server/AuthMethod;"), (2, u "CLIENT_SECRET_POST"), (2, u "NONE"), (0, .fieldref 1 14), (0, .nameAndType 15 16), (0, u "$VALUES"), (0, u "[Lcom/example/grantwell/grantwell/server/AuthMethod;"), (0, .methodref 18 19), (0, .class_ 16), (0, .nameAndType 20 21), (0, u "clone"), (0, u "()Ljava/lang/Object;"), (1, .class_ 25), (1, u "java/lang/Enum"), (2, .methodref 1 29), (0, .nameAndType 30 31), (0, u "values"), (0, u "()[Lcom/example/grantwell/grantwell/server/AuthMethod;"), (0, .fieldref 1 33), (0, .nameAndType 34 35), (0, u "_name"), (0, u "Ljava/lang/String;"), (0, .methodref 37 38), (0, .class_ 39), (0, .nameAndType 40 41), (0, u "java/lang/String"), (0, u "equals"), (0, u "(Ljava/lang/Object;)Z"), (21, u "(Ljava/lang/String;)Lcom/example/grantwell/grantwell/server/AuthMethod;"), (1, u "named")] 10

def k11c0 : Code := { maxStack := 1, maxLocals := 0, code := prog_4_method_1_code, exceptionTable := #[], attributes := #[] }
def k11m0 : Method := { name := "values", desc := "()[Lcom/example/grantwell/grantwell/server/AuthMethod;", sig := { parameters := [], returnType := some (.array (.object "com/example/grantwell/grantwell/server/AuthMethod")) }, accessFlags := 9, code := some k11c0 }
def k11c1 : Code := { maxStack := 2, maxLocals := 5, code := prog_4_method_3_code, exceptionTable := #[], attributes := #[] }
def k11m1 : Method := { name := "named", desc := "(Ljava/lang/String;)Lcom/example/grantwell/grantwell/server/AuthMethod;", sig := { parameters := [(.object "java/lang/String")], returnType := some (.object "com/example/grantwell/grantwell/server/AuthMethod") }, accessFlags := 8, code := some k11c1 }
/-- com/example/grantwell/grantwell/server/AuthMethod -/
def k11 : Class := { plain "com/example/grantwell/grantwell/server/AuthMethod" (some 10) with
  accessFlags := 16432
  interfaces := #[]
  cf := some (fileOf pool11 1 #[] #[{ accessFlags := 9, nameIndex := 30, descriptorIndex := 31, attributes := #[] }, { accessFlags := 8, nameIndex := 65, descriptorIndex := 63, attributes := #[] }] 16432 23 #[] #[{ accessFlags := 16409, nameIndex := 5, descriptorIndex := 6, attributes := #[] }, { accessFlags := 16409, nameIndex := 9, descriptorIndex := 6, attributes := #[] }, { accessFlags := 16409, nameIndex := 12, descriptorIndex := 6, attributes := #[] }, { accessFlags := 18, nameIndex := 34, descriptorIndex := 35, attributes := #[] }, { accessFlags := 4122, nameIndex := 15, descriptorIndex := 16, attributes := #[] }])
  fields := #[{ name := "CLIENT_SECRET_BASIC", type := (.object "com/example/grantwell/grantwell/server/AuthMethod"), accessFlags := 16409, slot := 0, constantValue := 0 }, { name := "CLIENT_SECRET_POST", type := (.object "com/example/grantwell/grantwell/server/AuthMethod"), accessFlags := 16409, slot := 1, constantValue := 0 }, { name := "NONE", type := (.object "com/example/grantwell/grantwell/server/AuthMethod"), accessFlags := 16409, slot := 2, constantValue := 0 }, { name := "_name", type := (.object "java/lang/String"), accessFlags := 18, slot := 3, constantValue := 0 }, { name := "$VALUES", type := (.array (.object "com/example/grantwell/grantwell/server/AuthMethod")), accessFlags := 4122, slot := 3, constantValue := 0 }]
  methods := #[k11m0, k11m1]
  instanceTypes := #[(.object "java/lang/String"), .int, .int, (.object "java/lang/String")]
  staticTypes := #[(.object "com/example/grantwell/grantwell/server/AuthMethod"), (.object "com/example/grantwell/grantwell/server/AuthMethod"), (.object "com/example/grantwell/grantwell/server/AuthMethod"), (.array (.object "com/example/grantwell/grantwell/server/AuthMethod"))]
  resolved := Array.replicate 76 none
  statics := some 1 }

def pool12 : Array CpInfo := pool [(1, .class_ 2), (0, u "java/lang/Cloneable"), (0, .class_ 4), (0, u "java/lang/Object")] 2

/-- java/lang/Cloneable -/
def k12 : Class := { plain "java/lang/Cloneable" (some 0) with
  accessFlags := 1537
  interfaces := #[]
  cf := some (fileOf pool12 1 #[] #[] 1537 3 #[] #[])
  fields := #[]
  methods := #[]
  instanceTypes := #[]
  staticTypes := #[]
  resolved := Array.replicate 7 none
  statics := none }

def pool13 : Array CpInfo := pool [(2, .class_ 4), (1, u "java/lang/Object"), (0, u "<init>"), (0, u "()V"), (17, .class_ 26), (1, u "jdk/internal/util/Preconditions"), (28, .class_ 56), (0, u "jdk/internal/util/Preconditions$4"), (57, .class_ 115), (0, u "jdk/internal/util/Preconditions$1"), (7, u "SIOOBE_FORMATTER"), (0, u "Ljava/util/function/BiFunction;"), (0, .class_ 126), (0, u "jdk/internal/util/Preconditions$2"), (3, u "AIOOBE_FORMATTER"), (0, .class_ 132), (0, u "jdk/internal/util/Preconditions$3"), (3, u "IOOBE_FORMATTER")] 57

def k13m0 : Method := { name := "<init>", desc := "()V", sig := { parameters := [], returnType := none }, accessFlags := 1, code := none }
/-- jdk/internal/util/Preconditions -/
def k13 : Class := { plain "jdk/internal/util/Preconditions" (some 0) with
  accessFlags := 33
  interfaces := #[]
  cf := some (fileOf pool13 24 #[.nestMembers #[55, 131, 125, 114]] #[{ accessFlags := 1, nameIndex := 5, descriptorIndex := 6, attributes := #[] }] 33 2 #[] #[{ accessFlags := 25, nameIndex := 123, descriptorIndex := 124, attributes := #[] }, { accessFlags := 25, nameIndex := 130, descriptorIndex := 124, attributes := #[] }, { accessFlags := 25, nameIndex := 136, descriptorIndex := 124, attributes := #[] }])
  fields := #[{ name := "SIOOBE_FORMATTER", type := (.object "java/util/function/BiFunction"), accessFlags := 25, slot := 0, constantValue := 0 }, { name := "AIOOBE_FORMATTER", type := (.object "java/util/function/BiFunction"), accessFlags := 25, slot := 1, constantValue := 0 }, { name := "IOOBE_FORMATTER", type := (.object "java/util/function/BiFunction"), accessFlags := 25, slot := 2, constantValue := 0 }]
  methods := #[k13m0]
  instanceTypes := #[]
  staticTypes := #[(.object "java/util/function/BiFunction"), (.object "java/util/function/BiFunction"), (.object "java/util/function/BiFunction")]
  resolved := Array.replicate 194 none
  statics := some 2 }

def pool14 : Array CpInfo := pool [(9, u "<init>"), (6, .class_ 18), (1, u "java/lang/Object"), (0, u "()V"), (1, .class_ 23), (1, u "jdk/internal/util/ArraysSupport"), (0, u "LOG2_ARRAY_LONG_INDEX_SCALE"), (0, u "I"), (2, u "U"), (0, u "Ljdk/internal/misc/Unsafe;"), (8, u "BIG_ENDIAN"), (0, u "Z"), (8, u "LOG2_BYTE_BIT_SIZE"), (4, u "LOG2_ARRAY_INT_INDEX_SCALE"), (54, u "JLA"), (0, u "Ljdk/internal/access/JavaLangAccess;"), (11, u "LOG2_ARRAY_BOOLEAN_INDEX_SCALE"), (9, u "LOG2_ARRAY_BYTE_INDEX_SCALE"), (5, u "LOG2_ARRAY_CHAR_INDEX_SCALE"), (5, u "LOG2_ARRAY_SHORT_INDEX_SCALE"), (18, u "LOG2_ARRAY_FLOAT_INDEX_SCALE"), (24, u "LOG2_ARRAY_DOUBLE_INDEX_SCALE"), (89, u "T_BOOLEAN"), (2, u "T_CHAR"), (1, u "T_FLOAT"), (1, u "T_DOUBLE"), (1, u "T_BYTE"), (1, u "T_SHORT"), (1, u "T_INT"), (1, u "T_LONG"), (1, u "SOFT_MAX_ARRAY_LENGTH")] 83

def k14m0 : Method := { name := "<init>", desc := "()V", sig := { parameters := [], returnType := none }, accessFlags := 2, code := none }
/-- jdk/internal/util/ArraysSupport -/
def k14 : Class := { plain "jdk/internal/util/ArraysSupport" (some 0) with
  accessFlags := 33
  interfaces := #[]
  cf := some (fileOf pool14 21 #[] #[{ accessFlags := 2, nameIndex := 9, descriptorIndex := 19, attributes := #[] }] 33 16 #[] #[{ accessFlags := 24, nameIndex := 28, descriptorIndex := 29, attributes := #[] }, { accessFlags := 26, nameIndex := 38, descriptorIndex := 39, attributes := #[] }, { accessFlags := 25, nameIndex := 121, descriptorIndex := 25, attributes := #[] }, { accessFlags := 25, nameIndex := 131, descriptorIndex := 25, attributes := #[] }, { accessFlags := 25, nameIndex := 137, descriptorIndex := 25, attributes := #[] }, { accessFlags := 25, nameIndex := 143, descriptorIndex := 25, attributes := #[] }, { accessFlags := 25, nameIndex := 53, descriptorIndex := 25, attributes := #[] }, { accessFlags := 25, nameIndex := 24, descriptorIndex := 25, attributes := #[] }, { accessFlags := 25, nameIndex := 162, descriptorIndex := 25, attributes := #[] }, { accessFlags := 25, nameIndex := 187, descriptorIndex := 25, attributes := #[] }, { accessFlags := 26, nameIndex := 48, descriptorIndex := 25, attributes := #[] }, { accessFlags := 25, nameIndex := 277, descriptorIndex := 25, attributes := #[] }, { accessFlags := 25, nameIndex := 280, descriptorIndex := 25, attributes := #[] }, { accessFlags := 25, nameIndex := 282, descriptorIndex := 25, attributes := #[] }, { accessFlags := 25, nameIndex := 284, descriptorIndex := 25, attributes := #[] }, { accessFlags := 25, nameIndex := 286, descriptorIndex := 25, attributes := #[] }, { accessFlags := 25, nameIndex := 288, descriptorIndex := 25, attributes := #[] }, { accessFlags := 25, nameIndex := 290, descriptorIndex := 25, attributes := #[] }, { accessFlags := 25, nameIndex := 292, descriptorIndex := 25, attributes := #[] }, { accessFlags := 26, nameIndex := 108, descriptorIndex := 109, attributes := #[] }, { accessFlags := 25, nameIndex := 294, descriptorIndex := 25, attributes := #[] }])
  fields := #[{ name := "U", type := (.object "jdk/internal/misc/Unsafe"), accessFlags := 24, slot := 0, constantValue := 0 }, { name := "BIG_ENDIAN", type := .boolean, accessFlags := 26, slot := 1, constantValue := 0 }, { name := "LOG2_ARRAY_BOOLEAN_INDEX_SCALE", type := .int, accessFlags := 25, slot := 2, constantValue := 0 }, { name := "LOG2_ARRAY_BYTE_INDEX_SCALE", type := .int, accessFlags := 25, slot := 3, constantValue := 0 }, { name := "LOG2_ARRAY_CHAR_INDEX_SCALE", type := .int, accessFlags := 25, slot := 4, constantValue := 0 }, { name := "LOG2_ARRAY_SHORT_INDEX_SCALE", type := .int, accessFlags := 25, slot := 5, constantValue := 0 }, { name := "LOG2_ARRAY_INT_INDEX_SCALE", type := .int, accessFlags := 25, slot := 6, constantValue := 0 }, { name := "LOG2_ARRAY_LONG_INDEX_SCALE", type := .int, accessFlags := 25, slot := 7, constantValue := 0 }, { name := "LOG2_ARRAY_FLOAT_INDEX_SCALE", type := .int, accessFlags := 25, slot := 8, constantValue := 0 }, { name := "LOG2_ARRAY_DOUBLE_INDEX_SCALE", type := .int, accessFlags := 25, slot := 9, constantValue := 0 }, { name := "LOG2_BYTE_BIT_SIZE", type := .int, accessFlags := 26, slot := 10, constantValue := 0 }, { name := "T_BOOLEAN", type := .int, accessFlags := 25, slot := 11, constantValue := 0 }, { name := "T_CHAR", type := .int, accessFlags := 25, slot := 12, constantValue := 0 }, { name := "T_FLOAT", type := .int, accessFlags := 25, slot := 13, constantValue := 0 }, { name := "T_DOUBLE", type := .int, accessFlags := 25, slot := 14, constantValue := 0 }, { name := "T_BYTE", type := .int, accessFlags := 25, slot := 15, constantValue := 0 }, { name := "T_SHORT", type := .int, accessFlags := 25, slot := 16, constantValue := 0 }, { name := "T_INT", type := .int, accessFlags := 25, slot := 17, constantValue := 0 }, { name := "T_LONG", type := .int, accessFlags := 25, slot := 18, constantValue := 0 }, { name := "JLA", type := (.object "jdk/internal/access/JavaLangAccess"), accessFlags := 26, slot := 19, constantValue := 0 }, { name := "SOFT_MAX_ARRAY_LENGTH", type := .int, accessFlags := 25, slot := 20, constantValue := 0 }]
  methods := #[k14m0]
  instanceTypes := #[]
  staticTypes := #[(.object "jdk/internal/misc/Unsafe"), .boolean, .int, .int, .int, .int, .int, .int, .int, .int, .int, .int, .int, .int, .int, .int, .int, .int, .int, (.object "jdk/internal/access/JavaLangAccess"), .int]
  resolved := Array.replicate 378 none
  statics := none }

/-- the primitive byte -/
def k15 : Class := { plain "byte" none with kind := .primitive 'B', accessFlags := 0x411 }
/-- [B -/
def k16 : Class := { plain "[B" (some 0) with kind := .array 15 .byte, interfaces := #[12, 2], accessFlags := 1041 }

/-- the primitive char -/
def k17 : Class := { plain "char" none with kind := .primitive 'C', accessFlags := 0x411 }
/-- [C -/
def k18 : Class := { plain "[C" (some 0) with kind := .array 17 .char, interfaces := #[12, 2], accessFlags := 1041 }

/-- the primitive int -/
def k19 : Class := { plain "int" none with kind := .primitive 'I', accessFlags := 0x411 }
/-- [I -/
def k20 : Class := { plain "[I" (some 0) with kind := .array 19 .int, interfaces := #[12, 2], accessFlags := 1041 }

/-- [Lcom/example/grantwell/grantwell/server/AuthMethod; -/
def k21 : Class := { plain "[Lcom/example/grantwell/grantwell/server/AuthMethod;" (some 0) with kind := .array 11 (.object "com/example/grantwell/grantwell/server/AuthMethod"), interfaces := #[12, 2], accessFlags := 1041 }

def heap : Heap := #[{ cls := 7, slots := #[.long 0, .int 1, .null, .int 0, .null, .int 0, .int 0], vm := .statics 7 },
  { cls := 11, slots := #[.ref 4, .ref 5, .ref 6, .ref 3], vm := .statics 11 },
  { cls := 13, slots := #[.null, .null, .null], vm := .statics 13 },
  { cls := 21, slots := #[.ref 4, .ref 5, .ref 6], vm := .none },
  { cls := 11, slots := #[.null, .int 0, .int 0, .ref 7], vm := .none },
  { cls := 11, slots := #[.null, .int 1, .int 0, .ref 8], vm := .none },
  { cls := 11, slots := #[.null, .int 2, .int 0, .ref 9], vm := .none },
  { cls := 7, slots := #[.ref 10, .int 0, .int 0, .int 0], vm := .none },
  { cls := 7, slots := #[.ref 11, .int 0, .int 0, .int 0], vm := .none },
  { cls := 7, slots := #[.ref 12, .int 0, .int 0, .int 0], vm := .none },
  { cls := 16, slots := #[.int 99, .int 108, .int 105, .int 101, .int 110, .int 116, .int 95, .int 115, .int 101, .int 99, .int 114, .int 101, .int 116, .int 95, .int 98, .int 97, .int 115, .int 105, .int 99], vm := .none },
  { cls := 16, slots := #[.int 99, .int 108, .int 105, .int 101, .int 110, .int 116, .int 95, .int 115, .int 101, .int 99, .int 114, .int 101, .int 116, .int 95, .int 112, .int 111, .int 115, .int 116], vm := .none },
  { cls := 16, slots := #[.int 110, .int 111, .int 110, .int 101], vm := .none }]
def classes : Array Class := #[k0, k1, k2, k3, k4, k5, k6, k7, k8, k9, k10, k11, k12, k13, k14, k15, k16, k17, k18, k19, k20, k21]
def interned : List (Array UInt16 × Addr) := []
def slotsUsed : Nat := 82
def theMethod : MethodId := ⟨1, 1⟩
def args0 : Array Value := #[.int 5, .int 5, .int 5, .int 5]
def aboutOver (below : List Frame) : State where
  vm := { classes := classes, interned := interned.toArray }
  heap := heap
  slotsUsed := slotsUsed
  threads := #[{ frames := .invoking theMethod args0 :: below }]
def below0 : List Frame := [.native { method := ⟨0, 0⟩, args := #[] }]
def about1 : State := aboutOver below0
def p0 : Program := .bare "" "" ""
def e0 : Env := launch0.env 0 0 0
theorem w_frames : about1.frames = Frame.invoking theMethod args0 :: below0 := rfl
set_option maxRecDepth 65536 in
theorem w_args : argsFit about1.vm theMethod args0 = true := by decide +kernel
set_option maxRecDepth 65536 in
theorem w_heap : heapFits about1 = true := by decide +kernel
set_option maxRecDepth 65536 in
theorem w_runnable : about1.curStatus? = some .runnable := by decide +kernel
set_option maxRecDepth 65536 in
theorem w_alone : about1.alone = true := by decide +kernel
set_option maxRecDepth 65536 in
theorem w_named : about1.methodNamed? x = some theMethod := by decide +kernel
set_option maxRecDepth 65536 in
theorem w_hears : about1.hears theMethod below0 = true := by decide +kernel
set_option maxRecDepth 65536 in
theorem w_ripe : about1.ripe theMethod args0 below0 = true := by decide +kernel
theorem w_running : about1.status = .running := rfl
set_option maxRecDepth 65536 in
theorem w_room : about1.hasRoom e0.platform room_1 = true :=
  launch0.hasRoom_least _ room_1 (by decide +kernel) (by decide +kernel) (by decide +kernel) (by decide +kernel) (by decide +kernel) (by decide +kernel)
theorem allAtoms_all (ts : List Jvm.Cond) (a : Array Jvm.Value) (st : Jvm.State) : (allAtoms ts).before a st = ts.all (fun c => c.before a st) := by
  induction ts with
  | nil => rfl
  | cons c t ih =>
    show (Jvm.Cond.and c (allAtoms t)).before a st = _
    rw [Jvm.Cond.before_and, ih, List.all_cons]
def words1 : List Jvm.Cond := Jvm.Cond.code x code maxLocals ret :: tables_1
/-- a 'code' word, met by the world's own term for the bytes: nothing is compared byte by byte -/
theorem code_word {y : MethodName} {bytes : ByteArray} {mx : Nat} {rt : Option FieldType} {a : Array Value} {s : State} {m : MethodId} {meth : Method} {c : Code} (h1 : s.methodNamed? y = some m) (h2 : s.vm.method? m = some meth) (h3 : meth.code = some c) (h4 : c.code = bytes)
    (h5 : (c.maxLocals == mx && c.exceptionTable.isEmpty && decide (c.maxStack ≤ mostOperands) && decide (meth.sig.returnType = rt) && !meth.locks && decide (parseMethodDescriptor y.desc = some meth.sig)) = true) : (Jvm.Cond.code y bytes mx rt).before a s = true := by
  simp only [Bool.and_eq_true, beq_iff_eq, Bool.not_eq_true', decide_eq_true_eq] at h5
  obtain ⟨⟨⟨⟨⟨g1, g2⟩, g3⟩, g4⟩, g5⟩, g6⟩ := h5
  simp [Cond.before, Cond.holds, Cond.value, h1, h2, h3, h4, g1, g2, g3, g4, g5, g6]
def isCode : Jvm.Cond → Bool
  | .code _ _ _ _ => true
  | _ => false
theorem all_split {L : List Jvm.Cond} {P : Jvm.Cond → Bool} (h1 : L.all (fun c => isCode c || P c) = true) (h2 : ∀ c ∈ L.filter isCode, P c = true) : L.all P = true := by
  refine List.all_eq_true.mpr fun c hc => ?_
  have h := List.all_eq_true.mp h1 c hc
  rcases Bool.eq_false_or_eq_true (isCode c) with hi | hi
  · exact h2 c (List.mem_filter.mpr ⟨hc, hi⟩)
  · simpa [hi] using h
set_option maxRecDepth 65536 in
theorem w_c0 : (Jvm.Cond.code x code maxLocals ret).before args0 about1 = true := code_word (m := ⟨1, 1⟩) (meth := k1m1) (c := k1c1) (by decide +kernel) rfl rfl rfl (by decide +kernel)
set_option maxRecDepth 65536 in
theorem w_c1 : (Jvm.Cond.code ({ cls := "java/lang/String", name := "<init>", desc := "([C)V" } : Jvm.MethodName) jdk_42_method_3_code (2 : Nat) (Option.none : Option Jvm.ClassFile.FieldType)).before args0 about1 = true := code_word (m := ⟨7, 1⟩) (meth := k7m1) (c := k7c1) (by decide +kernel) rfl rfl rfl (by decide +kernel)
set_option maxRecDepth 65536 in
theorem w_c2 : (Jvm.Cond.code ({ cls := "java/lang/String", name := "<init>", desc := "([CIILjava/lang/Void;)V" } : Jvm.MethodName) jdk_42_method_149_code (6 : Nat) (Option.none : Option Jvm.ClassFile.FieldType)).before args0 about1 = true := code_word (m := ⟨7, 3⟩) (meth := k7m3) (c := k7c3) (by decide +kernel) rfl rfl rfl (by decide +kernel)
set_option maxRecDepth 65536 in
theorem w_c3 : (Jvm.Cond.code ({ cls := "java/lang/Object", name := "<init>", desc := "()V" } : Jvm.MethodName) object_method_1_code (1 : Nat) (Option.none : Option Jvm.ClassFile.FieldType)).before args0 about1 = true := code_word (m := ⟨0, 0⟩) (meth := k0m0) (c := k0c0) (by decide +kernel) rfl rfl rfl (by decide +kernel)
set_option maxRecDepth 65536 in
theorem w_c4 : (Jvm.Cond.code ({ cls := "java/lang/StringUTF16", name := "compress", desc := "([CII)[B" } : Jvm.MethodName) jdk_52_method_16_code (6 : Nat) (Option.some (Jvm.ClassFile.FieldType.array Jvm.ClassFile.FieldType.byte))).before args0 about1 = true := code_word (m := ⟨8, 2⟩) (meth := k8m2) (c := k8c2) (by decide +kernel) rfl rfl rfl (by decide +kernel)
set_option maxRecDepth 65536 in
theorem w_c5 : (Jvm.Cond.code ({ cls := "java/lang/StringUTF16", name := "compress", desc := "([CI[BII)I" } : Jvm.MethodName) jdk_52_method_21_code (7 : Nat) (Option.some Jvm.ClassFile.FieldType.int)).before args0 about1 = true := code_word (m := ⟨8, 3⟩) (meth := k8m3) (c := k8c3) (by decide +kernel) rfl rfl rfl (by decide +kernel)
set_option maxRecDepth 65536 in
theorem w_c6 : (Jvm.Cond.code ({ cls := "java/lang/StringUTF16", name := "coderFromArrayLen", desc := "([BI)B" } : Jvm.MethodName) jdk_52_method_15_code (2 : Nat) (Option.some Jvm.ClassFile.FieldType.byte)).before args0 about1 = true := code_word (m := ⟨8, 1⟩) (meth := k8m1) (c := k8c1) (by decide +kernel) rfl rfl rfl (by decide +kernel)
set_option maxRecDepth 65536 in
theorem w_c7 : (Jvm.Cond.code ({ cls := "java/lang/String", name := "equals", desc := "(Ljava/lang/Object;)Z" } : Jvm.MethodName) jdk_42_method_66_code (3 : Nat) (Option.some Jvm.ClassFile.FieldType.boolean)).before args0 about1 = true := code_word (m := ⟨7, 2⟩) (meth := k7m2) (c := k7c2) (by decide +kernel) rfl rfl rfl (by decide +kernel)
set_option maxRecDepth 65536 in
theorem w_c8 : (Jvm.Cond.code ({ cls := "java/lang/StringLatin1", name := "equals", desc := "([B[B)Z" } : Jvm.MethodName) jdk_43_method_13_code (3 : Nat) (Option.some Jvm.ClassFile.FieldType.boolean)).before args0 about1 = true := code_word (m := ⟨9, 1⟩) (meth := k9m1) (c := k9c1) (by decide +kernel) rfl rfl rfl (by decide +kernel)
set_option maxRecDepth 65536 in
theorem w_c9 : (Jvm.Cond.code ({ cls := "com/example/grantwell/grantwell/server/AuthMethod", name := "named", desc := "(Ljava/lang/String;)Lcom/example/grantwell/grantwell/server/AuthMethod;" } : Jvm.MethodName) prog_4_method_3_code (5 : Nat) (Option.some (Jvm.ClassFile.FieldType.object "com/example/grantwell/grantwell/server/AuthMethod"))).before args0 about1 = true := code_word (m := ⟨11, 1⟩) (meth := k11m1) (c := k11c1) (by decide +kernel) rfl rfl rfl (by decide +kernel)
set_option maxRecDepth 65536 in
theorem w_c10 : (Jvm.Cond.code ({ cls := "com/example/grantwell/grantwell/server/AuthMethod", name := "values", desc := "()[Lcom/example/grantwell/grantwell/server/AuthMethod;" } : Jvm.MethodName) prog_4_method_1_code (0 : Nat) (Option.some (Jvm.ClassFile.FieldType.array (Jvm.ClassFile.FieldType.object "com/example/grantwell/grantwell/server/AuthMethod")))).before args0 about1 = true := code_word (m := ⟨11, 0⟩) (meth := k11m0) (c := k11c0) (by decide +kernel) rfl rfl rfl (by decide +kernel)
set_option maxRecDepth 65536 in
theorem w_c11 : (Jvm.Cond.code ({ cls := "com/example/grantwell/grantwell/server/AuthMethodNamedPinLaw", name := "drawn", desc := "(II)Ljava/lang/String;" } : Jvm.MethodName) method_3_code (6 : Nat) (Option.some (Jvm.ClassFile.FieldType.object "java/lang/String"))).before args0 about1 = true := code_word (m := ⟨1, 2⟩) (meth := k1m2) (c := k1c2) (by decide +kernel) rfl rfl rfl (by decide +kernel)
def codes1 : List Jvm.Cond := [Jvm.Cond.code x code maxLocals ret, Jvm.Cond.code ({ cls := "java/lang/String", name := "<init>", desc := "([C)V" } : Jvm.MethodName) jdk_42_method_3_code (2 : Nat) (Option.none : Option Jvm.ClassFile.FieldType), Jvm.Cond.code ({ cls := "java/lang/String", name := "<init>", desc := "([CIILjava/lang/Void;)V" } : Jvm.MethodName) jdk_42_method_149_code (6 : Nat) (Option.none : Option Jvm.ClassFile.FieldType), Jvm.Cond.code ({ cls := "java/lang/Object", name := "<init>", desc := "()V" } : Jvm.MethodName) object_method_1_code (1 : Nat) (Option.none : Option Jvm.ClassFile.FieldType), Jvm.Cond.code ({ cls := "java/lang/StringUTF16", name := "compress", desc := "([CII)[B" } : Jvm.MethodName) jdk_52_method_16_code (6 : Nat) (Option.some (Jvm.ClassFile.FieldType.array Jvm.ClassFile.FieldType.byte)), Jvm.Cond.code ({ cls := "java/lang/StringUTF16", name := "compress", desc := "([CI[BII)I" } : Jvm.MethodName) jdk_52_method_21_code (7 : Nat) (Option.some Jvm.ClassFile.FieldType.int), Jvm.Cond.code ({ cls := "java/lang/StringUTF16", name := "coderFromArrayLen", desc := "([BI)B" } : Jvm.MethodName) jdk_52_method_15_code (2 : Nat) (Option.some Jvm.ClassFile.FieldType.byte), Jvm.Cond.code ({ cls := "java/lang/String", name := "equals", desc := "(Ljava/lang/Object;)Z" } : Jvm.MethodName) jdk_42_method_66_code (3 : Nat) (Option.some Jvm.ClassFile.FieldType.boolean), Jvm.Cond.code ({ cls := "java/lang/StringLatin1", name := "equals", desc := "([B[B)Z" } : Jvm.MethodName) jdk_43_method_13_code (3 : Nat) (Option.some Jvm.ClassFile.FieldType.boolean), Jvm.Cond.code ({ cls := "com/example/grantwell/grantwell/server/AuthMethod", name := "named", desc := "(Ljava/lang/String;)Lcom/example/grantwell/grantwell/server/AuthMethod;" } : Jvm.MethodName) prog_4_method_3_code (5 : Nat) (Option.some (Jvm.ClassFile.FieldType.object "com/example/grantwell/grantwell/server/AuthMethod")), Jvm.Cond.code ({ cls := "com/example/grantwell/grantwell/server/AuthMethod", name := "values", desc := "()[Lcom/example/grantwell/grantwell/server/AuthMethod;" } : Jvm.MethodName) prog_4_method_1_code (0 : Nat) (Option.some (Jvm.ClassFile.FieldType.array (Jvm.ClassFile.FieldType.object "com/example/grantwell/grantwell/server/AuthMethod"))), Jvm.Cond.code ({ cls := "com/example/grantwell/grantwell/server/AuthMethodNamedPinLaw", name := "drawn", desc := "(II)Ljava/lang/String;" } : Jvm.MethodName) method_3_code (6 : Nat) (Option.some (Jvm.ClassFile.FieldType.object "java/lang/String"))]
set_option maxRecDepth 65536 in
theorem codes_eq : words1.filter isCode = codes1 := rfl
theorem w_codes : ∀ c ∈ words1.filter isCode, c.before args0 about1 = true := by
  rw [codes_eq]
  intro c hc
  simp only [codes1, List.mem_cons, List.not_mem_nil, or_false] at hc
  rcases hc with rfl | rfl | rfl | rfl | rfl | rfl | rfl | rfl | rfl | rfl | rfl | rfl
  · exact w_c0
  · exact w_c1
  · exact w_c2
  · exact w_c3
  · exact w_c4
  · exact w_c5
  · exact w_c6
  · exact w_c7
  · exact w_c8
  · exact w_c9
  · exact w_c10
  · exact w_c11
set_option maxRecDepth 65536 in
theorem w_t1 : (words1.take 24).all (fun c => isCode c || c.before args0 about1) = true := by decide +kernel
set_option maxRecDepth 65536 in
theorem w_t2 : ((words1.drop 24).take 24).all (fun c => isCode c || c.before args0 about1) = true := by decide +kernel
set_option maxRecDepth 65536 in
theorem w_t3 : (((words1.drop 24).drop 24).take 24).all (fun c => isCode c || c.before args0 about1) = true := by decide +kernel
set_option maxRecDepth 65536 in
theorem w_t4 : (((words1.drop 24).drop 24).drop 24).all (fun c => isCode c || c.before args0 about1) = true := by decide +kernel
theorem w_tables : (allAtoms (Jvm.Cond.code x code maxLocals ret :: tables_1)).before args0 about1 = true := by
  rw [allAtoms_all]
  show words1.all (fun c => c.before args0 about1) = true
  refine all_split ?_ w_codes
  rw [← List.take_append_drop 24 words1, List.all_append, w_t1, ← List.take_append_drop 24 (words1.drop 24), List.all_append, w_t2, ← List.take_append_drop 24 ((words1.drop 24).drop 24), List.all_append, w_t3, w_t4]
  rfl
set_option maxRecDepth 65536 in
theorem w_rest : rest_1_c.before args0 about1 = true := by decide +kernel
set_option maxRecDepth 65536 in
theorem w_case : (Jvm.Cond.and given_1 narrow_1).before args0 about1 = true := by decide +kernel
set_option maxRecDepth 65536 in
theorem w_consts : constsHeld consts_1 about1 := Jvm.Lit.constsHeldB_iff.mp (by decide +kernel)
theorem w_applies : (headSpec (Jvm.Cond.code x code maxLocals ret :: tables_1) room_1).applies x e0.platform about1 = true :=
  (Spec.applies_iff w_frames).mpr ⟨w_running, w_runnable, w_alone, w_named, w_hears, w_ripe, w_room, w_tables⟩
theorem atStart : AtStart classFile x code maxLocals ret World_1 tables_1 room_1 Calls_1 rest_1 Pre_1 launch0 p0 e0 about1 theMethod args0 below0 :=
  ⟨lists_1, trivial, launch0.admits_env _ _ _, launch0.least_env, fairChoices_fair.cas, fairChoices_fair.clock, w_frames, w_args, w_heap, w_applies, ⟨w_consts, trivial⟩, w_rest, w_case⟩
end start1
theorem witness_1 : WitnessClaimed_1 := ⟨start1.p0, start1.e0, start1.about1, start1.theMethod, start1.args0, start1.below0, start1.atStart⟩
end Jvm.Pilot.@@N@@
