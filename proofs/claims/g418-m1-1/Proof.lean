import JvmDerived
import JvmDerived.Pilot.@@N@@Statement
import JvmDerived.Pilot.@@N@@Code
set_option linter.unusedVariables false
set_option linter.unusedSimpArgs false
namespace Jvm.RoadKit
theorem Old.own_le {Z : State} {h : Heap} {n0 : Nat} (O : Old Z n0 h) : n0 ≤ h.size := O.1 ▸ O.2.1
end Jvm.RoadKit
namespace Jvm.OwnKit
open Sem ClassFile Op Lib Jvm.Stand Jvm.Free Jvm.LawKit Jvm.RoadKit
section Kit
variable {p : Program} {l : Launch} {e : Env} {R : Room} {s : State} {m : MethodId} {args : Array Value} {below : List Frame} {meth : Method} {c : Code} {T : State} {locs : List Loc} {cells slots : Nat} {Z : State} {a0 : Array Value} {h h0 : Heap} {Q : Option Value → Heap → List Loc → Prop} {k n : Nat}
/-- from the state A on the body comes to its end; Q says what it leaves -/
def FinP (p : Program) (e : Env) (below : List Frame) (s : State) (Q : Option Value → Heap → List Loc → Prop) (k n : Nat) (A : State) : Prop :=
  ∃ s₂ o, Steps p.tables e below A s₂ ∧ s₂.status = .running ∧ Ended s₂ below o ∧ ∃ v L, o = .returned v ∧ Q v s₂.heap L ∧ FrameEnd s o s₂ L k n
theorem FinP.st {A B : State} (hs : ∀ t, Steps p.tables e below B t → Steps p.tables e below A t) (f : FinP p e below s Q k n B) : FinP p e below s Q k n A := by
  obtain ⟨s2, o, h1, r⟩ := f; exact ⟨s2, o, hs _ h1, r⟩
/-- the contract of a body: called with as at the heap h0 -/
abbrev Con (l : Launch) (Z : State) (h0 : Heap) (x : MethodName) (bytes : ByteArray) (maxL : Nat) (ret : Option FieldType) (ws : List Cond) (rm : Room) (as : Array Value) (Q : Option Value → Heap → List Loc → Prop) : Prop :=
  MetFree l x (head1 (Cond.code x bytes maxL ret :: ws) rm) (fun a U => a = as ∧ Z.Warmed39 U.vm ∧ U.heap = h0) (fun _ _ _ _ _ => True) (fun _ U o U' => ∃ v L, o = .returned v ∧ Q v U'.heap L ∧ FrameEnd U o U' L rm.cells rm.slots)
theorem Con.of {x : MethodName} {bytes : ByteArray} {maxL : Nat} {ret : Option FieldType} {ws : List Cond} {rm : Room} {as : Array Value} (hn : plainFor x = true) {f0 : MethodId → JFrame} (hf0 : ∀ m, entryFrame m as maxL = f0 m)
    (body : ∀ (p : Program) (e : Env) (s : State) (m : MethodId) (below : List Frame) (meth : Method) (c : Code) (T : State), p.tables.exec = Jvm.exec → c.code = bytes → c.maxLocals = maxL → s.vm.findClass x.cls = some m.cls → meth.name = x.name → meth.sig.returnType = ret → meth.locks = false → Z.Warmed39 s.vm →
      Stand p l e rm s m as below meth c T [] 0 0 → T.heap = h0 → FinP p e below s Q rm.cells rm.slots (T.setTop (f0 m))) : Con l Z h0 x bytes maxL ret ws rm as Q := by
  refine MetFree.of_bodySF hn hisR ?_
  intro p e s m args below meth c s₁ Bd hml0 hP hK
  obtain ⟨rfl, hZ, hh⟩ := hP
  have X0 : Stand p l e rm s m args below meth c s₁ [] 0 0 := Stand.of_body Bd
  have e0 : s₁.heap = h0 := by rw [← hh, Bd.state]; rfl
  have q := body p e s m below meth c s₁ Bd.exec Bd.bytes hml0 (findClass_of_methodNamed Bd.named) (name_of_methodNamed Bd.named Bd.method).1 Bd.returns (BodyLoose.notSynchronized Bd) hZ X0 e0
  rw [hf0 m]
  exact q
/-- a paid call -/
abbrev Pay (l : Launch) (R : Room) (p : Program) (e : Env) (below : List Frame) (s : State) (args : Array Value) (y : MethodName) (len W : Nat) (as : Array Value) (h : Heap) (rc rs : Nat) (Q : Option Value → Heap → List Loc → Prop) : Prop :=
  Back l R p e below s args y len W (fun A a => a = as ∧ A.U.heap = h ∧ A.cells + rc ≤ R.cells ∧ A.slots + rs ≤ R.slots) (fun A _ v B => ∃ L, Q v B.U.heap L ∧ B.locs = A.locs ++ L ∧ B.cells = A.cells + rc ∧ B.slots = A.slots + rs)
theorem Con.pay {y : MethodName} {bytes : ByteArray} {maxL : Nat} {ret : Option FieldType} {rm : Room} {len W : Nat} {as : Array Value} (hM : Con l Z h y bytes maxL ret [] rm as Q)
    (hZ : Z.Warmed39 s.vm) (wc : (Cond.code y bytes maxL ret).before a0 Z = true) (wz : (Cond.initialized y.cls).before a0 Z = true) (hf : rm.frames + 1 ≤ R.frames) (hl : W + (maxL + 11) + rm.locals ≤ R.locals) : Pay l R p e below s args y len W as h rm.cells rm.slots Q :=
  backOf hM hZ wc wz hf hl
theorem goI (X : Stand p l e R s m args below meth c T locs cells slots) (hx : p.tables.exec = Jvm.exec) (hZ : Z.Warmed39 s.vm) {own : String} (hown : s.vm.findClass own = some m.cls) {index : Nat} {y : MethodName} (hy1 : y.name = "<init>") (w1 : (Cond.methodLink own index y).before a0 Z = true) (w2 : (Cond.instanceMethod y).before a0 Z = true)
    {bytes : ByteArray} {maxL : Nat} (w3 : (Cond.code y bytes maxL none).before a0 Z = true) (hy : y.cls ≠ "java/lang/invoke/MethodHandle" ∧ y.cls ≠ "java/lang/invoke/VarHandle") {W rc rs : Nat} {as : Array Value} (hK : Pay l R p e below s args y 3 W as h rc rs Q) (eT : T.heap = h)
    {g : JFrame} (hg : g.method = m) (hsize : g.locals.size = c.maxLocals) {a : Addr} (argsL rest : List Value) (hlen : ∀ sig, parseMethodDescriptor y.desc = some sig → argsL.length = sig.parameters.length) (hstack : g.stack = argsL.reverse ++ .ref a :: rest) (hW : 2 * g.monitorRoom + (rest.map fun v => v.category).sum ≤ W)
    (hdg : decode c.code g.pc = .ok (.invokespecial index, 3)) (has : (Value.ref a :: argsL).toArray = as) (hc : cells + rc ≤ R.cells) (hs : slots + rs ≤ R.slots) :
    ∃ (v : Option Value) (T' : State) (h' : Heap) (L : List Loc), Stand p l e R s m args below meth c T' (locs ++ L) (cells + rc) (slots + rs) ∧ T'.heap = h' ∧ Q v h' L ∧ ∀ t, Steps p.tables e below (T'.setTop { g with pc := g.pc + 3, stack := v.toList ++ rest }) t → Steps p.tables e below (T.setTop g) t := by
  obtain ⟨v, _, ⟨T', L', k', n'⟩, -, X', ⟨L, hQ, l1, y1, z1⟩, st⟩ := X.specialBack hx hy1 hown (mvT hZ w1) (mvT hZ w2) (mvT hZ w3) hy hK hg hsize (Steps.refl _) hlen hstack hW hdg (fun _ _ => ⟨has, eT, hc, hs⟩)
  dsimp only [Pt.U, Pt.locs, Pt.cells, Pt.slots] at X' l1 y1 z1 st hQ
  subst l1 y1 z1
  exact ⟨v, T', _, L, X', rfl, hQ, fun t q => st.trans q⟩
theorem goV (X : Stand p l e R s m args below meth c T locs cells slots) (hx : p.tables.exec = Jvm.exec) (hZ : Z.Warmed39 s.vm) {own : String} (hown : s.vm.findClass own = some m.cls) {index : Nat} {C : String} {y z : MethodName} (w1 : (Cond.methodLink own index y).before a0 Z = true) (w2 : (Cond.declares y).before a0 Z = true)
    (w3 : (Cond.selects C y z).before a0 Z = true) (nf : NotFace s y) (w4 : (Cond.instanceMethod z).before a0 Z = true) (hy : y.cls ≠ "java/lang/invoke/MethodHandle" ∧ y.cls ≠ "java/lang/invoke/VarHandle") {W rc rs : Nat} {as : Array Value} (hK : Pay l R p e below s args z 3 W as h rc rs Q) (eT : T.heap = h) {a : Addr} (E : Exa Z h a C)
    {g : JFrame} (hg : g.method = m) (hsize : g.locals.size = c.maxLocals) (argsL rest : List Value) (hlen : ∀ sig, parseMethodDescriptor y.desc = some sig → argsL.length = sig.parameters.length) (hstack : g.stack = argsL.reverse ++ .ref a :: rest) (hW : 2 * g.monitorRoom + (rest.map fun v => v.category).sum ≤ W)
    (hdg : decode c.code g.pc = .ok (.invokevirtual index, 3)) (has : (Value.ref a :: argsL).toArray = as) (hc : cells + rc ≤ R.cells) (hs : slots + rs ≤ R.slots) :
    ∃ (v : Option Value) (T' : State) (h' : Heap) (L : List Loc), Stand p l e R s m args below meth c T' (locs ++ L) (cells + rc) (slots + rs) ∧ T'.heap = h' ∧ Q v h' L ∧ ∀ t, Steps p.tables e below (T'.setTop { g with pc := g.pc + 3, stack := v.toList ++ rest }) t → Steps p.tables e below (T.setTop g) t := by
  obtain ⟨cB, kB, q1, -, q3⟩ := isOf hZ eT E
  obtain ⟨v, _, ⟨T', L', k', n'⟩, -, X', ⟨L, hQ, l1, y1, z1⟩, st⟩ := X.virtualBack hx hown (mvT hZ w1) (mvT hZ w2) nf (mvT hZ w3) (mvT hZ w4) hy hK q1 q3 hg hsize (Steps.refl _) hlen hstack hW hdg (fun _ _ => ⟨has, eT, hc, hs⟩)
  dsimp only [Pt.U, Pt.locs, Pt.cells, Pt.slots] at X' l1 y1 z1 st hQ
  subst l1 y1 z1
  exact ⟨v, T', _, L, X', rfl, hQ, fun t q => st.trans q⟩
theorem goS (X : Stand p l e R s m args below meth c T locs cells slots) (hx : p.tables.exec = Jvm.exec) (hZ : Z.Warmed39 s.vm) {own : String} (hown : s.vm.findClass own = some m.cls) {index : Nat} {y : MethodName} (w1 : (Cond.methodLink own index y).before a0 Z = true) (w2 : (Cond.static y).before a0 Z = true) (w3 : (Cond.initialized y.cls).before a0 Z = true)
    {bytes : ByteArray} {maxL : Nat} {ret : Option FieldType} (w4 : (Cond.code y bytes maxL ret).before a0 Z = true) (hy : y.cls ≠ "java/lang/invoke/MethodHandle" ∧ y.cls ≠ "java/lang/invoke/VarHandle") {W rc rs : Nat} {as : Array Value} (hK : Pay l R p e below s args y 3 W as h rc rs Q) (eT : T.heap = h)
    {g : JFrame} (hg : g.method = m) (hsize : g.locals.size = c.maxLocals) (argsL rest : List Value) (hlen : ∀ sig, parseMethodDescriptor y.desc = some sig → argsL.length = sig.parameters.length) (hstack : g.stack = argsL.reverse ++ rest) (hW : 2 * g.monitorRoom + (rest.map fun v => v.category).sum ≤ W)
    (hdg : decode c.code g.pc = .ok (.invokestatic index, 3)) (has : argsL.toArray = as) (hc : cells + rc ≤ R.cells) (hs : slots + rs ≤ R.slots) :
    ∃ (v : Option Value) (T' : State) (h' : Heap) (L : List Loc), Stand p l e R s m args below meth c T' (locs ++ L) (cells + rc) (slots + rs) ∧ T'.heap = h' ∧ Q v h' L ∧ ∀ t, Steps p.tables e below (T'.setTop { g with pc := g.pc + 3, stack := v.toList ++ rest }) t → Steps p.tables e below (T.setTop g) t := by
  obtain ⟨v, _, ⟨T', L', k', n'⟩, -, X', ⟨L, hQ, l1, y1, z1⟩, st⟩ := Jvm.LawKit.callS X hx hown (mvT hZ w1) (mvT hZ w2) (mvT hZ w3) (mvT hZ w4) hy hK hg hsize hlen hstack hW hdg (fun _ _ => ⟨has, eT, hc, hs⟩)
  dsimp only [Pt.U, Pt.locs, Pt.cells, Pt.slots] at X' l1 y1 z1 st hQ
  subst l1 y1 z1
  exact ⟨v, T', _, L, X', rfl, hQ, st⟩
/-! the ends of a body -/
theorem fin_of (X : Stand p l e R s m args below meth c T locs cells slots) (hlk : meth.locks = false) {v : Option Value} (hv : meth.sig.returnType = none → v = none) {A : State} (eT : T.heap = h) (q : Q v h locs) (hc : cells ≤ k) (hs : slots ≤ n)
    (hst : ∀ fs, (∀ (f : JFrame) (acts : List Action), f.method = m → f.locked = none → f.entered = [] → (doReturn e (T.setTop f) acts v).1 = T.setFrames fs) → Steps p.tables e below A (T.setFrames fs)) : FinP p e below s Q k n A := by
  obtain ⟨fs, hr, hrun, hended, hW, hsame⟩ := X.leave (v := v) hv hlk
  refine ⟨_, _, hst fs hr, hrun, hended, v, locs, rfl, ?_, ⟨_, rfl⟩, hW, hsame.mono hc hs⟩
  show Q v T.heap locs
  rw [eT]; exact q
theorem finV (X : Stand p l e R s m args below meth c T locs cells slots) (hx : p.tables.exec = Jvm.exec) (hlk : meth.locks = false) (hret : meth.sig.returnType = none) {pc : Nat} {Ls : Array Slot} (hd : decode c.code pc = .ok (.return_, 1)) (eT : T.heap = h) (q : Q none h locs) (hc : cells ≤ k) (hs : slots ≤ n) : FinP p e below s Q k n (T.setTop (mkF m pc Ls [])) :=
  fin_of X hlk (fun _ => rfl) eT q hc hs fun fs hr => X.returnOut hx hret hd hr
theorem finO (X : Stand p l e R s m args below meth c T locs cells slots) (hx : p.tables.exec = Jvm.exec) (hlk : meth.locks = false) {t : FieldType} {w : Value} {i : Instr} {rest : List Value} (hret : meth.sig.returnType = some t) (hn : narrow t w = w)
    (hi : (i = .ireturn ∧ (t = .int ∨ t = .boolean ∨ t = .byte ∨ t = .char ∨ t = .short) ∧ ∃ z, w = .int z) ∨ (i = .lreturn ∧ t = .long ∧ ∃ z, w = .long z) ∨ (i = .dreturn ∧ t = .double ∧ ∃ z, w = .double z) ∨ (i = .freturn ∧ t = .float ∧ ∃ z, w = .float z) ∨ (i = .areturn ∧ t.isReference = true ∧ w.isRef = true))
    {pc : Nat} {Ls : Array Slot} (hd : decode c.code pc = .ok (i, 1)) (eT : T.heap = h) (q : Q (some w) h locs) (hc : cells ≤ k) (hs : slots ≤ n) : FinP p e below s Q k n (T.setTop (mkF m pc Ls (w :: rest))) :=
  fin_of X hlk (fun hq => by rw [hret] at hq; cases hq) eT q hc hs fun fs hr => retOut X hx hret hn hi hd hr
theorem finI (X : Stand p l e R s m args below meth c T locs cells slots) (hx : p.tables.exec = Jvm.exec) (hlk : meth.locks = false) {z : Int32} {rest : List Value} (hret : meth.sig.returnType = some .int) {pc : Nat} {Ls : Array Slot} (hd : decode c.code pc = .ok (.ireturn, 1)) (eT : T.heap = h) (q : Q (some (.int z)) h locs) (hc : cells ≤ k) (hs : slots ≤ n) : FinP p e below s Q k n (T.setTop (mkF m pc Ls (.int z :: rest))) :=
  finO X hx hlk hret rfl (Or.inl ⟨rfl, Or.inl rfl, z, rfl⟩) hd eT q hc hs
theorem finL (X : Stand p l e R s m args below meth c T locs cells slots) (hx : p.tables.exec = Jvm.exec) (hlk : meth.locks = false) {z : Int64} {rest : List Value} (hret : meth.sig.returnType = some .long) {pc : Nat} {Ls : Array Slot} (hd : decode c.code pc = .ok (.lreturn, 1)) (eT : T.heap = h) (q : Q (some (.long z)) h locs) (hc : cells ≤ k) (hs : slots ≤ n) : FinP p e below s Q k n (T.setTop (mkF m pc Ls (.long z :: rest))) :=
  finO X hx hlk hret rfl (Or.inr (Or.inl ⟨rfl, rfl, z, rfl⟩)) hd eT q hc hs
theorem finA (X : Stand p l e R s m args below meth c T locs cells slots) (hx : p.tables.exec = Jvm.exec) (hlk : meth.locks = false) {t : FieldType} {w : Value} {rest : List Value} (hret : meth.sig.returnType = some t) (ht : t.isReference = true) (hw : w.isRef = true) (hn : narrow t w = w) {pc : Nat} {Ls : Array Slot} (hd : decode c.code pc = .ok (.areturn, 1)) (eT : T.heap = h) (q : Q (some w) h locs) (hc : cells ≤ k) (hs : slots ≤ n) : FinP p e below s Q k n (T.setTop (mkF m pc Ls (w :: rest))) :=
  finO X hx hlk hret hn (Or.inr (Or.inr (Or.inr (Or.inr ⟨rfl, ht, hw⟩)))) hd eT q hc hs
theorem finN (X : Stand p l e R s m args below meth c T locs cells slots) (hx : p.tables.exec = Jvm.exec) (hlk : meth.locks = false) {t : FieldType} {z : Int32} {rest : List Value} (hret : meth.sig.returnType = some t) (ht : t = .boolean ∨ t = .byte ∨ t = .char ∨ t = .short) {pc : Nat} {Ls : Array Slot} (hd : decode c.code pc = .ok (.ireturn, 1)) (eT : T.heap = h) (q : Q (some (.int (nar t z))) h locs) (hc : cells ≤ k) (hs : slots ≤ n) : FinP p e below s Q k n (T.setTop (mkF m pc Ls (.int z :: rest))) :=
  fin_of X hlk (fun hq => by rw [hret] at hq; cases hq) eT q hc hs fun fs hr => retN X hx hret ht hd hr
/-! the branches, by what holds -/
theorem ieq {x y : Int32} (h : x = y) : if_icmp.holds .eq x y = true := (teq h).1
theorem ieqN {x y : Int32} (h : ¬ x = y) : if_icmp.holds .eq x y = false := (feq h).1
theorem ine {x y : Int32} (h : ¬ x = y) : if_icmp.holds .ne x y = true := (feq h).2
theorem ineN {x y : Int32} (h : x = y) : if_icmp.holds .ne x y = false := (teq h).2
theorem ilt {x y : Int32} (h : x < y) : if_icmp.holds .lt x y = true := (tlt h).1
theorem iltN {x y : Int32} (h : ¬ x < y) : if_icmp.holds .lt x y = false := (flt h).1
theorem ige {x y : Int32} (h : ¬ x < y) : if_icmp.holds .ge x y = true := (flt h).2.1
theorem igeN {x y : Int32} (h : x < y) : if_icmp.holds .ge x y = false := (tlt h).2.1
theorem igt {x y : Int32} (h : y < x) : if_icmp.holds .gt x y = true := (tlt h).2.2.1
theorem igtN {x y : Int32} (h : ¬ y < x) : if_icmp.holds .gt x y = false := (flt h).2.2.1
theorem ile {x y : Int32} (h : ¬ y < x) : if_icmp.holds .le x y = true := (flt h).2.2.2
theorem ileN {x y : Int32} (h : y < x) : if_icmp.holds .le x y = false := (tlt h).2.2.2
theorem zeq {x : Int32} (h : x = 0) : ifCond.holds .eq x = true := (if0 _ _).trans (ieq h)
theorem zeqN {x : Int32} (h : ¬ x = 0) : ifCond.holds .eq x = false := (if0 _ _).trans (ieqN h)
theorem zne {x : Int32} (h : ¬ x = 0) : ifCond.holds .ne x = true := (if0 _ _).trans (ine h)
theorem zneN {x : Int32} (h : x = 0) : ifCond.holds .ne x = false := (if0 _ _).trans (ineN h)
theorem zlt {x : Int32} (h : x < 0) : ifCond.holds .lt x = true := (if0 _ _).trans (ilt h)
theorem zltN {x : Int32} (h : ¬ x < 0) : ifCond.holds .lt x = false := (if0 _ _).trans (iltN h)
theorem zge {x : Int32} (h : ¬ x < 0) : ifCond.holds .ge x = true := (if0 _ _).trans (ige h)
theorem zgeN {x : Int32} (h : x < 0) : ifCond.holds .ge x = false := (if0 _ _).trans (igeN h)
theorem zgt {x : Int32} (h : 0 < x) : ifCond.holds .gt x = true := (if0 _ _).trans (igt h)
theorem zgtN {x : Int32} (h : ¬ 0 < x) : ifCond.holds .gt x = false := (if0 _ _).trans (igtN h)
theorem zle {x : Int32} (h : ¬ 0 < x) : ifCond.holds .le x = true := (if0 _ _).trans (ile h)
theorem zleN {x : Int32} (h : 0 < x) : ifCond.holds .le x = false := (if0 _ _).trans (ileN h)
/-- the heap has grown -/
def Grw (h0 h : Heap) : Prop := h0.size ≤ h.size
theorem Grw.ext {h' : Heap} (B : Grw h0 h) (E : Ext h h') : Grw h0 h' := Nat.le_trans B E.1
theorem Grw.keep {h' : Heap} {ws : List Addr} (B : Grw h0 h) (K : Keep h h' ws) : Grw h0 h' := Nat.le_trans B K.1
theorem Grw.wr {h' : Heap} {a : Addr} {sl : Nat} {v : Value} (B : Grw h0 h) (W : Wr h h' a sl v) : Grw h0 h' := Nat.le_trans B (Nat.le_of_eq W.size.symm)
/-! joining roads -/
theorem join1 {α : Type} {P : α → Prop} {A : α → State} {B : State} (hj : ∀ a, P a → FinP p e below s Q k n (A a)) (go : (∀ a, P a → FinP p e below s Q k n (A a)) → FinP p e below s Q k n B) : FinP p e below s Q k n B := go hj
theorem joinH {α : Type} {P : α → State → Heap → List Loc → Prop} {A : α → State → State} {B : State} (hj : ∀ a T h L, P a T h L → FinP p e below s Q k n (A a T)) (go : (∀ a T h L, P a T h L → FinP p e below s Q k n (A a T)) → FinP p e below s Q k n B) : FinP p e below s Q k n B := go hj
/-! arrays -/
theorem newA0 (X : Stand p l e R s m args below meth c T locs cells slots) (hx : p.tables.exec = Jvm.exec) (hZ : Z.Warmed39 s.vm) {aty : ArrayType} (w : (Cond.arrayClass (newarray.typeOf aty)).before a0 Z = true) (eT : T.heap = h) {g : JFrame} (hg : g.method = m) (hd : decode c.code g.pc = .ok (.newarray aty, 2)) {z : Int32} {rest : List Value} (hs : g.stack = .int z :: rest)
    (hz : ¬ z < 0) {N : Nat} (hN : z.toNatClampNeg = N) (hb : N * 8 ≤ 536870912) (hc : cells + 1 ≤ R.cells) (hl : slots + N ≤ R.slots) :
    ∃ T' h' cA, Stand p l e R s m args below meth c T' locs (cells + 1) (slots + N) ∧ T'.heap = h' ∧ Ext h h' ∧ Arv Z h' h.size cA (newarray.typeOf aty) z (List.replicate N (defaultValue (newarray.typeOf aty))) (defaultValue (newarray.typeOf aty)) ∧
      ∀ target, Steps p.tables e below (T'.setTop { g with pc := g.pc + 2, stack := .ref h.size :: rest }) target → Steps p.tables e below (T.setTop g) target := by
  obtain ⟨T', h', cA, X', e', E', A', st⟩ := newP X hx hZ w eT hg hd hs hz (cap := N) (Nat.le_of_eq hN) hb hc hl
  exact ⟨T', h', cA, X', e', E', (Arv.new A' hz).pad (pad_rep [] _ N), st⟩
theorem stC0 (X : Stand p l e R s m args below meth c T locs cells slots) (hx : p.tables.exec = Jvm.exec) (hZ : Z.Warmed39 s.vm) (eT : T.heap = h) {a : Addr} {ka : ClassId} {z : Int32} {vs : List Value} {dv : Value} (V : Arv Z h a ka .char z vs dv) {j x : Int32} (hj : ¬ j < 0 ∧ j < z) (i : Nat) (hi : j.toNatClampNeg = i) (hil : i < vs.length) (hnx : nar .char x = x)
    {g : JFrame} (hg : g.method = m) {rest : List Value} (hs : g.stack = .int x :: .int j :: .ref a :: rest) (hd : decode c.code g.pc = .ok (.castore, 1)) :
    ∃ T' h', Stand p l e R s m args below meth c T' (locs ++ [⟨a, j.toNatClampNeg⟩]) cells slots ∧ T'.heap = h' ∧ Wr h h' a j.toNatClampNeg (.int x) ∧ Arv Z h' a ka .char z (vs.set i (.int x)) dv ∧ ∀ target, Steps p.tables e below (T'.setTop { g with pc := g.pc + 1, stack := rest }) target → Steps p.tables e below (T.setTop g) target := by
  obtain ⟨cl, A, q1, S, M, H, G⟩ := V
  obtain ⟨T', h', X', e', W, st⟩ := stC X hx hZ eT A (j := j) (inb_of S hj) hg hs hd
  have W' := W
  rw [hnx] at W
  exact ⟨T', h', X', e', W, Arv.set A q1 S M H G (by rw [← hnx]; exact fits_nar_char _) W i hi hil, st⟩
theorem alen (X : Stand p l e R s m args below meth c T locs cells slots) (hx : p.tables.exec = Jvm.exec) (hZ : Z.Warmed39 s.vm) (eT : T.heap = h) {a : Addr} {ka : ClassId} {ty : FieldType} {z : Int32} {vs : List Value} {dv : Value} (V : Arv Z h a ka ty z vs dv)
    {g : JFrame} (hg : g.method = m) {rest : List Value} (hs : g.stack = .ref a :: rest) (hd : decode c.code g.pc = .ok (.arraylength, 1)) :
    ∀ target, Steps p.tables e below (T.setTop { g with pc := g.pc + 1, stack := .int z :: rest }) target → Steps p.tables e below (T.setTop g) target := by
  obtain ⟨cl, A, q1, S, M, H, G⟩ := V
  intro t ht
  refine X.arraylength hx (by rw [eT]; exact A.1) (State.isArrayOf_alike hZ.alike A.2.1) hg hs hd t ?_
  rw [len_of S M]; exact ht
theorem ldC0 (X : Stand p l e R s m args below meth c T locs cells slots) (hx : p.tables.exec = Jvm.exec) (hZ : Z.Warmed39 s.vm) (eT : T.heap = h) {a : Addr} {ka : ClassId} {z : Int32} {vs : List Value} {dv : Value} (V : Arv Z h a ka .char z vs dv) {j : Int32} (hj : ¬ j < 0 ∧ j < z) {v : Value} (hv : vs.getD j.toNatClampNeg dv = v)
    {g : JFrame} (hg : g.method = m) {rest : List Value} (hs : g.stack = .int j :: .ref a :: rest) (hd : decode c.code g.pc = .ok (.caload, 1)) :
    ∀ target, Steps p.tables e below (T.setTop { g with pc := g.pc + 1, stack := v :: rest }) target → Steps p.tables e below (T.setTop g) target := by
  obtain ⟨cl, A, q1, S, M, H, G⟩ := V
  exact X.caload hx (by rw [eT]; exact A.1) (State.isArrayOf_alike hZ.alike A.2.1) A.2.2 (inb_of S hj) (H.at (inb_of S hj) hv) hg hs hd
theorem ldB0 (X : Stand p l e R s m args below meth c T locs cells slots) (hx : p.tables.exec = Jvm.exec) (hZ : Z.Warmed39 s.vm) (eT : T.heap = h) {a : Addr} {ka : ClassId} {z : Int32} {vs : List Value} {dv : Value} (V : Arv Z h a ka .byte z vs dv) {j : Int32} (hj : ¬ j < 0 ∧ j < z) {v : Value} (hv : vs.getD j.toNatClampNeg dv = v)
    {g : JFrame} (hg : g.method = m) {rest : List Value} (hs : g.stack = .int j :: .ref a :: rest) (hd : decode c.code g.pc = .ok (.baload, 1)) :
    ∀ target, Steps p.tables e below (T.setTop { g with pc := g.pc + 1, stack := v :: rest }) target → Steps p.tables e below (T.setTop g) target := by
  obtain ⟨cl, A, q1, S, M, H, G⟩ := V
  exact X.baloadBytes hx (by rw [eT]; exact A.1) (State.isArrayOf_alike hZ.alike A.2.1) A.2.2 (inb_of S hj) (H.at (inb_of S hj) hv) hg hs hd
theorem ldR0 (X : Stand p l e R s m args below meth c T locs cells slots) (hx : p.tables.exec = Jvm.exec) (hZ : Z.Warmed39 s.vm) (eT : T.heap = h) {a : Addr} {ka : ClassId} {ty : FieldType} (hty : ty.isReference = true) {z : Int32} {vs : List Value} {dv : Value} (V : Arv Z h a ka ty z vs dv) {j : Int32} (hj : ¬ j < 0 ∧ j < z) {v : Value} (hv : vs.getD j.toNatClampNeg dv = v)
    {g : JFrame} (hg : g.method = m) {rest : List Value} (hs : g.stack = .int j :: .ref a :: rest) (hd : decode c.code g.pc = .ok (.aaload, 1)) :
    ∀ target, Steps p.tables e below (T.setTop { g with pc := g.pc + 1, stack := v :: rest }) target → Steps p.tables e below (T.setTop g) target := by
  obtain ⟨cl, A, q1, S, M, H, G⟩ := V
  exact X.aaload hx (by rw [eT]; exact A.1) (State.isArrayOf_alike hZ.alike A.2.1) hty A.2.2 (inb_of S hj) (H.at (inb_of S hj) hv) hg hs hd
/-- C's superclass S is the root; K is an ordinary class that is neither -/
theorem notSub {C S K : String} {n : Nat} (w : (Cond.superclass C S).before a0 Z = true) (w2 : (Cond.noSuperclass S).before a0 Z = true) (wi : (Cond.instantiable K n).before a0 Z = true) (h1 : C ≠ K) (h2 : S ≠ K) : ∃ c t, Z.vm.findClass C = some c ∧ Z.vm.findClass K = some t ∧ Z.vm.assignable c t = false := by
  obtain ⟨c, hc⟩ := found_sup w
  obtain ⟨q, k1, kq, a1, a2, a3, a4, a5, -, a7⟩ := Cond.superclass_spec hc w
  obtain ⟨q', k2, b1, b2, b3, -, -⟩ := Cond.noSuperclass_spec w2
  cases a1.symm.trans b1
  cases a3.symm.trans b2
  obtain ⟨t, k3, d1, d2, d3, d4, -⟩ := Cond.instantiable_spec wi
  have ne1 := ids_ne hc d1 h1
  have ne2 := ids_ne a1 d1 h2
  have d5 : k3.isInterface = false := by cases h : k3.isInterface <;> simp [h] at d4 ⊢
  refine ⟨c, t, hc, d1, ?_⟩
  have g0 : ∀ fuel, Z.vm.isSubclassAux fuel q t = false := fun fuel => by
    cases fuel with
    | zero => rfl
    | succ f => simp [Vm.isSubclassAux, ne2, a3, b3]
  have g1 : ∀ fuel, Z.vm.isSubclassAux fuel c t = false := fun fuel => by
    cases fuel with
    | zero => rfl
    | succ f => simp [Vm.isSubclassAux, ne1, a2, a4, g0]
  show Z.vm.assignableAux (255 + 1) c t = false
  simp [Vm.assignableAux, ne1, a2, d2, a5, d3, d5, Vm.isSubclass, g1]
/-! numbers -/
abbrev ush (x y : Int32) : Int32 := (x.toUInt32 >>> (y &&& 31).toUInt32).toInt32
abbrev lush (x : Int64) (y : Int32) : Int64 := (x.toUInt64 >>> (y &&& 0x3f).toInt64.toUInt64).toInt64
abbrev chr (x : Int32) : Int32 := x.toUInt32.toUInt16.toUInt32.toInt32
theorem and_bits (x : Int32) : ¬ (x &&& 255) < 0 ∧ ¬ 255 < (x &&& 255) := by
  have h := c_mask x 255 8 (by decide) (by decide)
  have h2 : (0 : Int32).toInt = 0 := rfl
  have h3 : (255 : Int32).toInt = 255 := rfl
  rw [Int32.lt_iff_toInt_lt, Int32.lt_iff_toInt_lt, h, h2, h3]
  omega
theorem chr_255 (x : Int32) : ∃ c : Int32, chr (x &&& 255) = c ∧ ¬ c < 0 ∧ ¬ 255 < c ∧ c = x &&& 255 := ⟨x &&& 255, i2c_mask x, (and_bits x).1, (and_bits x).2, rfl⟩
theorem nar_chr {c : Int32} (h0 : ¬ c < 0) (h1 : ¬ 255 < c) : nar .char c = c := by
  have e : c = c &&& 255 := by
    have h := c_mask c 255 8 (by decide) (by decide)
    rw [Int32.lt_iff_toInt_lt] at h0 h1
    have h2 : (0 : Int32).toInt = 0 := rfl
    have h3 : (255 : Int32).toInt = 255 := rfl
    rw [h2] at h0; rw [h3] at h1
    apply Int32.toInt_inj.mp
    rw [h]; omega
  rw [e]; exact i2c_mask c
theorem rem5 (x : Int32) : ∃ r : Int32, (x &&& 2147483647) % 5 = r ∧ (r = 0 ∨ r = 1 ∨ r = 2 ∨ r = 3 ∨ r = 4) := by
  refine ⟨_, rfl, ?_⟩
  have h := c_mask x 2147483647 31 (by decide) (by decide)
  have h5 : (5 : Int32).toInt = 5 := rfl
  have h6 : ((x &&& 2147483647) % 5).toInt = (x.toInt % (2 ^ 31 : Nat)).tmod 5 := by rw [Int32.toInt_mod, h, h5]
  have h7 : (0 : Int) ≤ x.toInt % (2 ^ 31 : Nat) := by omega
  rw [Int.tmod_eq_emod_of_nonneg h7] at h6
  have h8 : ((x &&& 2147483647) % 5).toInt = 0 ∨ ((x &&& 2147483647) % 5).toInt = 1 ∨ ((x &&& 2147483647) % 5).toInt = 2 ∨ ((x &&& 2147483647) % 5).toInt = 3 ∨ ((x &&& 2147483647) % 5).toInt = 4 := by omega
  rcases h8 with q | q | q | q | q
  · exact Or.inl (Int32.toInt_inj.mp q)
  · exact Or.inr (Or.inl (Int32.toInt_inj.mp q))
  · exact Or.inr (Or.inr (Or.inl (Int32.toInt_inj.mp q)))
  · exact Or.inr (Or.inr (Or.inr (Or.inl (Int32.toInt_inj.mp q))))
  · exact Or.inr (Or.inr (Or.inr (Or.inr (Int32.toInt_inj.mp q))))
end Kit
end Jvm.OwnKit
/- laws to paste: Road.backV, Road.empW, Road.eqW, Road.codOf (cut by pick.py; bodies as the Statement names them) -/
namespace Jvm.Pilot.@@N@@
namespace StrChars
open Jvm Sem ClassFile Op Lib Jvm.Stand Jvm.Free.XT Jvm.Free.ALB Jvm.Free.JM Jvm.Free
open Jvm.Lib.Cold (StaticIs)
/-- a char array whose places are chars -/
def Ch (a : Addr) (A : Cell) (U : State) : Prop := Arr .char a A U ∧ Typed .char A
theorem Ch.mv {a : Addr} {A : Cell} {U U' : State} (h : Ch a A U) (hal : U.vm.Alike U'.vm) (hh : U'.heap = U.heap) : Ch a A U' := ⟨h.1.mv hal hh, h.2⟩
theorem Ch.keep {a : Addr} {A : Cell} {U U' : State} (h : Ch a A U) (hal : U.vm.Alike U'.vm) (hk : U'.heap[a]? = some A) : Ch a A U' := ⟨h.1.keep hal hk, h.2⟩
/-- what place i of a char[]'s cell holds -/
def cv (A : Cell) (i : Nat) : Int32 := match A.slots[i]? with | some (.int x) => x | _ => 0
theorem Ch.get {a : Addr} {A : Cell} {U : State} (h : Ch a A U) {i : Nat} (hi : i < A.slots.size) : A.slots[i]? = some (.int (cv A i)) := by
  have e := Array.getElem?_eq_getElem hi
  have f := h.2 i _ e
  unfold cv; rw [e]
  generalize A.slots[i] = v at f
  cases v <;> simp [fits] at f ⊢
/-- the byte that i2b leaves of a char -/
def lo8 (x : Int32) : Int32 := x.toInt8.toInt32
theorem fits_lo8 (y : Int32) : fits .byte (.int (lo8 y)) = true := by
  have h1 := y.toInt8.le_toInt
  have h2 := y.toInt8.toInt_lt
  simp only [lo8, fits, Bool.and_eq_true, decide_eq_true_eq, Int32.le_iff_toInt_le, Int8.toInt_toInt32, show (-128 : Int32).toInt = -128 from by decide, show (127 : Int32).toInt = 127 from by decide]
  omega
/-- A' is A but that each place j of lo .. hi - 1 holds f j -/
def Laid (A A' : Cell) (lo hi : Nat) (f : Nat → Value) : Prop := A'.cls = A.cls ∧ A'.vm = A.vm ∧ A'.slots.size = A.slots.size ∧ ∀ i, A'.slots[i]? = if lo ≤ i ∧ i < hi then some (f i) else A.slots[i]?
theorem Laid.zero (A : Cell) (lo : Nat) (f : Nat → Value) : Laid A A lo (lo + 0) f := ⟨rfl, rfl, rfl, fun i => by rw [if_neg (by omega)]⟩
theorem Laid.step {A Ak : Cell} {lo k : Nat} {f : Nat → Value} {v : Value} (h : Laid A Ak lo k f) (hlo : lo ≤ k) (hk : k < Ak.slots.size) (hv : v = f k) : Laid A (Ak.setSlot k v) lo (k + 1) f := by
  refine ⟨h.1, h.2.1, by simpa [Cell.setSlot] using h.2.2.1, fun i => ?_⟩
  by_cases e : k = i
  · subst e; rw [Cell.slots_setSlot_self v hk, if_pos (by omega), hv]
  · rw [Cell.slots_setSlot_ne v e, h.2.2.2 i]
    by_cases q : lo ≤ i ∧ i < k
    · rw [if_pos q, if_pos (by omega)]
    · rw [if_neg q, if_neg (by omega)]
def U16 : String := "java/lang/StringUTF16"
namespace Cmp5
def yN : MethodName := ⟨"java/lang/StringUTF16", "compress", "([CI[BII)I"⟩
abbrev yB : ByteArray := jdk_52_method_21_code
theorem d0 : decode yB 0 = .ok (.iconst 0, 1) := by decide +kernel
theorem d1 : decode yB 1 = .ok (.istore 5, 2) := by decide +kernel
theorem d3 : decode yB 3 = .ok (.iload 5, 2) := by decide +kernel
theorem d5 : decode yB 5 = .ok (.iload 4, 2) := by decide +kernel
theorem d7 : decode yB 7 = .ok (.if_icmp (.ge) 37, 3) := by decide +kernel
theorem d10 : decode yB 10 = .ok (.aload_n 0, 1) := by decide +kernel
theorem d11 : decode yB 11 = .ok (.iload_n 1, 1) := by decide +kernel
theorem d12 : decode yB 12 = .ok (.caload, 1) := by decide +kernel
theorem d13 : decode yB 13 = .ok (.istore 6, 2) := by decide +kernel
theorem d15 : decode yB 15 = .ok (.iload 6, 2) := by decide +kernel
theorem d17 : decode yB 17 = .ok (.sipush 255, 3) := by decide +kernel
theorem d20 : decode yB 20 = .ok (.if_icmp (.le) 6, 3) := by decide +kernel
theorem d26 : decode yB 26 = .ok (.aload_n 2, 1) := by decide +kernel
theorem d27 : decode yB 27 = .ok (.iload_n 3, 1) := by decide +kernel
theorem d28 : decode yB 28 = .ok (.iload 6, 2) := by decide +kernel
theorem d30 : decode yB 30 = .ok (.i2b, 1) := by decide +kernel
theorem d31 : decode yB 31 = .ok (.bastore, 1) := by decide +kernel
theorem d32 : decode yB 32 = .ok (.iinc 1 1, 3) := by decide +kernel
theorem d35 : decode yB 35 = .ok (.iinc 3 1, 3) := by decide +kernel
theorem d38 : decode yB 38 = .ok (.iinc 5 1, 3) := by decide +kernel
theorem d41 : decode yB 41 = .ok (.goto (-38), 3) := by decide +kernel
theorem d44 : decode yB 44 = .ok (.iload 4, 2) := by decide +kernel
theorem d46 : decode yB 46 = .ok (.ireturn, 1) := by decide +kernel
def site : List Cond := []
def tab : Cond := tabOf yN yB 7 (some .int) site
def P (b : Addr) (A : Cell) (d : Addr) (B : Cell) (o q len : Nat) (args : Array Value) (s : State) : Prop := args = #[.ref b, .int (Int32.ofNat o), .ref d, .int (Int32.ofNat q), .int (Int32.ofNat len)] ∧ Ch b A s ∧ Arr .byte d B s ∧ b ≠ d ∧ o + len ≤ A.slots.size ∧ q + len ≤ B.slots.size ∧ ∀ i, i < len → ¬ 255 < cv A (o + i)
def E (b : Addr) (A : Cell) (d : Addr) (B : Cell) (o q len : Nat) (r : Option Value) (s u : State) : Prop := r = some (.int (Int32.ofNat len)) ∧ ∃ B', Put d B' s u ∧ Laid B B' q (q + len) (fun j => Value.int (lo8 (cv A (o + (j - q)))))
/-- no char of the range above 255: len; the places written hold each char's low byte -/
theorem law (l : Launch) (b : Addr) (A : Cell) (d : Addr) (B : Cell) (o q len : Nat) : Law l yN 5 5 0 0 yB 7 (some .int) site (P b A d B o q len) (E b A d B o q len) (copyLocs d q len) 0 0 := by
  refine Law.of_walk (plainFor_of_name (by decide +kernel)) (by decide +kernel) (by decide +kernel) (by decide) (fun _ _ h => by rw [h.1]; rfl) (fun _ U U' hal hh h => ⟨h.1, h.2.1.mv hal hh, h.2.2.1.mv hal hh, h.2.2.2⟩) (fun r U U' V V' h1 hal h2 h => ⟨h.1, h.2.elim fun B' q => ⟨B', q.1.mv h1 h2, q.2⟩⟩) ?_
  intro p e s m args below meth c s₁ X0 hexec hbytes hml hret hlk hnm hown hh0 W hP
  obtain ⟨rfl, hA, hB, hne, l1, l2, hp⟩ := hP
  have c1 : Steps p.tables e below (s₁.setTop (entryFrame m #[.ref b, .int (Int32.ofNat o), .ref d, .int (Int32.ofNat q), .int (Int32.ofNat len)] 7)) (s₁.setTop (mkF m 0 #[.val (.ref b), .val (.int (Int32.ofNat o)), .val (.ref d), .val (.int (Int32.ofNat q)), .val (.int (Int32.ofNat len)), .unset, .unset] [])) := entry rfl
  have hA0 := hA.1.mv X0.warmed.alike hh0
  have hB0 := hB.mv X0.warmed.alike hh0
  have a31 := hA.1.2.2.2
  have c2 : Steps p.tables e below (s₁.setTop (entryFrame m #[.ref b, .int (Int32.ofNat o), .ref d, .int (Int32.ofNat q), .int (Int32.ofNat len)] 7)) (s₁.setTop (mkF m 3 #[.val (.ref b), .val (.int (Int32.ofNat o)), .val (.ref d), .val (.int (Int32.ofNat q)), .val (.int (Int32.ofNat len)), .val (.int 0), .unset] [])) := c1.trans (by
    refine iconstV X0.here hexec rfl 0 (hb hbytes d0) (by decide) ?_
    refine XS.istore X0.here hexec rfl (hb hbytes d1) rfl rfl ?_
    exact Steps.refl _)
  have loop : ∀ (r i : Nat), i + r = len → ∀ (z : Slot), (z = .unset ∨ ∃ w, z = .val w ∧ w.category = 1) → ∀ (Tl : State) (Bk : Cell), Stand p l e { frames := 0, locals := 0, cells := 0, slots := 0 } s m #[.ref b, .int (Int32.ofNat o), .ref d, .int (Int32.ofNat q), .int (Int32.ofNat len)] below meth c Tl ([] ++ copyLocs d q i) 0 0 → Put d Bk s₁ Tl → Laid B Bk q (q + i) (fun j => Value.int (lo8 (cv A (o + (j - q))))) →
      Steps p.tables e below (s₁.setTop (entryFrame m #[.ref b, .int (Int32.ofNat o), .ref d, .int (Int32.ofNat q), .int (Int32.ofNat len)] 7)) (Tl.setTop (mkF m 3 #[.val (.ref b), .val (.int (Int32.ofNat (o + i))), .val (.ref d), .val (.int (Int32.ofNat (q + i))), .val (.int (Int32.ofNat len)), .val (.int (Int32.ofNat i)), z] [])) → ∃ (T' : State) (B' : Cell) (z' : Slot), Stand p l e { frames := 0, locals := 0, cells := 0, slots := 0 } s m #[.ref b, .int (Int32.ofNat o), .ref d, .int (Int32.ofNat q), .int (Int32.ofNat len)] below meth c T' ([] ++ copyLocs d q len) 0 0 ∧ Put d B' s₁ T' ∧ Laid B B' q (q + len) (fun j => Value.int (lo8 (cv A (o + (j - q))))) ∧
      Steps p.tables e below (s₁.setTop (entryFrame m #[.ref b, .int (Int32.ofNat o), .ref d, .int (Int32.ofNat q), .int (Int32.ofNat len)] 7)) (T'.setTop (mkF m 3 #[.val (.ref b), .val (.int (Int32.ofNat (o + len))), .val (.ref d), .val (.int (Int32.ofNat (q + len))), .val (.int (Int32.ofNat len)), .val (.int (Int32.ofNat len)), z'] [])) := by
    intro r
    induction r with
    | zero =>
      intro i hi z hz Tl Bk Xl pl fl cl
      have hil : i = len := by omega
      rw [hil] at Xl fl cl
      exact ⟨Tl, Bk, z, Xl, pl, fl, cl⟩
    | succ r ih =>
      intro i hi z hz Tl Bk Xl pl fl cl
      have all := X0.warmed.alike.symm.trans Xl.warmed.alike
      have hAl := hA0.keep all (pl.other hne hA0.1)
      have hBk := hB0.like all pl.1 fl.1 fl.2.1 fl.2.2.1
      have hlt : q + i < Bk.slots.size := by rw [fl.2.2.1]; omega
      have c3 : Steps p.tables e below (s₁.setTop (entryFrame m #[.ref b, .int (Int32.ofNat o), .ref d, .int (Int32.ofNat q), .int (Int32.ofNat len)] 7)) (Tl.setTop (mkF m 12 #[.val (.ref b), .val (.int (Int32.ofNat (o + i))), .val (.ref d), .val (.int (Int32.ofNat (q + i))), .val (.int (Int32.ofNat len)), .val (.int (Int32.ofNat i)), z] [.int (Int32.ofNat (o + i)), .ref b])) := cl.trans (by
        refine XS.iload Xl.here hexec rfl (hb hbytes d3) rfl ?_
        refine XS.iload Xl.here hexec rfl (hb hbytes d5) rfl ?_
        refine XS.icmpNo Xl.here hexec rfl (hb hbytes d7) rfl (ii_ge_f (lt32 (by omega) (by omega))) ?_
        refine XS.aloadN Xl.here hexec rfl (hb hbytes d10) rfl rfl ?_
        refine XS.iloadN Xl.here hexec rfl (hb hbytes d11) rfl ?_
        exact Steps.refl _)
      have c4 : Steps p.tables e below (s₁.setTop (entryFrame m #[.ref b, .int (Int32.ofNat o), .ref d, .int (Int32.ofNat q), .int (Int32.ofNat len)] 7)) (Tl.setTop (mkF m 13 #[.val (.ref b), .val (.int (Int32.ofNat (o + i))), .val (.ref d), .val (.int (Int32.ofNat (q + i))), .val (.int (Int32.ofNat len)), .val (.int (Int32.ofNat i)), z] [.int (cv A (o + i))])) := c3.trans (by
        refine Xl.aget hexec hAl rfl (hA.get (i := o + i) (by omega)) rfl rfl (hb hbytes d12) ?_
        exact Steps.refl _)
      have c5 : Steps p.tables e below (s₁.setTop (entryFrame m #[.ref b, .int (Int32.ofNat o), .ref d, .int (Int32.ofNat q), .int (Int32.ofNat len)] 7)) (Tl.setTop (mkF m 15 #[.val (.ref b), .val (.int (Int32.ofNat (o + i))), .val (.ref d), .val (.int (Int32.ofNat (q + i))), .val (.int (Int32.ofNat len)), .val (.int (Int32.ofNat i)), .val (.int (cv A (o + i)))] [])) := c4.trans (by
        refine XS.istoreS Xl.here hexec rfl (hb hbytes d13) rfl rfl hz ?_
        exact Steps.refl _)
      have c6 : Steps p.tables e below (s₁.setTop (entryFrame m #[.ref b, .int (Int32.ofNat o), .ref d, .int (Int32.ofNat q), .int (Int32.ofNat len)] 7)) (Tl.setTop (mkF m 31 #[.val (.ref b), .val (.int (Int32.ofNat (o + i))), .val (.ref d), .val (.int (Int32.ofNat (q + i))), .val (.int (Int32.ofNat len)), .val (.int (Int32.ofNat i)), .val (.int (cv A (o + i)))] [.int (lo8 (cv A (o + i))), .int (Int32.ofNat (q + i)), .ref d])) := c5.trans (by
        refine XS.iload Xl.here hexec rfl (hb hbytes d15) rfl ?_
        refine sipushV Xl.here hexec rfl 255 (hb hbytes d17) (by decide) ?_
        refine XS.icmpYes Xl.here hexec rfl (pc0 := 20) rfl (hb hbytes d20) rfl (ii_le_t (hp i (by omega))) (by decide) rfl ?_
        refine XS.aloadN Xl.here hexec rfl (hb hbytes d26) rfl rfl ?_
        refine XS.iloadN Xl.here hexec rfl (hb hbytes d27) rfl ?_
        refine XS.iload Xl.here hexec rfl (hb hbytes d28) rfl ?_
        refine i2b Xl.here hexec rfl (hb hbytes d30) rfl ?_
        exact Steps.refl _)
      obtain ⟨T7, X7, p7, st7⟩ := Xl.aput hexec hBk rfl hlt rfl (fits_lo8 (cv A (o + i))) (g := (mkF m 31 #[.val (.ref b), .val (.int (Int32.ofNat (o + i))), .val (.ref d), .val (.int (Int32.ofNat (q + i))), .val (.int (Int32.ofNat len)), .val (.int (Int32.ofNat i)), .val (.int (cv A (o + i)))] [.int (lo8 (cv A (o + i))), .int (Int32.ofNat (q + i)), .ref d])) rfl (rest := []) rfl (hb hbytes d31)
      have c8 : Steps p.tables e below (s₁.setTop (entryFrame m #[.ref b, .int (Int32.ofNat o), .ref d, .int (Int32.ofNat q), .int (Int32.ofNat len)] 7)) (T7.setTop (mkF m 32 #[.val (.ref b), .val (.int (Int32.ofNat (o + i))), .val (.ref d), .val (.int (Int32.ofNat (q + i))), .val (.int (Int32.ofNat len)), .val (.int (Int32.ofNat i)), .val (.int (cv A (o + i)))] [])) := c6.trans (st7 _ (Steps.refl _))
      have c9 : Steps p.tables e below (s₁.setTop (entryFrame m #[.ref b, .int (Int32.ofNat o), .ref d, .int (Int32.ofNat q), .int (Int32.ofNat len)] 7)) (T7.setTop (mkF m 3 #[.val (.ref b), .val (.int (Int32.ofNat (o + i) + 1)), .val (.ref d), .val (.int (Int32.ofNat (q + i) + 1)), .val (.int (Int32.ofNat len)), .val (.int (Int32.ofNat i + 1)), .val (.int (cv A (o + i)))] [])) := c8.trans (by
        refine iincV X7.here hexec rfl 1 (hb hbytes d32) (by decide) rfl rfl ?_
        refine iincV X7.here hexec rfl 1 (hb hbytes d35) (by decide) rfl rfl ?_
        refine iincV X7.here hexec rfl 1 (hb hbytes d38) (by decide) rfl rfl ?_
        refine XS.goto X7.here hexec rfl (pc0 := 41) rfl (hb hbytes d41) (by decide) rfl ?_
        exact Steps.refl _)
      have c10 : Steps p.tables e below (s₁.setTop (entryFrame m #[.ref b, .int (Int32.ofNat o), .ref d, .int (Int32.ofNat q), .int (Int32.ofNat len)] 7)) (T7.setTop (mkF m 3 #[.val (.ref b), .val (.int (Int32.ofNat (o + (i + 1)))), .val (.ref d), .val (.int (Int32.ofNat (q + (i + 1)))), .val (.int (Int32.ofNat len)), .val (.int (Int32.ofNat (i + 1))), .val (.int (cv A (o + i)))] [])) := by
        have := c9
        rw [succ32, succ32, succ32] at this
        exact this
      exact ih (i + 1) (by omega) _ (Or.inr ⟨_, rfl, rfl⟩) T7 _ (by rw [copyLocs_step, ← List.append_assoc]; exact X7) (pl.trans p7) (fl.step (by omega) hlt (by simp)) c10
  obtain ⟨T9, B9, z9, X9, p9, f9, g9⟩ := loop len 0 (by omega) .unset (Or.inl rfl) s₁ B (by simpa [copyLocs] using X0) ⟨hB0.1, fun _ _ => rfl, rfl⟩ (Laid.zero _ _ _) c2
  have c11 : Steps p.tables e below (s₁.setTop (entryFrame m #[.ref b, .int (Int32.ofNat o), .ref d, .int (Int32.ofNat q), .int (Int32.ofNat len)] 7)) (T9.setTop (mkF m 46 #[.val (.ref b), .val (.int (Int32.ofNat (o + len))), .val (.ref d), .val (.int (Int32.ofNat (q + len))), .val (.int (Int32.ofNat len)), .val (.int (Int32.ofNat len)), z9] [.int (Int32.ofNat len)])) := g9.trans (by
    refine XS.iload X9.here hexec rfl (hb hbytes d3) rfl ?_
    refine XS.iload X9.here hexec rfl (hb hbytes d5) rfl ?_
    refine XS.icmpYes X9.here hexec rfl (pc0 := 7) rfl (hb hbytes d7) rfl (ii_ge_t (nlt32 (by omega) (Nat.le_refl _))) (by decide) rfl ?_
    refine XS.iload X9.here hexec rfl (hb hbytes d44) rfl ?_
    exact Steps.refl _)
  exact ⟨T9, some (.int (Int32.ofNat len)), _, _, _, X9, by simp, rfl, rfl, (fun h => by cases h), ⟨rfl, B9, p9.from hh0, f9⟩, fun fs hl => c11.trans (X9.ireturnOut hexec hret rfl (Or.inl rfl) (hb hbytes d46) hl)⟩
end Cmp5
namespace Cmp3
def yN : MethodName := ⟨"java/lang/StringUTF16", "compress", "([CII)[B"⟩
abbrev yB : ByteArray := jdk_52_method_16_code
theorem d0 : decode yB 0 = .ok (.iload_n 2, 1) := by decide +kernel
theorem d1 : decode yB 1 = .ok (.newarray .byte, 2) := by decide +kernel
theorem d3 : decode yB 3 = .ok (.astore_n 3, 1) := by decide +kernel
theorem d4 : decode yB 4 = .ok (.aload_n 0, 1) := by decide +kernel
theorem d5 : decode yB 5 = .ok (.iload_n 1, 1) := by decide +kernel
theorem d6 : decode yB 6 = .ok (.aload_n 3, 1) := by decide +kernel
theorem d7 : decode yB 7 = .ok (.iconst 0, 1) := by decide +kernel
theorem d8 : decode yB 8 = .ok (.iload_n 2, 1) := by decide +kernel
theorem d9 : decode yB 9 = .ok (.invokestatic 115, 3) := by decide +kernel
theorem d12 : decode yB 12 = .ok (.istore 4, 2) := by decide +kernel
theorem d14 : decode yB 14 = .ok (.iload 4, 2) := by decide +kernel
theorem d16 : decode yB 16 = .ok (.iload_n 2, 1) := by decide +kernel
theorem d17 : decode yB 17 = .ok (.if_icmp (.eq) 40, 3) := by decide +kernel
theorem d57 : decode yB 57 = .ok (.aload_n 3, 1) := by decide +kernel
theorem d58 : decode yB 58 = .ok (.areturn, 1) := by decide +kernel
def site : List Cond := [.arrayClass .byte, Cmp5.tab] ++ staticW U16 115 Cmp5.yN
def tab : Cond := tabOf yN yB 6 (some (.array .byte)) site
def P (b : Addr) (A : Cell) (o len : Nat) (args : Array Value) (s : State) : Prop := args = #[.ref b, .int (Int32.ofNat o), .int (Int32.ofNat len)] ∧ Ch b A s ∧ o + len ≤ A.slots.size ∧ len ≤ 536870912 ∧ ∀ i, i < len → ¬ 255 < cv A (o + i)
def E (b : Addr) (A : Cell) (o len : Nat) (r : Option Value) (s u : State) : Prop := NewArr .byte "[B" len (fun j => .int (lo8 (cv A (o + j)))) r s u ∧ u.heap.size = s.heap.size + 1
/-- no char of the range above 255: a new byte[] of their low bytes -/
theorem law (l : Launch) (b : Addr) (A : Cell) (o len : Nat) : Law l yN 3 3 1 18 yB 6 (some (.array .byte)) site (P b A o len) (E b A o len) [] 1 len := by
  refine Law.of_walk (plainFor_of_name (by decide +kernel)) (by decide +kernel) (by decide +kernel) (by decide) (fun _ _ h => by rw [h.1]; rfl) (fun _ U U' hal hh h => ⟨h.1, h.2.1.mv hal hh, h.2.2⟩) (fun r U U' V V' h1 hal h2 h => ⟨NewArr.mv r U U' V V' h1 hal h2 h.1, by rw [h1, h2]; exact h.2⟩) ?_
  intro p e s m args below meth c s₁ X0 hexec hbytes hml hret hlk hnm hown hh0 W hP
  obtain ⟨rfl, hA, l1, l2, hp⟩ := hP
  have a31 := hA.1.2.2.2
  have c1 : Steps p.tables e below (s₁.setTop (entryFrame m #[.ref b, .int (Int32.ofNat o), .int (Int32.ofNat len)] 6)) (s₁.setTop (mkF m 0 #[.val (.ref b), .val (.int (Int32.ofNat o)), .val (.int (Int32.ofNat len)), .unset, .unset, .unset] [])) := entry rfl
  have c2 : Steps p.tables e below (s₁.setTop (entryFrame m #[.ref b, .int (Int32.ofNat o), .int (Int32.ofNat len)] 6)) (s₁.setTop (mkF m 1 #[.val (.ref b), .val (.int (Int32.ofNat o)), .val (.int (Int32.ofNat len)), .unset, .unset, .unset] [.int (Int32.ofNat len)])) := c1.trans (by
    refine XS.iloadN X0.here hexec rfl (hb hbytes d0) rfl ?_
    exact Steps.refl _)
  obtain ⟨T3, B3, X3, ba3, bs3, bv3, bh3, bf3, st3⟩ := X0.anew hexec (atype := .byte) (wk W (.arrayClass .byte)) rfl (by show len * 1 ≤ _; omega) (by omega) (g := (mkF m 1 #[.val (.ref b), .val (.int (Int32.ofNat o)), .val (.int (Int32.ofNat len)), .unset, .unset, .unset] [.int (Int32.ofNat len)])) rfl (hb hbytes d1) (rest := []) rfl (Nat.le_refl _) (by show 0 + len ≤ len; omega)
  rw [hh0] at ba3 st3
  have kp3 : XT.Kept s T3 := (XT.Kept.of_eq hh0).push bh3
  have hA3 := hA.keep X3.warmed.alike (kp3 _ _ hA.1.1)
  have hne : b ≠ s.heap.size := hA.1.ne
  have c4 : Steps p.tables e below (s₁.setTop (entryFrame m #[.ref b, .int (Int32.ofNat o), .int (Int32.ofNat len)] 6)) (T3.setTop (mkF m 3 #[.val (.ref b), .val (.int (Int32.ofNat o)), .val (.int (Int32.ofNat len)), .unset, .unset, .unset] [.ref s.heap.size])) := c2.trans (st3 _ (Steps.refl _))
  have c5 : Steps p.tables e below (s₁.setTop (entryFrame m #[.ref b, .int (Int32.ofNat o), .int (Int32.ofNat len)] 6)) (T3.setTop (mkF m 9 #[.val (.ref b), .val (.int (Int32.ofNat o)), .val (.int (Int32.ofNat len)), .val (.ref s.heap.size), .unset, .unset] [.int (Int32.ofNat len), .int 0, .ref s.heap.size, .int (Int32.ofNat o), .ref b])) := c4.trans (by
    refine XS.astoreN X3.here hexec rfl (hb hbytes d3) rfl rfl rfl ?_
    refine XS.aloadN X3.here hexec rfl (hb hbytes d4) rfl rfl ?_
    refine XS.iloadN X3.here hexec rfl (hb hbytes d5) rfl ?_
    refine XS.aloadN X3.here hexec rfl (hb hbytes d6) rfl rfl ?_
    refine iconstV X3.here hexec rfl 0 (hb hbytes d7) (by decide) ?_
    refine XS.iloadN X3.here hexec rfl (hb hbytes d8) rfl ?_
    exact Steps.refl _)
  obtain ⟨v6, T6, X6, E6, g6⟩ := X3.callS hexec (Cmp5.law l b A s.heap.size B3 o 0 len) hown (wks W (staticW U16 115 Cmp5.yN)) (wk W Cmp5.tab) (W := 0) (Nat.le_of_ble_eq_true rfl) (Nat.le_of_ble_eq_true rfl) (Nat.le_refl _) (by show 0 + len + 0 ≤ len; omega) (g := (mkF m 9 #[.val (.ref b), .val (.int (Int32.ofNat o)), .val (.int (Int32.ofNat len)), .val (.ref s.heap.size), .unset, .unset] [.int (Int32.ofNat len), .int (Int32.ofNat 0), .ref s.heap.size, .int (Int32.ofNat o), .ref b])) rfl (by rw [hml]; rfl) c5 (argsL := [.ref b, .int (Int32.ofNat o), .ref s.heap.size, .int (Int32.ofNat 0), .int (Int32.ofNat len)]) (rest := []) rfl rfl (by show 2 * 0 + 0 ≤ _; decide) (hb hbytes d9) (⟨rfl, hA3, ba3, hne, l1, by rw [bs3]; simp, hp⟩)
  obtain ⟨rfl, B6, p6, f6⟩ := E6
  have c7 : Steps p.tables e below (s₁.setTop (entryFrame m #[.ref b, .int (Int32.ofNat o), .int (Int32.ofNat len)] 6)) (T6.setTop (mkF m 12 #[.val (.ref b), .val (.int (Int32.ofNat o)), .val (.int (Int32.ofNat len)), .val (.ref s.heap.size), .unset, .unset] [.int (Int32.ofNat len)])) := g6
  have c8 : Steps p.tables e below (s₁.setTop (entryFrame m #[.ref b, .int (Int32.ofNat o), .int (Int32.ofNat len)] 6)) (T6.setTop (mkF m 58 #[.val (.ref b), .val (.int (Int32.ofNat o)), .val (.int (Int32.ofNat len)), .val (.ref s.heap.size), .val (.int (Int32.ofNat len)), .unset] [.ref s.heap.size])) := c7.trans (by
    refine XS.istore X6.here hexec rfl (hb hbytes d12) rfl rfl ?_
    refine XS.iload X6.here hexec rfl (hb hbytes d14) rfl ?_
    refine XS.iloadN X6.here hexec rfl (hb hbytes d16) rfl ?_
    refine XS.icmpYes X6.here hexec rfl (pc0 := 17) rfl (hb hbytes d17) rfl (ii_eq_t rfl) (by decide) rfl ?_
    refine XS.aloadN X6.here hexec rfl (hb hbytes d57) rfl rfl ?_
    exact Steps.refl _)
  have X8 := X6.wide (L' := []) (cells' := 1) (slots' := len) (fun x hx hlt => by
    simp only [List.nil_append, copyLocs, List.mem_map, List.mem_range] at hx
    obtain ⟨i, -, rfl⟩ := hx
    exact absurd hlt (Nat.lt_irrefl _)) (Nat.le_refl _) (by omega)
  exact ⟨T6, some (.ref s.heap.size), _, _, _, X8, rfl, rfl, rfl, (fun h => by cases h), ⟨⟨rfl, B6, ba3.like (X3.warmed.alike.symm.trans X6.warmed.alike) p6.1 f6.1 f6.2.1 f6.2.2.1, f6.2.1.trans bv3, by rw [X6.warmed.alike.findClass, f6.1]; exact bf3, by rw [f6.2.2.1, bs3]; simp, fun j hj => by rw [f6.2.2.2 j, if_pos (by omega)]; rfl, kp3.put p6 (Nat.le_refl _)⟩, by rw [p6.2.2, bh3, hh0]; simp⟩, fun fs hl => c8.trans (X8.areturnOut hexec rfl hret rfl (hb hbytes d58) hl)⟩
end Cmp3
namespace CodL
def yN : MethodName := ⟨"java/lang/StringUTF16", "coderFromArrayLen", "([BI)B"⟩
abbrev yB : ByteArray := jdk_52_method_15_code
theorem d0 : decode yB 0 = .ok (.iload_n 1, 1) := by decide +kernel
theorem d1 : decode yB 1 = .ok (.aload_n 0, 1) := by decide +kernel
theorem d2 : decode yB 2 = .ok (.arraylength, 1) := by decide +kernel
theorem d3 : decode yB 3 = .ok (.isub, 1) := by decide +kernel
theorem d4 : decode yB 4 = .ok (.bipush 31, 2) := by decide +kernel
theorem d6 : decode yB 6 = .ok (.iushr, 1) := by decide +kernel
theorem d7 : decode yB 7 = .ok (.i2b, 1) := by decide +kernel
theorem d8 : decode yB 8 = .ok (.ireturn, 1) := by decide +kernel
def site : List Cond := []
def tab : Cond := tabOf yN yB 2 (some .byte) site
def P (d : Addr) (B : Cell) (args : Array Value) (s : State) : Prop := args = #[.ref d, .int (Int32.ofNat B.slots.size)] ∧ Arr .byte d B s
def E (r : Option Value) (s u : State) : Prop := XT.PureE (some (.int 0)) r s u
/-- an array as long as the number of chars: LATIN1 -/
theorem law (l : Launch) (d : Addr) (B : Cell) : Law l yN 2 2 0 0 yB 2 (some .byte) site (P d B) E [] 0 0 := by
  refine Law.of_walk (plainFor_of_name (by decide +kernel)) (by decide +kernel) (by decide +kernel) (by decide) (fun _ _ h => by rw [h.1]; rfl) (fun _ U U' hal hh h => ⟨h.1, h.2.mv hal hh⟩) (fun r U U' V V' h1 hal h2 h => XT.PureE.mv r U U' V V' h1 hal h2 h) ?_
  intro p e s m args below meth c s₁ X0 hexec hbytes hml hret hlk hnm hown hh0 W hP
  obtain ⟨rfl, hB⟩ := hP
  have hB0 := hB.mv X0.warmed.alike hh0
  have c1 : Steps p.tables e below (s₁.setTop (entryFrame m #[.ref d, .int (Int32.ofNat B.slots.size)] 2)) (s₁.setTop (mkF m 0 #[.val (.ref d), .val (.int (Int32.ofNat B.slots.size))] [])) := entry rfl
  have c2 : Steps p.tables e below (s₁.setTop (entryFrame m #[.ref d, .int (Int32.ofNat B.slots.size)] 2)) (s₁.setTop (mkF m 2 #[.val (.ref d), .val (.int (Int32.ofNat B.slots.size))] [.ref d, .int (Int32.ofNat B.slots.size)])) := c1.trans (by
    refine XS.iloadN X0.here hexec rfl (hb hbytes d0) rfl ?_
    refine XS.aloadN X0.here hexec rfl (hb hbytes d1) rfl rfl ?_
    exact Steps.refl _)
  have c3 : Steps p.tables e below (s₁.setTop (entryFrame m #[.ref d, .int (Int32.ofNat B.slots.size)] 2)) (s₁.setTop (mkF m 8 #[.val (.ref d), .val (.int (Int32.ofNat B.slots.size))] [.int (lo8 (ushr (Int32.ofNat B.slots.size - Int32.ofNat B.slots.size) 31))])) := c2.trans (by
    refine X0.alen hexec hB0 rfl rfl (hb hbytes d2) ?_
    refine XS.isub X0.here hexec rfl (hb hbytes d3) rfl ?_
    refine bipushV X0.here hexec rfl 31 (hb hbytes d4) (by decide) ?_
    refine iushr X0.here hexec rfl (hb hbytes d6) rfl ?_
    refine i2b X0.here hexec rfl (hb hbytes d7) rfl ?_
    exact Steps.refl _)
  have e0 : lo8 (ushr (Int32.ofNat B.slots.size - Int32.ofNat B.slots.size) 31) = 0 := by rw [Int32.sub_self]; decide
  rw [e0] at c3
  exact ⟨s₁, some (.int 0), _, _, _, X0, rfl, rfl, rfl, (fun h => by cases h), ⟨rfl, hh0⟩, fun fs hl => c3.trans (X0.ireturnOut hexec hret rfl (Or.inr (Or.inr (Or.inl rfl))) (hb hbytes d8) hl)⟩
end CodL
/-- the String at a is Latin-1 over a new byte[] (the heap's one new cell): the low bytes of the len chars of A from o on; every cell but a is kept -/
def Got (a : Addr) (D : Cell) (fV fC : Field) (A : Cell) (o len : Nat) (r : Option Value) (s u : State) : Prop := r = none ∧ ∃ D' V : Cell, Blank "java/lang/String" a D' u ∧ Same D D' [fV.slot, fC.slot] ∧ D'.slots[fV.slot]? = some (.ref s.heap.size) ∧ D'.slots[fC.slot]? = some (.int 0) ∧ Arr .byte s.heap.size V u ∧ V.vm = .none ∧ u.vm.findClass "[B" = some V.cls ∧ V.slots.size = len ∧ (∀ j, j < len → V.slots[j]? = some (.int (lo8 (cv A (o + j))))) ∧ (∀ (y : Addr) (c : Cell), y ≠ a → s.heap[y]? = some c → u.heap[y]? = some c) ∧ u.heap.size = s.heap.size + 1
theorem Got.mv {a : Addr} {D A : Cell} {fV fC : Field} {o len : Nat} : ∀ r (U U' V V' : State), U'.heap = U.heap → V.vm.Alike V'.vm → V'.heap = V.heap → Got a D fV fC A o len r U V → Got a D fV fC A o len r U' V' :=
  fun r U U' V V' h1 hal h2 ⟨e0, D', X, a1, a2, a3, a4, a5, a6, a7, a8, a9, a10, a11⟩ => ⟨e0, D', X, a1.mv hal h2, a2, by rw [h1]; exact a3, a4, by rw [h1]; exact a5.mv hal h2, a6, by rw [hal.findClass]; exact a7, a8, a9, by rw [h1, h2]; exact a10, by rw [h1, h2]; exact a11⟩
namespace New4
def yN : MethodName := ⟨"java/lang/String", "<init>", "([CIILjava/lang/Void;)V"⟩
abbrev yB : ByteArray := jdk_42_method_149_code
theorem d0 : decode yB 0 = .ok (.aload_n 0, 1) := by decide +kernel
theorem d1 : decode yB 1 = .ok (.invokespecial 1, 3) := by decide +kernel
theorem d4 : decode yB 4 = .ok (.iload_n 3, 1) := by decide +kernel
theorem d5 : decode yB 5 = .ok (.ifCond (.ne) 22, 3) := by decide +kernel
theorem d27 : decode yB 27 = .ok (.getstatic 38, 3) := by decide +kernel
theorem d30 : decode yB 30 = .ok (.ifCond (.eq) 28, 3) := by decide +kernel
theorem d33 : decode yB 33 = .ok (.aload_n 1, 1) := by decide +kernel
theorem d34 : decode yB 34 = .ok (.iload_n 2, 1) := by decide +kernel
theorem d35 : decode yB 35 = .ok (.iload_n 3, 1) := by decide +kernel
theorem d36 : decode yB 36 = .ok (.invokestatic 177, 3) := by decide +kernel
theorem d39 : decode yB 39 = .ok (.astore 5, 2) := by decide +kernel
theorem d41 : decode yB 41 = .ok (.aload_n 0, 1) := by decide +kernel
theorem d42 : decode yB 42 = .ok (.aload 5, 2) := by decide +kernel
theorem d44 : decode yB 44 = .ok (.iload_n 3, 1) := by decide +kernel
theorem d45 : decode yB 45 = .ok (.invokestatic 47, 3) := by decide +kernel
theorem d48 : decode yB 48 = .ok (.putfield 15, 3) := by decide +kernel
theorem d51 : decode yB 51 = .ok (.aload_n 0, 1) := by decide +kernel
theorem d52 : decode yB 52 = .ok (.aload 5, 2) := by decide +kernel
theorem d54 : decode yB 54 = .ok (.putfield 9, 3) := by decide +kernel
theorem d57 : decode yB 57 = .ok (.return_, 1) := by decide +kernel
def site : List Cond := [.fieldLink "java/lang/String" 38 "java/lang/String" "COMPACT_STRINGS" "Z", Cmp3.tab, CodL.tab, .laysFinal "java/lang/String" "java/lang/String" "value" "[B", .fieldLink "java/lang/String" 9 "java/lang/String" "value" "[B", .laysFinal "java/lang/String" "java/lang/String" "coder" "B", .fieldLink "java/lang/String" 15 "java/lang/String" "coder" "B"] ++ objW "java/lang/String" 1 ++ staticW "java/lang/String" 177 Cmp3.yN ++ staticW "java/lang/String" 47 CodL.yN
def tab : Cond := tabOf yN yB 6 none site
def P (a : Addr) (D : Cell) (fV fC : Field) (b : Addr) (A : Cell) (z : Int32) (o len : Nat) (args : Array Value) (s : State) : Prop := args = #[.ref a, .ref b, .int (Int32.ofNat o), .int (Int32.ofNat len), .null] ∧ Blank "java/lang/String" a D s ∧ Found "java/lang/String" "value" "[B" fV s ∧ Found "java/lang/String" "coder" "B" fC s ∧ Ch b A s ∧ StaticIs s "java/lang/String" "COMPACT_STRINGS" "Z" (.int z) ∧ ¬ z = 0 ∧ 0 < len ∧ o + len ≤ A.slots.size ∧ len ≤ 536870912 ∧ ∀ i, i < len → ¬ 255 < cv A (o + i)
def E (a : Addr) (D : Cell) (fV fC : Field) (A : Cell) (o len : Nat) (r : Option Value) (s u : State) : Prop := Got a D fV fC A o len r s u
/-- len > 0, no char of the range above 255: a Latin-1 String of their low bytes -/
theorem law (l : Launch) (a : Addr) (D : Cell) (fV fC : Field) (b : Addr) (A : Cell) (z : Int32) (o len : Nat) : Law l yN 5 4 2 35 yB 6 none site (P a D fV fC b A z o len) (E a D fV fC A o len) [⟨a, fC.slot⟩, ⟨a, fV.slot⟩] 1 len := by
  refine Law.of_walk (plainFor_of_name (by decide +kernel)) (by decide +kernel) (by decide +kernel) (by decide) (fun _ _ h => by rw [h.1]; rfl) (fun _ U U' hal hh h => ⟨h.1, h.2.1.mv hal hh, h.2.2.1.al hal, h.2.2.2.1.al hal, h.2.2.2.2.1.mv hal hh, h.2.2.2.2.2.1.there hal hh, h.2.2.2.2.2.2⟩) (fun r U U' V V' h1 hal h2 h => Got.mv r U U' V V' h1 hal h2 h) ?_
  intro p e s m args below meth c s₁ X0 hexec hbytes hml hret hlk hnm hown hh0 W hP
  obtain ⟨rfl, hB, f1, f2, hA, s1, hz, l0, l1, l2, hp⟩ := hP
  have a31 := hA.1.2.2.2
  have c1 : Steps p.tables e below (s₁.setTop (entryFrame m #[.ref a, .ref b, .int (Int32.ofNat o), .int (Int32.ofNat len), .null] 6)) (s₁.setTop (mkF m 0 #[.val (.ref a), .val (.ref b), .val (.int (Int32.ofNat o)), .val (.int (Int32.ofNat len)), .val .null, .unset] [])) := entry rfl
  have c2 : Steps p.tables e below (s₁.setTop (entryFrame m #[.ref a, .ref b, .int (Int32.ofNat o), .int (Int32.ofNat len), .null] 6)) (s₁.setTop (mkF m 1 #[.val (.ref a), .val (.ref b), .val (.int (Int32.ofNat o)), .val (.int (Int32.ofNat len)), .val .null, .unset] [.ref a])) := c1.trans (by
    refine XS.aloadN X0.here hexec rfl (hb hbytes d0) rfl rfl ?_
    exact Steps.refl _)
  obtain ⟨T3, X3, q3, st3⟩ := X0.oinit hexec hown (wks W (objW "java/lang/String" 1)) (g := (mkF m 1 #[.val (.ref a), .val (.ref b), .val (.int (Int32.ofNat o)), .val (.int (Int32.ofNat len)), .val .null, .unset] [.ref a])) rfl (by rw [hml]; rfl) (rest := []) rfl (hb hbytes d1) (W := 0) (by show 2 * 0 + 0 ≤ _; decide) (Nat.le_of_ble_eq_true rfl) (Nat.le_of_ble_eq_true rfl)
  have hh3 := q3.trans hh0
  have c4 : Steps p.tables e below (s₁.setTop (entryFrame m #[.ref a, .ref b, .int (Int32.ofNat o), .int (Int32.ofNat len), .null] 6)) (T3.setTop (mkF m 27 #[.val (.ref a), .val (.ref b), .val (.int (Int32.ofNat o)), .val (.int (Int32.ofNat len)), .val .null, .unset] [])) := (c2.trans (st3 _ (Steps.refl _))).trans (by
    refine XS.iloadN X3.here hexec rfl (hb hbytes d4) rfl ?_
    refine XS.ifYes X3.here hexec rfl (pc0 := 5) rfl (hb hbytes d5) rfl (i0_ne_t (nz32 (by omega) l0)) (by decide) rfl ?_
    exact Steps.refl _)
  obtain ⟨T5, X5, q5, st5⟩ := X3.sget hexec hown (wk W (.fieldLink "java/lang/String" 38 "java/lang/String" "COMPACT_STRINGS" "Z")) s1 (fun _ _ h => by rw [hh3]; exact h) (g := (mkF m 27 #[.val (.ref a), .val (.ref b), .val (.int (Int32.ofNat o)), .val (.int (Int32.ofNat len)), .val .null, .unset] [])) rfl (hb hbytes d27)
  have hh5 := q5.trans hh3
  have c6 : Steps p.tables e below (s₁.setTop (entryFrame m #[.ref a, .ref b, .int (Int32.ofNat o), .int (Int32.ofNat len), .null] 6)) (T5.setTop (mkF m 30 #[.val (.ref a), .val (.ref b), .val (.int (Int32.ofNat o)), .val (.int (Int32.ofNat len)), .val .null, .unset] [.int z])) := c4.trans (st5 _ (Steps.refl _))
  have c7 : Steps p.tables e below (s₁.setTop (entryFrame m #[.ref a, .ref b, .int (Int32.ofNat o), .int (Int32.ofNat len), .null] 6)) (T5.setTop (mkF m 36 #[.val (.ref a), .val (.ref b), .val (.int (Int32.ofNat o)), .val (.int (Int32.ofNat len)), .val .null, .unset] [.int (Int32.ofNat len), .int (Int32.ofNat o), .ref b])) := c6.trans (by
    refine XS.ifNo X5.here hexec rfl (hb hbytes d30) rfl (i0_eq_f hz) ?_
    refine XS.aloadN X5.here hexec rfl (hb hbytes d33) rfl rfl ?_
    refine XS.iloadN X5.here hexec rfl (hb hbytes d34) rfl ?_
    refine XS.iloadN X5.here hexec rfl (hb hbytes d35) rfl ?_
    exact Steps.refl _)
  obtain ⟨v8, T8, X8, E8, g8⟩ := X5.callS hexec (Cmp3.law l b A o len) hown (wks W (staticW "java/lang/String" 177 Cmp3.yN)) (wk W Cmp3.tab) (W := 0) (Nat.le_of_ble_eq_true rfl) (Nat.le_of_ble_eq_true rfl) (Nat.le_refl _) (by show 0 + len ≤ len; omega) (g := (mkF m 36 #[.val (.ref a), .val (.ref b), .val (.int (Int32.ofNat o)), .val (.int (Int32.ofNat len)), .val .null, .unset] [.int (Int32.ofNat len), .int (Int32.ofNat o), .ref b])) rfl (by rw [hml]; rfl) c7 (argsL := [.ref b, .int (Int32.ofNat o), .int (Int32.ofNat len)]) (rest := []) rfl rfl (by show 2 * 0 + 0 ≤ _; decide) (hb hbytes d36) (⟨rfl, hA.mv X5.warmed.alike hh5, l1, l2, hp⟩)
  obtain ⟨e8, z8⟩ := E8
  obtain ⟨rfl, N, n1, n2, n3, n4, n5, n6⟩ := NewArr.mv _ T5 s _ _ hh5.symm (Vm.Alike.refl _) rfl e8
  rw [hh5] at z8
  have hB1 := hB.keep X8.warmed.alike (n6 _ _ hB.1)
  have hne : s.heap.size ≠ a := (Nat.ne_of_lt (Array.getElem?_eq_some_iff.mp hB.1).1).symm
  have c9 : Steps p.tables e below (s₁.setTop (entryFrame m #[.ref a, .ref b, .int (Int32.ofNat o), .int (Int32.ofNat len), .null] 6)) (T8.setTop (mkF m 39 #[.val (.ref a), .val (.ref b), .val (.int (Int32.ofNat o)), .val (.int (Int32.ofNat len)), .val .null, .unset] [.ref s.heap.size])) := g8
  have c10 : Steps p.tables e below (s₁.setTop (entryFrame m #[.ref a, .ref b, .int (Int32.ofNat o), .int (Int32.ofNat len), .null] 6)) (T8.setTop (mkF m 45 #[.val (.ref a), .val (.ref b), .val (.int (Int32.ofNat o)), .val (.int (Int32.ofNat len)), .val .null, .val (.ref s.heap.size)] [.int (Int32.ofNat N.slots.size), .ref s.heap.size, .ref a])) := by
    have hc : Steps p.tables e below (s₁.setTop (entryFrame m #[.ref a, .ref b, .int (Int32.ofNat o), .int (Int32.ofNat len), .null] 6)) (T8.setTop (mkF m 45 #[.val (.ref a), .val (.ref b), .val (.int (Int32.ofNat o)), .val (.int (Int32.ofNat len)), .val .null, .val (.ref s.heap.size)] [.int (Int32.ofNat len), .ref s.heap.size, .ref a])) := c9.trans (by
      refine XS.astore X8.here hexec rfl (hb hbytes d39) rfl rfl rfl ?_
      refine XS.aloadN X8.here hexec rfl (hb hbytes d41) rfl rfl ?_
      refine XS.aload X8.here hexec rfl (hb hbytes d42) rfl rfl ?_
      refine XS.iloadN X8.here hexec rfl (hb hbytes d44) rfl ?_
      exact Steps.refl _)
    rw [n4]; exact hc
  obtain ⟨v11, T11, X11, E11, g11⟩ := X8.callS hexec (CodL.law l s.heap.size N) hown (wks W (staticW "java/lang/String" 47 CodL.yN)) (wk W CodL.tab) (W := 1) (Nat.le_of_ble_eq_true rfl) (Nat.le_of_ble_eq_true rfl) (Nat.le_refl _) (by show 0 + len + 0 ≤ len; omega) (g := (mkF m 45 #[.val (.ref a), .val (.ref b), .val (.int (Int32.ofNat o)), .val (.int (Int32.ofNat len)), .val .null, .val (.ref s.heap.size)] [.int (Int32.ofNat N.slots.size), .ref s.heap.size, .ref a])) rfl (by rw [hml]; rfl) c10 (argsL := [.ref s.heap.size, .int (Int32.ofNat N.slots.size)]) (rest := [.ref a]) rfl rfl (by show 2 * 0 + (1 + 0) ≤ _; decide) (hb hbytes d45) (⟨rfl, n1⟩)
  obtain ⟨rfl, q11⟩ := E11
  have hB11 := hB1.mv (X8.warmed.alike.symm.trans X11.warmed.alike) q11
  have c12 : Steps p.tables e below (s₁.setTop (entryFrame m #[.ref a, .ref b, .int (Int32.ofNat o), .int (Int32.ofNat len), .null] 6)) (T11.setTop (mkF m 48 #[.val (.ref a), .val (.ref b), .val (.int (Int32.ofNat o)), .val (.int (Int32.ofNat len)), .val .null, .val (.ref s.heap.size)] [.int 0, .ref a])) := g11
  obtain ⟨T13, X13, p13, bl13, sl13, st13⟩ := X11.finit hexec hown (wk W (.fieldLink "java/lang/String" 15 "java/lang/String" "coder" "B")) (Or.inr ⟨_, (wk W (.laysFinal "java/lang/String" "java/lang/String" "coder" "B"))⟩) (Or.inl ⟨rfl, hnm⟩) f2 (Or.inl rfl) hB11 (t := .byte) (by decide +kernel) rfl (g := (mkF m 48 #[.val (.ref a), .val (.ref b), .val (.int (Int32.ofNat o)), .val (.int (Int32.ofNat len)), .val .null, .val (.ref s.heap.size)] [.int 0, .ref a])) rfl (rest := []) rfl (hb hbytes d48)
  have c14 : Steps p.tables e below (s₁.setTop (entryFrame m #[.ref a, .ref b, .int (Int32.ofNat o), .int (Int32.ofNat len), .null] 6)) (T13.setTop (mkF m 54 #[.val (.ref a), .val (.ref b), .val (.int (Int32.ofNat o)), .val (.int (Int32.ofNat len)), .val .null, .val (.ref s.heap.size)] [.ref s.heap.size, .ref a])) := (c12.trans (st13 _ (Steps.refl _))).trans (by
    refine XS.aloadN X13.here hexec rfl (hb hbytes d51) rfl rfl ?_
    refine XS.aload X13.here hexec rfl (hb hbytes d52) rfl rfl ?_
    exact Steps.refl _)
  obtain ⟨T15, X15, p15, bl15, sl15, st15⟩ := X13.finit hexec hown (wk W (.fieldLink "java/lang/String" 9 "java/lang/String" "value" "[B")) (Or.inr ⟨_, (wk W (.laysFinal "java/lang/String" "java/lang/String" "value" "[B"))⟩) (Or.inl ⟨rfl, hnm⟩) f1 (Or.inl rfl) bl13 (t := (.array .byte)) (by decide +kernel) rfl (g := (mkF m 54 #[.val (.ref a), .val (.ref b), .val (.int (Int32.ofNat o)), .val (.int (Int32.ofNat len)), .val .null, .val (.ref s.heap.size)] [.ref s.heap.size, .ref a])) rfl (rest := []) rfl (hb hbytes d54)
  have c16 : Steps p.tables e below (s₁.setTop (entryFrame m #[.ref a, .ref b, .int (Int32.ofNat o), .int (Int32.ofNat len), .null] 6)) (T15.setTop (mkF m 57 #[.val (.ref a), .val (.ref b), .val (.int (Int32.ofNat o)), .val (.int (Int32.ofNat len)), .val .null, .val (.ref s.heap.size)] [])) := c14.trans (st15 _ (Steps.refl _))
  have ap := apart (Or.inr ⟨_, (wk W (.laysFinal "java/lang/String" "java/lang/String" "value" "[B"))⟩) (Or.inr ⟨_, (wk W (.laysFinal "java/lang/String" "java/lang/String" "coder" "B"))⟩) f1 f2 (t₁ := .array .byte) (t₂ := .byte) (by decide +kernel) (by decide +kernel) (by decide)
  have al := X8.warmed.alike.symm.trans X15.warmed.alike
  have n7 : T11.heap[s.heap.size]? = some N := by rw [q11]; exact n1.1
  exact ⟨T15, none, _, _, _, X15, by simp, rfl, by omega, (fun _ => rfl), ⟨rfl, _, N, bl15, ((Same.refl D _).set _ (by simp)).set _ (by simp), sl15, (Cell.slots_setSlot_ne _ ap).trans sl13, n1.keep al (p15.other hne (p13.other hne n7)), n2, by rw [al.findClass]; exact n3, n4, n5, fun y c h1 h2 => p15.other h1 (p13.other h1 (by rw [q11]; exact n6 y c h2)), by rw [p15.2.2, p13.2.2, q11]; exact z8⟩, fun fs hl => c16.trans (X15.returnOut hexec hret (hb hbytes d57) hl)⟩
end New4
namespace New1
def yN : MethodName := ⟨"java/lang/String", "<init>", "([C)V"⟩
abbrev yB : ByteArray := jdk_42_method_3_code
theorem d0 : decode yB 0 = .ok (.aload_n 0, 1) := by decide +kernel
theorem d1 : decode yB 1 = .ok (.aload_n 1, 1) := by decide +kernel
theorem d2 : decode yB 2 = .ok (.iconst 0, 1) := by decide +kernel
theorem d3 : decode yB 3 = .ok (.aload_n 1, 1) := by decide +kernel
theorem d4 : decode yB 4 = .ok (.arraylength, 1) := by decide +kernel
theorem d5 : decode yB 5 = .ok (.aconst_null, 1) := by decide +kernel
theorem d6 : decode yB 6 = .ok (.invokespecial 27, 3) := by decide +kernel
theorem d9 : decode yB 9 = .ok (.return_, 1) := by decide +kernel
def site : List Cond := [New4.tab] ++ initW "java/lang/String" 27 New4.yN
def tab : Cond := tabOf yN yB 2 none site
def P (a : Addr) (D : Cell) (fV fC : Field) (b : Addr) (A : Cell) (z : Int32) (args : Array Value) (s : State) : Prop := args = #[.ref a, .ref b] ∧ Blank "java/lang/String" a D s ∧ Found "java/lang/String" "value" "[B" fV s ∧ Found "java/lang/String" "coder" "B" fC s ∧ Ch b A s ∧ StaticIs s "java/lang/String" "COMPACT_STRINGS" "Z" (.int z) ∧ ¬ z = 0 ∧ 0 < A.slots.size ∧ A.slots.size ≤ 536870912 ∧ ∀ i, i < A.slots.size → ¬ 255 < cv A i
def E (a : Addr) (D : Cell) (fV fC : Field) (A : Cell) (r : Option Value) (s u : State) : Prop := Got a D fV fC A 0 A.slots.size r s u
/-- new String(chars), not empty, no char above 255: a Latin-1 String of their low bytes -/
theorem law (l : Launch) (a : Addr) (D : Cell) (fV fC : Field) (b : Addr) (A : Cell) (z : Int32) : Law l yN 2 1 3 52 yB 2 none site (P a D fV fC b A z) (E a D fV fC A) [⟨a, fC.slot⟩, ⟨a, fV.slot⟩] 1 A.slots.size := by
  refine Law.of_walk (plainFor_of_name (by decide +kernel)) (by decide +kernel) (by decide +kernel) (by decide) (fun _ _ h => by rw [h.1]; rfl) (fun _ U U' hal hh h => ⟨h.1, h.2.1.mv hal hh, h.2.2.1.al hal, h.2.2.2.1.al hal, h.2.2.2.2.1.mv hal hh, h.2.2.2.2.2.1.there hal hh, h.2.2.2.2.2.2⟩) (fun r U U' V V' h1 hal h2 h => Got.mv r U U' V V' h1 hal h2 h) ?_
  intro p e s m args below meth c s₁ X0 hexec hbytes hml hret hlk hnm hown hh0 W hP
  obtain ⟨rfl, hB, f1, f2, hA, s1, hz, l0, l2, hp⟩ := hP
  have c1 : Steps p.tables e below (s₁.setTop (entryFrame m #[.ref a, .ref b] 2)) (s₁.setTop (mkF m 0 #[.val (.ref a), .val (.ref b)] [])) := entry rfl
  have c2 : Steps p.tables e below (s₁.setTop (entryFrame m #[.ref a, .ref b] 2)) (s₁.setTop (mkF m 6 #[.val (.ref a), .val (.ref b)] [.null, .int (Int32.ofNat A.slots.size), .int 0, .ref b, .ref a])) := c1.trans (by
    refine XS.aloadN X0.here hexec rfl (hb hbytes d0) rfl rfl ?_
    refine XS.aloadN X0.here hexec rfl (hb hbytes d1) rfl rfl ?_
    refine iconstV X0.here hexec rfl 0 (hb hbytes d2) (by decide) ?_
    refine XS.aloadN X0.here hexec rfl (hb hbytes d3) rfl rfl ?_
    refine X0.alen hexec (hA.1.mv X0.warmed.alike hh0) rfl rfl (hb hbytes d4) ?_
    refine XS.aconstNull X0.here hexec rfl (hb hbytes d5) ?_
    exact Steps.refl _)
  obtain ⟨v3, T3, X3, E3, g3⟩ := X0.callN hexec (New4.law l a D fV fC b A z 0 A.slots.size) rfl hown (wks W (initW "java/lang/String" 27 New4.yN)) (W New4.tab (by simp only [site, List.mem_cons, List.mem_append, true_or, or_true])) (W := 0) (Nat.le_of_ble_eq_true rfl) (Nat.le_of_ble_eq_true rfl) (Nat.le_refl _) (by show 0 + A.slots.size ≤ A.slots.size; omega) (g := (mkF m 6 #[.val (.ref a), .val (.ref b)] [.null, .int (Int32.ofNat A.slots.size), .int (Int32.ofNat 0), .ref b, .ref a])) rfl (by rw [hml]; rfl) c2 (argsL := [.ref b, .int (Int32.ofNat 0), .int (Int32.ofNat A.slots.size), .null]) (rest := []) rfl rfl (by show 2 * 0 + 0 ≤ _; decide) (hb hbytes d6) (⟨rfl, hB.mv X0.warmed.alike hh0, f1.al X0.warmed.alike, f2.al X0.warmed.alike, hA.mv X0.warmed.alike hh0, s1.there X0.warmed.alike hh0, hz, l0, by omega, l2, fun i hi => by rw [Nat.zero_add]; exact hp i hi⟩)
  have e0 := Got.mv _ s₁ s _ _ hh0.symm (Vm.Alike.refl _) rfl E3
  obtain rfl := e0.1
  have c4 : Steps p.tables e below (s₁.setTop (entryFrame m #[.ref a, .ref b] 2)) (T3.setTop (mkF m 9 #[.val (.ref a), .val (.ref b)] [])) := g3
  exact ⟨T3, none, _, _, _, X3, by simp, rfl, by omega, (fun _ => rfl), e0, fun fs hl => c4.trans (X3.returnOut hexec hret (hb hbytes d9) hl)⟩
theorem pays {l : Launch} {R : Room} {p : Program} {e : Env} {below : List Frame} {s : State} {sargs : Array Value} {len W : Nat} (a : Addr) (D : Cell) (fV fC : Field) (b : Addr) (A : Cell) (z : Int32) (htab : tab.before sargs s = true) (hfr : 4 ≤ R.frames) (hlo : W + 65 ≤ R.locals) :
    Back l R p e below s sargs yN len W (fun A₁ a₁ => A₁.cells + 1 ≤ R.cells ∧ A₁.slots + A.slots.size ≤ R.slots ∧ P a D fV fC b A z a₁ A₁.U) (fun A₁ _ v₁ B₁ => E a D fV fC A v₁ A₁.U B₁.U ∧ B₁.locs = A₁.locs ++ [⟨a, fC.slot⟩, ⟨a, fV.slot⟩] ∧ B₁.cells = A₁.cells + 1 ∧ B₁.slots = A₁.slots + A.slots.size) :=
  (law l a D fV fC b A z).pays htab hfr (by omega)
end New1
/-- the byte, read back as charAt reads it, is the char -/
theorem lo8_mask {x : Int32} (h0 : ¬ x < 0) (h1 : ¬ 255 < x) : lo8 x &&& 255 = x := by
  have t : ∀ k : Fin 256, lo8 (Int32.ofNat k.val) &&& 255 = Int32.ofNat k.val := by decide +kernel
  rw [Int32.lt_iff_toInt_lt] at h0 h1
  have e0 : (0 : Int32).toInt = 0 := rfl
  have e1 : (255 : Int32).toInt = 255 := rfl
  obtain ⟨k, hk⟩ : ∃ k : Nat, x.toInt = k := ⟨x.toInt.toNat, by omega⟩
  have hx : x = Int32.ofNat k := Int32.toInt_inj.mp (by rw [hk, Int32.toInt_ofNat_small (by omega)])
  rw [hx]
  exact t ⟨k, by omega⟩
end StrChars
namespace StrChars.Road
open Jvm Sem ClassFile Op Lib Jvm.Stand Jvm.Free Jvm.Free.XT
open Jvm.Lib.Cold (StaticIs)
abbrev ST : String := "java/lang/String"
/-- every table word that New1's law asks, flat -/
abbrev words : List Jvm.Cond := [.code New1.yN New1.yB 2 none, .initialized ST, .methodLink ST 27 New4.yN, .instanceMethod New4.yN,
  .code New4.yN New4.yB 6 none, .fieldLink ST 38 ST "COMPACT_STRINGS" "Z", .laysFinal ST ST "value" "[B", .fieldLink ST 9 ST "value" "[B", .laysFinal ST ST "coder" "B", .fieldLink ST 15 ST "coder" "B",
  .methodLink ST 1 Lib.objectInit, .instanceMethod Lib.objectInit, .code Lib.objectInit ⟨#[0xb1]⟩ 1 none, .methodLink ST 177 Cmp3.yN, .static Cmp3.yN, .methodLink ST 47 CodL.yN, .static CodL.yN,
  .code Cmp3.yN Cmp3.yB 6 (some (.array .byte)), .initialized U16, .arrayClass .byte, .methodLink U16 115 Cmp5.yN, .static Cmp5.yN, .code Cmp5.yN Cmp5.yB 7 (some .int), .code CodL.yN CodL.yB 2 (some .byte)]
theorem tab_of {a : Array Value} {s : State} (h : ∀ w ∈ words, w.before a s = true) : New1.tab.before a s = true := by
  have h5 : Cmp5.tab.before a s = true := unparts (wk h (.code Cmp5.yN Cmp5.yB 7 (some .int))) (wks h (.initialized Cmp5.yN.cls :: Cmp5.site))
  have hc : CodL.tab.before a s = true := unparts (wk h (.code CodL.yN CodL.yB 2 (some .byte))) (wks h (.initialized CodL.yN.cls :: CodL.site))
  have q5 : ∀ w ∈ Cmp5.tab :: words, w.before a s = true := fun w hw => (List.mem_cons.mp hw).elim (fun e => e ▸ h5) (h w)
  have h3 : Cmp3.tab.before a s = true := unparts (wk q5 (.code Cmp3.yN Cmp3.yB 6 (some (.array .byte)))) (wks q5 (.initialized Cmp3.yN.cls :: Cmp3.site))
  have q3 : ∀ w ∈ Cmp3.tab :: CodL.tab :: words, w.before a s = true := fun w hw => (List.mem_cons.mp hw).elim (fun e => e ▸ h3) fun hw => (List.mem_cons.mp hw).elim (fun e => e ▸ hc) (h w)
  have h4 : New4.tab.before a s = true := unparts (wk q3 (.code New4.yN New4.yB 6 none)) (wks q3 (.initialized New4.yN.cls :: New4.site))
  have q4 : ∀ w ∈ New4.tab :: words, w.before a s = true := fun w hw => (List.mem_cons.mp hw).elim (fun e => e ▸ h4) (h w)
  exact unparts (wk q4 (.code New1.yN New1.yB 2 none)) (wks q4 (.initialized New1.yN.cls :: New1.site))
/-- the words ride from the start Z to the walk's own state -/
theorem moved {Z s : State} {a0 args : Array Value} (hZ : Z.Warmed39 s.vm) (hw : ∀ d ∈ words, d.before a0 Z = true) : ∀ d ∈ words, d.before args s = true := fun d hd => by
  have q := hw d hd
  have t : ∀ d ∈ words, d = .arrayClass .byte ∨ (d.onTables && d.keepsFace) = true := by decide +kernel
  rcases t d hd with rfl | t
  · exact RoadKit.mvA hZ q
  · exact RoadKit.mv hZ q t
/-- WHAT COMES BACK, over the tables of the start Z: h the heap at the call, h' behind it -/
def Q (Z : State) (x : Addr) (A : Cell) (h : Heap) (v : Option Value) (h' : Heap) (L : List Loc) : Prop := v = none ∧ (∀ y ∈ L, y.base = x) ∧ RoadKit.Keep h h' [x] ∧ h'.size = h.size + 1 ∧ RoadKit.Exa Z h' x ST ∧ RoadKit.Fld Z h' x ST "value" "[B" (.ref h.size) ∧ RoadKit.Fld Z h' x ST "coder" "B" (.int 0) ∧
  (∃ V : Cell, RoadKit.Arr Z h' h.size V .byte ∧ V.vm = .none ∧ Z.vm.findClass "[B" = some V.cls ∧ V.slots.size = A.slots.size ∧ ∀ j, j < A.slots.size → V.slots[j]? = some (.int (lo8 (cv A j)))) ∧
  ∀ (O n d : String) (w : Value), RoadKit.Fld Z h x O n d w → RoadKit.slotOf Z O n d ≠ RoadKit.slotOf Z ST "value" "[B" → RoadKit.slotOf Z O n d ≠ RoadKit.slotOf Z ST "coder" "B" → RoadKit.Fld Z h' x O n d w
/-- **new String(chars) AT A CALL, IN THE ROAD'S FORM**: for specialBack behind newO: x the fresh String, b the char[] with the cell A -/
theorem back {p : Program} {l : Launch} {e : Env} {R : Room} {s : State} {args : Array Value} {below : List Frame} {len W : Nat} {Z : State} {a0 : Array Value} {h : Heap} (hZ : Z.Warmed39 s.vm) (hw : ∀ d ∈ words, d.before a0 Z = true) {kI : Nat} (wi : (Jvm.Cond.instantiable ST kI).before a0 Z = true)
    {x b : Addr} {A : Cell} {z : Int32} {v0 c0 : Value} (E : RoadKit.Exa Z h x ST) (V : RoadKit.Fld Z h x ST "value" "[B" v0) (C : RoadKit.Fld Z h x ST "coder" "B" c0) (K : RoadKit.Arr Z h b A .char) (hty : Typed .char A) (S : RoadKit.Sta Z h ST "COMPACT_STRINGS" "Z" (.int z)) (hz : ¬ z = 0)
    (l0 : 0 < A.slots.size) (l2 : A.slots.size ≤ 536870912) (hp : ∀ i, i < A.slots.size → ¬ 255 < cv A i) (hfr : 4 ≤ R.frames) (hlo : W + 65 ≤ R.locals) :
    Back l R p e below s args New1.yN len W (fun P a => a = #[.ref x, .ref b] ∧ P.U.heap = h ∧ P.cells + 1 ≤ R.cells ∧ P.slots + A.slots.size ≤ R.slots)
      (fun P _ v B => ∃ L, Q Z x A h v B.U.heap L ∧ B.locs = P.locs ++ L ∧ B.cells = P.cells + 1 ∧ B.slots = P.slots + A.slots.size) := by
  intro m meth c P g ig mk a X hg hsize hdg hW hn hp'
  obtain ⟨rfl, rfl, r1, r2⟩ := hp'
  have al : Z.vm.Alike P.U.vm := hZ.alike.trans X.warmed.alike
  obtain ⟨D, cfV, kV, iV, fV, hD, gV, stV, knV, obV, asV, slV⟩ := id V
  obtain ⟨D', cfC, kC, iC, fC, hD', gC, stC, -, -, asC, slC⟩ := id C
  cases hD.symm.trans hD'
  obtain ⟨D2, kD, e1, e2, e3, e4, e5⟩ := id E
  cases hD.symm.trans e1
  obtain ⟨c2, k2, i1, i2, i3, -⟩ := Cond.instantiable_spec wi
  cases e2.symm.trans i1
  cases e3.symm.trans i2
  obtain ⟨kU, u1, u2⟩ := al.2.2 _ _ e3
  have hB : Blank ST x D P.U := ⟨hD, ⟨knV, fun q hq => by rw [hq] at obV; cases obV⟩, by rw [al.findClass]; exact e2, kU, u1, by rw [u2]; exact i3, by rw [u2]; exact e5 i3⟩
  have F1 : Found ST "value" "[B" fV P.U := ⟨SBG.found_only al ⟨cfV, kV, iV, gV⟩, stV⟩
  have F2 : Found ST "coder" "B" fC P.U := ⟨SBG.found_only al ⟨cfC, kC, iC, gC⟩, stC⟩
  have hA : Ch b A P.U := ⟨⟨K.1, State.isArrayOf_alike al K.2.1, K.2.2, by omega⟩, hty⟩
  have hS : StaticIs P.U ST "COMPACT_STRINGS" "Z" (.int z) := by
    obtain ⟨cfS, iS, kS, fS, st, cS, t1, t2, t3, t4, t5, t6, t7⟩ := S
    exact StaticIs.there (s := { Z with heap := P.U.heap }) ⟨cfS, iS, kS, fS, st, cS, t1, t2, t3, t4, t5, (fun q => by rw [q] at t6; cases t6), t7⟩ al rfl
  obtain ⟨v, B, X', ⟨⟨hv, E', V', q1, q2, q3, q4, q5, q6, q7, q8, q9, q10, q11⟩, hl, hc, hs⟩, st⟩ := New1.pays x D fV fC b A z (tab_of (moved hZ hw)) hfr hlo m meth c P g ig mk _ X hg hsize hdg hW hn ⟨r1, r2, rfl, hB, F1, F2, hA, hS, hz, l0, l2, hp⟩
  have al' : Z.vm.Alike B.U.vm := hZ.alike.trans X'.warmed.alike
  have hsz : E'.slots.size = D.slots.size := by
    obtain ⟨-, -, -, kB, w1, w2, w3⟩ := q1
    obtain ⟨kB', y1, y2⟩ := al'.2.2 _ _ e3
    rw [q2.2.1] at w1
    cases w1.symm.trans y1
    rw [w3, e5 i3, y2]
  refine ⟨v, B, X', ⟨_, ⟨hv, ?_, ⟨by omega, fun y cy hy hn' => q10 y cy (by simpa using hn') hy, fun y cy hy => ?_⟩, q11, ⟨E', _, q1.1, by rw [q2.2.1]; exact e2, by rw [q2.2.1]; exact e3, by rw [q2.1]; exact obV, fun _ => by rw [hsz]; exact e5 i3⟩,
    ⟨E', cfV, kV, iV, fV, q1.1, gV, stV, by rw [q2.1]; exact knV, by rw [q2.1]; exact obV, by rw [q2.2.1]; exact asV, q3⟩, ⟨E', cfC, kC, iC, fC, q1.1, gC, stC, by rw [q2.1]; exact knV, by rw [q2.1]; exact obV, by rw [q2.2.1]; exact asC, q4⟩,
    ⟨V', ⟨q5.1, State.isArrayOf_alike al'.symm q5.2.1, q5.2.2.1⟩, q6, by rw [← al'.findClass]; exact q7, q8, fun j hj => by have := q9 j hj; rwa [Nat.zero_add] at this⟩, fun O n d w F n1 n2 => ?_⟩, hl, hc, hs⟩, st⟩
  · intro y hy
    simp only [List.mem_cons, List.not_mem_nil, or_false] at hy
    rcases hy with rfl | rfl <;> rfl
  · by_cases q : y = x
    · subst q
      cases hD.symm.trans hy
      exact ⟨E', q1.1, q2.2.1, q2.1, hsz⟩
    · exact ⟨cy, q10 y cy q hy, rfl, rfl, rfl⟩
  · obtain ⟨D3, cf, k, i, f, g1, g2, g3, g4, g5, g6, g7⟩ := F
    cases hD.symm.trans g1
    simp only [RoadKit.slotOf, g2, gV, gC, Option.map_some, Option.getD_some] at n1 n2
    exact ⟨E', cf, k, i, f, q1.1, g2, g3, by rw [q2.1]; exact g4, by rw [q2.1]; exact g5, by rw [q2.2.1]; exact g6, by rw [q2.2.2 f.slot (by simp [n1, n2])]; exact g7⟩
end StrChars.Road
namespace StrChars.Road
open Jvm Sem ClassFile Op Lib Jvm.Stand Jvm.Free Jvm.Free.XT
/-- WHAT COMES BACK, the byte[] as a list of values -/
def QA (Z : State) (x : Addr) (zn : Int32) (cs : List Int32) (h : Heap) (v : Option Value) (h' : Heap) (L : List Loc) : Prop := v = none ∧ (∀ y ∈ L, y.base = x) ∧ RoadKit.Keep h h' [x] ∧ h'.size = h.size + 1 ∧ RoadKit.Exa Z h' x ST ∧ RoadKit.Fld Z h' x ST "value" "[B" (.ref h.size) ∧ RoadKit.Fld Z h' x ST "coder" "B" (.int 0) ∧
  (∃ kb, Z.vm.findClass "[B" = some kb ∧ RoadKit.Arv Z h' h.size kb .byte zn (cs.map fun c => .int (lo8 c)) (.int 0)) ∧
  ∀ (O n d : String) (w : Value), RoadKit.Fld Z h x O n d w → RoadKit.slotOf Z O n d ≠ RoadKit.slotOf Z ST "value" "[B" → RoadKit.slotOf Z O n d ≠ RoadKit.slotOf Z ST "coder" "B" → RoadKit.Fld Z h' x O n d w
/-- **new String(chars) AT A CALL, THE ARRAYS AS LISTS**: the char[] at b holds cs, not empty, no char above 255 -/
theorem backArv {p : Program} {l : Launch} {e : Env} {R : Room} {s : State} {args : Array Value} {below : List Frame} {len W : Nat} {Z : State} {a0 : Array Value} {h : Heap} (hZ : Z.Warmed39 s.vm) (hw : ∀ d ∈ words, d.before a0 Z = true) {kI : Nat} (wi : (Jvm.Cond.instantiable ST kI).before a0 Z = true)
    {x b : Addr} {k : ClassId} {zn z : Int32} {cs : List Int32} {dv v0 c0 : Value} (E : RoadKit.Exa Z h x ST) (V : RoadKit.Fld Z h x ST "value" "[B" v0) (C : RoadKit.Fld Z h x ST "coder" "B" c0) (K : RoadKit.Arv Z h b k .char zn (cs.map Value.int) dv) (S : RoadKit.Sta Z h ST "COMPACT_STRINGS" "Z" (.int z)) (hz : ¬ z = 0)
    (hlen : zn.toNatClampNeg = cs.length) (h0 : 0 < cs.length) (hbig : cs.length ≤ 536870912) (hall : ∀ c ∈ cs, ¬ 255 < c) (hfr : 4 ≤ R.frames) (hlo : W + 65 ≤ R.locals) :
    Back l R p e below s args New1.yN len W (fun P a => a = #[.ref x, .ref b] ∧ P.U.heap = h ∧ P.cells + 1 ≤ R.cells ∧ P.slots + cs.length ≤ R.slots)
      (fun P _ v B => ∃ L, QA Z x zn cs h v B.U.heap L ∧ B.locs = P.locs ++ L ∧ B.cells = P.cells + 1 ∧ B.slots = P.slots + cs.length) := by
  obtain ⟨A, K1, K2, K3, K4, K5, K6⟩ := K
  have e : A.slots.size = cs.length := K3.trans hlen
  have hat : ∀ (i : Nat) (hi : i < cs.length), A.slots[i]? = some (.int cs[i]) := fun i hi => by rw [K5 i (by omega)]; simp [List.getD_eq_getElem?_getD, hi]
  have hcv : ∀ (i : Nat) (hi : i < cs.length), cv A i = cs[i] := fun i hi => by unfold cv; rw [hat i hi]
  have hty : Typed .char A := fun i v hv => by
    have hi : i < A.slots.size := (Array.getElem?_eq_some_iff.mp hv).1
    have q := K5 i hi
    rw [hv] at q
    rw [Option.some.inj q]
    exact K6 i hi
  refine Back.mono (back hZ hw wi E V C K1 hty S hz (by omega) (by omega) (fun i hi => by rw [hcv i (by omega)]; exact hall _ (List.getElem_mem _)) hfr hlo) (fun P a hp => ⟨hp.1, hp.2.1, hp.2.2.1, by rw [e]; exact hp.2.2.2⟩) (fun P a v B hp hq => ?_)
  obtain ⟨L, ⟨q1, q2, q3, q4, q5, q6, q7, ⟨V', v1, v2, v3, v4, v5⟩, q9⟩, hl, hc, hs⟩ := hq
  refine ⟨L, ⟨q1, q2, q3, q4, q5, q6, q7, ⟨V'.cls, v3, V', v1, rfl, by rw [v4, e, hlen], K4, fun i hi => ?_, fun i hi => ?_⟩, q9⟩, hl, hc, by rw [hs, e]⟩
  · have hi' : i < cs.length := by omega
    rw [v5 i (by omega), hcv i hi']; simp [List.getD_eq_getElem?_getD, hi']
  · have hi' : i < cs.length := by omega
    simp only [List.getD_eq_getElem?_getD, List.getElem?_map, List.getElem?_eq_getElem hi', Option.map_some, Option.getD_some]
    exact fits_lo8 _
end StrChars.Road
namespace StrChars.Road
open Jvm Sem ClassFile Op Lib Jvm.Stand Jvm.Free Jvm.Free.XT
/-- WHAT COMES BACK, in the writer's own shape -/
def QV (Z : State) (x : Addr) (N : Int32) (bs : List Int32) (h : Heap) (n0 : Nat) (v : Option Value) (h' : Heap) (L : List Loc) : Prop := v = none ∧ RoadKit.Fr n0 L ∧ RoadKit.Keep h h' [x] ∧ RoadKit.Exa Z h' x ST ∧ RoadKit.Fld Z h' x ST "coder" "B" (.int 0) ∧
  ∃ (t : Addr) (kb : ClassId), n0 ≤ t ∧ h.size ≤ t ∧ ¬ t = x ∧ RoadKit.Fld Z h' x ST "value" "[B" (.ref t) ∧ RoadKit.Arv Z h' t kb .byte N (bs.map Value.int) (.int 0)
/-- **new String(chars) AT A CALL, FOR THE WRITER**: a char[] of n known ints, each 0 to 255 -/
theorem backV {p : Program} {l : Launch} {e : Env} {R : Room} {s : State} {args : Array Value} {below : List Frame} {len W : Nat} {Z : State} {a0 : Array Value} {h : Heap} (hZ : Z.Warmed39 s.vm) (hw : ∀ d ∈ words, d.before a0 Z = true) {kI : Nat} (wi : (Jvm.Cond.instantiable ST kI).before a0 Z = true)
    {x b : Addr} {kC : ClassId} {cs bs : List Int32} {d v0 c0 : Value} {z N : Int32} {n n0 : Nat} (hx0 : n0 ≤ x) (hh0 : n0 ≤ h.size) (E : RoadKit.Exa Z h x ST) (V : RoadKit.Fld Z h x ST "value" "[B" v0) (C : RoadKit.Fld Z h x ST "coder" "B" c0) (K : RoadKit.Arv Z h b kC .char N (cs.map Value.int) d) (S : RoadKit.Sta Z h ST "COMPACT_STRINGS" "Z" (.int z)) (hz : ¬ z = 0)
    (hn : cs.length = n) (hN : N = Int32.ofNat n) (l0 : 0 < n) (l2 : n ≤ 4000) (hp : ∀ c ∈ cs, ¬ c < 0 ∧ ¬ (255 : Int32) < c) (hb : bs = cs.map (fun c => c.toInt8.toInt32)) (hfr : 4 ≤ R.frames) (hlo : W + 65 ≤ R.locals) :
    Back l R p e below s args (⟨"java/lang/String", "<init>", "([C)V"⟩ : MethodName) len W (fun P a => a = #[.ref x, .ref b] ∧ P.U.heap = h ∧ P.cells + 1 ≤ R.cells ∧ P.slots + n ≤ R.slots)
      (fun P _ v B => ∃ L, QV Z x N bs h n0 v B.U.heap L ∧ B.locs = P.locs ++ L ∧ B.cells = P.cells + 1 ∧ B.slots = P.slots + n) := by
  subst hn hN hb
  refine Back.mono (backArv hZ hw wi E V C K S hz (n32 (by omega)) l0 (by omega) (fun c hc => (hp c hc).2) hfr hlo) (fun P a hp => hp) (fun P a v B hp hq => ?_)
  obtain ⟨L, ⟨q1, q2, q3, q4, q5, q6, q7, ⟨kb, v1, v2⟩, q9⟩, hl, hc, hs⟩ := hq
  exact ⟨L, ⟨q1, fun y hy => by rw [q2 y hy]; exact hx0, q3, q5, q7, h.size, kb, hh0, Nat.le_refl _, Nat.ne_of_gt E.lt, q6, by rw [List.map_map]; exact v2⟩, hl, hc, hs⟩
end StrChars.Road
namespace StrChars
open Jvm Sem ClassFile Op Lib Jvm.Stand Jvm.Free.XT Jvm.Free.ALB Jvm.Free.JM Jvm.Free
open Jvm.Lib.Cold (StaticIs)
def hi8 (x : Int32) : Int32 := lo8 (x >>> ((8 : Int32) &&& 31))
/-- what StringUTF16.getChar makes of two bytes -/
def pairCh (u v : Int32) : Int32 := (((u &&& 255) <<< ((0 : Int32) &&& 31)) ||| ((v &&& 255) <<< ((8 : Int32) &&& 31))).toUInt32.toUInt16.toUInt32.toInt32
theorem lo8_and (x : Int32) : (lo8 x &&& 255).toBitVec.toNat = x.toBitVec.toNat % 256 := by
  have h : (lo8 x).toBitVec = (x.toBitVec.signExtend 8).signExtend 32 := by rw [lo8, Int8.toBitVec_toInt32, Int32.toBitVec_toInt8]
  rw [Int32.toBitVec_and, BitVec.toNat_and, h]
  have e : ((x.toBitVec.signExtend 8).signExtend 32).toNat % 256 = x.toBitVec.toNat % 256 := by
    rw [BitVec.toNat_signExtend]
    have hlt := x.toBitVec.isLt
    simp only [BitVec.toNat_setWidth, BitVec.toNat_signExtend]
    split <;> split <;> omega
  rw [← e]
  exact Nat.and_two_pow_sub_one_eq_mod _ 8
theorem pair_says {c : Int32} (h0 : ¬ c < 0) (h1 : ¬ 65535 < c) : pairCh (lo8 c) (hi8 c) = c := by
  rw [Int32.lt_iff_toInt_lt] at h0 h1
  have e0 : (0 : Int32).toInt = 0 := rfl
  have e1 : (65535 : Int32).toInt = 65535 := rfl
  have hc : c.toInt = c.toBitVec.toNat := by
    have := c.toBitVec.isLt
    have e : c.toInt = c.toBitVec.toInt := rfl
    rw [e] at h0 h1
    rw [e]
    rw [BitVec.toInt_eq_toNat_cond] at h0 h1 ⊢
    split at h0 <;> split <;> omega
  have hn : c.toBitVec.toNat < 65536 := by omega
  have a1 := lo8_and c
  have a2 : (hi8 c &&& 255).toBitVec.toNat = c.toBitVec.toNat / 256 := by
    rw [hi8, lo8_and]
    have e : ((8 : Int32) &&& 31) = 8 := by decide
    rw [e, Int32.toBitVec_shiftRight]
    have e2 : ((8 : Int32).toBitVec.smod 32) = 8#32 := by decide
    rw [e2, BitVec.sshiftRight_eq', BitVec.toNat_sshiftRight_of_msb_false (by rw [BitVec.msb_eq_false_iff_two_mul_lt]; omega)]
    show c.toBitVec.toNat >>> 8 % 256 = _
    rw [Nat.shiftRight_eq_div_pow]
    omega
  unfold pairCh
  apply Int32.toBitVec_inj.mp
  apply BitVec.eq_of_toNat_eq
  have f0 : ((0 : Int32) &&& 31) = 0 := by decide
  have f8 : ((8 : Int32) &&& 31) = 8 := by decide
  rw [f0, f8]
  have g : (((lo8 c &&& 255) <<< (0 : Int32)) ||| ((hi8 c &&& 255) <<< (8 : Int32))).toBitVec.toNat = c.toBitVec.toNat := by
    rw [Int32.toBitVec_or, Int32.toBitVec_shiftLeft, Int32.toBitVec_shiftLeft]
    have s0 : ((0 : Int32).toBitVec.smod 32) = 0#32 := by decide
    have s8 : ((8 : Int32).toBitVec.smod 32) = 8#32 := by decide
    rw [s0, s8, BitVec.toNat_or]
    simp only [BitVec.shiftLeft_eq', BitVec.toNat_shiftLeft, a1, a2]
    show (c.toBitVec.toNat % 256) <<< 0 % 2 ^ 32 ||| (c.toBitVec.toNat / 256) <<< 8 % 2 ^ 32 = _
    rw [Nat.shiftLeft_zero, Nat.mod_eq_of_lt (show c.toBitVec.toNat % 256 < 2 ^ 32 by omega), Nat.mod_eq_of_lt (show (c.toBitVec.toNat / 256) <<< 8 < 2 ^ 32 by rw [Nat.shiftLeft_eq]; omega), Nat.or_comm, ← Nat.shiftLeft_add_eq_or_of_lt (by omega), Nat.shiftLeft_eq]
    omega
  show BitVec.toNat (((((lo8 c &&& 255) <<< (0 : Int32)) ||| ((hi8 c &&& 255) <<< (8 : Int32))).toBitVec.setWidth 16).setWidth 32) = _
  rw [BitVec.toNat_setWidth, BitVec.toNat_setWidth, g]
  omega
end StrChars
namespace StrChars
open Jvm Sem ClassFile Op Lib Jvm.Stand Jvm.Free.XT Jvm.Free.ALB Jvm.Free.JM Jvm.Free
open Jvm.Lib.Cold (StaticIs)
/-- the array's cell V codes the n chars f 0 .. f (n - 1) by the coder cd, as the JDK does: coder 1 just where some char is above 255 -/
def Cod (cd : Int32) (n : Nat) (f : Nat → Int32) (V : Cell) : Prop := (cd = 0 ∧ V.slots.size = n ∧ ∀ j, j < n → V.slots[j]? = some (.int (lo8 (f j))) ∧ ¬ 255 < f j) ∨ (cd = 1 ∧ V.slots.size = 2 * n ∧ (∀ j, j < n → V.slots[2 * j]? = some (.int (lo8 (f j))) ∧ V.slots[2 * j + 1]? = some (.int (hi8 (f j)))) ∧ ∃ j, j < n ∧ 255 < f j)
/-- **x is a String of the n chars f 0 .. f (n - 1)**, Latin-1 or UTF-16; its array at t has the cell V -/
def Txt (x t : Addr) (V : Cell) (cd : Int32) (n : Nat) (f : Nat → Int32) (U : State) : Prop := Exact "java/lang/String" x U ∧ Has x "java/lang/String" "value" "[B" (.ref t) U ∧ Has x "java/lang/String" "coder" "B" (.int cd) U ∧ XT.Arr .byte t V U ∧ Cod cd n f V ∧ ∀ j, j < n → ¬ f j < 0 ∧ ¬ 65535 < f j
theorem Txt.mv {x t : Addr} {V : Cell} {cd : Int32} {n : Nat} {f : Nat → Int32} {U U' : State} (h : Txt x t V cd n f U) (hal : U.vm.Alike U'.vm) (hh : U'.heap = U.heap) : Txt x t V cd n f U' := ⟨h.1.mv hal hh, h.2.1.mv hal hh, h.2.2.1.mv hal hh, h.2.2.2.1.mv hal hh, h.2.2.2.2⟩
end StrChars
namespace StrChars.Road
open Jvm Sem ClassFile Op Lib Jvm.Stand Jvm.Free Jvm.Free.XT
open Jvm.Lib.Cold (StaticIs)
theorem consq {a : Array Value} {s : State} {c : Jvm.Cond} {L : List Jvm.Cond} (h0 : c.before a s = true) (h : ∀ w ∈ L, w.before a s = true) : ∀ w ∈ c :: L, w.before a s = true := fun w hw => (List.mem_cons.mp hw).elim (fun e => e ▸ h0) (h w)
/-- the bytes of the chars cs, low before high -/
def wideBytes : List Int32 → List Value
  | [] => []
  | c :: cs => .int (lo8 c) :: .int (hi8 c) :: wideBytes cs
theorem wide_lo (d : Value) : ∀ (cs : List Int32) (j : Nat), j < cs.length → (wideBytes cs).getD (2 * j) d = .int (lo8 (cs.getD j 0))
  | [], j, h => absurd h (Nat.not_lt_zero j)
  | c :: cs, 0, _ => rfl
  | c :: cs, j + 1, h => by
    have q := wide_lo d cs j (by simpa using h)
    rw [show 2 * (j + 1) = 2 * j + 1 + 1 from by omega]
    simpa [wideBytes] using q
theorem wide_hi (d : Value) : ∀ (cs : List Int32) (j : Nat), j < cs.length → (wideBytes cs).getD (2 * j + 1) d = .int (hi8 (cs.getD j 0))
  | [], j, h => absurd h (Nat.not_lt_zero j)
  | c :: cs, 0, _ => rfl
  | c :: cs, j + 1, h => by
    have q := wide_hi d cs j (by simpa using h)
    rw [show 2 * (j + 1) + 1 = 2 * j + 1 + 1 + 1 from by omega]
    simpa [wideBytes] using q
theorem low_at (d : Value) (cs : List Int32) (j : Nat) (h : j < cs.length) : (cs.map fun c => Value.int (lo8 c)).getD j d = .int (lo8 (cs.getD j 0)) := by
  simp [List.getD_eq_getElem?_getD, h]
/-- an array of N2 bytes vs codes the chars cs by the coder cd -/
def CodA (cs : List Int32) (cd N2 : Int32) (vs : List Value) : Prop := (cd = 0 ∧ N2 = Int32.ofNat cs.length ∧ vs = (cs.map fun c => Value.int (lo8 c)) ∧ ∀ c ∈ cs, ¬ 255 < c) ∨ (cd = 1 ∧ N2 = Int32.ofNat (2 * cs.length) ∧ vs = wideBytes cs ∧ ∃ c ∈ cs, 255 < c)
theorem CodA.cod {cs : List Int32} {cd N2 : Int32} {vs : List Value} {V : Cell} (h : CodA cs cd N2 vs) (hn : 2 * cs.length < 2 ^ 31) (hs : V.slots.size = N2.toNatClampNeg) (hv : RoadKit.Has V vs (.int 0)) : Cod cd cs.length (fun j => cs.getD j 0) V := by
  rcases h with ⟨rfl, rfl, rfl, h⟩ | ⟨rfl, rfl, rfl, c, hc, hw⟩
  · rw [n32 (by omega)] at hs
    exact Or.inl ⟨rfl, hs, fun j hj => ⟨by rw [hv j (by omega), low_at _ _ _ hj], by
      have e : cs.getD j 0 = cs[j] := by simp [List.getD_eq_getElem?_getD, hj]
      show ¬ 255 < cs.getD j 0
      rw [e]; exact h _ (List.getElem_mem _)⟩⟩
  · rw [n32 (by omega)] at hs
    obtain ⟨j, hj, rfl⟩ := List.getElem_of_mem hc
    exact Or.inr ⟨rfl, hs, fun j hj => ⟨by rw [hv _ (by omega), wide_lo _ _ _ hj], by rw [hv _ (by omega), wide_hi _ _ _ hj]⟩, j, hj, by
      have e : cs.getD j 0 = cs[j] := by simp [List.getD_eq_getElem?_getD, hj]
      show 255 < cs.getD j 0
      rw [e]; exact hw⟩
/-- an object of exactly java/lang/String, its two fields found: as the laws ask it -/
theorem strObj {Z U : State} {a0 : Array Value} {kI : Nat} (wi : (Jvm.Cond.instantiable ST kI).before a0 Z = true) (al : Z.vm.Alike U.vm) {x : Addr} {v0 c0 : Value} (E : RoadKit.Exa Z U.heap x ST) (V : RoadKit.Fld Z U.heap x ST "value" "[B" v0) (C : RoadKit.Fld Z U.heap x ST "coder" "B" c0) :
    ∃ (D : Cell) (fV fC : Field), Blank ST x D U ∧ Found ST "value" "[B" fV U ∧ Found ST "coder" "B" fC U ∧ D.slots[fV.slot]? = some v0 ∧ D.slots[fC.slot]? = some c0 ∧ RoadKit.slotOf Z ST "value" "[B" = fV.slot ∧ RoadKit.slotOf Z ST "coder" "B" = fC.slot := by
  obtain ⟨D, cfV, kV, iV, fV, hD, gV, stV, knV, obV, asV, slV⟩ := V
  obtain ⟨D', cfC, kC, iC, fC, hD', gC, stC, -, -, asC, slC⟩ := C
  cases hD.symm.trans hD'
  obtain ⟨D2, kD, e1, e2, e3, e4, e5⟩ := E
  cases hD.symm.trans e1
  obtain ⟨c2, k2, i1, i2, i3, -⟩ := Cond.instantiable_spec wi
  cases e2.symm.trans i1
  cases e3.symm.trans i2
  obtain ⟨kU, u1, u2⟩ := al.2.2 _ _ e3
  exact ⟨D, fV, fC, ⟨hD, ⟨knV, fun q hq => by rw [hq] at obV; cases obV⟩, by rw [al.findClass]; exact e2, kU, u1, by rw [u2]; exact i3, by rw [u2]; exact e5 i3⟩, ⟨SBG.found_only al ⟨cfV, kV, iV, gV⟩, stV⟩, ⟨SBG.found_only al ⟨cfC, kC, iC, gC⟩, stC⟩, slV, slC, by simp [RoadKit.slotOf, gV], by simp [RoadKit.slotOf, gC]⟩
theorem sta_is {Z U : State} (al : Z.vm.Alike U.vm) {C n d : String} {v : Value} (S : RoadKit.Sta Z U.heap C n d v) : StaticIs U C n d v := by
  obtain ⟨cfS, iS, kS, fS, st, cS, t1, t2, t3, t4, t5, t6, t7⟩ := S
  exact StaticIs.there (s := { Z with heap := U.heap }) ⟨cfS, iS, kS, fS, st, cS, t1, t2, t3, t4, t5, (fun q => by rw [q] at t6; cases t6), t7⟩ al rfl
end StrChars.Road
namespace StrChars
open Jvm Sem ClassFile Op Lib Jvm.Stand Jvm.Free.XT Jvm.Free.ALB Jvm.Free.JM Jvm.Free
open Jvm.Lib.Cold (StaticIs)
namespace Emp
def yN : MethodName := ⟨"java/lang/String", "isEmpty", "()Z"⟩
abbrev yB : ByteArray := jdk_42_method_55_code
theorem d0 : decode yB 0 = .ok (.aload_n 0, 1) := by decide +kernel
theorem d1 : decode yB 1 = .ok (.getfield 9, 3) := by decide +kernel
theorem d4 : decode yB 4 = .ok (.arraylength, 1) := by decide +kernel
theorem d5 : decode yB 5 = .ok (.ifCond (.ne) 7, 3) := by decide +kernel
theorem d8 : decode yB 8 = .ok (.iconst 1, 1) := by decide +kernel
theorem d9 : decode yB 9 = .ok (.goto 4, 3) := by decide +kernel
theorem d12 : decode yB 12 = .ok (.iconst 0, 1) := by decide +kernel
theorem d13 : decode yB 13 = .ok (.ireturn, 1) := by decide +kernel
def site : List Cond := [.fieldLink "java/lang/String" 9 "java/lang/String" "value" "[B"]
def tab : Cond := tabOf yN yB 1 (some .boolean) site
def P (x t : Addr) (V : Cell) (cd : Int32) (n : Nat) (f : Nat → Int32) (args : Array Value) (s : State) : Prop := args = #[.ref x] ∧ Txt x t V cd n f s
def E (n : Nat) (r : Option Value) (s u : State) : Prop := XT.PureE (some (.int (if n = 0 then 1 else 0))) r s u
/-- isEmpty() of a String of n chars -/
theorem law (l : Launch) (x t : Addr) (V : Cell) (cd : Int32) (n : Nat) (f : Nat → Int32) : Law l yN 1 0 0 0 yB 1 (some .boolean) site (P x t V cd n f) (E n) [] 0 0 := by
  refine Law.of_walk (plainFor_of_name (by decide +kernel)) (by decide +kernel) (by decide +kernel) (by decide) (fun _ _ h => by rw [h.1]; rfl) (fun _ U U' hal hh h => ⟨h.1, h.2.mv hal hh⟩) (fun r U U' V V' h1 hal h2 h => XT.PureE.mv r U U' V V' h1 hal h2 h) ?_
  intro p e s m args below meth c s₁ X0 hexec hbytes hml hret hlk hnm hown hh0 W hP
  obtain ⟨rfl, hx⟩ := hP
  have v31 := hx.2.2.2.1.2.2.2
  have c1 : Steps p.tables e below (s₁.setTop (entryFrame m #[.ref x] 1)) (s₁.setTop (mkF m 1 #[.val (.ref x)] [.ref x])) := Steps.trans (entry rfl) (by
    show Steps p.tables e below (s₁.setTop (mkF m 0 #[.val (.ref x)] [])) _
    refine XS.aloadN X0.here hexec rfl (hb hbytes d0) rfl rfl ?_
    exact Steps.refl _)
  obtain ⟨T2, X2, q2, st2⟩ := X0.hget hexec hown (wk W (.fieldLink "java/lang/String" 9 "java/lang/String" "value" "[B")) (hx.mv X0.warmed.alike hh0).2.1 (g := (mkF m 1 #[.val (.ref x)] [.ref x])) rfl (rest := []) rfl (hb hbytes d1)
  have hh2 := q2.trans hh0
  have hx2 := hx.mv X2.warmed.alike hh2
  have c3 : Steps p.tables e below (s₁.setTop (entryFrame m #[.ref x] 1)) (T2.setTop (mkF m 5 #[.val (.ref x)] [.int (Int32.ofNat V.slots.size)])) := (c1.trans (st2 _ (Steps.refl _))).trans (by
    refine X2.alen hexec hx2.2.2.2.1 rfl rfl (hb hbytes d4) ?_
    exact Steps.refl _)
  have hz : V.slots.size = 0 ↔ n = 0 := by
    rcases hx.2.2.2.2.1 with ⟨-, q, -⟩ | ⟨-, q, -⟩ <;> omega
  by_cases h0 : n = 0
  · have c4 : Steps p.tables e below (s₁.setTop (entryFrame m #[.ref x] 1)) (T2.setTop (mkF m 13 #[.val (.ref x)] [.int 1])) := c3.trans (by
      refine XS.ifNo X2.here hexec rfl (hb hbytes d5) rfl (i0_ne_f (by rw [hz.mpr h0]; rfl)) ?_
      refine iconstV X2.here hexec rfl 1 (hb hbytes d8) (by decide) ?_
      refine XS.goto X2.here hexec rfl (pc0 := 9) rfl (hb hbytes d9) (by decide) rfl ?_
      exact Steps.refl _)
    exact ⟨T2, some (.int 1), _, _, _, X2, rfl, rfl, rfl, (fun h => by cases h), ⟨by rw [if_pos h0], hh2⟩, fun fs hl => c4.trans (X2.ireturnOut hexec hret rfl (Or.inr (Or.inl rfl)) (hb hbytes d13) hl)⟩
  · have c4 : Steps p.tables e below (s₁.setTop (entryFrame m #[.ref x] 1)) (T2.setTop (mkF m 13 #[.val (.ref x)] [.int 0])) := c3.trans (by
      refine XS.ifYes X2.here hexec rfl (pc0 := 5) rfl (hb hbytes d5) rfl (i0_ne_t (nz32 v31 (by omega))) (by decide) rfl ?_
      refine iconstV X2.here hexec rfl 0 (hb hbytes d12) (by decide) ?_
      exact Steps.refl _)
    exact ⟨T2, some (.int 0), _, _, _, X2, rfl, rfl, rfl, (fun h => by cases h), ⟨by rw [if_neg h0], hh2⟩, fun fs hl => c4.trans (X2.ireturnOut hexec hret rfl (Or.inr (Or.inl rfl)) (hb hbytes d13) hl)⟩
theorem pays {l : Launch} {R : Room} {p : Program} {e : Env} {below : List Frame} {s : State} {sargs : Array Value} {len W : Nat} (x t : Addr) (V : Cell) (cd : Int32) (n : Nat) (f : Nat → Int32) (htab : tab.before sargs s = true) (hfr : 1 ≤ R.frames) (hlo : W + 12 ≤ R.locals) :
    Back l R p e below s sargs yN len W (fun A₁ a₁ => A₁.cells + 0 ≤ R.cells ∧ A₁.slots + 0 ≤ R.slots ∧ P x t V cd n f a₁ A₁.U) (fun A₁ _ v₁ B₁ => E n v₁ A₁.U B₁.U ∧ B₁.locs = A₁.locs ++ [] ∧ B₁.cells = A₁.cells + 0 ∧ B₁.slots = A₁.slots + 0) :=
  (law l x t V cd n f).pays htab hfr (by omega)
end Emp
/-- what place i of a byte[]'s cell holds -/
def yv (A : Cell) (i : Nat) : Int32 := match A.slots[i]? with | some (.int x) => x | _ => 0
theorem yv_get {a : Addr} {A : Cell} {U : State} (h : XT.Arr .byte a A U) (ht : Typed .byte A) {i : Nat} (hi : i < A.slots.size) : A.slots[i]? = some (.int (yv A i)) := by
  have e := Array.getElem?_eq_getElem hi
  have f := ht i _ e
  unfold yv; rw [e]
  generalize A.slots[i] = v at f
  cases v <;> simp [fits] at f ⊢
/-- the two arrays are equal, place for place -/
def EqC (A B : Cell) : Prop := A.slots.size = B.slots.size ∧ ∀ i, i < A.slots.size → yv A i = yv B i
/-- a boolean that says whether p -/
def Says01 (q : Prop) (r : Option Value) (s u : State) : Prop := ∃ v : Int32, r = some (.int v) ∧ u.heap = s.heap ∧ ((v = 1 ∧ q) ∨ (v = 0 ∧ ¬ q))
theorem Says01.mv {q : Prop} : ∀ r (U U' V V' : State), U'.heap = U.heap → V.vm.Alike V'.vm → V'.heap = V.heap → Says01 q r U V → Says01 q r U' V' :=
  fun r U U' V V' h1 _ h2 ⟨v, a, b, c⟩ => ⟨v, a, by rw [h1, h2]; exact b, c⟩
namespace LEq
def yN : MethodName := ⟨"java/lang/StringLatin1", "equals", "([B[B)Z"⟩
abbrev yB : ByteArray := jdk_43_method_13_code
theorem d0 : decode yB 0 = .ok (.aload_n 0, 1) := by decide +kernel
theorem d1 : decode yB 1 = .ok (.arraylength, 1) := by decide +kernel
theorem d2 : decode yB 2 = .ok (.aload_n 1, 1) := by decide +kernel
theorem d3 : decode yB 3 = .ok (.arraylength, 1) := by decide +kernel
theorem d4 : decode yB 4 = .ok (.if_icmp (.ne) 30, 3) := by decide +kernel
theorem d7 : decode yB 7 = .ok (.iconst 0, 1) := by decide +kernel
theorem d8 : decode yB 8 = .ok (.istore_n 2, 1) := by decide +kernel
theorem d9 : decode yB 9 = .ok (.iload_n 2, 1) := by decide +kernel
theorem d10 : decode yB 10 = .ok (.aload_n 0, 1) := by decide +kernel
theorem d11 : decode yB 11 = .ok (.arraylength, 1) := by decide +kernel
theorem d12 : decode yB 12 = .ok (.if_icmp (.ge) 20, 3) := by decide +kernel
theorem d15 : decode yB 15 = .ok (.aload_n 0, 1) := by decide +kernel
theorem d16 : decode yB 16 = .ok (.iload_n 2, 1) := by decide +kernel
theorem d17 : decode yB 17 = .ok (.baload, 1) := by decide +kernel
theorem d18 : decode yB 18 = .ok (.aload_n 1, 1) := by decide +kernel
theorem d19 : decode yB 19 = .ok (.iload_n 2, 1) := by decide +kernel
theorem d20 : decode yB 20 = .ok (.baload, 1) := by decide +kernel
theorem d21 : decode yB 21 = .ok (.if_icmp (.eq) 5, 3) := by decide +kernel
theorem d24 : decode yB 24 = .ok (.iconst 0, 1) := by decide +kernel
theorem d25 : decode yB 25 = .ok (.ireturn, 1) := by decide +kernel
theorem d26 : decode yB 26 = .ok (.iinc 2 1, 3) := by decide +kernel
theorem d29 : decode yB 29 = .ok (.goto (-20), 3) := by decide +kernel
theorem d32 : decode yB 32 = .ok (.iconst 1, 1) := by decide +kernel
theorem d33 : decode yB 33 = .ok (.ireturn, 1) := by decide +kernel
theorem d34 : decode yB 34 = .ok (.iconst 0, 1) := by decide +kernel
theorem d35 : decode yB 35 = .ok (.ireturn, 1) := by decide +kernel
def site : List Cond := []
def tab : Cond := tabOf yN yB 3 (some .boolean) site
def P (a : Addr) (A : Cell) (b : Addr) (B : Cell) (args : Array Value) (s : State) : Prop := args = #[.ref a, .ref b] ∧ XT.Arr .byte a A s ∧ Typed .byte A ∧ XT.Arr .byte b B s ∧ Typed .byte B
/-- whether two byte[] are equal, place for place -/
theorem law (l : Launch) (a : Addr) (A : Cell) (b : Addr) (B : Cell) : Law l yN 2 2 0 0 yB 3 (some .boolean) site (P a A b B) (Says01 (EqC A B)) [] 0 0 := by
  refine Law.of_walk (plainFor_of_name (by decide +kernel)) (by decide +kernel) (by decide +kernel) (by decide) (fun _ _ h => by rw [h.1]; rfl) (fun _ U U' hal hh h => ⟨h.1, h.2.1.mv hal hh, h.2.2.1, h.2.2.2.1.mv hal hh, h.2.2.2.2⟩) (fun r U U' V V' h1 hal h2 h => Says01.mv r U U' V V' h1 hal h2 h) ?_
  intro p e s m args below meth c s₁ X0 hexec hbytes hml hret hlk hnm hown hh0 W hP
  obtain ⟨rfl, hA, tA, hB, tB⟩ := hP
  have a31 := hA.2.2.2
  have b31 := hB.2.2.2
  have hA0 := hA.mv X0.warmed.alike hh0
  have hB0 := hB.mv X0.warmed.alike hh0
  have c1 : Steps p.tables e below (s₁.setTop (entryFrame m #[.ref a, .ref b] 3)) (s₁.setTop (mkF m 0 #[.val (.ref a), .val (.ref b), .unset] [])) := entry rfl
  have c2 : Steps p.tables e below (s₁.setTop (entryFrame m #[.ref a, .ref b] 3)) (s₁.setTop (mkF m 4 #[.val (.ref a), .val (.ref b), .unset] [.int (Int32.ofNat B.slots.size), .int (Int32.ofNat A.slots.size)])) := c1.trans (by
    refine XS.aloadN X0.here hexec rfl (hb hbytes d0) rfl rfl ?_
    refine X0.alen hexec hA0 rfl rfl (hb hbytes d1) ?_
    refine XS.aloadN X0.here hexec rfl (hb hbytes d2) rfl rfl ?_
    refine X0.alen hexec hB0 rfl rfl (hb hbytes d3) ?_
    exact Steps.refl _)
  by_cases hs : A.slots.size = B.slots.size
  · have c3 : Steps p.tables e below (s₁.setTop (entryFrame m #[.ref a, .ref b] 3)) (s₁.setTop (mkF m 9 #[.val (.ref a), .val (.ref b), .val (.int 0)] [])) := c2.trans (by
      refine XS.icmpNo X0.here hexec rfl (hb hbytes d4) rfl (ii_ne_f (by rw [hs])) ?_
      refine iconstV X0.here hexec rfl 0 (hb hbytes d7) (by decide) ?_
      refine XS.istoreN X0.here hexec rfl (hb hbytes d8) rfl rfl ?_
      exact Steps.refl _)
    have loop : ∀ (r i : Nat), i + r = A.slots.size → (∀ j, j < i → yv A j = yv B j) → Steps p.tables e below (s₁.setTop (entryFrame m #[.ref a, .ref b] 3)) (s₁.setTop (mkF m 9 #[.val (.ref a), .val (.ref b), .val (.int (Int32.ofNat i))] [])) → ∃ (pc : Nat) (Ls : Array Slot) (v : Int32), (pc = 25 ∨ pc = 33) ∧ ((v = 1 ∧ EqC A B) ∨ (v = 0 ∧ ¬ EqC A B)) ∧ Steps p.tables e below (s₁.setTop (entryFrame m #[.ref a, .ref b] 3)) (s₁.setTop (mkF m pc Ls [.int v])) := by
      intro r
      induction r with
      | zero =>
        intro i hi he cl
        exact ⟨33, _, 1, Or.inr rfl, Or.inl ⟨rfl, hs, fun j hj => he j (by omega)⟩, cl.trans (by
          refine XS.iloadN X0.here hexec rfl (hb hbytes d9) rfl ?_
          refine XS.aloadN X0.here hexec rfl (hb hbytes d10) rfl rfl ?_
          refine X0.alen hexec hA0 rfl rfl (hb hbytes d11) ?_
          refine XS.icmpYes X0.here hexec rfl (pc0 := 12) rfl (hb hbytes d12) rfl (ii_ge_t (nlt32 (by omega) (by omega))) (by decide) rfl ?_
          refine iconstV X0.here hexec rfl 1 (hb hbytes d32) (by decide) ?_
          exact Steps.refl _)⟩
      | succ r ih =>
        intro i hi he cl
        have c4 : Steps p.tables e below (s₁.setTop (entryFrame m #[.ref a, .ref b] 3)) (s₁.setTop (mkF m 21 #[.val (.ref a), .val (.ref b), .val (.int (Int32.ofNat i))] [.int (yv B i), .int (yv A i)])) := cl.trans (by
          refine XS.iloadN X0.here hexec rfl (hb hbytes d9) rfl ?_
          refine XS.aloadN X0.here hexec rfl (hb hbytes d10) rfl rfl ?_
          refine X0.alen hexec hA0 rfl rfl (hb hbytes d11) ?_
          refine XS.icmpNo X0.here hexec rfl (hb hbytes d12) rfl (ii_ge_f (lt32 (by omega) (by omega))) ?_
          refine XS.aloadN X0.here hexec rfl (hb hbytes d15) rfl rfl ?_
          refine XS.iloadN X0.here hexec rfl (hb hbytes d16) rfl ?_
          refine X0.aget hexec hA0 rfl (yv_get hA tA (i := i) (by omega)) rfl rfl (hb hbytes d17) ?_
          refine XS.aloadN X0.here hexec rfl (hb hbytes d18) rfl rfl ?_
          refine XS.iloadN X0.here hexec rfl (hb hbytes d19) rfl ?_
          refine X0.aget hexec hB0 rfl (yv_get hB tB (i := i) (by omega)) rfl rfl (hb hbytes d20) ?_
          exact Steps.refl _)
        by_cases hv : yv A i = yv B i
        · have c5 : Steps p.tables e below (s₁.setTop (entryFrame m #[.ref a, .ref b] 3)) (s₁.setTop (mkF m 9 #[.val (.ref a), .val (.ref b), .val (.int (Int32.ofNat i + 1))] [])) := c4.trans (by
            refine XS.icmpYes X0.here hexec rfl (pc0 := 21) rfl (hb hbytes d21) rfl (ii_eq_t hv) (by decide) rfl ?_
            refine iincV X0.here hexec rfl 1 (hb hbytes d26) (by decide) rfl rfl ?_
            refine XS.goto X0.here hexec rfl (pc0 := 29) rfl (hb hbytes d29) (by decide) rfl ?_
            exact Steps.refl _)
          rw [succ32] at c5
          exact ih (i + 1) (by omega) (fun j hj => by
            by_cases e : j = i
            · rw [e]; exact hv
            · exact he j (by omega)) c5
        · exact ⟨25, _, 0, Or.inl rfl, Or.inr ⟨rfl, fun q => hv (q.2 i (by omega))⟩, c4.trans (by
            refine XS.icmpNo X0.here hexec rfl (hb hbytes d21) rfl (ii_eq_f hv) ?_
            refine iconstV X0.here hexec rfl 0 (hb hbytes d24) (by decide) ?_
            exact Steps.refl _)⟩
    obtain ⟨pc, Ls, v, hpc, hv, cz⟩ := loop A.slots.size 0 (by omega) (fun j hj => absurd hj (Nat.not_lt_zero j)) c3
    have nv : narrow .boolean (.int v) = .int v := by rcases hv with ⟨rfl, -⟩ | ⟨rfl, -⟩ <;> rfl
    rcases hpc with rfl | rfl
    · exact ⟨s₁, some (.int v), _, _, _, X0, rfl, rfl, rfl, (fun h => by cases h), ⟨v, rfl, hh0, hv⟩, fun fs hl => cz.trans (X0.ireturnOut hexec hret nv (Or.inr (Or.inl rfl)) (hb hbytes d25) hl)⟩
    · exact ⟨s₁, some (.int v), _, _, _, X0, rfl, rfl, rfl, (fun h => by cases h), ⟨v, rfl, hh0, hv⟩, fun fs hl => cz.trans (X0.ireturnOut hexec hret nv (Or.inr (Or.inl rfl)) (hb hbytes d33) hl)⟩
  · have c3 : Steps p.tables e below (s₁.setTop (entryFrame m #[.ref a, .ref b] 3)) (s₁.setTop (mkF m 35 #[.val (.ref a), .val (.ref b), .unset] [.int 0])) := c2.trans (by
      refine XS.icmpYes X0.here hexec rfl (pc0 := 4) rfl (hb hbytes d4) rfl (ii_ne_t (ne32 a31 b31 hs)) (by decide) rfl ?_
      refine iconstV X0.here hexec rfl 0 (hb hbytes d34) (by decide) ?_
      exact Steps.refl _)
    exact ⟨s₁, some (.int 0), _, _, _, X0, rfl, rfl, rfl, (fun h => by cases h), ⟨0, rfl, hh0, Or.inr ⟨rfl, fun q => hs q.1⟩⟩, fun fs hl => c3.trans (X0.ireturnOut hexec hret rfl (Or.inr (Or.inl rfl)) (hb hbytes d35) hl)⟩
end LEq
theorem Cod.ty {cd : Int32} {n : Nat} {f : Nat → Int32} {V : Cell} (h : Cod cd n f V) : Typed .byte V := fun i v hv => by
  have hi : i < V.slots.size := (Array.getElem?_eq_some_iff.mp hv).1
  rcases h with ⟨-, k1, k2⟩ | ⟨-, k1, k2, -⟩
  · rw [(k2 i (by omega)).1] at hv; cases hv; exact fits_lo8 _
  · rcases Nat.mod_two_eq_zero_or_one i with e | e
    · obtain ⟨j, rfl⟩ : ∃ j, i = 2 * j := ⟨i / 2, by omega⟩
      rw [(k2 j (by omega)).1] at hv; cases hv; exact fits_lo8 _
    · obtain ⟨j, rfl⟩ : ∃ j, i = 2 * j + 1 := ⟨i / 2, by omega⟩
      rw [(k2 j (by omega)).2] at hv; cases hv; exact fits_lo8 _
/-- the same text -/
def SameT (n : Nat) (f : Nat → Int32) (k : Nat) (g : Nat → Int32) : Prop := n = k ∧ ∀ j, j < n → f j = g j
theorem lo8_inj {x y : Int32} (h0 : ¬ x < 0) (h1 : ¬ 255 < x) (k0 : ¬ y < 0) (k1 : ¬ 255 < y) (h : lo8 x = lo8 y) : x = y := by
  rw [← lo8_mask h0 h1, ← lo8_mask k0 k1, h]
/-- arrays coded by one coder are equal just where the texts are -/
theorem Cod.eqv {cd : Int32} {n k : Nat} {f g : Nat → Int32} {V V' : Cell} (h : Cod cd n f V) (h' : Cod cd k g V') (hf : ∀ j, j < n → ¬ f j < 0 ∧ ¬ 65535 < f j) (hg : ∀ j, j < k → ¬ g j < 0 ∧ ¬ 65535 < g j) : EqC V V' ↔ SameT n f k g := by
  have yvv : ∀ {W : Cell} {i : Nat} {x : Int32}, W.slots[i]? = some (.int x) → yv W i = x := fun q => by unfold yv; rw [q]
  rcases h with ⟨rfl, k1, k2⟩ | ⟨rfl, k1, k2, -⟩
  · rcases h' with ⟨-, m1, m2⟩ | ⟨e, -⟩
    · constructor
      · rintro ⟨e1, e2⟩
        refine ⟨by omega, fun j hj => ?_⟩
        have q := e2 j (by omega)
        rw [yvv (k2 j hj).1, yvv (m2 j (by omega)).1] at q
        exact lo8_inj (hf j hj).1 (k2 j hj).2 (hg j (by omega)).1 (m2 j (by omega)).2 q
      · rintro ⟨rfl, e2⟩
        refine ⟨by omega, fun j hj => ?_⟩
        rw [yvv (k2 j (by omega)).1, yvv (m2 j (by omega)).1, e2 j (by omega)]
    · exact absurd e (by decide)
  · rcases h' with ⟨e, -⟩ | ⟨-, m1, m2, -⟩
    · exact absurd e (by decide)
    · constructor
      · rintro ⟨e1, e2⟩
        refine ⟨by omega, fun j hj => ?_⟩
        have q1 := e2 (2 * j) (by omega)
        have q2 := e2 (2 * j + 1) (by omega)
        rw [yvv (k2 j hj).1, yvv (m2 j (by omega)).1] at q1
        rw [yvv (k2 j hj).2, yvv (m2 j (by omega)).2] at q2
        rw [← pair_says (hf j hj).1 (hf j hj).2, ← pair_says (hg j (by omega)).1 (hg j (by omega)).2, q1, q2]
      · rintro ⟨rfl, e2⟩
        refine ⟨by omega, fun i hi => ?_⟩
        rcases Nat.mod_two_eq_zero_or_one i with e | e
        · obtain ⟨j, rfl⟩ : ∃ j, i = 2 * j := ⟨i / 2, by omega⟩
          rw [yvv (k2 j (by omega)).1, yvv (m2 j (by omega)).1, e2 j (by omega)]
        · obtain ⟨j, rfl⟩ : ∃ j, i = 2 * j + 1 := ⟨i / 2, by omega⟩
          rw [yvv (k2 j (by omega)).2, yvv (m2 j (by omega)).2, e2 j (by omega)]
/-- two codings differ: so do the texts -/
theorem Cod.dif {cd cd' : Int32} {n k : Nat} {f g : Nat → Int32} {V V' : Cell} (h : Cod cd n f V) (h' : Cod cd' k g V') (hne : ¬ cd = cd') : ¬ SameT n f k g := by
  rintro ⟨rfl, e⟩
  rcases h with ⟨rfl, -, k2⟩ | ⟨rfl, -, -, j, hj, hw⟩
  · rcases h' with ⟨rfl, -⟩ | ⟨-, -, -, j, hj, hw⟩
    · exact hne rfl
    · exact (k2 j hj).2 (by rw [e j hj]; exact hw)
  · rcases h' with ⟨-, -, m2⟩ | ⟨rfl, -⟩
    · exact (m2 j hj).2 (by rw [← e j hj]; exact hw)
    · exact hne rfl
/-- an object of exactly C is an instance of C -/
theorem cinst {p : Program} {l : Launch} {e : Env} {R : Room} {s : State} {m : MethodId} {args : Array Value} {below : List Frame} {meth : Method} {c : Code} {T : State} {locs : List Loc} {cells slots : Nat} (X : Stand p l e R s m args below meth c T locs cells slots) (hexec : p.tables.exec = Jvm.exec) {own C : String} {index : Nat} (hown : s.vm.findClass own = some m.cls) (hlink : (Cond.classLink own index C).before args s = true) {a : Addr} (hE : Exact C a T)
    {g : JFrame} (hg : g.method = m) {rest : List Value} (hstack : g.stack = .ref a :: rest) (hdg : decode c.code g.pc = .ok (.instanceof index, 3)) :
    ∃ T', Stand p l e R s m args below meth c T' locs cells slots ∧ T'.heap = T.heap ∧ ∀ target, Steps p.tables e below (T'.setTop { g with pc := g.pc + 3, stack := .int 1 :: rest }) target → Steps p.tables e below (T.setTop g) target := by
  obtain ⟨cB, h1, D, h2, h3, h4⟩ := hE
  have h1' : s.vm.findClass C = some cB := by rw [← X.warmed.alike.findClass]; exact h1
  obtain ⟨vm', X', st⟩ := X.instanceofYes hexec hown hlink h2 h4 h1' (by rw [h3]; exact Jvm.Free.SB.assignable_self _ _) hg hstack hdg
  exact ⟨_, X', rfl, st⟩
theorem cself {p : Program} {l : Launch} {e : Env} {R : Room} {s : State} {m : MethodId} {args : Array Value} {below : List Frame} {meth : Method} {c : Code} {T : State} {locs : List Loc} {cells slots : Nat} (X : Stand p l e R s m args below meth c T locs cells slots) (hexec : p.tables.exec = Jvm.exec) {own C : String} {index : Nat} (hown : s.vm.findClass own = some m.cls) (hlink : (Cond.classLink own index C).before args s = true) {a : Addr} (hE : Exact C a T)
    {g : JFrame} (hg : g.method = m) {rest : List Value} (hstack : g.stack = .ref a :: rest) (hdg : decode c.code g.pc = .ok (.checkcast index, 3)) :
    ∃ T', Stand p l e R s m args below meth c T' locs cells slots ∧ T'.heap = T.heap ∧ ∀ target, Steps p.tables e below (T'.setTop { g with pc := g.pc + 3, stack := .ref a :: rest }) target → Steps p.tables e below (T.setTop g) target := by
  obtain ⟨cB, h1, D, h2, h3, h4⟩ := hE
  have h1' : s.vm.findClass C = some cB := by rw [← X.warmed.alike.findClass]; exact h1
  obtain ⟨vm', X', st⟩ := X.checkcastYes hexec hown hlink h2 h4 h1' (by rw [h3]; exact Jvm.Free.SB.assignable_self _ _) hg hstack hdg
  exact ⟨_, X', rfl, fun t h => st t (by rw [← hstack] at h; exact h)⟩
namespace SEq
def yN : MethodName := ⟨"java/lang/String", "equals", "(Ljava/lang/Object;)Z"⟩
abbrev yB : ByteArray := jdk_42_method_66_code
theorem d0 : decode yB 0 = .ok (.aload_n 0, 1) := by decide +kernel
theorem d1 : decode yB 1 = .ok (.aload_n 1, 1) := by decide +kernel
theorem d2 : decode yB 2 = .ok (.if_acmp (.ne) 5, 3) := by decide +kernel
theorem d5 : decode yB 5 = .ok (.iconst 1, 1) := by decide +kernel
theorem d6 : decode yB 6 = .ok (.ireturn, 1) := by decide +kernel
theorem d7 : decode yB 7 = .ok (.aload_n 1, 1) := by decide +kernel
theorem d8 : decode yB 8 = .ok (.instanceof 10, 3) := by decide +kernel
theorem d11 : decode yB 11 = .ok (.ifCond (.eq) 43, 3) := by decide +kernel
theorem d14 : decode yB 14 = .ok (.aload_n 1, 1) := by decide +kernel
theorem d15 : decode yB 15 = .ok (.checkcast 10, 3) := by decide +kernel
theorem d18 : decode yB 18 = .ok (.astore_n 2, 1) := by decide +kernel
theorem d19 : decode yB 19 = .ok (.getstatic 38, 3) := by decide +kernel
theorem d22 : decode yB 22 = .ok (.ifCond (.eq) 14, 3) := by decide +kernel
theorem d25 : decode yB 25 = .ok (.aload_n 0, 1) := by decide +kernel
theorem d26 : decode yB 26 = .ok (.getfield 15, 3) := by decide +kernel
theorem d29 : decode yB 29 = .ok (.aload_n 2, 1) := by decide +kernel
theorem d30 : decode yB 30 = .ok (.getfield 15, 3) := by decide +kernel
theorem d33 : decode yB 33 = .ok (.if_icmp (.ne) 21, 3) := by decide +kernel
theorem d36 : decode yB 36 = .ok (.aload_n 0, 1) := by decide +kernel
theorem d37 : decode yB 37 = .ok (.getfield 9, 3) := by decide +kernel
theorem d40 : decode yB 40 = .ok (.aload_n 2, 1) := by decide +kernel
theorem d41 : decode yB 41 = .ok (.getfield 9, 3) := by decide +kernel
theorem d44 : decode yB 44 = .ok (.invokestatic 541, 3) := by decide +kernel
theorem d47 : decode yB 47 = .ok (.ifCond (.eq) 7, 3) := by decide +kernel
theorem d50 : decode yB 50 = .ok (.iconst 1, 1) := by decide +kernel
theorem d51 : decode yB 51 = .ok (.goto 4, 3) := by decide +kernel
theorem d54 : decode yB 54 = .ok (.iconst 0, 1) := by decide +kernel
theorem d55 : decode yB 55 = .ok (.ireturn, 1) := by decide +kernel
def site : List Cond := [.classLink "java/lang/String" 10 "java/lang/String", .fieldLink "java/lang/String" 38 "java/lang/String" "COMPACT_STRINGS" "Z", .fieldLink "java/lang/String" 15 "java/lang/String" "coder" "B", .fieldLink "java/lang/String" 9 "java/lang/String" "value" "[B", LEq.tab] ++ staticW "java/lang/String" 541 LEq.yN
def tab : Cond := tabOf yN yB 3 (some .boolean) site
def P (x t : Addr) (V : Cell) (cd : Int32) (n : Nat) (f : Nat → Int32) (y t' : Addr) (V' : Cell) (cd' : Int32) (k : Nat) (g : Nat → Int32) (z : Int32) (args : Array Value) (s : State) : Prop := args = #[.ref x, .ref y] ∧ Txt x t V cd n f s ∧ Txt y t' V' cd' k g s ∧ StaticIs s "java/lang/String" "COMPACT_STRINGS" "Z" (.int z) ∧ ¬ z = 0
/-- equals(Object) of two Strings: whether the texts are the same -/
theorem law (l : Launch) (x t : Addr) (V : Cell) (cd : Int32) (n : Nat) (f : Nat → Int32) (y t' : Addr) (V' : Cell) (cd' : Int32) (k : Nat) (g : Nat → Int32) (z : Int32) : Law l yN 2 1 1 14 yB 3 (some .boolean) site (P x t V cd n f y t' V' cd' k g z) (Says01 (SameT n f k g)) [] 0 0 := by
  refine Law.of_walk (plainFor_of_name (by decide +kernel)) (by decide +kernel) (by decide +kernel) (by decide) (fun _ _ h => by rw [h.1]; rfl) (fun _ U U' hal hh h => ⟨h.1, h.2.1.mv hal hh, h.2.2.1.mv hal hh, h.2.2.2.1.there hal hh, h.2.2.2.2⟩) (fun r U U' V V' h1 hal h2 h => Says01.mv r U U' V V' h1 hal h2 h) ?_
  intro p e s m args below meth c s₁ X0 hexec hbytes hml hret hlk hnm hown hh0 W hP
  obtain ⟨rfl, hx, hy, s1, hz⟩ := hP
  have c1 : Steps p.tables e below (s₁.setTop (entryFrame m #[.ref x, .ref y] 3)) (s₁.setTop (mkF m 2 #[.val (.ref x), .val (.ref y), .unset] [.ref y, .ref x])) := Steps.trans (entry rfl) (by
    show Steps p.tables e below (s₁.setTop (mkF m 0 #[.val (.ref x), .val (.ref y), .unset] [])) _
    refine XS.aloadN X0.here hexec rfl (hb hbytes d0) rfl rfl ?_
    refine XS.aloadN X0.here hexec rfl (hb hbytes d1) rfl rfl ?_
    exact Steps.refl _)
  by_cases hxy : x = y
  · have c2 : Steps p.tables e below (s₁.setTop (entryFrame m #[.ref x, .ref y] 3)) (s₁.setTop (mkF m 6 #[.val (.ref x), .val (.ref y), .unset] [.int 1])) := c1.trans (by
      refine acmpNo X0.here hexec rfl (hb hbytes d2) rfl rfl rfl (by simp [acmp, hxy]) ?_
      refine iconstV X0.here hexec rfl 1 (hb hbytes d5) (by decide) ?_
      exact Steps.refl _)
    subst hxy
    have ec : cd = cd' := by
      obtain ⟨D, fd, a1, a2, a3⟩ := hx.2.2.1
      obtain ⟨D', fd', b1, b2, b3⟩ := hy.2.2.1
      cases a1.symm.trans b1
      obtain ⟨q1, q2, q3, q4⟩ := a2.1
      obtain ⟨r1, r2, r3, r4⟩ := b2.1
      cases q4.symm.trans r4
      cases a3.symm.trans b3; rfl
    have et : t = t' := by
      obtain ⟨D, fd, a1, a2, a3⟩ := hx.2.1
      obtain ⟨D', fd', b1, b2, b3⟩ := hy.2.1
      cases a1.symm.trans b1
      obtain ⟨q1, q2, q3, q4⟩ := a2.1
      obtain ⟨r1, r2, r3, r4⟩ := b2.1
      cases q4.symm.trans r4
      cases a3.symm.trans b3; rfl
    subst ec et
    have ev : V = V' := by cases hx.2.2.2.1.1.symm.trans hy.2.2.2.1.1; rfl
    subst ev
    have hs : SameT n f k g := (Cod.eqv hx.2.2.2.2.1 hy.2.2.2.2.1 hx.2.2.2.2.2 hy.2.2.2.2.2).mp ⟨rfl, fun _ _ => rfl⟩
    exact ⟨s₁, some (.int 1), _, _, _, X0, rfl, rfl, rfl, (fun h => by cases h), ⟨1, rfl, hh0, Or.inl ⟨rfl, hs⟩⟩, fun fs hl => c2.trans (X0.ireturnOut hexec hret rfl (Or.inr (Or.inl rfl)) (hb hbytes d6) hl)⟩
  · have c2 : Steps p.tables e below (s₁.setTop (entryFrame m #[.ref x, .ref y] 3)) (s₁.setTop (mkF m 8 #[.val (.ref x), .val (.ref y), .unset] [.ref y])) := c1.trans (by
      refine acmpYes X0.here hexec rfl (pc0 := 2) rfl (hb hbytes d2) rfl rfl rfl (by simp [acmp, hxy]) (by decide) rfl ?_
      refine XS.aloadN X0.here hexec rfl (hb hbytes d7) rfl rfl ?_
      exact Steps.refl _)
    obtain ⟨T3, X3, q3, st3⟩ := cinst X0 hexec hown (wk W (.classLink "java/lang/String" 10 "java/lang/String")) (hy.mv X0.warmed.alike hh0).1 (g := (mkF m 8 #[.val (.ref x), .val (.ref y), .unset] [.ref y])) rfl (rest := []) rfl (hb hbytes d8)
    have hh3 := q3.trans hh0
    have c4 : Steps p.tables e below (s₁.setTop (entryFrame m #[.ref x, .ref y] 3)) (T3.setTop (mkF m 15 #[.val (.ref x), .val (.ref y), .unset] [.ref y])) := (c2.trans (st3 _ (Steps.refl _))).trans (by
      refine XS.ifNo X3.here hexec rfl (hb hbytes d11) rfl (i0_eq_f (by decide)) ?_
      refine XS.aloadN X3.here hexec rfl (hb hbytes d14) rfl rfl ?_
      exact Steps.refl _)
    obtain ⟨T5, X5, q5, st5⟩ := cself X3 hexec hown (wk W (.classLink "java/lang/String" 10 "java/lang/String")) (hy.mv X3.warmed.alike hh3).1 (g := (mkF m 15 #[.val (.ref x), .val (.ref y), .unset] [.ref y])) rfl (rest := []) rfl (hb hbytes d15)
    have hh5 := q5.trans hh3
    have c6 : Steps p.tables e below (s₁.setTop (entryFrame m #[.ref x, .ref y] 3)) (T5.setTop (mkF m 19 #[.val (.ref x), .val (.ref y), .val (.ref y)] [])) := (c4.trans (st5 _ (Steps.refl _))).trans (by
      refine XS.astoreN X5.here hexec rfl (hb hbytes d18) rfl rfl rfl ?_
      exact Steps.refl _)
    obtain ⟨T7, X7, q7, st7⟩ := X5.sget hexec hown (wk W (.fieldLink "java/lang/String" 38 "java/lang/String" "COMPACT_STRINGS" "Z")) s1 (fun _ _ h => by rw [hh5]; exact h) (g := (mkF m 19 #[.val (.ref x), .val (.ref y), .val (.ref y)] [])) rfl (hb hbytes d19)
    have hh7 := q7.trans hh5
    have c8 : Steps p.tables e below (s₁.setTop (entryFrame m #[.ref x, .ref y] 3)) (T7.setTop (mkF m 26 #[.val (.ref x), .val (.ref y), .val (.ref y)] [.ref x])) := (c6.trans (st7 _ (Steps.refl _))).trans (by
      refine XS.ifNo X7.here hexec rfl (hb hbytes d22) rfl (i0_eq_f hz) ?_
      refine XS.aloadN X7.here hexec rfl (hb hbytes d25) rfl rfl ?_
      exact Steps.refl _)
    obtain ⟨T9, X9, q9, st9⟩ := X7.hget hexec hown (wk W (.fieldLink "java/lang/String" 15 "java/lang/String" "coder" "B")) (hx.mv X7.warmed.alike hh7).2.2.1 (g := (mkF m 26 #[.val (.ref x), .val (.ref y), .val (.ref y)] [.ref x])) rfl (rest := []) rfl (hb hbytes d26)
    have hh9 := q9.trans hh7
    have c10 : Steps p.tables e below (s₁.setTop (entryFrame m #[.ref x, .ref y] 3)) (T9.setTop (mkF m 30 #[.val (.ref x), .val (.ref y), .val (.ref y)] [.ref y, .int cd])) := (c8.trans (st9 _ (Steps.refl _))).trans (by
      refine XS.aloadN X9.here hexec rfl (hb hbytes d29) rfl rfl ?_
      exact Steps.refl _)
    obtain ⟨T11, X11, q11, st11⟩ := X9.hget hexec hown (wk W (.fieldLink "java/lang/String" 15 "java/lang/String" "coder" "B")) (hy.mv X9.warmed.alike hh9).2.2.1 (g := (mkF m 30 #[.val (.ref x), .val (.ref y), .val (.ref y)] [.ref y, .int cd])) rfl (rest := [.int cd]) rfl (hb hbytes d30)
    have hh11 := q11.trans hh9
    have c12 : Steps p.tables e below (s₁.setTop (entryFrame m #[.ref x, .ref y] 3)) (T11.setTop (mkF m 33 #[.val (.ref x), .val (.ref y), .val (.ref y)] [.int cd', .int cd])) := c10.trans (st11 _ (Steps.refl _))
    by_cases hcd : cd = cd'
    · subst hcd
      have c13 : Steps p.tables e below (s₁.setTop (entryFrame m #[.ref x, .ref y] 3)) (T11.setTop (mkF m 37 #[.val (.ref x), .val (.ref y), .val (.ref y)] [.ref x])) := c12.trans (by
        refine XS.icmpNo X11.here hexec rfl (hb hbytes d33) rfl (ii_ne_f rfl) ?_
        refine XS.aloadN X11.here hexec rfl (hb hbytes d36) rfl rfl ?_
        exact Steps.refl _)
      obtain ⟨T14, X14, q14, st14⟩ := X11.hget hexec hown (wk W (.fieldLink "java/lang/String" 9 "java/lang/String" "value" "[B")) (hx.mv X11.warmed.alike hh11).2.1 (g := (mkF m 37 #[.val (.ref x), .val (.ref y), .val (.ref y)] [.ref x])) rfl (rest := []) rfl (hb hbytes d37)
      have hh14 := q14.trans hh11
      have c15 : Steps p.tables e below (s₁.setTop (entryFrame m #[.ref x, .ref y] 3)) (T14.setTop (mkF m 41 #[.val (.ref x), .val (.ref y), .val (.ref y)] [.ref y, .ref t])) := (c13.trans (st14 _ (Steps.refl _))).trans (by
        refine XS.aloadN X14.here hexec rfl (hb hbytes d40) rfl rfl ?_
        exact Steps.refl _)
      obtain ⟨T16, X16, q16, st16⟩ := X14.hget hexec hown (wk W (.fieldLink "java/lang/String" 9 "java/lang/String" "value" "[B")) (hy.mv X14.warmed.alike hh14).2.1 (g := (mkF m 41 #[.val (.ref x), .val (.ref y), .val (.ref y)] [.ref y, .ref t])) rfl (rest := [.ref t]) rfl (hb hbytes d41)
      have hh16 := q16.trans hh14
      have c17 : Steps p.tables e below (s₁.setTop (entryFrame m #[.ref x, .ref y] 3)) (T16.setTop (mkF m 44 #[.val (.ref x), .val (.ref y), .val (.ref y)] [.ref t', .ref t])) := c15.trans (st16 _ (Steps.refl _))
      obtain ⟨v18, T18, X18, E18, g18⟩ := X16.callS hexec (LEq.law l t V t' V') hown (wks W (staticW "java/lang/String" 541 LEq.yN)) (wk W LEq.tab) (W := 0) (Nat.le_of_ble_eq_true rfl) (Nat.le_of_ble_eq_true rfl) (Nat.le_refl _) (Nat.le_refl _) (g := (mkF m 44 #[.val (.ref x), .val (.ref y), .val (.ref y)] [.ref t', .ref t])) rfl (by rw [hml]; rfl) c17 (argsL := [.ref t, .ref t']) (rest := []) rfl rfl (by show 2 * 0 + 0 ≤ _; decide) (hb hbytes d44) (⟨rfl, hx.2.2.2.1.mv X16.warmed.alike hh16, hx.2.2.2.2.1.ty, hy.2.2.2.1.mv X16.warmed.alike hh16, hy.2.2.2.2.1.ty⟩)
      obtain ⟨v, rfl, q18, hv⟩ := E18
      have iff := Cod.eqv hx.2.2.2.2.1 hy.2.2.2.2.1 hx.2.2.2.2.2 hy.2.2.2.2.2
      rcases hv with ⟨rfl, he⟩ | ⟨rfl, he⟩
      · have c19 : Steps p.tables e below (s₁.setTop (entryFrame m #[.ref x, .ref y] 3)) (T18.setTop (mkF m 55 #[.val (.ref x), .val (.ref y), .val (.ref y)] [.int 1])) := Steps.trans g18 (by
          refine XS.ifNo X18.here hexec rfl (hb hbytes d47) rfl (i0_eq_f (by decide)) ?_
          refine iconstV X18.here hexec rfl 1 (hb hbytes d50) (by decide) ?_
          refine XS.goto X18.here hexec rfl (pc0 := 51) rfl (hb hbytes d51) (by decide) rfl ?_
          exact Steps.refl _)
        exact ⟨T18, some (.int 1), _, _, _, X18, rfl, rfl, rfl, (fun h => by cases h), ⟨1, rfl, q18.trans hh16, Or.inl ⟨rfl, iff.mp he⟩⟩, fun fs hl => c19.trans (X18.ireturnOut hexec hret rfl (Or.inr (Or.inl rfl)) (hb hbytes d55) hl)⟩
      · have c19 : Steps p.tables e below (s₁.setTop (entryFrame m #[.ref x, .ref y] 3)) (T18.setTop (mkF m 55 #[.val (.ref x), .val (.ref y), .val (.ref y)] [.int 0])) := Steps.trans g18 (by
          refine XS.ifYes X18.here hexec rfl (pc0 := 47) rfl (hb hbytes d47) rfl (i0_eq_t rfl) (by decide) rfl ?_
          refine iconstV X18.here hexec rfl 0 (hb hbytes d54) (by decide) ?_
          exact Steps.refl _)
        exact ⟨T18, some (.int 0), _, _, _, X18, rfl, rfl, rfl, (fun h => by cases h), ⟨0, rfl, q18.trans hh16, Or.inr ⟨rfl, fun q => he (iff.mpr q)⟩⟩, fun fs hl => c19.trans (X18.ireturnOut hexec hret rfl (Or.inr (Or.inl rfl)) (hb hbytes d55) hl)⟩
    · have c13 : Steps p.tables e below (s₁.setTop (entryFrame m #[.ref x, .ref y] 3)) (T11.setTop (mkF m 55 #[.val (.ref x), .val (.ref y), .val (.ref y)] [.int 0])) := c12.trans (by
        refine XS.icmpYes X11.here hexec rfl (pc0 := 33) rfl (hb hbytes d33) rfl (ii_ne_t hcd) (by decide) rfl ?_
        refine iconstV X11.here hexec rfl 0 (hb hbytes d54) (by decide) ?_
        exact Steps.refl _)
      exact ⟨T11, some (.int 0), _, _, _, X11, rfl, rfl, rfl, (fun h => by cases h), ⟨0, rfl, hh11, Or.inr ⟨rfl, Cod.dif hx.2.2.2.2.1 hy.2.2.2.2.1 hcd⟩⟩, fun fs hl => c13.trans (X11.ireturnOut hexec hret rfl (Or.inr (Or.inl rfl)) (hb hbytes d55) hl)⟩
theorem pays {l : Launch} {R : Room} {p : Program} {e : Env} {below : List Frame} {s : State} {sargs : Array Value} {len W : Nat} (x t : Addr) (V : Cell) (cd : Int32) (n : Nat) (f : Nat → Int32) (y t' : Addr) (V' : Cell) (cd' : Int32) (k : Nat) (g : Nat → Int32) (z : Int32) (htab : tab.before sargs s = true) (hfr : 2 ≤ R.frames) (hlo : W + 28 ≤ R.locals) :
    Back l R p e below s sargs yN len W (fun A₁ a₁ => A₁.cells + 0 ≤ R.cells ∧ A₁.slots + 0 ≤ R.slots ∧ P x t V cd n f y t' V' cd' k g z a₁ A₁.U) (fun A₁ _ v₁ B₁ => Says01 (SameT n f k g) v₁ A₁.U B₁.U ∧ B₁.locs = A₁.locs ++ [] ∧ B₁.cells = A₁.cells + 0 ∧ B₁.slots = A₁.slots + 0) :=
  (law l x t V cd n f y t' V' cd' k g z).pays htab hfr (by omega)
end SEq
end StrChars
namespace StrChars.Road
open Jvm Sem ClassFile Op Lib Jvm.Stand Jvm.Free Jvm.Free.XT
open Jvm.Lib.Cold (StaticIs)
/-- the words of String.isEmpty() -/
abbrev wordsEmp : List Jvm.Cond := [.code Emp.yN Emp.yB 1 (some .boolean), .initialized ST, .fieldLink ST 9 ST "value" "[B"]
theorem tabEmp_of {a : Array Value} {s : State} (h : ∀ w ∈ wordsEmp, w.before a s = true) : Emp.tab.before a s = true := unparts (wk h (.code Emp.yN Emp.yB 1 (some .boolean))) (wks h (.initialized Emp.yN.cls :: Emp.site))
theorem movedEmp {Z s : State} {a0 args : Array Value} (hZ : Z.Warmed39 s.vm) (hw : ∀ d ∈ wordsEmp, d.before a0 Z = true) : ∀ d ∈ wordsEmp, d.before args s = true := fun d hd => by
  have t : ∀ d ∈ wordsEmp, (d.onTables && d.keepsFace) = true := by decide +kernel
  exact RoadKit.mv hZ (hw d hd) (t d hd)
/-- the words of String.equals(Object) -/
abbrev wordsEq : List Jvm.Cond := [.code SEq.yN SEq.yB 3 (some .boolean), .initialized ST, .classLink ST 10 ST, .fieldLink ST 38 ST "COMPACT_STRINGS" "Z", .fieldLink ST 15 ST "coder" "B", .fieldLink ST 9 ST "value" "[B", .methodLink ST 541 LEq.yN, .static LEq.yN, .code LEq.yN LEq.yB 3 (some .boolean), .initialized "java/lang/StringLatin1"]
theorem tabEq_of {a : Array Value} {s : State} (h : ∀ w ∈ wordsEq, w.before a s = true) : SEq.tab.before a s = true := by
  have hl : LEq.tab.before a s = true := unparts (wk h (.code LEq.yN LEq.yB 3 (some .boolean))) (wks h (.initialized LEq.yN.cls :: LEq.site))
  have q := consq hl h
  exact unparts (wk q (.code SEq.yN SEq.yB 3 (some .boolean))) (wks q (.initialized SEq.yN.cls :: SEq.site))
theorem movedEq {Z s : State} {a0 args : Array Value} (hZ : Z.Warmed39 s.vm) (hw : ∀ d ∈ wordsEq, d.before a0 Z = true) : ∀ d ∈ wordsEq, d.before args s = true := fun d hd => by
  have t : ∀ d ∈ wordsEq, (d.onTables && d.keepsFace) = true := by decide +kernel
  exact RoadKit.mv hZ (hw d hd) (t d hd)
/-- the road's facts of a String, as the laws ask it -/
theorem txt_of {Z U : State} {a0 : Array Value} {kI : Nat} (wi : (Jvm.Cond.instantiable ST kI).before a0 Z = true) (al : Z.vm.Alike U.vm) {x t : Addr} {kb : ClassId} {cs : List Int32} {cd N2 : Int32} {vs : List Value} (E : RoadKit.Exa Z U.heap x ST) (V : RoadKit.Fld Z U.heap x ST "value" "[B" (.ref t)) (C : RoadKit.Fld Z U.heap x ST "coder" "B" (.int cd)) (K : RoadKit.Arv Z U.heap t kb .byte N2 vs (.int 0)) (hc : CodA cs cd N2 vs) (hb : ∀ c ∈ cs, ¬ c < 0 ∧ ¬ (65535 : Int32) < c) (l2 : cs.length ≤ 4000) :
    ∃ A, Txt x t A cd cs.length (fun j => cs.getD j 0) U := by
  obtain ⟨A, K1, K2, K3, K4, K5, K6⟩ := K
  have hcod := hc.cod (by omega) K3 K5
  obtain ⟨D, fV, fC, hB, F1, F2, g1, g2, -, -⟩ := strObj wi al E V C
  exact ⟨A, ⟨_, hB.2.2.1, D, hB.1, rfl, by cases q : D.vm <;> first | rfl | exact absurd q (hB.2.1.2 _)⟩, Has.of hB F1 g1, Has.of hB F2 g2, ⟨K1.1, State.isArrayOf_alike al K1.2.1, K1.2.2, by rcases hcod with ⟨-, q, -⟩ | ⟨-, q, -⟩ <;> omega⟩, hcod, fun j hj => by
    have e : cs.getD j 0 = cs[j] := by simp [List.getD_eq_getElem?_getD, hj]
    show ¬ cs.getD j 0 < 0 ∧ ¬ 65535 < cs.getD j 0
    rw [e]; exact hb _ (List.getElem_mem _)⟩
theorem same_list (cs ds : List Int32) : SameT cs.length (fun j => cs.getD j 0) ds.length (fun j => ds.getD j 0) ↔ cs = ds := by
  constructor
  · rintro ⟨e, q⟩
    refine List.ext_getElem e fun j h1 h2 => ?_
    have := q j h1
    simpa [List.getD_eq_getElem?_getD, h1, h2] using this
  · rintro rfl
    exact ⟨rfl, fun _ _ => rfl⟩
/-- **isEmpty() OF SUCH A STRING** -/
theorem empW {p : Program} {l : Launch} {e : Env} {R : Room} {s : State} {args : Array Value} {below : List Frame} {len W : Nat} {Z : State} {a0 : Array Value} {h : Heap} (hZ : Z.Warmed39 s.vm) (hw : ∀ d ∈ wordsEmp, d.before a0 Z = true) {kI : Nat} (wi : (Jvm.Cond.instantiable ST kI).before a0 Z = true)
    {x t : Addr} {kb : ClassId} {cs : List Int32} {cd N2 : Int32} {vs : List Value} (E : RoadKit.Exa Z h x ST) (V : RoadKit.Fld Z h x ST "value" "[B" (.ref t)) (C : RoadKit.Fld Z h x ST "coder" "B" (.int cd)) (K : RoadKit.Arv Z h t kb .byte N2 vs (.int 0)) (hc : CodA cs cd N2 vs) (hb : ∀ c ∈ cs, ¬ c < 0 ∧ ¬ (65535 : Int32) < c) (l2 : cs.length ≤ 4000) (hfr : 1 ≤ R.frames) (hlo : W + 12 ≤ R.locals) :
    Back l R p e below s args (⟨"java/lang/String", "isEmpty", "()Z"⟩ : MethodName) len W (fun P a => a = #[.ref x] ∧ P.U.heap = h ∧ P.cells + 0 ≤ R.cells ∧ P.slots + 0 ≤ R.slots)
      (fun P _ v B => ∃ L, (v = some (.int (if cs.length = 0 then 1 else 0)) ∧ L = [] ∧ B.U.heap = h) ∧ B.locs = P.locs ++ L ∧ B.cells = P.cells + 0 ∧ B.slots = P.slots + 0) := by
  intro m meth c P g ig mk a X hg hsize hdg hW hn hp'
  obtain ⟨rfl, rfl, r1, r2⟩ := hp'
  have al : Z.vm.Alike P.U.vm := hZ.alike.trans X.warmed.alike
  obtain ⟨A, hx⟩ := txt_of wi al E V C K hc hb l2
  obtain ⟨v, B, X', ⟨⟨hv, hh⟩, hl, hk, hs⟩, st⟩ := Emp.pays x t A cd cs.length (fun j => cs.getD j 0) (tabEmp_of (movedEmp hZ hw)) hfr hlo m meth c P g ig mk _ X hg hsize hdg hW hn ⟨r1, r2, rfl, hx⟩
  exact ⟨v, B, X', ⟨[], ⟨hv, rfl, hh⟩, hl, hk, hs⟩, st⟩
/-- **equals(Object) OF TWO SUCH STRINGS**: 1 just where the chars are the same -/
theorem eqW {p : Program} {l : Launch} {e : Env} {R : Room} {s : State} {args : Array Value} {below : List Frame} {len W : Nat} {Z : State} {a0 : Array Value} {h : Heap} (hZ : Z.Warmed39 s.vm) (hw : ∀ d ∈ wordsEq, d.before a0 Z = true) {kI : Nat} (wi : (Jvm.Cond.instantiable ST kI).before a0 Z = true)
    {x t : Addr} {kb : ClassId} {cs : List Int32} {cd N2 : Int32} {vs : List Value} (E : RoadKit.Exa Z h x ST) (V : RoadKit.Fld Z h x ST "value" "[B" (.ref t)) (C : RoadKit.Fld Z h x ST "coder" "B" (.int cd)) (K : RoadKit.Arv Z h t kb .byte N2 vs (.int 0)) (hc : CodA cs cd N2 vs) (hb : ∀ c ∈ cs, ¬ c < 0 ∧ ¬ (65535 : Int32) < c) (l2 : cs.length ≤ 4000)
    {y t' : Addr} {kb' : ClassId} {ds : List Int32} {cd' N2' : Int32} {vs' : List Value} (E' : RoadKit.Exa Z h y ST) (V' : RoadKit.Fld Z h y ST "value" "[B" (.ref t')) (C' : RoadKit.Fld Z h y ST "coder" "B" (.int cd')) (K' : RoadKit.Arv Z h t' kb' .byte N2' vs' (.int 0)) (hc' : CodA ds cd' N2' vs') (hb' : ∀ c ∈ ds, ¬ c < 0 ∧ ¬ (65535 : Int32) < c) (l2' : ds.length ≤ 4000)
    {z : Int32} (S : RoadKit.Sta Z h ST "COMPACT_STRINGS" "Z" (.int z)) (hz : ¬ z = 0) (hfr : 2 ≤ R.frames) (hlo : W + 28 ≤ R.locals) :
    Back l R p e below s args (⟨"java/lang/String", "equals", "(Ljava/lang/Object;)Z"⟩ : MethodName) len W (fun P a => a = #[.ref x, .ref y] ∧ P.U.heap = h ∧ P.cells + 0 ≤ R.cells ∧ P.slots + 0 ≤ R.slots)
      (fun P _ v B => ∃ L, (((v = some (.int 1) ∧ cs = ds) ∨ (v = some (.int 0) ∧ ¬ cs = ds)) ∧ L = [] ∧ B.U.heap = h) ∧ B.locs = P.locs ++ L ∧ B.cells = P.cells + 0 ∧ B.slots = P.slots + 0) := by
  intro m meth c P g ig mk a X hg hsize hdg hW hn hp'
  obtain ⟨rfl, rfl, r1, r2⟩ := hp'
  have al : Z.vm.Alike P.U.vm := hZ.alike.trans X.warmed.alike
  obtain ⟨A, hx⟩ := txt_of wi al E V C K hc hb l2
  obtain ⟨A', hy⟩ := txt_of wi al E' V' C' K' hc' hb' l2'
  obtain ⟨v, B, X', ⟨⟨w, hv, hh, hq⟩, hl, hk, hs⟩, st⟩ := SEq.pays x t A cd cs.length (fun j => cs.getD j 0) y t' A' cd' ds.length (fun j => ds.getD j 0) z (tabEq_of (movedEq hZ hw)) hfr hlo m meth c P g ig mk _ X hg hsize hdg hW hn ⟨r1, r2, rfl, hx, hy, sta_is al S, hz⟩
  refine ⟨v, B, X', ⟨[], ⟨?_, rfl, hh⟩, hl, hk, hs⟩, st⟩
  rcases hq with ⟨rfl, q⟩ | ⟨rfl, q⟩
  · exact Or.inl ⟨hv, (same_list cs ds).mp q⟩
  · exact Or.inr ⟨hv, fun e => q ((same_list cs ds).mpr e)⟩
end StrChars.Road
namespace StrChars.Road
open Jvm Sem ClassFile Op Lib Jvm.Stand Jvm.Free Jvm.Free.XT
open Jvm.Lib.Cold (StaticIs)
/-- what backV says of its String, as the contracts of this text ask it: cs's low bytes, coder 0 -/
theorem codOf {cs : List Int32} {n : Nat} (hn : cs.length = n) (hb : ∀ c ∈ cs, ¬ 255 < c) : CodA cs 0 (Int32.ofNat n) ((cs.map lo8).map Value.int) := Or.inl ⟨rfl, by rw [hn], by simp [List.map_map, Function.comp_def], hb⟩
end StrChars.Road
end Jvm.Pilot.@@N@@
namespace Jvm.OwnKit
open Sem ClassFile Op Lib Bundle Jvm.Stand Jvm.Free Jvm.LawKit Jvm.RoadKit Jvm.Free.SB Jvm.Free.SBG
section KitW
variable {p : Program} {l : Launch} {e : Env} {R : Room} {s : State} {m : MethodId} {args : Array Value} {below : List Frame} {meth : Method} {c : Code} {T : State} {locs : List Loc} {cells slots : Nat} {Z : State} {a0 : Array Value} {h h' h0 : Heap} {Q : Option Value → Heap → List Loc → Prop} {k n : Nat} {EL : List (String × Nat)} {vm0 vm1 : Vm}
/-- the tables vm0 came of s's; what was interned meanwhile lies in h -/
def Snc (s : State) (vm0 : Vm) (h : Heap) : Prop := ∃ k0, s.Since vm0 k0 ∧ k0 ≤ h.size
theorem Snc.up (B : Snc s vm0 h) (q : h.size ≤ h'.size) : Snc s vm0 h' := by obtain ⟨k0, b, hk⟩ := B; exact ⟨k0, b, Nat.le_trans hk q⟩
theorem Snc.ext (B : Snc s vm0 h) (E : Ext h h') : Snc s vm0 h' := B.up E.1
theorem Snc.keep {ws : List Addr} (B : Snc s vm0 h) (K : Keep h h' ws) : Snc s vm0 h' := B.up K.1
theorem Snc.wr {a : Addr} {sl : Nat} {v : Value} (B : Snc s vm0 h) (W : Wr h h' a sl v) : Snc s vm0 h' := B.up (Nat.le_of_eq W.size.symm)
/-- from A on the body comes to its end (it may intern literals) -/
def FinW (p : Program) (e : Env) (below : List Frame) (s : State) (Z : State) (EL : List (String × Nat)) (h0 : Heap) (Q : Option Value → Heap → List Loc → Prop) (k n : Nat) (A : State) : Prop :=
  ∃ s₂ o, Steps p.tables e below A s₂ ∧ s₂.status = .running ∧ Ended s₂ below o ∧ ∃ v L, o = .returned v ∧ Q v s₂.heap L ∧ CHr Z EL s.vm h0 s₂.vm s₂.heap ∧ ReturnedEndW s o s₂ L k n
theorem FinW.st {A B : State} (hs : ∀ t, Steps p.tables e below B t → Steps p.tables e below A t) (f : FinW p e below s Z EL h0 Q k n B) : FinW p e below s Z EL h0 Q k n A := by
  obtain ⟨s2, o, h1, r⟩ := f; exact ⟨s2, o, hs _ h1, r⟩
abbrev ConW (l : Launch) (Z : State) (EL : List (String × Nat)) (h0 : Heap) (x : MethodName) (bytes : ByteArray) (maxL : Nat) (ret : Option FieldType) (ws : List Cond) (rm : Room) (as : Array Value) (Q : Option Value → Heap → List Loc → Prop) : Prop :=
  MetFree l x (head1 (Cond.code x bytes maxL ret :: ws) rm) (fun a U => a = as ∧ Z.Warmed39 U.vm ∧ U.heap = h0 ∧ CHv Z EL U.vm h0) (fun _ _ _ _ _ => True) (fun _ U o U' => ∃ v L, o = .returned v ∧ Q v U'.heap L ∧ CHr Z EL U.vm U.heap U'.vm U'.heap ∧ ReturnedEndW U o U' L rm.cells rm.slots)
theorem ConW.of {x : MethodName} {bytes : ByteArray} {maxL : Nat} {ret : Option FieldType} {ws : List Cond} {rm : Room} {as : Array Value} (hn : plainFor x = true) {f0 : MethodId → JFrame} (hf0 : ∀ m, entryFrame m as maxL = f0 m)
    (body : ∀ (p : Program) (e : Env) (s : State) (m : MethodId) (below : List Frame) (meth : Method) (c : Code) (T : State) (vm0 : Vm), p.tables.exec = Jvm.exec → c.code = bytes → c.maxLocals = maxL → (s.setVm vm0).vm.findClass x.cls = some m.cls → meth.name = x.name → meth.sig.returnType = ret → meth.locks = false → Z.Warmed39 (s.setVm vm0).vm →
      Stand p l e rm (s.setVm vm0) m as below meth c T [] 0 0 → T.heap = h0 → Snc s vm0 h0 → CHr Z EL s.vm h0 vm0 h0 → Z.Warmed39 s.vm → FinW p e below s Z EL h0 Q rm.cells rm.slots (T.setTop (f0 m))) : ConW l Z EL h0 x bytes maxL ret ws rm as Q := by
  refine MetFree.of_bodySF hn hisR ?_
  intro p e s m args below meth c s₁ Bd hml0 hP hK
  obtain ⟨rfl, hZ, hh, hC⟩ := hP
  have X0 : Stand p l e rm s m args below meth c s₁ [] 0 0 := Stand.of_body Bd
  have e0 : s₁.heap = h0 := by rw [← hh, Bd.state]; rfl
  have q := body p e s m below meth c s₁ s.vm Bd.exec Bd.bytes hml0 (by rw [State.setVm_self]; exact findClass_of_methodNamed Bd.named) (name_of_methodNamed Bd.named Bd.method).1 Bd.returns (BodyLoose.notSynchronized Bd) (by rw [State.setVm_self]; exact hZ) (by rw [State.setVm_self]; exact X0) e0 ⟨h0.size, (State.WarmedH.refl s).since _, Nat.le_refl _⟩ (CHr.refl hC) hZ
  rw [hf0 m, hh]
  exact q
abbrev PayS (l : Launch) (R : Room) (p : Program) (e : Env) (below : List Frame) (s : State) (vm0 : Vm) (args : Array Value) (y : MethodName) (len W : Nat) (Z : State) (EL : List (String × Nat)) (as : Array Value) (h : Heap) (rc rs : Nat) (Q : Option Value → Heap → List Loc → Prop) : Prop :=
  BackS l R p e below (s.setVm vm0) args y len W (fun A a => a = as ∧ A.U.heap = h ∧ A.cells + rc ≤ R.cells ∧ A.slots + rs ≤ R.slots)
      (fun A _ v B => ∃ L, Q v B.U.heap L ∧ B.locs = A.locs ++ L ∧ B.cells = A.cells + rc ∧ B.slots = A.slots + rs ∧ CHr Z EL vm0 h B.U.vm B.U.heap)
theorem ConW.pay {y : MethodName} {bytes : ByteArray} {maxL : Nat} {ret : Option FieldType} {rm : Room} {len W : Nat} {as : Array Value} (hM : ConW l Z EL h y bytes maxL ret [] rm as Q)
    (hZ : Z.Warmed39 (s.setVm vm0).vm) (wc : (Cond.code y bytes maxL ret).before a0 Z = true) (wz : (Cond.initialized y.cls).before a0 Z = true) (hf : rm.frames + 1 ≤ R.frames) (hl : W + (maxL + 11) + rm.locals ≤ R.locals) (hEL : EW Z a0 EL) (H : CHr Z EL s.vm h0 vm0 h) :
    PayS l R p e below s vm0 args y len W Z EL as h rm.cells rm.slots Q := backOfSH hM hZ wc wz hf hl hEL H.1
theorem goIW (X : Stand p l e R (s.setVm vm0) m args below meth c T locs cells slots) (hx : p.tables.exec = Jvm.exec) (hZ : Z.Warmed39 (s.setVm vm0).vm) {own : String} (hown : (s.setVm vm0).vm.findClass own = some m.cls) {index : Nat} {y : MethodName} (hy1 : y.name = "<init>") (w1 : (Cond.methodLink own index y).before a0 Z = true) (w2 : (Cond.instanceMethod y).before a0 Z = true)
    {bytes : ByteArray} {maxL : Nat} (w3 : (Cond.code y bytes maxL none).before a0 Z = true) (hy : y.cls ≠ "java/lang/invoke/MethodHandle" ∧ y.cls ≠ "java/lang/invoke/VarHandle") {W rc rs : Nat} {as : Array Value} (hK : PayS l R p e below s vm0 args y 3 W Z EL as h rc rs Q) (eT : T.heap = h) (B : Snc s vm0 h)
    {g : JFrame} (hg : g.method = m) (hsize : g.locals.size = c.maxLocals) {a : Addr} (argsL rest : List Value) (hlen : ∀ sig, parseMethodDescriptor y.desc = some sig → argsL.length = sig.parameters.length) (hstack : g.stack = argsL.reverse ++ .ref a :: rest) (hW : 2 * g.monitorRoom + (rest.map fun v => v.category).sum ≤ W)
    (hdg : decode c.code g.pc = .ok (.invokespecial index, 3)) (has : (Value.ref a :: argsL).toArray = as) (hc : cells + rc ≤ R.cells) (hs : slots + rs ≤ R.slots) :
    ∃ (v : Option Value) (T' : State) (h' : Heap) (L : List Loc), Stand p l e R (s.setVm T'.vm) m args below meth c T' (locs ++ L) (cells + rc) (slots + rs) ∧ T'.heap = h' ∧ Q v h' L ∧ CHr Z EL vm0 h T'.vm h' ∧ Snc s T'.vm h' ∧ Z.Warmed39 (s.setVm T'.vm).vm ∧ (s.setVm T'.vm).vm.findClass own = some m.cls ∧ ∀ t, Steps p.tables e below (T'.setTop { g with pc := g.pc + 3, stack := v.toList ++ rest }) t → Steps p.tables e below (T.setTop g) t := by
  obtain ⟨v, _, ⟨T', L', k', n'⟩, -, X', hS, hgr, ⟨L, hQ, l1, y1, z1, hC⟩, st⟩ := X.specialBackS hx hy1 hown (mvT hZ w1) (mvT hZ w2) (mvT hZ w3) hy hK hg hsize (Steps.refl _) hlen hstack hW hdg (fun _ _ => ⟨has, eT, hc, hs⟩)
  dsimp only [Pt.U, Pt.locs, Pt.cells, Pt.slots] at X' l1 y1 z1 st hQ hS hgr hC
  subst l1 y1 z1
  obtain ⟨k0, b, hk⟩ := B
  obtain ⟨r1, r2, r3, r4⟩ := rebS b hk X' hS (by rw [← eT]; exact hgr) hZ hown
  exact ⟨v, T', _, L, r1, rfl, hQ, hC, ⟨_, r2, Nat.le_refl _⟩, r3, r4, fun t q => st.trans q⟩
theorem goVW (X : Stand p l e R (s.setVm vm0) m args below meth c T locs cells slots) (hx : p.tables.exec = Jvm.exec) (hZ : Z.Warmed39 (s.setVm vm0).vm) {own : String} (hown : (s.setVm vm0).vm.findClass own = some m.cls) {index : Nat} {C : String} {y z : MethodName} (w1 : (Cond.methodLink own index y).before a0 Z = true) (w2 : (Cond.declares y).before a0 Z = true)
    (w3 : (Cond.selects C y z).before a0 Z = true) (nf : NotFace (s.setVm vm0) y) (w4 : (Cond.instanceMethod z).before a0 Z = true) (hy : y.cls ≠ "java/lang/invoke/MethodHandle" ∧ y.cls ≠ "java/lang/invoke/VarHandle") {W rc rs : Nat} {as : Array Value} (hK : PayS l R p e below s vm0 args z 3 W Z EL as h rc rs Q) (eT : T.heap = h) (B : Snc s vm0 h) {a : Addr} (E : Exa Z h a C)
    {g : JFrame} (hg : g.method = m) (hsize : g.locals.size = c.maxLocals) (argsL rest : List Value) (hlen : ∀ sig, parseMethodDescriptor y.desc = some sig → argsL.length = sig.parameters.length) (hstack : g.stack = argsL.reverse ++ .ref a :: rest) (hW : 2 * g.monitorRoom + (rest.map fun v => v.category).sum ≤ W)
    (hdg : decode c.code g.pc = .ok (.invokevirtual index, 3)) (has : (Value.ref a :: argsL).toArray = as) (hc : cells + rc ≤ R.cells) (hs : slots + rs ≤ R.slots) :
    ∃ (v : Option Value) (T' : State) (h' : Heap) (L : List Loc), Stand p l e R (s.setVm T'.vm) m args below meth c T' (locs ++ L) (cells + rc) (slots + rs) ∧ T'.heap = h' ∧ Q v h' L ∧ CHr Z EL vm0 h T'.vm h' ∧ Snc s T'.vm h' ∧ Z.Warmed39 (s.setVm T'.vm).vm ∧ (s.setVm T'.vm).vm.findClass own = some m.cls ∧ ∀ t, Steps p.tables e below (T'.setTop { g with pc := g.pc + 3, stack := v.toList ++ rest }) t → Steps p.tables e below (T.setTop g) t := by
  obtain ⟨cB, kB, q1, -, q3⟩ := isOf hZ eT E
  obtain ⟨v, _, ⟨T', L', k', n'⟩, -, X', hS, hgr, ⟨L, hQ, l1, y1, z1, hC⟩, st⟩ := X.virtualBackS hx hown (mvT hZ w1) (mvT hZ w2) nf (mvT hZ w3) (mvT hZ w4) hy hK q1 q3 hg hsize (Steps.refl _) hlen hstack hW hdg (fun _ _ => ⟨has, eT, hc, hs⟩)
  dsimp only [Pt.U, Pt.locs, Pt.cells, Pt.slots] at X' l1 y1 z1 st hQ hS hgr hC
  subst l1 y1 z1
  obtain ⟨k0, b, hk⟩ := B
  obtain ⟨r1, r2, r3, r4⟩ := rebS b hk X' hS (by rw [← eT]; exact hgr) hZ hown
  exact ⟨v, T', _, L, r1, rfl, hQ, hC, ⟨_, r2, Nat.le_refl _⟩, r3, r4, fun t q => st.trans q⟩
theorem goSW (X : Stand p l e R (s.setVm vm0) m args below meth c T locs cells slots) (hx : p.tables.exec = Jvm.exec) (hZ : Z.Warmed39 (s.setVm vm0).vm) {own : String} (hown : (s.setVm vm0).vm.findClass own = some m.cls) {index : Nat} {y : MethodName} (w1 : (Cond.methodLink own index y).before a0 Z = true) (w2 : (Cond.static y).before a0 Z = true) (w3 : (Cond.initialized y.cls).before a0 Z = true)
    {bytes : ByteArray} {maxL : Nat} {ret : Option FieldType} (w4 : (Cond.code y bytes maxL ret).before a0 Z = true) (hy : y.cls ≠ "java/lang/invoke/MethodHandle" ∧ y.cls ≠ "java/lang/invoke/VarHandle") {W rc rs : Nat} {as : Array Value} (hK : PayS l R p e below s vm0 args y 3 W Z EL as h rc rs Q) (eT : T.heap = h) (B : Snc s vm0 h)
    {g : JFrame} (hg : g.method = m) (hsize : g.locals.size = c.maxLocals) (argsL rest : List Value) (hlen : ∀ sig, parseMethodDescriptor y.desc = some sig → argsL.length = sig.parameters.length) (hstack : g.stack = argsL.reverse ++ rest) (hW : 2 * g.monitorRoom + (rest.map fun v => v.category).sum ≤ W)
    (hdg : decode c.code g.pc = .ok (.invokestatic index, 3)) (has : argsL.toArray = as) (hc : cells + rc ≤ R.cells) (hs : slots + rs ≤ R.slots) :
    ∃ (v : Option Value) (T' : State) (h' : Heap) (L : List Loc), Stand p l e R (s.setVm T'.vm) m args below meth c T' (locs ++ L) (cells + rc) (slots + rs) ∧ T'.heap = h' ∧ Q v h' L ∧ CHr Z EL vm0 h T'.vm h' ∧ Snc s T'.vm h' ∧ Z.Warmed39 (s.setVm T'.vm).vm ∧ (s.setVm T'.vm).vm.findClass own = some m.cls ∧ ∀ t, Steps p.tables e below (T'.setTop { g with pc := g.pc + 3, stack := v.toList ++ rest }) t → Steps p.tables e below (T.setTop g) t := by
  obtain ⟨v, _, ⟨T', L', k', n'⟩, -, X', hS, hgr, ⟨L, hQ, l1, y1, z1, hC⟩, st⟩ := callSS X hx hown (mvT hZ w1) (mvT hZ w2) (mvT hZ w3) (mvT hZ w4) hy hK hg hsize hlen hstack hW hdg (fun _ _ => ⟨has, eT, hc, hs⟩)
  dsimp only [Pt.U, Pt.locs, Pt.cells, Pt.slots] at X' l1 y1 z1 st hQ hS hgr hC
  subst l1 y1 z1
  obtain ⟨k0, b, hk⟩ := B
  obtain ⟨r1, r2, r3, r4⟩ := rebS b hk X' hS (by rw [← eT]; exact hgr) hZ hown
  exact ⟨v, T', _, L, r1, rfl, hQ, hC, ⟨_, r2, Nat.le_refl _⟩, r3, r4, fun t q => st.trans q⟩
theorem fin_ofW (X : Stand p l e R (s.setVm vm0) m args below meth c T locs cells slots) (hlk : meth.locks = false) {v : Option Value} (hv : meth.sig.returnType = none → v = none) {A : State} (eT : T.heap = h) (hZ : Z.Warmed39 (s.setVm vm0).vm) (hEL : EW Z a0 EL) (B : Snc s vm0 h) (H : CHr Z EL s.vm h0 vm0 h) (q : Q v h locs) (hc : cells ≤ k) (hs : slots ≤ n)
    (hst : ∀ fs, (∀ (f : JFrame) (acts : List Action), f.method = m → f.locked = none → f.entered = [] → (doReturn e (T.setTop f) acts v).1 = T.setFrames fs) → Steps p.tables e below A (T.setFrames fs)) : FinW p e below s Z EL h0 Q k n A := by
  obtain ⟨k0, b, hk⟩ := B
  subst eT
  obtain ⟨fs, hr, hrun, hended, h1, h2, h3, h4⟩ := X.leaveW b hk (v := v) hv hlk
  exact ⟨_, _, hst fs hr, hrun, hended, v, locs, rfl, q, (show CHr Z EL s.vm h0 T.vm T.heap from H.trans (CHv.at X hZ hEL H.1)), h1, h2, h3, h4.mono hc hs⟩
theorem finVW (X : Stand p l e R (s.setVm vm0) m args below meth c T locs cells slots) (hx : p.tables.exec = Jvm.exec) (hlk : meth.locks = false) (hret : meth.sig.returnType = none) {pc : Nat} {Ls : Array Slot} (hd : decode c.code pc = .ok (.return_, 1)) (eT : T.heap = h) (hZ : Z.Warmed39 (s.setVm vm0).vm) (hEL : EW Z a0 EL) (B : Snc s vm0 h) (H : CHr Z EL s.vm h0 vm0 h) (q : Q none h locs) (hc : cells ≤ k) (hs : slots ≤ n) : FinW p e below s Z EL h0 Q k n (T.setTop (mkF m pc Ls [])) :=
  fin_ofW X hlk (fun _ => rfl) eT hZ hEL B H q hc hs fun fs hr => X.returnOut hx hret hd hr
theorem finOW (X : Stand p l e R (s.setVm vm0) m args below meth c T locs cells slots) (hx : p.tables.exec = Jvm.exec) (hlk : meth.locks = false) {t : FieldType} {w : Value} {i : Instr} {rest : List Value} (hret : meth.sig.returnType = some t) (hn : narrow t w = w)
    (hi : (i = .ireturn ∧ (t = .int ∨ t = .boolean ∨ t = .byte ∨ t = .char ∨ t = .short) ∧ ∃ z, w = .int z) ∨ (i = .lreturn ∧ t = .long ∧ ∃ z, w = .long z) ∨ (i = .dreturn ∧ t = .double ∧ ∃ z, w = .double z) ∨ (i = .freturn ∧ t = .float ∧ ∃ z, w = .float z) ∨ (i = .areturn ∧ t.isReference = true ∧ w.isRef = true))
    {pc : Nat} {Ls : Array Slot} (hd : decode c.code pc = .ok (i, 1)) (eT : T.heap = h) (hZ : Z.Warmed39 (s.setVm vm0).vm) (hEL : EW Z a0 EL) (B : Snc s vm0 h) (H : CHr Z EL s.vm h0 vm0 h) (q : Q (some w) h locs) (hc : cells ≤ k) (hs : slots ≤ n) : FinW p e below s Z EL h0 Q k n (T.setTop (mkF m pc Ls (w :: rest))) :=
  fin_ofW X hlk (fun hq => by rw [hret] at hq; cases hq) eT hZ hEL B H q hc hs fun fs hr => retOut X hx hret hn hi hd hr
theorem finIW (X : Stand p l e R (s.setVm vm0) m args below meth c T locs cells slots) (hx : p.tables.exec = Jvm.exec) (hlk : meth.locks = false) {z : Int32} {rest : List Value} (hret : meth.sig.returnType = some .int) {pc : Nat} {Ls : Array Slot} (hd : decode c.code pc = .ok (.ireturn, 1)) (eT : T.heap = h) (hZ : Z.Warmed39 (s.setVm vm0).vm) (hEL : EW Z a0 EL) (B : Snc s vm0 h) (H : CHr Z EL s.vm h0 vm0 h) (q : Q (some (.int z)) h locs) (hc : cells ≤ k) (hs : slots ≤ n) : FinW p e below s Z EL h0 Q k n (T.setTop (mkF m pc Ls (.int z :: rest))) :=
  finOW X hx hlk hret rfl (Or.inl ⟨rfl, Or.inl rfl, z, rfl⟩) hd eT hZ hEL B H q hc hs
theorem finAW (X : Stand p l e R (s.setVm vm0) m args below meth c T locs cells slots) (hx : p.tables.exec = Jvm.exec) (hlk : meth.locks = false) {t : FieldType} {w : Value} {rest : List Value} (hret : meth.sig.returnType = some t) (ht : t.isReference = true) (hw : w.isRef = true) (hn : narrow t w = w) {pc : Nat} {Ls : Array Slot} (hd : decode c.code pc = .ok (.areturn, 1)) (eT : T.heap = h) (hZ : Z.Warmed39 (s.setVm vm0).vm) (hEL : EW Z a0 EL) (B : Snc s vm0 h) (H : CHr Z EL s.vm h0 vm0 h) (q : Q (some w) h locs) (hc : cells ≤ k) (hs : slots ≤ n) : FinW p e below s Z EL h0 Q k n (T.setTop (mkF m pc Ls (w :: rest))) :=
  finOW X hx hlk hret hn (Or.inr (Or.inr (Or.inr (Or.inr ⟨rfl, ht, hw⟩)))) hd eT hZ hEL B H q hc hs
theorem finNW (X : Stand p l e R (s.setVm vm0) m args below meth c T locs cells slots) (hx : p.tables.exec = Jvm.exec) (hlk : meth.locks = false) {t : FieldType} {z : Int32} {rest : List Value} (hret : meth.sig.returnType = some t) (ht : t = .boolean ∨ t = .byte ∨ t = .char ∨ t = .short) {pc : Nat} {Ls : Array Slot} (hd : decode c.code pc = .ok (.ireturn, 1)) (eT : T.heap = h) (hZ : Z.Warmed39 (s.setVm vm0).vm) (hEL : EW Z a0 EL) (B : Snc s vm0 h) (H : CHr Z EL s.vm h0 vm0 h) (q : Q (some (.int (nar t z))) h locs) (hc : cells ≤ k) (hs : slots ≤ n) : FinW p e below s Z EL h0 Q k n (T.setTop (mkF m pc Ls (.int z :: rest))) :=
  fin_ofW X hlk (fun hq => by rw [hret] at hq; cases hq) eT hZ hEL B H q hc hs fun fs hr => retN X hx hret ht hd hr
theorem join1W {α : Type} {P : α → Prop} {A : α → State} {B : State} (hj : ∀ a, P a → FinW p e below s Z EL h0 Q k n (A a)) (go : (∀ a, P a → FinW p e below s Z EL h0 Q k n (A a)) → FinW p e below s Z EL h0 Q k n B) : FinW p e below s Z EL h0 Q k n B := go hj
theorem joinHW {α : Type} {P : α → State → Heap → List Loc → Vm → Prop} {A : α → State → State} {B : State} (hj : ∀ a T h L vm, P a T h L vm → FinW p e below s Z EL h0 Q k n (A a T)) (go : (∀ a T h L vm, P a T h L vm → FinW p e below s Z EL h0 Q k n (A a T)) → FinW p e below s Z EL h0 Q k n B) : FinW p e below s Z EL h0 Q k n B := go hj
/-- a String whose value isn't set yet is no booked one's cell -/
theorem Safe.null {x : Addr} (hal : Z.vm.Alike vm0) (E : Exa Z h x "java/lang/String") (F : Fld Z h x "java/lang/String" "value" "[B" .null) : Safe Z EL vm0 h x := fun B => by
  obtain ⟨cell, k, e1, e2, e3, -, -⟩ := E
  have nm : ∀ {n : String} {c : ClassId}, vm0.findClass n = some c → c = cell.cls → n = "java/lang/String" := fun {n c} f e => by
    subst e
    rw [hal.findClass] at f
    obtain ⟨k1, q1, q2⟩ := Vm.findClass_spec f
    obtain ⟨k2, q3, q4⟩ := Vm.findClass_spec e2
    cases q1.symm.trans q3
    exact q2.symm.trans q4
  obtain ⟨p, -, u, a, -, q, -, G, rfl | rfl⟩ := B
  · have ha := G.ha
    obtain ⟨cS, ⟨⟨-, -, -, ⟨c1, k1, i1, f1, -⟩, -, -, -, v1, -⟩, -⟩, -⟩ := G
    obtain ⟨k', z4⟩ := ff_back (U := Wst Z vm0 h) hal f1
    obtain ⟨cell', cf, k2, i, f, h1, h2, -, -, -, -, h7⟩ := F
    cases (show h[q.sa]? = some q.sC from ha).symm.trans h1
    cases z4.symm.trans h2
    rw [v1] at h7
    cases h7
  · cases (show h[q.sd]? = some q.SA from G.hd).symm.trans e1
    obtain ⟨cS, -, -, f, -⟩ := G
    exact absurd (nm f rfl) (by decide)
/-- ldc of a literal whose text is read -/
theorem ldcRd (X : Stand p l e R (s.setVm vm0) m args below meth c T locs cells slots) (hx : p.tables.exec = Jvm.exec) (hZ : Z.Warmed39 (s.setVm vm0).vm) {own text : String} {index : Nat} (hown : (s.setVm vm0).vm.findClass own = some m.cls) (w : (Cond.stringLink own index text).before a0 Z = true) (wS : ∀ a ∈ Bundle.stringAtoms, a.before a0 Z = true)
    (eT : T.heap = h) (B : Snc s vm0 h) (hEL : EW Z a0 EL) (hmem : (own, index) ∈ EL) (H : CHr Z EL s.vm h0 vm0 h)
    {vs : List Value} {z : Int32} (ht : (∀ c ∈ text.toList, c.toNat < 256) ∧ text.toList.map (fun c => Value.int (Jvm.Lit.byteI c.toNat.toUInt16)) = vs) (hz : ¬ z < 0) (hl : z.toNatClampNeg = vs.length)
    {g : JFrame} (hg : g.method = m) (hd : decode c.code g.pc = .ok (.ldc index, 2)) {n : Nat} (hn : 4 * text.toList.length ≤ n) (hbig : n ≤ 536870912) (hc : cells + 2 ≤ R.cells) (hl' : slots + (n + 4) ≤ R.slots) :
    ∃ (a : Addr) (T' : State) (h' : Heap) (b : Addr) (k : ClassId), Stand p l e R (s.setVm T'.vm) m args below meth c T' locs (cells + 2) (slots + (n + 4)) ∧ T'.heap = h' ∧ Ext h h' ∧ Snc s T'.vm h' ∧ Z.Warmed39 (s.setVm T'.vm).vm ∧ (s.setVm T'.vm).vm.findClass own = some m.cls ∧
      Exa Z h' a "java/lang/String" ∧ Fld Z h' a "java/lang/String" "coder" "B" (.int 0) ∧ Fld Z h' a "java/lang/String" "value" "[B" (.ref b) ∧ Arv Z h' b k .byte z vs (.int 0) ∧ CHr Z EL s.vm h0 T'.vm h' ∧ (∀ x, Safe Z EL T'.vm h' x → x ≠ a ∧ x ≠ b) ∧
      ∀ target, Steps p.tables e below (T'.setTop { g with pc := g.pc + 2, stack := .ref a :: g.stack }) target → Steps p.tables e below (T.setTop g) target := by
  obtain ⟨k0, b0, hk⟩ := B
  obtain ⟨a, T', h', k1, b, kk, X', e', E, hS, hk1, hZ', hown', q1, q2, q3, q4, -, -, hC, -, hne, st⟩ := ldcCH X hx hZ hown w wS eT b0 hk hEL hmem H.1 ht hz hl hg hd hn hbig hc hl'
  exact ⟨a, T', h', b, kk, X', e', E, ⟨k1, hS, hk1⟩, hZ', hown', q1, q2, q3, q4, H.trans hC, hne, st⟩
/-- ldc of a literal of whose text nothing is asked -/
theorem ldcOp (X : Stand p l e R (s.setVm vm0) m args below meth c T locs cells slots) (hx : p.tables.exec = Jvm.exec) (hZ : Z.Warmed39 (s.setVm vm0).vm) {own text : String} {index : Nat} (hown : (s.setVm vm0).vm.findClass own = some m.cls) (w : (Cond.stringLink own index text).before a0 Z = true) (wS : ∀ a ∈ Bundle.stringAtoms, a.before a0 Z = true)
    (eT : T.heap = h) (B : Snc s vm0 h) (hEL : EW Z a0 EL) (H : CHr Z EL s.vm h0 vm0 h)
    {g : JFrame} (hg : g.method = m) (hd : decode c.code g.pc = .ok (.ldc index, 2)) {n : Nat} (hn : 4 * text.toList.length ≤ n) (hbig : n ≤ 536870912) (hc : cells + 2 ≤ R.cells) (hl' : slots + (n + 4) ≤ R.slots) :
    ∃ (a : Addr) (T' : State) (h' : Heap), Stand p l e R (s.setVm T'.vm) m args below meth c T' locs (cells + 2) (slots + (n + 4)) ∧ T'.heap = h' ∧ Ext h h' ∧ Snc s T'.vm h' ∧ Z.Warmed39 (s.setVm T'.vm).vm ∧ (s.setVm T'.vm).vm.findClass own = some m.cls ∧ CHr Z EL s.vm h0 T'.vm h' ∧
      ∀ target, Steps p.tables e below (T'.setTop { g with pc := g.pc + 2, stack := .ref a :: g.stack }) target → Steps p.tables e below (T.setTop g) target := by
  obtain ⟨k0, b0, hk⟩ := B
  obtain ⟨a, T', h', k1, X', e', E, hS, hk1, hZ', hown', hC, -, st⟩ := ldcOH X hx hZ hown w wS eT b0 hk hEL H.1 hg hd hn hbig hc hl'
  exact ⟨a, T', h', X', e', E, ⟨k1, hS, hk1⟩, hZ', hown', H.trans hC, st⟩
end KitW
end Jvm.OwnKit
namespace Jvm.Pilot.@@N@@
open Jvm Jvm.ClassFile Sem Op Lib Jvm.Free Jvm.Stand Jvm.LawKit Jvm.RoadKit Bundle Jvm.OwnKit Jvm.Pilot.@@N@@.Jvm.D
section OwnStr
variable {p : Program} {l : Launch} {e : Env} {R : Room} {s : State} {args : Array Value} {below : List Frame} {Z : State} {a0 : Array Value} {h h' : Heap} {x t : Addr} {cs : List Int32}
/-- the String at x, her byte[] at t: the chars cs, each 0 to 255 -/
def Str (Z : State) (h : Heap) (x t : Addr) (cs : List Int32) : Prop := Exa Z h x "java/lang/String" ∧ Fld Z h x "java/lang/String" "coder" "B" (.int 0) ∧ Fld Z h x "java/lang/String" "value" "[B" (.ref t) ∧ (∃ kb, Arv Z h t kb .byte (Int32.ofNat cs.length) ((cs.map fun c => c.toInt8.toInt32).map Value.int) (.int 0)) ∧ (∀ c ∈ cs, ¬ c < 0 ∧ ¬ (255 : Int32) < c) ∧ cs.length ≤ 4000
theorem Str.exa (S : Str Z h x t cs) : Exa Z h x "java/lang/String" := S.1
theorem Str.lt (S : Str Z h x t cs) : x < h.size := S.1.lt
theorem Str.ltt (S : Str Z h x t cs) : t < h.size := by obtain ⟨-, -, -, ⟨kb, V⟩, -⟩ := S; exact V.lt
theorem Str.ext (S : Str Z h x t cs) (E : Ext h h') : Str Z h' x t cs := by obtain ⟨a, b, c, ⟨kb, V⟩, d⟩ := S; exact ⟨a.ext E, b.ext E, c.ext E, ⟨kb, V.ext E⟩, d⟩
theorem Str.keep {ws : List Addr} (S : Str Z h x t cs) (K : Keep h h' ws) (q : x ∉ ws) (r : t ∉ ws) : Str Z h' x t cs := by obtain ⟨a, b, c, ⟨kb, V⟩, d⟩ := S; exact ⟨a.keep K, b.keep K q, c.keep K q, ⟨kb, V.keep K r⟩, d⟩
theorem Str.other {a : Addr} {sl : Nat} {v : Value} (S : Str Z h x t cs) (W : Wr h h' a sl v) (q : x ≠ a) (r : t ≠ a) : Str Z h' x t cs := S.keep (Keep.of_wr W) (ninS q nin0) (ninS r nin0)
theorem up8 (h : ∀ c ∈ cs, ¬ c < 0 ∧ ¬ (255 : Int32) < c) : ∀ c ∈ cs, ¬ c < 0 ∧ ¬ (65535 : Int32) < c := fun c hc => ⟨(h c hc).1, fun q => (h c hc).2 (by rw [Int32.lt_iff_toInt_lt] at q ⊢; have e1 : (65535 : Int32).toInt = 65535 := rfl; have e2 : (255 : Int32).toInt = 255 := rfl; omega)⟩
theorem own_words : ∀ d ∈ StrChars.Road.words, d ∈ tables_1 := by decide +kernel
theorem strNew {len W : Nat} (hZ : Z.Warmed39 s.vm) (hw : ∀ d ∈ tables_1, d.before a0 Z = true) (wi : (Jvm.Cond.instantiable "java/lang/String" 4).before a0 Z = true) {b : Addr} {kC : ClassId} {d v0 c0 : Value} {z : Int32} {n n0 : Nat} (hx0 : n0 ≤ x) (hh0 : n0 ≤ h.size)
    (E : Exa Z h x "java/lang/String") (V : Fld Z h x "java/lang/String" "value" "[B" v0) (C : Fld Z h x "java/lang/String" "coder" "B" c0) (K : Arv Z h b kC .char (Int32.ofNat n) (cs.map Value.int) d) (S : Sta Z h "java/lang/String" "COMPACT_STRINGS" "Z" (.int z)) (hz : ¬ z = 0)
    (hn : cs.length = n) (l0 : 0 < n) (l2 : n ≤ 4000) (hp : ∀ c ∈ cs, ¬ c < 0 ∧ ¬ (255 : Int32) < c) (hfr : 4 ≤ R.frames) (hlo : W + 65 ≤ R.locals) :
    Pay l R p e below s args ⟨"java/lang/String", "<init>", "([C)V"⟩ len W #[.ref x, .ref b] h 1 n (fun v h' L => v = none ∧ Fr n0 L ∧ Keep h h' [x] ∧ ∃ t, n0 ≤ t ∧ h.size ≤ t ∧ ¬ t = x ∧ Str Z h' x t cs) := by
  refine Back.mono (StrChars.Road.backV hZ (fun d hd => hw d (own_words d hd)) wi hx0 hh0 E V C K S hz hn rfl l0 l2 hp rfl hfr hlo) (fun _ _ q => q) (fun P a v B hp' hq => ?_)
  obtain ⟨L, ⟨q1, q2, q3, q4, q5, t, kb, q6, q7, q8, q9, q10⟩, r1, r2, r3⟩ := hq
  subst hn
  exact ⟨L, ⟨q1, q2, q3, t, q6, q7, q8, q4, q5, q9, ⟨kb, q10⟩, hp, l2⟩, r1, r2, r3⟩
end OwnStr
end Jvm.Pilot.@@N@@
namespace Jvm.Pilot.@@N@@
open Jvm Jvm.ClassFile Sem Op Lib Jvm.Free Jvm.Stand Jvm.LawKit Jvm.RoadKit Bundle Jvm.OwnKit Jvm.Pilot.@@N@@.Jvm.D
section OwnStr
variable {p : Program} {l : Launch} {e : Env} {R : Room} {s : State} {args : Array Value} {below : List Frame} {Z : State} {a0 : Array Value} {h h' : Heap} {x t : Addr} {cs : List Int32}
theorem own_wordsEmp : ∀ d ∈ StrChars.Road.wordsEmp, d ∈ tables_1 := by decide +kernel
theorem strEmp {len W : Nat} (hZ : Z.Warmed39 s.vm) (hw : ∀ d ∈ tables_1, d.before a0 Z = true) (wi : (Jvm.Cond.instantiable "java/lang/String" 4).before a0 Z = true) (S : Str Z h x t cs) (hfr : 1 ≤ R.frames) (hlo : W + 12 ≤ R.locals) :
    Pay l R p e below s args ⟨"java/lang/String", "isEmpty", "()Z"⟩ len W #[.ref x] h 0 0 (fun v h' L => v = some (.int (if cs.length = 0 then 1 else 0)) ∧ L = [] ∧ h' = h) := by
  obtain ⟨E, C, V, ⟨kb, K⟩, hp, l2⟩ := S
  exact StrChars.Road.empW hZ (fun d hd => hw d (own_wordsEmp d hd)) wi E V C K (StrChars.Road.codOf rfl (fun c hc => (hp c hc).2)) (up8 hp) l2 hfr hlo
end OwnStr
end Jvm.Pilot.@@N@@
namespace Jvm.Pilot.@@N@@
open Jvm Jvm.ClassFile Sem Op Lib Jvm.Free Jvm.Stand Jvm.LawKit Jvm.RoadKit Bundle Jvm.OwnKit Jvm.Pilot.@@N@@.Jvm.D
section OwnStr
variable {p : Program} {l : Launch} {e : Env} {R : Room} {s : State} {args : Array Value} {below : List Frame} {Z : State} {a0 : Array Value} {h h' : Heap} {x t y u : Addr} {cs ds : List Int32}
theorem own_wordsEq : ∀ d ∈ StrChars.Road.wordsEq, d ∈ tables_1 := by decide +kernel
theorem strEq {len W : Nat} (hZ : Z.Warmed39 s.vm) (hw : ∀ d ∈ tables_1, d.before a0 Z = true) (wi : (Jvm.Cond.instantiable "java/lang/String" 4).before a0 Z = true) {z : Int32} (S : Str Z h x t cs) (S' : Str Z h y u ds) (SC : Sta Z h "java/lang/String" "COMPACT_STRINGS" "Z" (.int z)) (hz : ¬ z = 0) (hfr : 2 ≤ R.frames) (hlo : W + 28 ≤ R.locals) :
    Pay l R p e below s args ⟨"java/lang/String", "equals", "(Ljava/lang/Object;)Z"⟩ len W #[.ref x, .ref y] h 0 0 (fun v h' L => v = some (.int (if cs = ds then 1 else 0)) ∧ L = [] ∧ h' = h) := by
  obtain ⟨E, C, V, ⟨kb, K⟩, hp, l2⟩ := S
  obtain ⟨E', C', V', ⟨kb', K'⟩, hp', l2'⟩ := S'
  refine Back.mono (StrChars.Road.eqW hZ (fun d hd => hw d (own_wordsEq d hd)) wi E V C K (StrChars.Road.codOf rfl (fun c hc => (hp c hc).2)) (up8 hp) l2 E' V' C' K' (StrChars.Road.codOf rfl (fun c hc => (hp' c hc).2)) (up8 hp') l2' SC hz hfr hlo) (fun _ _ q => q) (fun P a v B hp' hq => ?_)
  obtain ⟨L, ⟨q1, q2, q3⟩, r⟩ := hq
  refine ⟨L, ⟨?_, q2, q3⟩, r⟩
  rcases q1 with ⟨rfl, q⟩ | ⟨rfl, q⟩
  · rw [if_pos q]
  · rw [if_neg q]
end OwnStr
end Jvm.Pilot.@@N@@
namespace Jvm.Pilot.@@N@@
open Jvm Jvm.ClassFile Sem Op Lib Jvm.Free Jvm.Stand Jvm.LawKit Jvm.RoadKit Bundle Jvm.OwnKit Jvm.Pilot.@@N@@.Jvm.D
def EL : List (String × Nat) := []
theorem own_EW {a0 : Array Value} {Z : State} (hw : ∀ d ∈ tables_1, d.before a0 Z = true) : EW Z a0 EL := EW.nil
theorem own_wS {a0 : Array Value} {Z : State} (hw : ∀ d ∈ tables_1, d.before a0 Z = true) : ∀ d ∈ Bundle.stringAtoms, d.before a0 Z = true := fun d hd => hw d ((by decide +kernel : ∀ d ∈ Bundle.stringAtoms, d ∈ tables_1) d hd)
theorem eqL {b1 b2 c0 c1 d0 d1 : Int32} {cs1 cs2 : List Int32} (h1 : (b1 = 1 ∧ cs1 = [c0, c1]) ∨ (b1 = 0 ∧ cs1 = [c0])) (h2 : (b2 = 1 ∧ cs2 = [d0, d1]) ∨ (b2 = 0 ∧ cs2 = [d0])) : cs1 = cs2 ↔ b1 = b2 ∧ c0 = d0 ∧ (b1 = 0 ∨ c1 = d1) := by
  rcases h1 with ⟨rfl, rfl⟩ | ⟨rfl, rfl⟩ <;> rcases h2 with ⟨rfl, rfl⟩ | ⟨rfl, rfl⟩ <;> simp
theorem port_ok (x : Int32) : ∃ q : Int32, x &&& 65535 = q ∧ ¬ q < 0 ∧ ¬ 65535 < q := by
  refine ⟨_, rfl, ?_⟩
  have h := c_mask x 65535 16 (by decide) (by decide)
  have h2 : (0 : Int32).toInt = 0 := rfl
  have h3 : (65535 : Int32).toInt = 65535 := rfl
  rw [Int32.lt_iff_toInt_lt, Int32.lt_iff_toInt_lt, h, h2, h3]
  omega
theorem pn_0 : plainName "java/util/Objects" = true := by first | (simp [plainName, overriddenIn]; done) | decide +kernel
theorem d_jdk_31_method_11_0 : decode jdk_31_method_11_code 0 = .ok (.aload_n 0, 1) := by decide +kernel
theorem d_jdk_31_method_11_1 : decode jdk_31_method_11_code 1 = .ok (.ifnonnull 12, 3) := by decide +kernel
theorem d_jdk_31_method_11_13 : decode jdk_31_method_11_code 13 = .ok (.aload_n 0, 1) := by decide +kernel
theorem d_jdk_31_method_11_14 : decode jdk_31_method_11_code 14 = .ok (.areturn, 1) := by decide +kernel
set_option maxRecDepth 65536 in
set_option maxHeartbeats 40000000 in
theorem rmReq (l : Launch) (Z : State) (a0 : Array Value) (hw : ∀ d ∈ tables_1, d.before a0 Z = true) (ws : List Jvm.Cond) (a1 a2 : Addr) (h0 : Heap) (n0 : Nat) (O : Old Z n0 h0)  :
    Con l Z h0 ⟨"java/util/Objects", "requireNonNull", "(Ljava/lang/Object;Ljava/lang/String;)Ljava/lang/Object;"⟩ jdk_31_method_11_code 2 (some (.object "java/lang/Object")) ws ({ frames := 0, cells := 0, slots := 0, locals := 0 } : Room) #[(.ref a1), (.ref a2)] (fun v h L => v = some (.ref a1) ∧ L = [] ∧ h = h0) := by
  refine Con.of (plainFor_of_name pn_0) (f0 := fun m => (mkF m 0 #[.val (.ref a1), .val (.ref a2)] [])) (fun m => by first | (simp [entryFrame, mkF, argsToLocals, Value.category, maxLocals]; done) | rfl) ?_
  intro p e s m below meth c T0 hx hby hml hown hnm hret hlk hZ X0 e0
  have hown : s.vm.findClass "java/util/Objects" = some m.cls := hown
  have N0 := Fr.nil n0
  show FinP p e below s _ _ _ (T0.setTop (mkF m 0 #[.val (.ref a1), .val (.ref a2)] []))
  refine FinP.st (fun _ => XS.aloadN X0.here hx rfl (Jvm.hb hby d_jdk_31_method_11_0) rfl rfl) ?_
  show FinP p e below s _ _ _ (T0.setTop (mkF m 1 #[.val (.ref a1), .val (.ref a2)] [(.ref a1)]))
  refine FinP.st (fun _ => XS.ifnonnullYes X0.here hx rfl (pc0 := 1) (pc' := 13) rfl (Jvm.hb hby d_jdk_31_method_11_1) rfl (by decide) (by decide)) ?_
  show FinP p e below s _ _ _ (T0.setTop (mkF m 13 #[.val (.ref a1), .val (.ref a2)] []))
  refine FinP.st (fun _ => XS.aloadN X0.here hx rfl (Jvm.hb hby d_jdk_31_method_11_13) rfl rfl) ?_
  show FinP p e below s _ _ _ (T0.setTop (mkF m 14 #[.val (.ref a1), .val (.ref a2)] [(.ref a1)]))
  exact finA X0 hx hlk hret rfl rfl rfl (Jvm.hb hby d_jdk_31_method_11_14) e0 ⟨rfl, rfl, rfl⟩ (by decide) (by decide)
theorem pn_1 : plainName "com/example/slot_locator/slotlocator/cluster/NodeAddress" = true := by first | (simp [plainName, overriddenIn]; done) | decide +kernel
theorem d_prog_45_method_1_0 : decode prog_45_method_1_code 0 = .ok (.aload_n 0, 1) := by decide +kernel
theorem d_prog_45_method_1_1 : decode prog_45_method_1_code 1 = .ok (.invokespecial 1, 3) := by decide +kernel
theorem d_prog_45_method_1_4 : decode prog_45_method_1_code 4 = .ok (.aload_n 1, 1) := by decide +kernel
theorem d_prog_45_method_1_5 : decode prog_45_method_1_code 5 = .ok (.ldc 7, 2) := by decide +kernel
theorem pd_0 : parseMethodDescriptor "(Ljava/lang/Object;Ljava/lang/String;)Ljava/lang/Object;" = some ⟨[(.object "java/lang/Object"), (.object "java/lang/String")], some (.object "java/lang/Object")⟩ := by decide +kernel
theorem d_prog_45_method_1_7 : decode prog_45_method_1_code 7 = .ok (.invokestatic 9, 3) := by decide +kernel
theorem d_prog_45_method_1_10 : decode prog_45_method_1_code 10 = .ok (.pop, 1) := by decide +kernel
theorem d_prog_45_method_1_11 : decode prog_45_method_1_code 11 = .ok (.aload_n 1, 1) := by decide +kernel
theorem d_prog_45_method_1_12 : decode prog_45_method_1_code 12 = .ok (.invokevirtual 15, 3) := by decide +kernel
theorem pd_1 : parseMethodDescriptor "()Z" = some ⟨[], some .boolean⟩ := by decide +kernel
theorem d_prog_45_method_1_15 : decode prog_45_method_1_code 15 = .ok (.ifCond .ne 13, 3) := by decide +kernel
theorem d_prog_45_method_1_18 : decode prog_45_method_1_code 18 = .ok (.iload_n 2, 1) := by decide +kernel
theorem d_prog_45_method_1_19 : decode prog_45_method_1_code 19 = .ok (.ifCond .lt 9, 3) := by decide +kernel
theorem d_prog_45_method_1_22 : decode prog_45_method_1_code 22 = .ok (.iload_n 2, 1) := by decide +kernel
theorem d_prog_45_method_1_23 : decode prog_45_method_1_code 23 = .ok (.ldc 23, 2) := by decide +kernel
theorem d_prog_45_method_1_25 : decode prog_45_method_1_code 25 = .ok (.if_icmp .le 18, 3) := by decide +kernel
theorem d_prog_45_method_1_43 : decode prog_45_method_1_code 43 = .ok (.aload_n 0, 1) := by decide +kernel
theorem d_prog_45_method_1_44 : decode prog_45_method_1_code 44 = .ok (.aload_n 1, 1) := by decide +kernel
theorem d_prog_45_method_1_45 : decode prog_45_method_1_code 45 = .ok (.putfield 33, 3) := by decide +kernel
theorem d_prog_45_method_1_48 : decode prog_45_method_1_code 48 = .ok (.aload_n 0, 1) := by decide +kernel
theorem d_prog_45_method_1_49 : decode prog_45_method_1_code 49 = .ok (.iload_n 2, 1) := by decide +kernel
theorem d_prog_45_method_1_50 : decode prog_45_method_1_code 50 = .ok (.putfield 36, 3) := by decide +kernel
theorem d_prog_45_method_1_53 : decode prog_45_method_1_code 53 = .ok (.return_, 1) := by decide +kernel
set_option maxRecDepth 65536 in
set_option maxHeartbeats 40000000 in
theorem rmNA (l : Launch) (Z : State) (a0 : Array Value) (hw : ∀ d ∈ tables_1, d.before a0 Z = true) (ws : List Jvm.Cond) (a1 x t : Addr) (cs : List Int32) (q : Int32) (u1 u2 : Value) (h0 : Heap) (n0 : Nat) (O : Old Z n0 h0) (E1 : Exa Z h0 a1 "com/example/slot_locator/slotlocator/cluster/NodeAddress") (g1 : n0 ≤ a1) (F_host : Fld Z h0 a1 "com/example/slot_locator/slotlocator/cluster/NodeAddress" "host" "Ljava/lang/String;" u1) (F_port : Fld Z h0 a1 "com/example/slot_locator/slotlocator/cluster/NodeAddress" "port" "I" u2) (S : Str Z h0 x t cs) (hne : ¬ cs.length = 0) (q0 : ¬ q < 0) (q1 : ¬ 65535 < q) :
    ConW l Z EL h0 ⟨"com/example/slot_locator/slotlocator/cluster/NodeAddress", "<init>", "(Ljava/lang/String;I)V"⟩ prog_45_method_1_code 3 none ws ({ frames := 1, cells := 2, slots := 20, locals := 14 } : Room) #[(.ref a1), (.ref x), (.int q)] (fun v h L => v = none ∧ Fr n0 L ∧ Keep h0 h [a1] ∧ Exa Z h a1 "com/example/slot_locator/slotlocator/cluster/NodeAddress" ∧ Fld Z h a1 "com/example/slot_locator/slotlocator/cluster/NodeAddress" "host" "Ljava/lang/String;" (.ref x) ∧ Fld Z h a1 "com/example/slot_locator/slotlocator/cluster/NodeAddress" "port" "I" (.int q)) := by
  refine ConW.of (plainFor_of_name pn_1) (f0 := fun m => (mkF m 0 #[.val (.ref a1), .val (.ref x), .val (.int q)] [])) (fun m => by first | (simp [entryFrame, mkF, argsToLocals, Value.category, maxLocals]; done) | rfl) ?_
  intro p e s m below meth c T0 vm0 hx hby hml hown hnm hret hlk hZ X0 e0 B0 CH0 hZs
  have hEL := own_EW hw
  have hown : (s.setVm vm0).vm.findClass "com/example/slot_locator/slotlocator/cluster/NodeAddress" = some m.cls := hown
  have N0 := Fr.nil n0
  have KP0 := Keep.refl h0 [a1]
  have GW0 : Grw h0 h0 := Nat.le_refl _
  show FinW p e below s Z EL h0 _ _ _ (T0.setTop (mkF m 0 #[.val (.ref a1), .val (.ref x), .val (.int q)] []))
  refine FinW.st (fun _ => XS.aloadN X0.here hx rfl (Jvm.hb hby d_prog_45_method_1_0) rfl rfl) ?_
  show FinW p e below s Z EL h0 _ _ _ (T0.setTop (mkF m 1 #[.val (.ref a1), .val (.ref x), .val (.int q)] [(.ref a1)]))
  obtain ⟨T101, X101, e101, st101⟩ := initO X0 hx hZ hown (hw _ (List.mem_of_getElem? (i := 37) rfl)) (hw _ (List.mem_of_getElem? (i := 12) rfl)) (hw _ (List.mem_of_getElem? (i := 13) rfl)) e0 (g := (mkF m 1 #[.val (.ref a1), .val (.ref x), .val (.int q)] [(.ref a1)])) rfl (by rw [hml]; rfl) rfl (Jvm.hb hby d_prog_45_method_1_1) (by decide) (W := 0) (by show 2 * 0 + _ ≤ _; exact Nat.le_of_eq rfl) (by decide)
  refine FinW.st st101 ?_
  show FinW p e below s Z EL h0 _ _ _ (T101.setTop (mkF m 4 #[.val (.ref a1), .val (.ref x), .val (.int q)] []))
  refine FinW.st (fun _ => XS.aloadN X101.here hx rfl (Jvm.hb hby d_prog_45_method_1_4) rfl rfl) ?_
  show FinW p e below s Z EL h0 _ _ _ (T101.setTop (mkF m 5 #[.val (.ref a1), .val (.ref x), .val (.int q)] [(.ref x)]))
  obtain ⟨a102, T102, h102, X102, e102, E102, B102, hZ102, hown102, CH102, st102⟩ := ldcOp X101 hx hZ hown (hw _ (List.mem_of_getElem? (i := 38) rfl)) (own_wS hw) e101 B0 hEL CH0 (g := (mkF m 5 #[.val (.ref a1), .val (.ref x), .val (.int q)] [(.ref x)])) rfl (Jvm.hb hby d_prog_45_method_1_5) (n := 16) (by decide +kernel) (by decide) (by decide) (by decide)
  refine FinW.st st102 ?_
  show FinW p e below s Z EL h0 _ _ _ (T102.setTop (mkF m 7 #[.val (.ref a1), .val (.ref x), .val (.int q)] [(.ref a102), (.ref x)]))
  have f103 := O.ext E102
  obtain ⟨_, T104, h104, L104, X104, e104, ⟨rfl, rfl, q104⟩, st104⟩ := goS X102 hx hZ102 hown102 (hw _ (List.mem_of_getElem? (i := 41) rfl)) (hw _ (List.mem_of_getElem? (i := 42) rfl)) (hw _ (List.mem_of_getElem? (i := 43) rfl)) (hw _ (List.mem_of_getElem? (i := 44) rfl)) (by decide) ((rmReq l Z a0 hw [] x a102 h102 n0 f103).pay (W := 0) hZ102 (hw _ (List.mem_of_getElem? (i := 44) rfl)) (hw _ (List.mem_of_getElem? (i := 43) rfl)) (by decide) (by decide)) e102 (g := (mkF m 7 #[.val (.ref a1), .val (.ref x), .val (.int q)] [(.ref a102), (.ref x)])) rfl (by rw [hml]; rfl) [(.ref x), (.ref a102)] [] (lenOf pd_0 rfl) rfl (by show 2 * 0 + _ ≤ _; exact Nat.le_of_eq rfl) (Jvm.hb hby d_prog_45_method_1_7) rfl (by decide) (by decide)
  have e104 := e104.trans q104
  have N104 := N0.app (Fr.nil n0)
  refine FinW.st st104 ?_
  show FinW p e below s Z EL h0 _ _ _ (T104.setTop (mkF m 10 #[.val (.ref a1), .val (.ref x), .val (.int q)] [(.ref x)]))
  refine FinW.st (fun _ => XS.pop X104.here hx rfl (Jvm.hb hby d_prog_45_method_1_10) rfl rfl) ?_
  show FinW p e below s Z EL h0 _ _ _ (T104.setTop (mkF m 11 #[.val (.ref a1), .val (.ref x), .val (.int q)] []))
  refine FinW.st (fun _ => XS.aloadN X104.here hx rfl (Jvm.hb hby d_prog_45_method_1_11) rfl rfl) ?_
  show FinW p e below s Z EL h0 _ _ _ (T104.setTop (mkF m 12 #[.val (.ref a1), .val (.ref x), .val (.int q)] [(.ref x)]))
  have f105 := S.ext E102
  obtain ⟨_, T106, h106, L106, X106, e106, ⟨rfl, rfl, q106⟩, st106⟩ := goV X104 hx hZ102 hown102 (hw _ (List.mem_of_getElem? (i := 45) rfl)) (hw _ (List.mem_of_getElem? (i := 46) rfl)) (hw _ (List.mem_of_getElem? (i := 48) rfl)) (notFace_of_selects (args := #[]) (mvT hZ102 (hw _ (List.mem_of_getElem? (i := 48) rfl)))) (hw _ (List.mem_of_getElem? (i := 47) rfl)) (by decide) (strEmp (len := 3) (W := 0) hZ102 hw (hw _ (List.mem_of_getElem? (i := 1) rfl)) f105 (by decide) (by decide)) e104 f105.exa (g := (mkF m 12 #[.val (.ref a1), .val (.ref x), .val (.int q)] [(.ref x)])) rfl (by rw [hml]; rfl) [] [] (lenOf pd_1 rfl) rfl (by show 2 * 0 + _ ≤ _; exact Nat.le_of_eq rfl) (Jvm.hb hby d_prog_45_method_1_12) rfl (by decide) (by decide)
  have e106 := e106.trans q106
  have N106 := N104.app (Fr.nil n0)
  refine FinW.st st106 ?_
  show FinW p e below s Z EL h0 _ _ _ (T106.setTop (mkF m 15 #[.val (.ref a1), .val (.ref x), .val (.int q)] [(.int (if cs.length = 0 then (1 : Int32) else 0))]))
  refine FinW.st (fun _ => XS.ifNo X106.here hx rfl (Jvm.hb hby d_prog_45_method_1_15) rfl (zneN (if_neg hne))) ?_
  show FinW p e below s Z EL h0 _ _ _ (T106.setTop (mkF m 18 #[.val (.ref a1), .val (.ref x), .val (.int q)] []))
  refine FinW.st (fun _ => XS.iloadN X106.here hx rfl (Jvm.hb hby d_prog_45_method_1_18) rfl) ?_
  show FinW p e below s Z EL h0 _ _ _ (T106.setTop (mkF m 19 #[.val (.ref a1), .val (.ref x), .val (.int q)] [(.int q)]))
  refine FinW.st (fun _ => XS.ifNo X106.here hx rfl (Jvm.hb hby d_prog_45_method_1_19) rfl (zltN q0)) ?_
  show FinW p e below s Z EL h0 _ _ _ (T106.setTop (mkF m 22 #[.val (.ref a1), .val (.ref x), .val (.int q)] []))
  refine FinW.st (fun _ => XS.iloadN X106.here hx rfl (Jvm.hb hby d_prog_45_method_1_22) rfl) ?_
  show FinW p e below s Z EL h0 _ _ _ (T106.setTop (mkF m 23 #[.val (.ref a1), .val (.ref x), .val (.int q)] [(.int q)]))
  refine FinW.st (fun _ => X106.ldcI hx hown102 (mvT hZ102 (hw _ (List.mem_of_getElem? (i := 50) rfl))) rfl (Jvm.hb hby d_prog_45_method_1_23)) ?_
  show FinW p e below s Z EL h0 _ _ _ (T106.setTop (mkF m 25 #[.val (.ref a1), .val (.ref x), .val (.int q)] [(.int (65535 : Int32)), (.int q)]))
  refine FinW.st (fun _ => XS.icmpYes X106.here hx rfl (pc0 := 25) (pc' := 43) rfl (Jvm.hb hby d_prog_45_method_1_25) rfl (ile q1) (by decide) (by decide)) ?_
  show FinW p e below s Z EL h0 _ _ _ (T106.setTop (mkF m 43 #[.val (.ref a1), .val (.ref x), .val (.int q)] []))
  refine FinW.st (fun _ => XS.aloadN X106.here hx rfl (Jvm.hb hby d_prog_45_method_1_43) rfl rfl) ?_
  show FinW p e below s Z EL h0 _ _ _ (T106.setTop (mkF m 44 #[.val (.ref a1), .val (.ref x), .val (.int q)] [(.ref a1)]))
  refine FinW.st (fun _ => XS.aloadN X106.here hx rfl (Jvm.hb hby d_prog_45_method_1_44) rfl rfl) ?_
  show FinW p e below s Z EL h0 _ _ _ (T106.setTop (mkF m 45 #[.val (.ref a1), .val (.ref x), .val (.int q)] [(.ref x), (.ref a1)]))
  have f107 := F_host.ext E102
  have f108 := E1.ext E102
  obtain ⟨T109, h109, X109, e109, W109, st109⟩ := putF X106 hx hZ102 hown102 (host := "") (Or.inl (hw _ (List.mem_of_getElem? (i := 51) rfl))) Via.refl e106 f107 f108 (Or.inr ⟨(hw _ (List.mem_of_getElem? (i := 52) rfl)), rfl, hnm⟩) (hw _ (List.mem_of_getElem? (i := 32) rfl)) (ty := (.object "java/lang/String")) (by decide) rfl rfl (g := (mkF m 45 #[.val (.ref a1), .val (.ref x), .val (.int q)] [(.ref x), (.ref a1)])) rfl rfl (Jvm.hb hby d_prog_45_method_1_45)
  have N109 := Fr.snoc X109 N106 g1
  have F109 := f107.same W109
  refine FinW.st st109 ?_
  have CH110 := CH102.trans (CHr.wr W109 (Safe.exa hZ102.alike f108 (by decide) (by decide)) CH102.1)
  show FinW p e below s Z EL h0 _ _ _ (T109.setTop (mkF m 48 #[.val (.ref a1), .val (.ref x), .val (.int q)] []))
  refine FinW.st (fun _ => XS.aloadN X109.here hx rfl (Jvm.hb hby d_prog_45_method_1_48) rfl rfl) ?_
  show FinW p e below s Z EL h0 _ _ _ (T109.setTop (mkF m 49 #[.val (.ref a1), .val (.ref x), .val (.int q)] [(.ref a1)]))
  refine FinW.st (fun _ => XS.iloadN X109.here hx rfl (Jvm.hb hby d_prog_45_method_1_49) rfl) ?_
  show FinW p e below s Z EL h0 _ _ _ (T109.setTop (mkF m 50 #[.val (.ref a1), .val (.ref x), .val (.int q)] [(.int q), (.ref a1)]))
  have f111 := F_port.ext E102
  have f112 := f111.other W109 (Or.inr (slot_ne (Or.inr (hw _ (List.mem_of_getElem? (i := 54) rfl))) (Or.inr (hw _ (List.mem_of_getElem? (i := 52) rfl))) (by decide) (t := .int) (t' := (.object "java/lang/String")) (by decide) (by decide)))
  have f113 := f108.wr W109
  obtain ⟨T114, h114, X114, e114, W114, st114⟩ := putF X109 hx hZ102 hown102 (host := "") (Or.inl (hw _ (List.mem_of_getElem? (i := 53) rfl))) Via.refl e109 f112 f113 (Or.inr ⟨(hw _ (List.mem_of_getElem? (i := 54) rfl)), rfl, hnm⟩) (hw _ (List.mem_of_getElem? (i := 32) rfl)) (ty := .int) (by decide) rfl rfl (g := (mkF m 50 #[.val (.ref a1), .val (.ref x), .val (.int q)] [(.int q), (.ref a1)])) rfl rfl (Jvm.hb hby d_prog_45_method_1_50)
  have N114 := Fr.snoc X114 N109 g1
  have F114 := f112.same W114
  refine FinW.st st114 ?_
  have CH115 := CH110.trans (CHr.wr W114 (Safe.exa hZ102.alike f113 (by decide) (by decide)) CH110.1)
  show FinW p e below s Z EL h0 _ _ _ (T114.setTop (mkF m 53 #[.val (.ref a1), .val (.ref x), .val (.int q)] []))
  have f116 := KP0.ext E102
  have f117 := f116.wr W109 (Or.inl (List.mem_of_getElem? (i := 0) rfl))
  have f118 := f117.wr W114 (Or.inl (List.mem_of_getElem? (i := 0) rfl))
  have f119 := f113.wr W114
  have f120 := F109.other W114 (Or.inr (slot_ne (Or.inr (hw _ (List.mem_of_getElem? (i := 52) rfl))) (Or.inr (hw _ (List.mem_of_getElem? (i := 54) rfl))) (by decide) (t := (.object "java/lang/String")) (t' := .int) (by decide) (by decide)))
  have f121 := B102.wr W109
  have f122 := f121.wr W114
  exact finVW X114 hx hlk hret (Jvm.hb hby d_prog_45_method_1_53) e114 hZ102 hEL f122 CH115 ⟨rfl, N114, f118, f119, f120, F114⟩ (by decide) (by decide)
theorem d_prog_45_method_5_0 : decode prog_45_method_5_code 0 = .ok (.aload_n 1, 1) := by decide +kernel
theorem d_prog_45_method_5_1 : decode prog_45_method_5_code 1 = .ok (.instanceof 21, 3) := by decide +kernel
theorem d_prog_45_method_5_4 : decode prog_45_method_5_code 4 = .ok (.ifCond .eq 37, 3) := by decide +kernel
theorem d_prog_45_method_5_7 : decode prog_45_method_5_code 7 = .ok (.aload_n 1, 1) := by decide +kernel
theorem d_prog_45_method_5_8 : decode prog_45_method_5_code 8 = .ok (.checkcast 21, 3) := by decide +kernel
theorem d_prog_45_method_5_11 : decode prog_45_method_5_code 11 = .ok (.astore_n 2, 1) := by decide +kernel
theorem d_prog_45_method_5_12 : decode prog_45_method_5_code 12 = .ok (.aload_n 0, 1) := by decide +kernel
theorem d_prog_45_method_5_13 : decode prog_45_method_5_code 13 = .ok (.getfield 33, 3) := by decide +kernel
theorem d_prog_45_method_5_16 : decode prog_45_method_5_code 16 = .ok (.aload_n 2, 1) := by decide +kernel
theorem d_prog_45_method_5_17 : decode prog_45_method_5_code 17 = .ok (.getfield 33, 3) := by decide +kernel
theorem d_prog_45_method_5_20 : decode prog_45_method_5_code 20 = .ok (.invokevirtual 71, 3) := by decide +kernel
theorem pd_2 : parseMethodDescriptor "(Ljava/lang/Object;)Z" = some ⟨[(.object "java/lang/Object")], some .boolean⟩ := by decide +kernel
theorem d_prog_45_method_5_23 : decode prog_45_method_5_code 23 = .ok (.ifCond .eq 18, 3) := by decide +kernel
theorem d_prog_45_method_5_26 : decode prog_45_method_5_code 26 = .ok (.aload_n 0, 1) := by decide +kernel
theorem d_prog_45_method_5_27 : decode prog_45_method_5_code 27 = .ok (.getfield 36, 3) := by decide +kernel
theorem d_prog_45_method_5_30 : decode prog_45_method_5_code 30 = .ok (.aload_n 2, 1) := by decide +kernel
theorem d_prog_45_method_5_31 : decode prog_45_method_5_code 31 = .ok (.getfield 36, 3) := by decide +kernel
theorem d_prog_45_method_5_34 : decode prog_45_method_5_code 34 = .ok (.if_icmp .ne 7, 3) := by decide +kernel
theorem d_prog_45_method_5_37 : decode prog_45_method_5_code 37 = .ok (.iconst 1, 1) := by decide +kernel
theorem d_prog_45_method_5_38 : decode prog_45_method_5_code 38 = .ok (.goto 4, 3) := by decide +kernel
theorem d_prog_45_method_5_42 : decode prog_45_method_5_code 42 = .ok (.ireturn, 1) := by decide +kernel
theorem d_prog_45_method_5_41 : decode prog_45_method_5_code 41 = .ok (.iconst 0, 1) := by decide +kernel
set_option maxRecDepth 65536 in
set_option maxHeartbeats 40000000 in
theorem rmEqA (l : Launch) (Z : State) (a0 : Array Value) (hw : ∀ d ∈ tables_1, d.before a0 Z = true) (ws : List Jvm.Cond) (a b x t y u : Addr) (cs ds : List Int32) (p1 q1 cz : Int32) (h0 : Heap) (n0 : Nat) (O : Old Z n0 h0) (SC : Sta Z Z.heap "java/lang/String" "COMPACT_STRINGS" "Z" (.int cz)) (hcz : ¬ cz = 0) (Ea : Exa Z h0 a "com/example/slot_locator/slotlocator/cluster/NodeAddress") (Fa1 : Fld Z h0 a "com/example/slot_locator/slotlocator/cluster/NodeAddress" "host" "Ljava/lang/String;" (.ref x)) (Fa2 : Fld Z h0 a "com/example/slot_locator/slotlocator/cluster/NodeAddress" "port" "I" (.int p1)) (Eb : Exa Z h0 b "com/example/slot_locator/slotlocator/cluster/NodeAddress") (Fb1 : Fld Z h0 b "com/example/slot_locator/slotlocator/cluster/NodeAddress" "host" "Ljava/lang/String;" (.ref y)) (Fb2 : Fld Z h0 b "com/example/slot_locator/slotlocator/cluster/NodeAddress" "port" "I" (.int q1)) (Sx : Str Z h0 x t cs) (Sy : Str Z h0 y u ds) :
    Con l Z h0 ⟨"com/example/slot_locator/slotlocator/cluster/NodeAddress", "equals", "(Ljava/lang/Object;)Z"⟩ prog_45_method_5_code 3 (some .boolean) ws ({ frames := 2, cells := 0, slots := 0, locals := 28 } : Room) #[(.ref a), (.ref b)] (fun v h L => v = some (.int (if cs = ds ∧ p1 = q1 then 1 else 0)) ∧ L = [] ∧ h = h0) := by
  refine Con.of (plainFor_of_name pn_1) (f0 := fun m => (mkF m 0 #[.val (.ref a), .val (.ref b), .unset] [])) (fun m => by first | (simp [entryFrame, mkF, argsToLocals, Value.category, maxLocals]; done) | rfl) ?_
  intro p e s m below meth c T0 hx hby hml hown hnm hret hlk hZ X0 e0
  have hown : s.vm.findClass "com/example/slot_locator/slotlocator/cluster/NodeAddress" = some m.cls := hown
  have N0 := Fr.nil n0
  show FinP p e below s _ _ _ (T0.setTop (mkF m 0 #[.val (.ref a), .val (.ref b), .unset] []))
  refine FinP.st (fun _ => XS.aloadN X0.here hx rfl (Jvm.hb hby d_prog_45_method_5_0) rfl rfl) ?_
  show FinP p e below s _ _ _ (T0.setTop (mkF m 1 #[.val (.ref a), .val (.ref b), .unset] [(.ref b)]))
  obtain ⟨T123, X123, e123, st123⟩ := instY X0 hx hZ hown (hw _ (List.mem_of_getElem? (i := 60) rfl)) e0 (Ins.self Eb) (g := (mkF m 1 #[.val (.ref a), .val (.ref b), .unset] [(.ref b)])) rfl rfl (Jvm.hb hby d_prog_45_method_5_1)
  refine FinP.st st123 ?_
  show FinP p e below s _ _ _ (T123.setTop (mkF m 4 #[.val (.ref a), .val (.ref b), .unset] [(.int (1 : Int32))]))
  refine FinP.st (fun _ => XS.ifNo X123.here hx rfl (Jvm.hb hby d_prog_45_method_5_4) rfl (zeqN (by decide))) ?_
  show FinP p e below s _ _ _ (T123.setTop (mkF m 7 #[.val (.ref a), .val (.ref b), .unset] []))
  refine FinP.st (fun _ => XS.aloadN X123.here hx rfl (Jvm.hb hby d_prog_45_method_5_7) rfl rfl) ?_
  show FinP p e below s _ _ _ (T123.setTop (mkF m 8 #[.val (.ref a), .val (.ref b), .unset] [(.ref b)]))
  obtain ⟨T124, X124, e124, st124⟩ := castY X123 hx hZ hown (hw _ (List.mem_of_getElem? (i := 60) rfl)) e123 (Ins.self Eb) (g := (mkF m 8 #[.val (.ref a), .val (.ref b), .unset] [(.ref b)])) rfl rfl (Jvm.hb hby d_prog_45_method_5_8)
  refine FinP.st st124 ?_
  show FinP p e below s _ _ _ (T124.setTop (mkF m 11 #[.val (.ref a), .val (.ref b), .unset] [(.ref b)]))
  refine FinP.st (fun _ => XS.astoreN X124.here hx rfl (Jvm.hb hby d_prog_45_method_5_11) rfl rfl (l' := #[.val (.ref a), .val (.ref b), .val (.ref b)]) rfl) ?_
  show FinP p e below s _ _ _ (T124.setTop (mkF m 12 #[.val (.ref a), .val (.ref b), .val (.ref b)] []))
  refine FinP.st (fun _ => XS.aloadN X124.here hx rfl (Jvm.hb hby d_prog_45_method_5_12) rfl rfl) ?_
  show FinP p e below s _ _ _ (T124.setTop (mkF m 13 #[.val (.ref a), .val (.ref b), .val (.ref b)] [(.ref a)]))
  obtain ⟨T125, X125, e125, st125⟩ := getF X124 hx hZ hown (host := "") (Or.inl (hw _ (List.mem_of_getElem? (i := 51) rfl))) Via.refl e124 Fa1 (g := (mkF m 13 #[.val (.ref a), .val (.ref b), .val (.ref b)] [(.ref a)])) rfl rfl (Jvm.hb hby d_prog_45_method_5_13)
  refine FinP.st st125 ?_
  show FinP p e below s _ _ _ (T125.setTop (mkF m 16 #[.val (.ref a), .val (.ref b), .val (.ref b)] [(.ref x)]))
  refine FinP.st (fun _ => XS.aloadN X125.here hx rfl (Jvm.hb hby d_prog_45_method_5_16) rfl rfl) ?_
  show FinP p e below s _ _ _ (T125.setTop (mkF m 17 #[.val (.ref a), .val (.ref b), .val (.ref b)] [(.ref b), (.ref x)]))
  obtain ⟨T126, X126, e126, st126⟩ := getF X125 hx hZ hown (host := "") (Or.inl (hw _ (List.mem_of_getElem? (i := 51) rfl))) Via.refl e125 Fb1 (g := (mkF m 17 #[.val (.ref a), .val (.ref b), .val (.ref b)] [(.ref b), (.ref x)])) rfl rfl (Jvm.hb hby d_prog_45_method_5_17)
  refine FinP.st st126 ?_
  show FinP p e below s _ _ _ (T126.setTop (mkF m 20 #[.val (.ref a), .val (.ref b), .val (.ref b)] [(.ref y), (.ref x)]))
  obtain ⟨_, T127, h127, L127, X127, e127, ⟨rfl, rfl, q127⟩, st127⟩ := goV X126 hx hZ hown (hw _ (List.mem_of_getElem? (i := 62) rfl)) (hw _ (List.mem_of_getElem? (i := 63) rfl)) (hw _ (List.mem_of_getElem? (i := 65) rfl)) (notFace_of_selects (args := #[]) (mvT hZ (hw _ (List.mem_of_getElem? (i := 65) rfl)))) (hw _ (List.mem_of_getElem? (i := 64) rfl)) (by decide) (strEq (len := 3) (W := 0) hZ hw (hw _ (List.mem_of_getElem? (i := 1) rfl)) Sx Sy (SC.ext O.2) hcz (by decide) (by decide)) e126 Sx.exa (g := (mkF m 20 #[.val (.ref a), .val (.ref b), .val (.ref b)] [(.ref y), (.ref x)])) rfl (by rw [hml]; rfl) [(.ref y)] [] (lenOf pd_2 rfl) rfl (by show 2 * 0 + _ ≤ _; exact Nat.le_of_eq rfl) (Jvm.hb hby d_prog_45_method_5_20) rfl (by decide) (by decide)
  have e127 := e127.trans q127
  have N127 := N0.app (Fr.nil n0)
  refine FinP.st st127 ?_
  show FinP p e below s _ _ _ (T127.setTop (mkF m 23 #[.val (.ref a), .val (.ref b), .val (.ref b)] [(.int (if cs = ds then (1 : Int32) else 0))]))
  by_cases hcd : cs = ds
  · skip
    rw [if_pos hcd]
    show FinP p e below s _ _ _ (T127.setTop (mkF m 23 #[.val (.ref a), .val (.ref b), .val (.ref b)] [(.int (1 : Int32))]))
    refine FinP.st (fun _ => XS.ifNo X127.here hx rfl (Jvm.hb hby d_prog_45_method_5_23) rfl (zeqN (by decide))) ?_
    show FinP p e below s _ _ _ (T127.setTop (mkF m 26 #[.val (.ref a), .val (.ref b), .val (.ref b)] []))
    refine FinP.st (fun _ => XS.aloadN X127.here hx rfl (Jvm.hb hby d_prog_45_method_5_26) rfl rfl) ?_
    show FinP p e below s _ _ _ (T127.setTop (mkF m 27 #[.val (.ref a), .val (.ref b), .val (.ref b)] [(.ref a)]))
    obtain ⟨T128, X128, e128, st128⟩ := getF X127 hx hZ hown (host := "") (Or.inl (hw _ (List.mem_of_getElem? (i := 53) rfl))) Via.refl e127 Fa2 (g := (mkF m 27 #[.val (.ref a), .val (.ref b), .val (.ref b)] [(.ref a)])) rfl rfl (Jvm.hb hby d_prog_45_method_5_27)
    refine FinP.st st128 ?_
    show FinP p e below s _ _ _ (T128.setTop (mkF m 30 #[.val (.ref a), .val (.ref b), .val (.ref b)] [(.int p1)]))
    refine FinP.st (fun _ => XS.aloadN X128.here hx rfl (Jvm.hb hby d_prog_45_method_5_30) rfl rfl) ?_
    show FinP p e below s _ _ _ (T128.setTop (mkF m 31 #[.val (.ref a), .val (.ref b), .val (.ref b)] [(.ref b), (.int p1)]))
    obtain ⟨T129, X129, e129, st129⟩ := getF X128 hx hZ hown (host := "") (Or.inl (hw _ (List.mem_of_getElem? (i := 53) rfl))) Via.refl e128 Fb2 (g := (mkF m 31 #[.val (.ref a), .val (.ref b), .val (.ref b)] [(.ref b), (.int p1)])) rfl rfl (Jvm.hb hby d_prog_45_method_5_31)
    refine FinP.st st129 ?_
    show FinP p e below s _ _ _ (T129.setTop (mkF m 34 #[.val (.ref a), .val (.ref b), .val (.ref b)] [(.int q1), (.int p1)]))
    by_cases hpq : p1 = q1
    · skip
      refine FinP.st (fun _ => XS.icmpNo X129.here hx rfl (Jvm.hb hby d_prog_45_method_5_34) rfl (ineN hpq)) ?_
      show FinP p e below s _ _ _ (T129.setTop (mkF m 37 #[.val (.ref a), .val (.ref b), .val (.ref b)] []))
      refine FinP.st (fun _ => XS.iconst X129.here hx rfl (Jvm.hb hby d_prog_45_method_5_37)) ?_
      show FinP p e below s _ _ _ (T129.setTop (mkF m 38 #[.val (.ref a), .val (.ref b), .val (.ref b)] [(.int (1 : Int32))]))
      refine FinP.st (fun _ => XS.goto X129.here hx rfl (pc0 := 38) (pc' := 42) rfl (Jvm.hb hby d_prog_45_method_5_38) (by decide) (by decide)) ?_
      show FinP p e below s _ _ _ (T129.setTop (mkF m 42 #[.val (.ref a), .val (.ref b), .val (.ref b)] [(.int (1 : Int32))]))
      exact finN X129 hx hlk hret (t := .boolean) (by simp) (Jvm.hb hby d_prog_45_method_5_42) e129 ⟨by rw [if_pos ⟨hcd, hpq⟩]; try rfl, rfl, rfl⟩ (by decide) (by decide)
    · skip
      refine FinP.st (fun _ => XS.icmpYes X129.here hx rfl (pc0 := 34) (pc' := 41) rfl (Jvm.hb hby d_prog_45_method_5_34) rfl (ine hpq) (by decide) (by decide)) ?_
      show FinP p e below s _ _ _ (T129.setTop (mkF m 41 #[.val (.ref a), .val (.ref b), .val (.ref b)] []))
      refine FinP.st (fun _ => XS.iconst X129.here hx rfl (Jvm.hb hby d_prog_45_method_5_41)) ?_
      show FinP p e below s _ _ _ (T129.setTop (mkF m 42 #[.val (.ref a), .val (.ref b), .val (.ref b)] [(.int (0 : Int32))]))
      exact finN X129 hx hlk hret (t := .boolean) (by simp) (Jvm.hb hby d_prog_45_method_5_42) e129 ⟨by rw [if_neg (fun z => hpq z.2)]; try rfl, rfl, rfl⟩ (by decide) (by decide)
  · skip
    rw [if_neg hcd]
    show FinP p e below s _ _ _ (T127.setTop (mkF m 23 #[.val (.ref a), .val (.ref b), .val (.ref b)] [(.int (0 : Int32))]))
    refine FinP.st (fun _ => XS.ifYes X127.here hx rfl (pc0 := 23) (pc' := 41) rfl (Jvm.hb hby d_prog_45_method_5_23) rfl (zeq rfl) (by decide) (by decide)) ?_
    show FinP p e below s _ _ _ (T127.setTop (mkF m 41 #[.val (.ref a), .val (.ref b), .val (.ref b)] []))
    refine FinP.st (fun _ => XS.iconst X127.here hx rfl (Jvm.hb hby d_prog_45_method_5_41)) ?_
    show FinP p e below s _ _ _ (T127.setTop (mkF m 42 #[.val (.ref a), .val (.ref b), .val (.ref b)] [(.int (0 : Int32))]))
    exact finN X127 hx hlk hret (t := .boolean) (by simp) (Jvm.hb hby d_prog_45_method_5_42) e127 ⟨by rw [if_neg (fun z => hcd z.1)]; try rfl, rfl, rfl⟩ (by decide) (by decide)
set_option maxRecDepth 65536 in
set_option maxHeartbeats 40000000 in
theorem rmEqN (l : Launch) (Z : State) (a0 : Array Value) (hw : ∀ d ∈ tables_1, d.before a0 Z = true) (ws : List Jvm.Cond) (a : Addr) (h0 : Heap) (n0 : Nat) (O : Old Z n0 h0)  :
    Con l Z h0 ⟨"com/example/slot_locator/slotlocator/cluster/NodeAddress", "equals", "(Ljava/lang/Object;)Z"⟩ prog_45_method_5_code 3 (some .boolean) ws ({ frames := 0, cells := 0, slots := 0, locals := 0 } : Room) #[(.ref a), .null] (fun v h L => v = some (.int 0) ∧ L = [] ∧ h = h0) := by
  refine Con.of (plainFor_of_name pn_1) (f0 := fun m => (mkF m 0 #[.val (.ref a), .val .null, .unset] [])) (fun m => by first | (simp [entryFrame, mkF, argsToLocals, Value.category, maxLocals]; done) | rfl) ?_
  intro p e s m below meth c T0 hx hby hml hown hnm hret hlk hZ X0 e0
  have hown : s.vm.findClass "com/example/slot_locator/slotlocator/cluster/NodeAddress" = some m.cls := hown
  have N0 := Fr.nil n0
  show FinP p e below s _ _ _ (T0.setTop (mkF m 0 #[.val (.ref a), .val .null, .unset] []))
  refine FinP.st (fun _ => XS.aloadN X0.here hx rfl (Jvm.hb hby d_prog_45_method_5_0) rfl rfl) ?_
  show FinP p e below s _ _ _ (T0.setTop (mkF m 1 #[.val (.ref a), .val .null, .unset] [.null]))
  refine FinP.st (X0.instanceofNull hx (g := (mkF m 1 #[.val (.ref a), .val .null, .unset] [.null])) rfl rfl (Jvm.hb hby d_prog_45_method_5_1)) ?_
  show FinP p e below s _ _ _ (T0.setTop (mkF m 4 #[.val (.ref a), .val .null, .unset] [(.int (0 : Int32))]))
  refine FinP.st (fun _ => XS.ifYes X0.here hx rfl (pc0 := 4) (pc' := 41) rfl (Jvm.hb hby d_prog_45_method_5_4) rfl (zeq rfl) (by decide) (by decide)) ?_
  show FinP p e below s _ _ _ (T0.setTop (mkF m 41 #[.val (.ref a), .val .null, .unset] []))
  refine FinP.st (fun _ => XS.iconst X0.here hx rfl (Jvm.hb hby d_prog_45_method_5_41)) ?_
  show FinP p e below s _ _ _ (T0.setTop (mkF m 42 #[.val (.ref a), .val .null, .unset] [(.int (0 : Int32))]))
  exact finN X0 hx hlk hret (t := .boolean) (by simp) (Jvm.hb hby d_prog_45_method_5_42) e0 ⟨rfl, rfl, rfl⟩ (by decide) (by decide)
set_option maxRecDepth 65536 in
set_option maxHeartbeats 40000000 in
theorem rmEqS (l : Launch) (Z : State) (a0 : Array Value) (hw : ∀ d ∈ tables_1, d.before a0 Z = true) (ws : List Jvm.Cond) (a x : Addr) (h0 : Heap) (n0 : Nat) (O : Old Z n0 h0) (E1 : Exa Z h0 x "java/lang/String") :
    Con l Z h0 ⟨"com/example/slot_locator/slotlocator/cluster/NodeAddress", "equals", "(Ljava/lang/Object;)Z"⟩ prog_45_method_5_code 3 (some .boolean) ws ({ frames := 0, cells := 0, slots := 0, locals := 0 } : Room) #[(.ref a), (.ref x)] (fun v h L => v = some (.int 0) ∧ L = [] ∧ h = h0) := by
  refine Con.of (plainFor_of_name pn_1) (f0 := fun m => (mkF m 0 #[.val (.ref a), .val (.ref x), .unset] [])) (fun m => by first | (simp [entryFrame, mkF, argsToLocals, Value.category, maxLocals]; done) | rfl) ?_
  intro p e s m below meth c T0 hx hby hml hown hnm hret hlk hZ X0 e0
  have hown : s.vm.findClass "com/example/slot_locator/slotlocator/cluster/NodeAddress" = some m.cls := hown
  have N0 := Fr.nil n0
  show FinP p e below s _ _ _ (T0.setTop (mkF m 0 #[.val (.ref a), .val (.ref x), .unset] []))
  refine FinP.st (fun _ => XS.aloadN X0.here hx rfl (Jvm.hb hby d_prog_45_method_5_0) rfl rfl) ?_
  show FinP p e below s _ _ _ (T0.setTop (mkF m 1 #[.val (.ref a), .val (.ref x), .unset] [(.ref x)]))
  obtain ⟨T131, X131, e131, st131⟩ := instNo X0 hx hZ hown (hw _ (List.mem_of_getElem? (i := 60) rfl)) e0 E1 (notSub (hw _ (List.mem_of_getElem? (i := 72) rfl)) (hw _ (List.mem_of_getElem? (i := 73) rfl)) (hw _ (List.mem_of_getElem? (i := 32) rfl)) (by decide) (by decide)) (g := (mkF m 1 #[.val (.ref a), .val (.ref x), .unset] [(.ref x)])) rfl rfl (Jvm.hb hby d_prog_45_method_5_1)
  refine FinP.st st131 ?_
  show FinP p e below s _ _ _ (T131.setTop (mkF m 4 #[.val (.ref a), .val (.ref x), .unset] [(.int (0 : Int32))]))
  refine FinP.st (fun _ => XS.ifYes X131.here hx rfl (pc0 := 4) (pc' := 41) rfl (Jvm.hb hby d_prog_45_method_5_4) rfl (zeq rfl) (by decide) (by decide)) ?_
  show FinP p e below s _ _ _ (T131.setTop (mkF m 41 #[.val (.ref a), .val (.ref x), .unset] []))
  refine FinP.st (fun _ => XS.iconst X131.here hx rfl (Jvm.hb hby d_prog_45_method_5_41)) ?_
  show FinP p e below s _ _ _ (T131.setTop (mkF m 42 #[.val (.ref a), .val (.ref x), .unset] [(.int (0 : Int32))]))
  exact finN X131 hx hlk hret (t := .boolean) (by simp) (Jvm.hb hby d_prog_45_method_5_42) e131 ⟨rfl, rfl, rfl⟩ (by decide) (by decide)
theorem pn_2 : plainName "com/example/slot_locator/slotlocator/cluster/NodeAddressEqualsPinLaw" = true := by first | (simp [plainName, overriddenIn]; done) | decide +kernel
theorem pd_3 : parseMethodDescriptor "(Ljava/lang/String;I)V" = some ⟨[(.object "java/lang/String"), .int], none⟩ := by decide +kernel
theorem pd_4 : parseMethodDescriptor "([C)V" = some ⟨[(.array .char)], none⟩ := by decide +kernel
set_option maxRecDepth 65536 in
set_option maxHeartbeats 40000000 in
theorem rmLaw (l : Launch) (Z : State) (a0 : Array Value) (hw : ∀ d ∈ tables_1, d.before a0 Z = true) (ws : List Jvm.Cond) (p1 p2 p3 p4 p5 cz : Int32) (h0 : Heap) (n0 : Nat) (O : Old Z n0 h0) (SC : Sta Z Z.heap "java/lang/String" "COMPACT_STRINGS" "Z" (.int cz)) (hcz : ¬ cz = 0) :
    ConW l Z EL h0 x code maxLocals ret ws room_1 #[(.int p1), (.int p2), (.int p3), (.int p4), (.int p5)] (fun v h L => v = some (.int 1) ∧ Fr n0 L) := by
  refine ConW.of (plainFor_of_name pn_2) (f0 := fun m => (mkF m 0 #[.val (.int p1), .val (.int p2), .val (.int p3), .val (.int p4), .val (.int p5), .unset, .unset, .unset, .unset, .unset, .unset, .unset, .unset, .unset, .unset, .unset, .unset, .unset, .unset, .unset] [])) (fun m => by first | (simp [entryFrame, mkF, argsToLocals, Value.category, maxLocals]; done) | rfl) ?_
  intro p e s m below meth c T0 vm0 hx hby hml hown hnm hret hlk hZ X0 e0 B0 CH0 hZs
  have hEL := own_EW hw
  have hml : c.maxLocals = 20 := hml
  have hown : (s.setVm vm0).vm.findClass "com/example/slot_locator/slotlocator/cluster/NodeAddressEqualsPinLaw" = some m.cls := hown
  have N0 := Fr.nil n0
  show FinW p e below s Z EL h0 _ _ _ (T0.setTop (mkF m 0 #[.val (.int p1), .val (.int p2), .val (.int p3), .val (.int p4), .val (.int p5), .unset, .unset, .unset, .unset, .unset, .unset, .unset, .unset, .unset, .unset, .unset, .unset, .unset, .unset, .unset] []))
  refine FinW.st (fun _ => XS.iloadN X0.here hx rfl (Jvm.hb hby at_0) rfl) ?_
  show FinW p e below s Z EL h0 _ _ _ (T0.setTop (mkF m 1 #[.val (.int p1), .val (.int p2), .val (.int p3), .val (.int p4), .val (.int p5), .unset, .unset, .unset, .unset, .unset, .unset, .unset, .unset, .unset, .unset, .unset, .unset, .unset, .unset, .unset] [(.int p1)]))
  refine FinW.st (fun _ => XS.iconst X0.here hx rfl (Jvm.hb hby at_1)) ?_
  show FinW p e below s Z EL h0 _ _ _ (T0.setTop (mkF m 2 #[.val (.int p1), .val (.int p2), .val (.int p3), .val (.int p4), .val (.int p5), .unset, .unset, .unset, .unset, .unset, .unset, .unset, .unset, .unset, .unset, .unset, .unset, .unset, .unset, .unset] [(.int (1 : Int32)), (.int p1)]))
  refine FinW.st (fun _ => XS.iand X0.here hx rfl (Jvm.hb hby at_2) rfl) ?_
  show FinW p e below s Z EL h0 _ _ _ (T0.setTop (mkF m 3 #[.val (.int p1), .val (.int p2), .val (.int p3), .val (.int p4), .val (.int p5), .unset, .unset, .unset, .unset, .unset, .unset, .unset, .unset, .unset, .unset, .unset, .unset, .unset, .unset, .unset] [(.int (p1 &&& (1 : Int32)))]))
  refine join1W (α := Int32) (P := fun b1 => b1 = 0 ∨ b1 = 1) (A := fun b1 => T0.setTop (mkF m 11 #[.val (.int p1), .val (.int p2), .val (.int p3), .val (.int p4), .val (.int p5), .unset, .unset, .unset, .unset, .unset, .unset, .unset, .unset, .unset, .unset, .unset, .unset, .unset, .unset, .unset] [(.int b1)])) ?_ ?_
  · rintro b1 hb1
    show FinW p e below s Z EL h0 _ _ _ (T0.setTop (mkF m 11 #[.val (.int p1), .val (.int p2), .val (.int p3), .val (.int p4), .val (.int p5), .unset, .unset, .unset, .unset, .unset, .unset, .unset, .unset, .unset, .unset, .unset, .unset, .unset, .unset, .unset] [(.int b1)]))
    refine FinW.st (fun _ => XS.istore X0.here hx rfl (Jvm.hb hby at_11) rfl (l' := #[.val (.int p1), .val (.int p2), .val (.int p3), .val (.int p4), .val (.int p5), .val (.int b1), .unset, .unset, .unset, .unset, .unset, .unset, .unset, .unset, .unset, .unset, .unset, .unset, .unset, .unset]) rfl) ?_
    show FinW p e below s Z EL h0 _ _ _ (T0.setTop (mkF m 13 #[.val (.int p1), .val (.int p2), .val (.int p3), .val (.int p4), .val (.int p5), .val (.int b1), .unset, .unset, .unset, .unset, .unset, .unset, .unset, .unset, .unset, .unset, .unset, .unset, .unset, .unset] []))
    refine FinW.st (fun _ => XS.iloadN X0.here hx rfl (Jvm.hb hby at_13) rfl) ?_
    show FinW p e below s Z EL h0 _ _ _ (T0.setTop (mkF m 14 #[.val (.int p1), .val (.int p2), .val (.int p3), .val (.int p4), .val (.int p5), .val (.int b1), .unset, .unset, .unset, .unset, .unset, .unset, .unset, .unset, .unset, .unset, .unset, .unset, .unset, .unset] [(.int p1)]))
    refine FinW.st (fun _ => XS.iconst X0.here hx rfl (Jvm.hb hby at_14)) ?_
    show FinW p e below s Z EL h0 _ _ _ (T0.setTop (mkF m 15 #[.val (.int p1), .val (.int p2), .val (.int p3), .val (.int p4), .val (.int p5), .val (.int b1), .unset, .unset, .unset, .unset, .unset, .unset, .unset, .unset, .unset, .unset, .unset, .unset, .unset, .unset] [(.int (1 : Int32)), (.int p1)]))
    refine FinW.st (fun _ => XS.iushr X0.here hx rfl (Jvm.hb hby at_15) rfl) ?_
    show FinW p e below s Z EL h0 _ _ _ (T0.setTop (mkF m 16 #[.val (.int p1), .val (.int p2), .val (.int p3), .val (.int p4), .val (.int p5), .val (.int b1), .unset, .unset, .unset, .unset, .unset, .unset, .unset, .unset, .unset, .unset, .unset, .unset, .unset, .unset] [(.int (ush p1 (1 : Int32)))]))
    refine FinW.st (fun _ => XS.sipush X0.here hx rfl (Jvm.hb hby at_16)) ?_
    show FinW p e below s Z EL h0 _ _ _ (T0.setTop (mkF m 19 #[.val (.int p1), .val (.int p2), .val (.int p3), .val (.int p4), .val (.int p5), .val (.int b1), .unset, .unset, .unset, .unset, .unset, .unset, .unset, .unset, .unset, .unset, .unset, .unset, .unset, .unset] [(.int (255 : Int32)), (.int (ush p1 (1 : Int32)))]))
    refine FinW.st (fun _ => XS.iand X0.here hx rfl (Jvm.hb hby at_19) rfl) ?_
    show FinW p e below s Z EL h0 _ _ _ (T0.setTop (mkF m 20 #[.val (.int p1), .val (.int p2), .val (.int p3), .val (.int p4), .val (.int p5), .val (.int b1), .unset, .unset, .unset, .unset, .unset, .unset, .unset, .unset, .unset, .unset, .unset, .unset, .unset, .unset] [(.int ((ush p1 (1 : Int32)) &&& (255 : Int32)))]))
    refine FinW.st (fun _ => XS.i2c X0.here hx rfl (Jvm.hb hby at_20) rfl) ?_
    show FinW p e below s Z EL h0 _ _ _ (T0.setTop (mkF m 21 #[.val (.int p1), .val (.int p2), .val (.int p3), .val (.int p4), .val (.int p5), .val (.int b1), .unset, .unset, .unset, .unset, .unset, .unset, .unset, .unset, .unset, .unset, .unset, .unset, .unset, .unset] [(.int (chr ((ush p1 (1 : Int32)) &&& (255 : Int32))))]))
    obtain ⟨c0, hc0, lc0, uc0, wc0⟩ := chr_255 (ush p1 (1 : Int32))
    rw [hc0]
    show FinW p e below s Z EL h0 _ _ _ (T0.setTop (mkF m 21 #[.val (.int p1), .val (.int p2), .val (.int p3), .val (.int p4), .val (.int p5), .val (.int b1), .unset, .unset, .unset, .unset, .unset, .unset, .unset, .unset, .unset, .unset, .unset, .unset, .unset, .unset] [(.int c0)]))
    refine FinW.st (fun _ => XS.istore X0.here hx rfl (Jvm.hb hby at_21) rfl (l' := #[.val (.int p1), .val (.int p2), .val (.int p3), .val (.int p4), .val (.int p5), .val (.int b1), .val (.int c0), .unset, .unset, .unset, .unset, .unset, .unset, .unset, .unset, .unset, .unset, .unset, .unset, .unset]) rfl) ?_
    show FinW p e below s Z EL h0 _ _ _ (T0.setTop (mkF m 23 #[.val (.int p1), .val (.int p2), .val (.int p3), .val (.int p4), .val (.int p5), .val (.int b1), .val (.int c0), .unset, .unset, .unset, .unset, .unset, .unset, .unset, .unset, .unset, .unset, .unset, .unset, .unset] []))
    refine FinW.st (fun _ => XS.iloadN X0.here hx rfl (Jvm.hb hby at_23) rfl) ?_
    show FinW p e below s Z EL h0 _ _ _ (T0.setTop (mkF m 24 #[.val (.int p1), .val (.int p2), .val (.int p3), .val (.int p4), .val (.int p5), .val (.int b1), .val (.int c0), .unset, .unset, .unset, .unset, .unset, .unset, .unset, .unset, .unset, .unset, .unset, .unset, .unset] [(.int p1)]))
    refine FinW.st (fun _ => XS.bipush X0.here hx rfl (Jvm.hb hby at_24)) ?_
    show FinW p e below s Z EL h0 _ _ _ (T0.setTop (mkF m 26 #[.val (.int p1), .val (.int p2), .val (.int p3), .val (.int p4), .val (.int p5), .val (.int b1), .val (.int c0), .unset, .unset, .unset, .unset, .unset, .unset, .unset, .unset, .unset, .unset, .unset, .unset, .unset] [(.int (9 : Int32)), (.int p1)]))
    refine FinW.st (fun _ => XS.iushr X0.here hx rfl (Jvm.hb hby at_26) rfl) ?_
    show FinW p e below s Z EL h0 _ _ _ (T0.setTop (mkF m 27 #[.val (.int p1), .val (.int p2), .val (.int p3), .val (.int p4), .val (.int p5), .val (.int b1), .val (.int c0), .unset, .unset, .unset, .unset, .unset, .unset, .unset, .unset, .unset, .unset, .unset, .unset, .unset] [(.int (ush p1 (9 : Int32)))]))
    refine FinW.st (fun _ => XS.sipush X0.here hx rfl (Jvm.hb hby at_27)) ?_
    show FinW p e below s Z EL h0 _ _ _ (T0.setTop (mkF m 30 #[.val (.int p1), .val (.int p2), .val (.int p3), .val (.int p4), .val (.int p5), .val (.int b1), .val (.int c0), .unset, .unset, .unset, .unset, .unset, .unset, .unset, .unset, .unset, .unset, .unset, .unset, .unset] [(.int (255 : Int32)), (.int (ush p1 (9 : Int32)))]))
    refine FinW.st (fun _ => XS.iand X0.here hx rfl (Jvm.hb hby at_30) rfl) ?_
    show FinW p e below s Z EL h0 _ _ _ (T0.setTop (mkF m 31 #[.val (.int p1), .val (.int p2), .val (.int p3), .val (.int p4), .val (.int p5), .val (.int b1), .val (.int c0), .unset, .unset, .unset, .unset, .unset, .unset, .unset, .unset, .unset, .unset, .unset, .unset, .unset] [(.int ((ush p1 (9 : Int32)) &&& (255 : Int32)))]))
    refine FinW.st (fun _ => XS.i2c X0.here hx rfl (Jvm.hb hby at_31) rfl) ?_
    show FinW p e below s Z EL h0 _ _ _ (T0.setTop (mkF m 32 #[.val (.int p1), .val (.int p2), .val (.int p3), .val (.int p4), .val (.int p5), .val (.int b1), .val (.int c0), .unset, .unset, .unset, .unset, .unset, .unset, .unset, .unset, .unset, .unset, .unset, .unset, .unset] [(.int (chr ((ush p1 (9 : Int32)) &&& (255 : Int32))))]))
    obtain ⟨c1, hc1, lc1, uc1, wc1⟩ := chr_255 (ush p1 (9 : Int32))
    rw [hc1]
    show FinW p e below s Z EL h0 _ _ _ (T0.setTop (mkF m 32 #[.val (.int p1), .val (.int p2), .val (.int p3), .val (.int p4), .val (.int p5), .val (.int b1), .val (.int c0), .unset, .unset, .unset, .unset, .unset, .unset, .unset, .unset, .unset, .unset, .unset, .unset, .unset] [(.int c1)]))
    refine FinW.st (fun _ => XS.istore X0.here hx rfl (Jvm.hb hby at_32) rfl (l' := #[.val (.int p1), .val (.int p2), .val (.int p3), .val (.int p4), .val (.int p5), .val (.int b1), .val (.int c0), .val (.int c1), .unset, .unset, .unset, .unset, .unset, .unset, .unset, .unset, .unset, .unset, .unset, .unset]) rfl) ?_
    show FinW p e below s Z EL h0 _ _ _ (T0.setTop (mkF m 34 #[.val (.int p1), .val (.int p2), .val (.int p3), .val (.int p4), .val (.int p5), .val (.int b1), .val (.int c0), .val (.int c1), .unset, .unset, .unset, .unset, .unset, .unset, .unset, .unset, .unset, .unset, .unset, .unset] []))
    refine FinW.st (fun _ => XS.iloadN X0.here hx rfl (Jvm.hb hby at_34) rfl) ?_
    show FinW p e below s Z EL h0 _ _ _ (T0.setTop (mkF m 35 #[.val (.int p1), .val (.int p2), .val (.int p3), .val (.int p4), .val (.int p5), .val (.int b1), .val (.int c0), .val (.int c1), .unset, .unset, .unset, .unset, .unset, .unset, .unset, .unset, .unset, .unset, .unset, .unset] [(.int p2)]))
    refine FinW.st (fun _ => XS.iconst X0.here hx rfl (Jvm.hb hby at_35)) ?_
    show FinW p e below s Z EL h0 _ _ _ (T0.setTop (mkF m 36 #[.val (.int p1), .val (.int p2), .val (.int p3), .val (.int p4), .val (.int p5), .val (.int b1), .val (.int c0), .val (.int c1), .unset, .unset, .unset, .unset, .unset, .unset, .unset, .unset, .unset, .unset, .unset, .unset] [(.int (1 : Int32)), (.int p2)]))
    refine FinW.st (fun _ => XS.iand X0.here hx rfl (Jvm.hb hby at_36) rfl) ?_
    show FinW p e below s Z EL h0 _ _ _ (T0.setTop (mkF m 37 #[.val (.int p1), .val (.int p2), .val (.int p3), .val (.int p4), .val (.int p5), .val (.int b1), .val (.int c0), .val (.int c1), .unset, .unset, .unset, .unset, .unset, .unset, .unset, .unset, .unset, .unset, .unset, .unset] [(.int (p2 &&& (1 : Int32)))]))
    refine join1W (α := Int32) (P := fun b2 => b2 = 0 ∨ b2 = 1) (A := fun b2 => T0.setTop (mkF m 45 #[.val (.int p1), .val (.int p2), .val (.int p3), .val (.int p4), .val (.int p5), .val (.int b1), .val (.int c0), .val (.int c1), .unset, .unset, .unset, .unset, .unset, .unset, .unset, .unset, .unset, .unset, .unset, .unset] [(.int b2)])) ?_ ?_
    · rintro b2 hb2
      show FinW p e below s Z EL h0 _ _ _ (T0.setTop (mkF m 45 #[.val (.int p1), .val (.int p2), .val (.int p3), .val (.int p4), .val (.int p5), .val (.int b1), .val (.int c0), .val (.int c1), .unset, .unset, .unset, .unset, .unset, .unset, .unset, .unset, .unset, .unset, .unset, .unset] [(.int b2)]))
      refine FinW.st (fun _ => XS.istore X0.here hx rfl (Jvm.hb hby at_45) rfl (l' := #[.val (.int p1), .val (.int p2), .val (.int p3), .val (.int p4), .val (.int p5), .val (.int b1), .val (.int c0), .val (.int c1), .val (.int b2), .unset, .unset, .unset, .unset, .unset, .unset, .unset, .unset, .unset, .unset, .unset]) rfl) ?_
      show FinW p e below s Z EL h0 _ _ _ (T0.setTop (mkF m 47 #[.val (.int p1), .val (.int p2), .val (.int p3), .val (.int p4), .val (.int p5), .val (.int b1), .val (.int c0), .val (.int c1), .val (.int b2), .unset, .unset, .unset, .unset, .unset, .unset, .unset, .unset, .unset, .unset, .unset] []))
      refine FinW.st (fun _ => XS.iload X0.here hx rfl (Jvm.hb hby at_47) rfl) ?_
      show FinW p e below s Z EL h0 _ _ _ (T0.setTop (mkF m 49 #[.val (.int p1), .val (.int p2), .val (.int p3), .val (.int p4), .val (.int p5), .val (.int b1), .val (.int c0), .val (.int c1), .val (.int b2), .unset, .unset, .unset, .unset, .unset, .unset, .unset, .unset, .unset, .unset, .unset] [(.int p5)]))
      refine FinW.st (fun _ => XS.iconst X0.here hx rfl (Jvm.hb hby at_49)) ?_
      show FinW p e below s Z EL h0 _ _ _ (T0.setTop (mkF m 50 #[.val (.int p1), .val (.int p2), .val (.int p3), .val (.int p4), .val (.int p5), .val (.int b1), .val (.int c0), .val (.int c1), .val (.int b2), .unset, .unset, .unset, .unset, .unset, .unset, .unset, .unset, .unset, .unset, .unset] [(.int (1 : Int32)), (.int p5)]))
      refine FinW.st (fun _ => XS.iand X0.here hx rfl (Jvm.hb hby at_50) rfl) ?_
      show FinW p e below s Z EL h0 _ _ _ (T0.setTop (mkF m 51 #[.val (.int p1), .val (.int p2), .val (.int p3), .val (.int p4), .val (.int p5), .val (.int b1), .val (.int c0), .val (.int c1), .val (.int b2), .unset, .unset, .unset, .unset, .unset, .unset, .unset, .unset, .unset, .unset, .unset] [(.int (p5 &&& (1 : Int32)))]))
      refine join1W (α := Int32) (P := fun d0 => ¬ d0 < 0 ∧ ¬ (255 : Int32) < d0) (A := fun d0 => T0.setTop (mkF m 67 #[.val (.int p1), .val (.int p2), .val (.int p3), .val (.int p4), .val (.int p5), .val (.int b1), .val (.int c0), .val (.int c1), .val (.int b2), .unset, .unset, .unset, .unset, .unset, .unset, .unset, .unset, .unset, .unset, .unset] [(.int d0)])) ?_ ?_
      · rintro d0 hbd0
        show FinW p e below s Z EL h0 _ _ _ (T0.setTop (mkF m 67 #[.val (.int p1), .val (.int p2), .val (.int p3), .val (.int p4), .val (.int p5), .val (.int b1), .val (.int c0), .val (.int c1), .val (.int b2), .unset, .unset, .unset, .unset, .unset, .unset, .unset, .unset, .unset, .unset, .unset] [(.int d0)]))
        refine FinW.st (fun _ => XS.istore X0.here hx rfl (Jvm.hb hby at_67) rfl (l' := #[.val (.int p1), .val (.int p2), .val (.int p3), .val (.int p4), .val (.int p5), .val (.int b1), .val (.int c0), .val (.int c1), .val (.int b2), .val (.int d0), .unset, .unset, .unset, .unset, .unset, .unset, .unset, .unset, .unset, .unset]) rfl) ?_
        show FinW p e below s Z EL h0 _ _ _ (T0.setTop (mkF m 69 #[.val (.int p1), .val (.int p2), .val (.int p3), .val (.int p4), .val (.int p5), .val (.int b1), .val (.int c0), .val (.int c1), .val (.int b2), .val (.int d0), .unset, .unset, .unset, .unset, .unset, .unset, .unset, .unset, .unset, .unset] []))
        refine FinW.st (fun _ => XS.iload X0.here hx rfl (Jvm.hb hby at_69) rfl) ?_
        show FinW p e below s Z EL h0 _ _ _ (T0.setTop (mkF m 71 #[.val (.int p1), .val (.int p2), .val (.int p3), .val (.int p4), .val (.int p5), .val (.int b1), .val (.int c0), .val (.int c1), .val (.int b2), .val (.int d0), .unset, .unset, .unset, .unset, .unset, .unset, .unset, .unset, .unset, .unset] [(.int p5)]))
        refine FinW.st (fun _ => XS.iconst X0.here hx rfl (Jvm.hb hby at_71)) ?_
        show FinW p e below s Z EL h0 _ _ _ (T0.setTop (mkF m 72 #[.val (.int p1), .val (.int p2), .val (.int p3), .val (.int p4), .val (.int p5), .val (.int b1), .val (.int c0), .val (.int c1), .val (.int b2), .val (.int d0), .unset, .unset, .unset, .unset, .unset, .unset, .unset, .unset, .unset, .unset] [(.int (2 : Int32)), (.int p5)]))
        refine FinW.st (fun _ => XS.iand X0.here hx rfl (Jvm.hb hby at_72) rfl) ?_
        show FinW p e below s Z EL h0 _ _ _ (T0.setTop (mkF m 73 #[.val (.int p1), .val (.int p2), .val (.int p3), .val (.int p4), .val (.int p5), .val (.int b1), .val (.int c0), .val (.int c1), .val (.int b2), .val (.int d0), .unset, .unset, .unset, .unset, .unset, .unset, .unset, .unset, .unset, .unset] [(.int (p5 &&& (2 : Int32)))]))
        refine join1W (α := Int32) (P := fun d1 => ¬ d1 < 0 ∧ ¬ (255 : Int32) < d1) (A := fun d1 => T0.setTop (mkF m 90 #[.val (.int p1), .val (.int p2), .val (.int p3), .val (.int p4), .val (.int p5), .val (.int b1), .val (.int c0), .val (.int c1), .val (.int b2), .val (.int d0), .unset, .unset, .unset, .unset, .unset, .unset, .unset, .unset, .unset, .unset] [(.int d1)])) ?_ ?_
        · rintro d1 hbd1
          show FinW p e below s Z EL h0 _ _ _ (T0.setTop (mkF m 90 #[.val (.int p1), .val (.int p2), .val (.int p3), .val (.int p4), .val (.int p5), .val (.int b1), .val (.int c0), .val (.int c1), .val (.int b2), .val (.int d0), .unset, .unset, .unset, .unset, .unset, .unset, .unset, .unset, .unset, .unset] [(.int d1)]))
          refine FinW.st (fun _ => XS.istore X0.here hx rfl (Jvm.hb hby at_90) rfl (l' := #[.val (.int p1), .val (.int p2), .val (.int p3), .val (.int p4), .val (.int p5), .val (.int b1), .val (.int c0), .val (.int c1), .val (.int b2), .val (.int d0), .val (.int d1), .unset, .unset, .unset, .unset, .unset, .unset, .unset, .unset, .unset]) rfl) ?_
          show FinW p e below s Z EL h0 _ _ _ (T0.setTop (mkF m 92 #[.val (.int p1), .val (.int p2), .val (.int p3), .val (.int p4), .val (.int p5), .val (.int b1), .val (.int c0), .val (.int c1), .val (.int b2), .val (.int d0), .val (.int d1), .unset, .unset, .unset, .unset, .unset, .unset, .unset, .unset, .unset] []))
          refine FinW.st (fun _ => XS.iload X0.here hx rfl (Jvm.hb hby at_92) rfl) ?_
          show FinW p e below s Z EL h0 _ _ _ (T0.setTop (mkF m 94 #[.val (.int p1), .val (.int p2), .val (.int p3), .val (.int p4), .val (.int p5), .val (.int b1), .val (.int c0), .val (.int c1), .val (.int b2), .val (.int d0), .val (.int d1), .unset, .unset, .unset, .unset, .unset, .unset, .unset, .unset, .unset] [(.int b1)]))
          refine joinHW (α := Addr) (P := fun s1 T132 h132 L132 vm132 => (Stand p l e room_1 (s.setVm vm132) m #[(.int p1), (.int p2), (.int p3), (.int p4), (.int p5)] below meth c T132 L132 4 8) ∧ (T132.heap = h132) ∧ (Fr n0 L132) ∧ (Old Z n0 h132) ∧ (∃ t1 cs1, Str Z h132 s1 t1 cs1 ∧ n0 ≤ s1 ∧ ((b1 = 1 ∧ cs1 = [c0, c1]) ∨ (b1 = 0 ∧ cs1 = [c0]))) ∧ (Snc s vm132 h132) ∧ (CHr Z EL s.vm h0 vm132 h132) ∧ (Z.Warmed39 (s.setVm vm132).vm) ∧ ((s.setVm vm132).vm.findClass "com/example/slot_locator/slotlocator/cluster/NodeAddressEqualsPinLaw" = some m.cls)) (A := fun s1 T132 => T132.setTop (mkF m 135 #[.val (.int p1), .val (.int p2), .val (.int p3), .val (.int p4), .val (.int p5), .val (.int b1), .val (.int c0), .val (.int c1), .val (.int b2), .val (.int d0), .val (.int d1), .unset, .unset, .unset, .unset, .unset, .unset, .unset, .unset, .unset] [(.ref s1)])) ?_ ?_
          · rintro s1 T132 h132 L132 vm132 ⟨X132, e132, N132, O132, ⟨t1, cs1, Ss1, ges1, hss1⟩, B132, CH132, hZ132, hown132⟩
            show FinW p e below s Z EL h0 _ _ _ (T132.setTop (mkF m 135 #[.val (.int p1), .val (.int p2), .val (.int p3), .val (.int p4), .val (.int p5), .val (.int b1), .val (.int c0), .val (.int c1), .val (.int b2), .val (.int d0), .val (.int d1), .unset, .unset, .unset, .unset, .unset, .unset, .unset, .unset, .unset] [(.ref s1)]))
            refine FinW.st (fun _ => XS.astore X132.here hx rfl (Jvm.hb hby at_135) rfl rfl (l' := #[.val (.int p1), .val (.int p2), .val (.int p3), .val (.int p4), .val (.int p5), .val (.int b1), .val (.int c0), .val (.int c1), .val (.int b2), .val (.int d0), .val (.int d1), .val (.ref s1), .unset, .unset, .unset, .unset, .unset, .unset, .unset, .unset]) rfl) ?_
            show FinW p e below s Z EL h0 _ _ _ (T132.setTop (mkF m 137 #[.val (.int p1), .val (.int p2), .val (.int p3), .val (.int p4), .val (.int p5), .val (.int b1), .val (.int c0), .val (.int c1), .val (.int b2), .val (.int d0), .val (.int d1), .val (.ref s1), .unset, .unset, .unset, .unset, .unset, .unset, .unset, .unset] []))
            refine FinW.st (fun _ => XS.iload X132.here hx rfl (Jvm.hb hby at_137) rfl) ?_
            show FinW p e below s Z EL h0 _ _ _ (T132.setTop (mkF m 139 #[.val (.int p1), .val (.int p2), .val (.int p3), .val (.int p4), .val (.int p5), .val (.int b1), .val (.int c0), .val (.int c1), .val (.int b2), .val (.int d0), .val (.int d1), .val (.ref s1), .unset, .unset, .unset, .unset, .unset, .unset, .unset, .unset] [(.int b2)]))
            refine joinHW (α := Addr) (P := fun s2 T133 h133 L133 vm133 => (Stand p l e room_1 (s.setVm vm133) m #[(.int p1), (.int p2), (.int p3), (.int p4), (.int p5)] below meth c T133 L133 8 16) ∧ (T133.heap = h133) ∧ (Fr n0 L133) ∧ (Old Z n0 h133) ∧ (∃ t2 cs2, Str Z h133 s2 t2 cs2 ∧ n0 ≤ s2 ∧ ((b2 = 1 ∧ cs2 = [d0, d1]) ∨ (b2 = 0 ∧ cs2 = [d0]))) ∧ (Snc s vm133 h133) ∧ (CHr Z EL s.vm h0 vm133 h133) ∧ (Z.Warmed39 (s.setVm vm133).vm) ∧ ((s.setVm vm133).vm.findClass "com/example/slot_locator/slotlocator/cluster/NodeAddressEqualsPinLaw" = some m.cls) ∧ (Str Z h133 s1 t1 cs1)) (A := fun s2 T133 => T133.setTop (mkF m 180 #[.val (.int p1), .val (.int p2), .val (.int p3), .val (.int p4), .val (.int p5), .val (.int b1), .val (.int c0), .val (.int c1), .val (.int b2), .val (.int d0), .val (.int d1), .val (.ref s1), .unset, .unset, .unset, .unset, .unset, .unset, .unset, .unset] [(.ref s2)])) ?_ ?_
            · rintro s2 T133 h133 L133 vm133 ⟨X133, e133, N133, O133, ⟨t2, cs2, Ss2, ges2, hss2⟩, B133, CH133, hZ133, hown133, G133_0⟩
              show FinW p e below s Z EL h0 _ _ _ (T133.setTop (mkF m 180 #[.val (.int p1), .val (.int p2), .val (.int p3), .val (.int p4), .val (.int p5), .val (.int b1), .val (.int c0), .val (.int c1), .val (.int b2), .val (.int d0), .val (.int d1), .val (.ref s1), .unset, .unset, .unset, .unset, .unset, .unset, .unset, .unset] [(.ref s2)]))
              refine FinW.st (fun _ => XS.astore X133.here hx rfl (Jvm.hb hby at_180) rfl rfl (l' := #[.val (.int p1), .val (.int p2), .val (.int p3), .val (.int p4), .val (.int p5), .val (.int b1), .val (.int c0), .val (.int c1), .val (.int b2), .val (.int d0), .val (.int d1), .val (.ref s1), .val (.ref s2), .unset, .unset, .unset, .unset, .unset, .unset, .unset]) rfl) ?_
              show FinW p e below s Z EL h0 _ _ _ (T133.setTop (mkF m 182 #[.val (.int p1), .val (.int p2), .val (.int p3), .val (.int p4), .val (.int p5), .val (.int b1), .val (.int c0), .val (.int c1), .val (.int b2), .val (.int d0), .val (.int d1), .val (.ref s1), .val (.ref s2), .unset, .unset, .unset, .unset, .unset, .unset, .unset] []))
              refine FinW.st (fun _ => XS.iloadN X133.here hx rfl (Jvm.hb hby at_182) rfl) ?_
              show FinW p e below s Z EL h0 _ _ _ (T133.setTop (mkF m 183 #[.val (.int p1), .val (.int p2), .val (.int p3), .val (.int p4), .val (.int p5), .val (.int b1), .val (.int c0), .val (.int c1), .val (.int b2), .val (.int d0), .val (.int d1), .val (.ref s1), .val (.ref s2), .unset, .unset, .unset, .unset, .unset, .unset, .unset] [(.int p3)]))
              refine FinW.st (fun _ => X133.ldcI hx hown133 (mvT hZ133 (hw _ (List.mem_of_getElem? (i := 30) rfl))) rfl (Jvm.hb hby at_183)) ?_
              show FinW p e below s Z EL h0 _ _ _ (T133.setTop (mkF m 185 #[.val (.int p1), .val (.int p2), .val (.int p3), .val (.int p4), .val (.int p5), .val (.int b1), .val (.int c0), .val (.int c1), .val (.int b2), .val (.int d0), .val (.int d1), .val (.ref s1), .val (.ref s2), .unset, .unset, .unset, .unset, .unset, .unset, .unset] [(.int (65535 : Int32)), (.int p3)]))
              refine FinW.st (fun _ => XS.iand X133.here hx rfl (Jvm.hb hby at_185) rfl) ?_
              show FinW p e below s Z EL h0 _ _ _ (T133.setTop (mkF m 186 #[.val (.int p1), .val (.int p2), .val (.int p3), .val (.int p4), .val (.int p5), .val (.int b1), .val (.int c0), .val (.int c1), .val (.int b2), .val (.int d0), .val (.int d1), .val (.ref s1), .val (.ref s2), .unset, .unset, .unset, .unset, .unset, .unset, .unset] [(.int (p3 &&& (65535 : Int32)))]))
              obtain ⟨q1, hq1, lq1, uq1⟩ := port_ok p3
              rw [hq1]
              show FinW p e below s Z EL h0 _ _ _ (T133.setTop (mkF m 186 #[.val (.int p1), .val (.int p2), .val (.int p3), .val (.int p4), .val (.int p5), .val (.int b1), .val (.int c0), .val (.int c1), .val (.int b2), .val (.int d0), .val (.int d1), .val (.ref s1), .val (.ref s2), .unset, .unset, .unset, .unset, .unset, .unset, .unset] [(.int q1)]))
              refine FinW.st (fun _ => XS.istore X133.here hx rfl (Jvm.hb hby at_186) rfl (l' := #[.val (.int p1), .val (.int p2), .val (.int p3), .val (.int p4), .val (.int p5), .val (.int b1), .val (.int c0), .val (.int c1), .val (.int b2), .val (.int d0), .val (.int d1), .val (.ref s1), .val (.ref s2), .val (.int q1), .unset, .unset, .unset, .unset, .unset, .unset]) rfl) ?_
              show FinW p e below s Z EL h0 _ _ _ (T133.setTop (mkF m 188 #[.val (.int p1), .val (.int p2), .val (.int p3), .val (.int p4), .val (.int p5), .val (.int b1), .val (.int c0), .val (.int c1), .val (.int b2), .val (.int d0), .val (.int d1), .val (.ref s1), .val (.ref s2), .val (.int q1), .unset, .unset, .unset, .unset, .unset, .unset] []))
              refine FinW.st (fun _ => XS.iload X133.here hx rfl (Jvm.hb hby at_188) rfl) ?_
              show FinW p e below s Z EL h0 _ _ _ (T133.setTop (mkF m 190 #[.val (.int p1), .val (.int p2), .val (.int p3), .val (.int p4), .val (.int p5), .val (.int b1), .val (.int c0), .val (.int c1), .val (.int b2), .val (.int d0), .val (.int d1), .val (.ref s1), .val (.ref s2), .val (.int q1), .unset, .unset, .unset, .unset, .unset, .unset] [(.int p5)]))
              refine FinW.st (fun _ => XS.iconst X133.here hx rfl (Jvm.hb hby at_190)) ?_
              show FinW p e below s Z EL h0 _ _ _ (T133.setTop (mkF m 191 #[.val (.int p1), .val (.int p2), .val (.int p3), .val (.int p4), .val (.int p5), .val (.int b1), .val (.int c0), .val (.int c1), .val (.int b2), .val (.int d0), .val (.int d1), .val (.ref s1), .val (.ref s2), .val (.int q1), .unset, .unset, .unset, .unset, .unset, .unset] [(.int (4 : Int32)), (.int p5)]))
              refine FinW.st (fun _ => XS.iand X133.here hx rfl (Jvm.hb hby at_191) rfl) ?_
              show FinW p e below s Z EL h0 _ _ _ (T133.setTop (mkF m 192 #[.val (.int p1), .val (.int p2), .val (.int p3), .val (.int p4), .val (.int p5), .val (.int b1), .val (.int c0), .val (.int c1), .val (.int b2), .val (.int d0), .val (.int d1), .val (.ref s1), .val (.ref s2), .val (.int q1), .unset, .unset, .unset, .unset, .unset, .unset] [(.int (p5 &&& (4 : Int32)))]))
              refine join1W (α := Int32) (P := fun q2 => ¬ q2 < 0 ∧ ¬ 65535 < q2) (A := fun q2 => T133.setTop (mkF m 204 #[.val (.int p1), .val (.int p2), .val (.int p3), .val (.int p4), .val (.int p5), .val (.int b1), .val (.int c0), .val (.int c1), .val (.int b2), .val (.int d0), .val (.int d1), .val (.ref s1), .val (.ref s2), .val (.int q1), .unset, .unset, .unset, .unset, .unset, .unset] [(.int q2)])) ?_ ?_
              · rintro q2 hq2
                show FinW p e below s Z EL h0 _ _ _ (T133.setTop (mkF m 204 #[.val (.int p1), .val (.int p2), .val (.int p3), .val (.int p4), .val (.int p5), .val (.int b1), .val (.int c0), .val (.int c1), .val (.int b2), .val (.int d0), .val (.int d1), .val (.ref s1), .val (.ref s2), .val (.int q1), .unset, .unset, .unset, .unset, .unset, .unset] [(.int q2)]))
                refine FinW.st (fun _ => XS.istore X133.here hx rfl (Jvm.hb hby at_204) rfl (l' := #[.val (.int p1), .val (.int p2), .val (.int p3), .val (.int p4), .val (.int p5), .val (.int b1), .val (.int c0), .val (.int c1), .val (.int b2), .val (.int d0), .val (.int d1), .val (.ref s1), .val (.ref s2), .val (.int q1), .val (.int q2), .unset, .unset, .unset, .unset, .unset]) rfl) ?_
                show FinW p e below s Z EL h0 _ _ _ (T133.setTop (mkF m 206 #[.val (.int p1), .val (.int p2), .val (.int p3), .val (.int p4), .val (.int p5), .val (.int b1), .val (.int c0), .val (.int c1), .val (.int b2), .val (.int d0), .val (.int d1), .val (.ref s1), .val (.ref s2), .val (.int q1), .val (.int q2), .unset, .unset, .unset, .unset, .unset] []))
                obtain ⟨b134, g134⟩ : ∃ z, z = h133.size := ⟨_, rfl⟩
                have ne135 : s1 ≠ b134 := by rw [g134]; exact Nat.ne_of_lt G133_0.lt
                have ne136 : t1 ≠ b134 := by rw [g134]; exact Nat.ne_of_lt G133_0.ltt
                have ne137 : s2 ≠ b134 := by rw [g134]; exact Nat.ne_of_lt Ss2.lt
                have ne138 : t2 ≠ b134 := by rw [g134]; exact Nat.ne_of_lt Ss2.ltt
                have ge134 : n0 ≤ b134 := by rw [g134]; exact O133.own_le
                obtain ⟨T134, h134, X134, e134, E134, A134, D134, -, st134⟩ := newO X133 hx hZ133 hown133 (hw _ (List.mem_of_getElem? (i := 31) rfl)) (hw _ (List.mem_of_getElem? (i := 32) rfl)) (hw _ (List.mem_of_getElem? (i := 33) rfl)) e133 (g := (mkF m 206 #[.val (.int p1), .val (.int p2), .val (.int p3), .val (.int p4), .val (.int p5), .val (.int b1), .val (.int c0), .val (.int c1), .val (.int b2), .val (.int d0), .val (.int d1), .val (.ref s1), .val (.ref s2), .val (.int q1), .val (.int q2), .unset, .unset, .unset, .unset, .unset] [])) rfl (Jvm.hb hby at_206) (by decide) (by decide)
                rw [← g134] at A134 D134 st134
                have CH139 := CH133.trans (CHr.ext E134 CH133.1)
                have F134_host : Fld Z h134 b134 "com/example/slot_locator/slotlocator/cluster/NodeAddress" "host" "Ljava/lang/String;" .null := D134 (Or.inr (hw _ (List.mem_of_getElem? (i := 52) rfl))) (ty := (.object "java/lang/String")) (by decide)
                have F134_port : Fld Z h134 b134 "com/example/slot_locator/slotlocator/cluster/NodeAddress" "port" "I" (.int (0 : Int32)) := D134 (Or.inr (hw _ (List.mem_of_getElem? (i := 54) rfl))) (ty := .int) (by decide)
                refine FinW.st st134 ?_
                show FinW p e below s Z EL h0 _ _ _ (T134.setTop (mkF m 209 #[.val (.int p1), .val (.int p2), .val (.int p3), .val (.int p4), .val (.int p5), .val (.int b1), .val (.int c0), .val (.int c1), .val (.int b2), .val (.int d0), .val (.int d1), .val (.ref s1), .val (.ref s2), .val (.int q1), .val (.int q2), .unset, .unset, .unset, .unset, .unset] [(.ref b134)]))
                refine FinW.st (fun _ => XS.dup X134.here hx rfl (Jvm.hb hby at_209) rfl rfl) ?_
                show FinW p e below s Z EL h0 _ _ _ (T134.setTop (mkF m 210 #[.val (.int p1), .val (.int p2), .val (.int p3), .val (.int p4), .val (.int p5), .val (.int b1), .val (.int c0), .val (.int c1), .val (.int b2), .val (.int d0), .val (.int d1), .val (.ref s1), .val (.ref s2), .val (.int q1), .val (.int q2), .unset, .unset, .unset, .unset, .unset] [(.ref b134), (.ref b134)]))
                refine FinW.st (fun _ => XS.aload X134.here hx rfl (Jvm.hb hby at_210) rfl rfl) ?_
                show FinW p e below s Z EL h0 _ _ _ (T134.setTop (mkF m 212 #[.val (.int p1), .val (.int p2), .val (.int p3), .val (.int p4), .val (.int p5), .val (.int b1), .val (.int c0), .val (.int c1), .val (.int b2), .val (.int d0), .val (.int d1), .val (.ref s1), .val (.ref s2), .val (.int q1), .val (.int q2), .unset, .unset, .unset, .unset, .unset] [(.ref s1), (.ref b134), (.ref b134)]))
                refine FinW.st (fun _ => XS.iload X134.here hx rfl (Jvm.hb hby at_212) rfl) ?_
                show FinW p e below s Z EL h0 _ _ _ (T134.setTop (mkF m 214 #[.val (.int p1), .val (.int p2), .val (.int p3), .val (.int p4), .val (.int p5), .val (.int b1), .val (.int c0), .val (.int c1), .val (.int b2), .val (.int d0), .val (.int d1), .val (.ref s1), .val (.ref s2), .val (.int q1), .val (.int q2), .unset, .unset, .unset, .unset, .unset] [(.int q1), (.ref s1), (.ref b134), (.ref b134)]))
                have f140 := O133.ext E134
                have f141 := G133_0.ext E134
                have f143 := B133.ext E134
                obtain ⟨_, T142, h142, L142, X142, e142, ⟨rfl, Nq142, K142, E142, F142_host, F142_port⟩, CHc142, B142, hZ142, hown142, st142⟩ := goIW X134 hx hZ133 hown133 rfl (hw _ (List.mem_of_getElem? (i := 34) rfl)) (hw _ (List.mem_of_getElem? (i := 35) rfl)) (hw _ (List.mem_of_getElem? (i := 36) rfl)) (by decide) ((rmNA l Z a0 hw [] b134 s1 t1 cs1 q1 _ _ h134 n0 f140 A134 ge134 F134_host F134_port f141 (by rcases hss1 with ⟨-, rfl⟩ | ⟨-, rfl⟩ <;> simp) lq1 uq1).pay (W := 1) hZ133 (hw _ (List.mem_of_getElem? (i := 36) rfl)) (hw _ (List.mem_of_getElem? (i := 33) rfl)) (by decide) (by decide) hEL CH139) e134 f143 (g := (mkF m 214 #[.val (.int p1), .val (.int p2), .val (.int p3), .val (.int p4), .val (.int p5), .val (.int b1), .val (.int c0), .val (.int c1), .val (.int b2), .val (.int d0), .val (.int d1), .val (.ref s1), .val (.ref s2), .val (.int q1), .val (.int q2), .unset, .unset, .unset, .unset, .unset] [(.int q1), (.ref s1), (.ref b134), (.ref b134)])) rfl (by rw [hml]; rfl) [(.ref s1), (.int q1)] [(.ref b134)] (lenOf pd_3 rfl) rfl (by show 2 * 0 + _ ≤ _; exact Nat.le_of_eq rfl) (Jvm.hb hby at_214) rfl (by decide) (by decide)
                have N142 := N133.app Nq142
                refine FinW.st st142 ?_
                have CH142 := CH139.trans CHc142
                show FinW p e below s Z EL h0 _ _ _ (T142.setTop (mkF m 217 #[.val (.int p1), .val (.int p2), .val (.int p3), .val (.int p4), .val (.int p5), .val (.int b1), .val (.int c0), .val (.int c1), .val (.int b2), .val (.int d0), .val (.int d1), .val (.ref s1), .val (.ref s2), .val (.int q1), .val (.int q2), .unset, .unset, .unset, .unset, .unset] [(.ref b134)]))
                refine FinW.st (fun _ => XS.astore X142.here hx rfl (Jvm.hb hby at_217) rfl rfl (l' := #[.val (.int p1), .val (.int p2), .val (.int p3), .val (.int p4), .val (.int p5), .val (.int b1), .val (.int c0), .val (.int c1), .val (.int b2), .val (.int d0), .val (.int d1), .val (.ref s1), .val (.ref s2), .val (.int q1), .val (.int q2), .val (.ref b134), .unset, .unset, .unset, .unset]) rfl) ?_
                show FinW p e below s Z EL h0 _ _ _ (T142.setTop (mkF m 219 #[.val (.int p1), .val (.int p2), .val (.int p3), .val (.int p4), .val (.int p5), .val (.int b1), .val (.int c0), .val (.int c1), .val (.int b2), .val (.int d0), .val (.int d1), .val (.ref s1), .val (.ref s2), .val (.int q1), .val (.int q2), .val (.ref b134), .unset, .unset, .unset, .unset] []))
                have f145 := f140.keep K142 (allS ge134 all0)
                obtain ⟨b144, g144⟩ : ∃ z, z = h142.size := ⟨_, rfl⟩
                have f146 := f141.keep K142 (ninS ne135 nin0) (ninS ne136 nin0)
                have ne147 : s1 ≠ b144 := by rw [g144]; exact Nat.ne_of_lt f146.lt
                have ne148 : t1 ≠ b144 := by rw [g144]; exact Nat.ne_of_lt f146.ltt
                have f149 := Ss2.ext E134
                have f150 := f149.keep K142 (ninS ne137 nin0) (ninS ne138 nin0)
                have ne151 : s2 ≠ b144 := by rw [g144]; exact Nat.ne_of_lt f150.lt
                have ne152 : t2 ≠ b144 := by rw [g144]; exact Nat.ne_of_lt f150.ltt
                have ne153 : b134 ≠ b144 := by rw [g144]; exact Nat.ne_of_lt E142.lt
                have ge144 : n0 ≤ b144 := by rw [g144]; exact f145.own_le
                obtain ⟨T144, h144, X144, e144, E144, A144, D144, -, st144⟩ := newO X142 hx hZ142 hown142 (hw _ (List.mem_of_getElem? (i := 31) rfl)) (hw _ (List.mem_of_getElem? (i := 32) rfl)) (hw _ (List.mem_of_getElem? (i := 33) rfl)) e142 (g := (mkF m 219 #[.val (.int p1), .val (.int p2), .val (.int p3), .val (.int p4), .val (.int p5), .val (.int b1), .val (.int c0), .val (.int c1), .val (.int b2), .val (.int d0), .val (.int d1), .val (.ref s1), .val (.ref s2), .val (.int q1), .val (.int q2), .val (.ref b134), .unset, .unset, .unset, .unset] [])) rfl (Jvm.hb hby at_219) (by decide) (by decide)
                rw [← g144] at A144 D144 st144
                have CH154 := CH142.trans (CHr.ext E144 CH142.1)
                have F144_host : Fld Z h144 b144 "com/example/slot_locator/slotlocator/cluster/NodeAddress" "host" "Ljava/lang/String;" .null := D144 (Or.inr (hw _ (List.mem_of_getElem? (i := 52) rfl))) (ty := (.object "java/lang/String")) (by decide)
                have F144_port : Fld Z h144 b144 "com/example/slot_locator/slotlocator/cluster/NodeAddress" "port" "I" (.int (0 : Int32)) := D144 (Or.inr (hw _ (List.mem_of_getElem? (i := 54) rfl))) (ty := .int) (by decide)
                refine FinW.st st144 ?_
                show FinW p e below s Z EL h0 _ _ _ (T144.setTop (mkF m 222 #[.val (.int p1), .val (.int p2), .val (.int p3), .val (.int p4), .val (.int p5), .val (.int b1), .val (.int c0), .val (.int c1), .val (.int b2), .val (.int d0), .val (.int d1), .val (.ref s1), .val (.ref s2), .val (.int q1), .val (.int q2), .val (.ref b134), .unset, .unset, .unset, .unset] [(.ref b144)]))
                refine FinW.st (fun _ => XS.dup X144.here hx rfl (Jvm.hb hby at_222) rfl rfl) ?_
                show FinW p e below s Z EL h0 _ _ _ (T144.setTop (mkF m 223 #[.val (.int p1), .val (.int p2), .val (.int p3), .val (.int p4), .val (.int p5), .val (.int b1), .val (.int c0), .val (.int c1), .val (.int b2), .val (.int d0), .val (.int d1), .val (.ref s1), .val (.ref s2), .val (.int q1), .val (.int q2), .val (.ref b134), .unset, .unset, .unset, .unset] [(.ref b144), (.ref b144)]))
                refine FinW.st (fun _ => XS.aload X144.here hx rfl (Jvm.hb hby at_223) rfl rfl) ?_
                show FinW p e below s Z EL h0 _ _ _ (T144.setTop (mkF m 225 #[.val (.int p1), .val (.int p2), .val (.int p3), .val (.int p4), .val (.int p5), .val (.int b1), .val (.int c0), .val (.int c1), .val (.int b2), .val (.int d0), .val (.int d1), .val (.ref s1), .val (.ref s2), .val (.int q1), .val (.int q2), .val (.ref b134), .unset, .unset, .unset, .unset] [(.ref s2), (.ref b144), (.ref b144)]))
                refine FinW.st (fun _ => XS.iload X144.here hx rfl (Jvm.hb hby at_225) rfl) ?_
                show FinW p e below s Z EL h0 _ _ _ (T144.setTop (mkF m 227 #[.val (.int p1), .val (.int p2), .val (.int p3), .val (.int p4), .val (.int p5), .val (.int b1), .val (.int c0), .val (.int c1), .val (.int b2), .val (.int d0), .val (.int d1), .val (.ref s1), .val (.ref s2), .val (.int q1), .val (.int q2), .val (.ref b134), .unset, .unset, .unset, .unset] [(.int q2), (.ref s2), (.ref b144), (.ref b144)]))
                have f155 := f145.ext E144
                have f156 := f150.ext E144
                have f158 := B142.ext E144
                obtain ⟨_, T157, h157, L157, X157, e157, ⟨rfl, Nq157, K157, E157, F157_host, F157_port⟩, CHc157, B157, hZ157, hown157, st157⟩ := goIW X144 hx hZ142 hown142 rfl (hw _ (List.mem_of_getElem? (i := 34) rfl)) (hw _ (List.mem_of_getElem? (i := 35) rfl)) (hw _ (List.mem_of_getElem? (i := 36) rfl)) (by decide) ((rmNA l Z a0 hw [] b144 s2 t2 cs2 q2 _ _ h144 n0 f155 A144 ge144 F144_host F144_port f156 (by rcases hss2 with ⟨-, rfl⟩ | ⟨-, rfl⟩ <;> simp) hq2.1 hq2.2).pay (W := 1) hZ142 (hw _ (List.mem_of_getElem? (i := 36) rfl)) (hw _ (List.mem_of_getElem? (i := 33) rfl)) (by decide) (by decide) hEL CH154) e144 f158 (g := (mkF m 227 #[.val (.int p1), .val (.int p2), .val (.int p3), .val (.int p4), .val (.int p5), .val (.int b1), .val (.int c0), .val (.int c1), .val (.int b2), .val (.int d0), .val (.int d1), .val (.ref s1), .val (.ref s2), .val (.int q1), .val (.int q2), .val (.ref b134), .unset, .unset, .unset, .unset] [(.int q2), (.ref s2), (.ref b144), (.ref b144)])) rfl (by rw [hml]; rfl) [(.ref s2), (.int q2)] [(.ref b144)] (lenOf pd_3 rfl) rfl (by show 2 * 0 + _ ≤ _; exact Nat.le_of_eq rfl) (Jvm.hb hby at_227) rfl (by decide) (by decide)
                have N157 := N142.app Nq157
                refine FinW.st st157 ?_
                have CH157 := CH154.trans CHc157
                show FinW p e below s Z EL h0 _ _ _ (T157.setTop (mkF m 230 #[.val (.int p1), .val (.int p2), .val (.int p3), .val (.int p4), .val (.int p5), .val (.int b1), .val (.int c0), .val (.int c1), .val (.int b2), .val (.int d0), .val (.int d1), .val (.ref s1), .val (.ref s2), .val (.int q1), .val (.int q2), .val (.ref b134), .unset, .unset, .unset, .unset] [(.ref b144)]))
                refine FinW.st (fun _ => XS.astore X157.here hx rfl (Jvm.hb hby at_230) rfl rfl (l' := #[.val (.int p1), .val (.int p2), .val (.int p3), .val (.int p4), .val (.int p5), .val (.int b1), .val (.int c0), .val (.int c1), .val (.int b2), .val (.int d0), .val (.int d1), .val (.ref s1), .val (.ref s2), .val (.int q1), .val (.int q2), .val (.ref b134), .val (.ref b144), .unset, .unset, .unset]) rfl) ?_
                show FinW p e below s Z EL h0 _ _ _ (T157.setTop (mkF m 232 #[.val (.int p1), .val (.int p2), .val (.int p3), .val (.int p4), .val (.int p5), .val (.int b1), .val (.int c0), .val (.int c1), .val (.int b2), .val (.int d0), .val (.int d1), .val (.ref s1), .val (.ref s2), .val (.int q1), .val (.int q2), .val (.ref b134), .val (.ref b144), .unset, .unset, .unset] []))
                refine FinW.st (fun _ => XS.iload X157.here hx rfl (Jvm.hb hby at_232) rfl) ?_
                show FinW p e below s Z EL h0 _ _ _ (T157.setTop (mkF m 234 #[.val (.int p1), .val (.int p2), .val (.int p3), .val (.int p4), .val (.int p5), .val (.int b1), .val (.int c0), .val (.int c1), .val (.int b2), .val (.int d0), .val (.int d1), .val (.ref s1), .val (.ref s2), .val (.int q1), .val (.int q2), .val (.ref b134), .val (.ref b144), .unset, .unset, .unset] [(.int p5)]))
                refine FinW.st (fun _ => XS.iconst X157.here hx rfl (Jvm.hb hby at_234)) ?_
                show FinW p e below s Z EL h0 _ _ _ (T157.setTop (mkF m 235 #[.val (.int p1), .val (.int p2), .val (.int p3), .val (.int p4), .val (.int p5), .val (.int b1), .val (.int c0), .val (.int c1), .val (.int b2), .val (.int d0), .val (.int d1), .val (.ref s1), .val (.ref s2), .val (.int q1), .val (.int q2), .val (.ref b134), .val (.ref b144), .unset, .unset, .unset] [(.int (3 : Int32)), (.int p5)]))
                refine FinW.st (fun _ => XS.iushr X157.here hx rfl (Jvm.hb hby at_235) rfl) ?_
                show FinW p e below s Z EL h0 _ _ _ (T157.setTop (mkF m 236 #[.val (.int p1), .val (.int p2), .val (.int p3), .val (.int p4), .val (.int p5), .val (.int b1), .val (.int c0), .val (.int c1), .val (.int b2), .val (.int d0), .val (.int d1), .val (.ref s1), .val (.ref s2), .val (.int q1), .val (.int q2), .val (.ref b134), .val (.ref b144), .unset, .unset, .unset] [(.int (ush p5 (3 : Int32)))]))
                refine FinW.st (fun _ => XS.iconst X157.here hx rfl (Jvm.hb hby at_236)) ?_
                show FinW p e below s Z EL h0 _ _ _ (T157.setTop (mkF m 237 #[.val (.int p1), .val (.int p2), .val (.int p3), .val (.int p4), .val (.int p5), .val (.int b1), .val (.int c0), .val (.int c1), .val (.int b2), .val (.int d0), .val (.int d1), .val (.ref s1), .val (.ref s2), .val (.int q1), .val (.int q2), .val (.ref b134), .val (.ref b144), .unset, .unset, .unset] [(.int (3 : Int32)), (.int (ush p5 (3 : Int32)))]))
                refine FinW.st (fun _ => XS.iand X157.here hx rfl (Jvm.hb hby at_237) rfl) ?_
                show FinW p e below s Z EL h0 _ _ _ (T157.setTop (mkF m 238 #[.val (.int p1), .val (.int p2), .val (.int p3), .val (.int p4), .val (.int p5), .val (.int b1), .val (.int c0), .val (.int c1), .val (.int b2), .val (.int d0), .val (.int d1), .val (.ref s1), .val (.ref s2), .val (.int q1), .val (.int q2), .val (.ref b134), .val (.ref b144), .unset, .unset, .unset] [(.int ((ush p5 (3 : Int32)) &&& (3 : Int32)))]))
                obtain ⟨kd, hkd⟩ : ∃ z : Int32, (ush p5 3) &&& 3 = z := ⟨_, rfl⟩
                rw [hkd]
                show FinW p e below s Z EL h0 _ _ _ (T157.setTop (mkF m 238 #[.val (.int p1), .val (.int p2), .val (.int p3), .val (.int p4), .val (.int p5), .val (.int b1), .val (.int c0), .val (.int c1), .val (.int b2), .val (.int d0), .val (.int d1), .val (.ref s1), .val (.ref s2), .val (.int q1), .val (.int q2), .val (.ref b134), .val (.ref b144), .unset, .unset, .unset] [(.int kd)]))
                refine FinW.st (fun _ => XS.istore X157.here hx rfl (Jvm.hb hby at_238) rfl (l' := #[.val (.int p1), .val (.int p2), .val (.int p3), .val (.int p4), .val (.int p5), .val (.int b1), .val (.int c0), .val (.int c1), .val (.int b2), .val (.int d0), .val (.int d1), .val (.ref s1), .val (.ref s2), .val (.int q1), .val (.int q2), .val (.ref b134), .val (.ref b144), .val (.int kd), .unset, .unset]) rfl) ?_
                show FinW p e below s Z EL h0 _ _ _ (T157.setTop (mkF m 240 #[.val (.int p1), .val (.int p2), .val (.int p3), .val (.int p4), .val (.int p5), .val (.int b1), .val (.int c0), .val (.int c1), .val (.int b2), .val (.int d0), .val (.int d1), .val (.ref s1), .val (.ref s2), .val (.int q1), .val (.int q2), .val (.ref b134), .val (.ref b144), .val (.int kd), .unset, .unset] []))
                refine FinW.st (fun _ => XS.iload X157.here hx rfl (Jvm.hb hby at_240) rfl) ?_
                show FinW p e below s Z EL h0 _ _ _ (T157.setTop (mkF m 242 #[.val (.int p1), .val (.int p2), .val (.int p3), .val (.int p4), .val (.int p5), .val (.int b1), .val (.int c0), .val (.int c1), .val (.int b2), .val (.int d0), .val (.int d1), .val (.ref s1), .val (.ref s2), .val (.int q1), .val (.int q2), .val (.ref b134), .val (.ref b144), .val (.int kd), .unset, .unset] [(.int kd)]))
                by_cases hk0 : kd = (0 : Int32)
                · skip
                  refine FinW.st (fun _ => XS.ifNo X157.here hx rfl (Jvm.hb hby at_242) rfl (zneN hk0)) ?_
                  show FinW p e below s Z EL h0 _ _ _ (T157.setTop (mkF m 245 #[.val (.int p1), .val (.int p2), .val (.int p3), .val (.int p4), .val (.int p5), .val (.int b1), .val (.int c0), .val (.int c1), .val (.int b2), .val (.int d0), .val (.int d1), .val (.ref s1), .val (.ref s2), .val (.int q1), .val (.int q2), .val (.ref b134), .val (.ref b144), .val (.int kd), .unset, .unset] []))
                  refine FinW.st (fun _ => XS.aload X157.here hx rfl (Jvm.hb hby at_245) rfl rfl) ?_
                  show FinW p e below s Z EL h0 _ _ _ (T157.setTop (mkF m 247 #[.val (.int p1), .val (.int p2), .val (.int p3), .val (.int p4), .val (.int p5), .val (.int b1), .val (.int c0), .val (.int c1), .val (.int b2), .val (.int d0), .val (.int d1), .val (.ref s1), .val (.ref s2), .val (.int q1), .val (.int q2), .val (.ref b134), .val (.ref b144), .val (.int kd), .unset, .unset] [(.ref b144)]))
                  refine FinW.st (fun _ => XS.astore X157.here hx rfl (Jvm.hb hby at_247) rfl rfl (l' := #[.val (.int p1), .val (.int p2), .val (.int p3), .val (.int p4), .val (.int p5), .val (.int b1), .val (.int c0), .val (.int c1), .val (.int b2), .val (.int d0), .val (.int d1), .val (.ref s1), .val (.ref s2), .val (.int q1), .val (.int q2), .val (.ref b134), .val (.ref b144), .val (.int kd), .val (.ref b144), .unset]) rfl) ?_
                  show FinW p e below s Z EL h0 _ _ _ (T157.setTop (mkF m 249 #[.val (.int p1), .val (.int p2), .val (.int p3), .val (.int p4), .val (.int p5), .val (.int b1), .val (.int c0), .val (.int c1), .val (.int b2), .val (.int d0), .val (.int d1), .val (.ref s1), .val (.ref s2), .val (.int q1), .val (.int q2), .val (.ref b134), .val (.ref b144), .val (.int kd), .val (.ref b144), .unset] []))
                  refine FinW.st (fun _ => XS.iload X157.here hx rfl (Jvm.hb hby at_249) rfl) ?_
                  show FinW p e below s Z EL h0 _ _ _ (T157.setTop (mkF m 251 #[.val (.int p1), .val (.int p2), .val (.int p3), .val (.int p4), .val (.int p5), .val (.int b1), .val (.int c0), .val (.int c1), .val (.int b2), .val (.int d0), .val (.int d1), .val (.ref s1), .val (.ref s2), .val (.int q1), .val (.int q2), .val (.ref b134), .val (.ref b144), .val (.int kd), .val (.ref b144), .unset] [(.int b1)]))
                  refine FinW.st (fun _ => XS.iload X157.here hx rfl (Jvm.hb hby at_251) rfl) ?_
                  show FinW p e below s Z EL h0 _ _ _ (T157.setTop (mkF m 253 #[.val (.int p1), .val (.int p2), .val (.int p3), .val (.int p4), .val (.int p5), .val (.int b1), .val (.int c0), .val (.int c1), .val (.int b2), .val (.int d0), .val (.int d1), .val (.ref s1), .val (.ref s2), .val (.int q1), .val (.int q2), .val (.ref b134), .val (.ref b144), .val (.int kd), .val (.ref b144), .unset] [(.int b2), (.int b1)]))
                  refine join1W (α := Int32) (P := fun e1 => (e1 = 1 ∧ (cs1 = cs2 ∧ q1 = q2)) ∨ (e1 = 0 ∧ ¬ (cs1 = cs2 ∧ q1 = q2))) (A := fun e1 => T157.setTop (mkF m 287 #[.val (.int p1), .val (.int p2), .val (.int p3), .val (.int p4), .val (.int p5), .val (.int b1), .val (.int c0), .val (.int c1), .val (.int b2), .val (.int d0), .val (.int d1), .val (.ref s1), .val (.ref s2), .val (.int q1), .val (.int q2), .val (.ref b134), .val (.ref b144), .val (.int kd), .val (.ref b144), .unset] [(.int e1)])) ?_ ?_
                  · rintro e1 he
                    show FinW p e below s Z EL h0 _ _ _ (T157.setTop (mkF m 287 #[.val (.int p1), .val (.int p2), .val (.int p3), .val (.int p4), .val (.int p5), .val (.int b1), .val (.int c0), .val (.int c1), .val (.int b2), .val (.int d0), .val (.int d1), .val (.ref s1), .val (.ref s2), .val (.int q1), .val (.int q2), .val (.ref b134), .val (.ref b144), .val (.int kd), .val (.ref b144), .unset] [(.int e1)]))
                    refine FinW.st (fun _ => XS.istore X157.here hx rfl (Jvm.hb hby at_287) rfl (l' := #[.val (.int p1), .val (.int p2), .val (.int p3), .val (.int p4), .val (.int p5), .val (.int b1), .val (.int c0), .val (.int c1), .val (.int b2), .val (.int d0), .val (.int d1), .val (.ref s1), .val (.ref s2), .val (.int q1), .val (.int q2), .val (.ref b134), .val (.ref b144), .val (.int kd), .val (.ref b144), .val (.int e1)]) rfl) ?_
                    show FinW p e below s Z EL h0 _ _ _ (T157.setTop (mkF m 289 #[.val (.int p1), .val (.int p2), .val (.int p3), .val (.int p4), .val (.int p5), .val (.int b1), .val (.int c0), .val (.int c1), .val (.int b2), .val (.int d0), .val (.int d1), .val (.ref s1), .val (.ref s2), .val (.int q1), .val (.int q2), .val (.ref b134), .val (.ref b144), .val (.int kd), .val (.ref b144), .val (.int e1)] []))
                    refine FinW.st (fun _ => XS.goto X157.here hx rfl (pc0 := 289) (pc' := 330) rfl (Jvm.hb hby at_289) (by decide) (by decide)) ?_
                    show FinW p e below s Z EL h0 _ _ _ (T157.setTop (mkF m 330 #[.val (.int p1), .val (.int p2), .val (.int p3), .val (.int p4), .val (.int p5), .val (.int b1), .val (.int c0), .val (.int c1), .val (.int b2), .val (.int d0), .val (.int d1), .val (.ref s1), .val (.ref s2), .val (.int q1), .val (.int q2), .val (.ref b134), .val (.ref b144), .val (.int kd), .val (.ref b144), .val (.int e1)] []))
                    refine FinW.st (fun _ => XS.aload X157.here hx rfl (Jvm.hb hby at_330) rfl rfl) ?_
                    show FinW p e below s Z EL h0 _ _ _ (T157.setTop (mkF m 332 #[.val (.int p1), .val (.int p2), .val (.int p3), .val (.int p4), .val (.int p5), .val (.int b1), .val (.int c0), .val (.int c1), .val (.int b2), .val (.int d0), .val (.int d1), .val (.ref s1), .val (.ref s2), .val (.int q1), .val (.int q2), .val (.ref b134), .val (.ref b144), .val (.int kd), .val (.ref b144), .val (.int e1)] [(.ref b134)]))
                    refine FinW.st (fun _ => XS.aload X157.here hx rfl (Jvm.hb hby at_332) rfl rfl) ?_
                    show FinW p e below s Z EL h0 _ _ _ (T157.setTop (mkF m 334 #[.val (.int p1), .val (.int p2), .val (.int p3), .val (.int p4), .val (.int p5), .val (.int b1), .val (.int c0), .val (.int c1), .val (.int b2), .val (.int d0), .val (.int d1), .val (.ref s1), .val (.ref s2), .val (.int q1), .val (.int q2), .val (.ref b134), .val (.ref b144), .val (.int kd), .val (.ref b144), .val (.int e1)] [(.ref b144), (.ref b134)]))
                    have f159 := f155.keep K157 (allS ge144 all0)
                    have f160 := E142.ext E144
                    have f161 := f160.keep K157
                    have f162 := F142_host.ext E144
                    have f163 := f162.keep K157 (ninS ne153 nin0)
                    have f164 := F142_port.ext E144
                    have f165 := f164.keep K157 (ninS ne153 nin0)
                    have f166 := f146.ext E144
                    have f167 := f166.keep K157 (ninS ne147 nin0) (ninS ne148 nin0)
                    have f168 := f156.keep K157 (ninS ne151 nin0) (ninS ne152 nin0)
                    obtain ⟨_, T169, h169, L169, X169, e169, ⟨rfl, rfl, q169⟩, st169⟩ := goV X157 hx hZ157 hown157 (hw _ (List.mem_of_getElem? (i := 55) rfl)) (hw _ (List.mem_of_getElem? (i := 56) rfl)) (hw _ (List.mem_of_getElem? (i := 58) rfl)) (notFace_of_selects (args := #[]) (mvT hZ157 (hw _ (List.mem_of_getElem? (i := 58) rfl)))) (hw _ (List.mem_of_getElem? (i := 57) rfl)) (by decide) ((rmEqA l Z a0 hw [] b134 b144 s1 t1 s2 t2 cs1 cs2 q1 q2 cz h157 n0 f159 SC hcz f161 f163 f165 E157 F157_host F157_port f167 f168).pay (W := 0) hZ157 (hw _ (List.mem_of_getElem? (i := 59) rfl)) (hw _ (List.mem_of_getElem? (i := 33) rfl)) (by decide) (by decide)) e157 f161 (g := (mkF m 334 #[.val (.int p1), .val (.int p2), .val (.int p3), .val (.int p4), .val (.int p5), .val (.int b1), .val (.int c0), .val (.int c1), .val (.int b2), .val (.int d0), .val (.int d1), .val (.ref s1), .val (.ref s2), .val (.int q1), .val (.int q2), .val (.ref b134), .val (.ref b144), .val (.int kd), .val (.ref b144), .val (.int e1)] [(.ref b144), (.ref b134)])) rfl (by rw [hml]; rfl) [(.ref b144)] [] (lenOf pd_2 rfl) rfl (by show 2 * 0 + _ ≤ _; exact Nat.le_of_eq rfl) (Jvm.hb hby at_334) rfl (by decide) (by decide)
                    have e169 := e169.trans q169
                    have N169 := N157.app (Fr.nil n0)
                    refine FinW.st st169 ?_
                    show FinW p e below s Z EL h0 _ _ _ (T169.setTop (mkF m 337 #[.val (.int p1), .val (.int p2), .val (.int p3), .val (.int p4), .val (.int p5), .val (.int b1), .val (.int c0), .val (.int c1), .val (.int b2), .val (.int d0), .val (.int d1), .val (.ref s1), .val (.ref s2), .val (.int q1), .val (.int q2), .val (.ref b134), .val (.ref b144), .val (.int kd), .val (.ref b144), .val (.int e1)] [(.int (if cs1 = cs2 ∧ q1 = q2 then (1 : Int32) else 0))]))
                    refine FinW.st (fun _ => XS.iload X169.here hx rfl (Jvm.hb hby at_337) rfl) ?_
                    show FinW p e below s Z EL h0 _ _ _ (T169.setTop (mkF m 339 #[.val (.int p1), .val (.int p2), .val (.int p3), .val (.int p4), .val (.int p5), .val (.int b1), .val (.int c0), .val (.int c1), .val (.int b2), .val (.int d0), .val (.int d1), .val (.ref s1), .val (.ref s2), .val (.int q1), .val (.int q2), .val (.ref b134), .val (.ref b144), .val (.int kd), .val (.ref b144), .val (.int e1)] [(.int e1), (.int (if cs1 = cs2 ∧ q1 = q2 then (1 : Int32) else 0))]))
                    refine FinW.st (fun _ => XS.icmpNo X169.here hx rfl (Jvm.hb hby at_339) rfl (ineN (by rcases he with ⟨rfl, z⟩ | ⟨rfl, z⟩; exact if_pos z; exact if_neg z))) ?_
                    show FinW p e below s Z EL h0 _ _ _ (T169.setTop (mkF m 342 #[.val (.int p1), .val (.int p2), .val (.int p3), .val (.int p4), .val (.int p5), .val (.int b1), .val (.int c0), .val (.int c1), .val (.int b2), .val (.int d0), .val (.int d1), .val (.ref s1), .val (.ref s2), .val (.int q1), .val (.int q2), .val (.ref b134), .val (.ref b144), .val (.int kd), .val (.ref b144), .val (.int e1)] []))
                    refine FinW.st (fun _ => XS.iconst X169.here hx rfl (Jvm.hb hby at_342)) ?_
                    show FinW p e below s Z EL h0 _ _ _ (T169.setTop (mkF m 343 #[.val (.int p1), .val (.int p2), .val (.int p3), .val (.int p4), .val (.int p5), .val (.int b1), .val (.int c0), .val (.int c1), .val (.int b2), .val (.int d0), .val (.int d1), .val (.ref s1), .val (.ref s2), .val (.int q1), .val (.int q2), .val (.ref b134), .val (.ref b144), .val (.int kd), .val (.ref b144), .val (.int e1)] [(.int (1 : Int32))]))
                    refine FinW.st (fun _ => XS.goto X169.here hx rfl (pc0 := 343) (pc' := 347) rfl (Jvm.hb hby at_343) (by decide) (by decide)) ?_
                    show FinW p e below s Z EL h0 _ _ _ (T169.setTop (mkF m 347 #[.val (.int p1), .val (.int p2), .val (.int p3), .val (.int p4), .val (.int p5), .val (.int b1), .val (.int c0), .val (.int c1), .val (.int b2), .val (.int d0), .val (.int d1), .val (.ref s1), .val (.ref s2), .val (.int q1), .val (.int q2), .val (.ref b134), .val (.ref b144), .val (.int kd), .val (.ref b144), .val (.int e1)] [(.int (1 : Int32))]))
                    exact finNW X169 hx hlk hret (t := .boolean) (by simp) (Jvm.hb hby at_347) e169 hZ157 hEL B157 CH157 ⟨rfl, N169⟩ (by decide) (by decide)
                  intro j287
                  by_cases he1 : b1 = b2
                  · skip
                    refine FinW.st (fun _ => XS.icmpNo X157.here hx rfl (Jvm.hb hby at_253) rfl (ineN he1)) ?_
                    show FinW p e below s Z EL h0 _ _ _ (T157.setTop (mkF m 256 #[.val (.int p1), .val (.int p2), .val (.int p3), .val (.int p4), .val (.int p5), .val (.int b1), .val (.int c0), .val (.int c1), .val (.int b2), .val (.int d0), .val (.int d1), .val (.ref s1), .val (.ref s2), .val (.int q1), .val (.int q2), .val (.ref b134), .val (.ref b144), .val (.int kd), .val (.ref b144), .unset] []))
                    refine FinW.st (fun _ => XS.iload X157.here hx rfl (Jvm.hb hby at_256) rfl) ?_
                    show FinW p e below s Z EL h0 _ _ _ (T157.setTop (mkF m 258 #[.val (.int p1), .val (.int p2), .val (.int p3), .val (.int p4), .val (.int p5), .val (.int b1), .val (.int c0), .val (.int c1), .val (.int b2), .val (.int d0), .val (.int d1), .val (.ref s1), .val (.ref s2), .val (.int q1), .val (.int q2), .val (.ref b134), .val (.ref b144), .val (.int kd), .val (.ref b144), .unset] [(.int c0)]))
                    refine FinW.st (fun _ => XS.iload X157.here hx rfl (Jvm.hb hby at_258) rfl) ?_
                    show FinW p e below s Z EL h0 _ _ _ (T157.setTop (mkF m 260 #[.val (.int p1), .val (.int p2), .val (.int p3), .val (.int p4), .val (.int p5), .val (.int b1), .val (.int c0), .val (.int c1), .val (.int b2), .val (.int d0), .val (.int d1), .val (.ref s1), .val (.ref s2), .val (.int q1), .val (.int q2), .val (.ref b134), .val (.ref b144), .val (.int kd), .val (.ref b144), .unset] [(.int d0), (.int c0)]))
                    by_cases he2 : c0 = d0
                    · skip
                      refine FinW.st (fun _ => XS.icmpNo X157.here hx rfl (Jvm.hb hby at_260) rfl (ineN he2)) ?_
                      show FinW p e below s Z EL h0 _ _ _ (T157.setTop (mkF m 263 #[.val (.int p1), .val (.int p2), .val (.int p3), .val (.int p4), .val (.int p5), .val (.int b1), .val (.int c0), .val (.int c1), .val (.int b2), .val (.int d0), .val (.int d1), .val (.ref s1), .val (.ref s2), .val (.int q1), .val (.int q2), .val (.ref b134), .val (.ref b144), .val (.int kd), .val (.ref b144), .unset] []))
                      refine FinW.st (fun _ => XS.iload X157.here hx rfl (Jvm.hb hby at_263) rfl) ?_
                      show FinW p e below s Z EL h0 _ _ _ (T157.setTop (mkF m 265 #[.val (.int p1), .val (.int p2), .val (.int p3), .val (.int p4), .val (.int p5), .val (.int b1), .val (.int c0), .val (.int c1), .val (.int b2), .val (.int d0), .val (.int d1), .val (.ref s1), .val (.ref s2), .val (.int q1), .val (.int q2), .val (.ref b134), .val (.ref b144), .val (.int kd), .val (.ref b144), .unset] [(.int b1)]))
                      by_cases he3 : b1 = (0 : Int32)
                      · skip
                        refine FinW.st (fun _ => XS.ifYes X157.here hx rfl (pc0 := 265) (pc' := 275) rfl (Jvm.hb hby at_265) rfl (zeq he3) (by decide) (by decide)) ?_
                        show FinW p e below s Z EL h0 _ _ _ (T157.setTop (mkF m 275 #[.val (.int p1), .val (.int p2), .val (.int p3), .val (.int p4), .val (.int p5), .val (.int b1), .val (.int c0), .val (.int c1), .val (.int b2), .val (.int d0), .val (.int d1), .val (.ref s1), .val (.ref s2), .val (.int q1), .val (.int q2), .val (.ref b134), .val (.ref b144), .val (.int kd), .val (.ref b144), .unset] []))
                        refine FinW.st (fun _ => XS.iload X157.here hx rfl (Jvm.hb hby at_275) rfl) ?_
                        show FinW p e below s Z EL h0 _ _ _ (T157.setTop (mkF m 277 #[.val (.int p1), .val (.int p2), .val (.int p3), .val (.int p4), .val (.int p5), .val (.int b1), .val (.int c0), .val (.int c1), .val (.int b2), .val (.int d0), .val (.int d1), .val (.ref s1), .val (.ref s2), .val (.int q1), .val (.int q2), .val (.ref b134), .val (.ref b144), .val (.int kd), .val (.ref b144), .unset] [(.int q1)]))
                        refine FinW.st (fun _ => XS.iload X157.here hx rfl (Jvm.hb hby at_277) rfl) ?_
                        show FinW p e below s Z EL h0 _ _ _ (T157.setTop (mkF m 279 #[.val (.int p1), .val (.int p2), .val (.int p3), .val (.int p4), .val (.int p5), .val (.int b1), .val (.int c0), .val (.int c1), .val (.int b2), .val (.int d0), .val (.int d1), .val (.ref s1), .val (.ref s2), .val (.int q1), .val (.int q2), .val (.ref b134), .val (.ref b144), .val (.int kd), .val (.ref b144), .unset] [(.int q2), (.int q1)]))
                        by_cases he5 : q1 = q2
                        · skip
                          refine FinW.st (fun _ => XS.icmpNo X157.here hx rfl (Jvm.hb hby at_279) rfl (ineN he5)) ?_
                          show FinW p e below s Z EL h0 _ _ _ (T157.setTop (mkF m 282 #[.val (.int p1), .val (.int p2), .val (.int p3), .val (.int p4), .val (.int p5), .val (.int b1), .val (.int c0), .val (.int c1), .val (.int b2), .val (.int d0), .val (.int d1), .val (.ref s1), .val (.ref s2), .val (.int q1), .val (.int q2), .val (.ref b134), .val (.ref b144), .val (.int kd), .val (.ref b144), .unset] []))
                          refine FinW.st (fun _ => XS.iconst X157.here hx rfl (Jvm.hb hby at_282)) ?_
                          show FinW p e below s Z EL h0 _ _ _ (T157.setTop (mkF m 283 #[.val (.int p1), .val (.int p2), .val (.int p3), .val (.int p4), .val (.int p5), .val (.int b1), .val (.int c0), .val (.int c1), .val (.int b2), .val (.int d0), .val (.int d1), .val (.ref s1), .val (.ref s2), .val (.int q1), .val (.int q2), .val (.ref b134), .val (.ref b144), .val (.int kd), .val (.ref b144), .unset] [(.int (1 : Int32))]))
                          refine FinW.st (fun _ => XS.goto X157.here hx rfl (pc0 := 283) (pc' := 287) rfl (Jvm.hb hby at_283) (by decide) (by decide)) ?_
                          show FinW p e below s Z EL h0 _ _ _ (T157.setTop (mkF m 287 #[.val (.int p1), .val (.int p2), .val (.int p3), .val (.int p4), .val (.int p5), .val (.int b1), .val (.int c0), .val (.int c1), .val (.int b2), .val (.int d0), .val (.int d1), .val (.ref s1), .val (.ref s2), .val (.int q1), .val (.int q2), .val (.ref b134), .val (.ref b144), .val (.int kd), .val (.ref b144), .unset] [(.int (1 : Int32))]))
                          exact j287 (1 : Int32) (Or.inl ⟨rfl, (eqL hss1 hss2).mpr ⟨he1, he2, Or.inl he3⟩, he5⟩)
                        · skip
                          refine FinW.st (fun _ => XS.icmpYes X157.here hx rfl (pc0 := 279) (pc' := 286) rfl (Jvm.hb hby at_279) rfl (ine he5) (by decide) (by decide)) ?_
                          show FinW p e below s Z EL h0 _ _ _ (T157.setTop (mkF m 286 #[.val (.int p1), .val (.int p2), .val (.int p3), .val (.int p4), .val (.int p5), .val (.int b1), .val (.int c0), .val (.int c1), .val (.int b2), .val (.int d0), .val (.int d1), .val (.ref s1), .val (.ref s2), .val (.int q1), .val (.int q2), .val (.ref b134), .val (.ref b144), .val (.int kd), .val (.ref b144), .unset] []))
                          refine FinW.st (fun _ => XS.iconst X157.here hx rfl (Jvm.hb hby at_286)) ?_
                          show FinW p e below s Z EL h0 _ _ _ (T157.setTop (mkF m 287 #[.val (.int p1), .val (.int p2), .val (.int p3), .val (.int p4), .val (.int p5), .val (.int b1), .val (.int c0), .val (.int c1), .val (.int b2), .val (.int d0), .val (.int d1), .val (.ref s1), .val (.ref s2), .val (.int q1), .val (.int q2), .val (.ref b134), .val (.ref b144), .val (.int kd), .val (.ref b144), .unset] [(.int (0 : Int32))]))
                          exact j287 (0 : Int32) (Or.inr ⟨rfl, fun z => he5 z.2⟩)
                      · skip
                        refine FinW.st (fun _ => XS.ifNo X157.here hx rfl (Jvm.hb hby at_265) rfl (zeqN he3)) ?_
                        show FinW p e below s Z EL h0 _ _ _ (T157.setTop (mkF m 268 #[.val (.int p1), .val (.int p2), .val (.int p3), .val (.int p4), .val (.int p5), .val (.int b1), .val (.int c0), .val (.int c1), .val (.int b2), .val (.int d0), .val (.int d1), .val (.ref s1), .val (.ref s2), .val (.int q1), .val (.int q2), .val (.ref b134), .val (.ref b144), .val (.int kd), .val (.ref b144), .unset] []))
                        refine FinW.st (fun _ => XS.iload X157.here hx rfl (Jvm.hb hby at_268) rfl) ?_
                        show FinW p e below s Z EL h0 _ _ _ (T157.setTop (mkF m 270 #[.val (.int p1), .val (.int p2), .val (.int p3), .val (.int p4), .val (.int p5), .val (.int b1), .val (.int c0), .val (.int c1), .val (.int b2), .val (.int d0), .val (.int d1), .val (.ref s1), .val (.ref s2), .val (.int q1), .val (.int q2), .val (.ref b134), .val (.ref b144), .val (.int kd), .val (.ref b144), .unset] [(.int c1)]))
                        refine FinW.st (fun _ => XS.iload X157.here hx rfl (Jvm.hb hby at_270) rfl) ?_
                        show FinW p e below s Z EL h0 _ _ _ (T157.setTop (mkF m 272 #[.val (.int p1), .val (.int p2), .val (.int p3), .val (.int p4), .val (.int p5), .val (.int b1), .val (.int c0), .val (.int c1), .val (.int b2), .val (.int d0), .val (.int d1), .val (.ref s1), .val (.ref s2), .val (.int q1), .val (.int q2), .val (.ref b134), .val (.ref b144), .val (.int kd), .val (.ref b144), .unset] [(.int d1), (.int c1)]))
                        by_cases he4 : c1 = d1
                        · skip
                          refine FinW.st (fun _ => XS.icmpNo X157.here hx rfl (Jvm.hb hby at_272) rfl (ineN he4)) ?_
                          show FinW p e below s Z EL h0 _ _ _ (T157.setTop (mkF m 275 #[.val (.int p1), .val (.int p2), .val (.int p3), .val (.int p4), .val (.int p5), .val (.int b1), .val (.int c0), .val (.int c1), .val (.int b2), .val (.int d0), .val (.int d1), .val (.ref s1), .val (.ref s2), .val (.int q1), .val (.int q2), .val (.ref b134), .val (.ref b144), .val (.int kd), .val (.ref b144), .unset] []))
                          refine FinW.st (fun _ => XS.iload X157.here hx rfl (Jvm.hb hby at_275) rfl) ?_
                          show FinW p e below s Z EL h0 _ _ _ (T157.setTop (mkF m 277 #[.val (.int p1), .val (.int p2), .val (.int p3), .val (.int p4), .val (.int p5), .val (.int b1), .val (.int c0), .val (.int c1), .val (.int b2), .val (.int d0), .val (.int d1), .val (.ref s1), .val (.ref s2), .val (.int q1), .val (.int q2), .val (.ref b134), .val (.ref b144), .val (.int kd), .val (.ref b144), .unset] [(.int q1)]))
                          refine FinW.st (fun _ => XS.iload X157.here hx rfl (Jvm.hb hby at_277) rfl) ?_
                          show FinW p e below s Z EL h0 _ _ _ (T157.setTop (mkF m 279 #[.val (.int p1), .val (.int p2), .val (.int p3), .val (.int p4), .val (.int p5), .val (.int b1), .val (.int c0), .val (.int c1), .val (.int b2), .val (.int d0), .val (.int d1), .val (.ref s1), .val (.ref s2), .val (.int q1), .val (.int q2), .val (.ref b134), .val (.ref b144), .val (.int kd), .val (.ref b144), .unset] [(.int q2), (.int q1)]))
                          by_cases he5 : q1 = q2
                          · skip
                            refine FinW.st (fun _ => XS.icmpNo X157.here hx rfl (Jvm.hb hby at_279) rfl (ineN he5)) ?_
                            show FinW p e below s Z EL h0 _ _ _ (T157.setTop (mkF m 282 #[.val (.int p1), .val (.int p2), .val (.int p3), .val (.int p4), .val (.int p5), .val (.int b1), .val (.int c0), .val (.int c1), .val (.int b2), .val (.int d0), .val (.int d1), .val (.ref s1), .val (.ref s2), .val (.int q1), .val (.int q2), .val (.ref b134), .val (.ref b144), .val (.int kd), .val (.ref b144), .unset] []))
                            refine FinW.st (fun _ => XS.iconst X157.here hx rfl (Jvm.hb hby at_282)) ?_
                            show FinW p e below s Z EL h0 _ _ _ (T157.setTop (mkF m 283 #[.val (.int p1), .val (.int p2), .val (.int p3), .val (.int p4), .val (.int p5), .val (.int b1), .val (.int c0), .val (.int c1), .val (.int b2), .val (.int d0), .val (.int d1), .val (.ref s1), .val (.ref s2), .val (.int q1), .val (.int q2), .val (.ref b134), .val (.ref b144), .val (.int kd), .val (.ref b144), .unset] [(.int (1 : Int32))]))
                            refine FinW.st (fun _ => XS.goto X157.here hx rfl (pc0 := 283) (pc' := 287) rfl (Jvm.hb hby at_283) (by decide) (by decide)) ?_
                            show FinW p e below s Z EL h0 _ _ _ (T157.setTop (mkF m 287 #[.val (.int p1), .val (.int p2), .val (.int p3), .val (.int p4), .val (.int p5), .val (.int b1), .val (.int c0), .val (.int c1), .val (.int b2), .val (.int d0), .val (.int d1), .val (.ref s1), .val (.ref s2), .val (.int q1), .val (.int q2), .val (.ref b134), .val (.ref b144), .val (.int kd), .val (.ref b144), .unset] [(.int (1 : Int32))]))
                            exact j287 (1 : Int32) (Or.inl ⟨rfl, (eqL hss1 hss2).mpr ⟨he1, he2, Or.inr he4⟩, he5⟩)
                          · skip
                            refine FinW.st (fun _ => XS.icmpYes X157.here hx rfl (pc0 := 279) (pc' := 286) rfl (Jvm.hb hby at_279) rfl (ine he5) (by decide) (by decide)) ?_
                            show FinW p e below s Z EL h0 _ _ _ (T157.setTop (mkF m 286 #[.val (.int p1), .val (.int p2), .val (.int p3), .val (.int p4), .val (.int p5), .val (.int b1), .val (.int c0), .val (.int c1), .val (.int b2), .val (.int d0), .val (.int d1), .val (.ref s1), .val (.ref s2), .val (.int q1), .val (.int q2), .val (.ref b134), .val (.ref b144), .val (.int kd), .val (.ref b144), .unset] []))
                            refine FinW.st (fun _ => XS.iconst X157.here hx rfl (Jvm.hb hby at_286)) ?_
                            show FinW p e below s Z EL h0 _ _ _ (T157.setTop (mkF m 287 #[.val (.int p1), .val (.int p2), .val (.int p3), .val (.int p4), .val (.int p5), .val (.int b1), .val (.int c0), .val (.int c1), .val (.int b2), .val (.int d0), .val (.int d1), .val (.ref s1), .val (.ref s2), .val (.int q1), .val (.int q2), .val (.ref b134), .val (.ref b144), .val (.int kd), .val (.ref b144), .unset] [(.int (0 : Int32))]))
                            exact j287 (0 : Int32) (Or.inr ⟨rfl, fun z => he5 z.2⟩)
                        · skip
                          refine FinW.st (fun _ => XS.icmpYes X157.here hx rfl (pc0 := 272) (pc' := 286) rfl (Jvm.hb hby at_272) rfl (ine he4) (by decide) (by decide)) ?_
                          show FinW p e below s Z EL h0 _ _ _ (T157.setTop (mkF m 286 #[.val (.int p1), .val (.int p2), .val (.int p3), .val (.int p4), .val (.int p5), .val (.int b1), .val (.int c0), .val (.int c1), .val (.int b2), .val (.int d0), .val (.int d1), .val (.ref s1), .val (.ref s2), .val (.int q1), .val (.int q2), .val (.ref b134), .val (.ref b144), .val (.int kd), .val (.ref b144), .unset] []))
                          refine FinW.st (fun _ => XS.iconst X157.here hx rfl (Jvm.hb hby at_286)) ?_
                          show FinW p e below s Z EL h0 _ _ _ (T157.setTop (mkF m 287 #[.val (.int p1), .val (.int p2), .val (.int p3), .val (.int p4), .val (.int p5), .val (.int b1), .val (.int c0), .val (.int c1), .val (.int b2), .val (.int d0), .val (.int d1), .val (.ref s1), .val (.ref s2), .val (.int q1), .val (.int q2), .val (.ref b134), .val (.ref b144), .val (.int kd), .val (.ref b144), .unset] [(.int (0 : Int32))]))
                          exact j287 (0 : Int32) (Or.inr ⟨rfl, fun z => ((eqL hss1 hss2).mp z.1).2.2.elim he3 he4⟩)
                    · skip
                      refine FinW.st (fun _ => XS.icmpYes X157.here hx rfl (pc0 := 260) (pc' := 286) rfl (Jvm.hb hby at_260) rfl (ine he2) (by decide) (by decide)) ?_
                      show FinW p e below s Z EL h0 _ _ _ (T157.setTop (mkF m 286 #[.val (.int p1), .val (.int p2), .val (.int p3), .val (.int p4), .val (.int p5), .val (.int b1), .val (.int c0), .val (.int c1), .val (.int b2), .val (.int d0), .val (.int d1), .val (.ref s1), .val (.ref s2), .val (.int q1), .val (.int q2), .val (.ref b134), .val (.ref b144), .val (.int kd), .val (.ref b144), .unset] []))
                      refine FinW.st (fun _ => XS.iconst X157.here hx rfl (Jvm.hb hby at_286)) ?_
                      show FinW p e below s Z EL h0 _ _ _ (T157.setTop (mkF m 287 #[.val (.int p1), .val (.int p2), .val (.int p3), .val (.int p4), .val (.int p5), .val (.int b1), .val (.int c0), .val (.int c1), .val (.int b2), .val (.int d0), .val (.int d1), .val (.ref s1), .val (.ref s2), .val (.int q1), .val (.int q2), .val (.ref b134), .val (.ref b144), .val (.int kd), .val (.ref b144), .unset] [(.int (0 : Int32))]))
                      exact j287 (0 : Int32) (Or.inr ⟨rfl, fun z => he2 ((eqL hss1 hss2).mp z.1).2.1⟩)
                  · skip
                    refine FinW.st (fun _ => XS.icmpYes X157.here hx rfl (pc0 := 253) (pc' := 286) rfl (Jvm.hb hby at_253) rfl (ine he1) (by decide) (by decide)) ?_
                    show FinW p e below s Z EL h0 _ _ _ (T157.setTop (mkF m 286 #[.val (.int p1), .val (.int p2), .val (.int p3), .val (.int p4), .val (.int p5), .val (.int b1), .val (.int c0), .val (.int c1), .val (.int b2), .val (.int d0), .val (.int d1), .val (.ref s1), .val (.ref s2), .val (.int q1), .val (.int q2), .val (.ref b134), .val (.ref b144), .val (.int kd), .val (.ref b144), .unset] []))
                    refine FinW.st (fun _ => XS.iconst X157.here hx rfl (Jvm.hb hby at_286)) ?_
                    show FinW p e below s Z EL h0 _ _ _ (T157.setTop (mkF m 287 #[.val (.int p1), .val (.int p2), .val (.int p3), .val (.int p4), .val (.int p5), .val (.int b1), .val (.int c0), .val (.int c1), .val (.int b2), .val (.int d0), .val (.int d1), .val (.ref s1), .val (.ref s2), .val (.int q1), .val (.int q2), .val (.ref b134), .val (.ref b144), .val (.int kd), .val (.ref b144), .unset] [(.int (0 : Int32))]))
                    exact j287 (0 : Int32) (Or.inr ⟨rfl, fun z => he1 ((eqL hss1 hss2).mp z.1).1⟩)
                · skip
                  refine FinW.st (fun _ => XS.ifYes X157.here hx rfl (pc0 := 242) (pc' := 292) rfl (Jvm.hb hby at_242) rfl (zne hk0) (by decide) (by decide)) ?_
                  show FinW p e below s Z EL h0 _ _ _ (T157.setTop (mkF m 292 #[.val (.int p1), .val (.int p2), .val (.int p3), .val (.int p4), .val (.int p5), .val (.int b1), .val (.int c0), .val (.int c1), .val (.int b2), .val (.int d0), .val (.int d1), .val (.ref s1), .val (.ref s2), .val (.int q1), .val (.int q2), .val (.ref b134), .val (.ref b144), .val (.int kd), .unset, .unset] []))
                  refine FinW.st (fun _ => XS.iload X157.here hx rfl (Jvm.hb hby at_292) rfl) ?_
                  show FinW p e below s Z EL h0 _ _ _ (T157.setTop (mkF m 294 #[.val (.int p1), .val (.int p2), .val (.int p3), .val (.int p4), .val (.int p5), .val (.int b1), .val (.int c0), .val (.int c1), .val (.int b2), .val (.int d0), .val (.int d1), .val (.ref s1), .val (.ref s2), .val (.int q1), .val (.int q2), .val (.ref b134), .val (.ref b144), .val (.int kd), .unset, .unset] [(.int kd)]))
                  refine FinW.st (fun _ => XS.iconst X157.here hx rfl (Jvm.hb hby at_294)) ?_
                  show FinW p e below s Z EL h0 _ _ _ (T157.setTop (mkF m 295 #[.val (.int p1), .val (.int p2), .val (.int p3), .val (.int p4), .val (.int p5), .val (.int b1), .val (.int c0), .val (.int c1), .val (.int b2), .val (.int d0), .val (.int d1), .val (.ref s1), .val (.ref s2), .val (.int q1), .val (.int q2), .val (.ref b134), .val (.ref b144), .val (.int kd), .unset, .unset] [(.int (1 : Int32)), (.int kd)]))
                  by_cases hk1 : kd = (1 : Int32)
                  · skip
                    refine FinW.st (fun _ => XS.icmpNo X157.here hx rfl (Jvm.hb hby at_295) rfl (ineN hk1)) ?_
                    show FinW p e below s Z EL h0 _ _ _ (T157.setTop (mkF m 298 #[.val (.int p1), .val (.int p2), .val (.int p3), .val (.int p4), .val (.int p5), .val (.int b1), .val (.int c0), .val (.int c1), .val (.int b2), .val (.int d0), .val (.int d1), .val (.ref s1), .val (.ref s2), .val (.int q1), .val (.int q2), .val (.ref b134), .val (.ref b144), .val (.int kd), .unset, .unset] []))
                    refine FinW.st (fun _ => XS.aload X157.here hx rfl (Jvm.hb hby at_298) rfl rfl) ?_
                    show FinW p e below s Z EL h0 _ _ _ (T157.setTop (mkF m 300 #[.val (.int p1), .val (.int p2), .val (.int p3), .val (.int p4), .val (.int p5), .val (.int b1), .val (.int c0), .val (.int c1), .val (.int b2), .val (.int d0), .val (.int d1), .val (.ref s1), .val (.ref s2), .val (.int q1), .val (.int q2), .val (.ref b134), .val (.ref b144), .val (.int kd), .unset, .unset] [(.ref b134)]))
                    refine FinW.st (fun _ => XS.astore X157.here hx rfl (Jvm.hb hby at_300) rfl rfl (l' := #[.val (.int p1), .val (.int p2), .val (.int p3), .val (.int p4), .val (.int p5), .val (.int b1), .val (.int c0), .val (.int c1), .val (.int b2), .val (.int d0), .val (.int d1), .val (.ref s1), .val (.ref s2), .val (.int q1), .val (.int q2), .val (.ref b134), .val (.ref b144), .val (.int kd), .val (.ref b134), .unset]) rfl) ?_
                    show FinW p e below s Z EL h0 _ _ _ (T157.setTop (mkF m 302 #[.val (.int p1), .val (.int p2), .val (.int p3), .val (.int p4), .val (.int p5), .val (.int b1), .val (.int c0), .val (.int c1), .val (.int b2), .val (.int d0), .val (.int d1), .val (.ref s1), .val (.ref s2), .val (.int q1), .val (.int q2), .val (.ref b134), .val (.ref b144), .val (.int kd), .val (.ref b134), .unset] []))
                    refine FinW.st (fun _ => XS.iconst X157.here hx rfl (Jvm.hb hby at_302)) ?_
                    show FinW p e below s Z EL h0 _ _ _ (T157.setTop (mkF m 303 #[.val (.int p1), .val (.int p2), .val (.int p3), .val (.int p4), .val (.int p5), .val (.int b1), .val (.int c0), .val (.int c1), .val (.int b2), .val (.int d0), .val (.int d1), .val (.ref s1), .val (.ref s2), .val (.int q1), .val (.int q2), .val (.ref b134), .val (.ref b144), .val (.int kd), .val (.ref b134), .unset] [(.int (1 : Int32))]))
                    refine FinW.st (fun _ => XS.istore X157.here hx rfl (Jvm.hb hby at_303) rfl (l' := #[.val (.int p1), .val (.int p2), .val (.int p3), .val (.int p4), .val (.int p5), .val (.int b1), .val (.int c0), .val (.int c1), .val (.int b2), .val (.int d0), .val (.int d1), .val (.ref s1), .val (.ref s2), .val (.int q1), .val (.int q2), .val (.ref b134), .val (.ref b144), .val (.int kd), .val (.ref b134), .val (.int (1 : Int32))]) rfl) ?_
                    show FinW p e below s Z EL h0 _ _ _ (T157.setTop (mkF m 305 #[.val (.int p1), .val (.int p2), .val (.int p3), .val (.int p4), .val (.int p5), .val (.int b1), .val (.int c0), .val (.int c1), .val (.int b2), .val (.int d0), .val (.int d1), .val (.ref s1), .val (.ref s2), .val (.int q1), .val (.int q2), .val (.ref b134), .val (.ref b144), .val (.int kd), .val (.ref b134), .val (.int (1 : Int32))] []))
                    refine FinW.st (fun _ => XS.goto X157.here hx rfl (pc0 := 305) (pc' := 330) rfl (Jvm.hb hby at_305) (by decide) (by decide)) ?_
                    show FinW p e below s Z EL h0 _ _ _ (T157.setTop (mkF m 330 #[.val (.int p1), .val (.int p2), .val (.int p3), .val (.int p4), .val (.int p5), .val (.int b1), .val (.int c0), .val (.int c1), .val (.int b2), .val (.int d0), .val (.int d1), .val (.ref s1), .val (.ref s2), .val (.int q1), .val (.int q2), .val (.ref b134), .val (.ref b144), .val (.int kd), .val (.ref b134), .val (.int (1 : Int32))] []))
                    refine FinW.st (fun _ => XS.aload X157.here hx rfl (Jvm.hb hby at_330) rfl rfl) ?_
                    show FinW p e below s Z EL h0 _ _ _ (T157.setTop (mkF m 332 #[.val (.int p1), .val (.int p2), .val (.int p3), .val (.int p4), .val (.int p5), .val (.int b1), .val (.int c0), .val (.int c1), .val (.int b2), .val (.int d0), .val (.int d1), .val (.ref s1), .val (.ref s2), .val (.int q1), .val (.int q2), .val (.ref b134), .val (.ref b144), .val (.int kd), .val (.ref b134), .val (.int (1 : Int32))] [(.ref b134)]))
                    refine FinW.st (fun _ => XS.aload X157.here hx rfl (Jvm.hb hby at_332) rfl rfl) ?_
                    show FinW p e below s Z EL h0 _ _ _ (T157.setTop (mkF m 334 #[.val (.int p1), .val (.int p2), .val (.int p3), .val (.int p4), .val (.int p5), .val (.int b1), .val (.int c0), .val (.int c1), .val (.int b2), .val (.int d0), .val (.int d1), .val (.ref s1), .val (.ref s2), .val (.int q1), .val (.int q2), .val (.ref b134), .val (.ref b144), .val (.int kd), .val (.ref b134), .val (.int (1 : Int32))] [(.ref b134), (.ref b134)]))
                    have f170 := f155.keep K157 (allS ge144 all0)
                    have f171 := E142.ext E144
                    have f172 := f171.keep K157
                    have f173 := F142_host.ext E144
                    have f174 := f173.keep K157 (ninS ne153 nin0)
                    have f175 := F142_port.ext E144
                    have f176 := f175.keep K157 (ninS ne153 nin0)
                    have f177 := f146.ext E144
                    have f178 := f177.keep K157 (ninS ne147 nin0) (ninS ne148 nin0)
                    obtain ⟨_, T179, h179, L179, X179, e179, ⟨rfl, rfl, q179⟩, st179⟩ := goV X157 hx hZ157 hown157 (hw _ (List.mem_of_getElem? (i := 55) rfl)) (hw _ (List.mem_of_getElem? (i := 56) rfl)) (hw _ (List.mem_of_getElem? (i := 58) rfl)) (notFace_of_selects (args := #[]) (mvT hZ157 (hw _ (List.mem_of_getElem? (i := 58) rfl)))) (hw _ (List.mem_of_getElem? (i := 57) rfl)) (by decide) ((rmEqA l Z a0 hw [] b134 b134 s1 t1 s1 t1 cs1 cs1 q1 q1 cz h157 n0 f170 SC hcz f172 f174 f176 f172 f174 f176 f178 f178).pay (W := 0) hZ157 (hw _ (List.mem_of_getElem? (i := 59) rfl)) (hw _ (List.mem_of_getElem? (i := 33) rfl)) (by decide) (by decide)) e157 f172 (g := (mkF m 334 #[.val (.int p1), .val (.int p2), .val (.int p3), .val (.int p4), .val (.int p5), .val (.int b1), .val (.int c0), .val (.int c1), .val (.int b2), .val (.int d0), .val (.int d1), .val (.ref s1), .val (.ref s2), .val (.int q1), .val (.int q2), .val (.ref b134), .val (.ref b144), .val (.int kd), .val (.ref b134), .val (.int (1 : Int32))] [(.ref b134), (.ref b134)])) rfl (by rw [hml]; rfl) [(.ref b134)] [] (lenOf pd_2 rfl) rfl (by show 2 * 0 + _ ≤ _; exact Nat.le_of_eq rfl) (Jvm.hb hby at_334) rfl (by decide) (by decide)
                    have e179 := e179.trans q179
                    have N179 := N157.app (Fr.nil n0)
                    refine FinW.st st179 ?_
                    show FinW p e below s Z EL h0 _ _ _ (T179.setTop (mkF m 337 #[.val (.int p1), .val (.int p2), .val (.int p3), .val (.int p4), .val (.int p5), .val (.int b1), .val (.int c0), .val (.int c1), .val (.int b2), .val (.int d0), .val (.int d1), .val (.ref s1), .val (.ref s2), .val (.int q1), .val (.int q2), .val (.ref b134), .val (.ref b144), .val (.int kd), .val (.ref b134), .val (.int (1 : Int32))] [(.int (if cs1 = cs1 ∧ q1 = q1 then (1 : Int32) else 0))]))
                    refine FinW.st (fun _ => XS.iload X179.here hx rfl (Jvm.hb hby at_337) rfl) ?_
                    show FinW p e below s Z EL h0 _ _ _ (T179.setTop (mkF m 339 #[.val (.int p1), .val (.int p2), .val (.int p3), .val (.int p4), .val (.int p5), .val (.int b1), .val (.int c0), .val (.int c1), .val (.int b2), .val (.int d0), .val (.int d1), .val (.ref s1), .val (.ref s2), .val (.int q1), .val (.int q2), .val (.ref b134), .val (.ref b144), .val (.int kd), .val (.ref b134), .val (.int (1 : Int32))] [(.int (1 : Int32)), (.int (if cs1 = cs1 ∧ q1 = q1 then (1 : Int32) else 0))]))
                    refine FinW.st (fun _ => XS.icmpNo X179.here hx rfl (Jvm.hb hby at_339) rfl (ineN (if_pos ⟨rfl, rfl⟩))) ?_
                    show FinW p e below s Z EL h0 _ _ _ (T179.setTop (mkF m 342 #[.val (.int p1), .val (.int p2), .val (.int p3), .val (.int p4), .val (.int p5), .val (.int b1), .val (.int c0), .val (.int c1), .val (.int b2), .val (.int d0), .val (.int d1), .val (.ref s1), .val (.ref s2), .val (.int q1), .val (.int q2), .val (.ref b134), .val (.ref b144), .val (.int kd), .val (.ref b134), .val (.int (1 : Int32))] []))
                    refine FinW.st (fun _ => XS.iconst X179.here hx rfl (Jvm.hb hby at_342)) ?_
                    show FinW p e below s Z EL h0 _ _ _ (T179.setTop (mkF m 343 #[.val (.int p1), .val (.int p2), .val (.int p3), .val (.int p4), .val (.int p5), .val (.int b1), .val (.int c0), .val (.int c1), .val (.int b2), .val (.int d0), .val (.int d1), .val (.ref s1), .val (.ref s2), .val (.int q1), .val (.int q2), .val (.ref b134), .val (.ref b144), .val (.int kd), .val (.ref b134), .val (.int (1 : Int32))] [(.int (1 : Int32))]))
                    refine FinW.st (fun _ => XS.goto X179.here hx rfl (pc0 := 343) (pc' := 347) rfl (Jvm.hb hby at_343) (by decide) (by decide)) ?_
                    show FinW p e below s Z EL h0 _ _ _ (T179.setTop (mkF m 347 #[.val (.int p1), .val (.int p2), .val (.int p3), .val (.int p4), .val (.int p5), .val (.int b1), .val (.int c0), .val (.int c1), .val (.int b2), .val (.int d0), .val (.int d1), .val (.ref s1), .val (.ref s2), .val (.int q1), .val (.int q2), .val (.ref b134), .val (.ref b144), .val (.int kd), .val (.ref b134), .val (.int (1 : Int32))] [(.int (1 : Int32))]))
                    exact finNW X179 hx hlk hret (t := .boolean) (by simp) (Jvm.hb hby at_347) e179 hZ157 hEL B157 CH157 ⟨rfl, N179⟩ (by decide) (by decide)
                  · skip
                    refine FinW.st (fun _ => XS.icmpYes X157.here hx rfl (pc0 := 295) (pc' := 308) rfl (Jvm.hb hby at_295) rfl (ine hk1) (by decide) (by decide)) ?_
                    show FinW p e below s Z EL h0 _ _ _ (T157.setTop (mkF m 308 #[.val (.int p1), .val (.int p2), .val (.int p3), .val (.int p4), .val (.int p5), .val (.int b1), .val (.int c0), .val (.int c1), .val (.int b2), .val (.int d0), .val (.int d1), .val (.ref s1), .val (.ref s2), .val (.int q1), .val (.int q2), .val (.ref b134), .val (.ref b144), .val (.int kd), .unset, .unset] []))
                    refine FinW.st (fun _ => XS.iload X157.here hx rfl (Jvm.hb hby at_308) rfl) ?_
                    show FinW p e below s Z EL h0 _ _ _ (T157.setTop (mkF m 310 #[.val (.int p1), .val (.int p2), .val (.int p3), .val (.int p4), .val (.int p5), .val (.int b1), .val (.int c0), .val (.int c1), .val (.int b2), .val (.int d0), .val (.int d1), .val (.ref s1), .val (.ref s2), .val (.int q1), .val (.int q2), .val (.ref b134), .val (.ref b144), .val (.int kd), .unset, .unset] [(.int kd)]))
                    refine FinW.st (fun _ => XS.iconst X157.here hx rfl (Jvm.hb hby at_310)) ?_
                    show FinW p e below s Z EL h0 _ _ _ (T157.setTop (mkF m 311 #[.val (.int p1), .val (.int p2), .val (.int p3), .val (.int p4), .val (.int p5), .val (.int b1), .val (.int c0), .val (.int c1), .val (.int b2), .val (.int d0), .val (.int d1), .val (.ref s1), .val (.ref s2), .val (.int q1), .val (.int q2), .val (.ref b134), .val (.ref b144), .val (.int kd), .unset, .unset] [(.int (2 : Int32)), (.int kd)]))
                    by_cases hk2 : kd = (2 : Int32)
                    · skip
                      refine FinW.st (fun _ => XS.icmpNo X157.here hx rfl (Jvm.hb hby at_311) rfl (ineN hk2)) ?_
                      show FinW p e below s Z EL h0 _ _ _ (T157.setTop (mkF m 314 #[.val (.int p1), .val (.int p2), .val (.int p3), .val (.int p4), .val (.int p5), .val (.int b1), .val (.int c0), .val (.int c1), .val (.int b2), .val (.int d0), .val (.int d1), .val (.ref s1), .val (.ref s2), .val (.int q1), .val (.int q2), .val (.ref b134), .val (.ref b144), .val (.int kd), .unset, .unset] []))
                      refine FinW.st (fun _ => XS.aconstNull X157.here hx rfl (Jvm.hb hby at_314)) ?_
                      show FinW p e below s Z EL h0 _ _ _ (T157.setTop (mkF m 315 #[.val (.int p1), .val (.int p2), .val (.int p3), .val (.int p4), .val (.int p5), .val (.int b1), .val (.int c0), .val (.int c1), .val (.int b2), .val (.int d0), .val (.int d1), .val (.ref s1), .val (.ref s2), .val (.int q1), .val (.int q2), .val (.ref b134), .val (.ref b144), .val (.int kd), .unset, .unset] [.null]))
                      refine FinW.st (fun _ => XS.astore X157.here hx rfl (Jvm.hb hby at_315) rfl rfl (l' := #[.val (.int p1), .val (.int p2), .val (.int p3), .val (.int p4), .val (.int p5), .val (.int b1), .val (.int c0), .val (.int c1), .val (.int b2), .val (.int d0), .val (.int d1), .val (.ref s1), .val (.ref s2), .val (.int q1), .val (.int q2), .val (.ref b134), .val (.ref b144), .val (.int kd), .val .null, .unset]) rfl) ?_
                      show FinW p e below s Z EL h0 _ _ _ (T157.setTop (mkF m 317 #[.val (.int p1), .val (.int p2), .val (.int p3), .val (.int p4), .val (.int p5), .val (.int b1), .val (.int c0), .val (.int c1), .val (.int b2), .val (.int d0), .val (.int d1), .val (.ref s1), .val (.ref s2), .val (.int q1), .val (.int q2), .val (.ref b134), .val (.ref b144), .val (.int kd), .val .null, .unset] []))
                      refine FinW.st (fun _ => XS.iconst X157.here hx rfl (Jvm.hb hby at_317)) ?_
                      show FinW p e below s Z EL h0 _ _ _ (T157.setTop (mkF m 318 #[.val (.int p1), .val (.int p2), .val (.int p3), .val (.int p4), .val (.int p5), .val (.int b1), .val (.int c0), .val (.int c1), .val (.int b2), .val (.int d0), .val (.int d1), .val (.ref s1), .val (.ref s2), .val (.int q1), .val (.int q2), .val (.ref b134), .val (.ref b144), .val (.int kd), .val .null, .unset] [(.int (0 : Int32))]))
                      refine FinW.st (fun _ => XS.istore X157.here hx rfl (Jvm.hb hby at_318) rfl (l' := #[.val (.int p1), .val (.int p2), .val (.int p3), .val (.int p4), .val (.int p5), .val (.int b1), .val (.int c0), .val (.int c1), .val (.int b2), .val (.int d0), .val (.int d1), .val (.ref s1), .val (.ref s2), .val (.int q1), .val (.int q2), .val (.ref b134), .val (.ref b144), .val (.int kd), .val .null, .val (.int (0 : Int32))]) rfl) ?_
                      show FinW p e below s Z EL h0 _ _ _ (T157.setTop (mkF m 320 #[.val (.int p1), .val (.int p2), .val (.int p3), .val (.int p4), .val (.int p5), .val (.int b1), .val (.int c0), .val (.int c1), .val (.int b2), .val (.int d0), .val (.int d1), .val (.ref s1), .val (.ref s2), .val (.int q1), .val (.int q2), .val (.ref b134), .val (.ref b144), .val (.int kd), .val .null, .val (.int (0 : Int32))] []))
                      refine FinW.st (fun _ => XS.goto X157.here hx rfl (pc0 := 320) (pc' := 330) rfl (Jvm.hb hby at_320) (by decide) (by decide)) ?_
                      show FinW p e below s Z EL h0 _ _ _ (T157.setTop (mkF m 330 #[.val (.int p1), .val (.int p2), .val (.int p3), .val (.int p4), .val (.int p5), .val (.int b1), .val (.int c0), .val (.int c1), .val (.int b2), .val (.int d0), .val (.int d1), .val (.ref s1), .val (.ref s2), .val (.int q1), .val (.int q2), .val (.ref b134), .val (.ref b144), .val (.int kd), .val .null, .val (.int (0 : Int32))] []))
                      refine FinW.st (fun _ => XS.aload X157.here hx rfl (Jvm.hb hby at_330) rfl rfl) ?_
                      show FinW p e below s Z EL h0 _ _ _ (T157.setTop (mkF m 332 #[.val (.int p1), .val (.int p2), .val (.int p3), .val (.int p4), .val (.int p5), .val (.int b1), .val (.int c0), .val (.int c1), .val (.int b2), .val (.int d0), .val (.int d1), .val (.ref s1), .val (.ref s2), .val (.int q1), .val (.int q2), .val (.ref b134), .val (.ref b144), .val (.int kd), .val .null, .val (.int (0 : Int32))] [(.ref b134)]))
                      refine FinW.st (fun _ => XS.aload X157.here hx rfl (Jvm.hb hby at_332) rfl rfl) ?_
                      show FinW p e below s Z EL h0 _ _ _ (T157.setTop (mkF m 334 #[.val (.int p1), .val (.int p2), .val (.int p3), .val (.int p4), .val (.int p5), .val (.int b1), .val (.int c0), .val (.int c1), .val (.int b2), .val (.int d0), .val (.int d1), .val (.ref s1), .val (.ref s2), .val (.int q1), .val (.int q2), .val (.ref b134), .val (.ref b144), .val (.int kd), .val .null, .val (.int (0 : Int32))] [.null, (.ref b134)]))
                      have f180 := f155.keep K157 (allS ge144 all0)
                      have f182 := E142.ext E144
                      have f183 := f182.keep K157
                      obtain ⟨_, T181, h181, L181, X181, e181, ⟨rfl, rfl, q181⟩, st181⟩ := goV X157 hx hZ157 hown157 (hw _ (List.mem_of_getElem? (i := 55) rfl)) (hw _ (List.mem_of_getElem? (i := 56) rfl)) (hw _ (List.mem_of_getElem? (i := 58) rfl)) (notFace_of_selects (args := #[]) (mvT hZ157 (hw _ (List.mem_of_getElem? (i := 58) rfl)))) (hw _ (List.mem_of_getElem? (i := 57) rfl)) (by decide) ((rmEqN l Z a0 hw [] b134 h157 n0 f180).pay (W := 0) hZ157 (hw _ (List.mem_of_getElem? (i := 59) rfl)) (hw _ (List.mem_of_getElem? (i := 33) rfl)) (by decide) (by decide)) e157 f183 (g := (mkF m 334 #[.val (.int p1), .val (.int p2), .val (.int p3), .val (.int p4), .val (.int p5), .val (.int b1), .val (.int c0), .val (.int c1), .val (.int b2), .val (.int d0), .val (.int d1), .val (.ref s1), .val (.ref s2), .val (.int q1), .val (.int q2), .val (.ref b134), .val (.ref b144), .val (.int kd), .val .null, .val (.int (0 : Int32))] [.null, (.ref b134)])) rfl (by rw [hml]; rfl) [.null] [] (lenOf pd_2 rfl) rfl (by show 2 * 0 + _ ≤ _; exact Nat.le_of_eq rfl) (Jvm.hb hby at_334) rfl (by decide) (by decide)
                      have e181 := e181.trans q181
                      have N181 := N157.app (Fr.nil n0)
                      refine FinW.st st181 ?_
                      show FinW p e below s Z EL h0 _ _ _ (T181.setTop (mkF m 337 #[.val (.int p1), .val (.int p2), .val (.int p3), .val (.int p4), .val (.int p5), .val (.int b1), .val (.int c0), .val (.int c1), .val (.int b2), .val (.int d0), .val (.int d1), .val (.ref s1), .val (.ref s2), .val (.int q1), .val (.int q2), .val (.ref b134), .val (.ref b144), .val (.int kd), .val .null, .val (.int (0 : Int32))] [(.int (0 : Int32))]))
                      refine FinW.st (fun _ => XS.iload X181.here hx rfl (Jvm.hb hby at_337) rfl) ?_
                      show FinW p e below s Z EL h0 _ _ _ (T181.setTop (mkF m 339 #[.val (.int p1), .val (.int p2), .val (.int p3), .val (.int p4), .val (.int p5), .val (.int b1), .val (.int c0), .val (.int c1), .val (.int b2), .val (.int d0), .val (.int d1), .val (.ref s1), .val (.ref s2), .val (.int q1), .val (.int q2), .val (.ref b134), .val (.ref b144), .val (.int kd), .val .null, .val (.int (0 : Int32))] [(.int (0 : Int32)), (.int (0 : Int32))]))
                      refine FinW.st (fun _ => XS.icmpNo X181.here hx rfl (Jvm.hb hby at_339) rfl (ineN rfl)) ?_
                      show FinW p e below s Z EL h0 _ _ _ (T181.setTop (mkF m 342 #[.val (.int p1), .val (.int p2), .val (.int p3), .val (.int p4), .val (.int p5), .val (.int b1), .val (.int c0), .val (.int c1), .val (.int b2), .val (.int d0), .val (.int d1), .val (.ref s1), .val (.ref s2), .val (.int q1), .val (.int q2), .val (.ref b134), .val (.ref b144), .val (.int kd), .val .null, .val (.int (0 : Int32))] []))
                      refine FinW.st (fun _ => XS.iconst X181.here hx rfl (Jvm.hb hby at_342)) ?_
                      show FinW p e below s Z EL h0 _ _ _ (T181.setTop (mkF m 343 #[.val (.int p1), .val (.int p2), .val (.int p3), .val (.int p4), .val (.int p5), .val (.int b1), .val (.int c0), .val (.int c1), .val (.int b2), .val (.int d0), .val (.int d1), .val (.ref s1), .val (.ref s2), .val (.int q1), .val (.int q2), .val (.ref b134), .val (.ref b144), .val (.int kd), .val .null, .val (.int (0 : Int32))] [(.int (1 : Int32))]))
                      refine FinW.st (fun _ => XS.goto X181.here hx rfl (pc0 := 343) (pc' := 347) rfl (Jvm.hb hby at_343) (by decide) (by decide)) ?_
                      show FinW p e below s Z EL h0 _ _ _ (T181.setTop (mkF m 347 #[.val (.int p1), .val (.int p2), .val (.int p3), .val (.int p4), .val (.int p5), .val (.int b1), .val (.int c0), .val (.int c1), .val (.int b2), .val (.int d0), .val (.int d1), .val (.ref s1), .val (.ref s2), .val (.int q1), .val (.int q2), .val (.ref b134), .val (.ref b144), .val (.int kd), .val .null, .val (.int (0 : Int32))] [(.int (1 : Int32))]))
                      exact finNW X181 hx hlk hret (t := .boolean) (by simp) (Jvm.hb hby at_347) e181 hZ157 hEL B157 CH157 ⟨rfl, N181⟩ (by decide) (by decide)
                    · skip
                      refine FinW.st (fun _ => XS.icmpYes X157.here hx rfl (pc0 := 311) (pc' := 323) rfl (Jvm.hb hby at_311) rfl (ine hk2) (by decide) (by decide)) ?_
                      show FinW p e below s Z EL h0 _ _ _ (T157.setTop (mkF m 323 #[.val (.int p1), .val (.int p2), .val (.int p3), .val (.int p4), .val (.int p5), .val (.int b1), .val (.int c0), .val (.int c1), .val (.int b2), .val (.int d0), .val (.int d1), .val (.ref s1), .val (.ref s2), .val (.int q1), .val (.int q2), .val (.ref b134), .val (.ref b144), .val (.int kd), .unset, .unset] []))
                      refine FinW.st (fun _ => XS.aload X157.here hx rfl (Jvm.hb hby at_323) rfl rfl) ?_
                      show FinW p e below s Z EL h0 _ _ _ (T157.setTop (mkF m 325 #[.val (.int p1), .val (.int p2), .val (.int p3), .val (.int p4), .val (.int p5), .val (.int b1), .val (.int c0), .val (.int c1), .val (.int b2), .val (.int d0), .val (.int d1), .val (.ref s1), .val (.ref s2), .val (.int q1), .val (.int q2), .val (.ref b134), .val (.ref b144), .val (.int kd), .unset, .unset] [(.ref s1)]))
                      refine FinW.st (fun _ => XS.astore X157.here hx rfl (Jvm.hb hby at_325) rfl rfl (l' := #[.val (.int p1), .val (.int p2), .val (.int p3), .val (.int p4), .val (.int p5), .val (.int b1), .val (.int c0), .val (.int c1), .val (.int b2), .val (.int d0), .val (.int d1), .val (.ref s1), .val (.ref s2), .val (.int q1), .val (.int q2), .val (.ref b134), .val (.ref b144), .val (.int kd), .val (.ref s1), .unset]) rfl) ?_
                      show FinW p e below s Z EL h0 _ _ _ (T157.setTop (mkF m 327 #[.val (.int p1), .val (.int p2), .val (.int p3), .val (.int p4), .val (.int p5), .val (.int b1), .val (.int c0), .val (.int c1), .val (.int b2), .val (.int d0), .val (.int d1), .val (.ref s1), .val (.ref s2), .val (.int q1), .val (.int q2), .val (.ref b134), .val (.ref b144), .val (.int kd), .val (.ref s1), .unset] []))
                      refine FinW.st (fun _ => XS.iconst X157.here hx rfl (Jvm.hb hby at_327)) ?_
                      show FinW p e below s Z EL h0 _ _ _ (T157.setTop (mkF m 328 #[.val (.int p1), .val (.int p2), .val (.int p3), .val (.int p4), .val (.int p5), .val (.int b1), .val (.int c0), .val (.int c1), .val (.int b2), .val (.int d0), .val (.int d1), .val (.ref s1), .val (.ref s2), .val (.int q1), .val (.int q2), .val (.ref b134), .val (.ref b144), .val (.int kd), .val (.ref s1), .unset] [(.int (0 : Int32))]))
                      refine FinW.st (fun _ => XS.istore X157.here hx rfl (Jvm.hb hby at_328) rfl (l' := #[.val (.int p1), .val (.int p2), .val (.int p3), .val (.int p4), .val (.int p5), .val (.int b1), .val (.int c0), .val (.int c1), .val (.int b2), .val (.int d0), .val (.int d1), .val (.ref s1), .val (.ref s2), .val (.int q1), .val (.int q2), .val (.ref b134), .val (.ref b144), .val (.int kd), .val (.ref s1), .val (.int (0 : Int32))]) rfl) ?_
                      show FinW p e below s Z EL h0 _ _ _ (T157.setTop (mkF m 330 #[.val (.int p1), .val (.int p2), .val (.int p3), .val (.int p4), .val (.int p5), .val (.int b1), .val (.int c0), .val (.int c1), .val (.int b2), .val (.int d0), .val (.int d1), .val (.ref s1), .val (.ref s2), .val (.int q1), .val (.int q2), .val (.ref b134), .val (.ref b144), .val (.int kd), .val (.ref s1), .val (.int (0 : Int32))] []))
                      refine FinW.st (fun _ => XS.aload X157.here hx rfl (Jvm.hb hby at_330) rfl rfl) ?_
                      show FinW p e below s Z EL h0 _ _ _ (T157.setTop (mkF m 332 #[.val (.int p1), .val (.int p2), .val (.int p3), .val (.int p4), .val (.int p5), .val (.int b1), .val (.int c0), .val (.int c1), .val (.int b2), .val (.int d0), .val (.int d1), .val (.ref s1), .val (.ref s2), .val (.int q1), .val (.int q2), .val (.ref b134), .val (.ref b144), .val (.int kd), .val (.ref s1), .val (.int (0 : Int32))] [(.ref b134)]))
                      refine FinW.st (fun _ => XS.aload X157.here hx rfl (Jvm.hb hby at_332) rfl rfl) ?_
                      show FinW p e below s Z EL h0 _ _ _ (T157.setTop (mkF m 334 #[.val (.int p1), .val (.int p2), .val (.int p3), .val (.int p4), .val (.int p5), .val (.int b1), .val (.int c0), .val (.int c1), .val (.int b2), .val (.int d0), .val (.int d1), .val (.ref s1), .val (.ref s2), .val (.int q1), .val (.int q2), .val (.ref b134), .val (.ref b144), .val (.int kd), .val (.ref s1), .val (.int (0 : Int32))] [(.ref s1), (.ref b134)]))
                      have f184 := f155.keep K157 (allS ge144 all0)
                      have f185 := f146.ext E144
                      have f186 := f185.keep K157 (ninS ne147 nin0) (ninS ne148 nin0)
                      have f188 := E142.ext E144
                      have f189 := f188.keep K157
                      obtain ⟨_, T187, h187, L187, X187, e187, ⟨rfl, rfl, q187⟩, st187⟩ := goV X157 hx hZ157 hown157 (hw _ (List.mem_of_getElem? (i := 55) rfl)) (hw _ (List.mem_of_getElem? (i := 56) rfl)) (hw _ (List.mem_of_getElem? (i := 58) rfl)) (notFace_of_selects (args := #[]) (mvT hZ157 (hw _ (List.mem_of_getElem? (i := 58) rfl)))) (hw _ (List.mem_of_getElem? (i := 57) rfl)) (by decide) ((rmEqS l Z a0 hw [] b134 s1 h157 n0 f184 f186.exa).pay (W := 0) hZ157 (hw _ (List.mem_of_getElem? (i := 59) rfl)) (hw _ (List.mem_of_getElem? (i := 33) rfl)) (by decide) (by decide)) e157 f189 (g := (mkF m 334 #[.val (.int p1), .val (.int p2), .val (.int p3), .val (.int p4), .val (.int p5), .val (.int b1), .val (.int c0), .val (.int c1), .val (.int b2), .val (.int d0), .val (.int d1), .val (.ref s1), .val (.ref s2), .val (.int q1), .val (.int q2), .val (.ref b134), .val (.ref b144), .val (.int kd), .val (.ref s1), .val (.int (0 : Int32))] [(.ref s1), (.ref b134)])) rfl (by rw [hml]; rfl) [(.ref s1)] [] (lenOf pd_2 rfl) rfl (by show 2 * 0 + _ ≤ _; exact Nat.le_of_eq rfl) (Jvm.hb hby at_334) rfl (by decide) (by decide)
                      have e187 := e187.trans q187
                      have N187 := N157.app (Fr.nil n0)
                      refine FinW.st st187 ?_
                      show FinW p e below s Z EL h0 _ _ _ (T187.setTop (mkF m 337 #[.val (.int p1), .val (.int p2), .val (.int p3), .val (.int p4), .val (.int p5), .val (.int b1), .val (.int c0), .val (.int c1), .val (.int b2), .val (.int d0), .val (.int d1), .val (.ref s1), .val (.ref s2), .val (.int q1), .val (.int q2), .val (.ref b134), .val (.ref b144), .val (.int kd), .val (.ref s1), .val (.int (0 : Int32))] [(.int (0 : Int32))]))
                      refine FinW.st (fun _ => XS.iload X187.here hx rfl (Jvm.hb hby at_337) rfl) ?_
                      show FinW p e below s Z EL h0 _ _ _ (T187.setTop (mkF m 339 #[.val (.int p1), .val (.int p2), .val (.int p3), .val (.int p4), .val (.int p5), .val (.int b1), .val (.int c0), .val (.int c1), .val (.int b2), .val (.int d0), .val (.int d1), .val (.ref s1), .val (.ref s2), .val (.int q1), .val (.int q2), .val (.ref b134), .val (.ref b144), .val (.int kd), .val (.ref s1), .val (.int (0 : Int32))] [(.int (0 : Int32)), (.int (0 : Int32))]))
                      refine FinW.st (fun _ => XS.icmpNo X187.here hx rfl (Jvm.hb hby at_339) rfl (ineN rfl)) ?_
                      show FinW p e below s Z EL h0 _ _ _ (T187.setTop (mkF m 342 #[.val (.int p1), .val (.int p2), .val (.int p3), .val (.int p4), .val (.int p5), .val (.int b1), .val (.int c0), .val (.int c1), .val (.int b2), .val (.int d0), .val (.int d1), .val (.ref s1), .val (.ref s2), .val (.int q1), .val (.int q2), .val (.ref b134), .val (.ref b144), .val (.int kd), .val (.ref s1), .val (.int (0 : Int32))] []))
                      refine FinW.st (fun _ => XS.iconst X187.here hx rfl (Jvm.hb hby at_342)) ?_
                      show FinW p e below s Z EL h0 _ _ _ (T187.setTop (mkF m 343 #[.val (.int p1), .val (.int p2), .val (.int p3), .val (.int p4), .val (.int p5), .val (.int b1), .val (.int c0), .val (.int c1), .val (.int b2), .val (.int d0), .val (.int d1), .val (.ref s1), .val (.ref s2), .val (.int q1), .val (.int q2), .val (.ref b134), .val (.ref b144), .val (.int kd), .val (.ref s1), .val (.int (0 : Int32))] [(.int (1 : Int32))]))
                      refine FinW.st (fun _ => XS.goto X187.here hx rfl (pc0 := 343) (pc' := 347) rfl (Jvm.hb hby at_343) (by decide) (by decide)) ?_
                      show FinW p e below s Z EL h0 _ _ _ (T187.setTop (mkF m 347 #[.val (.int p1), .val (.int p2), .val (.int p3), .val (.int p4), .val (.int p5), .val (.int b1), .val (.int c0), .val (.int c1), .val (.int b2), .val (.int d0), .val (.int d1), .val (.ref s1), .val (.ref s2), .val (.int q1), .val (.int q2), .val (.ref b134), .val (.ref b144), .val (.int kd), .val (.ref s1), .val (.int (0 : Int32))] [(.int (1 : Int32))]))
                      exact finNW X187 hx hlk hret (t := .boolean) (by simp) (Jvm.hb hby at_347) e187 hZ157 hEL B157 CH157 ⟨rfl, N187⟩ (by decide) (by decide)
              intro j204
              by_cases fj204 : (p5 &&& (4 : Int32)) = (0 : Int32)
              · skip
                refine FinW.st (fun _ => XS.ifYes X133.here hx rfl (pc0 := 192) (pc' := 200) rfl (Jvm.hb hby at_192) rfl (zeq fj204) (by decide) (by decide)) ?_
                show FinW p e below s Z EL h0 _ _ _ (T133.setTop (mkF m 200 #[.val (.int p1), .val (.int p2), .val (.int p3), .val (.int p4), .val (.int p5), .val (.int b1), .val (.int c0), .val (.int c1), .val (.int b2), .val (.int d0), .val (.int d1), .val (.ref s1), .val (.ref s2), .val (.int q1), .unset, .unset, .unset, .unset, .unset, .unset] []))
                refine FinW.st (fun _ => XS.iloadN X133.here hx rfl (Jvm.hb hby at_200) rfl) ?_
                show FinW p e below s Z EL h0 _ _ _ (T133.setTop (mkF m 201 #[.val (.int p1), .val (.int p2), .val (.int p3), .val (.int p4), .val (.int p5), .val (.int b1), .val (.int c0), .val (.int c1), .val (.int b2), .val (.int d0), .val (.int d1), .val (.ref s1), .val (.ref s2), .val (.int q1), .unset, .unset, .unset, .unset, .unset, .unset] [(.int p4)]))
                refine FinW.st (fun _ => X133.ldcI hx hown133 (mvT hZ133 (hw _ (List.mem_of_getElem? (i := 30) rfl))) rfl (Jvm.hb hby at_201)) ?_
                show FinW p e below s Z EL h0 _ _ _ (T133.setTop (mkF m 203 #[.val (.int p1), .val (.int p2), .val (.int p3), .val (.int p4), .val (.int p5), .val (.int b1), .val (.int c0), .val (.int c1), .val (.int b2), .val (.int d0), .val (.int d1), .val (.ref s1), .val (.ref s2), .val (.int q1), .unset, .unset, .unset, .unset, .unset, .unset] [(.int (65535 : Int32)), (.int p4)]))
                refine FinW.st (fun _ => XS.iand X133.here hx rfl (Jvm.hb hby at_203) rfl) ?_
                show FinW p e below s Z EL h0 _ _ _ (T133.setTop (mkF m 204 #[.val (.int p1), .val (.int p2), .val (.int p3), .val (.int p4), .val (.int p5), .val (.int b1), .val (.int c0), .val (.int c1), .val (.int b2), .val (.int d0), .val (.int d1), .val (.ref s1), .val (.ref s2), .val (.int q1), .unset, .unset, .unset, .unset, .unset, .unset] [(.int (p4 &&& (65535 : Int32)))]))
                obtain ⟨z, hz, lz, uz⟩ := port_ok p4
                rw [hz]
                exact j204 z ⟨lz, uz⟩
              · skip
                refine FinW.st (fun _ => XS.ifNo X133.here hx rfl (Jvm.hb hby at_192) rfl (zeqN fj204)) ?_
                show FinW p e below s Z EL h0 _ _ _ (T133.setTop (mkF m 195 #[.val (.int p1), .val (.int p2), .val (.int p3), .val (.int p4), .val (.int p5), .val (.int b1), .val (.int c0), .val (.int c1), .val (.int b2), .val (.int d0), .val (.int d1), .val (.ref s1), .val (.ref s2), .val (.int q1), .unset, .unset, .unset, .unset, .unset, .unset] []))
                refine FinW.st (fun _ => XS.iload X133.here hx rfl (Jvm.hb hby at_195) rfl) ?_
                show FinW p e below s Z EL h0 _ _ _ (T133.setTop (mkF m 197 #[.val (.int p1), .val (.int p2), .val (.int p3), .val (.int p4), .val (.int p5), .val (.int b1), .val (.int c0), .val (.int c1), .val (.int b2), .val (.int d0), .val (.int d1), .val (.ref s1), .val (.ref s2), .val (.int q1), .unset, .unset, .unset, .unset, .unset, .unset] [(.int q1)]))
                refine FinW.st (fun _ => XS.goto X133.here hx rfl (pc0 := 197) (pc' := 204) rfl (Jvm.hb hby at_197) (by decide) (by decide)) ?_
                show FinW p e below s Z EL h0 _ _ _ (T133.setTop (mkF m 204 #[.val (.int p1), .val (.int p2), .val (.int p3), .val (.int p4), .val (.int p5), .val (.int b1), .val (.int c0), .val (.int c1), .val (.int b2), .val (.int d0), .val (.int d1), .val (.ref s1), .val (.ref s2), .val (.int q1), .unset, .unset, .unset, .unset, .unset, .unset] [(.int q1)]))
                exact j204 q1 ⟨lq1, uq1⟩
            intro j180
            by_cases fj180 : b2 = (0 : Int32)
            · skip
              refine FinW.st (fun _ => XS.ifYes X132.here hx rfl (pc0 := 139) (pc' := 165) rfl (Jvm.hb hby at_139) rfl (zeq fj180) (by decide) (by decide)) ?_
              show FinW p e below s Z EL h0 _ _ _ (T132.setTop (mkF m 165 #[.val (.int p1), .val (.int p2), .val (.int p3), .val (.int p4), .val (.int p5), .val (.int b1), .val (.int c0), .val (.int c1), .val (.int b2), .val (.int d0), .val (.int d1), .val (.ref s1), .unset, .unset, .unset, .unset, .unset, .unset, .unset, .unset] []))
              obtain ⟨b190, g190⟩ : ∃ z, z = h132.size := ⟨_, rfl⟩
              have ne191 : s1 ≠ b190 := by rw [g190]; exact Nat.ne_of_lt Ss1.lt
              have ne192 : t1 ≠ b190 := by rw [g190]; exact Nat.ne_of_lt Ss1.ltt
              have ge190 : n0 ≤ b190 := by rw [g190]; exact O132.own_le
              obtain ⟨T190, h190, X190, e190, E190, A190, D190, -, st190⟩ := newO X132 hx hZ132 hown132 (hw _ (List.mem_of_getElem? (i := 0) rfl)) (hw _ (List.mem_of_getElem? (i := 1) rfl)) (hw _ (List.mem_of_getElem? (i := 2) rfl)) e132 (g := (mkF m 165 #[.val (.int p1), .val (.int p2), .val (.int p3), .val (.int p4), .val (.int p5), .val (.int b1), .val (.int c0), .val (.int c1), .val (.int b2), .val (.int d0), .val (.int d1), .val (.ref s1), .unset, .unset, .unset, .unset, .unset, .unset, .unset, .unset] [])) rfl (Jvm.hb hby at_165) (by decide) (by decide)
              rw [← g190] at A190 D190 st190
              have CH193 := CH132.trans (CHr.ext E190 CH132.1)
              have F190_coder : Fld Z h190 b190 "java/lang/String" "coder" "B" (.int (0 : Int32)) := D190 (Or.inr (hw _ (List.mem_of_getElem? (i := 27) rfl))) (ty := .byte) (by decide)
              have F190_value : Fld Z h190 b190 "java/lang/String" "value" "[B" .null := D190 (Or.inr (hw _ (List.mem_of_getElem? (i := 29) rfl))) (ty := (.array .byte)) (by decide)
              refine FinW.st st190 ?_
              show FinW p e below s Z EL h0 _ _ _ (T190.setTop (mkF m 168 #[.val (.int p1), .val (.int p2), .val (.int p3), .val (.int p4), .val (.int p5), .val (.int b1), .val (.int c0), .val (.int c1), .val (.int b2), .val (.int d0), .val (.int d1), .val (.ref s1), .unset, .unset, .unset, .unset, .unset, .unset, .unset, .unset] [(.ref b190)]))
              refine FinW.st (fun _ => XS.dup X190.here hx rfl (Jvm.hb hby at_168) rfl rfl) ?_
              show FinW p e below s Z EL h0 _ _ _ (T190.setTop (mkF m 169 #[.val (.int p1), .val (.int p2), .val (.int p3), .val (.int p4), .val (.int p5), .val (.int b1), .val (.int c0), .val (.int c1), .val (.int b2), .val (.int d0), .val (.int d1), .val (.ref s1), .unset, .unset, .unset, .unset, .unset, .unset, .unset, .unset] [(.ref b190), (.ref b190)]))
              refine FinW.st (fun _ => XS.iconst X190.here hx rfl (Jvm.hb hby at_169)) ?_
              show FinW p e below s Z EL h0 _ _ _ (T190.setTop (mkF m 170 #[.val (.int p1), .val (.int p2), .val (.int p3), .val (.int p4), .val (.int p5), .val (.int b1), .val (.int c0), .val (.int c1), .val (.int b2), .val (.int d0), .val (.int d1), .val (.ref s1), .unset, .unset, .unset, .unset, .unset, .unset, .unset, .unset] [(.int (1 : Int32)), (.ref b190), (.ref b190)]))
              have f195 := O132.ext E190
              obtain ⟨b194, g194⟩ : ∃ z, z = h190.size := ⟨_, rfl⟩
              have f196 := Ss1.ext E190
              have ne197 : s1 ≠ b194 := by rw [g194]; exact Nat.ne_of_lt f196.lt
              have ne198 : t1 ≠ b194 := by rw [g194]; exact Nat.ne_of_lt f196.ltt
              have ne199 : b190 ≠ b194 := by rw [g194]; exact Nat.ne_of_lt A190.lt
              have ge194 : n0 ≤ b194 := by rw [g194]; exact f195.own_le
              obtain ⟨T194, h194, k194, X194, e194, E194, A194, st194⟩ := newA0 X190 hx hZ132 (hw _ (List.mem_of_getElem? (i := 3) rfl)) e190 (g := (mkF m 170 #[.val (.int p1), .val (.int p2), .val (.int p3), .val (.int p4), .val (.int p5), .val (.int b1), .val (.int c0), .val (.int c1), .val (.int b2), .val (.int d0), .val (.int d1), .val (.ref s1), .unset, .unset, .unset, .unset, .unset, .unset, .unset, .unset] [(.int (1 : Int32)), (.ref b190), (.ref b190)])) rfl (Jvm.hb hby at_170) rfl (by decide) (N := 1) (by decide) (by decide) (by decide) (by decide)
              rw [← g194] at A194 st194
              have V194 : Arv Z h194 b194 k194 .char (1 : Int32) [(.int (0 : Int32))] (.int (0 : Int32)) := A194
              have CH200 := CH193.trans (CHr.ext E194 CH193.1)
              refine FinW.st st194 ?_
              show FinW p e below s Z EL h0 _ _ _ (T194.setTop (mkF m 172 #[.val (.int p1), .val (.int p2), .val (.int p3), .val (.int p4), .val (.int p5), .val (.int b1), .val (.int c0), .val (.int c1), .val (.int b2), .val (.int d0), .val (.int d1), .val (.ref s1), .unset, .unset, .unset, .unset, .unset, .unset, .unset, .unset] [(.ref b194), (.ref b190), (.ref b190)]))
              refine FinW.st (fun _ => XS.dup X194.here hx rfl (Jvm.hb hby at_172) rfl rfl) ?_
              show FinW p e below s Z EL h0 _ _ _ (T194.setTop (mkF m 173 #[.val (.int p1), .val (.int p2), .val (.int p3), .val (.int p4), .val (.int p5), .val (.int b1), .val (.int c0), .val (.int c1), .val (.int b2), .val (.int d0), .val (.int d1), .val (.ref s1), .unset, .unset, .unset, .unset, .unset, .unset, .unset, .unset] [(.ref b194), (.ref b194), (.ref b190), (.ref b190)]))
              refine FinW.st (fun _ => XS.iconst X194.here hx rfl (Jvm.hb hby at_173)) ?_
              show FinW p e below s Z EL h0 _ _ _ (T194.setTop (mkF m 174 #[.val (.int p1), .val (.int p2), .val (.int p3), .val (.int p4), .val (.int p5), .val (.int b1), .val (.int c0), .val (.int c1), .val (.int b2), .val (.int d0), .val (.int d1), .val (.ref s1), .unset, .unset, .unset, .unset, .unset, .unset, .unset, .unset] [(.int (0 : Int32)), (.ref b194), (.ref b194), (.ref b190), (.ref b190)]))
              refine FinW.st (fun _ => XS.iload X194.here hx rfl (Jvm.hb hby at_174) rfl) ?_
              show FinW p e below s Z EL h0 _ _ _ (T194.setTop (mkF m 176 #[.val (.int p1), .val (.int p2), .val (.int p3), .val (.int p4), .val (.int p5), .val (.int b1), .val (.int c0), .val (.int c1), .val (.int b2), .val (.int d0), .val (.int d1), .val (.ref s1), .unset, .unset, .unset, .unset, .unset, .unset, .unset, .unset] [(.int d0), (.int (0 : Int32)), (.ref b194), (.ref b194), (.ref b190), (.ref b190)]))
              obtain ⟨T201, h201, X201, e201, W201, V201, st201⟩ := stC0 X194 hx hZ132 e194 V194 (j := (0 : Int32)) (by decide) 0 rfl (Nat.le_of_ble_eq_true rfl) (nar_chr hbd0.1 hbd0.2) (g := (mkF m 176 #[.val (.int p1), .val (.int p2), .val (.int p3), .val (.int p4), .val (.int p5), .val (.int b1), .val (.int c0), .val (.int c1), .val (.int b2), .val (.int d0), .val (.int d1), .val (.ref s1), .unset, .unset, .unset, .unset, .unset, .unset, .unset, .unset] [(.int d0), (.int (0 : Int32)), (.ref b194), (.ref b194), (.ref b190), (.ref b190)])) rfl rfl (Jvm.hb hby at_176)
              have N201 := Fr.snoc X201 N132 ge194
              refine FinW.st st201 ?_
              have CH203 := CH200.trans (CHr.wr W201 (Safe.arv hZ132.alike V194 (by decide)) CH200.1)
              have V201 : Arv Z h201 b194 _ .char (1 : Int32) [(.int d0)] (.int (0 : Int32)) := V201
              show FinW p e below s Z EL h0 _ _ _ (T201.setTop (mkF m 177 #[.val (.int p1), .val (.int p2), .val (.int p3), .val (.int p4), .val (.int p5), .val (.int b1), .val (.int c0), .val (.int c1), .val (.int b2), .val (.int d0), .val (.int d1), .val (.ref s1), .unset, .unset, .unset, .unset, .unset, .unset, .unset, .unset] [(.ref b194), (.ref b190), (.ref b190)]))
              have f204 := f195.ext E194
              have f205 := f204.wr W201 ge194
              have f206 := A190.ext E194
              have f207 := f206.wr W201
              have f208 := F190_value.ext E194
              have f209 := f208.other W201 (Or.inl ne199)
              have f210 := F190_coder.ext E194
              have f211 := f210.other W201 (Or.inl ne199)
              have f212 := f196.ext E194
              have f213 := f212.other W201 ne197 ne198
              have hp214 : ∀ c ∈ [d0], ¬ c < 0 ∧ ¬ (255 : Int32) < c := by
                intro c hc; simp only [List.mem_cons, List.not_mem_nil, or_false] at hc; rcases hc with rfl
                · exact ⟨hbd0.1, hbd0.2⟩
              obtain ⟨_, T215, h215, L215, X215, e215, ⟨rfl, Nq215, K215, t215, gt215, sz215, nt215, S215⟩, st215⟩ := goI X201 hx hZ132 hown132 rfl (hw _ (List.mem_of_getElem? (i := 4) rfl)) (hw _ (List.mem_of_getElem? (i := 5) rfl)) (hw _ (List.mem_of_getElem? (i := 6) rfl)) (by decide) (strNew (len := 3) (W := 1) hZ132 hw (hw _ (List.mem_of_getElem? (i := 1) rfl)) (cs := [d0]) (n := 1) ge190 f205.own_le f207 f209 f211 V201 (SC.ext f205.2) hcz rfl (by decide) (by decide) hp214 (by decide) (by decide)) e201 (g := (mkF m 177 #[.val (.int p1), .val (.int p2), .val (.int p3), .val (.int p4), .val (.int p5), .val (.int b1), .val (.int c0), .val (.int c1), .val (.int b2), .val (.int d0), .val (.int d1), .val (.ref s1), .unset, .unset, .unset, .unset, .unset, .unset, .unset, .unset] [(.ref b194), (.ref b190), (.ref b190)])) rfl (by rw [hml]; rfl) [(.ref b194)] [(.ref b190)] (lenOf pd_4 rfl) rfl (by show 2 * 0 + _ ≤ _; exact Nat.le_of_eq rfl) (Jvm.hb hby at_177) rfl (by decide) (by decide)
              have ne215_s1 : s1 ≠ t215 := Nat.ne_of_lt (Nat.lt_of_lt_of_le f213.lt sz215)
              have ne215_t1 : t1 ≠ t215 := Nat.ne_of_lt (Nat.lt_of_lt_of_le f213.ltt sz215)
              have ne215_b194 : b194 ≠ t215 := Nat.ne_of_lt (Nat.lt_of_lt_of_le V201.lt sz215)
              have N215 := N201.app Nq215
              refine FinW.st st215 ?_
              have CH216 := CH203.trans (CHr.keep K215 (sfS (Jvm.OwnKit.Safe.null hZ132.alike f207 f209) sf0) CH203.1)
              show FinW p e below s Z EL h0 _ _ _ (T215.setTop (mkF m 180 #[.val (.int p1), .val (.int p2), .val (.int p3), .val (.int p4), .val (.int p5), .val (.int b1), .val (.int c0), .val (.int c1), .val (.int b2), .val (.int d0), .val (.int d1), .val (.ref s1), .unset, .unset, .unset, .unset, .unset, .unset, .unset, .unset] [(.ref b190)]))
              have f217 := f213.keep K215 (ninS ne191 nin0) (ninS ne192 nin0)
              have f218 := f205.keep K215 (allS ge190 all0)
              have f219 := B132.ext E190
              have f220 := f219.ext E194
              have f221 := f220.wr W201
              have f222 := f221.keep K215
              exact j180 b190 _ _ _ vm132 ⟨X215.more (by decide) (by decide), e215, N215, f218, ⟨t215, _, S215, ge190, Or.inr ⟨fj180, rfl⟩⟩, f222, CH216, hZ132, hown132, f217⟩
            · skip
              refine FinW.st (fun _ => XS.ifNo X132.here hx rfl (Jvm.hb hby at_139) rfl (zeqN fj180)) ?_
              show FinW p e below s Z EL h0 _ _ _ (T132.setTop (mkF m 142 #[.val (.int p1), .val (.int p2), .val (.int p3), .val (.int p4), .val (.int p5), .val (.int b1), .val (.int c0), .val (.int c1), .val (.int b2), .val (.int d0), .val (.int d1), .val (.ref s1), .unset, .unset, .unset, .unset, .unset, .unset, .unset, .unset] []))
              obtain ⟨b223, g223⟩ : ∃ z, z = h132.size := ⟨_, rfl⟩
              have ne224 : s1 ≠ b223 := by rw [g223]; exact Nat.ne_of_lt Ss1.lt
              have ne225 : t1 ≠ b223 := by rw [g223]; exact Nat.ne_of_lt Ss1.ltt
              have ge223 : n0 ≤ b223 := by rw [g223]; exact O132.own_le
              obtain ⟨T223, h223, X223, e223, E223, A223, D223, -, st223⟩ := newO X132 hx hZ132 hown132 (hw _ (List.mem_of_getElem? (i := 0) rfl)) (hw _ (List.mem_of_getElem? (i := 1) rfl)) (hw _ (List.mem_of_getElem? (i := 2) rfl)) e132 (g := (mkF m 142 #[.val (.int p1), .val (.int p2), .val (.int p3), .val (.int p4), .val (.int p5), .val (.int b1), .val (.int c0), .val (.int c1), .val (.int b2), .val (.int d0), .val (.int d1), .val (.ref s1), .unset, .unset, .unset, .unset, .unset, .unset, .unset, .unset] [])) rfl (Jvm.hb hby at_142) (by decide) (by decide)
              rw [← g223] at A223 D223 st223
              have CH226 := CH132.trans (CHr.ext E223 CH132.1)
              have F223_coder : Fld Z h223 b223 "java/lang/String" "coder" "B" (.int (0 : Int32)) := D223 (Or.inr (hw _ (List.mem_of_getElem? (i := 27) rfl))) (ty := .byte) (by decide)
              have F223_value : Fld Z h223 b223 "java/lang/String" "value" "[B" .null := D223 (Or.inr (hw _ (List.mem_of_getElem? (i := 29) rfl))) (ty := (.array .byte)) (by decide)
              refine FinW.st st223 ?_
              show FinW p e below s Z EL h0 _ _ _ (T223.setTop (mkF m 145 #[.val (.int p1), .val (.int p2), .val (.int p3), .val (.int p4), .val (.int p5), .val (.int b1), .val (.int c0), .val (.int c1), .val (.int b2), .val (.int d0), .val (.int d1), .val (.ref s1), .unset, .unset, .unset, .unset, .unset, .unset, .unset, .unset] [(.ref b223)]))
              refine FinW.st (fun _ => XS.dup X223.here hx rfl (Jvm.hb hby at_145) rfl rfl) ?_
              show FinW p e below s Z EL h0 _ _ _ (T223.setTop (mkF m 146 #[.val (.int p1), .val (.int p2), .val (.int p3), .val (.int p4), .val (.int p5), .val (.int b1), .val (.int c0), .val (.int c1), .val (.int b2), .val (.int d0), .val (.int d1), .val (.ref s1), .unset, .unset, .unset, .unset, .unset, .unset, .unset, .unset] [(.ref b223), (.ref b223)]))
              refine FinW.st (fun _ => XS.iconst X223.here hx rfl (Jvm.hb hby at_146)) ?_
              show FinW p e below s Z EL h0 _ _ _ (T223.setTop (mkF m 147 #[.val (.int p1), .val (.int p2), .val (.int p3), .val (.int p4), .val (.int p5), .val (.int b1), .val (.int c0), .val (.int c1), .val (.int b2), .val (.int d0), .val (.int d1), .val (.ref s1), .unset, .unset, .unset, .unset, .unset, .unset, .unset, .unset] [(.int (2 : Int32)), (.ref b223), (.ref b223)]))
              have f228 := O132.ext E223
              obtain ⟨b227, g227⟩ : ∃ z, z = h223.size := ⟨_, rfl⟩
              have f229 := Ss1.ext E223
              have ne230 : s1 ≠ b227 := by rw [g227]; exact Nat.ne_of_lt f229.lt
              have ne231 : t1 ≠ b227 := by rw [g227]; exact Nat.ne_of_lt f229.ltt
              have ne232 : b223 ≠ b227 := by rw [g227]; exact Nat.ne_of_lt A223.lt
              have ge227 : n0 ≤ b227 := by rw [g227]; exact f228.own_le
              obtain ⟨T227, h227, k227, X227, e227, E227, A227, st227⟩ := newA0 X223 hx hZ132 (hw _ (List.mem_of_getElem? (i := 3) rfl)) e223 (g := (mkF m 147 #[.val (.int p1), .val (.int p2), .val (.int p3), .val (.int p4), .val (.int p5), .val (.int b1), .val (.int c0), .val (.int c1), .val (.int b2), .val (.int d0), .val (.int d1), .val (.ref s1), .unset, .unset, .unset, .unset, .unset, .unset, .unset, .unset] [(.int (2 : Int32)), (.ref b223), (.ref b223)])) rfl (Jvm.hb hby at_147) rfl (by decide) (N := 2) (by decide) (by decide) (by decide) (by decide)
              rw [← g227] at A227 st227
              have V227 : Arv Z h227 b227 k227 .char (2 : Int32) [(.int (0 : Int32)), (.int (0 : Int32))] (.int (0 : Int32)) := A227
              have CH233 := CH226.trans (CHr.ext E227 CH226.1)
              refine FinW.st st227 ?_
              show FinW p e below s Z EL h0 _ _ _ (T227.setTop (mkF m 149 #[.val (.int p1), .val (.int p2), .val (.int p3), .val (.int p4), .val (.int p5), .val (.int b1), .val (.int c0), .val (.int c1), .val (.int b2), .val (.int d0), .val (.int d1), .val (.ref s1), .unset, .unset, .unset, .unset, .unset, .unset, .unset, .unset] [(.ref b227), (.ref b223), (.ref b223)]))
              refine FinW.st (fun _ => XS.dup X227.here hx rfl (Jvm.hb hby at_149) rfl rfl) ?_
              show FinW p e below s Z EL h0 _ _ _ (T227.setTop (mkF m 150 #[.val (.int p1), .val (.int p2), .val (.int p3), .val (.int p4), .val (.int p5), .val (.int b1), .val (.int c0), .val (.int c1), .val (.int b2), .val (.int d0), .val (.int d1), .val (.ref s1), .unset, .unset, .unset, .unset, .unset, .unset, .unset, .unset] [(.ref b227), (.ref b227), (.ref b223), (.ref b223)]))
              refine FinW.st (fun _ => XS.iconst X227.here hx rfl (Jvm.hb hby at_150)) ?_
              show FinW p e below s Z EL h0 _ _ _ (T227.setTop (mkF m 151 #[.val (.int p1), .val (.int p2), .val (.int p3), .val (.int p4), .val (.int p5), .val (.int b1), .val (.int c0), .val (.int c1), .val (.int b2), .val (.int d0), .val (.int d1), .val (.ref s1), .unset, .unset, .unset, .unset, .unset, .unset, .unset, .unset] [(.int (0 : Int32)), (.ref b227), (.ref b227), (.ref b223), (.ref b223)]))
              refine FinW.st (fun _ => XS.iload X227.here hx rfl (Jvm.hb hby at_151) rfl) ?_
              show FinW p e below s Z EL h0 _ _ _ (T227.setTop (mkF m 153 #[.val (.int p1), .val (.int p2), .val (.int p3), .val (.int p4), .val (.int p5), .val (.int b1), .val (.int c0), .val (.int c1), .val (.int b2), .val (.int d0), .val (.int d1), .val (.ref s1), .unset, .unset, .unset, .unset, .unset, .unset, .unset, .unset] [(.int d0), (.int (0 : Int32)), (.ref b227), (.ref b227), (.ref b223), (.ref b223)]))
              obtain ⟨T234, h234, X234, e234, W234, V234, st234⟩ := stC0 X227 hx hZ132 e227 V227 (j := (0 : Int32)) (by decide) 0 rfl (Nat.le_of_ble_eq_true rfl) (nar_chr hbd0.1 hbd0.2) (g := (mkF m 153 #[.val (.int p1), .val (.int p2), .val (.int p3), .val (.int p4), .val (.int p5), .val (.int b1), .val (.int c0), .val (.int c1), .val (.int b2), .val (.int d0), .val (.int d1), .val (.ref s1), .unset, .unset, .unset, .unset, .unset, .unset, .unset, .unset] [(.int d0), (.int (0 : Int32)), (.ref b227), (.ref b227), (.ref b223), (.ref b223)])) rfl rfl (Jvm.hb hby at_153)
              have N234 := Fr.snoc X234 N132 ge227
              refine FinW.st st234 ?_
              have CH236 := CH233.trans (CHr.wr W234 (Safe.arv hZ132.alike V227 (by decide)) CH233.1)
              have V234 : Arv Z h234 b227 _ .char (2 : Int32) [(.int d0), (.int (0 : Int32))] (.int (0 : Int32)) := V234
              show FinW p e below s Z EL h0 _ _ _ (T234.setTop (mkF m 154 #[.val (.int p1), .val (.int p2), .val (.int p3), .val (.int p4), .val (.int p5), .val (.int b1), .val (.int c0), .val (.int c1), .val (.int b2), .val (.int d0), .val (.int d1), .val (.ref s1), .unset, .unset, .unset, .unset, .unset, .unset, .unset, .unset] [(.ref b227), (.ref b223), (.ref b223)]))
              refine FinW.st (fun _ => XS.dup X234.here hx rfl (Jvm.hb hby at_154) rfl rfl) ?_
              show FinW p e below s Z EL h0 _ _ _ (T234.setTop (mkF m 155 #[.val (.int p1), .val (.int p2), .val (.int p3), .val (.int p4), .val (.int p5), .val (.int b1), .val (.int c0), .val (.int c1), .val (.int b2), .val (.int d0), .val (.int d1), .val (.ref s1), .unset, .unset, .unset, .unset, .unset, .unset, .unset, .unset] [(.ref b227), (.ref b227), (.ref b223), (.ref b223)]))
              refine FinW.st (fun _ => XS.iconst X234.here hx rfl (Jvm.hb hby at_155)) ?_
              show FinW p e below s Z EL h0 _ _ _ (T234.setTop (mkF m 156 #[.val (.int p1), .val (.int p2), .val (.int p3), .val (.int p4), .val (.int p5), .val (.int b1), .val (.int c0), .val (.int c1), .val (.int b2), .val (.int d0), .val (.int d1), .val (.ref s1), .unset, .unset, .unset, .unset, .unset, .unset, .unset, .unset] [(.int (1 : Int32)), (.ref b227), (.ref b227), (.ref b223), (.ref b223)]))
              refine FinW.st (fun _ => XS.iload X234.here hx rfl (Jvm.hb hby at_156) rfl) ?_
              show FinW p e below s Z EL h0 _ _ _ (T234.setTop (mkF m 158 #[.val (.int p1), .val (.int p2), .val (.int p3), .val (.int p4), .val (.int p5), .val (.int b1), .val (.int c0), .val (.int c1), .val (.int b2), .val (.int d0), .val (.int d1), .val (.ref s1), .unset, .unset, .unset, .unset, .unset, .unset, .unset, .unset] [(.int d1), (.int (1 : Int32)), (.ref b227), (.ref b227), (.ref b223), (.ref b223)]))
              obtain ⟨T237, h237, X237, e237, W237, V237, st237⟩ := stC0 X234 hx hZ132 e234 V234 (j := (1 : Int32)) (by decide) 1 rfl (Nat.le_of_ble_eq_true rfl) (nar_chr hbd1.1 hbd1.2) (g := (mkF m 158 #[.val (.int p1), .val (.int p2), .val (.int p3), .val (.int p4), .val (.int p5), .val (.int b1), .val (.int c0), .val (.int c1), .val (.int b2), .val (.int d0), .val (.int d1), .val (.ref s1), .unset, .unset, .unset, .unset, .unset, .unset, .unset, .unset] [(.int d1), (.int (1 : Int32)), (.ref b227), (.ref b227), (.ref b223), (.ref b223)])) rfl rfl (Jvm.hb hby at_158)
              have N237 := Fr.snoc X237 N234 ge227
              refine FinW.st st237 ?_
              have CH239 := CH236.trans (CHr.wr W237 (Safe.arv hZ132.alike V234 (by decide)) CH236.1)
              have V237 : Arv Z h237 b227 _ .char (2 : Int32) [(.int d0), (.int d1)] (.int (0 : Int32)) := V237
              show FinW p e below s Z EL h0 _ _ _ (T237.setTop (mkF m 159 #[.val (.int p1), .val (.int p2), .val (.int p3), .val (.int p4), .val (.int p5), .val (.int b1), .val (.int c0), .val (.int c1), .val (.int b2), .val (.int d0), .val (.int d1), .val (.ref s1), .unset, .unset, .unset, .unset, .unset, .unset, .unset, .unset] [(.ref b227), (.ref b223), (.ref b223)]))
              have f240 := f228.ext E227
              have f241 := f240.wr W234 ge227
              have f242 := f241.wr W237 ge227
              have f243 := A223.ext E227
              have f244 := f243.wr W234
              have f245 := f244.wr W237
              have f246 := F223_value.ext E227
              have f247 := f246.other W234 (Or.inl ne232)
              have f248 := f247.other W237 (Or.inl ne232)
              have f249 := F223_coder.ext E227
              have f250 := f249.other W234 (Or.inl ne232)
              have f251 := f250.other W237 (Or.inl ne232)
              have f252 := f229.ext E227
              have f253 := f252.other W234 ne230 ne231
              have f254 := f253.other W237 ne230 ne231
              have hp255 : ∀ c ∈ [d0, d1], ¬ c < 0 ∧ ¬ (255 : Int32) < c := by
                intro c hc; simp only [List.mem_cons, List.not_mem_nil, or_false] at hc; rcases hc with rfl | rfl
                · exact ⟨hbd0.1, hbd0.2⟩
                · exact ⟨hbd1.1, hbd1.2⟩
              obtain ⟨_, T256, h256, L256, X256, e256, ⟨rfl, Nq256, K256, t256, gt256, sz256, nt256, S256⟩, st256⟩ := goI X237 hx hZ132 hown132 rfl (hw _ (List.mem_of_getElem? (i := 4) rfl)) (hw _ (List.mem_of_getElem? (i := 5) rfl)) (hw _ (List.mem_of_getElem? (i := 6) rfl)) (by decide) (strNew (len := 3) (W := 1) hZ132 hw (hw _ (List.mem_of_getElem? (i := 1) rfl)) (cs := [d0, d1]) (n := 2) ge223 f242.own_le f245 f248 f251 V237 (SC.ext f242.2) hcz rfl (by decide) (by decide) hp255 (by decide) (by decide)) e237 (g := (mkF m 159 #[.val (.int p1), .val (.int p2), .val (.int p3), .val (.int p4), .val (.int p5), .val (.int b1), .val (.int c0), .val (.int c1), .val (.int b2), .val (.int d0), .val (.int d1), .val (.ref s1), .unset, .unset, .unset, .unset, .unset, .unset, .unset, .unset] [(.ref b227), (.ref b223), (.ref b223)])) rfl (by rw [hml]; rfl) [(.ref b227)] [(.ref b223)] (lenOf pd_4 rfl) rfl (by show 2 * 0 + _ ≤ _; exact Nat.le_of_eq rfl) (Jvm.hb hby at_159) rfl (by decide) (by decide)
              have ne256_s1 : s1 ≠ t256 := Nat.ne_of_lt (Nat.lt_of_lt_of_le f254.lt sz256)
              have ne256_t1 : t1 ≠ t256 := Nat.ne_of_lt (Nat.lt_of_lt_of_le f254.ltt sz256)
              have ne256_b227 : b227 ≠ t256 := Nat.ne_of_lt (Nat.lt_of_lt_of_le V237.lt sz256)
              have N256 := N237.app Nq256
              refine FinW.st st256 ?_
              have CH257 := CH239.trans (CHr.keep K256 (sfS (Jvm.OwnKit.Safe.null hZ132.alike f245 f248) sf0) CH239.1)
              show FinW p e below s Z EL h0 _ _ _ (T256.setTop (mkF m 162 #[.val (.int p1), .val (.int p2), .val (.int p3), .val (.int p4), .val (.int p5), .val (.int b1), .val (.int c0), .val (.int c1), .val (.int b2), .val (.int d0), .val (.int d1), .val (.ref s1), .unset, .unset, .unset, .unset, .unset, .unset, .unset, .unset] [(.ref b223)]))
              refine FinW.st (fun _ => XS.goto X256.here hx rfl (pc0 := 162) (pc' := 180) rfl (Jvm.hb hby at_162) (by decide) (by decide)) ?_
              show FinW p e below s Z EL h0 _ _ _ (T256.setTop (mkF m 180 #[.val (.int p1), .val (.int p2), .val (.int p3), .val (.int p4), .val (.int p5), .val (.int b1), .val (.int c0), .val (.int c1), .val (.int b2), .val (.int d0), .val (.int d1), .val (.ref s1), .unset, .unset, .unset, .unset, .unset, .unset, .unset, .unset] [(.ref b223)]))
              have f258 := f254.keep K256 (ninS ne224 nin0) (ninS ne225 nin0)
              have f259 := f242.keep K256 (allS ge223 all0)
              have f260 := B132.ext E223
              have f261 := f260.ext E227
              have f262 := f261.wr W234
              have f263 := f262.wr W237
              have f264 := f263.keep K256
              exact j180 b223 _ _ _ vm132 ⟨X256.more (by decide) (by decide), e256, N256, f259, ⟨t256, _, S256, ge223, Or.inl ⟨hb2.resolve_left fj180, rfl⟩⟩, f264, CH257, hZ132, hown132, f258⟩
          intro j135
          by_cases fj135 : b1 = (0 : Int32)
          · skip
            refine FinW.st (fun _ => XS.ifYes X0.here hx rfl (pc0 := 94) (pc' := 120) rfl (Jvm.hb hby at_94) rfl (zeq fj135) (by decide) (by decide)) ?_
            show FinW p e below s Z EL h0 _ _ _ (T0.setTop (mkF m 120 #[.val (.int p1), .val (.int p2), .val (.int p3), .val (.int p4), .val (.int p5), .val (.int b1), .val (.int c0), .val (.int c1), .val (.int b2), .val (.int d0), .val (.int d1), .unset, .unset, .unset, .unset, .unset, .unset, .unset, .unset, .unset] []))
            obtain ⟨b265, g265⟩ : ∃ z, z = h0.size := ⟨_, rfl⟩
            have ge265 : n0 ≤ b265 := by rw [g265]; exact O.own_le
            obtain ⟨T265, h265, X265, e265, E265, A265, D265, -, st265⟩ := newO X0 hx hZ hown (hw _ (List.mem_of_getElem? (i := 0) rfl)) (hw _ (List.mem_of_getElem? (i := 1) rfl)) (hw _ (List.mem_of_getElem? (i := 2) rfl)) e0 (g := (mkF m 120 #[.val (.int p1), .val (.int p2), .val (.int p3), .val (.int p4), .val (.int p5), .val (.int b1), .val (.int c0), .val (.int c1), .val (.int b2), .val (.int d0), .val (.int d1), .unset, .unset, .unset, .unset, .unset, .unset, .unset, .unset, .unset] [])) rfl (Jvm.hb hby at_120) (by decide) (by decide)
            rw [← g265] at A265 D265 st265
            have CH266 := CH0.trans (CHr.ext E265 CH0.1)
            have F265_coder : Fld Z h265 b265 "java/lang/String" "coder" "B" (.int (0 : Int32)) := D265 (Or.inr (hw _ (List.mem_of_getElem? (i := 27) rfl))) (ty := .byte) (by decide)
            have F265_value : Fld Z h265 b265 "java/lang/String" "value" "[B" .null := D265 (Or.inr (hw _ (List.mem_of_getElem? (i := 29) rfl))) (ty := (.array .byte)) (by decide)
            refine FinW.st st265 ?_
            show FinW p e below s Z EL h0 _ _ _ (T265.setTop (mkF m 123 #[.val (.int p1), .val (.int p2), .val (.int p3), .val (.int p4), .val (.int p5), .val (.int b1), .val (.int c0), .val (.int c1), .val (.int b2), .val (.int d0), .val (.int d1), .unset, .unset, .unset, .unset, .unset, .unset, .unset, .unset, .unset] [(.ref b265)]))
            refine FinW.st (fun _ => XS.dup X265.here hx rfl (Jvm.hb hby at_123) rfl rfl) ?_
            show FinW p e below s Z EL h0 _ _ _ (T265.setTop (mkF m 124 #[.val (.int p1), .val (.int p2), .val (.int p3), .val (.int p4), .val (.int p5), .val (.int b1), .val (.int c0), .val (.int c1), .val (.int b2), .val (.int d0), .val (.int d1), .unset, .unset, .unset, .unset, .unset, .unset, .unset, .unset, .unset] [(.ref b265), (.ref b265)]))
            refine FinW.st (fun _ => XS.iconst X265.here hx rfl (Jvm.hb hby at_124)) ?_
            show FinW p e below s Z EL h0 _ _ _ (T265.setTop (mkF m 125 #[.val (.int p1), .val (.int p2), .val (.int p3), .val (.int p4), .val (.int p5), .val (.int b1), .val (.int c0), .val (.int c1), .val (.int b2), .val (.int d0), .val (.int d1), .unset, .unset, .unset, .unset, .unset, .unset, .unset, .unset, .unset] [(.int (1 : Int32)), (.ref b265), (.ref b265)]))
            have f268 := O.ext E265
            obtain ⟨b267, g267⟩ : ∃ z, z = h265.size := ⟨_, rfl⟩
            have ne269 : b265 ≠ b267 := by rw [g267]; exact Nat.ne_of_lt A265.lt
            have ge267 : n0 ≤ b267 := by rw [g267]; exact f268.own_le
            obtain ⟨T267, h267, k267, X267, e267, E267, A267, st267⟩ := newA0 X265 hx hZ (hw _ (List.mem_of_getElem? (i := 3) rfl)) e265 (g := (mkF m 125 #[.val (.int p1), .val (.int p2), .val (.int p3), .val (.int p4), .val (.int p5), .val (.int b1), .val (.int c0), .val (.int c1), .val (.int b2), .val (.int d0), .val (.int d1), .unset, .unset, .unset, .unset, .unset, .unset, .unset, .unset, .unset] [(.int (1 : Int32)), (.ref b265), (.ref b265)])) rfl (Jvm.hb hby at_125) rfl (by decide) (N := 1) (by decide) (by decide) (by decide) (by decide)
            rw [← g267] at A267 st267
            have V267 : Arv Z h267 b267 k267 .char (1 : Int32) [(.int (0 : Int32))] (.int (0 : Int32)) := A267
            have CH270 := CH266.trans (CHr.ext E267 CH266.1)
            refine FinW.st st267 ?_
            show FinW p e below s Z EL h0 _ _ _ (T267.setTop (mkF m 127 #[.val (.int p1), .val (.int p2), .val (.int p3), .val (.int p4), .val (.int p5), .val (.int b1), .val (.int c0), .val (.int c1), .val (.int b2), .val (.int d0), .val (.int d1), .unset, .unset, .unset, .unset, .unset, .unset, .unset, .unset, .unset] [(.ref b267), (.ref b265), (.ref b265)]))
            refine FinW.st (fun _ => XS.dup X267.here hx rfl (Jvm.hb hby at_127) rfl rfl) ?_
            show FinW p e below s Z EL h0 _ _ _ (T267.setTop (mkF m 128 #[.val (.int p1), .val (.int p2), .val (.int p3), .val (.int p4), .val (.int p5), .val (.int b1), .val (.int c0), .val (.int c1), .val (.int b2), .val (.int d0), .val (.int d1), .unset, .unset, .unset, .unset, .unset, .unset, .unset, .unset, .unset] [(.ref b267), (.ref b267), (.ref b265), (.ref b265)]))
            refine FinW.st (fun _ => XS.iconst X267.here hx rfl (Jvm.hb hby at_128)) ?_
            show FinW p e below s Z EL h0 _ _ _ (T267.setTop (mkF m 129 #[.val (.int p1), .val (.int p2), .val (.int p3), .val (.int p4), .val (.int p5), .val (.int b1), .val (.int c0), .val (.int c1), .val (.int b2), .val (.int d0), .val (.int d1), .unset, .unset, .unset, .unset, .unset, .unset, .unset, .unset, .unset] [(.int (0 : Int32)), (.ref b267), (.ref b267), (.ref b265), (.ref b265)]))
            refine FinW.st (fun _ => XS.iload X267.here hx rfl (Jvm.hb hby at_129) rfl) ?_
            show FinW p e below s Z EL h0 _ _ _ (T267.setTop (mkF m 131 #[.val (.int p1), .val (.int p2), .val (.int p3), .val (.int p4), .val (.int p5), .val (.int b1), .val (.int c0), .val (.int c1), .val (.int b2), .val (.int d0), .val (.int d1), .unset, .unset, .unset, .unset, .unset, .unset, .unset, .unset, .unset] [(.int c0), (.int (0 : Int32)), (.ref b267), (.ref b267), (.ref b265), (.ref b265)]))
            obtain ⟨T271, h271, X271, e271, W271, V271, st271⟩ := stC0 X267 hx hZ e267 V267 (j := (0 : Int32)) (by decide) 0 rfl (Nat.le_of_ble_eq_true rfl) (nar_chr lc0 uc0) (g := (mkF m 131 #[.val (.int p1), .val (.int p2), .val (.int p3), .val (.int p4), .val (.int p5), .val (.int b1), .val (.int c0), .val (.int c1), .val (.int b2), .val (.int d0), .val (.int d1), .unset, .unset, .unset, .unset, .unset, .unset, .unset, .unset, .unset] [(.int c0), (.int (0 : Int32)), (.ref b267), (.ref b267), (.ref b265), (.ref b265)])) rfl rfl (Jvm.hb hby at_131)
            have N271 := Fr.snoc X271 N0 ge267
            refine FinW.st st271 ?_
            have CH273 := CH270.trans (CHr.wr W271 (Safe.arv hZ.alike V267 (by decide)) CH270.1)
            have V271 : Arv Z h271 b267 _ .char (1 : Int32) [(.int c0)] (.int (0 : Int32)) := V271
            show FinW p e below s Z EL h0 _ _ _ (T271.setTop (mkF m 132 #[.val (.int p1), .val (.int p2), .val (.int p3), .val (.int p4), .val (.int p5), .val (.int b1), .val (.int c0), .val (.int c1), .val (.int b2), .val (.int d0), .val (.int d1), .unset, .unset, .unset, .unset, .unset, .unset, .unset, .unset, .unset] [(.ref b267), (.ref b265), (.ref b265)]))
            have f274 := f268.ext E267
            have f275 := f274.wr W271 ge267
            have f276 := A265.ext E267
            have f277 := f276.wr W271
            have f278 := F265_value.ext E267
            have f279 := f278.other W271 (Or.inl ne269)
            have f280 := F265_coder.ext E267
            have f281 := f280.other W271 (Or.inl ne269)
            have hp282 : ∀ c ∈ [c0], ¬ c < 0 ∧ ¬ (255 : Int32) < c := by
              intro c hc; simp only [List.mem_cons, List.not_mem_nil, or_false] at hc; rcases hc with rfl
              · exact ⟨lc0, uc0⟩
            obtain ⟨_, T283, h283, L283, X283, e283, ⟨rfl, Nq283, K283, t283, gt283, sz283, nt283, S283⟩, st283⟩ := goI X271 hx hZ hown rfl (hw _ (List.mem_of_getElem? (i := 4) rfl)) (hw _ (List.mem_of_getElem? (i := 5) rfl)) (hw _ (List.mem_of_getElem? (i := 6) rfl)) (by decide) (strNew (len := 3) (W := 1) hZ hw (hw _ (List.mem_of_getElem? (i := 1) rfl)) (cs := [c0]) (n := 1) ge265 f275.own_le f277 f279 f281 V271 (SC.ext f275.2) hcz rfl (by decide) (by decide) hp282 (by decide) (by decide)) e271 (g := (mkF m 132 #[.val (.int p1), .val (.int p2), .val (.int p3), .val (.int p4), .val (.int p5), .val (.int b1), .val (.int c0), .val (.int c1), .val (.int b2), .val (.int d0), .val (.int d1), .unset, .unset, .unset, .unset, .unset, .unset, .unset, .unset, .unset] [(.ref b267), (.ref b265), (.ref b265)])) rfl (by rw [hml]; rfl) [(.ref b267)] [(.ref b265)] (lenOf pd_4 rfl) rfl (by show 2 * 0 + _ ≤ _; exact Nat.le_of_eq rfl) (Jvm.hb hby at_132) rfl (by decide) (by decide)
            have ne283_b267 : b267 ≠ t283 := Nat.ne_of_lt (Nat.lt_of_lt_of_le V271.lt sz283)
            have N283 := N271.app Nq283
            refine FinW.st st283 ?_
            have CH284 := CH273.trans (CHr.keep K283 (sfS (Jvm.OwnKit.Safe.null hZ.alike f277 f279) sf0) CH273.1)
            show FinW p e below s Z EL h0 _ _ _ (T283.setTop (mkF m 135 #[.val (.int p1), .val (.int p2), .val (.int p3), .val (.int p4), .val (.int p5), .val (.int b1), .val (.int c0), .val (.int c1), .val (.int b2), .val (.int d0), .val (.int d1), .unset, .unset, .unset, .unset, .unset, .unset, .unset, .unset, .unset] [(.ref b265)]))
            have f285 := f275.keep K283 (allS ge265 all0)
            have f286 := B0.ext E265
            have f287 := f286.ext E267
            have f288 := f287.wr W271
            have f289 := f288.keep K283
            exact j135 b265 _ _ _ vm0 ⟨X283.more (by decide) (by decide), e283, N283, f285, ⟨t283, _, S283, ge265, Or.inr ⟨fj135, rfl⟩⟩, f289, CH284, hZ, hown⟩
          · skip
            refine FinW.st (fun _ => XS.ifNo X0.here hx rfl (Jvm.hb hby at_94) rfl (zeqN fj135)) ?_
            show FinW p e below s Z EL h0 _ _ _ (T0.setTop (mkF m 97 #[.val (.int p1), .val (.int p2), .val (.int p3), .val (.int p4), .val (.int p5), .val (.int b1), .val (.int c0), .val (.int c1), .val (.int b2), .val (.int d0), .val (.int d1), .unset, .unset, .unset, .unset, .unset, .unset, .unset, .unset, .unset] []))
            obtain ⟨b290, g290⟩ : ∃ z, z = h0.size := ⟨_, rfl⟩
            have ge290 : n0 ≤ b290 := by rw [g290]; exact O.own_le
            obtain ⟨T290, h290, X290, e290, E290, A290, D290, -, st290⟩ := newO X0 hx hZ hown (hw _ (List.mem_of_getElem? (i := 0) rfl)) (hw _ (List.mem_of_getElem? (i := 1) rfl)) (hw _ (List.mem_of_getElem? (i := 2) rfl)) e0 (g := (mkF m 97 #[.val (.int p1), .val (.int p2), .val (.int p3), .val (.int p4), .val (.int p5), .val (.int b1), .val (.int c0), .val (.int c1), .val (.int b2), .val (.int d0), .val (.int d1), .unset, .unset, .unset, .unset, .unset, .unset, .unset, .unset, .unset] [])) rfl (Jvm.hb hby at_97) (by decide) (by decide)
            rw [← g290] at A290 D290 st290
            have CH291 := CH0.trans (CHr.ext E290 CH0.1)
            have F290_coder : Fld Z h290 b290 "java/lang/String" "coder" "B" (.int (0 : Int32)) := D290 (Or.inr (hw _ (List.mem_of_getElem? (i := 27) rfl))) (ty := .byte) (by decide)
            have F290_value : Fld Z h290 b290 "java/lang/String" "value" "[B" .null := D290 (Or.inr (hw _ (List.mem_of_getElem? (i := 29) rfl))) (ty := (.array .byte)) (by decide)
            refine FinW.st st290 ?_
            show FinW p e below s Z EL h0 _ _ _ (T290.setTop (mkF m 100 #[.val (.int p1), .val (.int p2), .val (.int p3), .val (.int p4), .val (.int p5), .val (.int b1), .val (.int c0), .val (.int c1), .val (.int b2), .val (.int d0), .val (.int d1), .unset, .unset, .unset, .unset, .unset, .unset, .unset, .unset, .unset] [(.ref b290)]))
            refine FinW.st (fun _ => XS.dup X290.here hx rfl (Jvm.hb hby at_100) rfl rfl) ?_
            show FinW p e below s Z EL h0 _ _ _ (T290.setTop (mkF m 101 #[.val (.int p1), .val (.int p2), .val (.int p3), .val (.int p4), .val (.int p5), .val (.int b1), .val (.int c0), .val (.int c1), .val (.int b2), .val (.int d0), .val (.int d1), .unset, .unset, .unset, .unset, .unset, .unset, .unset, .unset, .unset] [(.ref b290), (.ref b290)]))
            refine FinW.st (fun _ => XS.iconst X290.here hx rfl (Jvm.hb hby at_101)) ?_
            show FinW p e below s Z EL h0 _ _ _ (T290.setTop (mkF m 102 #[.val (.int p1), .val (.int p2), .val (.int p3), .val (.int p4), .val (.int p5), .val (.int b1), .val (.int c0), .val (.int c1), .val (.int b2), .val (.int d0), .val (.int d1), .unset, .unset, .unset, .unset, .unset, .unset, .unset, .unset, .unset] [(.int (2 : Int32)), (.ref b290), (.ref b290)]))
            have f293 := O.ext E290
            obtain ⟨b292, g292⟩ : ∃ z, z = h290.size := ⟨_, rfl⟩
            have ne294 : b290 ≠ b292 := by rw [g292]; exact Nat.ne_of_lt A290.lt
            have ge292 : n0 ≤ b292 := by rw [g292]; exact f293.own_le
            obtain ⟨T292, h292, k292, X292, e292, E292, A292, st292⟩ := newA0 X290 hx hZ (hw _ (List.mem_of_getElem? (i := 3) rfl)) e290 (g := (mkF m 102 #[.val (.int p1), .val (.int p2), .val (.int p3), .val (.int p4), .val (.int p5), .val (.int b1), .val (.int c0), .val (.int c1), .val (.int b2), .val (.int d0), .val (.int d1), .unset, .unset, .unset, .unset, .unset, .unset, .unset, .unset, .unset] [(.int (2 : Int32)), (.ref b290), (.ref b290)])) rfl (Jvm.hb hby at_102) rfl (by decide) (N := 2) (by decide) (by decide) (by decide) (by decide)
            rw [← g292] at A292 st292
            have V292 : Arv Z h292 b292 k292 .char (2 : Int32) [(.int (0 : Int32)), (.int (0 : Int32))] (.int (0 : Int32)) := A292
            have CH295 := CH291.trans (CHr.ext E292 CH291.1)
            refine FinW.st st292 ?_
            show FinW p e below s Z EL h0 _ _ _ (T292.setTop (mkF m 104 #[.val (.int p1), .val (.int p2), .val (.int p3), .val (.int p4), .val (.int p5), .val (.int b1), .val (.int c0), .val (.int c1), .val (.int b2), .val (.int d0), .val (.int d1), .unset, .unset, .unset, .unset, .unset, .unset, .unset, .unset, .unset] [(.ref b292), (.ref b290), (.ref b290)]))
            refine FinW.st (fun _ => XS.dup X292.here hx rfl (Jvm.hb hby at_104) rfl rfl) ?_
            show FinW p e below s Z EL h0 _ _ _ (T292.setTop (mkF m 105 #[.val (.int p1), .val (.int p2), .val (.int p3), .val (.int p4), .val (.int p5), .val (.int b1), .val (.int c0), .val (.int c1), .val (.int b2), .val (.int d0), .val (.int d1), .unset, .unset, .unset, .unset, .unset, .unset, .unset, .unset, .unset] [(.ref b292), (.ref b292), (.ref b290), (.ref b290)]))
            refine FinW.st (fun _ => XS.iconst X292.here hx rfl (Jvm.hb hby at_105)) ?_
            show FinW p e below s Z EL h0 _ _ _ (T292.setTop (mkF m 106 #[.val (.int p1), .val (.int p2), .val (.int p3), .val (.int p4), .val (.int p5), .val (.int b1), .val (.int c0), .val (.int c1), .val (.int b2), .val (.int d0), .val (.int d1), .unset, .unset, .unset, .unset, .unset, .unset, .unset, .unset, .unset] [(.int (0 : Int32)), (.ref b292), (.ref b292), (.ref b290), (.ref b290)]))
            refine FinW.st (fun _ => XS.iload X292.here hx rfl (Jvm.hb hby at_106) rfl) ?_
            show FinW p e below s Z EL h0 _ _ _ (T292.setTop (mkF m 108 #[.val (.int p1), .val (.int p2), .val (.int p3), .val (.int p4), .val (.int p5), .val (.int b1), .val (.int c0), .val (.int c1), .val (.int b2), .val (.int d0), .val (.int d1), .unset, .unset, .unset, .unset, .unset, .unset, .unset, .unset, .unset] [(.int c0), (.int (0 : Int32)), (.ref b292), (.ref b292), (.ref b290), (.ref b290)]))
            obtain ⟨T296, h296, X296, e296, W296, V296, st296⟩ := stC0 X292 hx hZ e292 V292 (j := (0 : Int32)) (by decide) 0 rfl (Nat.le_of_ble_eq_true rfl) (nar_chr lc0 uc0) (g := (mkF m 108 #[.val (.int p1), .val (.int p2), .val (.int p3), .val (.int p4), .val (.int p5), .val (.int b1), .val (.int c0), .val (.int c1), .val (.int b2), .val (.int d0), .val (.int d1), .unset, .unset, .unset, .unset, .unset, .unset, .unset, .unset, .unset] [(.int c0), (.int (0 : Int32)), (.ref b292), (.ref b292), (.ref b290), (.ref b290)])) rfl rfl (Jvm.hb hby at_108)
            have N296 := Fr.snoc X296 N0 ge292
            refine FinW.st st296 ?_
            have CH298 := CH295.trans (CHr.wr W296 (Safe.arv hZ.alike V292 (by decide)) CH295.1)
            have V296 : Arv Z h296 b292 _ .char (2 : Int32) [(.int c0), (.int (0 : Int32))] (.int (0 : Int32)) := V296
            show FinW p e below s Z EL h0 _ _ _ (T296.setTop (mkF m 109 #[.val (.int p1), .val (.int p2), .val (.int p3), .val (.int p4), .val (.int p5), .val (.int b1), .val (.int c0), .val (.int c1), .val (.int b2), .val (.int d0), .val (.int d1), .unset, .unset, .unset, .unset, .unset, .unset, .unset, .unset, .unset] [(.ref b292), (.ref b290), (.ref b290)]))
            refine FinW.st (fun _ => XS.dup X296.here hx rfl (Jvm.hb hby at_109) rfl rfl) ?_
            show FinW p e below s Z EL h0 _ _ _ (T296.setTop (mkF m 110 #[.val (.int p1), .val (.int p2), .val (.int p3), .val (.int p4), .val (.int p5), .val (.int b1), .val (.int c0), .val (.int c1), .val (.int b2), .val (.int d0), .val (.int d1), .unset, .unset, .unset, .unset, .unset, .unset, .unset, .unset, .unset] [(.ref b292), (.ref b292), (.ref b290), (.ref b290)]))
            refine FinW.st (fun _ => XS.iconst X296.here hx rfl (Jvm.hb hby at_110)) ?_
            show FinW p e below s Z EL h0 _ _ _ (T296.setTop (mkF m 111 #[.val (.int p1), .val (.int p2), .val (.int p3), .val (.int p4), .val (.int p5), .val (.int b1), .val (.int c0), .val (.int c1), .val (.int b2), .val (.int d0), .val (.int d1), .unset, .unset, .unset, .unset, .unset, .unset, .unset, .unset, .unset] [(.int (1 : Int32)), (.ref b292), (.ref b292), (.ref b290), (.ref b290)]))
            refine FinW.st (fun _ => XS.iload X296.here hx rfl (Jvm.hb hby at_111) rfl) ?_
            show FinW p e below s Z EL h0 _ _ _ (T296.setTop (mkF m 113 #[.val (.int p1), .val (.int p2), .val (.int p3), .val (.int p4), .val (.int p5), .val (.int b1), .val (.int c0), .val (.int c1), .val (.int b2), .val (.int d0), .val (.int d1), .unset, .unset, .unset, .unset, .unset, .unset, .unset, .unset, .unset] [(.int c1), (.int (1 : Int32)), (.ref b292), (.ref b292), (.ref b290), (.ref b290)]))
            obtain ⟨T299, h299, X299, e299, W299, V299, st299⟩ := stC0 X296 hx hZ e296 V296 (j := (1 : Int32)) (by decide) 1 rfl (Nat.le_of_ble_eq_true rfl) (nar_chr lc1 uc1) (g := (mkF m 113 #[.val (.int p1), .val (.int p2), .val (.int p3), .val (.int p4), .val (.int p5), .val (.int b1), .val (.int c0), .val (.int c1), .val (.int b2), .val (.int d0), .val (.int d1), .unset, .unset, .unset, .unset, .unset, .unset, .unset, .unset, .unset] [(.int c1), (.int (1 : Int32)), (.ref b292), (.ref b292), (.ref b290), (.ref b290)])) rfl rfl (Jvm.hb hby at_113)
            have N299 := Fr.snoc X299 N296 ge292
            refine FinW.st st299 ?_
            have CH301 := CH298.trans (CHr.wr W299 (Safe.arv hZ.alike V296 (by decide)) CH298.1)
            have V299 : Arv Z h299 b292 _ .char (2 : Int32) [(.int c0), (.int c1)] (.int (0 : Int32)) := V299
            show FinW p e below s Z EL h0 _ _ _ (T299.setTop (mkF m 114 #[.val (.int p1), .val (.int p2), .val (.int p3), .val (.int p4), .val (.int p5), .val (.int b1), .val (.int c0), .val (.int c1), .val (.int b2), .val (.int d0), .val (.int d1), .unset, .unset, .unset, .unset, .unset, .unset, .unset, .unset, .unset] [(.ref b292), (.ref b290), (.ref b290)]))
            have f302 := f293.ext E292
            have f303 := f302.wr W296 ge292
            have f304 := f303.wr W299 ge292
            have f305 := A290.ext E292
            have f306 := f305.wr W296
            have f307 := f306.wr W299
            have f308 := F290_value.ext E292
            have f309 := f308.other W296 (Or.inl ne294)
            have f310 := f309.other W299 (Or.inl ne294)
            have f311 := F290_coder.ext E292
            have f312 := f311.other W296 (Or.inl ne294)
            have f313 := f312.other W299 (Or.inl ne294)
            have hp314 : ∀ c ∈ [c0, c1], ¬ c < 0 ∧ ¬ (255 : Int32) < c := by
              intro c hc; simp only [List.mem_cons, List.not_mem_nil, or_false] at hc; rcases hc with rfl | rfl
              · exact ⟨lc0, uc0⟩
              · exact ⟨lc1, uc1⟩
            obtain ⟨_, T315, h315, L315, X315, e315, ⟨rfl, Nq315, K315, t315, gt315, sz315, nt315, S315⟩, st315⟩ := goI X299 hx hZ hown rfl (hw _ (List.mem_of_getElem? (i := 4) rfl)) (hw _ (List.mem_of_getElem? (i := 5) rfl)) (hw _ (List.mem_of_getElem? (i := 6) rfl)) (by decide) (strNew (len := 3) (W := 1) hZ hw (hw _ (List.mem_of_getElem? (i := 1) rfl)) (cs := [c0, c1]) (n := 2) ge290 f304.own_le f307 f310 f313 V299 (SC.ext f304.2) hcz rfl (by decide) (by decide) hp314 (by decide) (by decide)) e299 (g := (mkF m 114 #[.val (.int p1), .val (.int p2), .val (.int p3), .val (.int p4), .val (.int p5), .val (.int b1), .val (.int c0), .val (.int c1), .val (.int b2), .val (.int d0), .val (.int d1), .unset, .unset, .unset, .unset, .unset, .unset, .unset, .unset, .unset] [(.ref b292), (.ref b290), (.ref b290)])) rfl (by rw [hml]; rfl) [(.ref b292)] [(.ref b290)] (lenOf pd_4 rfl) rfl (by show 2 * 0 + _ ≤ _; exact Nat.le_of_eq rfl) (Jvm.hb hby at_114) rfl (by decide) (by decide)
            have ne315_b292 : b292 ≠ t315 := Nat.ne_of_lt (Nat.lt_of_lt_of_le V299.lt sz315)
            have N315 := N299.app Nq315
            refine FinW.st st315 ?_
            have CH316 := CH301.trans (CHr.keep K315 (sfS (Jvm.OwnKit.Safe.null hZ.alike f307 f310) sf0) CH301.1)
            show FinW p e below s Z EL h0 _ _ _ (T315.setTop (mkF m 117 #[.val (.int p1), .val (.int p2), .val (.int p3), .val (.int p4), .val (.int p5), .val (.int b1), .val (.int c0), .val (.int c1), .val (.int b2), .val (.int d0), .val (.int d1), .unset, .unset, .unset, .unset, .unset, .unset, .unset, .unset, .unset] [(.ref b290)]))
            refine FinW.st (fun _ => XS.goto X315.here hx rfl (pc0 := 117) (pc' := 135) rfl (Jvm.hb hby at_117) (by decide) (by decide)) ?_
            show FinW p e below s Z EL h0 _ _ _ (T315.setTop (mkF m 135 #[.val (.int p1), .val (.int p2), .val (.int p3), .val (.int p4), .val (.int p5), .val (.int b1), .val (.int c0), .val (.int c1), .val (.int b2), .val (.int d0), .val (.int d1), .unset, .unset, .unset, .unset, .unset, .unset, .unset, .unset, .unset] [(.ref b290)]))
            have f317 := f304.keep K315 (allS ge290 all0)
            have f318 := B0.ext E290
            have f319 := f318.ext E292
            have f320 := f319.wr W296
            have f321 := f320.wr W299
            have f322 := f321.keep K315
            exact j135 b290 _ _ _ vm0 ⟨X315.more (by decide) (by decide), e315, N315, f317, ⟨t315, _, S315, ge290, Or.inl ⟨hb1.resolve_left fj135, rfl⟩⟩, f322, CH316, hZ, hown⟩
        intro j90
        by_cases fj90 : (p5 &&& (2 : Int32)) = (0 : Int32)
        · skip
          refine FinW.st (fun _ => XS.ifYes X0.here hx rfl (pc0 := 73) (pc' := 81) rfl (Jvm.hb hby at_73) rfl (zeq fj90) (by decide) (by decide)) ?_
          show FinW p e below s Z EL h0 _ _ _ (T0.setTop (mkF m 81 #[.val (.int p1), .val (.int p2), .val (.int p3), .val (.int p4), .val (.int p5), .val (.int b1), .val (.int c0), .val (.int c1), .val (.int b2), .val (.int d0), .unset, .unset, .unset, .unset, .unset, .unset, .unset, .unset, .unset, .unset] []))
          refine FinW.st (fun _ => XS.iloadN X0.here hx rfl (Jvm.hb hby at_81) rfl) ?_
          show FinW p e below s Z EL h0 _ _ _ (T0.setTop (mkF m 82 #[.val (.int p1), .val (.int p2), .val (.int p3), .val (.int p4), .val (.int p5), .val (.int b1), .val (.int c0), .val (.int c1), .val (.int b2), .val (.int d0), .unset, .unset, .unset, .unset, .unset, .unset, .unset, .unset, .unset, .unset] [(.int p2)]))
          refine FinW.st (fun _ => XS.bipush X0.here hx rfl (Jvm.hb hby at_82)) ?_
          show FinW p e below s Z EL h0 _ _ _ (T0.setTop (mkF m 84 #[.val (.int p1), .val (.int p2), .val (.int p3), .val (.int p4), .val (.int p5), .val (.int b1), .val (.int c0), .val (.int c1), .val (.int b2), .val (.int d0), .unset, .unset, .unset, .unset, .unset, .unset, .unset, .unset, .unset, .unset] [(.int (9 : Int32)), (.int p2)]))
          refine FinW.st (fun _ => XS.iushr X0.here hx rfl (Jvm.hb hby at_84) rfl) ?_
          show FinW p e below s Z EL h0 _ _ _ (T0.setTop (mkF m 85 #[.val (.int p1), .val (.int p2), .val (.int p3), .val (.int p4), .val (.int p5), .val (.int b1), .val (.int c0), .val (.int c1), .val (.int b2), .val (.int d0), .unset, .unset, .unset, .unset, .unset, .unset, .unset, .unset, .unset, .unset] [(.int (ush p2 (9 : Int32)))]))
          refine FinW.st (fun _ => XS.sipush X0.here hx rfl (Jvm.hb hby at_85)) ?_
          show FinW p e below s Z EL h0 _ _ _ (T0.setTop (mkF m 88 #[.val (.int p1), .val (.int p2), .val (.int p3), .val (.int p4), .val (.int p5), .val (.int b1), .val (.int c0), .val (.int c1), .val (.int b2), .val (.int d0), .unset, .unset, .unset, .unset, .unset, .unset, .unset, .unset, .unset, .unset] [(.int (255 : Int32)), (.int (ush p2 (9 : Int32)))]))
          refine FinW.st (fun _ => XS.iand X0.here hx rfl (Jvm.hb hby at_88) rfl) ?_
          show FinW p e below s Z EL h0 _ _ _ (T0.setTop (mkF m 89 #[.val (.int p1), .val (.int p2), .val (.int p3), .val (.int p4), .val (.int p5), .val (.int b1), .val (.int c0), .val (.int c1), .val (.int b2), .val (.int d0), .unset, .unset, .unset, .unset, .unset, .unset, .unset, .unset, .unset, .unset] [(.int ((ush p2 (9 : Int32)) &&& (255 : Int32)))]))
          refine FinW.st (fun _ => XS.i2c X0.here hx rfl (Jvm.hb hby at_89) rfl) ?_
          show FinW p e below s Z EL h0 _ _ _ (T0.setTop (mkF m 90 #[.val (.int p1), .val (.int p2), .val (.int p3), .val (.int p4), .val (.int p5), .val (.int b1), .val (.int c0), .val (.int c1), .val (.int b2), .val (.int d0), .unset, .unset, .unset, .unset, .unset, .unset, .unset, .unset, .unset, .unset] [(.int (chr ((ush p2 (9 : Int32)) &&& (255 : Int32))))]))
          obtain ⟨z, hz, lz, uz, wz⟩ := chr_255 (ush p2 (9 : Int32))
          rw [hz]
          show FinW p e below s Z EL h0 _ _ _ (T0.setTop (mkF m 90 #[.val (.int p1), .val (.int p2), .val (.int p3), .val (.int p4), .val (.int p5), .val (.int b1), .val (.int c0), .val (.int c1), .val (.int b2), .val (.int d0), .unset, .unset, .unset, .unset, .unset, .unset, .unset, .unset, .unset, .unset] [(.int z)]))
          exact j90 z ⟨lz, uz⟩
        · skip
          refine FinW.st (fun _ => XS.ifNo X0.here hx rfl (Jvm.hb hby at_73) rfl (zeqN fj90)) ?_
          show FinW p e below s Z EL h0 _ _ _ (T0.setTop (mkF m 76 #[.val (.int p1), .val (.int p2), .val (.int p3), .val (.int p4), .val (.int p5), .val (.int b1), .val (.int c0), .val (.int c1), .val (.int b2), .val (.int d0), .unset, .unset, .unset, .unset, .unset, .unset, .unset, .unset, .unset, .unset] []))
          refine FinW.st (fun _ => XS.iload X0.here hx rfl (Jvm.hb hby at_76) rfl) ?_
          show FinW p e below s Z EL h0 _ _ _ (T0.setTop (mkF m 78 #[.val (.int p1), .val (.int p2), .val (.int p3), .val (.int p4), .val (.int p5), .val (.int b1), .val (.int c0), .val (.int c1), .val (.int b2), .val (.int d0), .unset, .unset, .unset, .unset, .unset, .unset, .unset, .unset, .unset, .unset] [(.int c1)]))
          refine FinW.st (fun _ => XS.goto X0.here hx rfl (pc0 := 78) (pc' := 90) rfl (Jvm.hb hby at_78) (by decide) (by decide)) ?_
          show FinW p e below s Z EL h0 _ _ _ (T0.setTop (mkF m 90 #[.val (.int p1), .val (.int p2), .val (.int p3), .val (.int p4), .val (.int p5), .val (.int b1), .val (.int c0), .val (.int c1), .val (.int b2), .val (.int d0), .unset, .unset, .unset, .unset, .unset, .unset, .unset, .unset, .unset, .unset] [(.int c1)]))
          exact j90 c1 ⟨lc1, uc1⟩
      intro j67
      by_cases fj67 : (p5 &&& (1 : Int32)) = (0 : Int32)
      · skip
        refine FinW.st (fun _ => XS.ifYes X0.here hx rfl (pc0 := 51) (pc' := 59) rfl (Jvm.hb hby at_51) rfl (zeq fj67) (by decide) (by decide)) ?_
        show FinW p e below s Z EL h0 _ _ _ (T0.setTop (mkF m 59 #[.val (.int p1), .val (.int p2), .val (.int p3), .val (.int p4), .val (.int p5), .val (.int b1), .val (.int c0), .val (.int c1), .val (.int b2), .unset, .unset, .unset, .unset, .unset, .unset, .unset, .unset, .unset, .unset, .unset] []))
        refine FinW.st (fun _ => XS.iloadN X0.here hx rfl (Jvm.hb hby at_59) rfl) ?_
        show FinW p e below s Z EL h0 _ _ _ (T0.setTop (mkF m 60 #[.val (.int p1), .val (.int p2), .val (.int p3), .val (.int p4), .val (.int p5), .val (.int b1), .val (.int c0), .val (.int c1), .val (.int b2), .unset, .unset, .unset, .unset, .unset, .unset, .unset, .unset, .unset, .unset, .unset] [(.int p2)]))
        refine FinW.st (fun _ => XS.iconst X0.here hx rfl (Jvm.hb hby at_60)) ?_
        show FinW p e below s Z EL h0 _ _ _ (T0.setTop (mkF m 61 #[.val (.int p1), .val (.int p2), .val (.int p3), .val (.int p4), .val (.int p5), .val (.int b1), .val (.int c0), .val (.int c1), .val (.int b2), .unset, .unset, .unset, .unset, .unset, .unset, .unset, .unset, .unset, .unset, .unset] [(.int (1 : Int32)), (.int p2)]))
        refine FinW.st (fun _ => XS.iushr X0.here hx rfl (Jvm.hb hby at_61) rfl) ?_
        show FinW p e below s Z EL h0 _ _ _ (T0.setTop (mkF m 62 #[.val (.int p1), .val (.int p2), .val (.int p3), .val (.int p4), .val (.int p5), .val (.int b1), .val (.int c0), .val (.int c1), .val (.int b2), .unset, .unset, .unset, .unset, .unset, .unset, .unset, .unset, .unset, .unset, .unset] [(.int (ush p2 (1 : Int32)))]))
        refine FinW.st (fun _ => XS.sipush X0.here hx rfl (Jvm.hb hby at_62)) ?_
        show FinW p e below s Z EL h0 _ _ _ (T0.setTop (mkF m 65 #[.val (.int p1), .val (.int p2), .val (.int p3), .val (.int p4), .val (.int p5), .val (.int b1), .val (.int c0), .val (.int c1), .val (.int b2), .unset, .unset, .unset, .unset, .unset, .unset, .unset, .unset, .unset, .unset, .unset] [(.int (255 : Int32)), (.int (ush p2 (1 : Int32)))]))
        refine FinW.st (fun _ => XS.iand X0.here hx rfl (Jvm.hb hby at_65) rfl) ?_
        show FinW p e below s Z EL h0 _ _ _ (T0.setTop (mkF m 66 #[.val (.int p1), .val (.int p2), .val (.int p3), .val (.int p4), .val (.int p5), .val (.int b1), .val (.int c0), .val (.int c1), .val (.int b2), .unset, .unset, .unset, .unset, .unset, .unset, .unset, .unset, .unset, .unset, .unset] [(.int ((ush p2 (1 : Int32)) &&& (255 : Int32)))]))
        refine FinW.st (fun _ => XS.i2c X0.here hx rfl (Jvm.hb hby at_66) rfl) ?_
        show FinW p e below s Z EL h0 _ _ _ (T0.setTop (mkF m 67 #[.val (.int p1), .val (.int p2), .val (.int p3), .val (.int p4), .val (.int p5), .val (.int b1), .val (.int c0), .val (.int c1), .val (.int b2), .unset, .unset, .unset, .unset, .unset, .unset, .unset, .unset, .unset, .unset, .unset] [(.int (chr ((ush p2 (1 : Int32)) &&& (255 : Int32))))]))
        obtain ⟨z, hz, lz, uz, wz⟩ := chr_255 (ush p2 (1 : Int32))
        rw [hz]
        show FinW p e below s Z EL h0 _ _ _ (T0.setTop (mkF m 67 #[.val (.int p1), .val (.int p2), .val (.int p3), .val (.int p4), .val (.int p5), .val (.int b1), .val (.int c0), .val (.int c1), .val (.int b2), .unset, .unset, .unset, .unset, .unset, .unset, .unset, .unset, .unset, .unset, .unset] [(.int z)]))
        exact j67 z ⟨lz, uz⟩
      · skip
        refine FinW.st (fun _ => XS.ifNo X0.here hx rfl (Jvm.hb hby at_51) rfl (zeqN fj67)) ?_
        show FinW p e below s Z EL h0 _ _ _ (T0.setTop (mkF m 54 #[.val (.int p1), .val (.int p2), .val (.int p3), .val (.int p4), .val (.int p5), .val (.int b1), .val (.int c0), .val (.int c1), .val (.int b2), .unset, .unset, .unset, .unset, .unset, .unset, .unset, .unset, .unset, .unset, .unset] []))
        refine FinW.st (fun _ => XS.iload X0.here hx rfl (Jvm.hb hby at_54) rfl) ?_
        show FinW p e below s Z EL h0 _ _ _ (T0.setTop (mkF m 56 #[.val (.int p1), .val (.int p2), .val (.int p3), .val (.int p4), .val (.int p5), .val (.int b1), .val (.int c0), .val (.int c1), .val (.int b2), .unset, .unset, .unset, .unset, .unset, .unset, .unset, .unset, .unset, .unset, .unset] [(.int c0)]))
        refine FinW.st (fun _ => XS.goto X0.here hx rfl (pc0 := 56) (pc' := 67) rfl (Jvm.hb hby at_56) (by decide) (by decide)) ?_
        show FinW p e below s Z EL h0 _ _ _ (T0.setTop (mkF m 67 #[.val (.int p1), .val (.int p2), .val (.int p3), .val (.int p4), .val (.int p5), .val (.int b1), .val (.int c0), .val (.int c1), .val (.int b2), .unset, .unset, .unset, .unset, .unset, .unset, .unset, .unset, .unset, .unset, .unset] [(.int c0)]))
        exact j67 c0 ⟨lc0, uc0⟩
    intro j45
    by_cases fj45 : (p2 &&& (1 : Int32)) = (0 : Int32)
    · skip
      refine FinW.st (fun _ => XS.ifYes X0.here hx rfl (pc0 := 37) (pc' := 44) rfl (Jvm.hb hby at_37) rfl (zeq fj45) (by decide) (by decide)) ?_
      show FinW p e below s Z EL h0 _ _ _ (T0.setTop (mkF m 44 #[.val (.int p1), .val (.int p2), .val (.int p3), .val (.int p4), .val (.int p5), .val (.int b1), .val (.int c0), .val (.int c1), .unset, .unset, .unset, .unset, .unset, .unset, .unset, .unset, .unset, .unset, .unset, .unset] []))
      refine FinW.st (fun _ => XS.iconst X0.here hx rfl (Jvm.hb hby at_44)) ?_
      show FinW p e below s Z EL h0 _ _ _ (T0.setTop (mkF m 45 #[.val (.int p1), .val (.int p2), .val (.int p3), .val (.int p4), .val (.int p5), .val (.int b1), .val (.int c0), .val (.int c1), .unset, .unset, .unset, .unset, .unset, .unset, .unset, .unset, .unset, .unset, .unset, .unset] [(.int (0 : Int32))]))
      exact j45 (0 : Int32) (Or.inl rfl)
    · skip
      refine FinW.st (fun _ => XS.ifNo X0.here hx rfl (Jvm.hb hby at_37) rfl (zeqN fj45)) ?_
      show FinW p e below s Z EL h0 _ _ _ (T0.setTop (mkF m 40 #[.val (.int p1), .val (.int p2), .val (.int p3), .val (.int p4), .val (.int p5), .val (.int b1), .val (.int c0), .val (.int c1), .unset, .unset, .unset, .unset, .unset, .unset, .unset, .unset, .unset, .unset, .unset, .unset] []))
      refine FinW.st (fun _ => XS.iconst X0.here hx rfl (Jvm.hb hby at_40)) ?_
      show FinW p e below s Z EL h0 _ _ _ (T0.setTop (mkF m 41 #[.val (.int p1), .val (.int p2), .val (.int p3), .val (.int p4), .val (.int p5), .val (.int b1), .val (.int c0), .val (.int c1), .unset, .unset, .unset, .unset, .unset, .unset, .unset, .unset, .unset, .unset, .unset, .unset] [(.int (1 : Int32))]))
      refine FinW.st (fun _ => XS.goto X0.here hx rfl (pc0 := 41) (pc' := 45) rfl (Jvm.hb hby at_41) (by decide) (by decide)) ?_
      show FinW p e below s Z EL h0 _ _ _ (T0.setTop (mkF m 45 #[.val (.int p1), .val (.int p2), .val (.int p3), .val (.int p4), .val (.int p5), .val (.int b1), .val (.int c0), .val (.int c1), .unset, .unset, .unset, .unset, .unset, .unset, .unset, .unset, .unset, .unset, .unset, .unset] [(.int (1 : Int32))]))
      exact j45 (1 : Int32) (Or.inr rfl)
  intro j11
  by_cases fj11 : (p1 &&& (1 : Int32)) = (0 : Int32)
  · skip
    refine FinW.st (fun _ => XS.ifYes X0.here hx rfl (pc0 := 3) (pc' := 10) rfl (Jvm.hb hby at_3) rfl (zeq fj11) (by decide) (by decide)) ?_
    show FinW p e below s Z EL h0 _ _ _ (T0.setTop (mkF m 10 #[.val (.int p1), .val (.int p2), .val (.int p3), .val (.int p4), .val (.int p5), .unset, .unset, .unset, .unset, .unset, .unset, .unset, .unset, .unset, .unset, .unset, .unset, .unset, .unset, .unset] []))
    refine FinW.st (fun _ => XS.iconst X0.here hx rfl (Jvm.hb hby at_10)) ?_
    show FinW p e below s Z EL h0 _ _ _ (T0.setTop (mkF m 11 #[.val (.int p1), .val (.int p2), .val (.int p3), .val (.int p4), .val (.int p5), .unset, .unset, .unset, .unset, .unset, .unset, .unset, .unset, .unset, .unset, .unset, .unset, .unset, .unset, .unset] [(.int (0 : Int32))]))
    exact j11 (0 : Int32) (Or.inl rfl)
  · skip
    refine FinW.st (fun _ => XS.ifNo X0.here hx rfl (Jvm.hb hby at_3) rfl (zeqN fj11)) ?_
    show FinW p e below s Z EL h0 _ _ _ (T0.setTop (mkF m 6 #[.val (.int p1), .val (.int p2), .val (.int p3), .val (.int p4), .val (.int p5), .unset, .unset, .unset, .unset, .unset, .unset, .unset, .unset, .unset, .unset, .unset, .unset, .unset, .unset, .unset] []))
    refine FinW.st (fun _ => XS.iconst X0.here hx rfl (Jvm.hb hby at_6)) ?_
    show FinW p e below s Z EL h0 _ _ _ (T0.setTop (mkF m 7 #[.val (.int p1), .val (.int p2), .val (.int p3), .val (.int p4), .val (.int p5), .unset, .unset, .unset, .unset, .unset, .unset, .unset, .unset, .unset, .unset, .unset, .unset, .unset, .unset, .unset] [(.int (1 : Int32))]))
    refine FinW.st (fun _ => XS.goto X0.here hx rfl (pc0 := 7) (pc' := 11) rfl (Jvm.hb hby at_7) (by decide) (by decide)) ?_
    show FinW p e below s Z EL h0 _ _ _ (T0.setTop (mkF m 11 #[.val (.int p1), .val (.int p2), .val (.int p3), .val (.int p4), .val (.int p5), .unset, .unset, .unset, .unset, .unset, .unset, .unset, .unset, .unset, .unset, .unset, .unset, .unset, .unset, .unset] [(.int (1 : Int32))]))
    exact j11 (1 : Int32) (Or.inr rfl)
set_option maxRecDepth 65536 in
set_option maxHeartbeats 40000000 in
theorem comes_1 {Post : Tables → Env → Array Value → State → Outcome → State → Prop} (hpost : ∀ tb e args s v u, (limb_1_1.after args s (.returned v) u = true ∧ limb_1_2.after args s (.returned v) u = true ∧ True) → Jvm.D.FramedW s (.returned v) u (Jvm.fieldLocs frame_1_writes args s ++ Jvm.arrayLocs frame_1_arrays args s ++ Jvm.staticLocs frame_1_statics s) 32 1152 → Post tb e args s (.returned v) u) :
    ArmFor flags0 classFile x code maxLocals ret World_1 tables_1 room_1 Calls_1 rest_1 Pre_1 Post := by
  intro l hfl _ _ p e ha hc hk s m args below hf hA hF happ hP
  obtain ⟨hcalls, hrest, hpre⟩ := hP
  obtain ⟨-, -, -, hnamed, -, -, -, hat⟩ := (Spec.applies_iff hf).mp happ
  obtain ⟨hg, hn⟩ := and_e (Cond.before_iff.mp (show (Jvm.Cond.and given_1 narrow_1).before args s = true from hpre))
  obtain ⟨hcnt, hg⟩ := and_e hg
  obtain ⟨g0, hg⟩ := and_e hg
  obtain ⟨g1, hg⟩ := and_e hg
  obtain ⟨g2, hg⟩ := and_e hg
  obtain ⟨g3, hg⟩ := and_e hg
  have g4 := hg
  obtain ⟨w0, w1, w2, w3, w4, rfl⟩ : ∃ w0 w1 w2 w3 w4 : Value, args = #[w0, w1, w2, w3, w4] := by
    have hs : args.size = 5 := by simpa [Cond.value, given_1] using hcnt
    obtain ⟨L⟩ := args
    match L, hs with
    | [w0, w1, w2, w3, w4], _ => exact ⟨w0, w1, w2, w3, w4, rfl⟩
  have hw := fun d (hd : d ∈ tables_1) => atoms_spec (ws := Jvm.Cond.code x code maxLocals ret :: tables_1) hat d (List.mem_cons_of_mem _ hd)
  obtain ⟨hsets, hown0⟩ := atoms_of _ (rest_1_c_eq ▸ (show rest_1_c.before _ s = true from hrest))
  have hfit : Fit s := fun {y c} hc i hi => by
    obtain ⟨ha, rfl⟩ := Array.getElem?_eq_some_iff.mp hc
    have q := List.all_eq_true.mp ((Array.all_eq_true_iff_forall_mem.mp hF) _ (Array.getElem_mem ha)) i (List.mem_range.mpr hi)
    simpa [Array.getElem?_eq_getElem hi] using q
  obtain ⟨i0, ei0⟩ := is_v g0
  obtain rfl : w0 = (.int i0) := Option.some.inj ei0
  obtain ⟨i1, ei1⟩ := is_v g1
  obtain rfl : w1 = (.int i1) := Option.some.inj ei1
  obtain ⟨i2, ei2⟩ := is_v g2
  obtain rfl : w2 = (.int i2) := Option.some.inj ei2
  obtain ⟨i3, ei3⟩ := is_v g3
  obtain rfl : w3 = (.int i3) := Option.some.inj ei3
  obtain ⟨i4, ei4⟩ := is_v g4
  obtain rfl : w4 = (.int i4) := Option.some.inj ei4
  have n3 := not_v (Cond.before_iff.mp (hsets _ (List.mem_of_getElem? (i := 2) rfl)))
  obtain ⟨cz, ez⟩ := is_v (Cond.before_iff.mp (hsets _ (List.mem_of_getElem? (i := 1) rfl)))
  have SC : Sta s s.heap "java/lang/String" "COMPACT_STRINGS" "Z" (.int cz) := Sta.start ez (Or.inl (hsets _ (List.mem_of_getElem? (i := 0) rfl)))
  have hcz : ¬ (cz = (0 : Int32)) := gotF (Cond.eq_ints ez (Term.int_eval (0))) n3
  have hC : CHv s EL s.vm s.heap := fun p hp => nomatch hp
  obtain ⟨n, o, h1, h2, h3, _, L, rfl, ⟨rfl, N⟩, -, hq1, hq2, hq3, hq4⟩ := rmLaw l s _ hw tables_1 i0 i1 i2 i3 i4 cz  s.heap s.heap.size (Old.start s) SC hcz  p e ha hc hk s m _ below hf ((Spec.applies_iff_loose hf).mp happ).1 ⟨rfl, State.Warmed39.refl s, rfl, hC⟩ trivial
  exact ⟨n, _, h1, h2, h3, hpost _ _ _ _ _ _ ⟨Cond.after_iff.mpr rfl, Cond.after_iff.mpr (eq_i res_at (Term.int_eval (1)) rfl), trivial⟩ ⟨hq1, hq2, hq3, (hq4.sift fun y hy => Or.inr (N y hy)).mono (by decide) (by decide)⟩⟩
theorem main_1_1 : Claimed_1_1 := comes_1 fun _ _ _ _ _ _ h hF => ⟨h.1, hF⟩
theorem main_1_2 : Claimed_1_2 := comes_1 fun _ _ _ _ _ _ h hF => ⟨h.2.1, hF⟩
end Jvm.Pilot.@@N@@
namespace Jvm.Pilot.@@N@@
open Jvm Jvm.ClassFile Sem Op Lib Jvm.Free Jvm.Stand Jvm.Pilot.@@N@@.Jvm.D
/-! MADE BY PROGRAM (witnessworld.py) out of the Statement's table words and the real class files: 21 classes; the members and pool entries that the words name. The judged class is class 1, her method 1. -/
namespace start1
open Jvm.ClassFile
def u (s : String) : CpInfo := .utf8 (stringToUtf16 s)
/-- a pool by its gaps: so many unusable entries, then the entry; so many at the end -/
def gap : Nat → List CpInfo → List CpInfo
  | 0, r => r
  | n + 1, r => .unusable :: gap n r
def poolList (es : List (Nat × CpInfo)) (last : Nat) : List CpInfo := es.foldr (fun e r => gap e.1 (e.2 :: r)) (gap last [])
def pool (es : List (Nat × CpInfo)) (last : Nat) : Array CpInfo := ⟨poolList es last⟩
def fileOf (pool : Array CpInfo) (this : Nat) (attrs : Array Attribute := #[]) (ms : Array MethodInfo := #[]) (fl : Nat := 33) (sup : Nat := 0) (ifs : Array Nat := #[]) (fds : Array FieldInfo := #[]) : ClassFile where
  minorVersion := 0
  majorVersion := 65
  constantPool := pool
  accessFlags := fl
  thisClass := this
  superClass := sup
  interfaces := ifs
  fields := fds
  methods := ms
  attributes := attrs
def plain (name : String) (sup : Option ClassId) : Class where
  name := name
  kind := .ordinary
  loader := none
  accessFlags := 33
  super := sup
  interfaces := #[]
  cf := none
  fields := #[]
  methods := #[]
  instanceTypes := #[]
  staticTypes := #[]
  resolved := #[]
  callSites := []
  init := .initialized
  statics := none
  mirror := none

def pool0 : Array CpInfo := pool [(5, u "<init>"), (0, u "()V"), (1, .class_ 10), (1, u "java/lang/Object")] 113

def k0c0 : Code := { maxStack := 0, maxLocals := 1, code := object_method_1_code, exceptionTable := #[], attributes := #[] }
def k0m0 : Method := { name := "<init>", desc := "()V", sig := { parameters := [], returnType := none }, accessFlags := 1, code := some k0c0 }
/-- java/lang/Object -/
def k0 : Class := { plain "java/lang/Object" none with
  accessFlags := 33
  interfaces := #[]
  cf := some (fileOf pool0 8 #[] #[{ accessFlags := 1, nameIndex := 5, descriptorIndex := 6, attributes := #[] }] 33 0 #[] #[])
  fields := #[]
  methods := #[k0m0]
  instanceTypes := #[]
  staticTypes := #[]
  resolved := Array.replicate 124 none
  statics := none }

def pool1 : Array CpInfo := pool [(2, .class_ 4), (1, u "java/lang/Object"), (0, u "<init>"), (0, u "()V"), (0, .class_ 8), (0, u "java/lang/String"), (0, .methodref 7 10), (0, .nameAndType 5 11), (0, u "([C)V"), (0, .integer 65535), (0, .class_ 14), (0, u "com/example/slot_locator/slotlocator/cluster/NodeAddress"), (0, .methodref 13 16), (0, .nameAndType 5 17), (0, u "(Ljava/lang/String;I)V"), (0, .methodref 13 19), (0, .nameAndType 20 21), (0, u "equals"), (0, u "(Ljava/lang/Object;)Z"), (0, .class_ 23), (0, u "com/example/slot_locator/slotlocator/cluster/NodeAddressEqualsPinLaw"), (2, u "law"), (0, u "(IIIII)Z")] 3

def k1m0 : Method := { name := "<init>", desc := "()V", sig := { parameters := [], returnType := none }, accessFlags := 1, code := none }
def k1c1 : Code := { maxStack := 6, maxLocals := 20, code := code, exceptionTable := #[], attributes := #[] }
def k1m1 : Method := { name := "law", desc := "(IIIII)Z", sig := { parameters := [.int, .int, .int, .int, .int], returnType := some .boolean }, accessFlags := 9, code := some k1c1 }
/-- com/example/slot_locator/slotlocator/cluster/NodeAddressEqualsPinLaw -/
def k1 : Class := { plain "com/example/slot_locator/slotlocator/cluster/NodeAddressEqualsPinLaw" (some 0) with
  accessFlags := 49
  interfaces := #[]
  cf := some (fileOf pool1 22 #[] #[{ accessFlags := 1, nameIndex := 5, descriptorIndex := 6, attributes := #[] }, { accessFlags := 9, nameIndex := 26, descriptorIndex := 27, attributes := #[] }] 49 2 #[] #[])
  fields := #[]
  methods := #[k1m0, k1m1]
  instanceTypes := #[]
  staticTypes := #[]
  resolved := Array.replicate 31 none
  statics := none }

def pool2 : Array CpInfo := pool [(1, .class_ 2), (0, u "java/io/Serializable"), (0, .class_ 4), (0, u "java/lang/Object")] 2

/-- java/io/Serializable -/
def k2 : Class := { plain "java/io/Serializable" (some 0) with
  accessFlags := 1537
  interfaces := #[]
  cf := some (fileOf pool2 1 #[] #[] 1537 3 #[] #[])
  fields := #[]
  methods := #[]
  instanceTypes := #[]
  staticTypes := #[]
  resolved := Array.replicate 7 none
  statics := none }

def pool3 : Array CpInfo := pool [(1, .class_ 2), (0, u "java/lang/Comparable"), (0, .class_ 4), (0, u "java/lang/Object")] 7

/-- java/lang/Comparable -/
def k3 : Class := { plain "java/lang/Comparable" (some 0) with
  accessFlags := 1537
  interfaces := #[]
  cf := some (fileOf pool3 1 #[] #[] 1537 3 #[] #[])
  fields := #[]
  methods := #[]
  instanceTypes := #[]
  staticTypes := #[]
  resolved := Array.replicate 12 none
  statics := none }

def pool4 : Array CpInfo := pool [(2, .class_ 4), (1, u "java/lang/CharSequence"), (42, .class_ 48), (0, u "java/lang/CharSequence$1CodePointIterator"), (10, .class_ 60), (0, u "java/lang/CharSequence$1CharIterator"), (5, .class_ 67), (0, u "java/lang/Object")] 63

/-- java/lang/CharSequence -/
def k4 : Class := { plain "java/lang/CharSequence" (some 0) with
  accessFlags := 1537
  interfaces := #[]
  cf := some (fileOf pool4 2 #[.nestMembers #[47, 59]] #[] 1537 66 #[] #[])
  fields := #[]
  methods := #[]
  instanceTypes := #[]
  staticTypes := #[]
  resolved := Array.replicate 131 none
  statics := none }

def pool5 : Array CpInfo := pool [(1, .class_ 2), (0, u "java/lang/constant/Constable"), (0, .class_ 4), (0, u "java/lang/Object")] 6

/-- java/lang/constant/Constable -/
def k5 : Class := { plain "java/lang/constant/Constable" (some 0) with
  accessFlags := 1537
  interfaces := #[]
  cf := some (fileOf pool5 1 #[] #[] 1537 3 #[] #[])
  fields := #[]
  methods := #[]
  instanceTypes := #[]
  staticTypes := #[]
  resolved := Array.replicate 11 none
  statics := none }

def pool6 : Array CpInfo := pool [(1, .class_ 2), (0, u "java/lang/constant/ConstantDesc"), (0, .class_ 4), (0, u "java/lang/Object")] 32

/-- java/lang/constant/ConstantDesc -/
def k6 : Class := { plain "java/lang/constant/ConstantDesc" (some 0) with
  accessFlags := 1537
  interfaces := #[]
  cf := some (fileOf pool6 1 #[] #[] 1537 3 #[] #[])
  fields := #[]
  methods := #[]
  instanceTypes := #[]
  staticTypes := #[]
  resolved := Array.replicate 37 none
  statics := none }

def pool7 : Array CpInfo := pool [(1, .methodref 2 3), (0, .class_ 4), (0, .nameAndType 5 6), (0, u "java/lang/Object"), (0, u "<init>"), (0, u "()V"), (2, .fieldref 10 11), (0, .class_ 12), (0, .nameAndType 13 14), (0, u "java/lang/String"), (0, u "value"), (0, u "[B"), (0, .fieldref 10 16), (0, .nameAndType 17 18), (0, u "coder"), (0, u "B"), (2, u "hash"), (0, u "I"), (2, u "hashIsZero"), (0, u "Z"), (0, .methodref 10 28), (0, .nameAndType 5 29), (0, u "([CIILjava/lang/Void;)V"), (8, .fieldref 10 39), (0, .nameAndType 40 26), (0, u "COMPACT_STRINGS"), (1, .class_ 44), (1, u "java/lang/StringUTF16"), (0, u "compress"), (1, .methodref 42 48), (0, .nameAndType 49 50), (0, u "coderFromArrayLen"), (0, u "([BI)B"), (56, .class_ 109), (1, u "java/lang/StringLatin1"), (32, u "()Z"), (34, .methodref 42 178), (0, .nameAndType 45 179), (0, u "([CII)[B"), (361, .methodref 107 542), (0, .nameAndType 543 544), (0, u "equals"), (0, u "([B[B)Z"), (28, u "(Ljava/lang/Object;)Z"), (1, .class_ 576), (0, u "java/lang/CharSequence"), (22, u "CASE_INSENSITIVE_ORDER"), (0, u "Ljava/util/Comparator;"), (91, u "isEmpty"), (317, u "([C)V"), (90, u "serialPersistentFields"), (0, u "[Ljava/io/ObjectStreamField;"), (0, .class_ 1104), (0, u "java/lang/String$CaseInsensitiveComparator"), (1, .class_ 1107), (0, u "java/io/Serializable"), (0, .class_ 1109), (0, u "java/lang/Comparable"), (0, .class_ 1111), (0, u "java/lang/constant/Constable"), (0, .class_ 1113), (0, u "java/lang/constant/ConstantDesc"), (2, u "serialVersionUID"), (0, u "J"), (3, u "REPL"), (0, u "C"), (2, u "LATIN1"), (1, u "UTF16")] 323

def k7m0 : Method := { name := "<init>", desc := "()V", sig := { parameters := [], returnType := none }, accessFlags := 1, code := none }
def k7c1 : Code := { maxStack := 5, maxLocals := 2, code := jdk_42_method_3_code, exceptionTable := #[], attributes := #[] }
def k7m1 : Method := { name := "<init>", desc := "([C)V", sig := { parameters := [(.array .char)], returnType := none }, accessFlags := 1, code := some k7c1 }
def k7c2 : Code := { maxStack := 1, maxLocals := 1, code := jdk_42_method_55_code, exceptionTable := #[], attributes := #[] }
def k7m2 : Method := { name := "isEmpty", desc := "()Z", sig := { parameters := [], returnType := some .boolean }, accessFlags := 1, code := some k7c2 }
def k7c3 : Code := { maxStack := 2, maxLocals := 3, code := jdk_42_method_66_code, exceptionTable := #[], attributes := #[] }
def k7m3 : Method := { name := "equals", desc := "(Ljava/lang/Object;)Z", sig := { parameters := [(.object "java/lang/Object")], returnType := some .boolean }, accessFlags := 1, code := some k7c3 }
def k7c4 : Code := { maxStack := 4, maxLocals := 6, code := jdk_42_method_149_code, exceptionTable := #[], attributes := #[] }
def k7m4 : Method := { name := "<init>", desc := "([CIILjava/lang/Void;)V", sig := { parameters := [(.array .char), .int, .int, (.object "java/lang/Void")], returnType := none }, accessFlags := 2, code := some k7c4 }
/-- java/lang/String -/
def k7 : Class := { plain "java/lang/String" (some 0) with
  accessFlags := 49
  interfaces := #[2, 3, 4, 5, 6]
  cf := some (fileOf pool7 10 #[.nestMembers #[1103]] #[{ accessFlags := 1, nameIndex := 5, descriptorIndex := 6, attributes := #[] }, { accessFlags := 1, nameIndex := 5, descriptorIndex := 1010, attributes := #[] }, { accessFlags := 1, nameIndex := 692, descriptorIndex := 142, attributes := #[] }, { accessFlags := 1, nameIndex := 543, descriptorIndex := 573, attributes := #[] }, { accessFlags := 2, nameIndex := 5, descriptorIndex := 29, attributes := #[] }] 49 2 #[1106, 1108, 575, 1110, 1112] #[{ accessFlags := 18, nameIndex := 13, descriptorIndex := 14, attributes := #[] }, { accessFlags := 18, nameIndex := 17, descriptorIndex := 18, attributes := #[] }, { accessFlags := 2, nameIndex := 21, descriptorIndex := 22, attributes := #[] }, { accessFlags := 2, nameIndex := 25, descriptorIndex := 26, attributes := #[] }, { accessFlags := 26, nameIndex := 1116, descriptorIndex := 1117, attributes := #[] }, { accessFlags := 24, nameIndex := 40, descriptorIndex := 26, attributes := #[] }, { accessFlags := 26, nameIndex := 1101, descriptorIndex := 1102, attributes := #[] }, { accessFlags := 26, nameIndex := 1121, descriptorIndex := 1122, attributes := #[] }, { accessFlags := 25, nameIndex := 599, descriptorIndex := 600, attributes := #[] }, { accessFlags := 24, nameIndex := 1125, descriptorIndex := 18, attributes := #[] }, { accessFlags := 24, nameIndex := 1127, descriptorIndex := 18, attributes := #[] }])
  fields := #[{ name := "value", type := (.array .byte), accessFlags := 18, slot := 0, constantValue := 0 }, { name := "coder", type := .byte, accessFlags := 18, slot := 1, constantValue := 0 }, { name := "hash", type := .int, accessFlags := 2, slot := 2, constantValue := 0 }, { name := "hashIsZero", type := .boolean, accessFlags := 2, slot := 3, constantValue := 0 }, { name := "serialVersionUID", type := .long, accessFlags := 26, slot := 0, constantValue := 0 }, { name := "COMPACT_STRINGS", type := .boolean, accessFlags := 24, slot := 1, constantValue := 0 }, { name := "serialPersistentFields", type := (.array (.object "java/io/ObjectStreamField")), accessFlags := 26, slot := 2, constantValue := 0 }, { name := "REPL", type := .char, accessFlags := 26, slot := 3, constantValue := 0 }, { name := "CASE_INSENSITIVE_ORDER", type := (.object "java/util/Comparator"), accessFlags := 25, slot := 4, constantValue := 0 }, { name := "LATIN1", type := .byte, accessFlags := 24, slot := 5, constantValue := 0 }, { name := "UTF16", type := .byte, accessFlags := 24, slot := 6, constantValue := 0 }]
  methods := #[k7m0, k7m1, k7m2, k7m3, k7m4]
  instanceTypes := #[(.array .byte), .byte, .int, .boolean]
  staticTypes := #[.long, .boolean, (.array (.object "java/io/ObjectStreamField")), .char, (.object "java/util/Comparator"), .byte, .byte]
  resolved := Array.replicate 1451 none
  statics := some 0 }

def pool8 : Array CpInfo := pool [(6, .class_ 8), (1, u "java/lang/Object"), (0, u "<init>"), (0, u "()V"), (1, .class_ 14), (1, u "java/lang/StringUTF16"), (31, u "$assertionsDisabled"), (0, u "Z"), (13, u "HI_BYTE_SHIFT"), (0, u "I"), (2, u "LO_BYTE_SHIFT"), (49, .methodref 12 116), (0, .nameAndType 117 118), (0, u "compress"), (0, u "([CI[BII)I"), (3, u "([CII)[B"), (138, u "coderFromArrayLen"), (0, u "([BI)B"), (106, .class_ 371), (1, u "java/lang/StringUTF16$LinesSpliterator"), (58, u "MAX_LENGTH"), (196, .class_ 628), (0, u "java/lang/StringUTF16$CodePointsSpliterator"), (0, .class_ 630), (0, u "java/lang/StringUTF16$CharsSpliterator")] 4

def k8m0 : Method := { name := "<init>", desc := "()V", sig := { parameters := [], returnType := none }, accessFlags := 0, code := none }
def k8c1 : Code := { maxStack := 2, maxLocals := 2, code := jdk_52_method_15_code, exceptionTable := #[], attributes := #[] }
def k8m1 : Method := { name := "coderFromArrayLen", desc := "([BI)B", sig := { parameters := [(.array .byte), .int], returnType := some .byte }, accessFlags := 8, code := some k8c1 }
def k8c2 : Code := { maxStack := 5, maxLocals := 6, code := jdk_52_method_16_code, exceptionTable := #[], attributes := #[] }
def k8m2 : Method := { name := "compress", desc := "([CII)[B", sig := { parameters := [(.array .char), .int, .int], returnType := some (.array .byte) }, accessFlags := 9, code := some k8c2 }
def k8c3 : Code := { maxStack := 3, maxLocals := 7, code := jdk_52_method_21_code, exceptionTable := #[], attributes := #[] }
def k8m3 : Method := { name := "compress", desc := "([CI[BII)I", sig := { parameters := [(.array .char), .int, (.array .byte), .int, .int], returnType := some .int }, accessFlags := 9, code := some k8c3 }
/-- java/lang/StringUTF16 -/
def k8 : Class := { plain "java/lang/StringUTF16" (some 0) with
  accessFlags := 48
  interfaces := #[]
  cf := some (fileOf pool8 12 #[.nestMembers #[627, 629, 369]] #[{ accessFlags := 0, nameIndex := 9, descriptorIndex := 10, attributes := #[] }, { accessFlags := 8, nameIndex := 261, descriptorIndex := 262, attributes := #[] }, { accessFlags := 9, nameIndex := 117, descriptorIndex := 122, attributes := #[] }, { accessFlags := 9, nameIndex := 117, descriptorIndex := 118, attributes := #[] }] 48 6 #[] #[{ accessFlags := 26, nameIndex := 61, descriptorIndex := 62, attributes := #[] }, { accessFlags := 26, nameIndex := 65, descriptorIndex := 62, attributes := #[] }, { accessFlags := 24, nameIndex := 430, descriptorIndex := 62, attributes := #[] }, { accessFlags := 4120, nameIndex := 46, descriptorIndex := 47, attributes := #[] }])
  fields := #[{ name := "HI_BYTE_SHIFT", type := .int, accessFlags := 26, slot := 0, constantValue := 0 }, { name := "LO_BYTE_SHIFT", type := .int, accessFlags := 26, slot := 1, constantValue := 0 }, { name := "MAX_LENGTH", type := .int, accessFlags := 24, slot := 2, constantValue := 0 }, { name := "$assertionsDisabled", type := .boolean, accessFlags := 4120, slot := 3, constantValue := 0 }]
  methods := #[k8m0, k8m1, k8m2, k8m3]
  instanceTypes := #[]
  staticTypes := #[.int, .int, .int, .boolean]
  resolved := Array.replicate 635 none
  statics := none }

def pool9 : Array CpInfo := pool [(1, .methodref 2 3), (0, .class_ 4), (0, .nameAndType 5 6), (0, u "java/lang/Object"), (0, u "<init>"), (0, u "()V"), (0, .string 8), (0, u "host"), (0, .methodref 10 11), (0, .class_ 12), (0, .nameAndType 13 14), (0, u "java/util/Objects"), (0, u "requireNonNull"), (0, u "(Ljava/lang/Object;Ljava/lang/String;)Ljava/lang/Object;"), (0, .methodref 16 17), (0, .class_ 18), (0, .nameAndType 19 20), (0, u "java/lang/String"), (0, u "isEmpty"), (0, u "()Z"), (0, .class_ 22), (0, u "com/example/slot_locator/slotlocator/cluster/NodeAddress"), (0, .integer 65535), (9, .fieldref 21 34), (0, .nameAndType 8 35), (0, u "Ljava/lang/String;"), (0, .fieldref 21 37), (0, .nameAndType 38 39), (0, u "port"), (0, u "I"), (2, u "WRITTEN"), (0, u "Ljava/util/regex/Pattern;"), (26, u "(Ljava/lang/String;I)V"), (0, .methodref 16 72), (0, .nameAndType 73 74), (0, u "equals"), (0, u "(Ljava/lang/Object;)Z"), (15, u "MAX_PORT")] 32

def k9c0 : Code := { maxStack := 4, maxLocals := 3, code := prog_45_method_1_code, exceptionTable := #[], attributes := #[] }
def k9m0 : Method := { name := "<init>", desc := "(Ljava/lang/String;I)V", sig := { parameters := [(.object "java/lang/String"), .int], returnType := none }, accessFlags := 1, code := some k9c0 }
def k9c1 : Code := { maxStack := 2, maxLocals := 3, code := prog_45_method_5_code, exceptionTable := #[], attributes := #[] }
def k9m1 : Method := { name := "equals", desc := "(Ljava/lang/Object;)Z", sig := { parameters := [(.object "java/lang/Object")], returnType := some .boolean }, accessFlags := 1, code := some k9c1 }
/-- com/example/slot_locator/slotlocator/cluster/NodeAddress -/
def k9 : Class := { plain "com/example/slot_locator/slotlocator/cluster/NodeAddress" (some 0) with
  accessFlags := 33
  interfaces := #[]
  cf := some (fileOf pool9 21 #[] #[{ accessFlags := 1, nameIndex := 5, descriptorIndex := 70, attributes := #[] }, { accessFlags := 1, nameIndex := 73, descriptorIndex := 74, attributes := #[] }] 33 2 #[] #[{ accessFlags := 26, nameIndex := 42, descriptorIndex := 43, attributes := #[] }, { accessFlags := 24, nameIndex := 90, descriptorIndex := 39, attributes := #[] }, { accessFlags := 18, nameIndex := 8, descriptorIndex := 35, attributes := #[] }, { accessFlags := 18, nameIndex := 38, descriptorIndex := 39, attributes := #[] }])
  fields := #[{ name := "WRITTEN", type := (.object "java/util/regex/Pattern"), accessFlags := 26, slot := 0, constantValue := 0 }, { name := "MAX_PORT", type := .int, accessFlags := 24, slot := 1, constantValue := 0 }, { name := "host", type := (.object "java/lang/String"), accessFlags := 18, slot := 0, constantValue := 0 }, { name := "port", type := .int, accessFlags := 18, slot := 1, constantValue := 0 }]
  methods := #[k9m0, k9m1]
  instanceTypes := #[(.object "java/lang/String"), .int]
  staticTypes := #[(.object "java/util/regex/Pattern"), .int]
  resolved := Array.replicate 123 none
  statics := none }

def pool10 : Array CpInfo := pool [(2, .class_ 4), (1, u "java/lang/Object"), (0, u "<init>"), (0, u "()V"), (35, .class_ 44), (1, u "java/util/Objects"), (0, u "requireNonNull"), (48, u "(Ljava/lang/Object;Ljava/lang/String;)Ljava/lang/Object;")] 89

def k10m0 : Method := { name := "<init>", desc := "()V", sig := { parameters := [], returnType := none }, accessFlags := 2, code := none }
def k10c1 : Code := { maxStack := 3, maxLocals := 2, code := jdk_31_method_11_code, exceptionTable := #[], attributes := #[] }
def k10m1 : Method := { name := "requireNonNull", desc := "(Ljava/lang/Object;Ljava/lang/String;)Ljava/lang/Object;", sig := { parameters := [(.object "java/lang/Object"), (.object "java/lang/String")], returnType := some (.object "java/lang/Object") }, accessFlags := 9, code := some k10c1 }
/-- java/util/Objects -/
def k10 : Class := { plain "java/util/Objects" (some 0) with
  accessFlags := 49
  interfaces := #[]
  cf := some (fileOf pool10 42 #[] #[{ accessFlags := 2, nameIndex := 5, descriptorIndex := 6, attributes := #[] }, { accessFlags := 9, nameIndex := 45, descriptorIndex := 94, attributes := #[] }] 49 2 #[] #[])
  fields := #[]
  methods := #[k10m0, k10m1]
  instanceTypes := #[]
  staticTypes := #[]
  resolved := Array.replicate 184 none
  statics := none }

def pool11 : Array CpInfo := pool [(4, .class_ 6), (1, u "java/lang/Object"), (0, u "<init>"), (0, u "()V"), (5, .class_ 16), (1, u "java/lang/StringLatin1"), (104, u "$assertionsDisabled"), (0, u "Z"), (98, .class_ 223), (1, u "java/lang/StringLatin1$LinesSpliterator"), (57, u "equals"), (0, u "([B[B)Z"), (107, .class_ 391), (0, u "java/lang/StringLatin1$CharsSpliterator")] 3

def k11m0 : Method := { name := "<init>", desc := "()V", sig := { parameters := [], returnType := none }, accessFlags := 0, code := none }
def k11c1 : Code := { maxStack := 3, maxLocals := 3, code := jdk_43_method_13_code, exceptionTable := #[], attributes := #[] }
def k11m1 : Method := { name := "equals", desc := "([B[B)Z", sig := { parameters := [(.array .byte), (.array .byte)], returnType := some .boolean }, accessFlags := 9, code := some k11c1 }
/-- java/lang/StringLatin1 -/
def k11 : Class := { plain "java/lang/StringLatin1" (some 0) with
  accessFlags := 48
  interfaces := #[]
  cf := some (fileOf pool11 14 #[.nestMembers #[390, 221]] #[{ accessFlags := 0, nameIndex := 7, descriptorIndex := 8, attributes := #[] }, { accessFlags := 9, nameIndex := 281, descriptorIndex := 282, attributes := #[] }] 48 4 #[] #[{ accessFlags := 4120, nameIndex := 121, descriptorIndex := 122, attributes := #[] }])
  fields := #[{ name := "$assertionsDisabled", type := .boolean, accessFlags := 4120, slot := 0, constantValue := 0 }]
  methods := #[k11m0, k11m1]
  instanceTypes := #[]
  staticTypes := #[.boolean]
  resolved := Array.replicate 395 none
  statics := none }

def pool12 : Array CpInfo := pool [(2, .class_ 4), (1, u "java/lang/Object"), (0, u "<init>"), (0, u "()V"), (17, .class_ 26), (1, u "jdk/internal/util/Preconditions"), (28, .class_ 56), (0, u "jdk/internal/util/Preconditions$4"), (57, .class_ 115), (0, u "jdk/internal/util/Preconditions$1"), (7, u "SIOOBE_FORMATTER"), (0, u "Ljava/util/function/BiFunction;"), (0, .class_ 126), (0, u "jdk/internal/util/Preconditions$2"), (3, u "AIOOBE_FORMATTER"), (0, .class_ 132), (0, u "jdk/internal/util/Preconditions$3"), (3, u "IOOBE_FORMATTER")] 57

def k12m0 : Method := { name := "<init>", desc := "()V", sig := { parameters := [], returnType := none }, accessFlags := 1, code := none }
/-- jdk/internal/util/Preconditions -/
def k12 : Class := { plain "jdk/internal/util/Preconditions" (some 0) with
  accessFlags := 33
  interfaces := #[]
  cf := some (fileOf pool12 24 #[.nestMembers #[55, 131, 125, 114]] #[{ accessFlags := 1, nameIndex := 5, descriptorIndex := 6, attributes := #[] }] 33 2 #[] #[{ accessFlags := 25, nameIndex := 123, descriptorIndex := 124, attributes := #[] }, { accessFlags := 25, nameIndex := 130, descriptorIndex := 124, attributes := #[] }, { accessFlags := 25, nameIndex := 136, descriptorIndex := 124, attributes := #[] }])
  fields := #[{ name := "SIOOBE_FORMATTER", type := (.object "java/util/function/BiFunction"), accessFlags := 25, slot := 0, constantValue := 0 }, { name := "AIOOBE_FORMATTER", type := (.object "java/util/function/BiFunction"), accessFlags := 25, slot := 1, constantValue := 0 }, { name := "IOOBE_FORMATTER", type := (.object "java/util/function/BiFunction"), accessFlags := 25, slot := 2, constantValue := 0 }]
  methods := #[k12m0]
  instanceTypes := #[]
  staticTypes := #[(.object "java/util/function/BiFunction"), (.object "java/util/function/BiFunction"), (.object "java/util/function/BiFunction")]
  resolved := Array.replicate 194 none
  statics := some 1 }

def pool13 : Array CpInfo := pool [(9, u "<init>"), (6, .class_ 18), (1, u "java/lang/Object"), (0, u "()V"), (1, .class_ 23), (1, u "jdk/internal/util/ArraysSupport"), (0, u "LOG2_ARRAY_LONG_INDEX_SCALE"), (0, u "I"), (2, u "U"), (0, u "Ljdk/internal/misc/Unsafe;"), (8, u "BIG_ENDIAN"), (0, u "Z"), (8, u "LOG2_BYTE_BIT_SIZE"), (4, u "LOG2_ARRAY_INT_INDEX_SCALE"), (54, u "JLA"), (0, u "Ljdk/internal/access/JavaLangAccess;"), (11, u "LOG2_ARRAY_BOOLEAN_INDEX_SCALE"), (9, u "LOG2_ARRAY_BYTE_INDEX_SCALE"), (5, u "LOG2_ARRAY_CHAR_INDEX_SCALE"), (5, u "LOG2_ARRAY_SHORT_INDEX_SCALE"), (18, u "LOG2_ARRAY_FLOAT_INDEX_SCALE"), (24, u "LOG2_ARRAY_DOUBLE_INDEX_SCALE"), (89, u "T_BOOLEAN"), (2, u "T_CHAR"), (1, u "T_FLOAT"), (1, u "T_DOUBLE"), (1, u "T_BYTE"), (1, u "T_SHORT"), (1, u "T_INT"), (1, u "T_LONG"), (1, u "SOFT_MAX_ARRAY_LENGTH")] 83

def k13m0 : Method := { name := "<init>", desc := "()V", sig := { parameters := [], returnType := none }, accessFlags := 2, code := none }
/-- jdk/internal/util/ArraysSupport -/
def k13 : Class := { plain "jdk/internal/util/ArraysSupport" (some 0) with
  accessFlags := 33
  interfaces := #[]
  cf := some (fileOf pool13 21 #[] #[{ accessFlags := 2, nameIndex := 9, descriptorIndex := 19, attributes := #[] }] 33 16 #[] #[{ accessFlags := 24, nameIndex := 28, descriptorIndex := 29, attributes := #[] }, { accessFlags := 26, nameIndex := 38, descriptorIndex := 39, attributes := #[] }, { accessFlags := 25, nameIndex := 121, descriptorIndex := 25, attributes := #[] }, { accessFlags := 25, nameIndex := 131, descriptorIndex := 25, attributes := #[] }, { accessFlags := 25, nameIndex := 137, descriptorIndex := 25, attributes := #[] }, { accessFlags := 25, nameIndex := 143, descriptorIndex := 25, attributes := #[] }, { accessFlags := 25, nameIndex := 53, descriptorIndex := 25, attributes := #[] }, { accessFlags := 25, nameIndex := 24, descriptorIndex := 25, attributes := #[] }, { accessFlags := 25, nameIndex := 162, descriptorIndex := 25, attributes := #[] }, { accessFlags := 25, nameIndex := 187, descriptorIndex := 25, attributes := #[] }, { accessFlags := 26, nameIndex := 48, descriptorIndex := 25, attributes := #[] }, { accessFlags := 25, nameIndex := 277, descriptorIndex := 25, attributes := #[] }, { accessFlags := 25, nameIndex := 280, descriptorIndex := 25, attributes := #[] }, { accessFlags := 25, nameIndex := 282, descriptorIndex := 25, attributes := #[] }, { accessFlags := 25, nameIndex := 284, descriptorIndex := 25, attributes := #[] }, { accessFlags := 25, nameIndex := 286, descriptorIndex := 25, attributes := #[] }, { accessFlags := 25, nameIndex := 288, descriptorIndex := 25, attributes := #[] }, { accessFlags := 25, nameIndex := 290, descriptorIndex := 25, attributes := #[] }, { accessFlags := 25, nameIndex := 292, descriptorIndex := 25, attributes := #[] }, { accessFlags := 26, nameIndex := 108, descriptorIndex := 109, attributes := #[] }, { accessFlags := 25, nameIndex := 294, descriptorIndex := 25, attributes := #[] }])
  fields := #[{ name := "U", type := (.object "jdk/internal/misc/Unsafe"), accessFlags := 24, slot := 0, constantValue := 0 }, { name := "BIG_ENDIAN", type := .boolean, accessFlags := 26, slot := 1, constantValue := 0 }, { name := "LOG2_ARRAY_BOOLEAN_INDEX_SCALE", type := .int, accessFlags := 25, slot := 2, constantValue := 0 }, { name := "LOG2_ARRAY_BYTE_INDEX_SCALE", type := .int, accessFlags := 25, slot := 3, constantValue := 0 }, { name := "LOG2_ARRAY_CHAR_INDEX_SCALE", type := .int, accessFlags := 25, slot := 4, constantValue := 0 }, { name := "LOG2_ARRAY_SHORT_INDEX_SCALE", type := .int, accessFlags := 25, slot := 5, constantValue := 0 }, { name := "LOG2_ARRAY_INT_INDEX_SCALE", type := .int, accessFlags := 25, slot := 6, constantValue := 0 }, { name := "LOG2_ARRAY_LONG_INDEX_SCALE", type := .int, accessFlags := 25, slot := 7, constantValue := 0 }, { name := "LOG2_ARRAY_FLOAT_INDEX_SCALE", type := .int, accessFlags := 25, slot := 8, constantValue := 0 }, { name := "LOG2_ARRAY_DOUBLE_INDEX_SCALE", type := .int, accessFlags := 25, slot := 9, constantValue := 0 }, { name := "LOG2_BYTE_BIT_SIZE", type := .int, accessFlags := 26, slot := 10, constantValue := 0 }, { name := "T_BOOLEAN", type := .int, accessFlags := 25, slot := 11, constantValue := 0 }, { name := "T_CHAR", type := .int, accessFlags := 25, slot := 12, constantValue := 0 }, { name := "T_FLOAT", type := .int, accessFlags := 25, slot := 13, constantValue := 0 }, { name := "T_DOUBLE", type := .int, accessFlags := 25, slot := 14, constantValue := 0 }, { name := "T_BYTE", type := .int, accessFlags := 25, slot := 15, constantValue := 0 }, { name := "T_SHORT", type := .int, accessFlags := 25, slot := 16, constantValue := 0 }, { name := "T_INT", type := .int, accessFlags := 25, slot := 17, constantValue := 0 }, { name := "T_LONG", type := .int, accessFlags := 25, slot := 18, constantValue := 0 }, { name := "JLA", type := (.object "jdk/internal/access/JavaLangAccess"), accessFlags := 26, slot := 19, constantValue := 0 }, { name := "SOFT_MAX_ARRAY_LENGTH", type := .int, accessFlags := 25, slot := 20, constantValue := 0 }]
  methods := #[k13m0]
  instanceTypes := #[]
  staticTypes := #[(.object "jdk/internal/misc/Unsafe"), .boolean, .int, .int, .int, .int, .int, .int, .int, .int, .int, .int, .int, .int, .int, .int, .int, .int, .int, (.object "jdk/internal/access/JavaLangAccess"), .int]
  resolved := Array.replicate 378 none
  statics := none }

def pool14 : Array CpInfo := pool [(1, u "java/lang/Cloneable"), (0, .class_ 1), (0, u "java/lang/Object"), (0, .class_ 3)] 3

/-- java/lang/Cloneable -/
def k14 : Class := { plain "java/lang/Cloneable" (some 0) with
  accessFlags := 1537
  interfaces := #[]
  cf := some (fileOf pool14 2 #[] #[] 1537 4 #[] #[])
  fields := #[]
  methods := #[]
  instanceTypes := #[]
  staticTypes := #[]
  resolved := Array.replicate 8 none
  statics := none }

/-- the primitive byte -/
def k15 : Class := { plain "byte" none with kind := .primitive 'B', accessFlags := 0x411 }
/-- [B -/
def k16 : Class := { plain "[B" (some 0) with kind := .array 15 .byte, interfaces := #[14, 2], accessFlags := 1041 }

/-- the primitive char -/
def k17 : Class := { plain "char" none with kind := .primitive 'C', accessFlags := 0x411 }
/-- [C -/
def k18 : Class := { plain "[C" (some 0) with kind := .array 17 .char, interfaces := #[14, 2], accessFlags := 1041 }

/-- the primitive int -/
def k19 : Class := { plain "int" none with kind := .primitive 'I', accessFlags := 0x411 }
/-- [I -/
def k20 : Class := { plain "[I" (some 0) with kind := .array 19 .int, interfaces := #[14, 2], accessFlags := 1041 }

def heap : Heap := #[{ cls := 7, slots := #[.long 0, .int 1, .null, .int 0, .null, .int 0, .int 0], vm := .statics 7 },
  { cls := 12, slots := #[.null, .null, .null], vm := .statics 12 }]
def classes : Array Class := #[k0, k1, k2, k3, k4, k5, k6, k7, k8, k9, k10, k11, k12, k13, k14, k15, k16, k17, k18, k19, k20]
def interned : List (Array UInt16 × Addr) := []
def slotsUsed : Nat := 10
def theMethod : MethodId := ⟨1, 1⟩
def args0 : Array Value := #[.int 5, .int 5, .int 5, .int 5, .int 5]
def aboutOver (below : List Frame) : State where
  vm := { classes := classes, interned := interned.toArray }
  heap := heap
  slotsUsed := slotsUsed
  threads := #[{ frames := .invoking theMethod args0 :: below }]
def below0 : List Frame := [.native { method := ⟨0, 0⟩, args := #[] }]
def about1 : State := aboutOver below0
def p0 : Program := .bare "" "" ""
def e0 : Env := launch0.env 0 0 0
theorem w_frames : about1.frames = Frame.invoking theMethod args0 :: below0 := rfl
set_option maxRecDepth 65536 in
theorem w_args : argsFit about1.vm theMethod args0 = true := by decide +kernel
set_option maxRecDepth 65536 in
theorem w_heap : heapFits about1 = true := by decide +kernel
set_option maxRecDepth 65536 in
theorem w_runnable : about1.curStatus? = some .runnable := by decide +kernel
set_option maxRecDepth 65536 in
theorem w_alone : about1.alone = true := by decide +kernel
set_option maxRecDepth 65536 in
theorem w_named : about1.methodNamed? x = some theMethod := by decide +kernel
set_option maxRecDepth 65536 in
theorem w_hears : about1.hears theMethod below0 = true := by decide +kernel
set_option maxRecDepth 65536 in
theorem w_ripe : about1.ripe theMethod args0 below0 = true := by decide +kernel
theorem w_running : about1.status = .running := rfl
set_option maxRecDepth 65536 in
theorem w_room : about1.hasRoom e0.platform room_1 = true :=
  launch0.hasRoom_least _ room_1 (by decide +kernel) (by decide +kernel) (by decide +kernel) (by decide +kernel) (by decide +kernel) (by decide +kernel)
theorem allAtoms_all (ts : List Jvm.Cond) (a : Array Jvm.Value) (st : Jvm.State) : (allAtoms ts).before a st = ts.all (fun c => c.before a st) := by
  induction ts with
  | nil => rfl
  | cons c t ih =>
    show (Jvm.Cond.and c (allAtoms t)).before a st = _
    rw [Jvm.Cond.before_and, ih, List.all_cons]
def words1 : List Jvm.Cond := Jvm.Cond.code x code maxLocals ret :: tables_1
/-- a 'code' word, met by the world's own term for the bytes: nothing is compared byte by byte -/
theorem code_word {y : MethodName} {bytes : ByteArray} {mx : Nat} {rt : Option FieldType} {a : Array Value} {s : State} {m : MethodId} {meth : Method} {c : Code} (h1 : s.methodNamed? y = some m) (h2 : s.vm.method? m = some meth) (h3 : meth.code = some c) (h4 : c.code = bytes)
    (h5 : (c.maxLocals == mx && c.exceptionTable.isEmpty && decide (c.maxStack ≤ mostOperands) && decide (meth.sig.returnType = rt) && !meth.locks && decide (parseMethodDescriptor y.desc = some meth.sig)) = true) : (Jvm.Cond.code y bytes mx rt).before a s = true := by
  simp only [Bool.and_eq_true, beq_iff_eq, Bool.not_eq_true', decide_eq_true_eq] at h5
  obtain ⟨⟨⟨⟨⟨g1, g2⟩, g3⟩, g4⟩, g5⟩, g6⟩ := h5
  simp [Cond.before, Cond.holds, Cond.value, h1, h2, h3, h4, g1, g2, g3, g4, g5, g6]
def isCode : Jvm.Cond → Bool
  | .code _ _ _ _ => true
  | _ => false
theorem all_split {L : List Jvm.Cond} {P : Jvm.Cond → Bool} (h1 : L.all (fun c => isCode c || P c) = true) (h2 : ∀ c ∈ L.filter isCode, P c = true) : L.all P = true := by
  refine List.all_eq_true.mpr fun c hc => ?_
  have h := List.all_eq_true.mp h1 c hc
  rcases Bool.eq_false_or_eq_true (isCode c) with hi | hi
  · exact h2 c (List.mem_filter.mpr ⟨hc, hi⟩)
  · simpa [hi] using h
set_option maxRecDepth 65536 in
theorem w_c0 : (Jvm.Cond.code x code maxLocals ret).before args0 about1 = true := code_word (m := ⟨1, 1⟩) (meth := k1m1) (c := k1c1) (by decide +kernel) rfl rfl rfl (by decide +kernel)
set_option maxRecDepth 65536 in
theorem w_c1 : (Jvm.Cond.code ({ cls := "java/lang/String", name := "<init>", desc := "([C)V" } : Jvm.MethodName) jdk_42_method_3_code (2 : Nat) (Option.none : Option Jvm.ClassFile.FieldType)).before args0 about1 = true := code_word (m := ⟨7, 1⟩) (meth := k7m1) (c := k7c1) (by decide +kernel) rfl rfl rfl (by decide +kernel)
set_option maxRecDepth 65536 in
theorem w_c2 : (Jvm.Cond.code ({ cls := "java/lang/String", name := "<init>", desc := "([CIILjava/lang/Void;)V" } : Jvm.MethodName) jdk_42_method_149_code (6 : Nat) (Option.none : Option Jvm.ClassFile.FieldType)).before args0 about1 = true := code_word (m := ⟨7, 4⟩) (meth := k7m4) (c := k7c4) (by decide +kernel) rfl rfl rfl (by decide +kernel)
set_option maxRecDepth 65536 in
theorem w_c3 : (Jvm.Cond.code ({ cls := "java/lang/Object", name := "<init>", desc := "()V" } : Jvm.MethodName) object_method_1_code (1 : Nat) (Option.none : Option Jvm.ClassFile.FieldType)).before args0 about1 = true := code_word (m := ⟨0, 0⟩) (meth := k0m0) (c := k0c0) (by decide +kernel) rfl rfl rfl (by decide +kernel)
set_option maxRecDepth 65536 in
theorem w_c4 : (Jvm.Cond.code ({ cls := "java/lang/StringUTF16", name := "compress", desc := "([CII)[B" } : Jvm.MethodName) jdk_52_method_16_code (6 : Nat) (Option.some (Jvm.ClassFile.FieldType.array Jvm.ClassFile.FieldType.byte))).before args0 about1 = true := code_word (m := ⟨8, 2⟩) (meth := k8m2) (c := k8c2) (by decide +kernel) rfl rfl rfl (by decide +kernel)
set_option maxRecDepth 65536 in
theorem w_c5 : (Jvm.Cond.code ({ cls := "java/lang/StringUTF16", name := "compress", desc := "([CI[BII)I" } : Jvm.MethodName) jdk_52_method_21_code (7 : Nat) (Option.some Jvm.ClassFile.FieldType.int)).before args0 about1 = true := code_word (m := ⟨8, 3⟩) (meth := k8m3) (c := k8c3) (by decide +kernel) rfl rfl rfl (by decide +kernel)
set_option maxRecDepth 65536 in
theorem w_c6 : (Jvm.Cond.code ({ cls := "java/lang/StringUTF16", name := "coderFromArrayLen", desc := "([BI)B" } : Jvm.MethodName) jdk_52_method_15_code (2 : Nat) (Option.some Jvm.ClassFile.FieldType.byte)).before args0 about1 = true := code_word (m := ⟨8, 1⟩) (meth := k8m1) (c := k8c1) (by decide +kernel) rfl rfl rfl (by decide +kernel)
set_option maxRecDepth 65536 in
theorem w_c7 : (Jvm.Cond.code ({ cls := "com/example/slot_locator/slotlocator/cluster/NodeAddress", name := "<init>", desc := "(Ljava/lang/String;I)V" } : Jvm.MethodName) prog_45_method_1_code (3 : Nat) (Option.none : Option Jvm.ClassFile.FieldType)).before args0 about1 = true := code_word (m := ⟨9, 0⟩) (meth := k9m0) (c := k9c0) (by decide +kernel) rfl rfl rfl (by decide +kernel)
set_option maxRecDepth 65536 in
theorem w_c8 : (Jvm.Cond.code ({ cls := "java/util/Objects", name := "requireNonNull", desc := "(Ljava/lang/Object;Ljava/lang/String;)Ljava/lang/Object;" } : Jvm.MethodName) jdk_31_method_11_code (2 : Nat) (Option.some (Jvm.ClassFile.FieldType.object "java/lang/Object"))).before args0 about1 = true := code_word (m := ⟨10, 1⟩) (meth := k10m1) (c := k10c1) (by decide +kernel) rfl rfl rfl (by decide +kernel)
set_option maxRecDepth 65536 in
theorem w_c9 : (Jvm.Cond.code ({ cls := "java/lang/String", name := "isEmpty", desc := "()Z" } : Jvm.MethodName) jdk_42_method_55_code (1 : Nat) (Option.some Jvm.ClassFile.FieldType.boolean)).before args0 about1 = true := code_word (m := ⟨7, 2⟩) (meth := k7m2) (c := k7c2) (by decide +kernel) rfl rfl rfl (by decide +kernel)
set_option maxRecDepth 65536 in
theorem w_c10 : (Jvm.Cond.code ({ cls := "com/example/slot_locator/slotlocator/cluster/NodeAddress", name := "equals", desc := "(Ljava/lang/Object;)Z" } : Jvm.MethodName) prog_45_method_5_code (3 : Nat) (Option.some Jvm.ClassFile.FieldType.boolean)).before args0 about1 = true := code_word (m := ⟨9, 1⟩) (meth := k9m1) (c := k9c1) (by decide +kernel) rfl rfl rfl (by decide +kernel)
set_option maxRecDepth 65536 in
theorem w_c11 : (Jvm.Cond.code ({ cls := "java/lang/String", name := "equals", desc := "(Ljava/lang/Object;)Z" } : Jvm.MethodName) jdk_42_method_66_code (3 : Nat) (Option.some Jvm.ClassFile.FieldType.boolean)).before args0 about1 = true := code_word (m := ⟨7, 3⟩) (meth := k7m3) (c := k7c3) (by decide +kernel) rfl rfl rfl (by decide +kernel)
set_option maxRecDepth 65536 in
theorem w_c12 : (Jvm.Cond.code ({ cls := "java/lang/StringLatin1", name := "equals", desc := "([B[B)Z" } : Jvm.MethodName) jdk_43_method_13_code (3 : Nat) (Option.some Jvm.ClassFile.FieldType.boolean)).before args0 about1 = true := code_word (m := ⟨11, 1⟩) (meth := k11m1) (c := k11c1) (by decide +kernel) rfl rfl rfl (by decide +kernel)
def codes1 : List Jvm.Cond := [Jvm.Cond.code x code maxLocals ret, Jvm.Cond.code ({ cls := "java/lang/String", name := "<init>", desc := "([C)V" } : Jvm.MethodName) jdk_42_method_3_code (2 : Nat) (Option.none : Option Jvm.ClassFile.FieldType), Jvm.Cond.code ({ cls := "java/lang/String", name := "<init>", desc := "([CIILjava/lang/Void;)V" } : Jvm.MethodName) jdk_42_method_149_code (6 : Nat) (Option.none : Option Jvm.ClassFile.FieldType), Jvm.Cond.code ({ cls := "java/lang/Object", name := "<init>", desc := "()V" } : Jvm.MethodName) object_method_1_code (1 : Nat) (Option.none : Option Jvm.ClassFile.FieldType), Jvm.Cond.code ({ cls := "java/lang/StringUTF16", name := "compress", desc := "([CII)[B" } : Jvm.MethodName) jdk_52_method_16_code (6 : Nat) (Option.some (Jvm.ClassFile.FieldType.array Jvm.ClassFile.FieldType.byte)), Jvm.Cond.code ({ cls := "java/lang/StringUTF16", name := "compress", desc := "([CI[BII)I" } : Jvm.MethodName) jdk_52_method_21_code (7 : Nat) (Option.some Jvm.ClassFile.FieldType.int), Jvm.Cond.code ({ cls := "java/lang/StringUTF16", name := "coderFromArrayLen", desc := "([BI)B" } : Jvm.MethodName) jdk_52_method_15_code (2 : Nat) (Option.some Jvm.ClassFile.FieldType.byte), Jvm.Cond.code ({ cls := "com/example/slot_locator/slotlocator/cluster/NodeAddress", name := "<init>", desc := "(Ljava/lang/String;I)V" } : Jvm.MethodName) prog_45_method_1_code (3 : Nat) (Option.none : Option Jvm.ClassFile.FieldType), Jvm.Cond.code ({ cls := "java/util/Objects", name := "requireNonNull", desc := "(Ljava/lang/Object;Ljava/lang/String;)Ljava/lang/Object;" } : Jvm.MethodName) jdk_31_method_11_code (2 : Nat) (Option.some (Jvm.ClassFile.FieldType.object "java/lang/Object")), Jvm.Cond.code ({ cls := "java/lang/String", name := "isEmpty", desc := "()Z" } : Jvm.MethodName) jdk_42_method_55_code (1 : Nat) (Option.some Jvm.ClassFile.FieldType.boolean), Jvm.Cond.code ({ cls := "com/example/slot_locator/slotlocator/cluster/NodeAddress", name := "equals", desc := "(Ljava/lang/Object;)Z" } : Jvm.MethodName) prog_45_method_5_code (3 : Nat) (Option.some Jvm.ClassFile.FieldType.boolean), Jvm.Cond.code ({ cls := "java/lang/String", name := "equals", desc := "(Ljava/lang/Object;)Z" } : Jvm.MethodName) jdk_42_method_66_code (3 : Nat) (Option.some Jvm.ClassFile.FieldType.boolean), Jvm.Cond.code ({ cls := "java/lang/StringLatin1", name := "equals", desc := "([B[B)Z" } : Jvm.MethodName) jdk_43_method_13_code (3 : Nat) (Option.some Jvm.ClassFile.FieldType.boolean)]
set_option maxRecDepth 65536 in
theorem codes_eq : words1.filter isCode = codes1 := rfl
theorem w_codes : ∀ c ∈ words1.filter isCode, c.before args0 about1 = true := by
  rw [codes_eq]
  intro c hc
  simp only [codes1, List.mem_cons, List.not_mem_nil, or_false] at hc
  rcases hc with rfl | rfl | rfl | rfl | rfl | rfl | rfl | rfl | rfl | rfl | rfl | rfl | rfl
  · exact w_c0
  · exact w_c1
  · exact w_c2
  · exact w_c3
  · exact w_c4
  · exact w_c5
  · exact w_c6
  · exact w_c7
  · exact w_c8
  · exact w_c9
  · exact w_c10
  · exact w_c11
  · exact w_c12
set_option maxRecDepth 65536 in
theorem w_t1 : (words1.take 24).all (fun c => isCode c || c.before args0 about1) = true := by decide +kernel
set_option maxRecDepth 65536 in
theorem w_t2 : ((words1.drop 24).take 24).all (fun c => isCode c || c.before args0 about1) = true := by decide +kernel
set_option maxRecDepth 65536 in
theorem w_t3 : (((words1.drop 24).drop 24).take 24).all (fun c => isCode c || c.before args0 about1) = true := by decide +kernel
set_option maxRecDepth 65536 in
theorem w_t4 : (((words1.drop 24).drop 24).drop 24).all (fun c => isCode c || c.before args0 about1) = true := by decide +kernel
theorem w_tables : (allAtoms (Jvm.Cond.code x code maxLocals ret :: tables_1)).before args0 about1 = true := by
  rw [allAtoms_all]
  show words1.all (fun c => c.before args0 about1) = true
  refine all_split ?_ w_codes
  rw [← List.take_append_drop 24 words1, List.all_append, w_t1, ← List.take_append_drop 24 (words1.drop 24), List.all_append, w_t2, ← List.take_append_drop 24 ((words1.drop 24).drop 24), List.all_append, w_t3, w_t4]
  rfl
set_option maxRecDepth 65536 in
theorem w_rest : rest_1_c.before args0 about1 = true := by decide +kernel
set_option maxRecDepth 65536 in
theorem w_case : (Jvm.Cond.and given_1 narrow_1).before args0 about1 = true := by decide +kernel
theorem w_applies : (headSpec (Jvm.Cond.code x code maxLocals ret :: tables_1) room_1).applies x e0.platform about1 = true :=
  (Spec.applies_iff w_frames).mpr ⟨w_running, w_runnable, w_alone, w_named, w_hears, w_ripe, w_room, w_tables⟩
theorem atStart : AtStart classFile x code maxLocals ret World_1 tables_1 room_1 Calls_1 rest_1 Pre_1 launch0 p0 e0 about1 theMethod args0 below0 :=
  ⟨lists_1, trivial, launch0.admits_env _ _ _, launch0.least_env, fairChoices_fair.cas, fairChoices_fair.clock, w_frames, w_args, w_heap, w_applies, trivial, w_rest, w_case⟩
end start1
theorem witness_1 : WitnessClaimed_1 := ⟨start1.p0, start1.e0, start1.about1, start1.theMethod, start1.args0, start1.below0, start1.atStart⟩
end Jvm.Pilot.@@N@@
