import JvmDerived
import JvmDerived.Pilot.@@N@@Statement
import JvmDerived.Pilot.@@N@@Code
set_option linter.unusedVariables false
set_option linter.unusedSimpArgs false
namespace Jvm.RoadKit
theorem Old.own_le {Z : State} {h : Heap} {n0 : Nat} (O : Old Z n0 h) : n0 ≤ h.size := O.1 ▸ O.2.1
end Jvm.RoadKit
namespace Jvm.OwnKit
open Sem ClassFile Op Lib Jvm.Stand Jvm.Free Jvm.LawKit Jvm.RoadKit
section Kit
variable {p : Program} {l : Launch} {e : Env} {R : Room} {s : State} {m : MethodId} {args : Array Value} {below : List Frame} {meth : Method} {c : Code} {T : State} {locs : List Loc} {cells slots : Nat} {Z : State} {a0 : Array Value} {h h0 : Heap} {Q : Option Value → Heap → List Loc → Prop} {k n : Nat}
/-- from the state A on the body comes to its end; Q says what it leaves -/
def FinP (p : Program) (e : Env) (below : List Frame) (s : State) (Q : Option Value → Heap → List Loc → Prop) (k n : Nat) (A : State) : Prop :=
  ∃ s₂ o, Steps p.tables e below A s₂ ∧ s₂.status = .running ∧ Ended s₂ below o ∧ ∃ v L, o = .returned v ∧ Q v s₂.heap L ∧ FrameEnd s o s₂ L k n
theorem FinP.st {A B : State} (hs : ∀ t, Steps p.tables e below B t → Steps p.tables e below A t) (f : FinP p e below s Q k n B) : FinP p e below s Q k n A := by
  obtain ⟨s2, o, h1, r⟩ := f; exact ⟨s2, o, hs _ h1, r⟩
/-- the contract of a body: called with as at the heap h0 -/
abbrev Con (l : Launch) (Z : State) (h0 : Heap) (x : MethodName) (bytes : ByteArray) (maxL : Nat) (ret : Option FieldType) (ws : List Cond) (rm : Room) (as : Array Value) (Q : Option Value → Heap → List Loc → Prop) : Prop :=
  MetFree l x (head1 (Cond.code x bytes maxL ret :: ws) rm) (fun a U => a = as ∧ Z.Warmed39 U.vm ∧ U.heap = h0) (fun _ _ _ _ _ => True) (fun _ U o U' => ∃ v L, o = .returned v ∧ Q v U'.heap L ∧ FrameEnd U o U' L rm.cells rm.slots)
theorem Con.of {x : MethodName} {bytes : ByteArray} {maxL : Nat} {ret : Option FieldType} {ws : List Cond} {rm : Room} {as : Array Value} (hn : plainFor x = true) {f0 : MethodId → JFrame} (hf0 : ∀ m, entryFrame m as maxL = f0 m)
    (body : ∀ (p : Program) (e : Env) (s : State) (m : MethodId) (below : List Frame) (meth : Method) (c : Code) (T : State), p.tables.exec = Jvm.exec → c.code = bytes → c.maxLocals = maxL → s.vm.findClass x.cls = some m.cls → meth.name = x.name → meth.sig.returnType = ret → meth.locks = false → Z.Warmed39 s.vm →
      Stand p l e rm s m as below meth c T [] 0 0 → T.heap = h0 → FinP p e below s Q rm.cells rm.slots (T.setTop (f0 m))) : Con l Z h0 x bytes maxL ret ws rm as Q := by
  refine MetFree.of_bodySF hn hisR ?_
  intro p e s m args below meth c s₁ Bd hml0 hP hK
  obtain ⟨rfl, hZ, hh⟩ := hP
  have X0 : Stand p l e rm s m args below meth c s₁ [] 0 0 := Stand.of_body Bd
  have e0 : s₁.heap = h0 := by rw [← hh, Bd.state]; rfl
  have q := body p e s m below meth c s₁ Bd.exec Bd.bytes hml0 (findClass_of_methodNamed Bd.named) (name_of_methodNamed Bd.named Bd.method).1 Bd.returns (BodyLoose.notSynchronized Bd) hZ X0 e0
  rw [hf0 m]
  exact q
/-- a paid call -/
abbrev Pay (l : Launch) (R : Room) (p : Program) (e : Env) (below : List Frame) (s : State) (args : Array Value) (y : MethodName) (len W : Nat) (as : Array Value) (h : Heap) (rc rs : Nat) (Q : Option Value → Heap → List Loc → Prop) : Prop :=
  Back l R p e below s args y len W (fun A a => a = as ∧ A.U.heap = h ∧ A.cells + rc ≤ R.cells ∧ A.slots + rs ≤ R.slots) (fun A _ v B => ∃ L, Q v B.U.heap L ∧ B.locs = A.locs ++ L ∧ B.cells = A.cells + rc ∧ B.slots = A.slots + rs)
theorem Con.pay {y : MethodName} {bytes : ByteArray} {maxL : Nat} {ret : Option FieldType} {rm : Room} {len W : Nat} {as : Array Value} (hM : Con l Z h y bytes maxL ret [] rm as Q)
    (hZ : Z.Warmed39 s.vm) (wc : (Cond.code y bytes maxL ret).before a0 Z = true) (wz : (Cond.initialized y.cls).before a0 Z = true) (hf : rm.frames + 1 ≤ R.frames) (hl : W + (maxL + 11) + rm.locals ≤ R.locals) : Pay l R p e below s args y len W as h rm.cells rm.slots Q :=
  backOf hM hZ wc wz hf hl
theorem goI (X : Stand p l e R s m args below meth c T locs cells slots) (hx : p.tables.exec = Jvm.exec) (hZ : Z.Warmed39 s.vm) {own : String} (hown : s.vm.findClass own = some m.cls) {index : Nat} {y : MethodName} (hy1 : y.name = "<init>") (w1 : (Cond.methodLink own index y).before a0 Z = true) (w2 : (Cond.instanceMethod y).before a0 Z = true)
    {bytes : ByteArray} {maxL : Nat} (w3 : (Cond.code y bytes maxL none).before a0 Z = true) (hy : y.cls ≠ "java/lang/invoke/MethodHandle" ∧ y.cls ≠ "java/lang/invoke/VarHandle") {W rc rs : Nat} {as : Array Value} (hK : Pay l R p e below s args y 3 W as h rc rs Q) (eT : T.heap = h)
    {g : JFrame} (hg : g.method = m) (hsize : g.locals.size = c.maxLocals) {a : Addr} (argsL rest : List Value) (hlen : ∀ sig, parseMethodDescriptor y.desc = some sig → argsL.length = sig.parameters.length) (hstack : g.stack = argsL.reverse ++ .ref a :: rest) (hW : 2 * g.monitorRoom + (rest.map fun v => v.category).sum ≤ W)
    (hdg : decode c.code g.pc = .ok (.invokespecial index, 3)) (has : (Value.ref a :: argsL).toArray = as) (hc : cells + rc ≤ R.cells) (hs : slots + rs ≤ R.slots) :
    ∃ (v : Option Value) (T' : State) (h' : Heap) (L : List Loc), Stand p l e R s m args below meth c T' (locs ++ L) (cells + rc) (slots + rs) ∧ T'.heap = h' ∧ Q v h' L ∧ ∀ t, Steps p.tables e below (T'.setTop { g with pc := g.pc + 3, stack := v.toList ++ rest }) t → Steps p.tables e below (T.setTop g) t := by
  obtain ⟨v, _, ⟨T', L', k', n'⟩, -, X', ⟨L, hQ, l1, y1, z1⟩, st⟩ := X.specialBack hx hy1 hown (mvT hZ w1) (mvT hZ w2) (mvT hZ w3) hy hK hg hsize (Steps.refl _) hlen hstack hW hdg (fun _ _ => ⟨has, eT, hc, hs⟩)
  dsimp only [Pt.U, Pt.locs, Pt.cells, Pt.slots] at X' l1 y1 z1 st hQ
  subst l1 y1 z1
  exact ⟨v, T', _, L, X', rfl, hQ, fun t q => st.trans q⟩
theorem goV (X : Stand p l e R s m args below meth c T locs cells slots) (hx : p.tables.exec = Jvm.exec) (hZ : Z.Warmed39 s.vm) {own : String} (hown : s.vm.findClass own = some m.cls) {index : Nat} {C : String} {y z : MethodName} (w1 : (Cond.methodLink own index y).before a0 Z = true) (w2 : (Cond.declares y).before a0 Z = true)
    (w3 : (Cond.selects C y z).before a0 Z = true) (nf : NotFace s y) (w4 : (Cond.instanceMethod z).before a0 Z = true) (hy : y.cls ≠ "java/lang/invoke/MethodHandle" ∧ y.cls ≠ "java/lang/invoke/VarHandle") {W rc rs : Nat} {as : Array Value} (hK : Pay l R p e below s args z 3 W as h rc rs Q) (eT : T.heap = h) {a : Addr} (E : Exa Z h a C)
    {g : JFrame} (hg : g.method = m) (hsize : g.locals.size = c.maxLocals) (argsL rest : List Value) (hlen : ∀ sig, parseMethodDescriptor y.desc = some sig → argsL.length = sig.parameters.length) (hstack : g.stack = argsL.reverse ++ .ref a :: rest) (hW : 2 * g.monitorRoom + (rest.map fun v => v.category).sum ≤ W)
    (hdg : decode c.code g.pc = .ok (.invokevirtual index, 3)) (has : (Value.ref a :: argsL).toArray = as) (hc : cells + rc ≤ R.cells) (hs : slots + rs ≤ R.slots) :
    ∃ (v : Option Value) (T' : State) (h' : Heap) (L : List Loc), Stand p l e R s m args below meth c T' (locs ++ L) (cells + rc) (slots + rs) ∧ T'.heap = h' ∧ Q v h' L ∧ ∀ t, Steps p.tables e below (T'.setTop { g with pc := g.pc + 3, stack := v.toList ++ rest }) t → Steps p.tables e below (T.setTop g) t := by
  obtain ⟨cB, kB, q1, -, q3⟩ := isOf hZ eT E
  obtain ⟨v, _, ⟨T', L', k', n'⟩, -, X', ⟨L, hQ, l1, y1, z1⟩, st⟩ := X.virtualBack hx hown (mvT hZ w1) (mvT hZ w2) nf (mvT hZ w3) (mvT hZ w4) hy hK q1 q3 hg hsize (Steps.refl _) hlen hstack hW hdg (fun _ _ => ⟨has, eT, hc, hs⟩)
  dsimp only [Pt.U, Pt.locs, Pt.cells, Pt.slots] at X' l1 y1 z1 st hQ
  subst l1 y1 z1
  exact ⟨v, T', _, L, X', rfl, hQ, fun t q => st.trans q⟩
theorem goS (X : Stand p l e R s m args below meth c T locs cells slots) (hx : p.tables.exec = Jvm.exec) (hZ : Z.Warmed39 s.vm) {own : String} (hown : s.vm.findClass own = some m.cls) {index : Nat} {y : MethodName} (w1 : (Cond.methodLink own index y).before a0 Z = true) (w2 : (Cond.static y).before a0 Z = true) (w3 : (Cond.initialized y.cls).before a0 Z = true)
    {bytes : ByteArray} {maxL : Nat} {ret : Option FieldType} (w4 : (Cond.code y bytes maxL ret).before a0 Z = true) (hy : y.cls ≠ "java/lang/invoke/MethodHandle" ∧ y.cls ≠ "java/lang/invoke/VarHandle") {W rc rs : Nat} {as : Array Value} (hK : Pay l R p e below s args y 3 W as h rc rs Q) (eT : T.heap = h)
    {g : JFrame} (hg : g.method = m) (hsize : g.locals.size = c.maxLocals) (argsL rest : List Value) (hlen : ∀ sig, parseMethodDescriptor y.desc = some sig → argsL.length = sig.parameters.length) (hstack : g.stack = argsL.reverse ++ rest) (hW : 2 * g.monitorRoom + (rest.map fun v => v.category).sum ≤ W)
    (hdg : decode c.code g.pc = .ok (.invokestatic index, 3)) (has : argsL.toArray = as) (hc : cells + rc ≤ R.cells) (hs : slots + rs ≤ R.slots) :
    ∃ (v : Option Value) (T' : State) (h' : Heap) (L : List Loc), Stand p l e R s m args below meth c T' (locs ++ L) (cells + rc) (slots + rs) ∧ T'.heap = h' ∧ Q v h' L ∧ ∀ t, Steps p.tables e below (T'.setTop { g with pc := g.pc + 3, stack := v.toList ++ rest }) t → Steps p.tables e below (T.setTop g) t := by
  obtain ⟨v, _, ⟨T', L', k', n'⟩, -, X', ⟨L, hQ, l1, y1, z1⟩, st⟩ := Jvm.LawKit.callS X hx hown (mvT hZ w1) (mvT hZ w2) (mvT hZ w3) (mvT hZ w4) hy hK hg hsize hlen hstack hW hdg (fun _ _ => ⟨has, eT, hc, hs⟩)
  dsimp only [Pt.U, Pt.locs, Pt.cells, Pt.slots] at X' l1 y1 z1 st hQ
  subst l1 y1 z1
  exact ⟨v, T', _, L, X', rfl, hQ, st⟩
/-! the ends of a body -/
theorem fin_of (X : Stand p l e R s m args below meth c T locs cells slots) (hlk : meth.locks = false) {v : Option Value} (hv : meth.sig.returnType = none → v = none) {A : State} (eT : T.heap = h) (q : Q v h locs) (hc : cells ≤ k) (hs : slots ≤ n)
    (hst : ∀ fs, (∀ (f : JFrame) (acts : List Action), f.method = m → f.locked = none → f.entered = [] → (doReturn e (T.setTop f) acts v).1 = T.setFrames fs) → Steps p.tables e below A (T.setFrames fs)) : FinP p e below s Q k n A := by
  obtain ⟨fs, hr, hrun, hended, hW, hsame⟩ := X.leave (v := v) hv hlk
  refine ⟨_, _, hst fs hr, hrun, hended, v, locs, rfl, ?_, ⟨_, rfl⟩, hW, hsame.mono hc hs⟩
  show Q v T.heap locs
  rw [eT]; exact q
theorem finV (X : Stand p l e R s m args below meth c T locs cells slots) (hx : p.tables.exec = Jvm.exec) (hlk : meth.locks = false) (hret : meth.sig.returnType = none) {pc : Nat} {Ls : Array Slot} (hd : decode c.code pc = .ok (.return_, 1)) (eT : T.heap = h) (q : Q none h locs) (hc : cells ≤ k) (hs : slots ≤ n) : FinP p e below s Q k n (T.setTop (mkF m pc Ls [])) :=
  fin_of X hlk (fun _ => rfl) eT q hc hs fun fs hr => X.returnOut hx hret hd hr
theorem finO (X : Stand p l e R s m args below meth c T locs cells slots) (hx : p.tables.exec = Jvm.exec) (hlk : meth.locks = false) {t : FieldType} {w : Value} {i : Instr} {rest : List Value} (hret : meth.sig.returnType = some t) (hn : narrow t w = w)
    (hi : (i = .ireturn ∧ (t = .int ∨ t = .boolean ∨ t = .byte ∨ t = .char ∨ t = .short) ∧ ∃ z, w = .int z) ∨ (i = .lreturn ∧ t = .long ∧ ∃ z, w = .long z) ∨ (i = .dreturn ∧ t = .double ∧ ∃ z, w = .double z) ∨ (i = .freturn ∧ t = .float ∧ ∃ z, w = .float z) ∨ (i = .areturn ∧ t.isReference = true ∧ w.isRef = true))
    {pc : Nat} {Ls : Array Slot} (hd : decode c.code pc = .ok (i, 1)) (eT : T.heap = h) (q : Q (some w) h locs) (hc : cells ≤ k) (hs : slots ≤ n) : FinP p e below s Q k n (T.setTop (mkF m pc Ls (w :: rest))) :=
  fin_of X hlk (fun hq => by rw [hret] at hq; cases hq) eT q hc hs fun fs hr => retOut X hx hret hn hi hd hr
theorem finI (X : Stand p l e R s m args below meth c T locs cells slots) (hx : p.tables.exec = Jvm.exec) (hlk : meth.locks = false) {z : Int32} {rest : List Value} (hret : meth.sig.returnType = some .int) {pc : Nat} {Ls : Array Slot} (hd : decode c.code pc = .ok (.ireturn, 1)) (eT : T.heap = h) (q : Q (some (.int z)) h locs) (hc : cells ≤ k) (hs : slots ≤ n) : FinP p e below s Q k n (T.setTop (mkF m pc Ls (.int z :: rest))) :=
  finO X hx hlk hret rfl (Or.inl ⟨rfl, Or.inl rfl, z, rfl⟩) hd eT q hc hs
theorem finL (X : Stand p l e R s m args below meth c T locs cells slots) (hx : p.tables.exec = Jvm.exec) (hlk : meth.locks = false) {z : Int64} {rest : List Value} (hret : meth.sig.returnType = some .long) {pc : Nat} {Ls : Array Slot} (hd : decode c.code pc = .ok (.lreturn, 1)) (eT : T.heap = h) (q : Q (some (.long z)) h locs) (hc : cells ≤ k) (hs : slots ≤ n) : FinP p e below s Q k n (T.setTop (mkF m pc Ls (.long z :: rest))) :=
  finO X hx hlk hret rfl (Or.inr (Or.inl ⟨rfl, rfl, z, rfl⟩)) hd eT q hc hs
theorem finA (X : Stand p l e R s m args below meth c T locs cells slots) (hx : p.tables.exec = Jvm.exec) (hlk : meth.locks = false) {t : FieldType} {w : Value} {rest : List Value} (hret : meth.sig.returnType = some t) (ht : t.isReference = true) (hw : w.isRef = true) (hn : narrow t w = w) {pc : Nat} {Ls : Array Slot} (hd : decode c.code pc = .ok (.areturn, 1)) (eT : T.heap = h) (q : Q (some w) h locs) (hc : cells ≤ k) (hs : slots ≤ n) : FinP p e below s Q k n (T.setTop (mkF m pc Ls (w :: rest))) :=
  finO X hx hlk hret hn (Or.inr (Or.inr (Or.inr (Or.inr ⟨rfl, ht, hw⟩)))) hd eT q hc hs
theorem finN (X : Stand p l e R s m args below meth c T locs cells slots) (hx : p.tables.exec = Jvm.exec) (hlk : meth.locks = false) {t : FieldType} {z : Int32} {rest : List Value} (hret : meth.sig.returnType = some t) (ht : t = .boolean ∨ t = .byte ∨ t = .char ∨ t = .short) {pc : Nat} {Ls : Array Slot} (hd : decode c.code pc = .ok (.ireturn, 1)) (eT : T.heap = h) (q : Q (some (.int (nar t z))) h locs) (hc : cells ≤ k) (hs : slots ≤ n) : FinP p e below s Q k n (T.setTop (mkF m pc Ls (.int z :: rest))) :=
  fin_of X hlk (fun hq => by rw [hret] at hq; cases hq) eT q hc hs fun fs hr => retN X hx hret ht hd hr
/-! the branches, by what holds -/
theorem ieq {x y : Int32} (h : x = y) : if_icmp.holds .eq x y = true := (teq h).1
theorem ieqN {x y : Int32} (h : ¬ x = y) : if_icmp.holds .eq x y = false := (feq h).1
theorem ine {x y : Int32} (h : ¬ x = y) : if_icmp.holds .ne x y = true := (feq h).2
theorem ineN {x y : Int32} (h : x = y) : if_icmp.holds .ne x y = false := (teq h).2
theorem ilt {x y : Int32} (h : x < y) : if_icmp.holds .lt x y = true := (tlt h).1
theorem iltN {x y : Int32} (h : ¬ x < y) : if_icmp.holds .lt x y = false := (flt h).1
theorem ige {x y : Int32} (h : ¬ x < y) : if_icmp.holds .ge x y = true := (flt h).2.1
theorem igeN {x y : Int32} (h : x < y) : if_icmp.holds .ge x y = false := (tlt h).2.1
theorem igt {x y : Int32} (h : y < x) : if_icmp.holds .gt x y = true := (tlt h).2.2.1
theorem igtN {x y : Int32} (h : ¬ y < x) : if_icmp.holds .gt x y = false := (flt h).2.2.1
theorem ile {x y : Int32} (h : ¬ y < x) : if_icmp.holds .le x y = true := (flt h).2.2.2
theorem ileN {x y : Int32} (h : y < x) : if_icmp.holds .le x y = false := (tlt h).2.2.2
theorem zeq {x : Int32} (h : x = 0) : ifCond.holds .eq x = true := (if0 _ _).trans (ieq h)
theorem zeqN {x : Int32} (h : ¬ x = 0) : ifCond.holds .eq x = false := (if0 _ _).trans (ieqN h)
theorem zne {x : Int32} (h : ¬ x = 0) : ifCond.holds .ne x = true := (if0 _ _).trans (ine h)
theorem zneN {x : Int32} (h : x = 0) : ifCond.holds .ne x = false := (if0 _ _).trans (ineN h)
theorem zlt {x : Int32} (h : x < 0) : ifCond.holds .lt x = true := (if0 _ _).trans (ilt h)
theorem zltN {x : Int32} (h : ¬ x < 0) : ifCond.holds .lt x = false := (if0 _ _).trans (iltN h)
theorem zge {x : Int32} (h : ¬ x < 0) : ifCond.holds .ge x = true := (if0 _ _).trans (ige h)
theorem zgeN {x : Int32} (h : x < 0) : ifCond.holds .ge x = false := (if0 _ _).trans (igeN h)
theorem zgt {x : Int32} (h : 0 < x) : ifCond.holds .gt x = true := (if0 _ _).trans (igt h)
theorem zgtN {x : Int32} (h : ¬ 0 < x) : ifCond.holds .gt x = false := (if0 _ _).trans (igtN h)
theorem zle {x : Int32} (h : ¬ 0 < x) : ifCond.holds .le x = true := (if0 _ _).trans (ile h)
theorem zleN {x : Int32} (h : 0 < x) : ifCond.holds .le x = false := (if0 _ _).trans (ileN h)
/-- the heap has grown -/
def Grw (h0 h : Heap) : Prop := h0.size ≤ h.size
theorem Grw.ext {h' : Heap} (B : Grw h0 h) (E : Ext h h') : Grw h0 h' := Nat.le_trans B E.1
theorem Grw.keep {h' : Heap} {ws : List Addr} (B : Grw h0 h) (K : Keep h h' ws) : Grw h0 h' := Nat.le_trans B K.1
theorem Grw.wr {h' : Heap} {a : Addr} {sl : Nat} {v : Value} (B : Grw h0 h) (W : Wr h h' a sl v) : Grw h0 h' := Nat.le_trans B (Nat.le_of_eq W.size.symm)
/-! joining roads -/
theorem join1 {α : Type} {P : α → Prop} {A : α → State} {B : State} (hj : ∀ a, P a → FinP p e below s Q k n (A a)) (go : (∀ a, P a → FinP p e below s Q k n (A a)) → FinP p e below s Q k n B) : FinP p e below s Q k n B := go hj
theorem joinH {α : Type} {P : α → State → Heap → List Loc → Prop} {A : α → State → State} {B : State} (hj : ∀ a T h L, P a T h L → FinP p e below s Q k n (A a T)) (go : (∀ a T h L, P a T h L → FinP p e below s Q k n (A a T)) → FinP p e below s Q k n B) : FinP p e below s Q k n B := go hj
/-! arrays -/
theorem newA0 (X : Stand p l e R s m args below meth c T locs cells slots) (hx : p.tables.exec = Jvm.exec) (hZ : Z.Warmed39 s.vm) {aty : ArrayType} (w : (Cond.arrayClass (newarray.typeOf aty)).before a0 Z = true) (eT : T.heap = h) {g : JFrame} (hg : g.method = m) (hd : decode c.code g.pc = .ok (.newarray aty, 2)) {z : Int32} {rest : List Value} (hs : g.stack = .int z :: rest)
    (hz : ¬ z < 0) {N : Nat} (hN : z.toNatClampNeg = N) (hb : N * 8 ≤ 536870912) (hc : cells + 1 ≤ R.cells) (hl : slots + N ≤ R.slots) :
    ∃ T' h' cA, Stand p l e R s m args below meth c T' locs (cells + 1) (slots + N) ∧ T'.heap = h' ∧ Ext h h' ∧ Arv Z h' h.size cA (newarray.typeOf aty) z (List.replicate N (defaultValue (newarray.typeOf aty))) (defaultValue (newarray.typeOf aty)) ∧
      ∀ target, Steps p.tables e below (T'.setTop { g with pc := g.pc + 2, stack := .ref h.size :: rest }) target → Steps p.tables e below (T.setTop g) target := by
  obtain ⟨T', h', cA, X', e', E', A', st⟩ := newP X hx hZ w eT hg hd hs hz (cap := N) (Nat.le_of_eq hN) hb hc hl
  exact ⟨T', h', cA, X', e', E', (Arv.new A' hz).pad (pad_rep [] _ N), st⟩
theorem stC0 (X : Stand p l e R s m args below meth c T locs cells slots) (hx : p.tables.exec = Jvm.exec) (hZ : Z.Warmed39 s.vm) (eT : T.heap = h) {a : Addr} {ka : ClassId} {z : Int32} {vs : List Value} {dv : Value} (V : Arv Z h a ka .char z vs dv) {j x : Int32} (hj : ¬ j < 0 ∧ j < z) (i : Nat) (hi : j.toNatClampNeg = i) (hil : i < vs.length) (hnx : nar .char x = x)
    {g : JFrame} (hg : g.method = m) {rest : List Value} (hs : g.stack = .int x :: .int j :: .ref a :: rest) (hd : decode c.code g.pc = .ok (.castore, 1)) :
    ∃ T' h', Stand p l e R s m args below meth c T' (locs ++ [⟨a, j.toNatClampNeg⟩]) cells slots ∧ T'.heap = h' ∧ Wr h h' a j.toNatClampNeg (.int x) ∧ Arv Z h' a ka .char z (vs.set i (.int x)) dv ∧ ∀ target, Steps p.tables e below (T'.setTop { g with pc := g.pc + 1, stack := rest }) target → Steps p.tables e below (T.setTop g) target := by
  obtain ⟨cl, A, q1, S, M, H, G⟩ := V
  obtain ⟨T', h', X', e', W, st⟩ := stC X hx hZ eT A (j := j) (inb_of S hj) hg hs hd
  have W' := W
  rw [hnx] at W
  exact ⟨T', h', X', e', W, Arv.set A q1 S M H G (by rw [← hnx]; exact fits_nar_char _) W i hi hil, st⟩
theorem alen (X : Stand p l e R s m args below meth c T locs cells slots) (hx : p.tables.exec = Jvm.exec) (hZ : Z.Warmed39 s.vm) (eT : T.heap = h) {a : Addr} {ka : ClassId} {ty : FieldType} {z : Int32} {vs : List Value} {dv : Value} (V : Arv Z h a ka ty z vs dv)
    {g : JFrame} (hg : g.method = m) {rest : List Value} (hs : g.stack = .ref a :: rest) (hd : decode c.code g.pc = .ok (.arraylength, 1)) :
    ∀ target, Steps p.tables e below (T.setTop { g with pc := g.pc + 1, stack := .int z :: rest }) target → Steps p.tables e below (T.setTop g) target := by
  obtain ⟨cl, A, q1, S, M, H, G⟩ := V
  intro t ht
  refine X.arraylength hx (by rw [eT]; exact A.1) (State.isArrayOf_alike hZ.alike A.2.1) hg hs hd t ?_
  rw [len_of S M]; exact ht
theorem ldC0 (X : Stand p l e R s m args below meth c T locs cells slots) (hx : p.tables.exec = Jvm.exec) (hZ : Z.Warmed39 s.vm) (eT : T.heap = h) {a : Addr} {ka : ClassId} {z : Int32} {vs : List Value} {dv : Value} (V : Arv Z h a ka .char z vs dv) {j : Int32} (hj : ¬ j < 0 ∧ j < z) {v : Value} (hv : vs.getD j.toNatClampNeg dv = v)
    {g : JFrame} (hg : g.method = m) {rest : List Value} (hs : g.stack = .int j :: .ref a :: rest) (hd : decode c.code g.pc = .ok (.caload, 1)) :
    ∀ target, Steps p.tables e below (T.setTop { g with pc := g.pc + 1, stack := v :: rest }) target → Steps p.tables e below (T.setTop g) target := by
  obtain ⟨cl, A, q1, S, M, H, G⟩ := V
  exact X.caload hx (by rw [eT]; exact A.1) (State.isArrayOf_alike hZ.alike A.2.1) A.2.2 (inb_of S hj) (H.at (inb_of S hj) hv) hg hs hd
theorem ldB0 (X : Stand p l e R s m args below meth c T locs cells slots) (hx : p.tables.exec = Jvm.exec) (hZ : Z.Warmed39 s.vm) (eT : T.heap = h) {a : Addr} {ka : ClassId} {z : Int32} {vs : List Value} {dv : Value} (V : Arv Z h a ka .byte z vs dv) {j : Int32} (hj : ¬ j < 0 ∧ j < z) {v : Value} (hv : vs.getD j.toNatClampNeg dv = v)
    {g : JFrame} (hg : g.method = m) {rest : List Value} (hs : g.stack = .int j :: .ref a :: rest) (hd : decode c.code g.pc = .ok (.baload, 1)) :
    ∀ target, Steps p.tables e below (T.setTop { g with pc := g.pc + 1, stack := v :: rest }) target → Steps p.tables e below (T.setTop g) target := by
  obtain ⟨cl, A, q1, S, M, H, G⟩ := V
  exact X.baloadBytes hx (by rw [eT]; exact A.1) (State.isArrayOf_alike hZ.alike A.2.1) A.2.2 (inb_of S hj) (H.at (inb_of S hj) hv) hg hs hd
theorem ldR0 (X : Stand p l e R s m args below meth c T locs cells slots) (hx : p.tables.exec = Jvm.exec) (hZ : Z.Warmed39 s.vm) (eT : T.heap = h) {a : Addr} {ka : ClassId} {ty : FieldType} (hty : ty.isReference = true) {z : Int32} {vs : List Value} {dv : Value} (V : Arv Z h a ka ty z vs dv) {j : Int32} (hj : ¬ j < 0 ∧ j < z) {v : Value} (hv : vs.getD j.toNatClampNeg dv = v)
    {g : JFrame} (hg : g.method = m) {rest : List Value} (hs : g.stack = .int j :: .ref a :: rest) (hd : decode c.code g.pc = .ok (.aaload, 1)) :
    ∀ target, Steps p.tables e below (T.setTop { g with pc := g.pc + 1, stack := v :: rest }) target → Steps p.tables e below (T.setTop g) target := by
  obtain ⟨cl, A, q1, S, M, H, G⟩ := V
  exact X.aaload hx (by rw [eT]; exact A.1) (State.isArrayOf_alike hZ.alike A.2.1) hty A.2.2 (inb_of S hj) (H.at (inb_of S hj) hv) hg hs hd
/-- C's superclass S is the root; K is an ordinary class that is neither -/
theorem notSub {C S K : String} {n : Nat} (w : (Cond.superclass C S).before a0 Z = true) (w2 : (Cond.noSuperclass S).before a0 Z = true) (wi : (Cond.instantiable K n).before a0 Z = true) (h1 : C ≠ K) (h2 : S ≠ K) : ∃ c t, Z.vm.findClass C = some c ∧ Z.vm.findClass K = some t ∧ Z.vm.assignable c t = false := by
  obtain ⟨c, hc⟩ := found_sup w
  obtain ⟨q, k1, kq, a1, a2, a3, a4, a5, -, a7⟩ := Cond.superclass_spec hc w
  obtain ⟨q', k2, b1, b2, b3, -, -⟩ := Cond.noSuperclass_spec w2
  cases a1.symm.trans b1
  cases a3.symm.trans b2
  obtain ⟨t, k3, d1, d2, d3, d4, -⟩ := Cond.instantiable_spec wi
  have ne1 := ids_ne hc d1 h1
  have ne2 := ids_ne a1 d1 h2
  have d5 : k3.isInterface = false := by cases h : k3.isInterface <;> simp [h] at d4 ⊢
  refine ⟨c, t, hc, d1, ?_⟩
  have g0 : ∀ fuel, Z.vm.isSubclassAux fuel q t = false := fun fuel => by
    cases fuel with
    | zero => rfl
    | succ f => simp [Vm.isSubclassAux, ne2, a3, b3]
  have g1 : ∀ fuel, Z.vm.isSubclassAux fuel c t = false := fun fuel => by
    cases fuel with
    | zero => rfl
    | succ f => simp [Vm.isSubclassAux, ne1, a2, a4, g0]
  show Z.vm.assignableAux (255 + 1) c t = false
  simp [Vm.assignableAux, ne1, a2, d2, a5, d3, d5, Vm.isSubclass, g1]
/-! numbers -/
abbrev ush (x y : Int32) : Int32 := (x.toUInt32 >>> (y &&& 31).toUInt32).toInt32
abbrev lush (x : Int64) (y : Int32) : Int64 := (x.toUInt64 >>> (y &&& 0x3f).toInt64.toUInt64).toInt64
abbrev chr (x : Int32) : Int32 := x.toUInt32.toUInt16.toUInt32.toInt32
theorem and_bits (x : Int32) : ¬ (x &&& 255) < 0 ∧ ¬ 255 < (x &&& 255) := by
  have h := c_mask x 255 8 (by decide) (by decide)
  have h2 : (0 : Int32).toInt = 0 := rfl
  have h3 : (255 : Int32).toInt = 255 := rfl
  rw [Int32.lt_iff_toInt_lt, Int32.lt_iff_toInt_lt, h, h2, h3]
  omega
theorem chr_255 (x : Int32) : ∃ c : Int32, chr (x &&& 255) = c ∧ ¬ c < 0 ∧ ¬ 255 < c ∧ c = x &&& 255 := ⟨x &&& 255, i2c_mask x, (and_bits x).1, (and_bits x).2, rfl⟩
theorem nar_chr {c : Int32} (h0 : ¬ c < 0) (h1 : ¬ 255 < c) : nar .char c = c := by
  have e : c = c &&& 255 := by
    have h := c_mask c 255 8 (by decide) (by decide)
    rw [Int32.lt_iff_toInt_lt] at h0 h1
    have h2 : (0 : Int32).toInt = 0 := rfl
    have h3 : (255 : Int32).toInt = 255 := rfl
    rw [h2] at h0; rw [h3] at h1
    apply Int32.toInt_inj.mp
    rw [h]; omega
  rw [e]; exact i2c_mask c
theorem rem5 (x : Int32) : ∃ r : Int32, (x &&& 2147483647) % 5 = r ∧ (r = 0 ∨ r = 1 ∨ r = 2 ∨ r = 3 ∨ r = 4) := by
  refine ⟨_, rfl, ?_⟩
  have h := c_mask x 2147483647 31 (by decide) (by decide)
  have h5 : (5 : Int32).toInt = 5 := rfl
  have h6 : ((x &&& 2147483647) % 5).toInt = (x.toInt % (2 ^ 31 : Nat)).tmod 5 := by rw [Int32.toInt_mod, h, h5]
  have h7 : (0 : Int) ≤ x.toInt % (2 ^ 31 : Nat) := by omega
  rw [Int.tmod_eq_emod_of_nonneg h7] at h6
  have h8 : ((x &&& 2147483647) % 5).toInt = 0 ∨ ((x &&& 2147483647) % 5).toInt = 1 ∨ ((x &&& 2147483647) % 5).toInt = 2 ∨ ((x &&& 2147483647) % 5).toInt = 3 ∨ ((x &&& 2147483647) % 5).toInt = 4 := by omega
  rcases h8 with q | q | q | q | q
  · exact Or.inl (Int32.toInt_inj.mp q)
  · exact Or.inr (Or.inl (Int32.toInt_inj.mp q))
  · exact Or.inr (Or.inr (Or.inl (Int32.toInt_inj.mp q)))
  · exact Or.inr (Or.inr (Or.inr (Or.inl (Int32.toInt_inj.mp q))))
  · exact Or.inr (Or.inr (Or.inr (Or.inr (Int32.toInt_inj.mp q))))
end Kit
end Jvm.OwnKit
namespace Jvm.Pilot.@@N@@
open Jvm Jvm.ClassFile Sem Op Lib Jvm.Free Jvm.Stand Jvm.LawKit Jvm.RoadKit Bundle Jvm.OwnKit Jvm.Pilot.@@N@@.Jvm.D
def Ord (Z : State) (h : Heap) (o : Addr) (i pr qu : Int64) (rq : Addr) (cu : Int64) (ca : Int32) (no : Int64) : Prop := Exa Z h o "com/example/fillwire/fillwire/book/Order" ∧ Fld Z h o "com/example/fillwire/fillwire/book/Order" "id" "J" (.long i) ∧ Fld Z h o "com/example/fillwire/fillwire/book/Order" "price" "J" (.long pr) ∧ Fld Z h o "com/example/fillwire/fillwire/book/Order" "quantity" "J" (.long qu) ∧ Fld Z h o "com/example/fillwire/fillwire/book/Order" "request" "Ljava/lang/Object;" (.ref rq) ∧ Fld Z h o "com/example/fillwire/fillwire/book/Order" "cumQty" "J" (.long cu) ∧ Fld Z h o "com/example/fillwire/fillwire/book/Order" "cancelled" "Z" (.int ca) ∧ Fld Z h o "com/example/fillwire/fillwire/book/Order" "notional" "J" (.long no) ∧ Fld Z h o "com/example/fillwire/fillwire/book/Order" "largeNotional" "Ljava/math/BigDecimal;" .null
theorem m16 (x : Int64) : ∃ q : Int64, x &&& 65535 = q ∧ 0 ≤ q.toInt ∧ q.toInt ≤ 65535 := by
  refine ⟨_, rfl, ?_⟩
  have h := c_maskL x 65535 16 (by decide) (by decide)
  rw [h]; omega
theorem shr32 {x : Int64} (h0 : 0 ≤ x.toInt) (h1 : x.toInt < 4294967296) : x >>> ((32 : Int32) &&& 0x3f).toInt64 = 0 := by
  have e : ((32 : Int32) &&& 0x3f).toInt64 = 32 := by decide
  rw [e]
  apply Int64.toInt_inj.mp
  show (x.toBitVec.sshiftRight' ((32 : Int64).toBitVec.smod 64)).toInt = 0
  have e2 : ((32 : Int64).toBitVec.smod 64) = 32#64 := by decide
  rw [e2, BitVec.sshiftRight_eq', BitVec.toInt_sshiftRight, Int.shiftRight_eq_div_pow]
  have e3 : x.toBitVec.toInt = x.toInt := rfl
  rw [e3]
  have e4 : (32#64).toNat = 32 := by decide
  rw [e4]
  omega
theorem lush32 {x : Int64} (h0 : 0 ≤ x.toInt) (h1 : x.toInt < 4294967296) : lush x 32 = 0 := by
  have e : ((32 : Int32) &&& 0x3f).toInt64.toUInt64 = 32 := by decide
  show (x.toUInt64 >>> ((32 : Int32) &&& 0x3f).toInt64.toUInt64).toInt64 = 0
  rw [e]
  have e1 : x.toUInt64.toNat = x.toInt.toNat := by
    have e5 : x.toUInt64.toNat = x.toBitVec.toNat := rfl
    have e6 : x.toInt = if 2 * x.toBitVec.toNat < 2 ^ 64 then (x.toBitVec.toNat : Int) else (x.toBitVec.toNat : Int) - ((2 ^ 64 : Nat) : Int) := BitVec.toInt_eq_toNat_cond x.toBitVec
    have e7 := x.toBitVec.isLt
    rw [e5]
    split at e6 <;> omega
  have e2 : (x.toUInt64 >>> 32).toNat = 0 := by
    rw [UInt64.toNat_shiftRight, e1]
    have : ((32 : UInt64).toNat % 64) = 32 := by decide
    rw [this, Nat.shiftRight_eq_div_pow]
    omega
  have e3 : x.toUInt64 >>> 32 = 0 := UInt64.toNat_inj.mp e2
  rw [e3]; decide
theorem mask32 {x : Int64} (h0 : 0 ≤ x.toInt) (h1 : x.toInt < 4294967296) : x &&& 4294967295 = x := by
  apply Int64.toInt_inj.mp
  rw [c_maskL x 4294967295 32 (by decide) (by decide)]
  omega
theorem mul16 {x y : Int64} (h0 : 0 ≤ x.toInt) (h1 : x.toInt ≤ 65535) (g0 : 0 ≤ y.toInt) (g1 : y.toInt ≤ 65535) : (x * y).toInt = x.toInt * y.toInt ∧ 0 ≤ x.toInt * y.toInt ∧ x.toInt * y.toInt ≤ 4294836225 := by
  have a := Int.mul_nonneg h0 g0
  have b : x.toInt * y.toInt ≤ 65535 * 65535 := Int.mul_le_mul h1 g1 g0 (by decide)
  have c := c_lmul x y
  have d := rng64 (x * y)
  refine ⟨?_, a, by omega⟩
  omega
theorem pn_0 : plainName "java/lang/Number" = true := by first | (simp [plainName, overriddenIn]; done) | decide +kernel
theorem d_jdk_18_method_1_0 : decode jdk_18_method_1_code 0 = .ok (.aload_n 0, 1) := by decide +kernel
theorem d_jdk_18_method_1_1 : decode jdk_18_method_1_code 1 = .ok (.invokespecial 1, 3) := by decide +kernel
theorem d_jdk_18_method_1_4 : decode jdk_18_method_1_code 4 = .ok (.return_, 1) := by decide +kernel
set_option maxRecDepth 65536 in
set_option maxHeartbeats 40000000 in
theorem rmNum (l : Launch) (Z : State) (a0 : Array Value) (hw : ∀ d ∈ tables_1, d.before a0 Z = true) (ws : List Jvm.Cond) (a1 : Addr) (h0 : Heap) (n0 : Nat) (O : Old Z n0 h0)  :
    Con l Z h0 ⟨"java/lang/Number", "<init>", "()V"⟩ jdk_18_method_1_code 1 none ws ({ frames := 1, cells := 0, slots := 0, locals := 12 } : Room) #[(.ref a1)] (fun v h L => v = none ∧ L = [] ∧ h = h0) := by
  refine Con.of (plainFor_of_name pn_0) (f0 := fun m => (mkF m 0 #[.val (.ref a1)] [])) (fun m => by first | (simp [entryFrame, mkF, argsToLocals, Value.category, maxLocals]; done) | rfl) ?_
  intro p e s m below meth c T0 hx hby hml hown hnm hret hlk hZ X0 e0
  have hown : s.vm.findClass "java/lang/Number" = some m.cls := hown
  have N0 := Fr.nil n0
  show FinP p e below s _ _ _ (T0.setTop (mkF m 0 #[.val (.ref a1)] []))
  refine FinP.st (fun _ => XS.aloadN X0.here hx rfl (Jvm.hb hby d_jdk_18_method_1_0) rfl rfl) ?_
  show FinP p e below s _ _ _ (T0.setTop (mkF m 1 #[.val (.ref a1)] [(.ref a1)]))
  obtain ⟨T101, X101, e101, st101⟩ := initO X0 hx hZ hown (hw _ (List.mem_of_getElem? (i := 102) rfl)) (hw _ (List.mem_of_getElem? (i := 19) rfl)) (hw _ (List.mem_of_getElem? (i := 20) rfl)) e0 (g := (mkF m 1 #[.val (.ref a1)] [(.ref a1)])) rfl (by rw [hml]; rfl) rfl (Jvm.hb hby d_jdk_18_method_1_1) (by decide) (W := 0) (by show 2 * 0 + _ ≤ _; exact Nat.le_of_eq rfl) (by decide)
  refine FinP.st st101 ?_
  show FinP p e below s _ _ _ (T101.setTop (mkF m 4 #[.val (.ref a1)] []))
  exact finV X101 hx hlk hret (Jvm.hb hby d_jdk_18_method_1_4) e101 ⟨rfl, rfl, rfl⟩ (by decide) (by decide)
theorem pn_1 : plainName "java/lang/Long" = true := by first | (simp [plainName, overriddenIn]; done) | decide +kernel
theorem d_jdk_35_method_26_0 : decode jdk_35_method_26_code 0 = .ok (.aload_n 0, 1) := by decide +kernel
theorem d_jdk_35_method_26_1 : decode jdk_35_method_26_code 1 = .ok (.invokespecial 270, 3) := by decide +kernel
theorem pd_0 : parseMethodDescriptor "()V" = some ⟨[], none⟩ := by decide +kernel
theorem d_jdk_35_method_26_4 : decode jdk_35_method_26_code 4 = .ok (.aload_n 0, 1) := by decide +kernel
theorem d_jdk_35_method_26_5 : decode jdk_35_method_26_code 5 = .ok (.lload_n 1, 1) := by decide +kernel
theorem d_jdk_35_method_26_6 : decode jdk_35_method_26_code 6 = .ok (.putfield 273, 3) := by decide +kernel
theorem d_jdk_35_method_26_9 : decode jdk_35_method_26_code 9 = .ok (.return_, 1) := by decide +kernel
set_option maxRecDepth 65536 in
set_option maxHeartbeats 40000000 in
theorem rmLong (l : Launch) (Z : State) (a0 : Array Value) (hw : ∀ d ∈ tables_1, d.before a0 Z = true) (ws : List Jvm.Cond) (a1 : Addr) (q : Int64) (u : Value) (h0 : Heap) (n0 : Nat) (O : Old Z n0 h0) (E1 : Exa Z h0 a1 "java/lang/Long") (g1 : n0 ≤ a1) (F : Fld Z h0 a1 "java/lang/Long" "value" "J" u) :
    Con l Z h0 ⟨"java/lang/Long", "<init>", "(J)V"⟩ jdk_35_method_26_code 3 none ws ({ frames := 2, cells := 0, slots := 0, locals := 24 } : Room) #[(.ref a1), (.long q)] (fun v h L => v = none ∧ Fr n0 L ∧ Keep h0 h [a1] ∧ Exa Z h a1 "java/lang/Long" ∧ Fld Z h a1 "java/lang/Long" "value" "J" (.long q)) := by
  refine Con.of (plainFor_of_name pn_1) (f0 := fun m => (mkF m 0 #[.val (.ref a1), .val (.long q), .second] [])) (fun m => by first | (simp [entryFrame, mkF, argsToLocals, Value.category, maxLocals]; done) | rfl) ?_
  intro p e s m below meth c T0 hx hby hml hown hnm hret hlk hZ X0 e0
  have hown : s.vm.findClass "java/lang/Long" = some m.cls := hown
  have N0 := Fr.nil n0
  have KP0 := Keep.refl h0 [a1]
  have GW0 : Grw h0 h0 := Nat.le_refl _
  show FinP p e below s _ _ _ (T0.setTop (mkF m 0 #[.val (.ref a1), .val (.long q), .second] []))
  refine FinP.st (fun _ => XS.aloadN X0.here hx rfl (Jvm.hb hby d_jdk_35_method_26_0) rfl rfl) ?_
  show FinP p e below s _ _ _ (T0.setTop (mkF m 1 #[.val (.ref a1), .val (.long q), .second] [(.ref a1)]))
  obtain ⟨_, T102, h102, L102, X102, e102, ⟨rfl, rfl, q102⟩, st102⟩ := goI X0 hx hZ hown rfl (hw _ (List.mem_of_getElem? (i := 96) rfl)) (hw _ (List.mem_of_getElem? (i := 97) rfl)) (hw _ (List.mem_of_getElem? (i := 101) rfl)) (by decide) ((rmNum l Z a0 hw [] a1 h0 n0 O).pay (W := 0) hZ (hw _ (List.mem_of_getElem? (i := 101) rfl)) (hw _ (List.mem_of_getElem? (i := 100) rfl)) (by decide) (by decide)) e0 (g := (mkF m 1 #[.val (.ref a1), .val (.long q), .second] [(.ref a1)])) rfl (by rw [hml]; rfl) [] [] (lenOf pd_0 rfl) rfl (by show 2 * 0 + _ ≤ _; exact Nat.le_of_eq rfl) (Jvm.hb hby d_jdk_35_method_26_1) rfl (by decide) (by decide)
  have e102 := e102.trans q102
  have N102 := N0.app (Fr.nil n0)
  refine FinP.st st102 ?_
  show FinP p e below s _ _ _ (T102.setTop (mkF m 4 #[.val (.ref a1), .val (.long q), .second] []))
  refine FinP.st (fun _ => XS.aloadN X102.here hx rfl (Jvm.hb hby d_jdk_35_method_26_4) rfl rfl) ?_
  show FinP p e below s _ _ _ (T102.setTop (mkF m 5 #[.val (.ref a1), .val (.long q), .second] [(.ref a1)]))
  refine FinP.st (fun _ => XS.lloadN X102.here hx rfl (Jvm.hb hby d_jdk_35_method_26_5) rfl) ?_
  show FinP p e below s _ _ _ (T102.setTop (mkF m 6 #[.val (.ref a1), .val (.long q), .second] [(.long q), (.ref a1)]))
  obtain ⟨T103, h103, X103, e103, W103, st103⟩ := putF X102 hx hZ hown (host := "") (Or.inl (hw _ (List.mem_of_getElem? (i := 70) rfl))) Via.refl e102 F E1 (Or.inr ⟨(hw _ (List.mem_of_getElem? (i := 71) rfl)), rfl, hnm⟩) (hw _ (List.mem_of_getElem? (i := 92) rfl)) (ty := .long) (by decide) rfl rfl (g := (mkF m 6 #[.val (.ref a1), .val (.long q), .second] [(.long q), (.ref a1)])) rfl rfl (Jvm.hb hby d_jdk_35_method_26_6)
  have N103 := Fr.snoc X103 N102 g1
  have F103 := F.same W103
  refine FinP.st st103 ?_
  show FinP p e below s _ _ _ (T103.setTop (mkF m 9 #[.val (.ref a1), .val (.long q), .second] []))
  have f104 := KP0.wr W103 (Or.inl (List.mem_of_getElem? (i := 0) rfl))
  have f105 := E1.wr W103
  exact finV X103 hx hlk hret (Jvm.hb hby d_jdk_35_method_26_9) e103 ⟨rfl, N103, f104, f105, F103⟩ (by decide) (by decide)
theorem idx_ok {q : Int64} (h1 : ¬ q < -128) (h2 : ¬ 127 < q) : (¬ (q.toInt32 + 128) < 0 ∧ (q.toInt32 + 128) < (256 : Int32)) ∧ ((q.toInt32 + 128) - 128).toInt64 = q := by
  rw [Int64.lt_iff_toInt_lt] at h1 h2
  have a1 : (-128 : Int64).toInt = -128 := rfl
  have a2 : (127 : Int64).toInt = 127 := rfl
  have b1 : (128 : Int32).toInt = 128 := rfl
  have b2 : (256 : Int32).toInt = 256 := rfl
  have b3 : (0 : Int32).toInt = 0 := rfl
  have c1 := c_l2i q
  have c2 := c_iadd q.toInt32 128
  have c3 := c_isub (q.toInt32 + 128) 128
  have r1 := rng32 q.toInt32
  have r2 := rng32 (q.toInt32 + 128)
  have r3 := rng32 ((q.toInt32 + 128) - 128)
  rw [a1] at h1; rw [a2] at h2; rw [b1] at c2 c3
  refine ⟨⟨?_, ?_⟩, ?_⟩
  · rw [Int32.lt_iff_toInt_lt, b3]; omega
  · rw [Int32.lt_iff_toInt_lt, b2]; omega
  · apply Int64.toInt_inj.mp
    rw [c_i2l]; omega
theorem d_jdk_35_method_24_0 : decode jdk_35_method_24_code 0 = .ok (.sipush 128, 3) := by decide +kernel
theorem d_jdk_35_method_24_3 : decode jdk_35_method_24_code 3 = .ok (.istore_n 2, 1) := by decide +kernel
theorem d_jdk_35_method_24_4 : decode jdk_35_method_24_code 4 = .ok (.lload_n 0, 1) := by decide +kernel
theorem d_jdk_35_method_24_5 : decode jdk_35_method_24_code 5 = .ok (.ldc2_w 230, 3) := by decide +kernel
theorem d_jdk_35_method_24_8 : decode jdk_35_method_24_code 8 = .ok (.lcmp, 1) := by decide +kernel
theorem d_jdk_35_method_24_9 : decode jdk_35_method_24_code 9 = .ok (.ifCond .lt 22, 3) := by decide +kernel
theorem d_jdk_35_method_24_31 : decode jdk_35_method_24_code 31 = .ok (.new 1, 3) := by decide +kernel
theorem d_jdk_35_method_24_34 : decode jdk_35_method_24_code 34 = .ok (.dup, 1) := by decide +kernel
theorem d_jdk_35_method_24_35 : decode jdk_35_method_24_code 35 = .ok (.lload_n 0, 1) := by decide +kernel
theorem d_jdk_35_method_24_36 : decode jdk_35_method_24_code 36 = .ok (.invokespecial 240, 3) := by decide +kernel
theorem pd_1 : parseMethodDescriptor "(J)V" = some ⟨[.long], none⟩ := by decide +kernel
theorem d_jdk_35_method_24_39 : decode jdk_35_method_24_code 39 = .ok (.areturn, 1) := by decide +kernel
theorem d_jdk_35_method_24_12 : decode jdk_35_method_24_code 12 = .ok (.lload_n 0, 1) := by decide +kernel
theorem d_jdk_35_method_24_13 : decode jdk_35_method_24_code 13 = .ok (.ldc2_w 232, 3) := by decide +kernel
theorem d_jdk_35_method_24_16 : decode jdk_35_method_24_code 16 = .ok (.lcmp, 1) := by decide +kernel
theorem d_jdk_35_method_24_17 : decode jdk_35_method_24_code 17 = .ok (.ifCond .gt 14, 3) := by decide +kernel
theorem d_jdk_35_method_24_20 : decode jdk_35_method_24_code 20 = .ok (.getstatic 234, 3) := by decide +kernel
theorem d_jdk_35_method_24_23 : decode jdk_35_method_24_code 23 = .ok (.lload_n 0, 1) := by decide +kernel
theorem d_jdk_35_method_24_24 : decode jdk_35_method_24_code 24 = .ok (.l2i, 1) := by decide +kernel
theorem d_jdk_35_method_24_25 : decode jdk_35_method_24_code 25 = .ok (.sipush 128, 3) := by decide +kernel
theorem d_jdk_35_method_24_28 : decode jdk_35_method_24_code 28 = .ok (.iadd, 1) := by decide +kernel
theorem d_jdk_35_method_24_29 : decode jdk_35_method_24_code 29 = .ok (.aaload, 1) := by decide +kernel
theorem d_jdk_35_method_24_30 : decode jdk_35_method_24_code 30 = .ok (.areturn, 1) := by decide +kernel
set_option maxRecDepth 65536 in
set_option maxHeartbeats 40000000 in
theorem rmVal (l : Launch) (Z : State) (a0 : Array Value) (hw : ∀ d ∈ tables_1, d.before a0 Z = true) (ws : List Jvm.Cond) (q : Int64) (ca : Addr) (cc : Cell) (h0 : Heap) (n0 : Nat) (O : Old Z n0 h0) (BX : Bxs Z ca cc "java/lang/Long" "J" 256 (fun j => .long (j - 128).toInt64)) (SL : Sta Z Z.heap "java/lang/Long$LongCache" "cache" "[Ljava/lang/Long;" (.ref ca)) :
    Con l Z h0 ⟨"java/lang/Long", "valueOf", "(J)Ljava/lang/Long;"⟩ jdk_35_method_24_code 3 (some (.object "java/lang/Long")) ws ({ frames := 3, cells := 1, slots := 1, locals := 40 } : Room) #[(.long q)] (fun v h L => ∃ b, v = some (.ref b) ∧ Fr n0 L ∧ Keep h0 h [] ∧ Exa Z h b "java/lang/Long" ∧ Fld Z h b "java/lang/Long" "value" "J" (.long q)) := by
  refine Con.of (plainFor_of_name pn_1) (f0 := fun m => (mkF m 0 #[.val (.long q), .second, .unset] [])) (fun m => by first | (simp [entryFrame, mkF, argsToLocals, Value.category, maxLocals]; done) | rfl) ?_
  intro p e s m below meth c T0 hx hby hml hown hnm hret hlk hZ X0 e0
  have hown : s.vm.findClass "java/lang/Long" = some m.cls := hown
  have N0 := Fr.nil n0
  have KP0 := Keep.refl h0 []
  have GW0 : Grw h0 h0 := Nat.le_refl _
  show FinP p e below s _ _ _ (T0.setTop (mkF m 0 #[.val (.long q), .second, .unset] []))
  refine FinP.st (fun _ => XS.sipush X0.here hx rfl (Jvm.hb hby d_jdk_35_method_24_0)) ?_
  show FinP p e below s _ _ _ (T0.setTop (mkF m 3 #[.val (.long q), .second, .unset] [(.int (128 : Int32))]))
  refine FinP.st (fun _ => XS.istoreN X0.here hx rfl (Jvm.hb hby d_jdk_35_method_24_3) rfl (l' := #[.val (.long q), .second, .val (.int (128 : Int32))]) rfl) ?_
  show FinP p e below s _ _ _ (T0.setTop (mkF m 4 #[.val (.long q), .second, .val (.int (128 : Int32))] []))
  refine FinP.st (fun _ => XS.lloadN X0.here hx rfl (Jvm.hb hby d_jdk_35_method_24_4) rfl) ?_
  show FinP p e below s _ _ _ (T0.setTop (mkF m 5 #[.val (.long q), .second, .val (.int (128 : Int32))] [(.long q)]))
  refine FinP.st (fun _ => X0.ldc2J hx hown (mvT hZ (hw _ (List.mem_of_getElem? (i := 8) rfl))) rfl (Jvm.hb hby d_jdk_35_method_24_5)) ?_
  show FinP p e below s _ _ _ (T0.setTop (mkF m 8 #[.val (.long q), .second, .val (.int (128 : Int32))] [(.long (-128 : Int64)), (.long q)]))
  refine FinP.st (fun _ => XS.lcmp X0.here hx rfl (Jvm.hb hby d_jdk_35_method_24_8) rfl) ?_
  show FinP p e below s _ _ _ (T0.setTop (mkF m 9 #[.val (.long q), .second, .val (.int (128 : Int32))] [(.int (lcmpW q (-128 : Int64)))]))
  by_cases hq1 : (lcmpW q (-128 : Int64)) < (0 : Int32)
  · skip
    refine FinP.st (fun _ => XS.ifYes X0.here hx rfl (pc0 := 9) (pc' := 31) rfl (Jvm.hb hby d_jdk_35_method_24_9) rfl (zlt hq1) (by decide) (by decide)) ?_
    show FinP p e below s _ _ _ (T0.setTop (mkF m 31 #[.val (.long q), .second, .val (.int (128 : Int32))] []))
    obtain ⟨b106, g106⟩ : ∃ z, z = h0.size := ⟨_, rfl⟩
    have ge106 : n0 ≤ b106 := by rw [g106]; exact O.own_le
    have sz106 : h0.size ≤ b106 := by rw [g106]; exact GW0
    obtain ⟨T106, h106, X106, e106, E106, A106, D106, -, st106⟩ := newO X0 hx hZ hown (hw _ (List.mem_of_getElem? (i := 91) rfl)) (hw _ (List.mem_of_getElem? (i := 92) rfl)) (hw _ (List.mem_of_getElem? (i := 6) rfl)) e0 (g := (mkF m 31 #[.val (.long q), .second, .val (.int (128 : Int32))] [])) rfl (Jvm.hb hby d_jdk_35_method_24_31) (by decide) (by decide)
    rw [← g106] at A106 D106 st106
    have F106_value : Fld Z h106 b106 "java/lang/Long" "value" "J" (.long (0 : Int64)) := D106 (Or.inr (hw _ (List.mem_of_getElem? (i := 71) rfl))) (ty := .long) (by decide)
    refine FinP.st st106 ?_
    show FinP p e below s _ _ _ (T106.setTop (mkF m 34 #[.val (.long q), .second, .val (.int (128 : Int32))] [(.ref b106)]))
    refine FinP.st (fun _ => XS.dup X106.here hx rfl (Jvm.hb hby d_jdk_35_method_24_34) rfl rfl) ?_
    show FinP p e below s _ _ _ (T106.setTop (mkF m 35 #[.val (.long q), .second, .val (.int (128 : Int32))] [(.ref b106), (.ref b106)]))
    refine FinP.st (fun _ => XS.lloadN X106.here hx rfl (Jvm.hb hby d_jdk_35_method_24_35) rfl) ?_
    show FinP p e below s _ _ _ (T106.setTop (mkF m 36 #[.val (.long q), .second, .val (.int (128 : Int32))] [(.long q), (.ref b106), (.ref b106)]))
    have f107 := O.ext E106
    obtain ⟨_, T108, h108, L108, X108, e108, ⟨rfl, Nq108, K108, E108, F108⟩, st108⟩ := goI X106 hx hZ hown rfl (hw _ (List.mem_of_getElem? (i := 93) rfl)) (hw _ (List.mem_of_getElem? (i := 94) rfl)) (hw _ (List.mem_of_getElem? (i := 95) rfl)) (by decide) ((rmLong l Z a0 hw [] b106 q _ h106 n0 f107 A106 ge106 F106_value).pay (W := 1) hZ (hw _ (List.mem_of_getElem? (i := 95) rfl)) (hw _ (List.mem_of_getElem? (i := 6) rfl)) (by decide) (by decide)) e106 (g := (mkF m 36 #[.val (.long q), .second, .val (.int (128 : Int32))] [(.long q), (.ref b106), (.ref b106)])) rfl (by rw [hml]; rfl) [(.long q)] [(.ref b106)] (lenOf pd_1 rfl) rfl (by show 2 * 0 + _ ≤ _; exact Nat.le_of_eq rfl) (Jvm.hb hby d_jdk_35_method_24_36) rfl (by decide) (by decide)
    have N108 := N0.app Nq108
    refine FinP.st st108 ?_
    show FinP p e below s _ _ _ (T108.setTop (mkF m 39 #[.val (.long q), .second, .val (.int (128 : Int32))] [(.ref b106)]))
    have f109 := KP0.ext E106
    have f110 := f109.trans K108 (allS (Or.inr sz106) (all0))
    exact finA X108 hx hlk hret rfl rfl rfl (Jvm.hb hby d_jdk_35_method_24_39) e108 ⟨b106, rfl, N108, f110, E108, F108⟩ (by decide) (by decide)
  · skip
    refine FinP.st (fun _ => XS.ifNo X0.here hx rfl (Jvm.hb hby d_jdk_35_method_24_9) rfl (zltN hq1)) ?_
    show FinP p e below s _ _ _ (T0.setTop (mkF m 12 #[.val (.long q), .second, .val (.int (128 : Int32))] []))
    refine FinP.st (fun _ => XS.lloadN X0.here hx rfl (Jvm.hb hby d_jdk_35_method_24_12) rfl) ?_
    show FinP p e below s _ _ _ (T0.setTop (mkF m 13 #[.val (.long q), .second, .val (.int (128 : Int32))] [(.long q)]))
    refine FinP.st (fun _ => X0.ldc2J hx hown (mvT hZ (hw _ (List.mem_of_getElem? (i := 9) rfl))) rfl (Jvm.hb hby d_jdk_35_method_24_13)) ?_
    show FinP p e below s _ _ _ (T0.setTop (mkF m 16 #[.val (.long q), .second, .val (.int (128 : Int32))] [(.long (127 : Int64)), (.long q)]))
    refine FinP.st (fun _ => XS.lcmp X0.here hx rfl (Jvm.hb hby d_jdk_35_method_24_16) rfl) ?_
    show FinP p e below s _ _ _ (T0.setTop (mkF m 17 #[.val (.long q), .second, .val (.int (128 : Int32))] [(.int (lcmpW q (127 : Int64)))]))
    by_cases hq2 : (0 : Int32) < (lcmpW q (127 : Int64))
    · skip
      refine FinP.st (fun _ => XS.ifYes X0.here hx rfl (pc0 := 17) (pc' := 31) rfl (Jvm.hb hby d_jdk_35_method_24_17) rfl (zgt hq2) (by decide) (by decide)) ?_
      show FinP p e below s _ _ _ (T0.setTop (mkF m 31 #[.val (.long q), .second, .val (.int (128 : Int32))] []))
      obtain ⟨b111, g111⟩ : ∃ z, z = h0.size := ⟨_, rfl⟩
      have ge111 : n0 ≤ b111 := by rw [g111]; exact O.own_le
      have sz111 : h0.size ≤ b111 := by rw [g111]; exact GW0
      obtain ⟨T111, h111, X111, e111, E111, A111, D111, -, st111⟩ := newO X0 hx hZ hown (hw _ (List.mem_of_getElem? (i := 91) rfl)) (hw _ (List.mem_of_getElem? (i := 92) rfl)) (hw _ (List.mem_of_getElem? (i := 6) rfl)) e0 (g := (mkF m 31 #[.val (.long q), .second, .val (.int (128 : Int32))] [])) rfl (Jvm.hb hby d_jdk_35_method_24_31) (by decide) (by decide)
      rw [← g111] at A111 D111 st111
      have F111_value : Fld Z h111 b111 "java/lang/Long" "value" "J" (.long (0 : Int64)) := D111 (Or.inr (hw _ (List.mem_of_getElem? (i := 71) rfl))) (ty := .long) (by decide)
      refine FinP.st st111 ?_
      show FinP p e below s _ _ _ (T111.setTop (mkF m 34 #[.val (.long q), .second, .val (.int (128 : Int32))] [(.ref b111)]))
      refine FinP.st (fun _ => XS.dup X111.here hx rfl (Jvm.hb hby d_jdk_35_method_24_34) rfl rfl) ?_
      show FinP p e below s _ _ _ (T111.setTop (mkF m 35 #[.val (.long q), .second, .val (.int (128 : Int32))] [(.ref b111), (.ref b111)]))
      refine FinP.st (fun _ => XS.lloadN X111.here hx rfl (Jvm.hb hby d_jdk_35_method_24_35) rfl) ?_
      show FinP p e below s _ _ _ (T111.setTop (mkF m 36 #[.val (.long q), .second, .val (.int (128 : Int32))] [(.long q), (.ref b111), (.ref b111)]))
      have f112 := O.ext E111
      obtain ⟨_, T113, h113, L113, X113, e113, ⟨rfl, Nq113, K113, E113, F113⟩, st113⟩ := goI X111 hx hZ hown rfl (hw _ (List.mem_of_getElem? (i := 93) rfl)) (hw _ (List.mem_of_getElem? (i := 94) rfl)) (hw _ (List.mem_of_getElem? (i := 95) rfl)) (by decide) ((rmLong l Z a0 hw [] b111 q _ h111 n0 f112 A111 ge111 F111_value).pay (W := 1) hZ (hw _ (List.mem_of_getElem? (i := 95) rfl)) (hw _ (List.mem_of_getElem? (i := 6) rfl)) (by decide) (by decide)) e111 (g := (mkF m 36 #[.val (.long q), .second, .val (.int (128 : Int32))] [(.long q), (.ref b111), (.ref b111)])) rfl (by rw [hml]; rfl) [(.long q)] [(.ref b111)] (lenOf pd_1 rfl) rfl (by show 2 * 0 + _ ≤ _; exact Nat.le_of_eq rfl) (Jvm.hb hby d_jdk_35_method_24_36) rfl (by decide) (by decide)
      have N113 := N0.app Nq113
      refine FinP.st st113 ?_
      show FinP p e below s _ _ _ (T113.setTop (mkF m 39 #[.val (.long q), .second, .val (.int (128 : Int32))] [(.ref b111)]))
      have f114 := KP0.ext E111
      have f115 := f114.trans K113 (allS (Or.inr sz111) (all0))
      exact finA X113 hx hlk hret rfl rfl rfl (Jvm.hb hby d_jdk_35_method_24_39) e113 ⟨b111, rfl, N113, f115, E113, F113⟩ (by decide) (by decide)
    · skip
      refine FinP.st (fun _ => XS.ifNo X0.here hx rfl (Jvm.hb hby d_jdk_35_method_24_17) rfl (zgtN hq2)) ?_
      show FinP p e below s _ _ _ (T0.setTop (mkF m 20 #[.val (.long q), .second, .val (.int (128 : Int32))] []))
      obtain ⟨T116, X116, e116, st116⟩ := getS (host := "") X0 hx hZ hown (hw _ (List.mem_of_getElem? (i := 10) rfl)) Via.refl e0 (SL.ext O.2) (g := (mkF m 20 #[.val (.long q), .second, .val (.int (128 : Int32))] [])) rfl (Jvm.hb hby d_jdk_35_method_24_20)
      refine FinP.st st116 ?_
      show FinP p e below s _ _ _ (T116.setTop (mkF m 23 #[.val (.long q), .second, .val (.int (128 : Int32))] [(.ref ca)]))
      refine FinP.st (fun _ => XS.lloadN X116.here hx rfl (Jvm.hb hby d_jdk_35_method_24_23) rfl) ?_
      show FinP p e below s _ _ _ (T116.setTop (mkF m 24 #[.val (.long q), .second, .val (.int (128 : Int32))] [(.long q), (.ref ca)]))
      refine FinP.st (fun _ => XS.l2i X116.here hx rfl (Jvm.hb hby d_jdk_35_method_24_24) rfl) ?_
      show FinP p e below s _ _ _ (T116.setTop (mkF m 25 #[.val (.long q), .second, .val (.int (128 : Int32))] [(.int (q.toInt32)), (.ref ca)]))
      refine FinP.st (fun _ => XS.sipush X116.here hx rfl (Jvm.hb hby d_jdk_35_method_24_25)) ?_
      show FinP p e below s _ _ _ (T116.setTop (mkF m 28 #[.val (.long q), .second, .val (.int (128 : Int32))] [(.int (128 : Int32)), (.int (q.toInt32)), (.ref ca)]))
      refine FinP.st (fun _ => XS.iadd X116.here hx rfl (Jvm.hb hby d_jdk_35_method_24_28) rfl) ?_
      show FinP p e below s _ _ _ (T116.setTop (mkF m 29 #[.val (.long q), .second, .val (.int (128 : Int32))] [(.int ((q.toInt32) + (128 : Int32))), (.ref ca)]))
      have hi := idx_ok (fun z => hq1 ((lw_lt _ _).mpr z)) (fun z => hq2 ((lw_gt _ _).mpr z))
      obtain ⟨BA, BS, BN, BV⟩ := BX
      have hin := inb_of BS hi.1
      obtain ⟨b, hb, EB, FB⟩ := BV _ hin
      refine FinP.st (X116.aaload hx (by rw [e116]; exact (BA.ext O.2).1) (State.isArrayOf_alike hZ.alike BA.2.1) rfl BA.2.2 hin hb (g := (mkF m 29 #[.val (.long q), .second, .val (.int (128 : Int32))] [(.int ((q.toInt32) + (128 : Int32))), (.ref ca)])) rfl rfl (Jvm.hb hby d_jdk_35_method_24_29)) ?_
      show FinP p e below s _ _ _ (T116.setTop (mkF m 30 #[.val (.long q), .second, .val (.int (128 : Int32))] [(.ref b)]))
      exact finA X116 hx hlk hret rfl rfl rfl (Jvm.hb hby d_jdk_35_method_24_30) e116 ⟨b, rfl, N0, KP0, EB.ext O.2, by have FBx : Fld Z Z.heap b "java/lang/Long" "value" "J" (.long ((q.toInt32 + 128) - 128).toInt64) := FB; rw [hi.2] at FBx; exact FBx.ext O.2⟩ (by decide) (by decide)
theorem pn_2 : plainName "com/example/fillwire/fillwire/book/Order" = true := by first | (simp [plainName, overriddenIn]; done) | decide +kernel
theorem d_prog_3_method_1_0 : decode prog_3_method_1_code 0 = .ok (.aload_n 0, 1) := by decide +kernel
theorem d_prog_3_method_1_1 : decode prog_3_method_1_code 1 = .ok (.invokespecial 1, 3) := by decide +kernel
theorem d_prog_3_method_1_4 : decode prog_3_method_1_code 4 = .ok (.aload_n 0, 1) := by decide +kernel
theorem d_prog_3_method_1_5 : decode prog_3_method_1_code 5 = .ok (.lload_n 1, 1) := by decide +kernel
theorem d_prog_3_method_1_6 : decode prog_3_method_1_code 6 = .ok (.putfield 7, 3) := by decide +kernel
theorem d_prog_3_method_1_9 : decode prog_3_method_1_code 9 = .ok (.aload_n 0, 1) := by decide +kernel
theorem d_prog_3_method_1_10 : decode prog_3_method_1_code 10 = .ok (.aload_n 3, 1) := by decide +kernel
theorem d_prog_3_method_1_11 : decode prog_3_method_1_code 11 = .ok (.putfield 13, 3) := by decide +kernel
theorem d_prog_3_method_1_14 : decode prog_3_method_1_code 14 = .ok (.aload_n 0, 1) := by decide +kernel
theorem d_prog_3_method_1_15 : decode prog_3_method_1_code 15 = .ok (.lload 4, 2) := by decide +kernel
theorem d_prog_3_method_1_17 : decode prog_3_method_1_code 17 = .ok (.putfield 17, 3) := by decide +kernel
theorem d_prog_3_method_1_20 : decode prog_3_method_1_code 20 = .ok (.aload_n 0, 1) := by decide +kernel
theorem d_prog_3_method_1_21 : decode prog_3_method_1_code 21 = .ok (.lload 6, 2) := by decide +kernel
theorem d_prog_3_method_1_23 : decode prog_3_method_1_code 23 = .ok (.putfield 20, 3) := by decide +kernel
theorem d_prog_3_method_1_26 : decode prog_3_method_1_code 26 = .ok (.aload_n 0, 1) := by decide +kernel
theorem d_prog_3_method_1_27 : decode prog_3_method_1_code 27 = .ok (.aload 8, 2) := by decide +kernel
theorem d_prog_3_method_1_29 : decode prog_3_method_1_code 29 = .ok (.putfield 23, 3) := by decide +kernel
theorem d_prog_3_method_1_32 : decode prog_3_method_1_code 32 = .ok (.return_, 1) := by decide +kernel
set_option maxRecDepth 65536 in
set_option maxHeartbeats 40000000 in
theorem rmOrder (l : Launch) (Z : State) (a0 : Array Value) (hw : ∀ d ∈ tables_1, d.before a0 Z = true) (ws : List Jvm.Cond) (o sd rq : Addr) (i pr qu : Int64) (u_id : Value) (u_side : Value) (u_price : Value) (u_quantity : Value) (u_request : Value) (h0 : Heap) (n0 : Nat) (O : Old Z n0 h0) (E1 : Exa Z h0 o "com/example/fillwire/fillwire/book/Order") (g1 : n0 ≤ o) (F_id : Fld Z h0 o "com/example/fillwire/fillwire/book/Order" "id" "J" u_id) (F_side : Fld Z h0 o "com/example/fillwire/fillwire/book/Order" "side" "Lcom/example/fillwire/fillwire/book/Side;" u_side) (F_price : Fld Z h0 o "com/example/fillwire/fillwire/book/Order" "price" "J" u_price) (F_quantity : Fld Z h0 o "com/example/fillwire/fillwire/book/Order" "quantity" "J" u_quantity) (F_request : Fld Z h0 o "com/example/fillwire/fillwire/book/Order" "request" "Ljava/lang/Object;" u_request) (F_cumQty : Fld Z h0 o "com/example/fillwire/fillwire/book/Order" "cumQty" "J" (.long 0)) (F_cancelled : Fld Z h0 o "com/example/fillwire/fillwire/book/Order" "cancelled" "Z" (.int 0)) (F_notional : Fld Z h0 o "com/example/fillwire/fillwire/book/Order" "notional" "J" (.long 0)) (F_largeNotional : Fld Z h0 o "com/example/fillwire/fillwire/book/Order" "largeNotional" "Ljava/math/BigDecimal;" .null) :
    Con l Z h0 ⟨"com/example/fillwire/fillwire/book/Order", "<init>", "(JLcom/example/fillwire/fillwire/book/Side;JJLjava/lang/Object;)V"⟩ prog_3_method_1_code 9 none ws ({ frames := 1, cells := 0, slots := 0, locals := 12 } : Room) #[(.ref o), (.long i), (.ref sd), (.long pr), (.long qu), (.ref rq)] (fun v h L => v = none ∧ Fr n0 L ∧ Keep h0 h [o] ∧ Ord Z h o i pr qu rq 0 0 0) := by
  refine Con.of (plainFor_of_name pn_2) (f0 := fun m => (mkF m 0 #[.val (.ref o), .val (.long i), .second, .val (.ref sd), .val (.long pr), .second, .val (.long qu), .second, .val (.ref rq)] [])) (fun m => by first | (simp [entryFrame, mkF, argsToLocals, Value.category, maxLocals]; done) | rfl) ?_
  intro p e s m below meth c T0 hx hby hml hown hnm hret hlk hZ X0 e0
  have hown : s.vm.findClass "com/example/fillwire/fillwire/book/Order" = some m.cls := hown
  have N0 := Fr.nil n0
  have KP0 := Keep.refl h0 [o]
  have GW0 : Grw h0 h0 := Nat.le_refl _
  show FinP p e below s _ _ _ (T0.setTop (mkF m 0 #[.val (.ref o), .val (.long i), .second, .val (.ref sd), .val (.long pr), .second, .val (.long qu), .second, .val (.ref rq)] []))
  refine FinP.st (fun _ => XS.aloadN X0.here hx rfl (Jvm.hb hby d_prog_3_method_1_0) rfl rfl) ?_
  show FinP p e below s _ _ _ (T0.setTop (mkF m 1 #[.val (.ref o), .val (.long i), .second, .val (.ref sd), .val (.long pr), .second, .val (.long qu), .second, .val (.ref rq)] [(.ref o)]))
  obtain ⟨T117, X117, e117, st117⟩ := initO X0 hx hZ hown (hw _ (List.mem_of_getElem? (i := 18) rfl)) (hw _ (List.mem_of_getElem? (i := 19) rfl)) (hw _ (List.mem_of_getElem? (i := 20) rfl)) e0 (g := (mkF m 1 #[.val (.ref o), .val (.long i), .second, .val (.ref sd), .val (.long pr), .second, .val (.long qu), .second, .val (.ref rq)] [(.ref o)])) rfl (by rw [hml]; rfl) rfl (Jvm.hb hby d_prog_3_method_1_1) (by decide) (W := 0) (by show 2 * 0 + _ ≤ _; exact Nat.le_of_eq rfl) (by decide)
  refine FinP.st st117 ?_
  show FinP p e below s _ _ _ (T117.setTop (mkF m 4 #[.val (.ref o), .val (.long i), .second, .val (.ref sd), .val (.long pr), .second, .val (.long qu), .second, .val (.ref rq)] []))
  refine FinP.st (fun _ => XS.aloadN X117.here hx rfl (Jvm.hb hby d_prog_3_method_1_4) rfl rfl) ?_
  show FinP p e below s _ _ _ (T117.setTop (mkF m 5 #[.val (.ref o), .val (.long i), .second, .val (.ref sd), .val (.long pr), .second, .val (.long qu), .second, .val (.ref rq)] [(.ref o)]))
  refine FinP.st (fun _ => XS.lloadN X117.here hx rfl (Jvm.hb hby d_prog_3_method_1_5) rfl) ?_
  show FinP p e below s _ _ _ (T117.setTop (mkF m 6 #[.val (.ref o), .val (.long i), .second, .val (.ref sd), .val (.long pr), .second, .val (.long qu), .second, .val (.ref rq)] [(.long i), (.ref o)]))
  obtain ⟨T118, h118, X118, e118, W118, st118⟩ := putF X117 hx hZ hown (host := "") (Or.inl (hw _ (List.mem_of_getElem? (i := 21) rfl))) Via.refl e117 F_id E1 (Or.inl (hw _ (List.mem_of_getElem? (i := 22) rfl))) (hw _ (List.mem_of_getElem? (i := 13) rfl)) (ty := .long) (by decide) rfl rfl (g := (mkF m 6 #[.val (.ref o), .val (.long i), .second, .val (.ref sd), .val (.long pr), .second, .val (.long qu), .second, .val (.ref rq)] [(.long i), (.ref o)])) rfl rfl (Jvm.hb hby d_prog_3_method_1_6)
  have N118 := Fr.snoc X118 N0 g1
  have F118 := F_id.same W118
  refine FinP.st st118 ?_
  show FinP p e below s _ _ _ (T118.setTop (mkF m 9 #[.val (.ref o), .val (.long i), .second, .val (.ref sd), .val (.long pr), .second, .val (.long qu), .second, .val (.ref rq)] []))
  refine FinP.st (fun _ => XS.aloadN X118.here hx rfl (Jvm.hb hby d_prog_3_method_1_9) rfl rfl) ?_
  show FinP p e below s _ _ _ (T118.setTop (mkF m 10 #[.val (.ref o), .val (.long i), .second, .val (.ref sd), .val (.long pr), .second, .val (.long qu), .second, .val (.ref rq)] [(.ref o)]))
  refine FinP.st (fun _ => XS.aloadN X118.here hx rfl (Jvm.hb hby d_prog_3_method_1_10) rfl rfl) ?_
  show FinP p e below s _ _ _ (T118.setTop (mkF m 11 #[.val (.ref o), .val (.long i), .second, .val (.ref sd), .val (.long pr), .second, .val (.long qu), .second, .val (.ref rq)] [(.ref sd), (.ref o)]))
  have f119 := F_side.other W118 (Or.inr (slot_ne (Or.inr (hw _ (List.mem_of_getElem? (i := 24) rfl))) (Or.inl (hw _ (List.mem_of_getElem? (i := 22) rfl))) (by decide) (t := (.object "com/example/fillwire/fillwire/book/Side")) (t' := .long) (by decide) (by decide)))
  have f120 := E1.wr W118
  obtain ⟨T121, h121, X121, e121, W121, st121⟩ := putF X118 hx hZ hown (host := "") (Or.inl (hw _ (List.mem_of_getElem? (i := 23) rfl))) Via.refl e118 f119 f120 (Or.inr ⟨(hw _ (List.mem_of_getElem? (i := 24) rfl)), rfl, hnm⟩) (hw _ (List.mem_of_getElem? (i := 13) rfl)) (ty := (.object "com/example/fillwire/fillwire/book/Side")) (by decide) rfl rfl (g := (mkF m 11 #[.val (.ref o), .val (.long i), .second, .val (.ref sd), .val (.long pr), .second, .val (.long qu), .second, .val (.ref rq)] [(.ref sd), (.ref o)])) rfl rfl (Jvm.hb hby d_prog_3_method_1_11)
  have N121 := Fr.snoc X121 N118 g1
  have F121 := f119.same W121
  refine FinP.st st121 ?_
  show FinP p e below s _ _ _ (T121.setTop (mkF m 14 #[.val (.ref o), .val (.long i), .second, .val (.ref sd), .val (.long pr), .second, .val (.long qu), .second, .val (.ref rq)] []))
  refine FinP.st (fun _ => XS.aloadN X121.here hx rfl (Jvm.hb hby d_prog_3_method_1_14) rfl rfl) ?_
  show FinP p e below s _ _ _ (T121.setTop (mkF m 15 #[.val (.ref o), .val (.long i), .second, .val (.ref sd), .val (.long pr), .second, .val (.long qu), .second, .val (.ref rq)] [(.ref o)]))
  refine FinP.st (fun _ => XS.lload X121.here hx rfl (Jvm.hb hby d_prog_3_method_1_15) rfl) ?_
  show FinP p e below s _ _ _ (T121.setTop (mkF m 17 #[.val (.ref o), .val (.long i), .second, .val (.ref sd), .val (.long pr), .second, .val (.long qu), .second, .val (.ref rq)] [(.long pr), (.ref o)]))
  have f122 := F_price.other W118 (Or.inr (slot_ne (Or.inl (hw _ (List.mem_of_getElem? (i := 26) rfl))) (Or.inl (hw _ (List.mem_of_getElem? (i := 22) rfl))) (by decide) (t := .long) (t' := .long) (by decide) (by decide)))
  have f123 := f122.other W121 (Or.inr (slot_ne (Or.inl (hw _ (List.mem_of_getElem? (i := 26) rfl))) (Or.inr (hw _ (List.mem_of_getElem? (i := 24) rfl))) (by decide) (t := .long) (t' := (.object "com/example/fillwire/fillwire/book/Side")) (by decide) (by decide)))
  have f124 := f120.wr W121
  obtain ⟨T125, h125, X125, e125, W125, st125⟩ := putF X121 hx hZ hown (host := "") (Or.inl (hw _ (List.mem_of_getElem? (i := 25) rfl))) Via.refl e121 f123 f124 (Or.inl (hw _ (List.mem_of_getElem? (i := 26) rfl))) (hw _ (List.mem_of_getElem? (i := 13) rfl)) (ty := .long) (by decide) rfl rfl (g := (mkF m 17 #[.val (.ref o), .val (.long i), .second, .val (.ref sd), .val (.long pr), .second, .val (.long qu), .second, .val (.ref rq)] [(.long pr), (.ref o)])) rfl rfl (Jvm.hb hby d_prog_3_method_1_17)
  have N125 := Fr.snoc X125 N121 g1
  have F125 := f123.same W125
  refine FinP.st st125 ?_
  show FinP p e below s _ _ _ (T125.setTop (mkF m 20 #[.val (.ref o), .val (.long i), .second, .val (.ref sd), .val (.long pr), .second, .val (.long qu), .second, .val (.ref rq)] []))
  refine FinP.st (fun _ => XS.aloadN X125.here hx rfl (Jvm.hb hby d_prog_3_method_1_20) rfl rfl) ?_
  show FinP p e below s _ _ _ (T125.setTop (mkF m 21 #[.val (.ref o), .val (.long i), .second, .val (.ref sd), .val (.long pr), .second, .val (.long qu), .second, .val (.ref rq)] [(.ref o)]))
  refine FinP.st (fun _ => XS.lload X125.here hx rfl (Jvm.hb hby d_prog_3_method_1_21) rfl) ?_
  show FinP p e below s _ _ _ (T125.setTop (mkF m 23 #[.val (.ref o), .val (.long i), .second, .val (.ref sd), .val (.long pr), .second, .val (.long qu), .second, .val (.ref rq)] [(.long qu), (.ref o)]))
  have f126 := F_quantity.other W118 (Or.inr (slot_ne (Or.inl (hw _ (List.mem_of_getElem? (i := 28) rfl))) (Or.inl (hw _ (List.mem_of_getElem? (i := 22) rfl))) (by decide) (t := .long) (t' := .long) (by decide) (by decide)))
  have f127 := f126.other W121 (Or.inr (slot_ne (Or.inl (hw _ (List.mem_of_getElem? (i := 28) rfl))) (Or.inr (hw _ (List.mem_of_getElem? (i := 24) rfl))) (by decide) (t := .long) (t' := (.object "com/example/fillwire/fillwire/book/Side")) (by decide) (by decide)))
  have f128 := f127.other W125 (Or.inr (slot_ne (Or.inl (hw _ (List.mem_of_getElem? (i := 28) rfl))) (Or.inl (hw _ (List.mem_of_getElem? (i := 26) rfl))) (by decide) (t := .long) (t' := .long) (by decide) (by decide)))
  have f129 := f124.wr W125
  obtain ⟨T130, h130, X130, e130, W130, st130⟩ := putF X125 hx hZ hown (host := "") (Or.inl (hw _ (List.mem_of_getElem? (i := 27) rfl))) Via.refl e125 f128 f129 (Or.inl (hw _ (List.mem_of_getElem? (i := 28) rfl))) (hw _ (List.mem_of_getElem? (i := 13) rfl)) (ty := .long) (by decide) rfl rfl (g := (mkF m 23 #[.val (.ref o), .val (.long i), .second, .val (.ref sd), .val (.long pr), .second, .val (.long qu), .second, .val (.ref rq)] [(.long qu), (.ref o)])) rfl rfl (Jvm.hb hby d_prog_3_method_1_23)
  have N130 := Fr.snoc X130 N125 g1
  have F130 := f128.same W130
  refine FinP.st st130 ?_
  show FinP p e below s _ _ _ (T130.setTop (mkF m 26 #[.val (.ref o), .val (.long i), .second, .val (.ref sd), .val (.long pr), .second, .val (.long qu), .second, .val (.ref rq)] []))
  refine FinP.st (fun _ => XS.aloadN X130.here hx rfl (Jvm.hb hby d_prog_3_method_1_26) rfl rfl) ?_
  show FinP p e below s _ _ _ (T130.setTop (mkF m 27 #[.val (.ref o), .val (.long i), .second, .val (.ref sd), .val (.long pr), .second, .val (.long qu), .second, .val (.ref rq)] [(.ref o)]))
  refine FinP.st (fun _ => XS.aload X130.here hx rfl (Jvm.hb hby d_prog_3_method_1_27) rfl rfl) ?_
  show FinP p e below s _ _ _ (T130.setTop (mkF m 29 #[.val (.ref o), .val (.long i), .second, .val (.ref sd), .val (.long pr), .second, .val (.long qu), .second, .val (.ref rq)] [(.ref rq), (.ref o)]))
  have f131 := F_request.other W118 (Or.inr (slot_ne (Or.inl (hw _ (List.mem_of_getElem? (i := 30) rfl))) (Or.inl (hw _ (List.mem_of_getElem? (i := 22) rfl))) (by decide) (t := (.object "java/lang/Object")) (t' := .long) (by decide) (by decide)))
  have f132 := f131.other W121 (Or.inr (slot_ne (Or.inl (hw _ (List.mem_of_getElem? (i := 30) rfl))) (Or.inr (hw _ (List.mem_of_getElem? (i := 24) rfl))) (by decide) (t := (.object "java/lang/Object")) (t' := (.object "com/example/fillwire/fillwire/book/Side")) (by decide) (by decide)))
  have f133 := f132.other W125 (Or.inr (slot_ne (Or.inl (hw _ (List.mem_of_getElem? (i := 30) rfl))) (Or.inl (hw _ (List.mem_of_getElem? (i := 26) rfl))) (by decide) (t := (.object "java/lang/Object")) (t' := .long) (by decide) (by decide)))
  have f134 := f133.other W130 (Or.inr (slot_ne (Or.inl (hw _ (List.mem_of_getElem? (i := 30) rfl))) (Or.inl (hw _ (List.mem_of_getElem? (i := 28) rfl))) (by decide) (t := (.object "java/lang/Object")) (t' := .long) (by decide) (by decide)))
  have f135 := f129.wr W130
  obtain ⟨T136, h136, X136, e136, W136, st136⟩ := putF X130 hx hZ hown (host := "") (Or.inl (hw _ (List.mem_of_getElem? (i := 29) rfl))) Via.refl e130 f134 f135 (Or.inl (hw _ (List.mem_of_getElem? (i := 30) rfl))) (hw _ (List.mem_of_getElem? (i := 13) rfl)) (ty := (.object "java/lang/Object")) (by decide) rfl rfl (g := (mkF m 29 #[.val (.ref o), .val (.long i), .second, .val (.ref sd), .val (.long pr), .second, .val (.long qu), .second, .val (.ref rq)] [(.ref rq), (.ref o)])) rfl rfl (Jvm.hb hby d_prog_3_method_1_29)
  have N136 := Fr.snoc X136 N130 g1
  have F136 := f134.same W136
  refine FinP.st st136 ?_
  show FinP p e below s _ _ _ (T136.setTop (mkF m 32 #[.val (.ref o), .val (.long i), .second, .val (.ref sd), .val (.long pr), .second, .val (.long qu), .second, .val (.ref rq)] []))
  have f137 := KP0.wr W118 (Or.inl (List.mem_of_getElem? (i := 0) rfl))
  have f138 := f137.wr W121 (Or.inl (List.mem_of_getElem? (i := 0) rfl))
  have f139 := f138.wr W125 (Or.inl (List.mem_of_getElem? (i := 0) rfl))
  have f140 := f139.wr W130 (Or.inl (List.mem_of_getElem? (i := 0) rfl))
  have f141 := f140.wr W136 (Or.inl (List.mem_of_getElem? (i := 0) rfl))
  have f142 := f135.wr W136
  have f143 := F118.other W121 (Or.inr (slot_ne (Or.inl (hw _ (List.mem_of_getElem? (i := 22) rfl))) (Or.inr (hw _ (List.mem_of_getElem? (i := 24) rfl))) (by decide) (t := .long) (t' := (.object "com/example/fillwire/fillwire/book/Side")) (by decide) (by decide)))
  have f144 := f143.other W125 (Or.inr (slot_ne (Or.inl (hw _ (List.mem_of_getElem? (i := 22) rfl))) (Or.inl (hw _ (List.mem_of_getElem? (i := 26) rfl))) (by decide) (t := .long) (t' := .long) (by decide) (by decide)))
  have f145 := f144.other W130 (Or.inr (slot_ne (Or.inl (hw _ (List.mem_of_getElem? (i := 22) rfl))) (Or.inl (hw _ (List.mem_of_getElem? (i := 28) rfl))) (by decide) (t := .long) (t' := .long) (by decide) (by decide)))
  have f146 := f145.other W136 (Or.inr (slot_ne (Or.inl (hw _ (List.mem_of_getElem? (i := 22) rfl))) (Or.inl (hw _ (List.mem_of_getElem? (i := 30) rfl))) (by decide) (t := .long) (t' := (.object "java/lang/Object")) (by decide) (by decide)))
  have f147 := F125.other W130 (Or.inr (slot_ne (Or.inl (hw _ (List.mem_of_getElem? (i := 26) rfl))) (Or.inl (hw _ (List.mem_of_getElem? (i := 28) rfl))) (by decide) (t := .long) (t' := .long) (by decide) (by decide)))
  have f148 := f147.other W136 (Or.inr (slot_ne (Or.inl (hw _ (List.mem_of_getElem? (i := 26) rfl))) (Or.inl (hw _ (List.mem_of_getElem? (i := 30) rfl))) (by decide) (t := .long) (t' := (.object "java/lang/Object")) (by decide) (by decide)))
  have f149 := F130.other W136 (Or.inr (slot_ne (Or.inl (hw _ (List.mem_of_getElem? (i := 28) rfl))) (Or.inl (hw _ (List.mem_of_getElem? (i := 30) rfl))) (by decide) (t := .long) (t' := (.object "java/lang/Object")) (by decide) (by decide)))
  have f150 := F_cumQty.other W118 (Or.inr (slot_ne (Or.inl (hw _ (List.mem_of_getElem? (i := 78) rfl))) (Or.inl (hw _ (List.mem_of_getElem? (i := 22) rfl))) (by decide) (t := .long) (t' := .long) (by decide) (by decide)))
  have f151 := f150.other W121 (Or.inr (slot_ne (Or.inl (hw _ (List.mem_of_getElem? (i := 78) rfl))) (Or.inr (hw _ (List.mem_of_getElem? (i := 24) rfl))) (by decide) (t := .long) (t' := (.object "com/example/fillwire/fillwire/book/Side")) (by decide) (by decide)))
  have f152 := f151.other W125 (Or.inr (slot_ne (Or.inl (hw _ (List.mem_of_getElem? (i := 78) rfl))) (Or.inl (hw _ (List.mem_of_getElem? (i := 26) rfl))) (by decide) (t := .long) (t' := .long) (by decide) (by decide)))
  have f153 := f152.other W130 (Or.inr (slot_ne (Or.inl (hw _ (List.mem_of_getElem? (i := 78) rfl))) (Or.inl (hw _ (List.mem_of_getElem? (i := 28) rfl))) (by decide) (t := .long) (t' := .long) (by decide) (by decide)))
  have f154 := f153.other W136 (Or.inr (slot_ne (Or.inl (hw _ (List.mem_of_getElem? (i := 78) rfl))) (Or.inl (hw _ (List.mem_of_getElem? (i := 30) rfl))) (by decide) (t := .long) (t' := (.object "java/lang/Object")) (by decide) (by decide)))
  have f155 := F_cancelled.other W118 (Or.inr (slot_ne (Or.inl (hw _ (List.mem_of_getElem? (i := 37) rfl))) (Or.inl (hw _ (List.mem_of_getElem? (i := 22) rfl))) (by decide) (t := .boolean) (t' := .long) (by decide) (by decide)))
  have f156 := f155.other W121 (Or.inr (slot_ne (Or.inl (hw _ (List.mem_of_getElem? (i := 37) rfl))) (Or.inr (hw _ (List.mem_of_getElem? (i := 24) rfl))) (by decide) (t := .boolean) (t' := (.object "com/example/fillwire/fillwire/book/Side")) (by decide) (by decide)))
  have f157 := f156.other W125 (Or.inr (slot_ne (Or.inl (hw _ (List.mem_of_getElem? (i := 37) rfl))) (Or.inl (hw _ (List.mem_of_getElem? (i := 26) rfl))) (by decide) (t := .boolean) (t' := .long) (by decide) (by decide)))
  have f158 := f157.other W130 (Or.inr (slot_ne (Or.inl (hw _ (List.mem_of_getElem? (i := 37) rfl))) (Or.inl (hw _ (List.mem_of_getElem? (i := 28) rfl))) (by decide) (t := .boolean) (t' := .long) (by decide) (by decide)))
  have f159 := f158.other W136 (Or.inr (slot_ne (Or.inl (hw _ (List.mem_of_getElem? (i := 37) rfl))) (Or.inl (hw _ (List.mem_of_getElem? (i := 30) rfl))) (by decide) (t := .boolean) (t' := (.object "java/lang/Object")) (by decide) (by decide)))
  have f160 := F_notional.other W118 (Or.inr (slot_ne (Or.inl (hw _ (List.mem_of_getElem? (i := 116) rfl))) (Or.inl (hw _ (List.mem_of_getElem? (i := 22) rfl))) (by decide) (t := .long) (t' := .long) (by decide) (by decide)))
  have f161 := f160.other W121 (Or.inr (slot_ne (Or.inl (hw _ (List.mem_of_getElem? (i := 116) rfl))) (Or.inr (hw _ (List.mem_of_getElem? (i := 24) rfl))) (by decide) (t := .long) (t' := (.object "com/example/fillwire/fillwire/book/Side")) (by decide) (by decide)))
  have f162 := f161.other W125 (Or.inr (slot_ne (Or.inl (hw _ (List.mem_of_getElem? (i := 116) rfl))) (Or.inl (hw _ (List.mem_of_getElem? (i := 26) rfl))) (by decide) (t := .long) (t' := .long) (by decide) (by decide)))
  have f163 := f162.other W130 (Or.inr (slot_ne (Or.inl (hw _ (List.mem_of_getElem? (i := 116) rfl))) (Or.inl (hw _ (List.mem_of_getElem? (i := 28) rfl))) (by decide) (t := .long) (t' := .long) (by decide) (by decide)))
  have f164 := f163.other W136 (Or.inr (slot_ne (Or.inl (hw _ (List.mem_of_getElem? (i := 116) rfl))) (Or.inl (hw _ (List.mem_of_getElem? (i := 30) rfl))) (by decide) (t := .long) (t' := (.object "java/lang/Object")) (by decide) (by decide)))
  have f165 := F_largeNotional.other W118 (Or.inr (slot_ne (Or.inl (hw _ (List.mem_of_getElem? (i := 109) rfl))) (Or.inl (hw _ (List.mem_of_getElem? (i := 22) rfl))) (by decide) (t := (.object "java/math/BigDecimal")) (t' := .long) (by decide) (by decide)))
  have f166 := f165.other W121 (Or.inr (slot_ne (Or.inl (hw _ (List.mem_of_getElem? (i := 109) rfl))) (Or.inr (hw _ (List.mem_of_getElem? (i := 24) rfl))) (by decide) (t := (.object "java/math/BigDecimal")) (t' := (.object "com/example/fillwire/fillwire/book/Side")) (by decide) (by decide)))
  have f167 := f166.other W125 (Or.inr (slot_ne (Or.inl (hw _ (List.mem_of_getElem? (i := 109) rfl))) (Or.inl (hw _ (List.mem_of_getElem? (i := 26) rfl))) (by decide) (t := (.object "java/math/BigDecimal")) (t' := .long) (by decide) (by decide)))
  have f168 := f167.other W130 (Or.inr (slot_ne (Or.inl (hw _ (List.mem_of_getElem? (i := 109) rfl))) (Or.inl (hw _ (List.mem_of_getElem? (i := 28) rfl))) (by decide) (t := (.object "java/math/BigDecimal")) (t' := .long) (by decide) (by decide)))
  have f169 := f168.other W136 (Or.inr (slot_ne (Or.inl (hw _ (List.mem_of_getElem? (i := 109) rfl))) (Or.inl (hw _ (List.mem_of_getElem? (i := 30) rfl))) (by decide) (t := (.object "java/math/BigDecimal")) (t' := (.object "java/lang/Object")) (by decide) (by decide)))
  exact finV X136 hx hlk hret (Jvm.hb hby d_prog_3_method_1_32) e136 ⟨rfl, N136, f141, ⟨f142, f146, f148, f149, F136, f154, f159, f164, f169⟩⟩ (by decide) (by decide)
theorem d_prog_3_method_11_0 : decode prog_3_method_11_code 0 = .ok (.aload_n 0, 1) := by decide +kernel
theorem d_prog_3_method_11_1 : decode prog_3_method_11_code 1 = .ok (.iconst 1, 1) := by decide +kernel
theorem d_prog_3_method_11_2 : decode prog_3_method_11_code 2 = .ok (.putfield 30, 3) := by decide +kernel
theorem d_prog_3_method_11_5 : decode prog_3_method_11_code 5 = .ok (.return_, 1) := by decide +kernel
set_option maxRecDepth 65536 in
set_option maxHeartbeats 40000000 in
theorem rmCancel (l : Launch) (Z : State) (a0 : Array Value) (hw : ∀ d ∈ tables_1, d.before a0 Z = true) (ws : List Jvm.Cond) (o : Addr) (i pr qu : Int64) (rq : Addr) (cu : Int64) (ca : Int32) (no : Int64)  (h0 : Heap) (n0 : Nat) (O : Old Z n0 h0) (g1 : n0 ≤ o) (P : Ord Z h0 o i pr qu rq cu ca no)  :
    Con l Z h0 ⟨"com/example/fillwire/fillwire/book/Order", "cancel", "()V"⟩ prog_3_method_11_code 1 none ws ({ frames := 0, cells := 0, slots := 0, locals := 0 } : Room) #[(.ref o)] (fun v h L => v = none ∧ Fr n0 L ∧ Keep h0 h [o] ∧ Ord Z h o i pr qu rq cu 1 no) := by
  refine Con.of (plainFor_of_name pn_2) (f0 := fun m => (mkF m 0 #[.val (.ref o)] [])) (fun m => by first | (simp [entryFrame, mkF, argsToLocals, Value.category, maxLocals]; done) | rfl) ?_
  intro p e s m below meth c T0 hx hby hml hown hnm hret hlk hZ X0 e0
  have hown : s.vm.findClass "com/example/fillwire/fillwire/book/Order" = some m.cls := hown
  have N0 := Fr.nil n0
  have KP0 := Keep.refl h0 [o]
  have GW0 : Grw h0 h0 := Nat.le_refl _
  show FinP p e below s _ _ _ (T0.setTop (mkF m 0 #[.val (.ref o)] []))
  obtain ⟨P_E, P_id, P_price, P_quantity, P_request, P_cumQty, P_cancelled, P_notional, P_largeNotional⟩ := P
  show FinP p e below s _ _ _ (T0.setTop (mkF m 0 #[.val (.ref o)] []))
  refine FinP.st (fun _ => XS.aloadN X0.here hx rfl (Jvm.hb hby d_prog_3_method_11_0) rfl rfl) ?_
  show FinP p e below s _ _ _ (T0.setTop (mkF m 1 #[.val (.ref o)] [(.ref o)]))
  refine FinP.st (fun _ => XS.iconst X0.here hx rfl (Jvm.hb hby d_prog_3_method_11_1)) ?_
  show FinP p e below s _ _ _ (T0.setTop (mkF m 2 #[.val (.ref o)] [(.int (1 : Int32)), (.ref o)]))
  obtain ⟨T170, h170, X170, e170, W170, st170⟩ := putF X0 hx hZ hown (host := "") (Or.inl (hw _ (List.mem_of_getElem? (i := 36) rfl))) Via.refl e0 P_cancelled P_E (Or.inl (hw _ (List.mem_of_getElem? (i := 37) rfl))) (hw _ (List.mem_of_getElem? (i := 13) rfl)) (ty := .boolean) (by decide) rfl rfl (g := (mkF m 2 #[.val (.ref o)] [(.int (1 : Int32)), (.ref o)])) rfl rfl (Jvm.hb hby d_prog_3_method_11_2)
  have N170 := Fr.snoc X170 N0 g1
  have F170 := P_cancelled.same W170
  refine FinP.st st170 ?_
  show FinP p e below s _ _ _ (T170.setTop (mkF m 5 #[.val (.ref o)] []))
  have f171 := KP0.wr W170 (Or.inl (List.mem_of_getElem? (i := 0) rfl))
  have f172 := P_E.wr W170
  have f173 := P_id.other W170 (Or.inr (slot_ne (Or.inl (hw _ (List.mem_of_getElem? (i := 22) rfl))) (Or.inl (hw _ (List.mem_of_getElem? (i := 37) rfl))) (by decide) (t := .long) (t' := .boolean) (by decide) (by decide)))
  have f174 := P_price.other W170 (Or.inr (slot_ne (Or.inl (hw _ (List.mem_of_getElem? (i := 26) rfl))) (Or.inl (hw _ (List.mem_of_getElem? (i := 37) rfl))) (by decide) (t := .long) (t' := .boolean) (by decide) (by decide)))
  have f175 := P_quantity.other W170 (Or.inr (slot_ne (Or.inl (hw _ (List.mem_of_getElem? (i := 28) rfl))) (Or.inl (hw _ (List.mem_of_getElem? (i := 37) rfl))) (by decide) (t := .long) (t' := .boolean) (by decide) (by decide)))
  have f176 := P_request.other W170 (Or.inr (slot_ne (Or.inl (hw _ (List.mem_of_getElem? (i := 30) rfl))) (Or.inl (hw _ (List.mem_of_getElem? (i := 37) rfl))) (by decide) (t := (.object "java/lang/Object")) (t' := .boolean) (by decide) (by decide)))
  have f177 := P_cumQty.other W170 (Or.inr (slot_ne (Or.inl (hw _ (List.mem_of_getElem? (i := 78) rfl))) (Or.inl (hw _ (List.mem_of_getElem? (i := 37) rfl))) (by decide) (t := .long) (t' := .boolean) (by decide) (by decide)))
  have f178 := P_notional.other W170 (Or.inr (slot_ne (Or.inl (hw _ (List.mem_of_getElem? (i := 116) rfl))) (Or.inl (hw _ (List.mem_of_getElem? (i := 37) rfl))) (by decide) (t := .long) (t' := .boolean) (by decide) (by decide)))
  have f179 := P_largeNotional.other W170 (Or.inr (slot_ne (Or.inl (hw _ (List.mem_of_getElem? (i := 109) rfl))) (Or.inl (hw _ (List.mem_of_getElem? (i := 37) rfl))) (by decide) (t := (.object "java/math/BigDecimal")) (t' := .boolean) (by decide) (by decide)))
  exact finV X170 hx hlk hret (Jvm.hb hby d_prog_3_method_11_5) e170 ⟨rfl, N170, f171, ⟨f172, f173, f174, f175, f176, f177, F170, f178, f179⟩⟩ (by decide) (by decide)
theorem d_prog_3_method_10_0 : decode prog_3_method_10_code 0 = .ok (.aload_n 0, 1) := by decide +kernel
theorem d_prog_3_method_10_1 : decode prog_3_method_10_code 1 = .ok (.lload_n 1, 1) := by decide +kernel
theorem d_prog_3_method_10_2 : decode prog_3_method_10_code 2 = .ok (.putfield 7, 3) := by decide +kernel
theorem d_prog_3_method_10_5 : decode prog_3_method_10_code 5 = .ok (.aload_n 0, 1) := by decide +kernel
theorem d_prog_3_method_10_6 : decode prog_3_method_10_code 6 = .ok (.lload_n 3, 1) := by decide +kernel
theorem d_prog_3_method_10_7 : decode prog_3_method_10_code 7 = .ok (.putfield 17, 3) := by decide +kernel
theorem d_prog_3_method_10_10 : decode prog_3_method_10_code 10 = .ok (.aload_n 0, 1) := by decide +kernel
theorem d_prog_3_method_10_11 : decode prog_3_method_10_code 11 = .ok (.lload 5, 2) := by decide +kernel
theorem d_prog_3_method_10_13 : decode prog_3_method_10_code 13 = .ok (.putfield 20, 3) := by decide +kernel
theorem d_prog_3_method_10_16 : decode prog_3_method_10_code 16 = .ok (.aload_n 0, 1) := by decide +kernel
theorem d_prog_3_method_10_17 : decode prog_3_method_10_code 17 = .ok (.aload 7, 2) := by decide +kernel
theorem d_prog_3_method_10_19 : decode prog_3_method_10_code 19 = .ok (.putfield 23, 3) := by decide +kernel
theorem d_prog_3_method_10_22 : decode prog_3_method_10_code 22 = .ok (.return_, 1) := by decide +kernel
set_option maxRecDepth 65536 in
set_option maxHeartbeats 40000000 in
theorem rmModify (l : Launch) (Z : State) (a0 : Array Value) (hw : ∀ d ∈ tables_1, d.before a0 Z = true) (ws : List Jvm.Cond) (o : Addr) (i pr qu : Int64) (rq : Addr) (cu : Int64) (ca : Int32) (no : Int64) (i2 pr2 qu2 : Int64) (rq2 : Addr) (h0 : Heap) (n0 : Nat) (O : Old Z n0 h0) (g1 : n0 ≤ o) (P : Ord Z h0 o i pr qu rq cu ca no)  :
    Con l Z h0 ⟨"com/example/fillwire/fillwire/book/Order", "modify", "(JJJLjava/lang/Object;)V"⟩ prog_3_method_10_code 8 none ws ({ frames := 0, cells := 0, slots := 0, locals := 0 } : Room) #[(.ref o), (.long i2), (.long pr2), (.long qu2), (.ref rq2)] (fun v h L => v = none ∧ Fr n0 L ∧ Keep h0 h [o] ∧ Ord Z h o i2 pr2 qu2 rq2 cu ca no) := by
  refine Con.of (plainFor_of_name pn_2) (f0 := fun m => (mkF m 0 #[.val (.ref o), .val (.long i2), .second, .val (.long pr2), .second, .val (.long qu2), .second, .val (.ref rq2)] [])) (fun m => by first | (simp [entryFrame, mkF, argsToLocals, Value.category, maxLocals]; done) | rfl) ?_
  intro p e s m below meth c T0 hx hby hml hown hnm hret hlk hZ X0 e0
  have hown : s.vm.findClass "com/example/fillwire/fillwire/book/Order" = some m.cls := hown
  have N0 := Fr.nil n0
  have KP0 := Keep.refl h0 [o]
  have GW0 : Grw h0 h0 := Nat.le_refl _
  show FinP p e below s _ _ _ (T0.setTop (mkF m 0 #[.val (.ref o), .val (.long i2), .second, .val (.long pr2), .second, .val (.long qu2), .second, .val (.ref rq2)] []))
  obtain ⟨P_E, P_id, P_price, P_quantity, P_request, P_cumQty, P_cancelled, P_notional, P_largeNotional⟩ := P
  show FinP p e below s _ _ _ (T0.setTop (mkF m 0 #[.val (.ref o), .val (.long i2), .second, .val (.long pr2), .second, .val (.long qu2), .second, .val (.ref rq2)] []))
  refine FinP.st (fun _ => XS.aloadN X0.here hx rfl (Jvm.hb hby d_prog_3_method_10_0) rfl rfl) ?_
  show FinP p e below s _ _ _ (T0.setTop (mkF m 1 #[.val (.ref o), .val (.long i2), .second, .val (.long pr2), .second, .val (.long qu2), .second, .val (.ref rq2)] [(.ref o)]))
  refine FinP.st (fun _ => XS.lloadN X0.here hx rfl (Jvm.hb hby d_prog_3_method_10_1) rfl) ?_
  show FinP p e below s _ _ _ (T0.setTop (mkF m 2 #[.val (.ref o), .val (.long i2), .second, .val (.long pr2), .second, .val (.long qu2), .second, .val (.ref rq2)] [(.long i2), (.ref o)]))
  obtain ⟨T180, h180, X180, e180, W180, st180⟩ := putF X0 hx hZ hown (host := "") (Or.inl (hw _ (List.mem_of_getElem? (i := 21) rfl))) Via.refl e0 P_id P_E (Or.inl (hw _ (List.mem_of_getElem? (i := 22) rfl))) (hw _ (List.mem_of_getElem? (i := 13) rfl)) (ty := .long) (by decide) rfl rfl (g := (mkF m 2 #[.val (.ref o), .val (.long i2), .second, .val (.long pr2), .second, .val (.long qu2), .second, .val (.ref rq2)] [(.long i2), (.ref o)])) rfl rfl (Jvm.hb hby d_prog_3_method_10_2)
  have N180 := Fr.snoc X180 N0 g1
  have F180 := P_id.same W180
  refine FinP.st st180 ?_
  show FinP p e below s _ _ _ (T180.setTop (mkF m 5 #[.val (.ref o), .val (.long i2), .second, .val (.long pr2), .second, .val (.long qu2), .second, .val (.ref rq2)] []))
  refine FinP.st (fun _ => XS.aloadN X180.here hx rfl (Jvm.hb hby d_prog_3_method_10_5) rfl rfl) ?_
  show FinP p e below s _ _ _ (T180.setTop (mkF m 6 #[.val (.ref o), .val (.long i2), .second, .val (.long pr2), .second, .val (.long qu2), .second, .val (.ref rq2)] [(.ref o)]))
  refine FinP.st (fun _ => XS.lloadN X180.here hx rfl (Jvm.hb hby d_prog_3_method_10_6) rfl) ?_
  show FinP p e below s _ _ _ (T180.setTop (mkF m 7 #[.val (.ref o), .val (.long i2), .second, .val (.long pr2), .second, .val (.long qu2), .second, .val (.ref rq2)] [(.long pr2), (.ref o)]))
  have f181 := P_price.other W180 (Or.inr (slot_ne (Or.inl (hw _ (List.mem_of_getElem? (i := 26) rfl))) (Or.inl (hw _ (List.mem_of_getElem? (i := 22) rfl))) (by decide) (t := .long) (t' := .long) (by decide) (by decide)))
  have f182 := P_E.wr W180
  obtain ⟨T183, h183, X183, e183, W183, st183⟩ := putF X180 hx hZ hown (host := "") (Or.inl (hw _ (List.mem_of_getElem? (i := 25) rfl))) Via.refl e180 f181 f182 (Or.inl (hw _ (List.mem_of_getElem? (i := 26) rfl))) (hw _ (List.mem_of_getElem? (i := 13) rfl)) (ty := .long) (by decide) rfl rfl (g := (mkF m 7 #[.val (.ref o), .val (.long i2), .second, .val (.long pr2), .second, .val (.long qu2), .second, .val (.ref rq2)] [(.long pr2), (.ref o)])) rfl rfl (Jvm.hb hby d_prog_3_method_10_7)
  have N183 := Fr.snoc X183 N180 g1
  have F183 := f181.same W183
  refine FinP.st st183 ?_
  show FinP p e below s _ _ _ (T183.setTop (mkF m 10 #[.val (.ref o), .val (.long i2), .second, .val (.long pr2), .second, .val (.long qu2), .second, .val (.ref rq2)] []))
  refine FinP.st (fun _ => XS.aloadN X183.here hx rfl (Jvm.hb hby d_prog_3_method_10_10) rfl rfl) ?_
  show FinP p e below s _ _ _ (T183.setTop (mkF m 11 #[.val (.ref o), .val (.long i2), .second, .val (.long pr2), .second, .val (.long qu2), .second, .val (.ref rq2)] [(.ref o)]))
  refine FinP.st (fun _ => XS.lload X183.here hx rfl (Jvm.hb hby d_prog_3_method_10_11) rfl) ?_
  show FinP p e below s _ _ _ (T183.setTop (mkF m 13 #[.val (.ref o), .val (.long i2), .second, .val (.long pr2), .second, .val (.long qu2), .second, .val (.ref rq2)] [(.long qu2), (.ref o)]))
  have f184 := P_quantity.other W180 (Or.inr (slot_ne (Or.inl (hw _ (List.mem_of_getElem? (i := 28) rfl))) (Or.inl (hw _ (List.mem_of_getElem? (i := 22) rfl))) (by decide) (t := .long) (t' := .long) (by decide) (by decide)))
  have f185 := f184.other W183 (Or.inr (slot_ne (Or.inl (hw _ (List.mem_of_getElem? (i := 28) rfl))) (Or.inl (hw _ (List.mem_of_getElem? (i := 26) rfl))) (by decide) (t := .long) (t' := .long) (by decide) (by decide)))
  have f186 := f182.wr W183
  obtain ⟨T187, h187, X187, e187, W187, st187⟩ := putF X183 hx hZ hown (host := "") (Or.inl (hw _ (List.mem_of_getElem? (i := 27) rfl))) Via.refl e183 f185 f186 (Or.inl (hw _ (List.mem_of_getElem? (i := 28) rfl))) (hw _ (List.mem_of_getElem? (i := 13) rfl)) (ty := .long) (by decide) rfl rfl (g := (mkF m 13 #[.val (.ref o), .val (.long i2), .second, .val (.long pr2), .second, .val (.long qu2), .second, .val (.ref rq2)] [(.long qu2), (.ref o)])) rfl rfl (Jvm.hb hby d_prog_3_method_10_13)
  have N187 := Fr.snoc X187 N183 g1
  have F187 := f185.same W187
  refine FinP.st st187 ?_
  show FinP p e below s _ _ _ (T187.setTop (mkF m 16 #[.val (.ref o), .val (.long i2), .second, .val (.long pr2), .second, .val (.long qu2), .second, .val (.ref rq2)] []))
  refine FinP.st (fun _ => XS.aloadN X187.here hx rfl (Jvm.hb hby d_prog_3_method_10_16) rfl rfl) ?_
  show FinP p e below s _ _ _ (T187.setTop (mkF m 17 #[.val (.ref o), .val (.long i2), .second, .val (.long pr2), .second, .val (.long qu2), .second, .val (.ref rq2)] [(.ref o)]))
  refine FinP.st (fun _ => XS.aload X187.here hx rfl (Jvm.hb hby d_prog_3_method_10_17) rfl rfl) ?_
  show FinP p e below s _ _ _ (T187.setTop (mkF m 19 #[.val (.ref o), .val (.long i2), .second, .val (.long pr2), .second, .val (.long qu2), .second, .val (.ref rq2)] [(.ref rq2), (.ref o)]))
  have f188 := P_request.other W180 (Or.inr (slot_ne (Or.inl (hw _ (List.mem_of_getElem? (i := 30) rfl))) (Or.inl (hw _ (List.mem_of_getElem? (i := 22) rfl))) (by decide) (t := (.object "java/lang/Object")) (t' := .long) (by decide) (by decide)))
  have f189 := f188.other W183 (Or.inr (slot_ne (Or.inl (hw _ (List.mem_of_getElem? (i := 30) rfl))) (Or.inl (hw _ (List.mem_of_getElem? (i := 26) rfl))) (by decide) (t := (.object "java/lang/Object")) (t' := .long) (by decide) (by decide)))
  have f190 := f189.other W187 (Or.inr (slot_ne (Or.inl (hw _ (List.mem_of_getElem? (i := 30) rfl))) (Or.inl (hw _ (List.mem_of_getElem? (i := 28) rfl))) (by decide) (t := (.object "java/lang/Object")) (t' := .long) (by decide) (by decide)))
  have f191 := f186.wr W187
  obtain ⟨T192, h192, X192, e192, W192, st192⟩ := putF X187 hx hZ hown (host := "") (Or.inl (hw _ (List.mem_of_getElem? (i := 29) rfl))) Via.refl e187 f190 f191 (Or.inl (hw _ (List.mem_of_getElem? (i := 30) rfl))) (hw _ (List.mem_of_getElem? (i := 13) rfl)) (ty := (.object "java/lang/Object")) (by decide) rfl rfl (g := (mkF m 19 #[.val (.ref o), .val (.long i2), .second, .val (.long pr2), .second, .val (.long qu2), .second, .val (.ref rq2)] [(.ref rq2), (.ref o)])) rfl rfl (Jvm.hb hby d_prog_3_method_10_19)
  have N192 := Fr.snoc X192 N187 g1
  have F192 := f190.same W192
  refine FinP.st st192 ?_
  show FinP p e below s _ _ _ (T192.setTop (mkF m 22 #[.val (.ref o), .val (.long i2), .second, .val (.long pr2), .second, .val (.long qu2), .second, .val (.ref rq2)] []))
  have f193 := KP0.wr W180 (Or.inl (List.mem_of_getElem? (i := 0) rfl))
  have f194 := f193.wr W183 (Or.inl (List.mem_of_getElem? (i := 0) rfl))
  have f195 := f194.wr W187 (Or.inl (List.mem_of_getElem? (i := 0) rfl))
  have f196 := f195.wr W192 (Or.inl (List.mem_of_getElem? (i := 0) rfl))
  have f197 := f191.wr W192
  have f198 := F180.other W183 (Or.inr (slot_ne (Or.inl (hw _ (List.mem_of_getElem? (i := 22) rfl))) (Or.inl (hw _ (List.mem_of_getElem? (i := 26) rfl))) (by decide) (t := .long) (t' := .long) (by decide) (by decide)))
  have f199 := f198.other W187 (Or.inr (slot_ne (Or.inl (hw _ (List.mem_of_getElem? (i := 22) rfl))) (Or.inl (hw _ (List.mem_of_getElem? (i := 28) rfl))) (by decide) (t := .long) (t' := .long) (by decide) (by decide)))
  have f200 := f199.other W192 (Or.inr (slot_ne (Or.inl (hw _ (List.mem_of_getElem? (i := 22) rfl))) (Or.inl (hw _ (List.mem_of_getElem? (i := 30) rfl))) (by decide) (t := .long) (t' := (.object "java/lang/Object")) (by decide) (by decide)))
  have f201 := F183.other W187 (Or.inr (slot_ne (Or.inl (hw _ (List.mem_of_getElem? (i := 26) rfl))) (Or.inl (hw _ (List.mem_of_getElem? (i := 28) rfl))) (by decide) (t := .long) (t' := .long) (by decide) (by decide)))
  have f202 := f201.other W192 (Or.inr (slot_ne (Or.inl (hw _ (List.mem_of_getElem? (i := 26) rfl))) (Or.inl (hw _ (List.mem_of_getElem? (i := 30) rfl))) (by decide) (t := .long) (t' := (.object "java/lang/Object")) (by decide) (by decide)))
  have f203 := F187.other W192 (Or.inr (slot_ne (Or.inl (hw _ (List.mem_of_getElem? (i := 28) rfl))) (Or.inl (hw _ (List.mem_of_getElem? (i := 30) rfl))) (by decide) (t := .long) (t' := (.object "java/lang/Object")) (by decide) (by decide)))
  have f204 := P_cumQty.other W180 (Or.inr (slot_ne (Or.inl (hw _ (List.mem_of_getElem? (i := 78) rfl))) (Or.inl (hw _ (List.mem_of_getElem? (i := 22) rfl))) (by decide) (t := .long) (t' := .long) (by decide) (by decide)))
  have f205 := f204.other W183 (Or.inr (slot_ne (Or.inl (hw _ (List.mem_of_getElem? (i := 78) rfl))) (Or.inl (hw _ (List.mem_of_getElem? (i := 26) rfl))) (by decide) (t := .long) (t' := .long) (by decide) (by decide)))
  have f206 := f205.other W187 (Or.inr (slot_ne (Or.inl (hw _ (List.mem_of_getElem? (i := 78) rfl))) (Or.inl (hw _ (List.mem_of_getElem? (i := 28) rfl))) (by decide) (t := .long) (t' := .long) (by decide) (by decide)))
  have f207 := f206.other W192 (Or.inr (slot_ne (Or.inl (hw _ (List.mem_of_getElem? (i := 78) rfl))) (Or.inl (hw _ (List.mem_of_getElem? (i := 30) rfl))) (by decide) (t := .long) (t' := (.object "java/lang/Object")) (by decide) (by decide)))
  have f208 := P_cancelled.other W180 (Or.inr (slot_ne (Or.inl (hw _ (List.mem_of_getElem? (i := 37) rfl))) (Or.inl (hw _ (List.mem_of_getElem? (i := 22) rfl))) (by decide) (t := .boolean) (t' := .long) (by decide) (by decide)))
  have f209 := f208.other W183 (Or.inr (slot_ne (Or.inl (hw _ (List.mem_of_getElem? (i := 37) rfl))) (Or.inl (hw _ (List.mem_of_getElem? (i := 26) rfl))) (by decide) (t := .boolean) (t' := .long) (by decide) (by decide)))
  have f210 := f209.other W187 (Or.inr (slot_ne (Or.inl (hw _ (List.mem_of_getElem? (i := 37) rfl))) (Or.inl (hw _ (List.mem_of_getElem? (i := 28) rfl))) (by decide) (t := .boolean) (t' := .long) (by decide) (by decide)))
  have f211 := f210.other W192 (Or.inr (slot_ne (Or.inl (hw _ (List.mem_of_getElem? (i := 37) rfl))) (Or.inl (hw _ (List.mem_of_getElem? (i := 30) rfl))) (by decide) (t := .boolean) (t' := (.object "java/lang/Object")) (by decide) (by decide)))
  have f212 := P_notional.other W180 (Or.inr (slot_ne (Or.inl (hw _ (List.mem_of_getElem? (i := 116) rfl))) (Or.inl (hw _ (List.mem_of_getElem? (i := 22) rfl))) (by decide) (t := .long) (t' := .long) (by decide) (by decide)))
  have f213 := f212.other W183 (Or.inr (slot_ne (Or.inl (hw _ (List.mem_of_getElem? (i := 116) rfl))) (Or.inl (hw _ (List.mem_of_getElem? (i := 26) rfl))) (by decide) (t := .long) (t' := .long) (by decide) (by decide)))
  have f214 := f213.other W187 (Or.inr (slot_ne (Or.inl (hw _ (List.mem_of_getElem? (i := 116) rfl))) (Or.inl (hw _ (List.mem_of_getElem? (i := 28) rfl))) (by decide) (t := .long) (t' := .long) (by decide) (by decide)))
  have f215 := f214.other W192 (Or.inr (slot_ne (Or.inl (hw _ (List.mem_of_getElem? (i := 116) rfl))) (Or.inl (hw _ (List.mem_of_getElem? (i := 30) rfl))) (by decide) (t := .long) (t' := (.object "java/lang/Object")) (by decide) (by decide)))
  have f216 := P_largeNotional.other W180 (Or.inr (slot_ne (Or.inl (hw _ (List.mem_of_getElem? (i := 109) rfl))) (Or.inl (hw _ (List.mem_of_getElem? (i := 22) rfl))) (by decide) (t := (.object "java/math/BigDecimal")) (t' := .long) (by decide) (by decide)))
  have f217 := f216.other W183 (Or.inr (slot_ne (Or.inl (hw _ (List.mem_of_getElem? (i := 109) rfl))) (Or.inl (hw _ (List.mem_of_getElem? (i := 26) rfl))) (by decide) (t := (.object "java/math/BigDecimal")) (t' := .long) (by decide) (by decide)))
  have f218 := f217.other W187 (Or.inr (slot_ne (Or.inl (hw _ (List.mem_of_getElem? (i := 109) rfl))) (Or.inl (hw _ (List.mem_of_getElem? (i := 28) rfl))) (by decide) (t := (.object "java/math/BigDecimal")) (t' := .long) (by decide) (by decide)))
  have f219 := f218.other W192 (Or.inr (slot_ne (Or.inl (hw _ (List.mem_of_getElem? (i := 109) rfl))) (Or.inl (hw _ (List.mem_of_getElem? (i := 30) rfl))) (by decide) (t := (.object "java/math/BigDecimal")) (t' := (.object "java/lang/Object")) (by decide) (by decide)))
  exact finV X192 hx hlk hret (Jvm.hb hby d_prog_3_method_10_22) e192 ⟨rfl, N192, f196, ⟨f197, f200, f202, f203, F192, f207, f211, f215, f219⟩⟩ (by decide) (by decide)
theorem pf_3 : plainFor ⟨"java/lang/Math", "multiplyHigh", "(JJ)J"⟩ = true := by decide +kernel
theorem d_jdk_29_method_45_0 : decode jdk_29_method_45_code 0 = .ok (.lload_n 0, 1) := by decide +kernel
theorem d_jdk_29_method_45_1 : decode jdk_29_method_45_code 1 = .ok (.bipush 32, 2) := by decide +kernel
theorem d_jdk_29_method_45_3 : decode jdk_29_method_45_code 3 = .ok (.lshr, 1) := by decide +kernel
theorem d_jdk_29_method_45_4 : decode jdk_29_method_45_code 4 = .ok (.lstore 4, 2) := by decide +kernel
theorem d_jdk_29_method_45_6 : decode jdk_29_method_45_code 6 = .ok (.lload_n 0, 1) := by decide +kernel
theorem d_jdk_29_method_45_7 : decode jdk_29_method_45_code 7 = .ok (.ldc2_w 138, 3) := by decide +kernel
theorem d_jdk_29_method_45_10 : decode jdk_29_method_45_code 10 = .ok (.land, 1) := by decide +kernel
theorem d_jdk_29_method_45_11 : decode jdk_29_method_45_code 11 = .ok (.lstore 6, 2) := by decide +kernel
theorem d_jdk_29_method_45_13 : decode jdk_29_method_45_code 13 = .ok (.lload_n 2, 1) := by decide +kernel
theorem d_jdk_29_method_45_14 : decode jdk_29_method_45_code 14 = .ok (.bipush 32, 2) := by decide +kernel
theorem d_jdk_29_method_45_16 : decode jdk_29_method_45_code 16 = .ok (.lshr, 1) := by decide +kernel
theorem d_jdk_29_method_45_17 : decode jdk_29_method_45_code 17 = .ok (.lstore 8, 2) := by decide +kernel
theorem d_jdk_29_method_45_19 : decode jdk_29_method_45_code 19 = .ok (.lload_n 2, 1) := by decide +kernel
theorem d_jdk_29_method_45_20 : decode jdk_29_method_45_code 20 = .ok (.ldc2_w 138, 3) := by decide +kernel
theorem d_jdk_29_method_45_23 : decode jdk_29_method_45_code 23 = .ok (.land, 1) := by decide +kernel
theorem d_jdk_29_method_45_24 : decode jdk_29_method_45_code 24 = .ok (.lstore 10, 2) := by decide +kernel
theorem d_jdk_29_method_45_26 : decode jdk_29_method_45_code 26 = .ok (.lload 6, 2) := by decide +kernel
theorem d_jdk_29_method_45_28 : decode jdk_29_method_45_code 28 = .ok (.lload 10, 2) := by decide +kernel
theorem d_jdk_29_method_45_30 : decode jdk_29_method_45_code 30 = .ok (.lmul, 1) := by decide +kernel
theorem d_jdk_29_method_45_31 : decode jdk_29_method_45_code 31 = .ok (.lstore 12, 2) := by decide +kernel
theorem d_jdk_29_method_45_33 : decode jdk_29_method_45_code 33 = .ok (.lload 4, 2) := by decide +kernel
theorem d_jdk_29_method_45_35 : decode jdk_29_method_45_code 35 = .ok (.lload 10, 2) := by decide +kernel
theorem d_jdk_29_method_45_37 : decode jdk_29_method_45_code 37 = .ok (.lmul, 1) := by decide +kernel
theorem d_jdk_29_method_45_38 : decode jdk_29_method_45_code 38 = .ok (.lload 12, 2) := by decide +kernel
theorem d_jdk_29_method_45_40 : decode jdk_29_method_45_code 40 = .ok (.bipush 32, 2) := by decide +kernel
theorem d_jdk_29_method_45_42 : decode jdk_29_method_45_code 42 = .ok (.lushr, 1) := by decide +kernel
theorem d_jdk_29_method_45_43 : decode jdk_29_method_45_code 43 = .ok (.ladd, 1) := by decide +kernel
theorem d_jdk_29_method_45_44 : decode jdk_29_method_45_code 44 = .ok (.lstore 14, 2) := by decide +kernel
theorem d_jdk_29_method_45_46 : decode jdk_29_method_45_code 46 = .ok (.lload 14, 2) := by decide +kernel
theorem d_jdk_29_method_45_48 : decode jdk_29_method_45_code 48 = .ok (.ldc2_w 138, 3) := by decide +kernel
theorem d_jdk_29_method_45_51 : decode jdk_29_method_45_code 51 = .ok (.land, 1) := by decide +kernel
theorem d_jdk_29_method_45_52 : decode jdk_29_method_45_code 52 = .ok (.lstore 16, 2) := by decide +kernel
theorem d_jdk_29_method_45_54 : decode jdk_29_method_45_code 54 = .ok (.lload 14, 2) := by decide +kernel
theorem d_jdk_29_method_45_56 : decode jdk_29_method_45_code 56 = .ok (.bipush 32, 2) := by decide +kernel
theorem d_jdk_29_method_45_58 : decode jdk_29_method_45_code 58 = .ok (.lshr, 1) := by decide +kernel
theorem d_jdk_29_method_45_59 : decode jdk_29_method_45_code 59 = .ok (.lstore 18, 2) := by decide +kernel
theorem d_jdk_29_method_45_61 : decode jdk_29_method_45_code 61 = .ok (.lload 16, 2) := by decide +kernel
theorem d_jdk_29_method_45_63 : decode jdk_29_method_45_code 63 = .ok (.lload 6, 2) := by decide +kernel
theorem d_jdk_29_method_45_65 : decode jdk_29_method_45_code 65 = .ok (.lload 8, 2) := by decide +kernel
theorem d_jdk_29_method_45_67 : decode jdk_29_method_45_code 67 = .ok (.lmul, 1) := by decide +kernel
theorem d_jdk_29_method_45_68 : decode jdk_29_method_45_code 68 = .ok (.ladd, 1) := by decide +kernel
theorem d_jdk_29_method_45_69 : decode jdk_29_method_45_code 69 = .ok (.lstore 16, 2) := by decide +kernel
theorem d_jdk_29_method_45_71 : decode jdk_29_method_45_code 71 = .ok (.lload 4, 2) := by decide +kernel
theorem d_jdk_29_method_45_73 : decode jdk_29_method_45_code 73 = .ok (.lload 8, 2) := by decide +kernel
theorem d_jdk_29_method_45_75 : decode jdk_29_method_45_code 75 = .ok (.lmul, 1) := by decide +kernel
theorem d_jdk_29_method_45_76 : decode jdk_29_method_45_code 76 = .ok (.lload 18, 2) := by decide +kernel
theorem d_jdk_29_method_45_78 : decode jdk_29_method_45_code 78 = .ok (.ladd, 1) := by decide +kernel
theorem d_jdk_29_method_45_79 : decode jdk_29_method_45_code 79 = .ok (.lload 16, 2) := by decide +kernel
theorem d_jdk_29_method_45_81 : decode jdk_29_method_45_code 81 = .ok (.bipush 32, 2) := by decide +kernel
theorem d_jdk_29_method_45_83 : decode jdk_29_method_45_code 83 = .ok (.lshr, 1) := by decide +kernel
theorem d_jdk_29_method_45_84 : decode jdk_29_method_45_code 84 = .ok (.ladd, 1) := by decide +kernel
theorem d_jdk_29_method_45_85 : decode jdk_29_method_45_code 85 = .ok (.lreturn, 1) := by decide +kernel
set_option maxRecDepth 65536 in
set_option maxHeartbeats 40000000 in
theorem rmMH (l : Launch) (Z : State) (a0 : Array Value) (hw : ∀ d ∈ tables_1, d.before a0 Z = true) (ws : List Jvm.Cond) (x y : Int64) (h0 : Heap) (n0 : Nat) (O : Old Z n0 h0) (lx : 0 ≤ x.toInt) (ux : x.toInt ≤ 65535) (ly : 0 ≤ y.toInt) (uy : y.toInt ≤ 65535) :
    Con l Z h0 ⟨"java/lang/Math", "multiplyHigh", "(JJ)J"⟩ jdk_29_method_45_code 20 (some .long) ws ({ frames := 0, cells := 0, slots := 0, locals := 0 } : Room) #[(.long x), (.long y)] (fun v h L => v = some (.long 0) ∧ L = [] ∧ h = h0) := by
  refine Con.of pf_3 (f0 := fun m => (mkF m 0 #[.val (.long x), .second, .val (.long y), .second, .unset, .unset, .unset, .unset, .unset, .unset, .unset, .unset, .unset, .unset, .unset, .unset, .unset, .unset, .unset, .unset] [])) (fun m => by first | (simp [entryFrame, mkF, argsToLocals, Value.category, maxLocals]; done) | rfl) ?_
  intro p e s m below meth c T0 hx hby hml hown hnm hret hlk hZ X0 e0
  have hown : s.vm.findClass "java/lang/Math" = some m.cls := hown
  have N0 := Fr.nil n0
  show FinP p e below s _ _ _ (T0.setTop (mkF m 0 #[.val (.long x), .second, .val (.long y), .second, .unset, .unset, .unset, .unset, .unset, .unset, .unset, .unset, .unset, .unset, .unset, .unset, .unset, .unset, .unset, .unset] []))
  have hx1 := shr32 lx (by omega)
  have hy1 := shr32 ly (by omega)
  have hx2 := mask32 lx (by omega)
  have hy2 := mask32 ly (by omega)
  have hm := mul16 lx ux ly uy
  have hz := lush32 (x := x * y) (by omega) (by omega)
  refine FinP.st (fun _ => XS.lloadN X0.here hx rfl (Jvm.hb hby d_jdk_29_method_45_0) rfl) ?_
  show FinP p e below s _ _ _ (T0.setTop (mkF m 1 #[.val (.long x), .second, .val (.long y), .second, .unset, .unset, .unset, .unset, .unset, .unset, .unset, .unset, .unset, .unset, .unset, .unset, .unset, .unset, .unset, .unset] [(.long x)]))
  refine FinP.st (fun _ => XS.bipush X0.here hx rfl (Jvm.hb hby d_jdk_29_method_45_1)) ?_
  show FinP p e below s _ _ _ (T0.setTop (mkF m 3 #[.val (.long x), .second, .val (.long y), .second, .unset, .unset, .unset, .unset, .unset, .unset, .unset, .unset, .unset, .unset, .unset, .unset, .unset, .unset, .unset, .unset] [(.int (32 : Int32)), (.long x)]))
  refine FinP.st (fun _ => XS.lshr X0.here hx rfl (Jvm.hb hby d_jdk_29_method_45_3) rfl) ?_
  show FinP p e below s _ _ _ (T0.setTop (mkF m 4 #[.val (.long x), .second, .val (.long y), .second, .unset, .unset, .unset, .unset, .unset, .unset, .unset, .unset, .unset, .unset, .unset, .unset, .unset, .unset, .unset, .unset] [(.long (x >>> ((32 : Int32) &&& 0x3f).toInt64))]))
  rw [hx1]
  show FinP p e below s _ _ _ (T0.setTop (mkF m 4 #[.val (.long x), .second, .val (.long y), .second, .unset, .unset, .unset, .unset, .unset, .unset, .unset, .unset, .unset, .unset, .unset, .unset, .unset, .unset, .unset, .unset] [(.long (0 : Int64))]))
  refine FinP.st (fun _ => XS.lstore X0.here hx rfl (Jvm.hb hby d_jdk_29_method_45_4) rfl (l' := #[.val (.long x), .second, .val (.long y), .second, .val (.long (0 : Int64)), .second, .unset, .unset, .unset, .unset, .unset, .unset, .unset, .unset, .unset, .unset, .unset, .unset, .unset, .unset]) rfl) ?_
  show FinP p e below s _ _ _ (T0.setTop (mkF m 6 #[.val (.long x), .second, .val (.long y), .second, .val (.long (0 : Int64)), .second, .unset, .unset, .unset, .unset, .unset, .unset, .unset, .unset, .unset, .unset, .unset, .unset, .unset, .unset] []))
  refine FinP.st (fun _ => XS.lloadN X0.here hx rfl (Jvm.hb hby d_jdk_29_method_45_6) rfl) ?_
  show FinP p e below s _ _ _ (T0.setTop (mkF m 7 #[.val (.long x), .second, .val (.long y), .second, .val (.long (0 : Int64)), .second, .unset, .unset, .unset, .unset, .unset, .unset, .unset, .unset, .unset, .unset, .unset, .unset, .unset, .unset] [(.long x)]))
  refine FinP.st (fun _ => X0.ldc2J hx hown (mvT hZ (hw _ (List.mem_of_getElem? (i := 114) rfl))) rfl (Jvm.hb hby d_jdk_29_method_45_7)) ?_
  show FinP p e below s _ _ _ (T0.setTop (mkF m 10 #[.val (.long x), .second, .val (.long y), .second, .val (.long (0 : Int64)), .second, .unset, .unset, .unset, .unset, .unset, .unset, .unset, .unset, .unset, .unset, .unset, .unset, .unset, .unset] [(.long (4294967295 : Int64)), (.long x)]))
  refine FinP.st (fun _ => XS.land X0.here hx rfl (Jvm.hb hby d_jdk_29_method_45_10) rfl) ?_
  show FinP p e below s _ _ _ (T0.setTop (mkF m 11 #[.val (.long x), .second, .val (.long y), .second, .val (.long (0 : Int64)), .second, .unset, .unset, .unset, .unset, .unset, .unset, .unset, .unset, .unset, .unset, .unset, .unset, .unset, .unset] [(.long (x &&& (4294967295 : Int64)))]))
  rw [hx2]
  show FinP p e below s _ _ _ (T0.setTop (mkF m 11 #[.val (.long x), .second, .val (.long y), .second, .val (.long (0 : Int64)), .second, .unset, .unset, .unset, .unset, .unset, .unset, .unset, .unset, .unset, .unset, .unset, .unset, .unset, .unset] [(.long x)]))
  refine FinP.st (fun _ => XS.lstore X0.here hx rfl (Jvm.hb hby d_jdk_29_method_45_11) rfl (l' := #[.val (.long x), .second, .val (.long y), .second, .val (.long (0 : Int64)), .second, .val (.long x), .second, .unset, .unset, .unset, .unset, .unset, .unset, .unset, .unset, .unset, .unset, .unset, .unset]) rfl) ?_
  show FinP p e below s _ _ _ (T0.setTop (mkF m 13 #[.val (.long x), .second, .val (.long y), .second, .val (.long (0 : Int64)), .second, .val (.long x), .second, .unset, .unset, .unset, .unset, .unset, .unset, .unset, .unset, .unset, .unset, .unset, .unset] []))
  refine FinP.st (fun _ => XS.lloadN X0.here hx rfl (Jvm.hb hby d_jdk_29_method_45_13) rfl) ?_
  show FinP p e below s _ _ _ (T0.setTop (mkF m 14 #[.val (.long x), .second, .val (.long y), .second, .val (.long (0 : Int64)), .second, .val (.long x), .second, .unset, .unset, .unset, .unset, .unset, .unset, .unset, .unset, .unset, .unset, .unset, .unset] [(.long y)]))
  refine FinP.st (fun _ => XS.bipush X0.here hx rfl (Jvm.hb hby d_jdk_29_method_45_14)) ?_
  show FinP p e below s _ _ _ (T0.setTop (mkF m 16 #[.val (.long x), .second, .val (.long y), .second, .val (.long (0 : Int64)), .second, .val (.long x), .second, .unset, .unset, .unset, .unset, .unset, .unset, .unset, .unset, .unset, .unset, .unset, .unset] [(.int (32 : Int32)), (.long y)]))
  refine FinP.st (fun _ => XS.lshr X0.here hx rfl (Jvm.hb hby d_jdk_29_method_45_16) rfl) ?_
  show FinP p e below s _ _ _ (T0.setTop (mkF m 17 #[.val (.long x), .second, .val (.long y), .second, .val (.long (0 : Int64)), .second, .val (.long x), .second, .unset, .unset, .unset, .unset, .unset, .unset, .unset, .unset, .unset, .unset, .unset, .unset] [(.long (y >>> ((32 : Int32) &&& 0x3f).toInt64))]))
  rw [hy1]
  show FinP p e below s _ _ _ (T0.setTop (mkF m 17 #[.val (.long x), .second, .val (.long y), .second, .val (.long (0 : Int64)), .second, .val (.long x), .second, .unset, .unset, .unset, .unset, .unset, .unset, .unset, .unset, .unset, .unset, .unset, .unset] [(.long (0 : Int64))]))
  refine FinP.st (fun _ => XS.lstore X0.here hx rfl (Jvm.hb hby d_jdk_29_method_45_17) rfl (l' := #[.val (.long x), .second, .val (.long y), .second, .val (.long (0 : Int64)), .second, .val (.long x), .second, .val (.long (0 : Int64)), .second, .unset, .unset, .unset, .unset, .unset, .unset, .unset, .unset, .unset, .unset]) rfl) ?_
  show FinP p e below s _ _ _ (T0.setTop (mkF m 19 #[.val (.long x), .second, .val (.long y), .second, .val (.long (0 : Int64)), .second, .val (.long x), .second, .val (.long (0 : Int64)), .second, .unset, .unset, .unset, .unset, .unset, .unset, .unset, .unset, .unset, .unset] []))
  refine FinP.st (fun _ => XS.lloadN X0.here hx rfl (Jvm.hb hby d_jdk_29_method_45_19) rfl) ?_
  show FinP p e below s _ _ _ (T0.setTop (mkF m 20 #[.val (.long x), .second, .val (.long y), .second, .val (.long (0 : Int64)), .second, .val (.long x), .second, .val (.long (0 : Int64)), .second, .unset, .unset, .unset, .unset, .unset, .unset, .unset, .unset, .unset, .unset] [(.long y)]))
  refine FinP.st (fun _ => X0.ldc2J hx hown (mvT hZ (hw _ (List.mem_of_getElem? (i := 114) rfl))) rfl (Jvm.hb hby d_jdk_29_method_45_20)) ?_
  show FinP p e below s _ _ _ (T0.setTop (mkF m 23 #[.val (.long x), .second, .val (.long y), .second, .val (.long (0 : Int64)), .second, .val (.long x), .second, .val (.long (0 : Int64)), .second, .unset, .unset, .unset, .unset, .unset, .unset, .unset, .unset, .unset, .unset] [(.long (4294967295 : Int64)), (.long y)]))
  refine FinP.st (fun _ => XS.land X0.here hx rfl (Jvm.hb hby d_jdk_29_method_45_23) rfl) ?_
  show FinP p e below s _ _ _ (T0.setTop (mkF m 24 #[.val (.long x), .second, .val (.long y), .second, .val (.long (0 : Int64)), .second, .val (.long x), .second, .val (.long (0 : Int64)), .second, .unset, .unset, .unset, .unset, .unset, .unset, .unset, .unset, .unset, .unset] [(.long (y &&& (4294967295 : Int64)))]))
  rw [hy2]
  show FinP p e below s _ _ _ (T0.setTop (mkF m 24 #[.val (.long x), .second, .val (.long y), .second, .val (.long (0 : Int64)), .second, .val (.long x), .second, .val (.long (0 : Int64)), .second, .unset, .unset, .unset, .unset, .unset, .unset, .unset, .unset, .unset, .unset] [(.long y)]))
  refine FinP.st (fun _ => XS.lstore X0.here hx rfl (Jvm.hb hby d_jdk_29_method_45_24) rfl (l' := #[.val (.long x), .second, .val (.long y), .second, .val (.long (0 : Int64)), .second, .val (.long x), .second, .val (.long (0 : Int64)), .second, .val (.long y), .second, .unset, .unset, .unset, .unset, .unset, .unset, .unset, .unset]) rfl) ?_
  show FinP p e below s _ _ _ (T0.setTop (mkF m 26 #[.val (.long x), .second, .val (.long y), .second, .val (.long (0 : Int64)), .second, .val (.long x), .second, .val (.long (0 : Int64)), .second, .val (.long y), .second, .unset, .unset, .unset, .unset, .unset, .unset, .unset, .unset] []))
  refine FinP.st (fun _ => XS.lload X0.here hx rfl (Jvm.hb hby d_jdk_29_method_45_26) rfl) ?_
  show FinP p e below s _ _ _ (T0.setTop (mkF m 28 #[.val (.long x), .second, .val (.long y), .second, .val (.long (0 : Int64)), .second, .val (.long x), .second, .val (.long (0 : Int64)), .second, .val (.long y), .second, .unset, .unset, .unset, .unset, .unset, .unset, .unset, .unset] [(.long x)]))
  refine FinP.st (fun _ => XS.lload X0.here hx rfl (Jvm.hb hby d_jdk_29_method_45_28) rfl) ?_
  show FinP p e below s _ _ _ (T0.setTop (mkF m 30 #[.val (.long x), .second, .val (.long y), .second, .val (.long (0 : Int64)), .second, .val (.long x), .second, .val (.long (0 : Int64)), .second, .val (.long y), .second, .unset, .unset, .unset, .unset, .unset, .unset, .unset, .unset] [(.long y), (.long x)]))
  refine FinP.st (fun _ => XS.lmul X0.here hx rfl (Jvm.hb hby d_jdk_29_method_45_30) rfl) ?_
  show FinP p e below s _ _ _ (T0.setTop (mkF m 31 #[.val (.long x), .second, .val (.long y), .second, .val (.long (0 : Int64)), .second, .val (.long x), .second, .val (.long (0 : Int64)), .second, .val (.long y), .second, .unset, .unset, .unset, .unset, .unset, .unset, .unset, .unset] [(.long (x * y))]))
  refine FinP.st (fun _ => XS.lstore X0.here hx rfl (Jvm.hb hby d_jdk_29_method_45_31) rfl (l' := #[.val (.long x), .second, .val (.long y), .second, .val (.long (0 : Int64)), .second, .val (.long x), .second, .val (.long (0 : Int64)), .second, .val (.long y), .second, .val (.long (x * y)), .second, .unset, .unset, .unset, .unset, .unset, .unset]) rfl) ?_
  show FinP p e below s _ _ _ (T0.setTop (mkF m 33 #[.val (.long x), .second, .val (.long y), .second, .val (.long (0 : Int64)), .second, .val (.long x), .second, .val (.long (0 : Int64)), .second, .val (.long y), .second, .val (.long (x * y)), .second, .unset, .unset, .unset, .unset, .unset, .unset] []))
  refine FinP.st (fun _ => XS.lload X0.here hx rfl (Jvm.hb hby d_jdk_29_method_45_33) rfl) ?_
  show FinP p e below s _ _ _ (T0.setTop (mkF m 35 #[.val (.long x), .second, .val (.long y), .second, .val (.long (0 : Int64)), .second, .val (.long x), .second, .val (.long (0 : Int64)), .second, .val (.long y), .second, .val (.long (x * y)), .second, .unset, .unset, .unset, .unset, .unset, .unset] [(.long (0 : Int64))]))
  refine FinP.st (fun _ => XS.lload X0.here hx rfl (Jvm.hb hby d_jdk_29_method_45_35) rfl) ?_
  show FinP p e below s _ _ _ (T0.setTop (mkF m 37 #[.val (.long x), .second, .val (.long y), .second, .val (.long (0 : Int64)), .second, .val (.long x), .second, .val (.long (0 : Int64)), .second, .val (.long y), .second, .val (.long (x * y)), .second, .unset, .unset, .unset, .unset, .unset, .unset] [(.long y), (.long (0 : Int64))]))
  refine FinP.st (fun _ => XS.lmul X0.here hx rfl (Jvm.hb hby d_jdk_29_method_45_37) rfl) ?_
  show FinP p e below s _ _ _ (T0.setTop (mkF m 38 #[.val (.long x), .second, .val (.long y), .second, .val (.long (0 : Int64)), .second, .val (.long x), .second, .val (.long (0 : Int64)), .second, .val (.long y), .second, .val (.long (x * y)), .second, .unset, .unset, .unset, .unset, .unset, .unset] [(.long ((0 : Int64) * y))]))
  refine FinP.st (fun _ => XS.lload X0.here hx rfl (Jvm.hb hby d_jdk_29_method_45_38) rfl) ?_
  show FinP p e below s _ _ _ (T0.setTop (mkF m 40 #[.val (.long x), .second, .val (.long y), .second, .val (.long (0 : Int64)), .second, .val (.long x), .second, .val (.long (0 : Int64)), .second, .val (.long y), .second, .val (.long (x * y)), .second, .unset, .unset, .unset, .unset, .unset, .unset] [(.long (x * y)), (.long ((0 : Int64) * y))]))
  refine FinP.st (fun _ => XS.bipush X0.here hx rfl (Jvm.hb hby d_jdk_29_method_45_40)) ?_
  show FinP p e below s _ _ _ (T0.setTop (mkF m 42 #[.val (.long x), .second, .val (.long y), .second, .val (.long (0 : Int64)), .second, .val (.long x), .second, .val (.long (0 : Int64)), .second, .val (.long y), .second, .val (.long (x * y)), .second, .unset, .unset, .unset, .unset, .unset, .unset] [(.int (32 : Int32)), (.long (x * y)), (.long ((0 : Int64) * y))]))
  refine FinP.st (fun _ => XS.lushr X0.here hx rfl (Jvm.hb hby d_jdk_29_method_45_42) rfl) ?_
  show FinP p e below s _ _ _ (T0.setTop (mkF m 43 #[.val (.long x), .second, .val (.long y), .second, .val (.long (0 : Int64)), .second, .val (.long x), .second, .val (.long (0 : Int64)), .second, .val (.long y), .second, .val (.long (x * y)), .second, .unset, .unset, .unset, .unset, .unset, .unset] [(.long (lush (x * y) (32 : Int32))), (.long ((0 : Int64) * y))]))
  rw [hz]
  show FinP p e below s _ _ _ (T0.setTop (mkF m 43 #[.val (.long x), .second, .val (.long y), .second, .val (.long (0 : Int64)), .second, .val (.long x), .second, .val (.long (0 : Int64)), .second, .val (.long y), .second, .val (.long (x * y)), .second, .unset, .unset, .unset, .unset, .unset, .unset] [(.long (0 : Int64)), (.long ((0 : Int64) * y))]))
  have k1 : (0 : Int64) * y + 0 = 0 := by rw [Int64.zero_mul]; rfl
  refine FinP.st (fun _ => XS.ladd X0.here hx rfl (Jvm.hb hby d_jdk_29_method_45_43) rfl) ?_
  show FinP p e below s _ _ _ (T0.setTop (mkF m 44 #[.val (.long x), .second, .val (.long y), .second, .val (.long (0 : Int64)), .second, .val (.long x), .second, .val (.long (0 : Int64)), .second, .val (.long y), .second, .val (.long (x * y)), .second, .unset, .unset, .unset, .unset, .unset, .unset] [(.long (((0 : Int64) * y) + (0 : Int64)))]))
  rw [k1]
  show FinP p e below s _ _ _ (T0.setTop (mkF m 44 #[.val (.long x), .second, .val (.long y), .second, .val (.long (0 : Int64)), .second, .val (.long x), .second, .val (.long (0 : Int64)), .second, .val (.long y), .second, .val (.long (x * y)), .second, .unset, .unset, .unset, .unset, .unset, .unset] [(.long (0 : Int64))]))
  have k2 : (0 : Int64) &&& 4294967295 = 0 := by decide +kernel
  refine FinP.st (fun _ => XS.lstore X0.here hx rfl (Jvm.hb hby d_jdk_29_method_45_44) rfl (l' := #[.val (.long x), .second, .val (.long y), .second, .val (.long (0 : Int64)), .second, .val (.long x), .second, .val (.long (0 : Int64)), .second, .val (.long y), .second, .val (.long (x * y)), .second, .val (.long (0 : Int64)), .second, .unset, .unset, .unset, .unset]) rfl) ?_
  show FinP p e below s _ _ _ (T0.setTop (mkF m 46 #[.val (.long x), .second, .val (.long y), .second, .val (.long (0 : Int64)), .second, .val (.long x), .second, .val (.long (0 : Int64)), .second, .val (.long y), .second, .val (.long (x * y)), .second, .val (.long (0 : Int64)), .second, .unset, .unset, .unset, .unset] []))
  refine FinP.st (fun _ => XS.lload X0.here hx rfl (Jvm.hb hby d_jdk_29_method_45_46) rfl) ?_
  show FinP p e below s _ _ _ (T0.setTop (mkF m 48 #[.val (.long x), .second, .val (.long y), .second, .val (.long (0 : Int64)), .second, .val (.long x), .second, .val (.long (0 : Int64)), .second, .val (.long y), .second, .val (.long (x * y)), .second, .val (.long (0 : Int64)), .second, .unset, .unset, .unset, .unset] [(.long (0 : Int64))]))
  refine FinP.st (fun _ => X0.ldc2J hx hown (mvT hZ (hw _ (List.mem_of_getElem? (i := 114) rfl))) rfl (Jvm.hb hby d_jdk_29_method_45_48)) ?_
  show FinP p e below s _ _ _ (T0.setTop (mkF m 51 #[.val (.long x), .second, .val (.long y), .second, .val (.long (0 : Int64)), .second, .val (.long x), .second, .val (.long (0 : Int64)), .second, .val (.long y), .second, .val (.long (x * y)), .second, .val (.long (0 : Int64)), .second, .unset, .unset, .unset, .unset] [(.long (4294967295 : Int64)), (.long (0 : Int64))]))
  refine FinP.st (fun _ => XS.land X0.here hx rfl (Jvm.hb hby d_jdk_29_method_45_51) rfl) ?_
  show FinP p e below s _ _ _ (T0.setTop (mkF m 52 #[.val (.long x), .second, .val (.long y), .second, .val (.long (0 : Int64)), .second, .val (.long x), .second, .val (.long (0 : Int64)), .second, .val (.long y), .second, .val (.long (x * y)), .second, .val (.long (0 : Int64)), .second, .unset, .unset, .unset, .unset] [(.long ((0 : Int64) &&& (4294967295 : Int64)))]))
  rw [k2]
  show FinP p e below s _ _ _ (T0.setTop (mkF m 52 #[.val (.long x), .second, .val (.long y), .second, .val (.long (0 : Int64)), .second, .val (.long x), .second, .val (.long (0 : Int64)), .second, .val (.long y), .second, .val (.long (x * y)), .second, .val (.long (0 : Int64)), .second, .unset, .unset, .unset, .unset] [(.long (0 : Int64))]))
  have k3 : (0 : Int64) >>> ((32 : Int32) &&& 0x3f).toInt64 = 0 := by decide +kernel
  refine FinP.st (fun _ => XS.lstore X0.here hx rfl (Jvm.hb hby d_jdk_29_method_45_52) rfl (l' := #[.val (.long x), .second, .val (.long y), .second, .val (.long (0 : Int64)), .second, .val (.long x), .second, .val (.long (0 : Int64)), .second, .val (.long y), .second, .val (.long (x * y)), .second, .val (.long (0 : Int64)), .second, .val (.long (0 : Int64)), .second, .unset, .unset]) rfl) ?_
  show FinP p e below s _ _ _ (T0.setTop (mkF m 54 #[.val (.long x), .second, .val (.long y), .second, .val (.long (0 : Int64)), .second, .val (.long x), .second, .val (.long (0 : Int64)), .second, .val (.long y), .second, .val (.long (x * y)), .second, .val (.long (0 : Int64)), .second, .val (.long (0 : Int64)), .second, .unset, .unset] []))
  refine FinP.st (fun _ => XS.lload X0.here hx rfl (Jvm.hb hby d_jdk_29_method_45_54) rfl) ?_
  show FinP p e below s _ _ _ (T0.setTop (mkF m 56 #[.val (.long x), .second, .val (.long y), .second, .val (.long (0 : Int64)), .second, .val (.long x), .second, .val (.long (0 : Int64)), .second, .val (.long y), .second, .val (.long (x * y)), .second, .val (.long (0 : Int64)), .second, .val (.long (0 : Int64)), .second, .unset, .unset] [(.long (0 : Int64))]))
  refine FinP.st (fun _ => XS.bipush X0.here hx rfl (Jvm.hb hby d_jdk_29_method_45_56)) ?_
  show FinP p e below s _ _ _ (T0.setTop (mkF m 58 #[.val (.long x), .second, .val (.long y), .second, .val (.long (0 : Int64)), .second, .val (.long x), .second, .val (.long (0 : Int64)), .second, .val (.long y), .second, .val (.long (x * y)), .second, .val (.long (0 : Int64)), .second, .val (.long (0 : Int64)), .second, .unset, .unset] [(.int (32 : Int32)), (.long (0 : Int64))]))
  refine FinP.st (fun _ => XS.lshr X0.here hx rfl (Jvm.hb hby d_jdk_29_method_45_58) rfl) ?_
  show FinP p e below s _ _ _ (T0.setTop (mkF m 59 #[.val (.long x), .second, .val (.long y), .second, .val (.long (0 : Int64)), .second, .val (.long x), .second, .val (.long (0 : Int64)), .second, .val (.long y), .second, .val (.long (x * y)), .second, .val (.long (0 : Int64)), .second, .val (.long (0 : Int64)), .second, .unset, .unset] [(.long ((0 : Int64) >>> ((32 : Int32) &&& 0x3f).toInt64))]))
  rw [k3]
  show FinP p e below s _ _ _ (T0.setTop (mkF m 59 #[.val (.long x), .second, .val (.long y), .second, .val (.long (0 : Int64)), .second, .val (.long x), .second, .val (.long (0 : Int64)), .second, .val (.long y), .second, .val (.long (x * y)), .second, .val (.long (0 : Int64)), .second, .val (.long (0 : Int64)), .second, .unset, .unset] [(.long (0 : Int64))]))
  have k4 : (0 : Int64) + x * 0 = 0 := by rw [Int64.mul_zero]; rfl
  refine FinP.st (fun _ => XS.lstore X0.here hx rfl (Jvm.hb hby d_jdk_29_method_45_59) rfl (l' := #[.val (.long x), .second, .val (.long y), .second, .val (.long (0 : Int64)), .second, .val (.long x), .second, .val (.long (0 : Int64)), .second, .val (.long y), .second, .val (.long (x * y)), .second, .val (.long (0 : Int64)), .second, .val (.long (0 : Int64)), .second, .val (.long (0 : Int64)), .second]) rfl) ?_
  show FinP p e below s _ _ _ (T0.setTop (mkF m 61 #[.val (.long x), .second, .val (.long y), .second, .val (.long (0 : Int64)), .second, .val (.long x), .second, .val (.long (0 : Int64)), .second, .val (.long y), .second, .val (.long (x * y)), .second, .val (.long (0 : Int64)), .second, .val (.long (0 : Int64)), .second, .val (.long (0 : Int64)), .second] []))
  refine FinP.st (fun _ => XS.lload X0.here hx rfl (Jvm.hb hby d_jdk_29_method_45_61) rfl) ?_
  show FinP p e below s _ _ _ (T0.setTop (mkF m 63 #[.val (.long x), .second, .val (.long y), .second, .val (.long (0 : Int64)), .second, .val (.long x), .second, .val (.long (0 : Int64)), .second, .val (.long y), .second, .val (.long (x * y)), .second, .val (.long (0 : Int64)), .second, .val (.long (0 : Int64)), .second, .val (.long (0 : Int64)), .second] [(.long (0 : Int64))]))
  refine FinP.st (fun _ => XS.lload X0.here hx rfl (Jvm.hb hby d_jdk_29_method_45_63) rfl) ?_
  show FinP p e below s _ _ _ (T0.setTop (mkF m 65 #[.val (.long x), .second, .val (.long y), .second, .val (.long (0 : Int64)), .second, .val (.long x), .second, .val (.long (0 : Int64)), .second, .val (.long y), .second, .val (.long (x * y)), .second, .val (.long (0 : Int64)), .second, .val (.long (0 : Int64)), .second, .val (.long (0 : Int64)), .second] [(.long x), (.long (0 : Int64))]))
  refine FinP.st (fun _ => XS.lload X0.here hx rfl (Jvm.hb hby d_jdk_29_method_45_65) rfl) ?_
  show FinP p e below s _ _ _ (T0.setTop (mkF m 67 #[.val (.long x), .second, .val (.long y), .second, .val (.long (0 : Int64)), .second, .val (.long x), .second, .val (.long (0 : Int64)), .second, .val (.long y), .second, .val (.long (x * y)), .second, .val (.long (0 : Int64)), .second, .val (.long (0 : Int64)), .second, .val (.long (0 : Int64)), .second] [(.long (0 : Int64)), (.long x), (.long (0 : Int64))]))
  refine FinP.st (fun _ => XS.lmul X0.here hx rfl (Jvm.hb hby d_jdk_29_method_45_67) rfl) ?_
  show FinP p e below s _ _ _ (T0.setTop (mkF m 68 #[.val (.long x), .second, .val (.long y), .second, .val (.long (0 : Int64)), .second, .val (.long x), .second, .val (.long (0 : Int64)), .second, .val (.long y), .second, .val (.long (x * y)), .second, .val (.long (0 : Int64)), .second, .val (.long (0 : Int64)), .second, .val (.long (0 : Int64)), .second] [(.long (x * (0 : Int64))), (.long (0 : Int64))]))
  refine FinP.st (fun _ => XS.ladd X0.here hx rfl (Jvm.hb hby d_jdk_29_method_45_68) rfl) ?_
  show FinP p e below s _ _ _ (T0.setTop (mkF m 69 #[.val (.long x), .second, .val (.long y), .second, .val (.long (0 : Int64)), .second, .val (.long x), .second, .val (.long (0 : Int64)), .second, .val (.long y), .second, .val (.long (x * y)), .second, .val (.long (0 : Int64)), .second, .val (.long (0 : Int64)), .second, .val (.long (0 : Int64)), .second] [(.long ((0 : Int64) + (x * (0 : Int64))))]))
  rw [k4]
  show FinP p e below s _ _ _ (T0.setTop (mkF m 69 #[.val (.long x), .second, .val (.long y), .second, .val (.long (0 : Int64)), .second, .val (.long x), .second, .val (.long (0 : Int64)), .second, .val (.long y), .second, .val (.long (x * y)), .second, .val (.long (0 : Int64)), .second, .val (.long (0 : Int64)), .second, .val (.long (0 : Int64)), .second] [(.long (0 : Int64))]))
  refine FinP.st (fun _ => XS.lstore X0.here hx rfl (Jvm.hb hby d_jdk_29_method_45_69) rfl (l' := #[.val (.long x), .second, .val (.long y), .second, .val (.long (0 : Int64)), .second, .val (.long x), .second, .val (.long (0 : Int64)), .second, .val (.long y), .second, .val (.long (x * y)), .second, .val (.long (0 : Int64)), .second, .val (.long (0 : Int64)), .second, .val (.long (0 : Int64)), .second]) rfl) ?_
  show FinP p e below s _ _ _ (T0.setTop (mkF m 71 #[.val (.long x), .second, .val (.long y), .second, .val (.long (0 : Int64)), .second, .val (.long x), .second, .val (.long (0 : Int64)), .second, .val (.long y), .second, .val (.long (x * y)), .second, .val (.long (0 : Int64)), .second, .val (.long (0 : Int64)), .second, .val (.long (0 : Int64)), .second] []))
  refine FinP.st (fun _ => XS.lload X0.here hx rfl (Jvm.hb hby d_jdk_29_method_45_71) rfl) ?_
  show FinP p e below s _ _ _ (T0.setTop (mkF m 73 #[.val (.long x), .second, .val (.long y), .second, .val (.long (0 : Int64)), .second, .val (.long x), .second, .val (.long (0 : Int64)), .second, .val (.long y), .second, .val (.long (x * y)), .second, .val (.long (0 : Int64)), .second, .val (.long (0 : Int64)), .second, .val (.long (0 : Int64)), .second] [(.long (0 : Int64))]))
  refine FinP.st (fun _ => XS.lload X0.here hx rfl (Jvm.hb hby d_jdk_29_method_45_73) rfl) ?_
  show FinP p e below s _ _ _ (T0.setTop (mkF m 75 #[.val (.long x), .second, .val (.long y), .second, .val (.long (0 : Int64)), .second, .val (.long x), .second, .val (.long (0 : Int64)), .second, .val (.long y), .second, .val (.long (x * y)), .second, .val (.long (0 : Int64)), .second, .val (.long (0 : Int64)), .second, .val (.long (0 : Int64)), .second] [(.long (0 : Int64)), (.long (0 : Int64))]))
  refine FinP.st (fun _ => XS.lmul X0.here hx rfl (Jvm.hb hby d_jdk_29_method_45_75) rfl) ?_
  show FinP p e below s _ _ _ (T0.setTop (mkF m 76 #[.val (.long x), .second, .val (.long y), .second, .val (.long (0 : Int64)), .second, .val (.long x), .second, .val (.long (0 : Int64)), .second, .val (.long y), .second, .val (.long (x * y)), .second, .val (.long (0 : Int64)), .second, .val (.long (0 : Int64)), .second, .val (.long (0 : Int64)), .second] [(.long ((0 : Int64) * (0 : Int64)))]))
  refine FinP.st (fun _ => XS.lload X0.here hx rfl (Jvm.hb hby d_jdk_29_method_45_76) rfl) ?_
  show FinP p e below s _ _ _ (T0.setTop (mkF m 78 #[.val (.long x), .second, .val (.long y), .second, .val (.long (0 : Int64)), .second, .val (.long x), .second, .val (.long (0 : Int64)), .second, .val (.long y), .second, .val (.long (x * y)), .second, .val (.long (0 : Int64)), .second, .val (.long (0 : Int64)), .second, .val (.long (0 : Int64)), .second] [(.long (0 : Int64)), (.long ((0 : Int64) * (0 : Int64)))]))
  refine FinP.st (fun _ => XS.ladd X0.here hx rfl (Jvm.hb hby d_jdk_29_method_45_78) rfl) ?_
  show FinP p e below s _ _ _ (T0.setTop (mkF m 79 #[.val (.long x), .second, .val (.long y), .second, .val (.long (0 : Int64)), .second, .val (.long x), .second, .val (.long (0 : Int64)), .second, .val (.long y), .second, .val (.long (x * y)), .second, .val (.long (0 : Int64)), .second, .val (.long (0 : Int64)), .second, .val (.long (0 : Int64)), .second] [(.long (((0 : Int64) * (0 : Int64)) + (0 : Int64)))]))
  refine FinP.st (fun _ => XS.lload X0.here hx rfl (Jvm.hb hby d_jdk_29_method_45_79) rfl) ?_
  show FinP p e below s _ _ _ (T0.setTop (mkF m 81 #[.val (.long x), .second, .val (.long y), .second, .val (.long (0 : Int64)), .second, .val (.long x), .second, .val (.long (0 : Int64)), .second, .val (.long y), .second, .val (.long (x * y)), .second, .val (.long (0 : Int64)), .second, .val (.long (0 : Int64)), .second, .val (.long (0 : Int64)), .second] [(.long (0 : Int64)), (.long (((0 : Int64) * (0 : Int64)) + (0 : Int64)))]))
  refine FinP.st (fun _ => XS.bipush X0.here hx rfl (Jvm.hb hby d_jdk_29_method_45_81)) ?_
  show FinP p e below s _ _ _ (T0.setTop (mkF m 83 #[.val (.long x), .second, .val (.long y), .second, .val (.long (0 : Int64)), .second, .val (.long x), .second, .val (.long (0 : Int64)), .second, .val (.long y), .second, .val (.long (x * y)), .second, .val (.long (0 : Int64)), .second, .val (.long (0 : Int64)), .second, .val (.long (0 : Int64)), .second] [(.int (32 : Int32)), (.long (0 : Int64)), (.long (((0 : Int64) * (0 : Int64)) + (0 : Int64)))]))
  refine FinP.st (fun _ => XS.lshr X0.here hx rfl (Jvm.hb hby d_jdk_29_method_45_83) rfl) ?_
  show FinP p e below s _ _ _ (T0.setTop (mkF m 84 #[.val (.long x), .second, .val (.long y), .second, .val (.long (0 : Int64)), .second, .val (.long x), .second, .val (.long (0 : Int64)), .second, .val (.long y), .second, .val (.long (x * y)), .second, .val (.long (0 : Int64)), .second, .val (.long (0 : Int64)), .second, .val (.long (0 : Int64)), .second] [(.long ((0 : Int64) >>> ((32 : Int32) &&& 0x3f).toInt64)), (.long (((0 : Int64) * (0 : Int64)) + (0 : Int64)))]))
  rw [k3]
  show FinP p e below s _ _ _ (T0.setTop (mkF m 84 #[.val (.long x), .second, .val (.long y), .second, .val (.long (0 : Int64)), .second, .val (.long x), .second, .val (.long (0 : Int64)), .second, .val (.long y), .second, .val (.long (x * y)), .second, .val (.long (0 : Int64)), .second, .val (.long (0 : Int64)), .second, .val (.long (0 : Int64)), .second] [(.long (0 : Int64)), (.long (((0 : Int64) * (0 : Int64)) + (0 : Int64)))]))
  refine FinP.st (fun _ => XS.ladd X0.here hx rfl (Jvm.hb hby d_jdk_29_method_45_84) rfl) ?_
  show FinP p e below s _ _ _ (T0.setTop (mkF m 85 #[.val (.long x), .second, .val (.long y), .second, .val (.long (0 : Int64)), .second, .val (.long x), .second, .val (.long (0 : Int64)), .second, .val (.long y), .second, .val (.long (x * y)), .second, .val (.long (0 : Int64)), .second, .val (.long (0 : Int64)), .second, .val (.long (0 : Int64)), .second] [(.long ((((0 : Int64) * (0 : Int64)) + (0 : Int64)) + (0 : Int64)))]))
  exact finL X0 hx hlk hret (Jvm.hb hby d_jdk_29_method_45_85) e0 ⟨rfl, rfl, rfl⟩ (by decide) (by decide)
theorem d_prog_3_method_12_0 : decode prog_3_method_12_code 0 = .ok (.aload_n 0, 1) := by decide +kernel
theorem d_prog_3_method_12_1 : decode prog_3_method_12_code 1 = .ok (.dup, 1) := by decide +kernel
theorem d_prog_3_method_12_2 : decode prog_3_method_12_code 2 = .ok (.getfield 27, 3) := by decide +kernel
theorem d_prog_3_method_12_5 : decode prog_3_method_12_code 5 = .ok (.lload_n 1, 1) := by decide +kernel
theorem d_prog_3_method_12_6 : decode prog_3_method_12_code 6 = .ok (.ladd, 1) := by decide +kernel
theorem d_prog_3_method_12_7 : decode prog_3_method_12_code 7 = .ok (.putfield 27, 3) := by decide +kernel
theorem d_prog_3_method_12_10 : decode prog_3_method_12_code 10 = .ok (.lload_n 1, 1) := by decide +kernel
theorem d_prog_3_method_12_11 : decode prog_3_method_12_code 11 = .ok (.lload_n 3, 1) := by decide +kernel
theorem d_prog_3_method_12_12 : decode prog_3_method_12_code 12 = .ok (.lmul, 1) := by decide +kernel
theorem d_prog_3_method_12_13 : decode prog_3_method_12_code 13 = .ok (.lstore 5, 2) := by decide +kernel
theorem d_prog_3_method_12_15 : decode prog_3_method_12_code 15 = .ok (.aload_n 0, 1) := by decide +kernel
theorem d_prog_3_method_12_16 : decode prog_3_method_12_code 16 = .ok (.getfield 34, 3) := by decide +kernel
theorem d_prog_3_method_12_19 : decode prog_3_method_12_code 19 = .ok (.ifnonnull 38, 3) := by decide +kernel
theorem d_prog_3_method_12_22 : decode prog_3_method_12_code 22 = .ok (.lload_n 1, 1) := by decide +kernel
theorem d_prog_3_method_12_23 : decode prog_3_method_12_code 23 = .ok (.lload_n 3, 1) := by decide +kernel
theorem d_prog_3_method_12_24 : decode prog_3_method_12_code 24 = .ok (.invokestatic 61, 3) := by decide +kernel
theorem pd_2 : parseMethodDescriptor "(JJ)J" = some ⟨[.long, .long], some .long⟩ := by decide +kernel
theorem d_prog_3_method_12_27 : decode prog_3_method_12_code 27 = .ok (.lconst 0, 1) := by decide +kernel
theorem d_prog_3_method_12_28 : decode prog_3_method_12_code 28 = .ok (.lcmp, 1) := by decide +kernel
theorem d_prog_3_method_12_29 : decode prog_3_method_12_code 29 = .ok (.ifCond .ne 28, 3) := by decide +kernel
theorem d_prog_3_method_12_32 : decode prog_3_method_12_code 32 = .ok (.lload 5, 2) := by decide +kernel
theorem d_prog_3_method_12_34 : decode prog_3_method_12_code 34 = .ok (.lconst 0, 1) := by decide +kernel
theorem d_prog_3_method_12_35 : decode prog_3_method_12_code 35 = .ok (.lcmp, 1) := by decide +kernel
theorem d_prog_3_method_12_36 : decode prog_3_method_12_code 36 = .ok (.ifCond .lt 21, 3) := by decide +kernel
theorem d_prog_3_method_12_39 : decode prog_3_method_12_code 39 = .ok (.aload_n 0, 1) := by decide +kernel
theorem d_prog_3_method_12_40 : decode prog_3_method_12_code 40 = .ok (.getfield 38, 3) := by decide +kernel
theorem d_prog_3_method_12_43 : decode prog_3_method_12_code 43 = .ok (.ldc2_w 69, 3) := by decide +kernel
theorem d_prog_3_method_12_46 : decode prog_3_method_12_code 46 = .ok (.lload 5, 2) := by decide +kernel
theorem d_prog_3_method_12_48 : decode prog_3_method_12_code 48 = .ok (.lsub, 1) := by decide +kernel
theorem d_prog_3_method_12_49 : decode prog_3_method_12_code 49 = .ok (.lcmp, 1) := by decide +kernel
theorem d_prog_3_method_12_50 : decode prog_3_method_12_code 50 = .ok (.ifCond .gt 7, 3) := by decide +kernel
theorem d_prog_3_method_12_53 : decode prog_3_method_12_code 53 = .ok (.iconst 1, 1) := by decide +kernel
theorem d_prog_3_method_12_54 : decode prog_3_method_12_code 54 = .ok (.goto 4, 3) := by decide +kernel
theorem d_prog_3_method_12_58 : decode prog_3_method_12_code 58 = .ok (.istore 7, 2) := by decide +kernel
theorem d_prog_3_method_12_60 : decode prog_3_method_12_code 60 = .ok (.iload 7, 2) := by decide +kernel
theorem d_prog_3_method_12_62 : decode prog_3_method_12_code 62 = .ok (.ifCond .eq 17, 3) := by decide +kernel
theorem d_prog_3_method_12_65 : decode prog_3_method_12_code 65 = .ok (.aload_n 0, 1) := by decide +kernel
theorem d_prog_3_method_12_66 : decode prog_3_method_12_code 66 = .ok (.dup, 1) := by decide +kernel
theorem d_prog_3_method_12_67 : decode prog_3_method_12_code 67 = .ok (.getfield 38, 3) := by decide +kernel
theorem d_prog_3_method_12_70 : decode prog_3_method_12_code 70 = .ok (.lload 5, 2) := by decide +kernel
theorem d_prog_3_method_12_72 : decode prog_3_method_12_code 72 = .ok (.ladd, 1) := by decide +kernel
theorem d_prog_3_method_12_73 : decode prog_3_method_12_code 73 = .ok (.putfield 38, 3) := by decide +kernel
theorem d_prog_3_method_12_76 : decode prog_3_method_12_code 76 = .ok (.goto 46, 3) := by decide +kernel
theorem d_prog_3_method_12_122 : decode prog_3_method_12_code 122 = .ok (.return_, 1) := by decide +kernel
set_option maxRecDepth 65536 in
set_option maxHeartbeats 40000000 in
theorem rmTrade (l : Launch) (Z : State) (a0 : Array Value) (hw : ∀ d ∈ tables_1, d.before a0 Z = true) (ws : List Jvm.Cond) (o : Addr) (i pr qu : Int64) (rq : Addr) (x y : Int64) (h0 : Heap) (n0 : Nat) (O : Old Z n0 h0) (g1 : n0 ≤ o) (P : Ord Z h0 o i pr qu rq 0 0 0) (lx : 0 ≤ x.toInt) (ux : x.toInt ≤ 65535) (ly : 0 ≤ y.toInt) (uy : y.toInt ≤ 65535) :
    Con l Z h0 ⟨"com/example/fillwire/fillwire/book/Order", "trade", "(JJ)V"⟩ prog_3_method_12_code 9 none ws ({ frames := 1, cells := 0, slots := 0, locals := 34 } : Room) #[(.ref o), (.long x), (.long y)] (fun v h L => v = none ∧ Fr n0 L ∧ Keep h0 h [o] ∧ Ord Z h o i pr qu rq x 0 (x * y)) := by
  refine Con.of (plainFor_of_name pn_2) (f0 := fun m => (mkF m 0 #[.val (.ref o), .val (.long x), .second, .val (.long y), .second, .unset, .unset, .unset, .unset] [])) (fun m => by first | (simp [entryFrame, mkF, argsToLocals, Value.category, maxLocals]; done) | rfl) ?_
  intro p e s m below meth c T0 hx hby hml hown hnm hret hlk hZ X0 e0
  have hown : s.vm.findClass "com/example/fillwire/fillwire/book/Order" = some m.cls := hown
  have N0 := Fr.nil n0
  have KP0 := Keep.refl h0 [o]
  have GW0 : Grw h0 h0 := Nat.le_refl _
  show FinP p e below s _ _ _ (T0.setTop (mkF m 0 #[.val (.ref o), .val (.long x), .second, .val (.long y), .second, .unset, .unset, .unset, .unset] []))
  obtain ⟨P_E, P_id, P_price, P_quantity, P_request, P_cumQty, P_cancelled, P_notional, P_largeNotional⟩ := P
  show FinP p e below s _ _ _ (T0.setTop (mkF m 0 #[.val (.ref o), .val (.long x), .second, .val (.long y), .second, .unset, .unset, .unset, .unset] []))
  have hm := mul16 lx ux ly uy
  have hv : ¬ (x * y) < 0 := by rw [Int64.lt_iff_toInt_lt, hm.1]; have : (0 : Int64).toInt = 0 := rfl; omega
  have hmx : ¬ (9223372036854775807 - x * y) < 0 := by
    have a := c_lsub 9223372036854775807 (x * y)
    have b := rng64 (9223372036854775807 - x * y)
    have c : (9223372036854775807 : Int64).toInt = 9223372036854775807 := rfl
    have d : (0 : Int64).toInt = 0 := rfl
    rw [Int64.lt_iff_toInt_lt, d]; rw [c, hm.1] at a; omega
  refine FinP.st (fun _ => XS.aloadN X0.here hx rfl (Jvm.hb hby d_prog_3_method_12_0) rfl rfl) ?_
  show FinP p e below s _ _ _ (T0.setTop (mkF m 1 #[.val (.ref o), .val (.long x), .second, .val (.long y), .second, .unset, .unset, .unset, .unset] [(.ref o)]))
  refine FinP.st (fun _ => XS.dup X0.here hx rfl (Jvm.hb hby d_prog_3_method_12_1) rfl rfl) ?_
  show FinP p e below s _ _ _ (T0.setTop (mkF m 2 #[.val (.ref o), .val (.long x), .second, .val (.long y), .second, .unset, .unset, .unset, .unset] [(.ref o), (.ref o)]))
  obtain ⟨T220, X220, e220, st220⟩ := getF X0 hx hZ hown (host := "") (Or.inl (hw _ (List.mem_of_getElem? (i := 77) rfl))) Via.refl e0 P_cumQty (g := (mkF m 2 #[.val (.ref o), .val (.long x), .second, .val (.long y), .second, .unset, .unset, .unset, .unset] [(.ref o), (.ref o)])) rfl rfl (Jvm.hb hby d_prog_3_method_12_2)
  refine FinP.st st220 ?_
  show FinP p e below s _ _ _ (T220.setTop (mkF m 5 #[.val (.ref o), .val (.long x), .second, .val (.long y), .second, .unset, .unset, .unset, .unset] [(.long (0 : Int64)), (.ref o)]))
  refine FinP.st (fun _ => XS.lloadN X220.here hx rfl (Jvm.hb hby d_prog_3_method_12_5) rfl) ?_
  show FinP p e below s _ _ _ (T220.setTop (mkF m 6 #[.val (.ref o), .val (.long x), .second, .val (.long y), .second, .unset, .unset, .unset, .unset] [(.long x), (.long (0 : Int64)), (.ref o)]))
  refine FinP.st (fun _ => XS.ladd X220.here hx rfl (Jvm.hb hby d_prog_3_method_12_6) rfl) ?_
  show FinP p e below s _ _ _ (T220.setTop (mkF m 7 #[.val (.ref o), .val (.long x), .second, .val (.long y), .second, .unset, .unset, .unset, .unset] [(.long ((0 : Int64) + x)), (.ref o)]))
  obtain ⟨T221, h221, X221, e221, W221, st221⟩ := putF X220 hx hZ hown (host := "") (Or.inl (hw _ (List.mem_of_getElem? (i := 77) rfl))) Via.refl e220 P_cumQty P_E (Or.inl (hw _ (List.mem_of_getElem? (i := 78) rfl))) (hw _ (List.mem_of_getElem? (i := 13) rfl)) (ty := .long) (by decide) rfl rfl (g := (mkF m 7 #[.val (.ref o), .val (.long x), .second, .val (.long y), .second, .unset, .unset, .unset, .unset] [(.long ((0 : Int64) + x)), (.ref o)])) rfl rfl (Jvm.hb hby d_prog_3_method_12_7)
  have N221 := Fr.snoc X221 N0 g1
  have F221 := P_cumQty.same W221
  refine FinP.st st221 ?_
  show FinP p e below s _ _ _ (T221.setTop (mkF m 10 #[.val (.ref o), .val (.long x), .second, .val (.long y), .second, .unset, .unset, .unset, .unset] []))
  refine FinP.st (fun _ => XS.lloadN X221.here hx rfl (Jvm.hb hby d_prog_3_method_12_10) rfl) ?_
  show FinP p e below s _ _ _ (T221.setTop (mkF m 11 #[.val (.ref o), .val (.long x), .second, .val (.long y), .second, .unset, .unset, .unset, .unset] [(.long x)]))
  refine FinP.st (fun _ => XS.lloadN X221.here hx rfl (Jvm.hb hby d_prog_3_method_12_11) rfl) ?_
  show FinP p e below s _ _ _ (T221.setTop (mkF m 12 #[.val (.ref o), .val (.long x), .second, .val (.long y), .second, .unset, .unset, .unset, .unset] [(.long y), (.long x)]))
  refine FinP.st (fun _ => XS.lmul X221.here hx rfl (Jvm.hb hby d_prog_3_method_12_12) rfl) ?_
  show FinP p e below s _ _ _ (T221.setTop (mkF m 13 #[.val (.ref o), .val (.long x), .second, .val (.long y), .second, .unset, .unset, .unset, .unset] [(.long (x * y))]))
  refine FinP.st (fun _ => XS.lstore X221.here hx rfl (Jvm.hb hby d_prog_3_method_12_13) rfl (l' := #[.val (.ref o), .val (.long x), .second, .val (.long y), .second, .val (.long (x * y)), .second, .unset, .unset]) rfl) ?_
  show FinP p e below s _ _ _ (T221.setTop (mkF m 15 #[.val (.ref o), .val (.long x), .second, .val (.long y), .second, .val (.long (x * y)), .second, .unset, .unset] []))
  refine FinP.st (fun _ => XS.aloadN X221.here hx rfl (Jvm.hb hby d_prog_3_method_12_15) rfl rfl) ?_
  show FinP p e below s _ _ _ (T221.setTop (mkF m 16 #[.val (.ref o), .val (.long x), .second, .val (.long y), .second, .val (.long (x * y)), .second, .unset, .unset] [(.ref o)]))
  have f222 := P_largeNotional.other W221 (Or.inr (slot_ne (Or.inl (hw _ (List.mem_of_getElem? (i := 109) rfl))) (Or.inl (hw _ (List.mem_of_getElem? (i := 78) rfl))) (by decide) (t := (.object "java/math/BigDecimal")) (t' := .long) (by decide) (by decide)))
  obtain ⟨T223, X223, e223, st223⟩ := getF X221 hx hZ hown (host := "") (Or.inl (hw _ (List.mem_of_getElem? (i := 108) rfl))) Via.refl e221 f222 (g := (mkF m 16 #[.val (.ref o), .val (.long x), .second, .val (.long y), .second, .val (.long (x * y)), .second, .unset, .unset] [(.ref o)])) rfl rfl (Jvm.hb hby d_prog_3_method_12_16)
  refine FinP.st st223 ?_
  show FinP p e below s _ _ _ (T223.setTop (mkF m 19 #[.val (.ref o), .val (.long x), .second, .val (.long y), .second, .val (.long (x * y)), .second, .unset, .unset] [.null]))
  refine FinP.st (fun _ => XS.ifnonnullNo X223.here hx rfl (Jvm.hb hby d_prog_3_method_12_19) rfl) ?_
  show FinP p e below s _ _ _ (T223.setTop (mkF m 22 #[.val (.ref o), .val (.long x), .second, .val (.long y), .second, .val (.long (x * y)), .second, .unset, .unset] []))
  refine FinP.st (fun _ => XS.lloadN X223.here hx rfl (Jvm.hb hby d_prog_3_method_12_22) rfl) ?_
  show FinP p e below s _ _ _ (T223.setTop (mkF m 23 #[.val (.ref o), .val (.long x), .second, .val (.long y), .second, .val (.long (x * y)), .second, .unset, .unset] [(.long x)]))
  refine FinP.st (fun _ => XS.lloadN X223.here hx rfl (Jvm.hb hby d_prog_3_method_12_23) rfl) ?_
  show FinP p e below s _ _ _ (T223.setTop (mkF m 24 #[.val (.ref o), .val (.long x), .second, .val (.long y), .second, .val (.long (x * y)), .second, .unset, .unset] [(.long y), (.long x)]))
  have f224 := O.wr W221 g1
  obtain ⟨_, T225, h225, L225, X225, e225, ⟨rfl, rfl, q225⟩, st225⟩ := goS X223 hx hZ hown (hw _ (List.mem_of_getElem? (i := 110) rfl)) (hw _ (List.mem_of_getElem? (i := 111) rfl)) (hw _ (List.mem_of_getElem? (i := 112) rfl)) (hw _ (List.mem_of_getElem? (i := 113) rfl)) (by decide) ((rmMH l Z a0 hw [] x y h221 n0 f224 lx ux ly uy).pay (W := 0) hZ (hw _ (List.mem_of_getElem? (i := 113) rfl)) (hw _ (List.mem_of_getElem? (i := 112) rfl)) (by decide) (by decide)) e223 (g := (mkF m 24 #[.val (.ref o), .val (.long x), .second, .val (.long y), .second, .val (.long (x * y)), .second, .unset, .unset] [(.long y), (.long x)])) rfl (by rw [hml]; rfl) [(.long x), (.long y)] [] (lenOf pd_2 rfl) rfl (by show 2 * 0 + _ ≤ _; exact Nat.le_of_eq rfl) (Jvm.hb hby d_prog_3_method_12_24) rfl (by decide) (by decide)
  have e225 := e225.trans q225
  have N225 := N221.app (Fr.nil n0)
  refine FinP.st st225 ?_
  show FinP p e below s _ _ _ (T225.setTop (mkF m 27 #[.val (.ref o), .val (.long x), .second, .val (.long y), .second, .val (.long (x * y)), .second, .unset, .unset] [(.long (0 : Int64))]))
  refine FinP.st (fun _ => XS.lconst X225.here hx rfl (Jvm.hb hby d_prog_3_method_12_27)) ?_
  show FinP p e below s _ _ _ (T225.setTop (mkF m 28 #[.val (.ref o), .val (.long x), .second, .val (.long y), .second, .val (.long (x * y)), .second, .unset, .unset] [(.long (0 : Int64)), (.long (0 : Int64))]))
  refine FinP.st (fun _ => XS.lcmp X225.here hx rfl (Jvm.hb hby d_prog_3_method_12_28) rfl) ?_
  show FinP p e below s _ _ _ (T225.setTop (mkF m 29 #[.val (.ref o), .val (.long x), .second, .val (.long y), .second, .val (.long (x * y)), .second, .unset, .unset] [(.int (lcmpW (0 : Int64) (0 : Int64)))]))
  refine FinP.st (fun _ => XS.ifNo X225.here hx rfl (Jvm.hb hby d_prog_3_method_12_29) rfl (zneN ((lw_eq _ _).mpr rfl))) ?_
  show FinP p e below s _ _ _ (T225.setTop (mkF m 32 #[.val (.ref o), .val (.long x), .second, .val (.long y), .second, .val (.long (x * y)), .second, .unset, .unset] []))
  refine FinP.st (fun _ => XS.lload X225.here hx rfl (Jvm.hb hby d_prog_3_method_12_32) rfl) ?_
  show FinP p e below s _ _ _ (T225.setTop (mkF m 34 #[.val (.ref o), .val (.long x), .second, .val (.long y), .second, .val (.long (x * y)), .second, .unset, .unset] [(.long (x * y))]))
  refine FinP.st (fun _ => XS.lconst X225.here hx rfl (Jvm.hb hby d_prog_3_method_12_34)) ?_
  show FinP p e below s _ _ _ (T225.setTop (mkF m 35 #[.val (.ref o), .val (.long x), .second, .val (.long y), .second, .val (.long (x * y)), .second, .unset, .unset] [(.long (0 : Int64)), (.long (x * y))]))
  refine FinP.st (fun _ => XS.lcmp X225.here hx rfl (Jvm.hb hby d_prog_3_method_12_35) rfl) ?_
  show FinP p e below s _ _ _ (T225.setTop (mkF m 36 #[.val (.ref o), .val (.long x), .second, .val (.long y), .second, .val (.long (x * y)), .second, .unset, .unset] [(.int (lcmpW (x * y) (0 : Int64)))]))
  refine FinP.st (fun _ => XS.ifNo X225.here hx rfl (Jvm.hb hby d_prog_3_method_12_36) rfl (zltN (fun z => hv ((lw_lt _ _).mp z)))) ?_
  show FinP p e below s _ _ _ (T225.setTop (mkF m 39 #[.val (.ref o), .val (.long x), .second, .val (.long y), .second, .val (.long (x * y)), .second, .unset, .unset] []))
  refine FinP.st (fun _ => XS.aloadN X225.here hx rfl (Jvm.hb hby d_prog_3_method_12_39) rfl rfl) ?_
  show FinP p e below s _ _ _ (T225.setTop (mkF m 40 #[.val (.ref o), .val (.long x), .second, .val (.long y), .second, .val (.long (x * y)), .second, .unset, .unset] [(.ref o)]))
  have f226 := P_notional.other W221 (Or.inr (slot_ne (Or.inl (hw _ (List.mem_of_getElem? (i := 116) rfl))) (Or.inl (hw _ (List.mem_of_getElem? (i := 78) rfl))) (by decide) (t := .long) (t' := .long) (by decide) (by decide)))
  obtain ⟨T227, X227, e227, st227⟩ := getF X225 hx hZ hown (host := "") (Or.inl (hw _ (List.mem_of_getElem? (i := 115) rfl))) Via.refl e225 f226 (g := (mkF m 40 #[.val (.ref o), .val (.long x), .second, .val (.long y), .second, .val (.long (x * y)), .second, .unset, .unset] [(.ref o)])) rfl rfl (Jvm.hb hby d_prog_3_method_12_40)
  refine FinP.st st227 ?_
  show FinP p e below s _ _ _ (T227.setTop (mkF m 43 #[.val (.ref o), .val (.long x), .second, .val (.long y), .second, .val (.long (x * y)), .second, .unset, .unset] [(.long (0 : Int64))]))
  refine FinP.st (fun _ => X227.ldc2J hx hown (mvT hZ (hw _ (List.mem_of_getElem? (i := 117) rfl))) rfl (Jvm.hb hby d_prog_3_method_12_43)) ?_
  show FinP p e below s _ _ _ (T227.setTop (mkF m 46 #[.val (.ref o), .val (.long x), .second, .val (.long y), .second, .val (.long (x * y)), .second, .unset, .unset] [(.long (9223372036854775807 : Int64)), (.long (0 : Int64))]))
  refine FinP.st (fun _ => XS.lload X227.here hx rfl (Jvm.hb hby d_prog_3_method_12_46) rfl) ?_
  show FinP p e below s _ _ _ (T227.setTop (mkF m 48 #[.val (.ref o), .val (.long x), .second, .val (.long y), .second, .val (.long (x * y)), .second, .unset, .unset] [(.long (x * y)), (.long (9223372036854775807 : Int64)), (.long (0 : Int64))]))
  refine FinP.st (fun _ => XS.lsub X227.here hx rfl (Jvm.hb hby d_prog_3_method_12_48) rfl) ?_
  show FinP p e below s _ _ _ (T227.setTop (mkF m 49 #[.val (.ref o), .val (.long x), .second, .val (.long y), .second, .val (.long (x * y)), .second, .unset, .unset] [(.long ((9223372036854775807 : Int64) - (x * y))), (.long (0 : Int64))]))
  refine FinP.st (fun _ => XS.lcmp X227.here hx rfl (Jvm.hb hby d_prog_3_method_12_49) rfl) ?_
  show FinP p e below s _ _ _ (T227.setTop (mkF m 50 #[.val (.ref o), .val (.long x), .second, .val (.long y), .second, .val (.long (x * y)), .second, .unset, .unset] [(.int (lcmpW (0 : Int64) ((9223372036854775807 : Int64) - (x * y))))]))
  refine FinP.st (fun _ => XS.ifNo X227.here hx rfl (Jvm.hb hby d_prog_3_method_12_50) rfl (zgtN (fun z => hmx ((lw_gt _ _).mp z)))) ?_
  show FinP p e below s _ _ _ (T227.setTop (mkF m 53 #[.val (.ref o), .val (.long x), .second, .val (.long y), .second, .val (.long (x * y)), .second, .unset, .unset] []))
  refine FinP.st (fun _ => XS.iconst X227.here hx rfl (Jvm.hb hby d_prog_3_method_12_53)) ?_
  show FinP p e below s _ _ _ (T227.setTop (mkF m 54 #[.val (.ref o), .val (.long x), .second, .val (.long y), .second, .val (.long (x * y)), .second, .unset, .unset] [(.int (1 : Int32))]))
  refine FinP.st (fun _ => XS.goto X227.here hx rfl (pc0 := 54) (pc' := 58) rfl (Jvm.hb hby d_prog_3_method_12_54) (by decide) (by decide)) ?_
  show FinP p e below s _ _ _ (T227.setTop (mkF m 58 #[.val (.ref o), .val (.long x), .second, .val (.long y), .second, .val (.long (x * y)), .second, .unset, .unset] [(.int (1 : Int32))]))
  refine FinP.st (fun _ => XS.istore X227.here hx rfl (Jvm.hb hby d_prog_3_method_12_58) rfl (l' := #[.val (.ref o), .val (.long x), .second, .val (.long y), .second, .val (.long (x * y)), .second, .val (.int (1 : Int32)), .unset]) rfl) ?_
  show FinP p e below s _ _ _ (T227.setTop (mkF m 60 #[.val (.ref o), .val (.long x), .second, .val (.long y), .second, .val (.long (x * y)), .second, .val (.int (1 : Int32)), .unset] []))
  refine FinP.st (fun _ => XS.iload X227.here hx rfl (Jvm.hb hby d_prog_3_method_12_60) rfl) ?_
  show FinP p e below s _ _ _ (T227.setTop (mkF m 62 #[.val (.ref o), .val (.long x), .second, .val (.long y), .second, .val (.long (x * y)), .second, .val (.int (1 : Int32)), .unset] [(.int (1 : Int32))]))
  refine FinP.st (fun _ => XS.ifNo X227.here hx rfl (Jvm.hb hby d_prog_3_method_12_62) rfl (zeqN (by decide))) ?_
  show FinP p e below s _ _ _ (T227.setTop (mkF m 65 #[.val (.ref o), .val (.long x), .second, .val (.long y), .second, .val (.long (x * y)), .second, .val (.int (1 : Int32)), .unset] []))
  refine FinP.st (fun _ => XS.aloadN X227.here hx rfl (Jvm.hb hby d_prog_3_method_12_65) rfl rfl) ?_
  show FinP p e below s _ _ _ (T227.setTop (mkF m 66 #[.val (.ref o), .val (.long x), .second, .val (.long y), .second, .val (.long (x * y)), .second, .val (.int (1 : Int32)), .unset] [(.ref o)]))
  refine FinP.st (fun _ => XS.dup X227.here hx rfl (Jvm.hb hby d_prog_3_method_12_66) rfl rfl) ?_
  show FinP p e below s _ _ _ (T227.setTop (mkF m 67 #[.val (.ref o), .val (.long x), .second, .val (.long y), .second, .val (.long (x * y)), .second, .val (.int (1 : Int32)), .unset] [(.ref o), (.ref o)]))
  obtain ⟨T228, X228, e228, st228⟩ := getF X227 hx hZ hown (host := "") (Or.inl (hw _ (List.mem_of_getElem? (i := 115) rfl))) Via.refl e227 f226 (g := (mkF m 67 #[.val (.ref o), .val (.long x), .second, .val (.long y), .second, .val (.long (x * y)), .second, .val (.int (1 : Int32)), .unset] [(.ref o), (.ref o)])) rfl rfl (Jvm.hb hby d_prog_3_method_12_67)
  refine FinP.st st228 ?_
  show FinP p e below s _ _ _ (T228.setTop (mkF m 70 #[.val (.ref o), .val (.long x), .second, .val (.long y), .second, .val (.long (x * y)), .second, .val (.int (1 : Int32)), .unset] [(.long (0 : Int64)), (.ref o)]))
  refine FinP.st (fun _ => XS.lload X228.here hx rfl (Jvm.hb hby d_prog_3_method_12_70) rfl) ?_
  show FinP p e below s _ _ _ (T228.setTop (mkF m 72 #[.val (.ref o), .val (.long x), .second, .val (.long y), .second, .val (.long (x * y)), .second, .val (.int (1 : Int32)), .unset] [(.long (x * y)), (.long (0 : Int64)), (.ref o)]))
  refine FinP.st (fun _ => XS.ladd X228.here hx rfl (Jvm.hb hby d_prog_3_method_12_72) rfl) ?_
  show FinP p e below s _ _ _ (T228.setTop (mkF m 73 #[.val (.ref o), .val (.long x), .second, .val (.long y), .second, .val (.long (x * y)), .second, .val (.int (1 : Int32)), .unset] [(.long ((0 : Int64) + (x * y))), (.ref o)]))
  have f229 := P_E.wr W221
  obtain ⟨T230, h230, X230, e230, W230, st230⟩ := putF X228 hx hZ hown (host := "") (Or.inl (hw _ (List.mem_of_getElem? (i := 115) rfl))) Via.refl e228 f226 f229 (Or.inl (hw _ (List.mem_of_getElem? (i := 116) rfl))) (hw _ (List.mem_of_getElem? (i := 13) rfl)) (ty := .long) (by decide) rfl rfl (g := (mkF m 73 #[.val (.ref o), .val (.long x), .second, .val (.long y), .second, .val (.long (x * y)), .second, .val (.int (1 : Int32)), .unset] [(.long ((0 : Int64) + (x * y))), (.ref o)])) rfl rfl (Jvm.hb hby d_prog_3_method_12_73)
  have N230 := Fr.snoc X230 N225 g1
  have F230 := f226.same W230
  refine FinP.st st230 ?_
  show FinP p e below s _ _ _ (T230.setTop (mkF m 76 #[.val (.ref o), .val (.long x), .second, .val (.long y), .second, .val (.long (x * y)), .second, .val (.int (1 : Int32)), .unset] []))
  refine FinP.st (fun _ => XS.goto X230.here hx rfl (pc0 := 76) (pc' := 122) rfl (Jvm.hb hby d_prog_3_method_12_76) (by decide) (by decide)) ?_
  show FinP p e below s _ _ _ (T230.setTop (mkF m 122 #[.val (.ref o), .val (.long x), .second, .val (.long y), .second, .val (.long (x * y)), .second, .val (.int (1 : Int32)), .unset] []))
  have f231 := KP0.wr W221 (Or.inl (List.mem_of_getElem? (i := 0) rfl))
  have f232 := f231.wr W230 (Or.inl (List.mem_of_getElem? (i := 0) rfl))
  have f233 := f229.wr W230
  have f234 := P_id.other W221 (Or.inr (slot_ne (Or.inl (hw _ (List.mem_of_getElem? (i := 22) rfl))) (Or.inl (hw _ (List.mem_of_getElem? (i := 78) rfl))) (by decide) (t := .long) (t' := .long) (by decide) (by decide)))
  have f235 := f234.other W230 (Or.inr (slot_ne (Or.inl (hw _ (List.mem_of_getElem? (i := 22) rfl))) (Or.inl (hw _ (List.mem_of_getElem? (i := 116) rfl))) (by decide) (t := .long) (t' := .long) (by decide) (by decide)))
  have f236 := P_price.other W221 (Or.inr (slot_ne (Or.inl (hw _ (List.mem_of_getElem? (i := 26) rfl))) (Or.inl (hw _ (List.mem_of_getElem? (i := 78) rfl))) (by decide) (t := .long) (t' := .long) (by decide) (by decide)))
  have f237 := f236.other W230 (Or.inr (slot_ne (Or.inl (hw _ (List.mem_of_getElem? (i := 26) rfl))) (Or.inl (hw _ (List.mem_of_getElem? (i := 116) rfl))) (by decide) (t := .long) (t' := .long) (by decide) (by decide)))
  have f238 := P_quantity.other W221 (Or.inr (slot_ne (Or.inl (hw _ (List.mem_of_getElem? (i := 28) rfl))) (Or.inl (hw _ (List.mem_of_getElem? (i := 78) rfl))) (by decide) (t := .long) (t' := .long) (by decide) (by decide)))
  have f239 := f238.other W230 (Or.inr (slot_ne (Or.inl (hw _ (List.mem_of_getElem? (i := 28) rfl))) (Or.inl (hw _ (List.mem_of_getElem? (i := 116) rfl))) (by decide) (t := .long) (t' := .long) (by decide) (by decide)))
  have f240 := P_request.other W221 (Or.inr (slot_ne (Or.inl (hw _ (List.mem_of_getElem? (i := 30) rfl))) (Or.inl (hw _ (List.mem_of_getElem? (i := 78) rfl))) (by decide) (t := (.object "java/lang/Object")) (t' := .long) (by decide) (by decide)))
  have f241 := f240.other W230 (Or.inr (slot_ne (Or.inl (hw _ (List.mem_of_getElem? (i := 30) rfl))) (Or.inl (hw _ (List.mem_of_getElem? (i := 116) rfl))) (by decide) (t := (.object "java/lang/Object")) (t' := .long) (by decide) (by decide)))
  have f242 := F221.other W230 (Or.inr (slot_ne (Or.inl (hw _ (List.mem_of_getElem? (i := 78) rfl))) (Or.inl (hw _ (List.mem_of_getElem? (i := 116) rfl))) (by decide) (t := .long) (t' := .long) (by decide) (by decide)))
  have f243 := P_cancelled.other W221 (Or.inr (slot_ne (Or.inl (hw _ (List.mem_of_getElem? (i := 37) rfl))) (Or.inl (hw _ (List.mem_of_getElem? (i := 78) rfl))) (by decide) (t := .boolean) (t' := .long) (by decide) (by decide)))
  have f244 := f243.other W230 (Or.inr (slot_ne (Or.inl (hw _ (List.mem_of_getElem? (i := 37) rfl))) (Or.inl (hw _ (List.mem_of_getElem? (i := 116) rfl))) (by decide) (t := .boolean) (t' := .long) (by decide) (by decide)))
  have f245 := f222.other W230 (Or.inr (slot_ne (Or.inl (hw _ (List.mem_of_getElem? (i := 109) rfl))) (Or.inl (hw _ (List.mem_of_getElem? (i := 116) rfl))) (by decide) (t := (.object "java/math/BigDecimal")) (t' := .long) (by decide) (by decide)))
  exact finV X230 hx hlk hret (Jvm.hb hby d_prog_3_method_12_122) e230 ⟨rfl, N230, f232, ⟨f233, f235, f237, f239, f241, (by have z := f242; rw [Int64.zero_add] at z; exact z), f244, (by have z := F230; rw [Int64.zero_add] at z; exact z), f245⟩⟩ (by decide) (by decide)
theorem d_prog_3_method_2_0 : decode prog_3_method_2_code 0 = .ok (.aload_n 0, 1) := by decide +kernel
theorem d_prog_3_method_2_1 : decode prog_3_method_2_code 1 = .ok (.getfield 7, 3) := by decide +kernel
theorem d_prog_3_method_2_4 : decode prog_3_method_2_code 4 = .ok (.lreturn, 1) := by decide +kernel
set_option maxRecDepth 65536 in
set_option maxHeartbeats 40000000 in
theorem rm_id (l : Launch) (Z : State) (a0 : Array Value) (hw : ∀ d ∈ tables_1, d.before a0 Z = true) (ws : List Jvm.Cond) (o : Addr) (i pr qu : Int64) (rq : Addr) (cu : Int64) (ca : Int32) (no : Int64) (h0 : Heap) (n0 : Nat) (O : Old Z n0 h0) (P : Ord Z h0 o i pr qu rq cu ca no) :
    Con l Z h0 ⟨"com/example/fillwire/fillwire/book/Order", "id", "()J"⟩ prog_3_method_2_code 1 (some .long) ws ({ frames := 0, cells := 0, slots := 0, locals := 0 } : Room) #[(.ref o)] (fun v h L => v = some (.long i) ∧ L = [] ∧ h = h0) := by
  refine Con.of (plainFor_of_name pn_2) (f0 := fun m => (mkF m 0 #[.val (.ref o)] [])) (fun m => by first | (simp [entryFrame, mkF, argsToLocals, Value.category, maxLocals]; done) | rfl) ?_
  intro p e s m below meth c T0 hx hby hml hown hnm hret hlk hZ X0 e0
  have hown : s.vm.findClass "com/example/fillwire/fillwire/book/Order" = some m.cls := hown
  have N0 := Fr.nil n0
  show FinP p e below s _ _ _ (T0.setTop (mkF m 0 #[.val (.ref o)] []))
  obtain ⟨P_E, P_id, P_price, P_quantity, P_request, P_cumQty, P_cancelled, P_notional, P_largeNotional⟩ := P
  show FinP p e below s _ _ _ (T0.setTop (mkF m 0 #[.val (.ref o)] []))
  refine FinP.st (fun _ => XS.aloadN X0.here hx rfl (Jvm.hb hby d_prog_3_method_2_0) rfl rfl) ?_
  show FinP p e below s _ _ _ (T0.setTop (mkF m 1 #[.val (.ref o)] [(.ref o)]))
  obtain ⟨T246, X246, e246, st246⟩ := getF X0 hx hZ hown (host := "") (Or.inl (hw _ (List.mem_of_getElem? (i := 21) rfl))) Via.refl e0 P_id (g := (mkF m 1 #[.val (.ref o)] [(.ref o)])) rfl rfl (Jvm.hb hby d_prog_3_method_2_1)
  refine FinP.st st246 ?_
  show FinP p e below s _ _ _ (T246.setTop (mkF m 4 #[.val (.ref o)] [(.long i)]))
  exact finL X246 hx hlk hret (Jvm.hb hby d_prog_3_method_2_4) e246 ⟨rfl, rfl, rfl⟩ (by decide) (by decide)
theorem d_prog_3_method_4_0 : decode prog_3_method_4_code 0 = .ok (.aload_n 0, 1) := by decide +kernel
theorem d_prog_3_method_4_1 : decode prog_3_method_4_code 1 = .ok (.getfield 17, 3) := by decide +kernel
theorem d_prog_3_method_4_4 : decode prog_3_method_4_code 4 = .ok (.lreturn, 1) := by decide +kernel
set_option maxRecDepth 65536 in
set_option maxHeartbeats 40000000 in
theorem rm_price (l : Launch) (Z : State) (a0 : Array Value) (hw : ∀ d ∈ tables_1, d.before a0 Z = true) (ws : List Jvm.Cond) (o : Addr) (i pr qu : Int64) (rq : Addr) (cu : Int64) (ca : Int32) (no : Int64) (h0 : Heap) (n0 : Nat) (O : Old Z n0 h0) (P : Ord Z h0 o i pr qu rq cu ca no) :
    Con l Z h0 ⟨"com/example/fillwire/fillwire/book/Order", "price", "()J"⟩ prog_3_method_4_code 1 (some .long) ws ({ frames := 0, cells := 0, slots := 0, locals := 0 } : Room) #[(.ref o)] (fun v h L => v = some (.long pr) ∧ L = [] ∧ h = h0) := by
  refine Con.of (plainFor_of_name pn_2) (f0 := fun m => (mkF m 0 #[.val (.ref o)] [])) (fun m => by first | (simp [entryFrame, mkF, argsToLocals, Value.category, maxLocals]; done) | rfl) ?_
  intro p e s m below meth c T0 hx hby hml hown hnm hret hlk hZ X0 e0
  have hown : s.vm.findClass "com/example/fillwire/fillwire/book/Order" = some m.cls := hown
  have N0 := Fr.nil n0
  show FinP p e below s _ _ _ (T0.setTop (mkF m 0 #[.val (.ref o)] []))
  obtain ⟨P_E, P_id, P_price, P_quantity, P_request, P_cumQty, P_cancelled, P_notional, P_largeNotional⟩ := P
  show FinP p e below s _ _ _ (T0.setTop (mkF m 0 #[.val (.ref o)] []))
  refine FinP.st (fun _ => XS.aloadN X0.here hx rfl (Jvm.hb hby d_prog_3_method_4_0) rfl rfl) ?_
  show FinP p e below s _ _ _ (T0.setTop (mkF m 1 #[.val (.ref o)] [(.ref o)]))
  obtain ⟨T247, X247, e247, st247⟩ := getF X0 hx hZ hown (host := "") (Or.inl (hw _ (List.mem_of_getElem? (i := 25) rfl))) Via.refl e0 P_price (g := (mkF m 1 #[.val (.ref o)] [(.ref o)])) rfl rfl (Jvm.hb hby d_prog_3_method_4_1)
  refine FinP.st st247 ?_
  show FinP p e below s _ _ _ (T247.setTop (mkF m 4 #[.val (.ref o)] [(.long pr)]))
  exact finL X247 hx hlk hret (Jvm.hb hby d_prog_3_method_4_4) e247 ⟨rfl, rfl, rfl⟩ (by decide) (by decide)
theorem d_prog_3_method_5_0 : decode prog_3_method_5_code 0 = .ok (.aload_n 0, 1) := by decide +kernel
theorem d_prog_3_method_5_1 : decode prog_3_method_5_code 1 = .ok (.getfield 20, 3) := by decide +kernel
theorem d_prog_3_method_5_4 : decode prog_3_method_5_code 4 = .ok (.lreturn, 1) := by decide +kernel
set_option maxRecDepth 65536 in
set_option maxHeartbeats 40000000 in
theorem rm_quantity (l : Launch) (Z : State) (a0 : Array Value) (hw : ∀ d ∈ tables_1, d.before a0 Z = true) (ws : List Jvm.Cond) (o : Addr) (i pr qu : Int64) (rq : Addr) (cu : Int64) (ca : Int32) (no : Int64) (h0 : Heap) (n0 : Nat) (O : Old Z n0 h0) (P : Ord Z h0 o i pr qu rq cu ca no) :
    Con l Z h0 ⟨"com/example/fillwire/fillwire/book/Order", "quantity", "()J"⟩ prog_3_method_5_code 1 (some .long) ws ({ frames := 0, cells := 0, slots := 0, locals := 0 } : Room) #[(.ref o)] (fun v h L => v = some (.long qu) ∧ L = [] ∧ h = h0) := by
  refine Con.of (plainFor_of_name pn_2) (f0 := fun m => (mkF m 0 #[.val (.ref o)] [])) (fun m => by first | (simp [entryFrame, mkF, argsToLocals, Value.category, maxLocals]; done) | rfl) ?_
  intro p e s m below meth c T0 hx hby hml hown hnm hret hlk hZ X0 e0
  have hown : s.vm.findClass "com/example/fillwire/fillwire/book/Order" = some m.cls := hown
  have N0 := Fr.nil n0
  show FinP p e below s _ _ _ (T0.setTop (mkF m 0 #[.val (.ref o)] []))
  obtain ⟨P_E, P_id, P_price, P_quantity, P_request, P_cumQty, P_cancelled, P_notional, P_largeNotional⟩ := P
  show FinP p e below s _ _ _ (T0.setTop (mkF m 0 #[.val (.ref o)] []))
  refine FinP.st (fun _ => XS.aloadN X0.here hx rfl (Jvm.hb hby d_prog_3_method_5_0) rfl rfl) ?_
  show FinP p e below s _ _ _ (T0.setTop (mkF m 1 #[.val (.ref o)] [(.ref o)]))
  obtain ⟨T248, X248, e248, st248⟩ := getF X0 hx hZ hown (host := "") (Or.inl (hw _ (List.mem_of_getElem? (i := 27) rfl))) Via.refl e0 P_quantity (g := (mkF m 1 #[.val (.ref o)] [(.ref o)])) rfl rfl (Jvm.hb hby d_prog_3_method_5_1)
  refine FinP.st st248 ?_
  show FinP p e below s _ _ _ (T248.setTop (mkF m 4 #[.val (.ref o)] [(.long qu)]))
  exact finL X248 hx hlk hret (Jvm.hb hby d_prog_3_method_5_4) e248 ⟨rfl, rfl, rfl⟩ (by decide) (by decide)
theorem d_prog_3_method_6_0 : decode prog_3_method_6_code 0 = .ok (.aload_n 0, 1) := by decide +kernel
theorem d_prog_3_method_6_1 : decode prog_3_method_6_code 1 = .ok (.getfield 23, 3) := by decide +kernel
theorem d_prog_3_method_6_4 : decode prog_3_method_6_code 4 = .ok (.areturn, 1) := by decide +kernel
set_option maxRecDepth 65536 in
set_option maxHeartbeats 40000000 in
theorem rm_request (l : Launch) (Z : State) (a0 : Array Value) (hw : ∀ d ∈ tables_1, d.before a0 Z = true) (ws : List Jvm.Cond) (o : Addr) (i pr qu : Int64) (rq : Addr) (cu : Int64) (ca : Int32) (no : Int64) (h0 : Heap) (n0 : Nat) (O : Old Z n0 h0) (P : Ord Z h0 o i pr qu rq cu ca no) :
    Con l Z h0 ⟨"com/example/fillwire/fillwire/book/Order", "request", "()Ljava/lang/Object;"⟩ prog_3_method_6_code 1 (some (.object "java/lang/Object")) ws ({ frames := 0, cells := 0, slots := 0, locals := 0 } : Room) #[(.ref o)] (fun v h L => v = some (.ref rq) ∧ L = [] ∧ h = h0) := by
  refine Con.of (plainFor_of_name pn_2) (f0 := fun m => (mkF m 0 #[.val (.ref o)] [])) (fun m => by first | (simp [entryFrame, mkF, argsToLocals, Value.category, maxLocals]; done) | rfl) ?_
  intro p e s m below meth c T0 hx hby hml hown hnm hret hlk hZ X0 e0
  have hown : s.vm.findClass "com/example/fillwire/fillwire/book/Order" = some m.cls := hown
  have N0 := Fr.nil n0
  show FinP p e below s _ _ _ (T0.setTop (mkF m 0 #[.val (.ref o)] []))
  obtain ⟨P_E, P_id, P_price, P_quantity, P_request, P_cumQty, P_cancelled, P_notional, P_largeNotional⟩ := P
  show FinP p e below s _ _ _ (T0.setTop (mkF m 0 #[.val (.ref o)] []))
  refine FinP.st (fun _ => XS.aloadN X0.here hx rfl (Jvm.hb hby d_prog_3_method_6_0) rfl rfl) ?_
  show FinP p e below s _ _ _ (T0.setTop (mkF m 1 #[.val (.ref o)] [(.ref o)]))
  obtain ⟨T249, X249, e249, st249⟩ := getF X0 hx hZ hown (host := "") (Or.inl (hw _ (List.mem_of_getElem? (i := 29) rfl))) Via.refl e0 P_request (g := (mkF m 1 #[.val (.ref o)] [(.ref o)])) rfl rfl (Jvm.hb hby d_prog_3_method_6_1)
  refine FinP.st st249 ?_
  show FinP p e below s _ _ _ (T249.setTop (mkF m 4 #[.val (.ref o)] [(.ref rq)]))
  exact finA X249 hx hlk hret rfl rfl rfl (Jvm.hb hby d_prog_3_method_6_4) e249 ⟨rfl, rfl, rfl⟩ (by decide) (by decide)
theorem d_prog_3_method_7_0 : decode prog_3_method_7_code 0 = .ok (.aload_n 0, 1) := by decide +kernel
theorem d_prog_3_method_7_1 : decode prog_3_method_7_code 1 = .ok (.getfield 27, 3) := by decide +kernel
theorem d_prog_3_method_7_4 : decode prog_3_method_7_code 4 = .ok (.lreturn, 1) := by decide +kernel
set_option maxRecDepth 65536 in
set_option maxHeartbeats 40000000 in
theorem rm_cumQty (l : Launch) (Z : State) (a0 : Array Value) (hw : ∀ d ∈ tables_1, d.before a0 Z = true) (ws : List Jvm.Cond) (o : Addr) (i pr qu : Int64) (rq : Addr) (cu : Int64) (ca : Int32) (no : Int64) (h0 : Heap) (n0 : Nat) (O : Old Z n0 h0) (P : Ord Z h0 o i pr qu rq cu ca no) :
    Con l Z h0 ⟨"com/example/fillwire/fillwire/book/Order", "cumQty", "()J"⟩ prog_3_method_7_code 1 (some .long) ws ({ frames := 0, cells := 0, slots := 0, locals := 0 } : Room) #[(.ref o)] (fun v h L => v = some (.long cu) ∧ L = [] ∧ h = h0) := by
  refine Con.of (plainFor_of_name pn_2) (f0 := fun m => (mkF m 0 #[.val (.ref o)] [])) (fun m => by first | (simp [entryFrame, mkF, argsToLocals, Value.category, maxLocals]; done) | rfl) ?_
  intro p e s m below meth c T0 hx hby hml hown hnm hret hlk hZ X0 e0
  have hown : s.vm.findClass "com/example/fillwire/fillwire/book/Order" = some m.cls := hown
  have N0 := Fr.nil n0
  show FinP p e below s _ _ _ (T0.setTop (mkF m 0 #[.val (.ref o)] []))
  obtain ⟨P_E, P_id, P_price, P_quantity, P_request, P_cumQty, P_cancelled, P_notional, P_largeNotional⟩ := P
  show FinP p e below s _ _ _ (T0.setTop (mkF m 0 #[.val (.ref o)] []))
  refine FinP.st (fun _ => XS.aloadN X0.here hx rfl (Jvm.hb hby d_prog_3_method_7_0) rfl rfl) ?_
  show FinP p e below s _ _ _ (T0.setTop (mkF m 1 #[.val (.ref o)] [(.ref o)]))
  obtain ⟨T250, X250, e250, st250⟩ := getF X0 hx hZ hown (host := "") (Or.inl (hw _ (List.mem_of_getElem? (i := 77) rfl))) Via.refl e0 P_cumQty (g := (mkF m 1 #[.val (.ref o)] [(.ref o)])) rfl rfl (Jvm.hb hby d_prog_3_method_7_1)
  refine FinP.st st250 ?_
  show FinP p e below s _ _ _ (T250.setTop (mkF m 4 #[.val (.ref o)] [(.long cu)]))
  exact finL X250 hx hlk hret (Jvm.hb hby d_prog_3_method_7_4) e250 ⟨rfl, rfl, rfl⟩ (by decide) (by decide)
theorem d_jdk_35_method_31_0 : decode jdk_35_method_31_code 0 = .ok (.aload_n 0, 1) := by decide +kernel
theorem d_jdk_35_method_31_1 : decode jdk_35_method_31_code 1 = .ok (.getfield 273, 3) := by decide +kernel
theorem d_jdk_35_method_31_4 : decode jdk_35_method_31_code 4 = .ok (.lreturn, 1) := by decide +kernel
set_option maxRecDepth 65536 in
set_option maxHeartbeats 40000000 in
theorem rm_longValue (l : Launch) (Z : State) (a0 : Array Value) (hw : ∀ d ∈ tables_1, d.before a0 Z = true) (ws : List Jvm.Cond) (b : Addr) (q : Int64) (h0 : Heap) (n0 : Nat) (O : Old Z n0 h0) (F : Fld Z h0 b "java/lang/Long" "value" "J" (.long q)) :
    Con l Z h0 ⟨"java/lang/Long", "longValue", "()J"⟩ jdk_35_method_31_code 1 (some .long) ws ({ frames := 0, cells := 0, slots := 0, locals := 0 } : Room) #[(.ref b)] (fun v h L => v = some (.long q) ∧ L = [] ∧ h = h0) := by
  refine Con.of (plainFor_of_name pn_1) (f0 := fun m => (mkF m 0 #[.val (.ref b)] [])) (fun m => by first | (simp [entryFrame, mkF, argsToLocals, Value.category, maxLocals]; done) | rfl) ?_
  intro p e s m below meth c T0 hx hby hml hown hnm hret hlk hZ X0 e0
  have hown : s.vm.findClass "java/lang/Long" = some m.cls := hown
  have N0 := Fr.nil n0
  show FinP p e below s _ _ _ (T0.setTop (mkF m 0 #[.val (.ref b)] []))
  refine FinP.st (fun _ => XS.aloadN X0.here hx rfl (Jvm.hb hby d_jdk_35_method_31_0) rfl rfl) ?_
  show FinP p e below s _ _ _ (T0.setTop (mkF m 1 #[.val (.ref b)] [(.ref b)]))
  obtain ⟨T251, X251, e251, st251⟩ := getF X0 hx hZ hown (host := "") (Or.inl (hw _ (List.mem_of_getElem? (i := 70) rfl))) Via.refl e0 F (g := (mkF m 1 #[.val (.ref b)] [(.ref b)])) rfl rfl (Jvm.hb hby d_jdk_35_method_31_1)
  refine FinP.st st251 ?_
  show FinP p e below s _ _ _ (T251.setTop (mkF m 4 #[.val (.ref b)] [(.long q)]))
  exact finL X251 hx hlk hret (Jvm.hb hby d_jdk_35_method_31_4) e251 ⟨rfl, rfl, rfl⟩ (by decide) (by decide)
theorem d_prog_3_method_8_0 : decode prog_3_method_8_code 0 = .ok (.aload_n 0, 1) := by decide +kernel
theorem d_prog_3_method_8_1 : decode prog_3_method_8_code 1 = .ok (.getfield 30, 3) := by decide +kernel
theorem d_prog_3_method_8_4 : decode prog_3_method_8_code 4 = .ok (.ifCond .eq 7, 3) := by decide +kernel
theorem d_prog_3_method_8_11 : decode prog_3_method_8_code 11 = .ok (.aload_n 0, 1) := by decide +kernel
theorem d_prog_3_method_8_12 : decode prog_3_method_8_code 12 = .ok (.getfield 20, 3) := by decide +kernel
theorem d_prog_3_method_8_15 : decode prog_3_method_8_code 15 = .ok (.aload_n 0, 1) := by decide +kernel
theorem d_prog_3_method_8_16 : decode prog_3_method_8_code 16 = .ok (.getfield 27, 3) := by decide +kernel
theorem d_prog_3_method_8_19 : decode prog_3_method_8_code 19 = .ok (.lsub, 1) := by decide +kernel
theorem d_prog_3_method_8_20 : decode prog_3_method_8_code 20 = .ok (.lreturn, 1) := by decide +kernel
theorem d_prog_3_method_8_7 : decode prog_3_method_8_code 7 = .ok (.lconst 0, 1) := by decide +kernel
theorem d_prog_3_method_8_8 : decode prog_3_method_8_code 8 = .ok (.goto 12, 3) := by decide +kernel
set_option maxRecDepth 65536 in
set_option maxHeartbeats 40000000 in
theorem rm_leaves (l : Launch) (Z : State) (a0 : Array Value) (hw : ∀ d ∈ tables_1, d.before a0 Z = true) (ws : List Jvm.Cond) (o : Addr) (i pr qu : Int64) (rq : Addr) (cu : Int64) (ca : Int32) (no : Int64) (h0 : Heap) (n0 : Nat) (O : Old Z n0 h0) (P : Ord Z h0 o i pr qu rq cu ca no) :
    Con l Z h0 ⟨"com/example/fillwire/fillwire/book/Order", "leavesQty", "()J"⟩ prog_3_method_8_code 1 (some .long) ws ({ frames := 0, cells := 0, slots := 0, locals := 0 } : Room) #[(.ref o)] (fun v h L => v = some (.long (if ca = 0 then qu - cu else 0)) ∧ L = [] ∧ h = h0) := by
  refine Con.of (plainFor_of_name pn_2) (f0 := fun m => (mkF m 0 #[.val (.ref o)] [])) (fun m => by first | (simp [entryFrame, mkF, argsToLocals, Value.category, maxLocals]; done) | rfl) ?_
  intro p e s m below meth c T0 hx hby hml hown hnm hret hlk hZ X0 e0
  have hown : s.vm.findClass "com/example/fillwire/fillwire/book/Order" = some m.cls := hown
  have N0 := Fr.nil n0
  show FinP p e below s _ _ _ (T0.setTop (mkF m 0 #[.val (.ref o)] []))
  obtain ⟨P_E, P_id, P_price, P_quantity, P_request, P_cumQty, P_cancelled, P_notional, P_largeNotional⟩ := P
  show FinP p e below s _ _ _ (T0.setTop (mkF m 0 #[.val (.ref o)] []))
  refine FinP.st (fun _ => XS.aloadN X0.here hx rfl (Jvm.hb hby d_prog_3_method_8_0) rfl rfl) ?_
  show FinP p e below s _ _ _ (T0.setTop (mkF m 1 #[.val (.ref o)] [(.ref o)]))
  obtain ⟨T252, X252, e252, st252⟩ := getF X0 hx hZ hown (host := "") (Or.inl (hw _ (List.mem_of_getElem? (i := 36) rfl))) Via.refl e0 P_cancelled (g := (mkF m 1 #[.val (.ref o)] [(.ref o)])) rfl rfl (Jvm.hb hby d_prog_3_method_8_1)
  refine FinP.st st252 ?_
  show FinP p e below s _ _ _ (T252.setTop (mkF m 4 #[.val (.ref o)] [(.int ca)]))
  by_cases hca : ca = (0 : Int32)
  · skip
    refine FinP.st (fun _ => XS.ifYes X252.here hx rfl (pc0 := 4) (pc' := 11) rfl (Jvm.hb hby d_prog_3_method_8_4) rfl (zeq hca) (by decide) (by decide)) ?_
    show FinP p e below s _ _ _ (T252.setTop (mkF m 11 #[.val (.ref o)] []))
    refine FinP.st (fun _ => XS.aloadN X252.here hx rfl (Jvm.hb hby d_prog_3_method_8_11) rfl rfl) ?_
    show FinP p e below s _ _ _ (T252.setTop (mkF m 12 #[.val (.ref o)] [(.ref o)]))
    obtain ⟨T253, X253, e253, st253⟩ := getF X252 hx hZ hown (host := "") (Or.inl (hw _ (List.mem_of_getElem? (i := 27) rfl))) Via.refl e252 P_quantity (g := (mkF m 12 #[.val (.ref o)] [(.ref o)])) rfl rfl (Jvm.hb hby d_prog_3_method_8_12)
    refine FinP.st st253 ?_
    show FinP p e below s _ _ _ (T253.setTop (mkF m 15 #[.val (.ref o)] [(.long qu)]))
    refine FinP.st (fun _ => XS.aloadN X253.here hx rfl (Jvm.hb hby d_prog_3_method_8_15) rfl rfl) ?_
    show FinP p e below s _ _ _ (T253.setTop (mkF m 16 #[.val (.ref o)] [(.ref o), (.long qu)]))
    obtain ⟨T254, X254, e254, st254⟩ := getF X253 hx hZ hown (host := "") (Or.inl (hw _ (List.mem_of_getElem? (i := 77) rfl))) Via.refl e253 P_cumQty (g := (mkF m 16 #[.val (.ref o)] [(.ref o), (.long qu)])) rfl rfl (Jvm.hb hby d_prog_3_method_8_16)
    refine FinP.st st254 ?_
    show FinP p e below s _ _ _ (T254.setTop (mkF m 19 #[.val (.ref o)] [(.long cu), (.long qu)]))
    refine FinP.st (fun _ => XS.lsub X254.here hx rfl (Jvm.hb hby d_prog_3_method_8_19) rfl) ?_
    show FinP p e below s _ _ _ (T254.setTop (mkF m 20 #[.val (.ref o)] [(.long (qu - cu))]))
    exact finL X254 hx hlk hret (Jvm.hb hby d_prog_3_method_8_20) e254 ⟨by rw [if_pos hca], rfl, rfl⟩ (by decide) (by decide)
  · skip
    refine FinP.st (fun _ => XS.ifNo X252.here hx rfl (Jvm.hb hby d_prog_3_method_8_4) rfl (zeqN hca)) ?_
    show FinP p e below s _ _ _ (T252.setTop (mkF m 7 #[.val (.ref o)] []))
    refine FinP.st (fun _ => XS.lconst X252.here hx rfl (Jvm.hb hby d_prog_3_method_8_7)) ?_
    show FinP p e below s _ _ _ (T252.setTop (mkF m 8 #[.val (.ref o)] [(.long (0 : Int64))]))
    refine FinP.st (fun _ => XS.goto X252.here hx rfl (pc0 := 8) (pc' := 20) rfl (Jvm.hb hby d_prog_3_method_8_8) (by decide) (by decide)) ?_
    show FinP p e below s _ _ _ (T252.setTop (mkF m 20 #[.val (.ref o)] [(.long (0 : Int64))]))
    exact finL X252 hx hlk hret (Jvm.hb hby d_prog_3_method_8_20) e252 ⟨by rw [if_neg hca]; try rfl, rfl, rfl⟩ (by decide) (by decide)
theorem d_prog_3_method_9_0 : decode prog_3_method_9_code 0 = .ok (.aload_n 0, 1) := by decide +kernel
theorem d_prog_3_method_9_1 : decode prog_3_method_9_code 1 = .ok (.getfield 27, 3) := by decide +kernel
theorem d_prog_3_method_9_4 : decode prog_3_method_9_code 4 = .ok (.lconst 0, 1) := by decide +kernel
theorem d_prog_3_method_9_5 : decode prog_3_method_9_code 5 = .ok (.lcmp, 1) := by decide +kernel
theorem d_prog_3_method_9_6 : decode prog_3_method_9_code 6 = .ok (.ifCond .ne 8, 3) := by decide +kernel
theorem d_prog_3_method_9_9 : decode prog_3_method_9_code 9 = .ok (.lconst 0, 1) := by decide +kernel
theorem d_prog_3_method_9_10 : decode prog_3_method_9_code 10 = .ok (.lstore_n 1, 1) := by decide +kernel
theorem d_prog_3_method_9_11 : decode prog_3_method_9_code 11 = .ok (.goto 73, 3) := by decide +kernel
theorem d_prog_3_method_9_84 : decode prog_3_method_9_code 84 = .ok (.lload_n 1, 1) := by decide +kernel
theorem d_prog_3_method_9_85 : decode prog_3_method_9_code 85 = .ok (.lreturn, 1) := by decide +kernel
set_option maxRecDepth 65536 in
set_option maxHeartbeats 40000000 in
theorem rm_avg0 (l : Launch) (Z : State) (a0 : Array Value) (hw : ∀ d ∈ tables_1, d.before a0 Z = true) (ws : List Jvm.Cond) (o : Addr) (i pr qu : Int64) (rq : Addr) (cu : Int64) (ca : Int32) (no : Int64) (h0 : Heap) (n0 : Nat) (O : Old Z n0 h0) (P : Ord Z h0 o i pr qu rq cu ca no) (hcu : cu = 0) :
    Con l Z h0 ⟨"com/example/fillwire/fillwire/book/Order", "avgPx", "()J"⟩ prog_3_method_9_code 5 (some .long) ws ({ frames := 0, cells := 0, slots := 0, locals := 0 } : Room) #[(.ref o)] (fun v h L => v = some (.long 0) ∧ L = [] ∧ h = h0) := by
  refine Con.of (plainFor_of_name pn_2) (f0 := fun m => (mkF m 0 #[.val (.ref o), .unset, .unset, .unset, .unset] [])) (fun m => by first | (simp [entryFrame, mkF, argsToLocals, Value.category, maxLocals]; done) | rfl) ?_
  intro p e s m below meth c T0 hx hby hml hown hnm hret hlk hZ X0 e0
  have hown : s.vm.findClass "com/example/fillwire/fillwire/book/Order" = some m.cls := hown
  have N0 := Fr.nil n0
  show FinP p e below s _ _ _ (T0.setTop (mkF m 0 #[.val (.ref o), .unset, .unset, .unset, .unset] []))
  obtain ⟨P_E, P_id, P_price, P_quantity, P_request, P_cumQty, P_cancelled, P_notional, P_largeNotional⟩ := P
  show FinP p e below s _ _ _ (T0.setTop (mkF m 0 #[.val (.ref o), .unset, .unset, .unset, .unset] []))
  refine FinP.st (fun _ => XS.aloadN X0.here hx rfl (Jvm.hb hby d_prog_3_method_9_0) rfl rfl) ?_
  show FinP p e below s _ _ _ (T0.setTop (mkF m 1 #[.val (.ref o), .unset, .unset, .unset, .unset] [(.ref o)]))
  obtain ⟨T255, X255, e255, st255⟩ := getF X0 hx hZ hown (host := "") (Or.inl (hw _ (List.mem_of_getElem? (i := 77) rfl))) Via.refl e0 P_cumQty (g := (mkF m 1 #[.val (.ref o), .unset, .unset, .unset, .unset] [(.ref o)])) rfl rfl (Jvm.hb hby d_prog_3_method_9_1)
  refine FinP.st st255 ?_
  show FinP p e below s _ _ _ (T255.setTop (mkF m 4 #[.val (.ref o), .unset, .unset, .unset, .unset] [(.long cu)]))
  refine FinP.st (fun _ => XS.lconst X255.here hx rfl (Jvm.hb hby d_prog_3_method_9_4)) ?_
  show FinP p e below s _ _ _ (T255.setTop (mkF m 5 #[.val (.ref o), .unset, .unset, .unset, .unset] [(.long (0 : Int64)), (.long cu)]))
  refine FinP.st (fun _ => XS.lcmp X255.here hx rfl (Jvm.hb hby d_prog_3_method_9_5) rfl) ?_
  show FinP p e below s _ _ _ (T255.setTop (mkF m 6 #[.val (.ref o), .unset, .unset, .unset, .unset] [(.int (lcmpW cu (0 : Int64)))]))
  refine FinP.st (fun _ => XS.ifNo X255.here hx rfl (Jvm.hb hby d_prog_3_method_9_6) rfl (zneN ((lw_eq _ _).mpr hcu))) ?_
  show FinP p e below s _ _ _ (T255.setTop (mkF m 9 #[.val (.ref o), .unset, .unset, .unset, .unset] []))
  refine FinP.st (fun _ => XS.lconst X255.here hx rfl (Jvm.hb hby d_prog_3_method_9_9)) ?_
  show FinP p e below s _ _ _ (T255.setTop (mkF m 10 #[.val (.ref o), .unset, .unset, .unset, .unset] [(.long (0 : Int64))]))
  refine FinP.st (fun _ => XS.lstoreN X255.here hx rfl (Jvm.hb hby d_prog_3_method_9_10) rfl (l' := #[.val (.ref o), .val (.long (0 : Int64)), .second, .unset, .unset]) rfl) ?_
  show FinP p e below s _ _ _ (T255.setTop (mkF m 11 #[.val (.ref o), .val (.long (0 : Int64)), .second, .unset, .unset] []))
  refine FinP.st (fun _ => XS.goto X255.here hx rfl (pc0 := 11) (pc' := 84) rfl (Jvm.hb hby d_prog_3_method_9_11) (by decide) (by decide)) ?_
  show FinP p e below s _ _ _ (T255.setTop (mkF m 84 #[.val (.ref o), .val (.long (0 : Int64)), .second, .unset, .unset] []))
  refine FinP.st (fun _ => XS.lloadN X255.here hx rfl (Jvm.hb hby d_prog_3_method_9_84) rfl) ?_
  show FinP p e below s _ _ _ (T255.setTop (mkF m 85 #[.val (.ref o), .val (.long (0 : Int64)), .second, .unset, .unset] [(.long (0 : Int64))]))
  exact finL X255 hx hlk hret (Jvm.hb hby d_prog_3_method_9_85) e255 ⟨rfl, rfl, rfl⟩ (by decide) (by decide)
theorem d_prog_3_method_9_14 : decode prog_3_method_9_code 14 = .ok (.aload_n 0, 1) := by decide +kernel
theorem d_prog_3_method_9_15 : decode prog_3_method_9_code 15 = .ok (.getfield 34, 3) := by decide +kernel
theorem d_prog_3_method_9_18 : decode prog_3_method_9_code 18 = .ok (.ifnonnull 44, 3) := by decide +kernel
theorem d_prog_3_method_9_21 : decode prog_3_method_9_code 21 = .ok (.aload_n 0, 1) := by decide +kernel
theorem d_prog_3_method_9_22 : decode prog_3_method_9_code 22 = .ok (.getfield 38, 3) := by decide +kernel
theorem d_prog_3_method_9_25 : decode prog_3_method_9_code 25 = .ok (.aload_n 0, 1) := by decide +kernel
theorem d_prog_3_method_9_26 : decode prog_3_method_9_code 26 = .ok (.getfield 27, 3) := by decide +kernel
theorem d_prog_3_method_9_29 : decode prog_3_method_9_code 29 = .ok (.lrem, 1) := by decide +kernel
theorem d_prog_3_method_9_30 : decode prog_3_method_9_code 30 = .ok (.lstore_n 3, 1) := by decide +kernel
theorem d_prog_3_method_9_31 : decode prog_3_method_9_code 31 = .ok (.aload_n 0, 1) := by decide +kernel
theorem d_prog_3_method_9_32 : decode prog_3_method_9_code 32 = .ok (.getfield 38, 3) := by decide +kernel
theorem d_prog_3_method_9_35 : decode prog_3_method_9_code 35 = .ok (.aload_n 0, 1) := by decide +kernel
theorem d_prog_3_method_9_36 : decode prog_3_method_9_code 36 = .ok (.getfield 27, 3) := by decide +kernel
theorem d_prog_3_method_9_39 : decode prog_3_method_9_code 39 = .ok (.ldiv, 1) := by decide +kernel
theorem d_prog_3_method_9_40 : decode prog_3_method_9_code 40 = .ok (.lload_n 3, 1) := by decide +kernel
theorem d_prog_3_method_9_41 : decode prog_3_method_9_code 41 = .ok (.aload_n 0, 1) := by decide +kernel
theorem d_prog_3_method_9_42 : decode prog_3_method_9_code 42 = .ok (.getfield 27, 3) := by decide +kernel
theorem d_prog_3_method_9_45 : decode prog_3_method_9_code 45 = .ok (.lload_n 3, 1) := by decide +kernel
theorem d_prog_3_method_9_46 : decode prog_3_method_9_code 46 = .ok (.lsub, 1) := by decide +kernel
theorem d_prog_3_method_9_47 : decode prog_3_method_9_code 47 = .ok (.lcmp, 1) := by decide +kernel
theorem d_prog_3_method_9_48 : decode prog_3_method_9_code 48 = .ok (.ifCond .lt 7, 3) := by decide +kernel
theorem d_prog_3_method_9_55 : decode prog_3_method_9_code 55 = .ok (.iconst 0, 1) := by decide +kernel
theorem d_prog_3_method_9_56 : decode prog_3_method_9_code 56 = .ok (.i2l, 1) := by decide +kernel
theorem d_prog_3_method_9_57 : decode prog_3_method_9_code 57 = .ok (.ladd, 1) := by decide +kernel
theorem d_prog_3_method_9_58 : decode prog_3_method_9_code 58 = .ok (.lstore_n 1, 1) := by decide +kernel
theorem d_prog_3_method_9_59 : decode prog_3_method_9_code 59 = .ok (.goto 25, 3) := by decide +kernel
set_option maxRecDepth 65536 in
set_option maxHeartbeats 40000000 in
theorem rm_avg1 (l : Launch) (Z : State) (a0 : Array Value) (hw : ∀ d ∈ tables_1, d.before a0 Z = true) (ws : List Jvm.Cond) (o : Addr) (i pr qu : Int64) (rq : Addr) (cu : Int64) (ca : Int32) (no : Int64) (pp : Int64) (h0 : Heap) (n0 : Nat) (O : Old Z n0 h0) (P : Ord Z h0 o i pr qu rq cu ca no) (hcu : ¬ cu = 0) (hpos : 0 < cu) (hdiv : no / cu = pp) (hrem : no - no / cu * cu = 0) :
    Con l Z h0 ⟨"com/example/fillwire/fillwire/book/Order", "avgPx", "()J"⟩ prog_3_method_9_code 5 (some .long) ws ({ frames := 0, cells := 0, slots := 0, locals := 0 } : Room) #[(.ref o)] (fun v h L => v = some (.long pp) ∧ L = [] ∧ h = h0) := by
  refine Con.of (plainFor_of_name pn_2) (f0 := fun m => (mkF m 0 #[.val (.ref o), .unset, .unset, .unset, .unset] [])) (fun m => by first | (simp [entryFrame, mkF, argsToLocals, Value.category, maxLocals]; done) | rfl) ?_
  intro p e s m below meth c T0 hx hby hml hown hnm hret hlk hZ X0 e0
  have hown : s.vm.findClass "com/example/fillwire/fillwire/book/Order" = some m.cls := hown
  have N0 := Fr.nil n0
  show FinP p e below s _ _ _ (T0.setTop (mkF m 0 #[.val (.ref o), .unset, .unset, .unset, .unset] []))
  obtain ⟨P_E, P_id, P_price, P_quantity, P_request, P_cumQty, P_cancelled, P_notional, P_largeNotional⟩ := P
  show FinP p e below s _ _ _ (T0.setTop (mkF m 0 #[.val (.ref o), .unset, .unset, .unset, .unset] []))
  refine FinP.st (fun _ => XS.aloadN X0.here hx rfl (Jvm.hb hby d_prog_3_method_9_0) rfl rfl) ?_
  show FinP p e below s _ _ _ (T0.setTop (mkF m 1 #[.val (.ref o), .unset, .unset, .unset, .unset] [(.ref o)]))
  obtain ⟨T256, X256, e256, st256⟩ := getF X0 hx hZ hown (host := "") (Or.inl (hw _ (List.mem_of_getElem? (i := 77) rfl))) Via.refl e0 P_cumQty (g := (mkF m 1 #[.val (.ref o), .unset, .unset, .unset, .unset] [(.ref o)])) rfl rfl (Jvm.hb hby d_prog_3_method_9_1)
  refine FinP.st st256 ?_
  show FinP p e below s _ _ _ (T256.setTop (mkF m 4 #[.val (.ref o), .unset, .unset, .unset, .unset] [(.long cu)]))
  refine FinP.st (fun _ => XS.lconst X256.here hx rfl (Jvm.hb hby d_prog_3_method_9_4)) ?_
  show FinP p e below s _ _ _ (T256.setTop (mkF m 5 #[.val (.ref o), .unset, .unset, .unset, .unset] [(.long (0 : Int64)), (.long cu)]))
  refine FinP.st (fun _ => XS.lcmp X256.here hx rfl (Jvm.hb hby d_prog_3_method_9_5) rfl) ?_
  show FinP p e below s _ _ _ (T256.setTop (mkF m 6 #[.val (.ref o), .unset, .unset, .unset, .unset] [(.int (lcmpW cu (0 : Int64)))]))
  refine FinP.st (fun _ => XS.ifYes X256.here hx rfl (pc0 := 6) (pc' := 14) rfl (Jvm.hb hby d_prog_3_method_9_6) rfl (zne (fun z => hcu ((lw_eq _ _).mp z))) (by decide) (by decide)) ?_
  show FinP p e below s _ _ _ (T256.setTop (mkF m 14 #[.val (.ref o), .unset, .unset, .unset, .unset] []))
  refine FinP.st (fun _ => XS.aloadN X256.here hx rfl (Jvm.hb hby d_prog_3_method_9_14) rfl rfl) ?_
  show FinP p e below s _ _ _ (T256.setTop (mkF m 15 #[.val (.ref o), .unset, .unset, .unset, .unset] [(.ref o)]))
  obtain ⟨T257, X257, e257, st257⟩ := getF X256 hx hZ hown (host := "") (Or.inl (hw _ (List.mem_of_getElem? (i := 108) rfl))) Via.refl e256 P_largeNotional (g := (mkF m 15 #[.val (.ref o), .unset, .unset, .unset, .unset] [(.ref o)])) rfl rfl (Jvm.hb hby d_prog_3_method_9_15)
  refine FinP.st st257 ?_
  show FinP p e below s _ _ _ (T257.setTop (mkF m 18 #[.val (.ref o), .unset, .unset, .unset, .unset] [.null]))
  refine FinP.st (fun _ => XS.ifnonnullNo X257.here hx rfl (Jvm.hb hby d_prog_3_method_9_18) rfl) ?_
  show FinP p e below s _ _ _ (T257.setTop (mkF m 21 #[.val (.ref o), .unset, .unset, .unset, .unset] []))
  refine FinP.st (fun _ => XS.aloadN X257.here hx rfl (Jvm.hb hby d_prog_3_method_9_21) rfl rfl) ?_
  show FinP p e below s _ _ _ (T257.setTop (mkF m 22 #[.val (.ref o), .unset, .unset, .unset, .unset] [(.ref o)]))
  obtain ⟨T258, X258, e258, st258⟩ := getF X257 hx hZ hown (host := "") (Or.inl (hw _ (List.mem_of_getElem? (i := 115) rfl))) Via.refl e257 P_notional (g := (mkF m 22 #[.val (.ref o), .unset, .unset, .unset, .unset] [(.ref o)])) rfl rfl (Jvm.hb hby d_prog_3_method_9_22)
  refine FinP.st st258 ?_
  show FinP p e below s _ _ _ (T258.setTop (mkF m 25 #[.val (.ref o), .unset, .unset, .unset, .unset] [(.long no)]))
  refine FinP.st (fun _ => XS.aloadN X258.here hx rfl (Jvm.hb hby d_prog_3_method_9_25) rfl rfl) ?_
  show FinP p e below s _ _ _ (T258.setTop (mkF m 26 #[.val (.ref o), .unset, .unset, .unset, .unset] [(.ref o), (.long no)]))
  obtain ⟨T259, X259, e259, st259⟩ := getF X258 hx hZ hown (host := "") (Or.inl (hw _ (List.mem_of_getElem? (i := 77) rfl))) Via.refl e258 P_cumQty (g := (mkF m 26 #[.val (.ref o), .unset, .unset, .unset, .unset] [(.ref o), (.long no)])) rfl rfl (Jvm.hb hby d_prog_3_method_9_26)
  refine FinP.st st259 ?_
  show FinP p e below s _ _ _ (T259.setTop (mkF m 29 #[.val (.ref o), .unset, .unset, .unset, .unset] [(.long cu), (.long no)]))
  refine FinP.st (fun _ => XS.lrem X259.here hx rfl (Jvm.hb hby d_prog_3_method_9_29) rfl hcu) ?_
  show FinP p e below s _ _ _ (T259.setTop (mkF m 30 #[.val (.ref o), .unset, .unset, .unset, .unset] [(.long (no - no / cu * cu))]))
  rw [hrem]
  show FinP p e below s _ _ _ (T259.setTop (mkF m 30 #[.val (.ref o), .unset, .unset, .unset, .unset] [(.long (0 : Int64))]))
  refine FinP.st (fun _ => XS.lstoreN X259.here hx rfl (Jvm.hb hby d_prog_3_method_9_30) rfl (l' := #[.val (.ref o), .unset, .unset, .val (.long (0 : Int64)), .second]) rfl) ?_
  show FinP p e below s _ _ _ (T259.setTop (mkF m 31 #[.val (.ref o), .unset, .unset, .val (.long (0 : Int64)), .second] []))
  refine FinP.st (fun _ => XS.aloadN X259.here hx rfl (Jvm.hb hby d_prog_3_method_9_31) rfl rfl) ?_
  show FinP p e below s _ _ _ (T259.setTop (mkF m 32 #[.val (.ref o), .unset, .unset, .val (.long (0 : Int64)), .second] [(.ref o)]))
  obtain ⟨T260, X260, e260, st260⟩ := getF X259 hx hZ hown (host := "") (Or.inl (hw _ (List.mem_of_getElem? (i := 115) rfl))) Via.refl e259 P_notional (g := (mkF m 32 #[.val (.ref o), .unset, .unset, .val (.long (0 : Int64)), .second] [(.ref o)])) rfl rfl (Jvm.hb hby d_prog_3_method_9_32)
  refine FinP.st st260 ?_
  show FinP p e below s _ _ _ (T260.setTop (mkF m 35 #[.val (.ref o), .unset, .unset, .val (.long (0 : Int64)), .second] [(.long no)]))
  refine FinP.st (fun _ => XS.aloadN X260.here hx rfl (Jvm.hb hby d_prog_3_method_9_35) rfl rfl) ?_
  show FinP p e below s _ _ _ (T260.setTop (mkF m 36 #[.val (.ref o), .unset, .unset, .val (.long (0 : Int64)), .second] [(.ref o), (.long no)]))
  obtain ⟨T261, X261, e261, st261⟩ := getF X260 hx hZ hown (host := "") (Or.inl (hw _ (List.mem_of_getElem? (i := 77) rfl))) Via.refl e260 P_cumQty (g := (mkF m 36 #[.val (.ref o), .unset, .unset, .val (.long (0 : Int64)), .second] [(.ref o), (.long no)])) rfl rfl (Jvm.hb hby d_prog_3_method_9_36)
  refine FinP.st st261 ?_
  show FinP p e below s _ _ _ (T261.setTop (mkF m 39 #[.val (.ref o), .unset, .unset, .val (.long (0 : Int64)), .second] [(.long cu), (.long no)]))
  refine FinP.st (fun _ => XS.ldiv X261.here hx rfl (Jvm.hb hby d_prog_3_method_9_39) rfl hcu) ?_
  show FinP p e below s _ _ _ (T261.setTop (mkF m 40 #[.val (.ref o), .unset, .unset, .val (.long (0 : Int64)), .second] [(.long (no / cu))]))
  rw [hdiv]
  show FinP p e below s _ _ _ (T261.setTop (mkF m 40 #[.val (.ref o), .unset, .unset, .val (.long (0 : Int64)), .second] [(.long pp)]))
  refine FinP.st (fun _ => XS.lloadN X261.here hx rfl (Jvm.hb hby d_prog_3_method_9_40) rfl) ?_
  show FinP p e below s _ _ _ (T261.setTop (mkF m 41 #[.val (.ref o), .unset, .unset, .val (.long (0 : Int64)), .second] [(.long (0 : Int64)), (.long pp)]))
  refine FinP.st (fun _ => XS.aloadN X261.here hx rfl (Jvm.hb hby d_prog_3_method_9_41) rfl rfl) ?_
  show FinP p e below s _ _ _ (T261.setTop (mkF m 42 #[.val (.ref o), .unset, .unset, .val (.long (0 : Int64)), .second] [(.ref o), (.long (0 : Int64)), (.long pp)]))
  obtain ⟨T262, X262, e262, st262⟩ := getF X261 hx hZ hown (host := "") (Or.inl (hw _ (List.mem_of_getElem? (i := 77) rfl))) Via.refl e261 P_cumQty (g := (mkF m 42 #[.val (.ref o), .unset, .unset, .val (.long (0 : Int64)), .second] [(.ref o), (.long (0 : Int64)), (.long pp)])) rfl rfl (Jvm.hb hby d_prog_3_method_9_42)
  refine FinP.st st262 ?_
  show FinP p e below s _ _ _ (T262.setTop (mkF m 45 #[.val (.ref o), .unset, .unset, .val (.long (0 : Int64)), .second] [(.long cu), (.long (0 : Int64)), (.long pp)]))
  refine FinP.st (fun _ => XS.lloadN X262.here hx rfl (Jvm.hb hby d_prog_3_method_9_45) rfl) ?_
  show FinP p e below s _ _ _ (T262.setTop (mkF m 46 #[.val (.ref o), .unset, .unset, .val (.long (0 : Int64)), .second] [(.long (0 : Int64)), (.long cu), (.long (0 : Int64)), (.long pp)]))
  refine FinP.st (fun _ => XS.lsub X262.here hx rfl (Jvm.hb hby d_prog_3_method_9_46) rfl) ?_
  show FinP p e below s _ _ _ (T262.setTop (mkF m 47 #[.val (.ref o), .unset, .unset, .val (.long (0 : Int64)), .second] [(.long (cu - (0 : Int64))), (.long (0 : Int64)), (.long pp)]))
  refine FinP.st (fun _ => XS.lcmp X262.here hx rfl (Jvm.hb hby d_prog_3_method_9_47) rfl) ?_
  show FinP p e below s _ _ _ (T262.setTop (mkF m 48 #[.val (.ref o), .unset, .unset, .val (.long (0 : Int64)), .second] [(.int (lcmpW (0 : Int64) (cu - (0 : Int64)))), (.long pp)]))
  refine FinP.st (fun _ => XS.ifYes X262.here hx rfl (pc0 := 48) (pc' := 55) rfl (Jvm.hb hby d_prog_3_method_9_48) rfl (zlt ((lw_lt _ _).mpr (by rw [Int64.sub_zero]; exact hpos))) (by decide) (by decide)) ?_
  show FinP p e below s _ _ _ (T262.setTop (mkF m 55 #[.val (.ref o), .unset, .unset, .val (.long (0 : Int64)), .second] [(.long pp)]))
  refine FinP.st (fun _ => XS.iconst X262.here hx rfl (Jvm.hb hby d_prog_3_method_9_55)) ?_
  show FinP p e below s _ _ _ (T262.setTop (mkF m 56 #[.val (.ref o), .unset, .unset, .val (.long (0 : Int64)), .second] [(.int (0 : Int32)), (.long pp)]))
  refine FinP.st (fun _ => XS.i2l X262.here hx rfl (Jvm.hb hby d_prog_3_method_9_56) rfl) ?_
  show FinP p e below s _ _ _ (T262.setTop (mkF m 57 #[.val (.ref o), .unset, .unset, .val (.long (0 : Int64)), .second] [(.long ((0 : Int32).toInt64)), (.long pp)]))
  refine FinP.st (fun _ => XS.ladd X262.here hx rfl (Jvm.hb hby d_prog_3_method_9_57) rfl) ?_
  show FinP p e below s _ _ _ (T262.setTop (mkF m 58 #[.val (.ref o), .unset, .unset, .val (.long (0 : Int64)), .second] [(.long (pp + ((0 : Int32).toInt64)))]))
  refine FinP.st (fun _ => XS.lstoreN X262.here hx rfl (Jvm.hb hby d_prog_3_method_9_58) rfl (l' := #[.val (.ref o), .val (.long (pp + ((0 : Int32).toInt64))), .second, .val (.long (0 : Int64)), .second]) rfl) ?_
  show FinP p e below s _ _ _ (T262.setTop (mkF m 59 #[.val (.ref o), .val (.long (pp + ((0 : Int32).toInt64))), .second, .val (.long (0 : Int64)), .second] []))
  refine FinP.st (fun _ => XS.goto X262.here hx rfl (pc0 := 59) (pc' := 84) rfl (Jvm.hb hby d_prog_3_method_9_59) (by decide) (by decide)) ?_
  show FinP p e below s _ _ _ (T262.setTop (mkF m 84 #[.val (.ref o), .val (.long (pp + ((0 : Int32).toInt64))), .second, .val (.long (0 : Int64)), .second] []))
  refine FinP.st (fun _ => XS.lloadN X262.here hx rfl (Jvm.hb hby d_prog_3_method_9_84) rfl) ?_
  show FinP p e below s _ _ _ (T262.setTop (mkF m 85 #[.val (.ref o), .val (.long (pp + ((0 : Int32).toInt64))), .second, .val (.long (0 : Int64)), .second] [(.long (pp + ((0 : Int32).toInt64)))]))
  exact finL X262 hx hlk hret (Jvm.hb hby d_prog_3_method_9_85) e262 ⟨by rw [show ((0 : Int32).toInt64) = 0 from rfl, Int64.add_zero], rfl, rfl⟩ (by decide) (by decide)
theorem pn_4 : plainName "com/example/fillwire/fillwire/book/OrderModifyPinLaw" = true := by first | (simp [plainName, overriddenIn]; done) | decide +kernel
theorem avg_ok {q pp : Int64} (lq : 0 ≤ q.toInt) (uq : q.toInt ≤ 65535) (lp : 0 ≤ pp.toInt) (up : pp.toInt ≤ 65535) (hq : ¬ q = 0) : 0 < q ∧ q * pp / q = pp ∧ q * pp - q * pp / q * q = 0 := by
  have m := mul16 lp up lq uq
  have e : q * pp / q = pp := by rw [Int64.mul_comm]; exact Jvm.Free.XT.mulDiv64 ⟨by omega, by omega⟩ hq
  refine ⟨?_, e, ?_⟩
  · rw [Int64.lt_iff_toInt_lt]
    have d : (0 : Int64).toInt = 0 := rfl
    have : ¬ q.toInt = 0 := fun z => hq (Int64.toInt_inj.mp z)
    omega
  · rw [e, Int64.mul_comm, Int64.sub_self]
theorem pd_3 : parseMethodDescriptor "(J)Ljava/lang/Long;" = some ⟨[.long], some (.object "java/lang/Long")⟩ := by decide +kernel
theorem pd_4 : parseMethodDescriptor "(JLcom/example/fillwire/fillwire/book/Side;JJLjava/lang/Object;)V" = some ⟨[.long, (.object "com/example/fillwire/fillwire/book/Side"), .long, .long, (.object "java/lang/Object")], none⟩ := by decide +kernel
theorem pd_5 : parseMethodDescriptor "(JJJLjava/lang/Object;)V" = some ⟨[.long, .long, .long, (.object "java/lang/Object")], none⟩ := by decide +kernel
theorem pd_6 : parseMethodDescriptor "()J" = some ⟨[], some .long⟩ := by decide +kernel
theorem pd_7 : parseMethodDescriptor "()Ljava/lang/Object;" = some ⟨[], some (.object "java/lang/Object")⟩ := by decide +kernel
theorem pd_8 : parseMethodDescriptor "(JJ)V" = some ⟨[.long, .long], none⟩ := by decide +kernel
set_option maxRecDepth 65536 in
set_option maxHeartbeats 40000000 in
theorem rmLaw (l : Launch) (Z : State) (a0 : Array Value) (hw : ∀ d ∈ tables_1, d.before a0 Z = true) (ws : List Jvm.Cond) (p1 p2 p3 p4 p5 : Int64) (p6 : Int32) (ca sb ss : Addr) (cc : Cell) (h0 : Heap) (n0 : Nat) (O : Old Z n0 h0) (BX : Bxs Z ca cc "java/lang/Long" "J" 256 (fun j => .long (j - 128).toInt64)) (SL : Sta Z Z.heap "java/lang/Long$LongCache" "cache" "[Ljava/lang/Long;" (.ref ca)) (SB : Sta Z Z.heap "com/example/fillwire/fillwire/book/Side" "BUY" "Lcom/example/fillwire/fillwire/book/Side;" (.ref sb)) (SS : Sta Z Z.heap "com/example/fillwire/fillwire/book/Side" "SELL" "Lcom/example/fillwire/fillwire/book/Side;" (.ref ss)) :
    Con l Z h0 x code maxLocals ret ws room_1 #[(.long p1), (.long p2), (.long p3), (.long p4), (.long p5), (.int p6)] (fun v h L => v = some (.int 1) ∧ Fr n0 L) := by
  refine Con.of (plainFor_of_name pn_4) (f0 := fun m => (mkF m 0 #[.val (.long p1), .second, .val (.long p2), .second, .val (.long p3), .second, .val (.long p4), .second, .val (.long p5), .second, .val (.int p6), .unset, .unset, .unset, .unset, .unset, .unset, .unset, .unset, .unset, .unset, .unset, .unset, .unset, .unset, .unset, .unset, .unset, .unset] [])) (fun m => by first | (simp [entryFrame, mkF, argsToLocals, Value.category, maxLocals]; done) | rfl) ?_
  intro p e s m below meth c T0 hx hby hml hown hnm hret hlk hZ X0 e0
  have hml : c.maxLocals = 29 := hml
  have hown : s.vm.findClass "com/example/fillwire/fillwire/book/OrderModifyPinLaw" = some m.cls := hown
  have N0 := Fr.nil n0
  show FinP p e below s _ _ _ (T0.setTop (mkF m 0 #[.val (.long p1), .second, .val (.long p2), .second, .val (.long p3), .second, .val (.long p4), .second, .val (.long p5), .second, .val (.int p6), .unset, .unset, .unset, .unset, .unset, .unset, .unset, .unset, .unset, .unset, .unset, .unset, .unset, .unset, .unset, .unset, .unset, .unset] []))
  refine FinP.st (fun _ => XS.iload X0.here hx rfl (Jvm.hb hby at_0) rfl) ?_
  show FinP p e below s _ _ _ (T0.setTop (mkF m 2 #[.val (.long p1), .second, .val (.long p2), .second, .val (.long p3), .second, .val (.long p4), .second, .val (.long p5), .second, .val (.int p6), .unset, .unset, .unset, .unset, .unset, .unset, .unset, .unset, .unset, .unset, .unset, .unset, .unset, .unset, .unset, .unset, .unset, .unset] [(.int p6)]))
  refine FinP.st (fun _ => XS.iconst X0.here hx rfl (Jvm.hb hby at_2)) ?_
  show FinP p e below s _ _ _ (T0.setTop (mkF m 3 #[.val (.long p1), .second, .val (.long p2), .second, .val (.long p3), .second, .val (.long p4), .second, .val (.long p5), .second, .val (.int p6), .unset, .unset, .unset, .unset, .unset, .unset, .unset, .unset, .unset, .unset, .unset, .unset, .unset, .unset, .unset, .unset, .unset, .unset] [(.int (1 : Int32)), (.int p6)]))
  refine FinP.st (fun _ => XS.iand X0.here hx rfl (Jvm.hb hby at_3) rfl) ?_
  show FinP p e below s _ _ _ (T0.setTop (mkF m 4 #[.val (.long p1), .second, .val (.long p2), .second, .val (.long p3), .second, .val (.long p4), .second, .val (.long p5), .second, .val (.int p6), .unset, .unset, .unset, .unset, .unset, .unset, .unset, .unset, .unset, .unset, .unset, .unset, .unset, .unset, .unset, .unset, .unset, .unset] [(.int (p6 &&& (1 : Int32)))]))
  refine join1 (α := Int32) (P := fun b1 => b1 = 0 ∨ b1 = 1) (A := fun b1 => T0.setTop (mkF m 12 #[.val (.long p1), .second, .val (.long p2), .second, .val (.long p3), .second, .val (.long p4), .second, .val (.long p5), .second, .val (.int p6), .unset, .unset, .unset, .unset, .unset, .unset, .unset, .unset, .unset, .unset, .unset, .unset, .unset, .unset, .unset, .unset, .unset, .unset] [(.int b1)])) ?_ ?_
  · rintro b1 hb1
    show FinP p e below s _ _ _ (T0.setTop (mkF m 12 #[.val (.long p1), .second, .val (.long p2), .second, .val (.long p3), .second, .val (.long p4), .second, .val (.long p5), .second, .val (.int p6), .unset, .unset, .unset, .unset, .unset, .unset, .unset, .unset, .unset, .unset, .unset, .unset, .unset, .unset, .unset, .unset, .unset, .unset] [(.int b1)]))
    refine FinP.st (fun _ => XS.istore X0.here hx rfl (Jvm.hb hby at_12) rfl (l' := #[.val (.long p1), .second, .val (.long p2), .second, .val (.long p3), .second, .val (.long p4), .second, .val (.long p5), .second, .val (.int p6), .val (.int b1), .unset, .unset, .unset, .unset, .unset, .unset, .unset, .unset, .unset, .unset, .unset, .unset, .unset, .unset, .unset, .unset, .unset]) rfl) ?_
    show FinP p e below s _ _ _ (T0.setTop (mkF m 14 #[.val (.long p1), .second, .val (.long p2), .second, .val (.long p3), .second, .val (.long p4), .second, .val (.long p5), .second, .val (.int p6), .val (.int b1), .unset, .unset, .unset, .unset, .unset, .unset, .unset, .unset, .unset, .unset, .unset, .unset, .unset, .unset, .unset, .unset, .unset] []))
    refine FinP.st (fun _ => XS.iload X0.here hx rfl (Jvm.hb hby at_14) rfl) ?_
    show FinP p e below s _ _ _ (T0.setTop (mkF m 16 #[.val (.long p1), .second, .val (.long p2), .second, .val (.long p3), .second, .val (.long p4), .second, .val (.long p5), .second, .val (.int p6), .val (.int b1), .unset, .unset, .unset, .unset, .unset, .unset, .unset, .unset, .unset, .unset, .unset, .unset, .unset, .unset, .unset, .unset, .unset] [(.int p6)]))
    refine FinP.st (fun _ => XS.iconst X0.here hx rfl (Jvm.hb hby at_16)) ?_
    show FinP p e below s _ _ _ (T0.setTop (mkF m 17 #[.val (.long p1), .second, .val (.long p2), .second, .val (.long p3), .second, .val (.long p4), .second, .val (.long p5), .second, .val (.int p6), .val (.int b1), .unset, .unset, .unset, .unset, .unset, .unset, .unset, .unset, .unset, .unset, .unset, .unset, .unset, .unset, .unset, .unset, .unset] [(.int (2 : Int32)), (.int p6)]))
    refine FinP.st (fun _ => XS.iand X0.here hx rfl (Jvm.hb hby at_17) rfl) ?_
    show FinP p e below s _ _ _ (T0.setTop (mkF m 18 #[.val (.long p1), .second, .val (.long p2), .second, .val (.long p3), .second, .val (.long p4), .second, .val (.long p5), .second, .val (.int p6), .val (.int b1), .unset, .unset, .unset, .unset, .unset, .unset, .unset, .unset, .unset, .unset, .unset, .unset, .unset, .unset, .unset, .unset, .unset] [(.int (p6 &&& (2 : Int32)))]))
    refine join1 (α := Int32) (P := fun b2 => b2 = 0 ∨ b2 = 1) (A := fun b2 => T0.setTop (mkF m 26 #[.val (.long p1), .second, .val (.long p2), .second, .val (.long p3), .second, .val (.long p4), .second, .val (.long p5), .second, .val (.int p6), .val (.int b1), .unset, .unset, .unset, .unset, .unset, .unset, .unset, .unset, .unset, .unset, .unset, .unset, .unset, .unset, .unset, .unset, .unset] [(.int b2)])) ?_ ?_
    · rintro b2 hb2
      show FinP p e below s _ _ _ (T0.setTop (mkF m 26 #[.val (.long p1), .second, .val (.long p2), .second, .val (.long p3), .second, .val (.long p4), .second, .val (.long p5), .second, .val (.int p6), .val (.int b1), .unset, .unset, .unset, .unset, .unset, .unset, .unset, .unset, .unset, .unset, .unset, .unset, .unset, .unset, .unset, .unset, .unset] [(.int b2)]))
      refine FinP.st (fun _ => XS.istore X0.here hx rfl (Jvm.hb hby at_26) rfl (l' := #[.val (.long p1), .second, .val (.long p2), .second, .val (.long p3), .second, .val (.long p4), .second, .val (.long p5), .second, .val (.int p6), .val (.int b1), .val (.int b2), .unset, .unset, .unset, .unset, .unset, .unset, .unset, .unset, .unset, .unset, .unset, .unset, .unset, .unset, .unset, .unset]) rfl) ?_
      show FinP p e below s _ _ _ (T0.setTop (mkF m 28 #[.val (.long p1), .second, .val (.long p2), .second, .val (.long p3), .second, .val (.long p4), .second, .val (.long p5), .second, .val (.int p6), .val (.int b1), .val (.int b2), .unset, .unset, .unset, .unset, .unset, .unset, .unset, .unset, .unset, .unset, .unset, .unset, .unset, .unset, .unset, .unset] []))
      refine FinP.st (fun _ => XS.iload X0.here hx rfl (Jvm.hb hby at_28) rfl) ?_
      show FinP p e below s _ _ _ (T0.setTop (mkF m 30 #[.val (.long p1), .second, .val (.long p2), .second, .val (.long p3), .second, .val (.long p4), .second, .val (.long p5), .second, .val (.int p6), .val (.int b1), .val (.int b2), .unset, .unset, .unset, .unset, .unset, .unset, .unset, .unset, .unset, .unset, .unset, .unset, .unset, .unset, .unset, .unset] [(.int p6)]))
      refine FinP.st (fun _ => XS.iconst X0.here hx rfl (Jvm.hb hby at_30)) ?_
      show FinP p e below s _ _ _ (T0.setTop (mkF m 31 #[.val (.long p1), .second, .val (.long p2), .second, .val (.long p3), .second, .val (.long p4), .second, .val (.long p5), .second, .val (.int p6), .val (.int b1), .val (.int b2), .unset, .unset, .unset, .unset, .unset, .unset, .unset, .unset, .unset, .unset, .unset, .unset, .unset, .unset, .unset, .unset] [(.int (4 : Int32)), (.int p6)]))
      refine FinP.st (fun _ => XS.iand X0.here hx rfl (Jvm.hb hby at_31) rfl) ?_
      show FinP p e below s _ _ _ (T0.setTop (mkF m 32 #[.val (.long p1), .second, .val (.long p2), .second, .val (.long p3), .second, .val (.long p4), .second, .val (.long p5), .second, .val (.int p6), .val (.int b1), .val (.int b2), .unset, .unset, .unset, .unset, .unset, .unset, .unset, .unset, .unset, .unset, .unset, .unset, .unset, .unset, .unset, .unset] [(.int (p6 &&& (4 : Int32)))]))
      refine joinH (α := Addr) (P := fun sd T263 h263 L263 => (Stand p l e room_1 s m #[(.long p1), (.long p2), (.long p3), (.long p4), (.long p5), (.int p6)] below meth c T263 L263 0 0) ∧ (T263.heap = h263) ∧ (Fr n0 L263) ∧ (Old Z n0 h263) ∧ (True)) (A := fun sd T263 => T263.setTop (mkF m 44 #[.val (.long p1), .second, .val (.long p2), .second, .val (.long p3), .second, .val (.long p4), .second, .val (.long p5), .second, .val (.int p6), .val (.int b1), .val (.int b2), .unset, .unset, .unset, .unset, .unset, .unset, .unset, .unset, .unset, .unset, .unset, .unset, .unset, .unset, .unset, .unset] [(.ref sd)])) ?_ ?_
      · rintro sd T263 h263 L263 ⟨X263, e263, N263, O263, -⟩
        show FinP p e below s _ _ _ (T263.setTop (mkF m 44 #[.val (.long p1), .second, .val (.long p2), .second, .val (.long p3), .second, .val (.long p4), .second, .val (.long p5), .second, .val (.int p6), .val (.int b1), .val (.int b2), .unset, .unset, .unset, .unset, .unset, .unset, .unset, .unset, .unset, .unset, .unset, .unset, .unset, .unset, .unset, .unset] [(.ref sd)]))
        refine FinP.st (fun _ => XS.astore X263.here hx rfl (Jvm.hb hby at_44) rfl rfl (l' := #[.val (.long p1), .second, .val (.long p2), .second, .val (.long p3), .second, .val (.long p4), .second, .val (.long p5), .second, .val (.int p6), .val (.int b1), .val (.int b2), .val (.ref sd), .unset, .unset, .unset, .unset, .unset, .unset, .unset, .unset, .unset, .unset, .unset, .unset, .unset, .unset, .unset]) rfl) ?_
        show FinP p e below s _ _ _ (T263.setTop (mkF m 46 #[.val (.long p1), .second, .val (.long p2), .second, .val (.long p3), .second, .val (.long p4), .second, .val (.long p5), .second, .val (.int p6), .val (.int b1), .val (.int b2), .val (.ref sd), .unset, .unset, .unset, .unset, .unset, .unset, .unset, .unset, .unset, .unset, .unset, .unset, .unset, .unset, .unset] []))
        refine FinP.st (fun _ => XS.lload X263.here hx rfl (Jvm.hb hby at_46) rfl) ?_
        show FinP p e below s _ _ _ (T263.setTop (mkF m 48 #[.val (.long p1), .second, .val (.long p2), .second, .val (.long p3), .second, .val (.long p4), .second, .val (.long p5), .second, .val (.int p6), .val (.int b1), .val (.int b2), .val (.ref sd), .unset, .unset, .unset, .unset, .unset, .unset, .unset, .unset, .unset, .unset, .unset, .unset, .unset, .unset, .unset] [(.long p5)]))
        refine FinP.st (fun _ => X263.ldc2J hx hown (mvT hZ (hw _ (List.mem_of_getElem? (i := 3) rfl))) rfl (Jvm.hb hby at_48)) ?_
        show FinP p e below s _ _ _ (T263.setTop (mkF m 51 #[.val (.long p1), .second, .val (.long p2), .second, .val (.long p3), .second, .val (.long p4), .second, .val (.long p5), .second, .val (.int p6), .val (.int b1), .val (.int b2), .val (.ref sd), .unset, .unset, .unset, .unset, .unset, .unset, .unset, .unset, .unset, .unset, .unset, .unset, .unset, .unset, .unset] [(.long (65535 : Int64)), (.long p5)]))
        refine FinP.st (fun _ => XS.land X263.here hx rfl (Jvm.hb hby at_51) rfl) ?_
        show FinP p e below s _ _ _ (T263.setTop (mkF m 52 #[.val (.long p1), .second, .val (.long p2), .second, .val (.long p3), .second, .val (.long p4), .second, .val (.long p5), .second, .val (.int p6), .val (.int b1), .val (.int b2), .val (.ref sd), .unset, .unset, .unset, .unset, .unset, .unset, .unset, .unset, .unset, .unset, .unset, .unset, .unset, .unset, .unset] [(.long (p5 &&& (65535 : Int64)))]))
        obtain ⟨q, hq, lq, uq⟩ := m16 p5
        rw [hq]
        show FinP p e below s _ _ _ (T263.setTop (mkF m 52 #[.val (.long p1), .second, .val (.long p2), .second, .val (.long p3), .second, .val (.long p4), .second, .val (.long p5), .second, .val (.int p6), .val (.int b1), .val (.int b2), .val (.ref sd), .unset, .unset, .unset, .unset, .unset, .unset, .unset, .unset, .unset, .unset, .unset, .unset, .unset, .unset, .unset] [(.long q)]))
        refine FinP.st (fun _ => XS.lstore X263.here hx rfl (Jvm.hb hby at_52) rfl (l' := #[.val (.long p1), .second, .val (.long p2), .second, .val (.long p3), .second, .val (.long p4), .second, .val (.long p5), .second, .val (.int p6), .val (.int b1), .val (.int b2), .val (.ref sd), .val (.long q), .second, .unset, .unset, .unset, .unset, .unset, .unset, .unset, .unset, .unset, .unset, .unset, .unset, .unset]) rfl) ?_
        show FinP p e below s _ _ _ (T263.setTop (mkF m 54 #[.val (.long p1), .second, .val (.long p2), .second, .val (.long p3), .second, .val (.long p4), .second, .val (.long p5), .second, .val (.int p6), .val (.int b1), .val (.int b2), .val (.ref sd), .val (.long q), .second, .unset, .unset, .unset, .unset, .unset, .unset, .unset, .unset, .unset, .unset, .unset, .unset, .unset] []))
        refine FinP.st (fun _ => XS.lload X263.here hx rfl (Jvm.hb hby at_54) rfl) ?_
        show FinP p e below s _ _ _ (T263.setTop (mkF m 56 #[.val (.long p1), .second, .val (.long p2), .second, .val (.long p3), .second, .val (.long p4), .second, .val (.long p5), .second, .val (.int p6), .val (.int b1), .val (.int b2), .val (.ref sd), .val (.long q), .second, .unset, .unset, .unset, .unset, .unset, .unset, .unset, .unset, .unset, .unset, .unset, .unset, .unset] [(.long p5)]))
        refine FinP.st (fun _ => XS.bipush X263.here hx rfl (Jvm.hb hby at_56)) ?_
        show FinP p e below s _ _ _ (T263.setTop (mkF m 58 #[.val (.long p1), .second, .val (.long p2), .second, .val (.long p3), .second, .val (.long p4), .second, .val (.long p5), .second, .val (.int p6), .val (.int b1), .val (.int b2), .val (.ref sd), .val (.long q), .second, .unset, .unset, .unset, .unset, .unset, .unset, .unset, .unset, .unset, .unset, .unset, .unset, .unset] [(.int (16 : Int32)), (.long p5)]))
        refine FinP.st (fun _ => XS.lushr X263.here hx rfl (Jvm.hb hby at_58) rfl) ?_
        show FinP p e below s _ _ _ (T263.setTop (mkF m 59 #[.val (.long p1), .second, .val (.long p2), .second, .val (.long p3), .second, .val (.long p4), .second, .val (.long p5), .second, .val (.int p6), .val (.int b1), .val (.int b2), .val (.ref sd), .val (.long q), .second, .unset, .unset, .unset, .unset, .unset, .unset, .unset, .unset, .unset, .unset, .unset, .unset, .unset] [(.long (lush p5 (16 : Int32)))]))
        refine FinP.st (fun _ => X263.ldc2J hx hown (mvT hZ (hw _ (List.mem_of_getElem? (i := 3) rfl))) rfl (Jvm.hb hby at_59)) ?_
        show FinP p e below s _ _ _ (T263.setTop (mkF m 62 #[.val (.long p1), .second, .val (.long p2), .second, .val (.long p3), .second, .val (.long p4), .second, .val (.long p5), .second, .val (.int p6), .val (.int b1), .val (.int b2), .val (.ref sd), .val (.long q), .second, .unset, .unset, .unset, .unset, .unset, .unset, .unset, .unset, .unset, .unset, .unset, .unset, .unset] [(.long (65535 : Int64)), (.long (lush p5 (16 : Int32)))]))
        refine FinP.st (fun _ => XS.land X263.here hx rfl (Jvm.hb hby at_62) rfl) ?_
        show FinP p e below s _ _ _ (T263.setTop (mkF m 63 #[.val (.long p1), .second, .val (.long p2), .second, .val (.long p3), .second, .val (.long p4), .second, .val (.long p5), .second, .val (.int p6), .val (.int b1), .val (.int b2), .val (.ref sd), .val (.long q), .second, .unset, .unset, .unset, .unset, .unset, .unset, .unset, .unset, .unset, .unset, .unset, .unset, .unset] [(.long ((lush p5 (16 : Int32)) &&& (65535 : Int64)))]))
        obtain ⟨pp, hp, lp, up⟩ := m16 (lush p5 16)
        rw [hp]
        show FinP p e below s _ _ _ (T263.setTop (mkF m 63 #[.val (.long p1), .second, .val (.long p2), .second, .val (.long p3), .second, .val (.long p4), .second, .val (.long p5), .second, .val (.int p6), .val (.int b1), .val (.int b2), .val (.ref sd), .val (.long q), .second, .unset, .unset, .unset, .unset, .unset, .unset, .unset, .unset, .unset, .unset, .unset, .unset, .unset] [(.long pp)]))
        refine FinP.st (fun _ => XS.lstore X263.here hx rfl (Jvm.hb hby at_63) rfl (l' := #[.val (.long p1), .second, .val (.long p2), .second, .val (.long p3), .second, .val (.long p4), .second, .val (.long p5), .second, .val (.int p6), .val (.int b1), .val (.int b2), .val (.ref sd), .val (.long q), .second, .val (.long pp), .second, .unset, .unset, .unset, .unset, .unset, .unset, .unset, .unset, .unset, .unset, .unset]) rfl) ?_
        show FinP p e below s _ _ _ (T263.setTop (mkF m 65 #[.val (.long p1), .second, .val (.long p2), .second, .val (.long p3), .second, .val (.long p4), .second, .val (.long p5), .second, .val (.int p6), .val (.int b1), .val (.int b2), .val (.ref sd), .val (.long q), .second, .val (.long pp), .second, .unset, .unset, .unset, .unset, .unset, .unset, .unset, .unset, .unset, .unset, .unset] []))
        refine FinP.st (fun _ => XS.lload X263.here hx rfl (Jvm.hb hby at_65) rfl) ?_
        show FinP p e below s _ _ _ (T263.setTop (mkF m 67 #[.val (.long p1), .second, .val (.long p2), .second, .val (.long p3), .second, .val (.long p4), .second, .val (.long p5), .second, .val (.int p6), .val (.int b1), .val (.int b2), .val (.ref sd), .val (.long q), .second, .val (.long pp), .second, .unset, .unset, .unset, .unset, .unset, .unset, .unset, .unset, .unset, .unset, .unset] [(.long p5)]))
        refine FinP.st (fun _ => XS.bipush X263.here hx rfl (Jvm.hb hby at_67)) ?_
        show FinP p e below s _ _ _ (T263.setTop (mkF m 69 #[.val (.long p1), .second, .val (.long p2), .second, .val (.long p3), .second, .val (.long p4), .second, .val (.long p5), .second, .val (.int p6), .val (.int b1), .val (.int b2), .val (.ref sd), .val (.long q), .second, .val (.long pp), .second, .unset, .unset, .unset, .unset, .unset, .unset, .unset, .unset, .unset, .unset, .unset] [(.int (32 : Int32)), (.long p5)]))
        refine FinP.st (fun _ => XS.lshr X263.here hx rfl (Jvm.hb hby at_69) rfl) ?_
        show FinP p e below s _ _ _ (T263.setTop (mkF m 70 #[.val (.long p1), .second, .val (.long p2), .second, .val (.long p3), .second, .val (.long p4), .second, .val (.long p5), .second, .val (.int p6), .val (.int b1), .val (.int b2), .val (.ref sd), .val (.long q), .second, .val (.long pp), .second, .unset, .unset, .unset, .unset, .unset, .unset, .unset, .unset, .unset, .unset, .unset] [(.long (p5 >>> ((32 : Int32) &&& 0x3f).toInt64))]))
        refine FinP.st (fun _ => XS.lstore X263.here hx rfl (Jvm.hb hby at_70) rfl (l' := #[.val (.long p1), .second, .val (.long p2), .second, .val (.long p3), .second, .val (.long p4), .second, .val (.long p5), .second, .val (.int p6), .val (.int b1), .val (.int b2), .val (.ref sd), .val (.long q), .second, .val (.long pp), .second, .val (.long (p5 >>> ((32 : Int32) &&& 0x3f).toInt64)), .second, .unset, .unset, .unset, .unset, .unset, .unset, .unset, .unset, .unset]) rfl) ?_
        show FinP p e below s _ _ _ (T263.setTop (mkF m 72 #[.val (.long p1), .second, .val (.long p2), .second, .val (.long p3), .second, .val (.long p4), .second, .val (.long p5), .second, .val (.int p6), .val (.int b1), .val (.int b2), .val (.ref sd), .val (.long q), .second, .val (.long pp), .second, .val (.long (p5 >>> ((32 : Int32) &&& 0x3f).toInt64)), .second, .unset, .unset, .unset, .unset, .unset, .unset, .unset, .unset, .unset] []))
        refine FinP.st (fun _ => XS.lload X263.here hx rfl (Jvm.hb hby at_72) rfl) ?_
        show FinP p e below s _ _ _ (T263.setTop (mkF m 74 #[.val (.long p1), .second, .val (.long p2), .second, .val (.long p3), .second, .val (.long p4), .second, .val (.long p5), .second, .val (.int p6), .val (.int b1), .val (.int b2), .val (.ref sd), .val (.long q), .second, .val (.long pp), .second, .val (.long (p5 >>> ((32 : Int32) &&& 0x3f).toInt64)), .second, .unset, .unset, .unset, .unset, .unset, .unset, .unset, .unset, .unset] [(.long p5)]))
        obtain ⟨_, T264, h264, L264, X264, e264, ⟨r1, rfl, Nq264, K264, E264, F264⟩, st264⟩ := goS X263 hx hZ hown (hw _ (List.mem_of_getElem? (i := 4) rfl)) (hw _ (List.mem_of_getElem? (i := 5) rfl)) (hw _ (List.mem_of_getElem? (i := 6) rfl)) (hw _ (List.mem_of_getElem? (i := 7) rfl)) (by decide) ((rmVal l Z a0 hw [] p5 ca cc h263 n0 O263 BX SL).pay (W := 0) hZ (hw _ (List.mem_of_getElem? (i := 7) rfl)) (hw _ (List.mem_of_getElem? (i := 6) rfl)) (by decide) (by decide)) e263 (g := (mkF m 74 #[.val (.long p1), .second, .val (.long p2), .second, .val (.long p3), .second, .val (.long p4), .second, .val (.long p5), .second, .val (.int p6), .val (.int b1), .val (.int b2), .val (.ref sd), .val (.long q), .second, .val (.long pp), .second, .val (.long (p5 >>> ((32 : Int32) &&& 0x3f).toInt64)), .second, .unset, .unset, .unset, .unset, .unset, .unset, .unset, .unset, .unset] [(.long p5)])) rfl (by rw [hml]; rfl) [(.long p5)] [] (lenOf pd_3 rfl) rfl (by show 2 * 0 + _ ≤ _; exact Nat.le_of_eq rfl) (Jvm.hb hby at_74) rfl (by decide) (by decide)
        have N264 := N263.app Nq264
        refine FinP.st st264 ?_
        show FinP p e below s _ _ _ (T264.setTop (mkF m 77 #[.val (.long p1), .second, .val (.long p2), .second, .val (.long p3), .second, .val (.long p4), .second, .val (.long p5), .second, .val (.int p6), .val (.int b1), .val (.int b2), .val (.ref sd), .val (.long q), .second, .val (.long pp), .second, .val (.long (p5 >>> ((32 : Int32) &&& 0x3f).toInt64)), .second, .unset, .unset, .unset, .unset, .unset, .unset, .unset, .unset, .unset] [(.ref r1)]))
        refine FinP.st (fun _ => XS.astore X264.here hx rfl (Jvm.hb hby at_77) rfl rfl (l' := #[.val (.long p1), .second, .val (.long p2), .second, .val (.long p3), .second, .val (.long p4), .second, .val (.long p5), .second, .val (.int p6), .val (.int b1), .val (.int b2), .val (.ref sd), .val (.long q), .second, .val (.long pp), .second, .val (.long (p5 >>> ((32 : Int32) &&& 0x3f).toInt64)), .second, .val (.ref r1), .unset, .unset, .unset, .unset, .unset, .unset, .unset, .unset]) rfl) ?_
        show FinP p e below s _ _ _ (T264.setTop (mkF m 79 #[.val (.long p1), .second, .val (.long p2), .second, .val (.long p3), .second, .val (.long p4), .second, .val (.long p5), .second, .val (.int p6), .val (.int b1), .val (.int b2), .val (.ref sd), .val (.long q), .second, .val (.long pp), .second, .val (.long (p5 >>> ((32 : Int32) &&& 0x3f).toInt64)), .second, .val (.ref r1), .unset, .unset, .unset, .unset, .unset, .unset, .unset, .unset] []))
        refine FinP.st (fun _ => XS.lload X264.here hx rfl (Jvm.hb hby at_79) rfl) ?_
        show FinP p e below s _ _ _ (T264.setTop (mkF m 81 #[.val (.long p1), .second, .val (.long p2), .second, .val (.long p3), .second, .val (.long p4), .second, .val (.long p5), .second, .val (.int p6), .val (.int b1), .val (.int b2), .val (.ref sd), .val (.long q), .second, .val (.long pp), .second, .val (.long (p5 >>> ((32 : Int32) &&& 0x3f).toInt64)), .second, .val (.ref r1), .unset, .unset, .unset, .unset, .unset, .unset, .unset, .unset] [(.long p4)]))
        have f265 := O263.keep K264 all0
        obtain ⟨_, T266, h266, L266, X266, e266, ⟨r2, rfl, Nq266, K266, E266, F266⟩, st266⟩ := goS X264 hx hZ hown (hw _ (List.mem_of_getElem? (i := 4) rfl)) (hw _ (List.mem_of_getElem? (i := 5) rfl)) (hw _ (List.mem_of_getElem? (i := 6) rfl)) (hw _ (List.mem_of_getElem? (i := 7) rfl)) (by decide) ((rmVal l Z a0 hw [] p4 ca cc h264 n0 f265 BX SL).pay (W := 0) hZ (hw _ (List.mem_of_getElem? (i := 7) rfl)) (hw _ (List.mem_of_getElem? (i := 6) rfl)) (by decide) (by decide)) e264 (g := (mkF m 81 #[.val (.long p1), .second, .val (.long p2), .second, .val (.long p3), .second, .val (.long p4), .second, .val (.long p5), .second, .val (.int p6), .val (.int b1), .val (.int b2), .val (.ref sd), .val (.long q), .second, .val (.long pp), .second, .val (.long (p5 >>> ((32 : Int32) &&& 0x3f).toInt64)), .second, .val (.ref r1), .unset, .unset, .unset, .unset, .unset, .unset, .unset, .unset] [(.long p4)])) rfl (by rw [hml]; rfl) [(.long p4)] [] (lenOf pd_3 rfl) rfl (by show 2 * 0 + _ ≤ _; exact Nat.le_of_eq rfl) (Jvm.hb hby at_81) rfl (by decide) (by decide)
        have N266 := N264.app Nq266
        refine FinP.st st266 ?_
        show FinP p e below s _ _ _ (T266.setTop (mkF m 84 #[.val (.long p1), .second, .val (.long p2), .second, .val (.long p3), .second, .val (.long p4), .second, .val (.long p5), .second, .val (.int p6), .val (.int b1), .val (.int b2), .val (.ref sd), .val (.long q), .second, .val (.long pp), .second, .val (.long (p5 >>> ((32 : Int32) &&& 0x3f).toInt64)), .second, .val (.ref r1), .unset, .unset, .unset, .unset, .unset, .unset, .unset, .unset] [(.ref r2)]))
        refine FinP.st (fun _ => XS.astore X266.here hx rfl (Jvm.hb hby at_84) rfl rfl (l' := #[.val (.long p1), .second, .val (.long p2), .second, .val (.long p3), .second, .val (.long p4), .second, .val (.long p5), .second, .val (.int p6), .val (.int b1), .val (.int b2), .val (.ref sd), .val (.long q), .second, .val (.long pp), .second, .val (.long (p5 >>> ((32 : Int32) &&& 0x3f).toInt64)), .second, .val (.ref r1), .val (.ref r2), .unset, .unset, .unset, .unset, .unset, .unset, .unset]) rfl) ?_
        show FinP p e below s _ _ _ (T266.setTop (mkF m 86 #[.val (.long p1), .second, .val (.long p2), .second, .val (.long p3), .second, .val (.long p4), .second, .val (.long p5), .second, .val (.int p6), .val (.int b1), .val (.int b2), .val (.ref sd), .val (.long q), .second, .val (.long pp), .second, .val (.long (p5 >>> ((32 : Int32) &&& 0x3f).toInt64)), .second, .val (.ref r1), .val (.ref r2), .unset, .unset, .unset, .unset, .unset, .unset, .unset] []))
        have f268 := f265.keep K266 all0
        obtain ⟨b267, g267⟩ : ∃ z, z = h266.size := ⟨_, rfl⟩
        have f269 := E264.keep K266
        have ne270 : r1 ≠ b267 := by rw [g267]; exact Nat.ne_of_lt f269.lt
        have ne271 : r2 ≠ b267 := by rw [g267]; exact Nat.ne_of_lt E266.lt
        have ge267 : n0 ≤ b267 := by rw [g267]; exact f268.own_le
        obtain ⟨T267, h267, X267, e267, E267, A267, D267, -, st267⟩ := newO X266 hx hZ hown (hw _ (List.mem_of_getElem? (i := 12) rfl)) (hw _ (List.mem_of_getElem? (i := 13) rfl)) (hw _ (List.mem_of_getElem? (i := 14) rfl)) e266 (g := (mkF m 86 #[.val (.long p1), .second, .val (.long p2), .second, .val (.long p3), .second, .val (.long p4), .second, .val (.long p5), .second, .val (.int p6), .val (.int b1), .val (.int b2), .val (.ref sd), .val (.long q), .second, .val (.long pp), .second, .val (.long (p5 >>> ((32 : Int32) &&& 0x3f).toInt64)), .second, .val (.ref r1), .val (.ref r2), .unset, .unset, .unset, .unset, .unset, .unset, .unset] [])) rfl (Jvm.hb hby at_86) (by decide) (by decide)
        rw [← g267] at A267 D267 st267
        have F267_id : Fld Z h267 b267 "com/example/fillwire/fillwire/book/Order" "id" "J" (.long (0 : Int64)) := D267 (Or.inl (hw _ (List.mem_of_getElem? (i := 22) rfl))) (ty := .long) (by decide)
        have F267_side : Fld Z h267 b267 "com/example/fillwire/fillwire/book/Order" "side" "Lcom/example/fillwire/fillwire/book/Side;" .null := D267 (Or.inr (hw _ (List.mem_of_getElem? (i := 24) rfl))) (ty := (.object "com/example/fillwire/fillwire/book/Side")) (by decide)
        have F267_price : Fld Z h267 b267 "com/example/fillwire/fillwire/book/Order" "price" "J" (.long (0 : Int64)) := D267 (Or.inl (hw _ (List.mem_of_getElem? (i := 26) rfl))) (ty := .long) (by decide)
        have F267_quantity : Fld Z h267 b267 "com/example/fillwire/fillwire/book/Order" "quantity" "J" (.long (0 : Int64)) := D267 (Or.inl (hw _ (List.mem_of_getElem? (i := 28) rfl))) (ty := .long) (by decide)
        have F267_request : Fld Z h267 b267 "com/example/fillwire/fillwire/book/Order" "request" "Ljava/lang/Object;" .null := D267 (Or.inl (hw _ (List.mem_of_getElem? (i := 30) rfl))) (ty := (.object "java/lang/Object")) (by decide)
        have F267_cancelled : Fld Z h267 b267 "com/example/fillwire/fillwire/book/Order" "cancelled" "Z" (.int (0 : Int32)) := D267 (Or.inl (hw _ (List.mem_of_getElem? (i := 37) rfl))) (ty := .boolean) (by decide)
        have F267_cumQty : Fld Z h267 b267 "com/example/fillwire/fillwire/book/Order" "cumQty" "J" (.long (0 : Int64)) := D267 (Or.inl (hw _ (List.mem_of_getElem? (i := 78) rfl))) (ty := .long) (by decide)
        have F267_largeNotional : Fld Z h267 b267 "com/example/fillwire/fillwire/book/Order" "largeNotional" "Ljava/math/BigDecimal;" .null := D267 (Or.inl (hw _ (List.mem_of_getElem? (i := 109) rfl))) (ty := (.object "java/math/BigDecimal")) (by decide)
        have F267_notional : Fld Z h267 b267 "com/example/fillwire/fillwire/book/Order" "notional" "J" (.long (0 : Int64)) := D267 (Or.inl (hw _ (List.mem_of_getElem? (i := 116) rfl))) (ty := .long) (by decide)
        refine FinP.st st267 ?_
        show FinP p e below s _ _ _ (T267.setTop (mkF m 89 #[.val (.long p1), .second, .val (.long p2), .second, .val (.long p3), .second, .val (.long p4), .second, .val (.long p5), .second, .val (.int p6), .val (.int b1), .val (.int b2), .val (.ref sd), .val (.long q), .second, .val (.long pp), .second, .val (.long (p5 >>> ((32 : Int32) &&& 0x3f).toInt64)), .second, .val (.ref r1), .val (.ref r2), .unset, .unset, .unset, .unset, .unset, .unset, .unset] [(.ref b267)]))
        refine FinP.st (fun _ => XS.dup X267.here hx rfl (Jvm.hb hby at_89) rfl rfl) ?_
        show FinP p e below s _ _ _ (T267.setTop (mkF m 90 #[.val (.long p1), .second, .val (.long p2), .second, .val (.long p3), .second, .val (.long p4), .second, .val (.long p5), .second, .val (.int p6), .val (.int b1), .val (.int b2), .val (.ref sd), .val (.long q), .second, .val (.long pp), .second, .val (.long (p5 >>> ((32 : Int32) &&& 0x3f).toInt64)), .second, .val (.ref r1), .val (.ref r2), .unset, .unset, .unset, .unset, .unset, .unset, .unset] [(.ref b267), (.ref b267)]))
        refine FinP.st (fun _ => XS.lload X267.here hx rfl (Jvm.hb hby at_90) rfl) ?_
        show FinP p e below s _ _ _ (T267.setTop (mkF m 92 #[.val (.long p1), .second, .val (.long p2), .second, .val (.long p3), .second, .val (.long p4), .second, .val (.long p5), .second, .val (.int p6), .val (.int b1), .val (.int b2), .val (.ref sd), .val (.long q), .second, .val (.long pp), .second, .val (.long (p5 >>> ((32 : Int32) &&& 0x3f).toInt64)), .second, .val (.ref r1), .val (.ref r2), .unset, .unset, .unset, .unset, .unset, .unset, .unset] [(.long (p5 >>> ((32 : Int32) &&& 0x3f).toInt64)), (.ref b267), (.ref b267)]))
        refine FinP.st (fun _ => XS.aload X267.here hx rfl (Jvm.hb hby at_92) rfl rfl) ?_
        show FinP p e below s _ _ _ (T267.setTop (mkF m 94 #[.val (.long p1), .second, .val (.long p2), .second, .val (.long p3), .second, .val (.long p4), .second, .val (.long p5), .second, .val (.int p6), .val (.int b1), .val (.int b2), .val (.ref sd), .val (.long q), .second, .val (.long pp), .second, .val (.long (p5 >>> ((32 : Int32) &&& 0x3f).toInt64)), .second, .val (.ref r1), .val (.ref r2), .unset, .unset, .unset, .unset, .unset, .unset, .unset] [(.ref sd), (.long (p5 >>> ((32 : Int32) &&& 0x3f).toInt64)), (.ref b267), (.ref b267)]))
        refine FinP.st (fun _ => XS.lload X267.here hx rfl (Jvm.hb hby at_94) rfl) ?_
        show FinP p e below s _ _ _ (T267.setTop (mkF m 96 #[.val (.long p1), .second, .val (.long p2), .second, .val (.long p3), .second, .val (.long p4), .second, .val (.long p5), .second, .val (.int p6), .val (.int b1), .val (.int b2), .val (.ref sd), .val (.long q), .second, .val (.long pp), .second, .val (.long (p5 >>> ((32 : Int32) &&& 0x3f).toInt64)), .second, .val (.ref r1), .val (.ref r2), .unset, .unset, .unset, .unset, .unset, .unset, .unset] [(.long pp), (.ref sd), (.long (p5 >>> ((32 : Int32) &&& 0x3f).toInt64)), (.ref b267), (.ref b267)]))
        refine FinP.st (fun _ => XS.lconst X267.here hx rfl (Jvm.hb hby at_96)) ?_
        show FinP p e below s _ _ _ (T267.setTop (mkF m 97 #[.val (.long p1), .second, .val (.long p2), .second, .val (.long p3), .second, .val (.long p4), .second, .val (.long p5), .second, .val (.int p6), .val (.int b1), .val (.int b2), .val (.ref sd), .val (.long q), .second, .val (.long pp), .second, .val (.long (p5 >>> ((32 : Int32) &&& 0x3f).toInt64)), .second, .val (.ref r1), .val (.ref r2), .unset, .unset, .unset, .unset, .unset, .unset, .unset] [(.long (1 : Int64)), (.long pp), (.ref sd), (.long (p5 >>> ((32 : Int32) &&& 0x3f).toInt64)), (.ref b267), (.ref b267)]))
        refine FinP.st (fun _ => XS.ladd X267.here hx rfl (Jvm.hb hby at_97) rfl) ?_
        show FinP p e below s _ _ _ (T267.setTop (mkF m 98 #[.val (.long p1), .second, .val (.long p2), .second, .val (.long p3), .second, .val (.long p4), .second, .val (.long p5), .second, .val (.int p6), .val (.int b1), .val (.int b2), .val (.ref sd), .val (.long q), .second, .val (.long pp), .second, .val (.long (p5 >>> ((32 : Int32) &&& 0x3f).toInt64)), .second, .val (.ref r1), .val (.ref r2), .unset, .unset, .unset, .unset, .unset, .unset, .unset] [(.long (pp + (1 : Int64))), (.ref sd), (.long (p5 >>> ((32 : Int32) &&& 0x3f).toInt64)), (.ref b267), (.ref b267)]))
        refine FinP.st (fun _ => XS.lload X267.here hx rfl (Jvm.hb hby at_98) rfl) ?_
        show FinP p e below s _ _ _ (T267.setTop (mkF m 100 #[.val (.long p1), .second, .val (.long p2), .second, .val (.long p3), .second, .val (.long p4), .second, .val (.long p5), .second, .val (.int p6), .val (.int b1), .val (.int b2), .val (.ref sd), .val (.long q), .second, .val (.long pp), .second, .val (.long (p5 >>> ((32 : Int32) &&& 0x3f).toInt64)), .second, .val (.ref r1), .val (.ref r2), .unset, .unset, .unset, .unset, .unset, .unset, .unset] [(.long q), (.long (pp + (1 : Int64))), (.ref sd), (.long (p5 >>> ((32 : Int32) &&& 0x3f).toInt64)), (.ref b267), (.ref b267)]))
        refine FinP.st (fun _ => XS.lconst X267.here hx rfl (Jvm.hb hby at_100)) ?_
        show FinP p e below s _ _ _ (T267.setTop (mkF m 101 #[.val (.long p1), .second, .val (.long p2), .second, .val (.long p3), .second, .val (.long p4), .second, .val (.long p5), .second, .val (.int p6), .val (.int b1), .val (.int b2), .val (.ref sd), .val (.long q), .second, .val (.long pp), .second, .val (.long (p5 >>> ((32 : Int32) &&& 0x3f).toInt64)), .second, .val (.ref r1), .val (.ref r2), .unset, .unset, .unset, .unset, .unset, .unset, .unset] [(.long (1 : Int64)), (.long q), (.long (pp + (1 : Int64))), (.ref sd), (.long (p5 >>> ((32 : Int32) &&& 0x3f).toInt64)), (.ref b267), (.ref b267)]))
        refine FinP.st (fun _ => XS.ladd X267.here hx rfl (Jvm.hb hby at_101) rfl) ?_
        show FinP p e below s _ _ _ (T267.setTop (mkF m 102 #[.val (.long p1), .second, .val (.long p2), .second, .val (.long p3), .second, .val (.long p4), .second, .val (.long p5), .second, .val (.int p6), .val (.int b1), .val (.int b2), .val (.ref sd), .val (.long q), .second, .val (.long pp), .second, .val (.long (p5 >>> ((32 : Int32) &&& 0x3f).toInt64)), .second, .val (.ref r1), .val (.ref r2), .unset, .unset, .unset, .unset, .unset, .unset, .unset] [(.long (q + (1 : Int64))), (.long (pp + (1 : Int64))), (.ref sd), (.long (p5 >>> ((32 : Int32) &&& 0x3f).toInt64)), (.ref b267), (.ref b267)]))
        refine FinP.st (fun _ => XS.aload X267.here hx rfl (Jvm.hb hby at_102) rfl rfl) ?_
        show FinP p e below s _ _ _ (T267.setTop (mkF m 104 #[.val (.long p1), .second, .val (.long p2), .second, .val (.long p3), .second, .val (.long p4), .second, .val (.long p5), .second, .val (.int p6), .val (.int b1), .val (.int b2), .val (.ref sd), .val (.long q), .second, .val (.long pp), .second, .val (.long (p5 >>> ((32 : Int32) &&& 0x3f).toInt64)), .second, .val (.ref r1), .val (.ref r2), .unset, .unset, .unset, .unset, .unset, .unset, .unset] [(.ref r1), (.long (q + (1 : Int64))), (.long (pp + (1 : Int64))), (.ref sd), (.long (p5 >>> ((32 : Int32) &&& 0x3f).toInt64)), (.ref b267), (.ref b267)]))
        have f272 := f268.ext E267
        obtain ⟨_, T273, h273, L273, X273, e273, ⟨rfl, Nq273, K273, P273⟩, st273⟩ := goI X267 hx hZ hown rfl (hw _ (List.mem_of_getElem? (i := 15) rfl)) (hw _ (List.mem_of_getElem? (i := 16) rfl)) (hw _ (List.mem_of_getElem? (i := 17) rfl)) (by decide) ((rmOrder l Z a0 hw [] b267 sd r1 (p5 >>> ((32 : Int32) &&& 0x3f).toInt64) (pp + (1 : Int64)) (q + (1 : Int64)) _ _ _ _ _ h267 n0 f272 A267 ge267 F267_id F267_side F267_price F267_quantity F267_request F267_cumQty F267_cancelled F267_notional F267_largeNotional).pay (W := 1) hZ (hw _ (List.mem_of_getElem? (i := 17) rfl)) (hw _ (List.mem_of_getElem? (i := 14) rfl)) (by decide) (by decide)) e267 (g := (mkF m 104 #[.val (.long p1), .second, .val (.long p2), .second, .val (.long p3), .second, .val (.long p4), .second, .val (.long p5), .second, .val (.int p6), .val (.int b1), .val (.int b2), .val (.ref sd), .val (.long q), .second, .val (.long pp), .second, .val (.long (p5 >>> ((32 : Int32) &&& 0x3f).toInt64)), .second, .val (.ref r1), .val (.ref r2), .unset, .unset, .unset, .unset, .unset, .unset, .unset] [(.ref r1), (.long (q + (1 : Int64))), (.long (pp + (1 : Int64))), (.ref sd), (.long (p5 >>> ((32 : Int32) &&& 0x3f).toInt64)), (.ref b267), (.ref b267)])) rfl (by rw [hml]; rfl) [(.long (p5 >>> ((32 : Int32) &&& 0x3f).toInt64)), (.ref sd), (.long (pp + (1 : Int64))), (.long (q + (1 : Int64))), (.ref r1)] [(.ref b267)] (lenOf pd_4 rfl) rfl (by show 2 * 0 + _ ≤ _; exact Nat.le_of_eq rfl) (Jvm.hb hby at_104) rfl (by decide) (by decide)
        have N273 := N266.app Nq273
        refine FinP.st st273 ?_
        show FinP p e below s _ _ _ (T273.setTop (mkF m 107 #[.val (.long p1), .second, .val (.long p2), .second, .val (.long p3), .second, .val (.long p4), .second, .val (.long p5), .second, .val (.int p6), .val (.int b1), .val (.int b2), .val (.ref sd), .val (.long q), .second, .val (.long pp), .second, .val (.long (p5 >>> ((32 : Int32) &&& 0x3f).toInt64)), .second, .val (.ref r1), .val (.ref r2), .unset, .unset, .unset, .unset, .unset, .unset, .unset] [(.ref b267)]))
        refine FinP.st (fun _ => XS.astore X273.here hx rfl (Jvm.hb hby at_107) rfl rfl (l' := #[.val (.long p1), .second, .val (.long p2), .second, .val (.long p3), .second, .val (.long p4), .second, .val (.long p5), .second, .val (.int p6), .val (.int b1), .val (.int b2), .val (.ref sd), .val (.long q), .second, .val (.long pp), .second, .val (.long (p5 >>> ((32 : Int32) &&& 0x3f).toInt64)), .second, .val (.ref r1), .val (.ref r2), .val (.ref b267), .unset, .unset, .unset, .unset, .unset, .unset]) rfl) ?_
        show FinP p e below s _ _ _ (T273.setTop (mkF m 109 #[.val (.long p1), .second, .val (.long p2), .second, .val (.long p3), .second, .val (.long p4), .second, .val (.long p5), .second, .val (.int p6), .val (.int b1), .val (.int b2), .val (.ref sd), .val (.long q), .second, .val (.long pp), .second, .val (.long (p5 >>> ((32 : Int32) &&& 0x3f).toInt64)), .second, .val (.ref r1), .val (.ref r2), .val (.ref b267), .unset, .unset, .unset, .unset, .unset, .unset] []))
        refine FinP.st (fun _ => XS.iload X273.here hx rfl (Jvm.hb hby at_109) rfl) ?_
        show FinP p e below s _ _ _ (T273.setTop (mkF m 111 #[.val (.long p1), .second, .val (.long p2), .second, .val (.long p3), .second, .val (.long p4), .second, .val (.long p5), .second, .val (.int p6), .val (.int b1), .val (.int b2), .val (.ref sd), .val (.long q), .second, .val (.long pp), .second, .val (.long (p5 >>> ((32 : Int32) &&& 0x3f).toInt64)), .second, .val (.ref r1), .val (.ref r2), .val (.ref b267), .unset, .unset, .unset, .unset, .unset, .unset] [(.int b1)]))
        refine joinH (α := Int64 × Int64) (P := fun a T274 h274 L274 => (Stand p l e room_1 s m #[(.long p1), (.long p2), (.long p3), (.long p4), (.long p5), (.int p6)] below meth c T274 L274 8 50) ∧ (T274.heap = h274) ∧ (Fr n0 L274) ∧ (Old Z n0 h274) ∧ ((b1 = 0 ∧ a.1 = 0 ∧ a.2 = 0) ∨ (b1 = 1 ∧ a.1 = q ∧ a.2 = q * pp)) ∧ (Exa Z h274 r2 "java/lang/Long") ∧ (Fld Z h274 r2 "java/lang/Long" "value" "J" (.long p4)) ∧ (Ord Z h274 b267 (p5 >>> ((32 : Int32) &&& 0x3f).toInt64) (pp + (1 : Int64)) (q + (1 : Int64)) r1 a.1 0 a.2)) (A := fun a T274 => T274.setTop (mkF m 123 #[.val (.long p1), .second, .val (.long p2), .second, .val (.long p3), .second, .val (.long p4), .second, .val (.long p5), .second, .val (.int p6), .val (.int b1), .val (.int b2), .val (.ref sd), .val (.long q), .second, .val (.long pp), .second, .val (.long (p5 >>> ((32 : Int32) &&& 0x3f).toInt64)), .second, .val (.ref r1), .val (.ref r2), .val (.ref b267), .unset, .unset, .unset, .unset, .unset, .unset] [])) ?_ ?_
        · rintro a T274 h274 L274 ⟨X274, e274, N274, O274, ha, G274_0, G274_1, G274_2⟩
          show FinP p e below s _ _ _ (T274.setTop (mkF m 123 #[.val (.long p1), .second, .val (.long p2), .second, .val (.long p3), .second, .val (.long p4), .second, .val (.long p5), .second, .val (.int p6), .val (.int b1), .val (.int b2), .val (.ref sd), .val (.long q), .second, .val (.long pp), .second, .val (.long (p5 >>> ((32 : Int32) &&& 0x3f).toInt64)), .second, .val (.ref r1), .val (.ref r2), .val (.ref b267), .unset, .unset, .unset, .unset, .unset, .unset] []))
          refine FinP.st (fun _ => XS.iload X274.here hx rfl (Jvm.hb hby at_123) rfl) ?_
          show FinP p e below s _ _ _ (T274.setTop (mkF m 125 #[.val (.long p1), .second, .val (.long p2), .second, .val (.long p3), .second, .val (.long p4), .second, .val (.long p5), .second, .val (.int p6), .val (.int b1), .val (.int b2), .val (.ref sd), .val (.long q), .second, .val (.long pp), .second, .val (.long (p5 >>> ((32 : Int32) &&& 0x3f).toInt64)), .second, .val (.ref r1), .val (.ref r2), .val (.ref b267), .unset, .unset, .unset, .unset, .unset, .unset] [(.int b2)]))
          refine joinH (α := Unit) (P := fun uu T275 h275 L275 => (Stand p l e room_1 s m #[(.long p1), (.long p2), (.long p3), (.long p4), (.long p5), (.int p6)] below meth c T275 L275 10 60) ∧ (T275.heap = h275) ∧ (Fr n0 L275) ∧ (Old Z n0 h275) ∧ (True) ∧ (Exa Z h275 r2 "java/lang/Long") ∧ (Fld Z h275 r2 "java/lang/Long" "value" "J" (.long p4)) ∧ (Ord Z h275 b267 (p5 >>> ((32 : Int32) &&& 0x3f).toInt64) (pp + (1 : Int64)) (q + (1 : Int64)) r1 a.1 b2 a.2)) (A := fun uu T275 => T275.setTop (mkF m 133 #[.val (.long p1), .second, .val (.long p2), .second, .val (.long p3), .second, .val (.long p4), .second, .val (.long p5), .second, .val (.int p6), .val (.int b1), .val (.int b2), .val (.ref sd), .val (.long q), .second, .val (.long pp), .second, .val (.long (p5 >>> ((32 : Int32) &&& 0x3f).toInt64)), .second, .val (.ref r1), .val (.ref r2), .val (.ref b267), .unset, .unset, .unset, .unset, .unset, .unset] [])) ?_ ?_
          · rintro uu T275 h275 L275 ⟨X275, e275, N275, O275, -, G275_0, G275_1, G275_2⟩
            show FinP p e below s _ _ _ (T275.setTop (mkF m 133 #[.val (.long p1), .second, .val (.long p2), .second, .val (.long p3), .second, .val (.long p4), .second, .val (.long p5), .second, .val (.int p6), .val (.int b1), .val (.int b2), .val (.ref sd), .val (.long q), .second, .val (.long pp), .second, .val (.long (p5 >>> ((32 : Int32) &&& 0x3f).toInt64)), .second, .val (.ref r1), .val (.ref r2), .val (.ref b267), .unset, .unset, .unset, .unset, .unset, .unset] []))
            refine FinP.st (fun _ => XS.aload X275.here hx rfl (Jvm.hb hby at_133) rfl rfl) ?_
            show FinP p e below s _ _ _ (T275.setTop (mkF m 135 #[.val (.long p1), .second, .val (.long p2), .second, .val (.long p3), .second, .val (.long p4), .second, .val (.long p5), .second, .val (.int p6), .val (.int b1), .val (.int b2), .val (.ref sd), .val (.long q), .second, .val (.long pp), .second, .val (.long (p5 >>> ((32 : Int32) &&& 0x3f).toInt64)), .second, .val (.ref r1), .val (.ref r2), .val (.ref b267), .unset, .unset, .unset, .unset, .unset, .unset] [(.ref b267)]))
            refine FinP.st (fun _ => XS.lloadN X275.here hx rfl (Jvm.hb hby at_135) rfl) ?_
            show FinP p e below s _ _ _ (T275.setTop (mkF m 136 #[.val (.long p1), .second, .val (.long p2), .second, .val (.long p3), .second, .val (.long p4), .second, .val (.long p5), .second, .val (.int p6), .val (.int b1), .val (.int b2), .val (.ref sd), .val (.long q), .second, .val (.long pp), .second, .val (.long (p5 >>> ((32 : Int32) &&& 0x3f).toInt64)), .second, .val (.ref r1), .val (.ref r2), .val (.ref b267), .unset, .unset, .unset, .unset, .unset, .unset] [(.long p1), (.ref b267)]))
            refine FinP.st (fun _ => XS.lloadN X275.here hx rfl (Jvm.hb hby at_136) rfl) ?_
            show FinP p e below s _ _ _ (T275.setTop (mkF m 137 #[.val (.long p1), .second, .val (.long p2), .second, .val (.long p3), .second, .val (.long p4), .second, .val (.long p5), .second, .val (.int p6), .val (.int b1), .val (.int b2), .val (.ref sd), .val (.long q), .second, .val (.long pp), .second, .val (.long (p5 >>> ((32 : Int32) &&& 0x3f).toInt64)), .second, .val (.ref r1), .val (.ref r2), .val (.ref b267), .unset, .unset, .unset, .unset, .unset, .unset] [(.long p2), (.long p1), (.ref b267)]))
            refine FinP.st (fun _ => XS.lload X275.here hx rfl (Jvm.hb hby at_137) rfl) ?_
            show FinP p e below s _ _ _ (T275.setTop (mkF m 139 #[.val (.long p1), .second, .val (.long p2), .second, .val (.long p3), .second, .val (.long p4), .second, .val (.long p5), .second, .val (.int p6), .val (.int b1), .val (.int b2), .val (.ref sd), .val (.long q), .second, .val (.long pp), .second, .val (.long (p5 >>> ((32 : Int32) &&& 0x3f).toInt64)), .second, .val (.ref r1), .val (.ref r2), .val (.ref b267), .unset, .unset, .unset, .unset, .unset, .unset] [(.long p3), (.long p2), (.long p1), (.ref b267)]))
            refine FinP.st (fun _ => XS.aload X275.here hx rfl (Jvm.hb hby at_139) rfl rfl) ?_
            show FinP p e below s _ _ _ (T275.setTop (mkF m 141 #[.val (.long p1), .second, .val (.long p2), .second, .val (.long p3), .second, .val (.long p4), .second, .val (.long p5), .second, .val (.int p6), .val (.int b1), .val (.int b2), .val (.ref sd), .val (.long q), .second, .val (.long pp), .second, .val (.long (p5 >>> ((32 : Int32) &&& 0x3f).toInt64)), .second, .val (.ref r1), .val (.ref r2), .val (.ref b267), .unset, .unset, .unset, .unset, .unset, .unset] [(.ref r2), (.long p3), (.long p2), (.long p1), (.ref b267)]))
            obtain ⟨_, T276, h276, L276, X276, e276, ⟨rfl, Nq276, K276, P276⟩, st276⟩ := goV X275 hx hZ hown (hw _ (List.mem_of_getElem? (i := 38) rfl)) (hw _ (List.mem_of_getElem? (i := 39) rfl)) (hw _ (List.mem_of_getElem? (i := 41) rfl)) (notFace_of_selects (args := #[]) (mvT hZ (hw _ (List.mem_of_getElem? (i := 41) rfl)))) (hw _ (List.mem_of_getElem? (i := 40) rfl)) (by decide) ((rmModify l Z a0 hw [] b267 (p5 >>> ((32 : Int32) &&& 0x3f).toInt64) (pp + (1 : Int64)) (q + (1 : Int64)) r1 a.1 b2 a.2 p1 p2 p3 r2 h275 n0 O275 ge267 G275_2).pay (W := 0) hZ (hw _ (List.mem_of_getElem? (i := 42) rfl)) (hw _ (List.mem_of_getElem? (i := 14) rfl)) (by decide) (by decide)) e275 G275_2.1 (g := (mkF m 141 #[.val (.long p1), .second, .val (.long p2), .second, .val (.long p3), .second, .val (.long p4), .second, .val (.long p5), .second, .val (.int p6), .val (.int b1), .val (.int b2), .val (.ref sd), .val (.long q), .second, .val (.long pp), .second, .val (.long (p5 >>> ((32 : Int32) &&& 0x3f).toInt64)), .second, .val (.ref r1), .val (.ref r2), .val (.ref b267), .unset, .unset, .unset, .unset, .unset, .unset] [(.ref r2), (.long p3), (.long p2), (.long p1), (.ref b267)])) rfl (by rw [hml]; rfl) [(.long p1), (.long p2), (.long p3), (.ref r2)] [] (lenOf pd_5 rfl) rfl (by show 2 * 0 + _ ≤ _; exact Nat.le_of_eq rfl) (Jvm.hb hby at_141) rfl (by decide) (by decide)
            have N276 := N275.app Nq276
            refine FinP.st st276 ?_
            show FinP p e below s _ _ _ (T276.setTop (mkF m 144 #[.val (.long p1), .second, .val (.long p2), .second, .val (.long p3), .second, .val (.long p4), .second, .val (.long p5), .second, .val (.int p6), .val (.int b1), .val (.int b2), .val (.ref sd), .val (.long q), .second, .val (.long pp), .second, .val (.long (p5 >>> ((32 : Int32) &&& 0x3f).toInt64)), .second, .val (.ref r1), .val (.ref r2), .val (.ref b267), .unset, .unset, .unset, .unset, .unset, .unset] []))
            refine FinP.st (fun _ => XS.iload X276.here hx rfl (Jvm.hb hby at_144) rfl) ?_
            show FinP p e below s _ _ _ (T276.setTop (mkF m 146 #[.val (.long p1), .second, .val (.long p2), .second, .val (.long p3), .second, .val (.long p4), .second, .val (.long p5), .second, .val (.int p6), .val (.int b1), .val (.int b2), .val (.ref sd), .val (.long q), .second, .val (.long pp), .second, .val (.long (p5 >>> ((32 : Int32) &&& 0x3f).toInt64)), .second, .val (.ref r1), .val (.ref r2), .val (.ref b267), .unset, .unset, .unset, .unset, .unset, .unset] [(.int b1)]))
            refine join1 (α := Int64) (P := fun cm => cm = a.1) (A := fun cm => T276.setTop (mkF m 155 #[.val (.long p1), .second, .val (.long p2), .second, .val (.long p3), .second, .val (.long p4), .second, .val (.long p5), .second, .val (.int p6), .val (.int b1), .val (.int b2), .val (.ref sd), .val (.long q), .second, .val (.long pp), .second, .val (.long (p5 >>> ((32 : Int32) &&& 0x3f).toInt64)), .second, .val (.ref r1), .val (.ref r2), .val (.ref b267), .unset, .unset, .unset, .unset, .unset, .unset] [(.long cm)])) ?_ ?_
            · rintro cm hcm
              show FinP p e below s _ _ _ (T276.setTop (mkF m 155 #[.val (.long p1), .second, .val (.long p2), .second, .val (.long p3), .second, .val (.long p4), .second, .val (.long p5), .second, .val (.int p6), .val (.int b1), .val (.int b2), .val (.ref sd), .val (.long q), .second, .val (.long pp), .second, .val (.long (p5 >>> ((32 : Int32) &&& 0x3f).toInt64)), .second, .val (.ref r1), .val (.ref r2), .val (.ref b267), .unset, .unset, .unset, .unset, .unset, .unset] [(.long cm)]))
              refine FinP.st (fun _ => XS.lstore X276.here hx rfl (Jvm.hb hby at_155) rfl (l' := #[.val (.long p1), .second, .val (.long p2), .second, .val (.long p3), .second, .val (.long p4), .second, .val (.long p5), .second, .val (.int p6), .val (.int b1), .val (.int b2), .val (.ref sd), .val (.long q), .second, .val (.long pp), .second, .val (.long (p5 >>> ((32 : Int32) &&& 0x3f).toInt64)), .second, .val (.ref r1), .val (.ref r2), .val (.ref b267), .val (.long cm), .second, .unset, .unset, .unset, .unset]) rfl) ?_
              show FinP p e below s _ _ _ (T276.setTop (mkF m 157 #[.val (.long p1), .second, .val (.long p2), .second, .val (.long p3), .second, .val (.long p4), .second, .val (.long p5), .second, .val (.int p6), .val (.int b1), .val (.int b2), .val (.ref sd), .val (.long q), .second, .val (.long pp), .second, .val (.long (p5 >>> ((32 : Int32) &&& 0x3f).toInt64)), .second, .val (.ref r1), .val (.ref r2), .val (.ref b267), .val (.long cm), .second, .unset, .unset, .unset, .unset] []))
              refine FinP.st (fun _ => XS.iload X276.here hx rfl (Jvm.hb hby at_157) rfl) ?_
              show FinP p e below s _ _ _ (T276.setTop (mkF m 159 #[.val (.long p1), .second, .val (.long p2), .second, .val (.long p3), .second, .val (.long p4), .second, .val (.long p5), .second, .val (.int p6), .val (.int b1), .val (.int b2), .val (.ref sd), .val (.long q), .second, .val (.long pp), .second, .val (.long (p5 >>> ((32 : Int32) &&& 0x3f).toInt64)), .second, .val (.ref r1), .val (.ref r2), .val (.ref b267), .val (.long cm), .second, .unset, .unset, .unset, .unset] [(.int b1)]))
              refine join1 (α := Int64) (P := fun av => (a.1 = 0 ∧ av = 0) ∨ (¬ a.1 = 0 ∧ av = pp ∧ a.1 = q ∧ a.2 = q * pp)) (A := fun av => T276.setTop (mkF m 175 #[.val (.long p1), .second, .val (.long p2), .second, .val (.long p3), .second, .val (.long p4), .second, .val (.long p5), .second, .val (.int p6), .val (.int b1), .val (.int b2), .val (.ref sd), .val (.long q), .second, .val (.long pp), .second, .val (.long (p5 >>> ((32 : Int32) &&& 0x3f).toInt64)), .second, .val (.ref r1), .val (.ref r2), .val (.ref b267), .val (.long cm), .second, .unset, .unset, .unset, .unset] [(.long av)])) ?_ ?_
              · rintro av hav
                show FinP p e below s _ _ _ (T276.setTop (mkF m 175 #[.val (.long p1), .second, .val (.long p2), .second, .val (.long p3), .second, .val (.long p4), .second, .val (.long p5), .second, .val (.int p6), .val (.int b1), .val (.int b2), .val (.ref sd), .val (.long q), .second, .val (.long pp), .second, .val (.long (p5 >>> ((32 : Int32) &&& 0x3f).toInt64)), .second, .val (.ref r1), .val (.ref r2), .val (.ref b267), .val (.long cm), .second, .unset, .unset, .unset, .unset] [(.long av)]))
                refine FinP.st (fun _ => XS.lstore X276.here hx rfl (Jvm.hb hby at_175) rfl (l' := #[.val (.long p1), .second, .val (.long p2), .second, .val (.long p3), .second, .val (.long p4), .second, .val (.long p5), .second, .val (.int p6), .val (.int b1), .val (.int b2), .val (.ref sd), .val (.long q), .second, .val (.long pp), .second, .val (.long (p5 >>> ((32 : Int32) &&& 0x3f).toInt64)), .second, .val (.ref r1), .val (.ref r2), .val (.ref b267), .val (.long cm), .second, .val (.long av), .second, .unset, .unset]) rfl) ?_
                show FinP p e below s _ _ _ (T276.setTop (mkF m 177 #[.val (.long p1), .second, .val (.long p2), .second, .val (.long p3), .second, .val (.long p4), .second, .val (.long p5), .second, .val (.int p6), .val (.int b1), .val (.int b2), .val (.ref sd), .val (.long q), .second, .val (.long pp), .second, .val (.long (p5 >>> ((32 : Int32) &&& 0x3f).toInt64)), .second, .val (.ref r1), .val (.ref r2), .val (.ref b267), .val (.long cm), .second, .val (.long av), .second, .unset, .unset] []))
                refine FinP.st (fun _ => XS.iload X276.here hx rfl (Jvm.hb hby at_177) rfl) ?_
                show FinP p e below s _ _ _ (T276.setTop (mkF m 179 #[.val (.long p1), .second, .val (.long p2), .second, .val (.long p3), .second, .val (.long p4), .second, .val (.long p5), .second, .val (.int p6), .val (.int b1), .val (.int b2), .val (.ref sd), .val (.long q), .second, .val (.long pp), .second, .val (.long (p5 >>> ((32 : Int32) &&& 0x3f).toInt64)), .second, .val (.ref r1), .val (.ref r2), .val (.ref b267), .val (.long cm), .second, .val (.long av), .second, .unset, .unset] [(.int b2)]))
                refine join1 (α := Int64) (P := fun lv => lv = if b2 = 0 then p3 - a.1 else 0) (A := fun lv => T276.setTop (mkF m 191 #[.val (.long p1), .second, .val (.long p2), .second, .val (.long p3), .second, .val (.long p4), .second, .val (.long p5), .second, .val (.int p6), .val (.int b1), .val (.int b2), .val (.ref sd), .val (.long q), .second, .val (.long pp), .second, .val (.long (p5 >>> ((32 : Int32) &&& 0x3f).toInt64)), .second, .val (.ref r1), .val (.ref r2), .val (.ref b267), .val (.long cm), .second, .val (.long av), .second, .unset, .unset] [(.long lv)])) ?_ ?_
                · rintro lv hlv
                  show FinP p e below s _ _ _ (T276.setTop (mkF m 191 #[.val (.long p1), .second, .val (.long p2), .second, .val (.long p3), .second, .val (.long p4), .second, .val (.long p5), .second, .val (.int p6), .val (.int b1), .val (.int b2), .val (.ref sd), .val (.long q), .second, .val (.long pp), .second, .val (.long (p5 >>> ((32 : Int32) &&& 0x3f).toInt64)), .second, .val (.ref r1), .val (.ref r2), .val (.ref b267), .val (.long cm), .second, .val (.long av), .second, .unset, .unset] [(.long lv)]))
                  refine FinP.st (fun _ => XS.lstore X276.here hx rfl (Jvm.hb hby at_191) rfl (l' := #[.val (.long p1), .second, .val (.long p2), .second, .val (.long p3), .second, .val (.long p4), .second, .val (.long p5), .second, .val (.int p6), .val (.int b1), .val (.int b2), .val (.ref sd), .val (.long q), .second, .val (.long pp), .second, .val (.long (p5 >>> ((32 : Int32) &&& 0x3f).toInt64)), .second, .val (.ref r1), .val (.ref r2), .val (.ref b267), .val (.long cm), .second, .val (.long av), .second, .val (.long lv), .second]) rfl) ?_
                  show FinP p e below s _ _ _ (T276.setTop (mkF m 193 #[.val (.long p1), .second, .val (.long p2), .second, .val (.long p3), .second, .val (.long p4), .second, .val (.long p5), .second, .val (.int p6), .val (.int b1), .val (.int b2), .val (.ref sd), .val (.long q), .second, .val (.long pp), .second, .val (.long (p5 >>> ((32 : Int32) &&& 0x3f).toInt64)), .second, .val (.ref r1), .val (.ref r2), .val (.ref b267), .val (.long cm), .second, .val (.long av), .second, .val (.long lv), .second] []))
                  refine FinP.st (fun _ => XS.aload X276.here hx rfl (Jvm.hb hby at_193) rfl rfl) ?_
                  show FinP p e below s _ _ _ (T276.setTop (mkF m 195 #[.val (.long p1), .second, .val (.long p2), .second, .val (.long p3), .second, .val (.long p4), .second, .val (.long p5), .second, .val (.int p6), .val (.int b1), .val (.int b2), .val (.ref sd), .val (.long q), .second, .val (.long pp), .second, .val (.long (p5 >>> ((32 : Int32) &&& 0x3f).toInt64)), .second, .val (.ref r1), .val (.ref r2), .val (.ref b267), .val (.long cm), .second, .val (.long av), .second, .val (.long lv), .second] [(.ref b267)]))
                  have f277 := O275.keep K276 (allS ge267 all0)
                  obtain ⟨_, T278, h278, L278, X278, e278, ⟨rfl, rfl, q278⟩, st278⟩ := goV X276 hx hZ hown (hw _ (List.mem_of_getElem? (i := 43) rfl)) (hw _ (List.mem_of_getElem? (i := 44) rfl)) (hw _ (List.mem_of_getElem? (i := 46) rfl)) (notFace_of_selects (args := #[]) (mvT hZ (hw _ (List.mem_of_getElem? (i := 46) rfl)))) (hw _ (List.mem_of_getElem? (i := 45) rfl)) (by decide) ((rm_id l Z a0 hw [] b267 p1 p2 p3 r2 a.1 b2 a.2 h276 n0 f277 P276 ).pay (W := 0) hZ (hw _ (List.mem_of_getElem? (i := 47) rfl)) (hw _ (List.mem_of_getElem? (i := 14) rfl)) (by decide) (by decide)) e276 P276.1 (g := (mkF m 195 #[.val (.long p1), .second, .val (.long p2), .second, .val (.long p3), .second, .val (.long p4), .second, .val (.long p5), .second, .val (.int p6), .val (.int b1), .val (.int b2), .val (.ref sd), .val (.long q), .second, .val (.long pp), .second, .val (.long (p5 >>> ((32 : Int32) &&& 0x3f).toInt64)), .second, .val (.ref r1), .val (.ref r2), .val (.ref b267), .val (.long cm), .second, .val (.long av), .second, .val (.long lv), .second] [(.ref b267)])) rfl (by rw [hml]; rfl) [] [] (lenOf pd_6 rfl) rfl (by show 2 * 0 + _ ≤ _; exact Nat.le_of_eq rfl) (Jvm.hb hby at_195) rfl (by decide) (by decide)
                  have e278 := e278.trans q278
                  have N278 := N276.app (Fr.nil n0)
                  refine FinP.st st278 ?_
                  show FinP p e below s _ _ _ (T278.setTop (mkF m 198 #[.val (.long p1), .second, .val (.long p2), .second, .val (.long p3), .second, .val (.long p4), .second, .val (.long p5), .second, .val (.int p6), .val (.int b1), .val (.int b2), .val (.ref sd), .val (.long q), .second, .val (.long pp), .second, .val (.long (p5 >>> ((32 : Int32) &&& 0x3f).toInt64)), .second, .val (.ref r1), .val (.ref r2), .val (.ref b267), .val (.long cm), .second, .val (.long av), .second, .val (.long lv), .second] [(.long p1)]))
                  refine FinP.st (fun _ => XS.lloadN X278.here hx rfl (Jvm.hb hby at_198) rfl) ?_
                  show FinP p e below s _ _ _ (T278.setTop (mkF m 199 #[.val (.long p1), .second, .val (.long p2), .second, .val (.long p3), .second, .val (.long p4), .second, .val (.long p5), .second, .val (.int p6), .val (.int b1), .val (.int b2), .val (.ref sd), .val (.long q), .second, .val (.long pp), .second, .val (.long (p5 >>> ((32 : Int32) &&& 0x3f).toInt64)), .second, .val (.ref r1), .val (.ref r2), .val (.ref b267), .val (.long cm), .second, .val (.long av), .second, .val (.long lv), .second] [(.long p1), (.long p1)]))
                  refine FinP.st (fun _ => XS.lcmp X278.here hx rfl (Jvm.hb hby at_199) rfl) ?_
                  show FinP p e below s _ _ _ (T278.setTop (mkF m 200 #[.val (.long p1), .second, .val (.long p2), .second, .val (.long p3), .second, .val (.long p4), .second, .val (.long p5), .second, .val (.int p6), .val (.int b1), .val (.int b2), .val (.ref sd), .val (.long q), .second, .val (.long pp), .second, .val (.long (p5 >>> ((32 : Int32) &&& 0x3f).toInt64)), .second, .val (.ref r1), .val (.ref r2), .val (.ref b267), .val (.long cm), .second, .val (.long av), .second, .val (.long lv), .second] [(.int (lcmpW p1 p1))]))
                  refine FinP.st (fun _ => XS.ifNo X278.here hx rfl (Jvm.hb hby at_200) rfl (zneN ((lw_eq _ _).mpr rfl))) ?_
                  show FinP p e below s _ _ _ (T278.setTop (mkF m 203 #[.val (.long p1), .second, .val (.long p2), .second, .val (.long p3), .second, .val (.long p4), .second, .val (.long p5), .second, .val (.int p6), .val (.int b1), .val (.int b2), .val (.ref sd), .val (.long q), .second, .val (.long pp), .second, .val (.long (p5 >>> ((32 : Int32) &&& 0x3f).toInt64)), .second, .val (.ref r1), .val (.ref r2), .val (.ref b267), .val (.long cm), .second, .val (.long av), .second, .val (.long lv), .second] []))
                  refine FinP.st (fun _ => XS.aload X278.here hx rfl (Jvm.hb hby at_203) rfl rfl) ?_
                  show FinP p e below s _ _ _ (T278.setTop (mkF m 205 #[.val (.long p1), .second, .val (.long p2), .second, .val (.long p3), .second, .val (.long p4), .second, .val (.long p5), .second, .val (.int p6), .val (.int b1), .val (.int b2), .val (.ref sd), .val (.long q), .second, .val (.long pp), .second, .val (.long (p5 >>> ((32 : Int32) &&& 0x3f).toInt64)), .second, .val (.ref r1), .val (.ref r2), .val (.ref b267), .val (.long cm), .second, .val (.long av), .second, .val (.long lv), .second] [(.ref b267)]))
                  obtain ⟨_, T279, h279, L279, X279, e279, ⟨rfl, rfl, q279⟩, st279⟩ := goV X278 hx hZ hown (hw _ (List.mem_of_getElem? (i := 48) rfl)) (hw _ (List.mem_of_getElem? (i := 49) rfl)) (hw _ (List.mem_of_getElem? (i := 51) rfl)) (notFace_of_selects (args := #[]) (mvT hZ (hw _ (List.mem_of_getElem? (i := 51) rfl)))) (hw _ (List.mem_of_getElem? (i := 50) rfl)) (by decide) ((rm_price l Z a0 hw [] b267 p1 p2 p3 r2 a.1 b2 a.2 h276 n0 f277 P276 ).pay (W := 0) hZ (hw _ (List.mem_of_getElem? (i := 52) rfl)) (hw _ (List.mem_of_getElem? (i := 14) rfl)) (by decide) (by decide)) e278 P276.1 (g := (mkF m 205 #[.val (.long p1), .second, .val (.long p2), .second, .val (.long p3), .second, .val (.long p4), .second, .val (.long p5), .second, .val (.int p6), .val (.int b1), .val (.int b2), .val (.ref sd), .val (.long q), .second, .val (.long pp), .second, .val (.long (p5 >>> ((32 : Int32) &&& 0x3f).toInt64)), .second, .val (.ref r1), .val (.ref r2), .val (.ref b267), .val (.long cm), .second, .val (.long av), .second, .val (.long lv), .second] [(.ref b267)])) rfl (by rw [hml]; rfl) [] [] (lenOf pd_6 rfl) rfl (by show 2 * 0 + _ ≤ _; exact Nat.le_of_eq rfl) (Jvm.hb hby at_205) rfl (by decide) (by decide)
                  have e279 := e279.trans q279
                  have N279 := N278.app (Fr.nil n0)
                  refine FinP.st st279 ?_
                  show FinP p e below s _ _ _ (T279.setTop (mkF m 208 #[.val (.long p1), .second, .val (.long p2), .second, .val (.long p3), .second, .val (.long p4), .second, .val (.long p5), .second, .val (.int p6), .val (.int b1), .val (.int b2), .val (.ref sd), .val (.long q), .second, .val (.long pp), .second, .val (.long (p5 >>> ((32 : Int32) &&& 0x3f).toInt64)), .second, .val (.ref r1), .val (.ref r2), .val (.ref b267), .val (.long cm), .second, .val (.long av), .second, .val (.long lv), .second] [(.long p2)]))
                  refine FinP.st (fun _ => XS.lloadN X279.here hx rfl (Jvm.hb hby at_208) rfl) ?_
                  show FinP p e below s _ _ _ (T279.setTop (mkF m 209 #[.val (.long p1), .second, .val (.long p2), .second, .val (.long p3), .second, .val (.long p4), .second, .val (.long p5), .second, .val (.int p6), .val (.int b1), .val (.int b2), .val (.ref sd), .val (.long q), .second, .val (.long pp), .second, .val (.long (p5 >>> ((32 : Int32) &&& 0x3f).toInt64)), .second, .val (.ref r1), .val (.ref r2), .val (.ref b267), .val (.long cm), .second, .val (.long av), .second, .val (.long lv), .second] [(.long p2), (.long p2)]))
                  refine FinP.st (fun _ => XS.lcmp X279.here hx rfl (Jvm.hb hby at_209) rfl) ?_
                  show FinP p e below s _ _ _ (T279.setTop (mkF m 210 #[.val (.long p1), .second, .val (.long p2), .second, .val (.long p3), .second, .val (.long p4), .second, .val (.long p5), .second, .val (.int p6), .val (.int b1), .val (.int b2), .val (.ref sd), .val (.long q), .second, .val (.long pp), .second, .val (.long (p5 >>> ((32 : Int32) &&& 0x3f).toInt64)), .second, .val (.ref r1), .val (.ref r2), .val (.ref b267), .val (.long cm), .second, .val (.long av), .second, .val (.long lv), .second] [(.int (lcmpW p2 p2))]))
                  refine FinP.st (fun _ => XS.ifNo X279.here hx rfl (Jvm.hb hby at_210) rfl (zneN ((lw_eq _ _).mpr rfl))) ?_
                  show FinP p e below s _ _ _ (T279.setTop (mkF m 213 #[.val (.long p1), .second, .val (.long p2), .second, .val (.long p3), .second, .val (.long p4), .second, .val (.long p5), .second, .val (.int p6), .val (.int b1), .val (.int b2), .val (.ref sd), .val (.long q), .second, .val (.long pp), .second, .val (.long (p5 >>> ((32 : Int32) &&& 0x3f).toInt64)), .second, .val (.ref r1), .val (.ref r2), .val (.ref b267), .val (.long cm), .second, .val (.long av), .second, .val (.long lv), .second] []))
                  refine FinP.st (fun _ => XS.aload X279.here hx rfl (Jvm.hb hby at_213) rfl rfl) ?_
                  show FinP p e below s _ _ _ (T279.setTop (mkF m 215 #[.val (.long p1), .second, .val (.long p2), .second, .val (.long p3), .second, .val (.long p4), .second, .val (.long p5), .second, .val (.int p6), .val (.int b1), .val (.int b2), .val (.ref sd), .val (.long q), .second, .val (.long pp), .second, .val (.long (p5 >>> ((32 : Int32) &&& 0x3f).toInt64)), .second, .val (.ref r1), .val (.ref r2), .val (.ref b267), .val (.long cm), .second, .val (.long av), .second, .val (.long lv), .second] [(.ref b267)]))
                  obtain ⟨_, T280, h280, L280, X280, e280, ⟨rfl, rfl, q280⟩, st280⟩ := goV X279 hx hZ hown (hw _ (List.mem_of_getElem? (i := 53) rfl)) (hw _ (List.mem_of_getElem? (i := 54) rfl)) (hw _ (List.mem_of_getElem? (i := 56) rfl)) (notFace_of_selects (args := #[]) (mvT hZ (hw _ (List.mem_of_getElem? (i := 56) rfl)))) (hw _ (List.mem_of_getElem? (i := 55) rfl)) (by decide) ((rm_quantity l Z a0 hw [] b267 p1 p2 p3 r2 a.1 b2 a.2 h276 n0 f277 P276 ).pay (W := 0) hZ (hw _ (List.mem_of_getElem? (i := 57) rfl)) (hw _ (List.mem_of_getElem? (i := 14) rfl)) (by decide) (by decide)) e279 P276.1 (g := (mkF m 215 #[.val (.long p1), .second, .val (.long p2), .second, .val (.long p3), .second, .val (.long p4), .second, .val (.long p5), .second, .val (.int p6), .val (.int b1), .val (.int b2), .val (.ref sd), .val (.long q), .second, .val (.long pp), .second, .val (.long (p5 >>> ((32 : Int32) &&& 0x3f).toInt64)), .second, .val (.ref r1), .val (.ref r2), .val (.ref b267), .val (.long cm), .second, .val (.long av), .second, .val (.long lv), .second] [(.ref b267)])) rfl (by rw [hml]; rfl) [] [] (lenOf pd_6 rfl) rfl (by show 2 * 0 + _ ≤ _; exact Nat.le_of_eq rfl) (Jvm.hb hby at_215) rfl (by decide) (by decide)
                  have e280 := e280.trans q280
                  have N280 := N279.app (Fr.nil n0)
                  refine FinP.st st280 ?_
                  show FinP p e below s _ _ _ (T280.setTop (mkF m 218 #[.val (.long p1), .second, .val (.long p2), .second, .val (.long p3), .second, .val (.long p4), .second, .val (.long p5), .second, .val (.int p6), .val (.int b1), .val (.int b2), .val (.ref sd), .val (.long q), .second, .val (.long pp), .second, .val (.long (p5 >>> ((32 : Int32) &&& 0x3f).toInt64)), .second, .val (.ref r1), .val (.ref r2), .val (.ref b267), .val (.long cm), .second, .val (.long av), .second, .val (.long lv), .second] [(.long p3)]))
                  refine FinP.st (fun _ => XS.lload X280.here hx rfl (Jvm.hb hby at_218) rfl) ?_
                  show FinP p e below s _ _ _ (T280.setTop (mkF m 220 #[.val (.long p1), .second, .val (.long p2), .second, .val (.long p3), .second, .val (.long p4), .second, .val (.long p5), .second, .val (.int p6), .val (.int b1), .val (.int b2), .val (.ref sd), .val (.long q), .second, .val (.long pp), .second, .val (.long (p5 >>> ((32 : Int32) &&& 0x3f).toInt64)), .second, .val (.ref r1), .val (.ref r2), .val (.ref b267), .val (.long cm), .second, .val (.long av), .second, .val (.long lv), .second] [(.long p3), (.long p3)]))
                  refine FinP.st (fun _ => XS.lcmp X280.here hx rfl (Jvm.hb hby at_220) rfl) ?_
                  show FinP p e below s _ _ _ (T280.setTop (mkF m 221 #[.val (.long p1), .second, .val (.long p2), .second, .val (.long p3), .second, .val (.long p4), .second, .val (.long p5), .second, .val (.int p6), .val (.int b1), .val (.int b2), .val (.ref sd), .val (.long q), .second, .val (.long pp), .second, .val (.long (p5 >>> ((32 : Int32) &&& 0x3f).toInt64)), .second, .val (.ref r1), .val (.ref r2), .val (.ref b267), .val (.long cm), .second, .val (.long av), .second, .val (.long lv), .second] [(.int (lcmpW p3 p3))]))
                  refine FinP.st (fun _ => XS.ifNo X280.here hx rfl (Jvm.hb hby at_221) rfl (zneN ((lw_eq _ _).mpr rfl))) ?_
                  show FinP p e below s _ _ _ (T280.setTop (mkF m 224 #[.val (.long p1), .second, .val (.long p2), .second, .val (.long p3), .second, .val (.long p4), .second, .val (.long p5), .second, .val (.int p6), .val (.int b1), .val (.int b2), .val (.ref sd), .val (.long q), .second, .val (.long pp), .second, .val (.long (p5 >>> ((32 : Int32) &&& 0x3f).toInt64)), .second, .val (.ref r1), .val (.ref r2), .val (.ref b267), .val (.long cm), .second, .val (.long av), .second, .val (.long lv), .second] []))
                  refine FinP.st (fun _ => XS.aload X280.here hx rfl (Jvm.hb hby at_224) rfl rfl) ?_
                  show FinP p e below s _ _ _ (T280.setTop (mkF m 226 #[.val (.long p1), .second, .val (.long p2), .second, .val (.long p3), .second, .val (.long p4), .second, .val (.long p5), .second, .val (.int p6), .val (.int b1), .val (.int b2), .val (.ref sd), .val (.long q), .second, .val (.long pp), .second, .val (.long (p5 >>> ((32 : Int32) &&& 0x3f).toInt64)), .second, .val (.ref r1), .val (.ref r2), .val (.ref b267), .val (.long cm), .second, .val (.long av), .second, .val (.long lv), .second] [(.ref b267)]))
                  obtain ⟨_, T281, h281, L281, X281, e281, ⟨rfl, rfl, q281⟩, st281⟩ := goV X280 hx hZ hown (hw _ (List.mem_of_getElem? (i := 58) rfl)) (hw _ (List.mem_of_getElem? (i := 59) rfl)) (hw _ (List.mem_of_getElem? (i := 61) rfl)) (notFace_of_selects (args := #[]) (mvT hZ (hw _ (List.mem_of_getElem? (i := 61) rfl)))) (hw _ (List.mem_of_getElem? (i := 60) rfl)) (by decide) ((rm_request l Z a0 hw [] b267 p1 p2 p3 r2 a.1 b2 a.2 h276 n0 f277 P276 ).pay (W := 0) hZ (hw _ (List.mem_of_getElem? (i := 62) rfl)) (hw _ (List.mem_of_getElem? (i := 14) rfl)) (by decide) (by decide)) e280 P276.1 (g := (mkF m 226 #[.val (.long p1), .second, .val (.long p2), .second, .val (.long p3), .second, .val (.long p4), .second, .val (.long p5), .second, .val (.int p6), .val (.int b1), .val (.int b2), .val (.ref sd), .val (.long q), .second, .val (.long pp), .second, .val (.long (p5 >>> ((32 : Int32) &&& 0x3f).toInt64)), .second, .val (.ref r1), .val (.ref r2), .val (.ref b267), .val (.long cm), .second, .val (.long av), .second, .val (.long lv), .second] [(.ref b267)])) rfl (by rw [hml]; rfl) [] [] (lenOf pd_7 rfl) rfl (by show 2 * 0 + _ ≤ _; exact Nat.le_of_eq rfl) (Jvm.hb hby at_226) rfl (by decide) (by decide)
                  have e281 := e281.trans q281
                  have N281 := N280.app (Fr.nil n0)
                  refine FinP.st st281 ?_
                  show FinP p e below s _ _ _ (T281.setTop (mkF m 229 #[.val (.long p1), .second, .val (.long p2), .second, .val (.long p3), .second, .val (.long p4), .second, .val (.long p5), .second, .val (.int p6), .val (.int b1), .val (.int b2), .val (.ref sd), .val (.long q), .second, .val (.long pp), .second, .val (.long (p5 >>> ((32 : Int32) &&& 0x3f).toInt64)), .second, .val (.ref r1), .val (.ref r2), .val (.ref b267), .val (.long cm), .second, .val (.long av), .second, .val (.long lv), .second] [(.ref r2)]))
                  have f283 := G275_0.keep K276
                  obtain ⟨T282, X282, e282, st282⟩ := castY X281 hx hZ hown (hw _ (List.mem_of_getElem? (i := 63) rfl)) e281 (Ins.self f283) (g := (mkF m 229 #[.val (.long p1), .second, .val (.long p2), .second, .val (.long p3), .second, .val (.long p4), .second, .val (.long p5), .second, .val (.int p6), .val (.int b1), .val (.int b2), .val (.ref sd), .val (.long q), .second, .val (.long pp), .second, .val (.long (p5 >>> ((32 : Int32) &&& 0x3f).toInt64)), .second, .val (.ref r1), .val (.ref r2), .val (.ref b267), .val (.long cm), .second, .val (.long av), .second, .val (.long lv), .second] [(.ref r2)])) rfl rfl (Jvm.hb hby at_229)
                  refine FinP.st st282 ?_
                  show FinP p e below s _ _ _ (T282.setTop (mkF m 232 #[.val (.long p1), .second, .val (.long p2), .second, .val (.long p3), .second, .val (.long p4), .second, .val (.long p5), .second, .val (.int p6), .val (.int b1), .val (.int b2), .val (.ref sd), .val (.long q), .second, .val (.long pp), .second, .val (.long (p5 >>> ((32 : Int32) &&& 0x3f).toInt64)), .second, .val (.ref r1), .val (.ref r2), .val (.ref b267), .val (.long cm), .second, .val (.long av), .second, .val (.long lv), .second] [(.ref r2)]))
                  have f284 := G275_1.keep K276 (ninS ne271 nin0)
                  obtain ⟨_, T285, h285, L285, X285, e285, ⟨rfl, rfl, q285⟩, st285⟩ := goV X282 hx hZ hown (hw _ (List.mem_of_getElem? (i := 65) rfl)) (hw _ (List.mem_of_getElem? (i := 66) rfl)) (hw _ (List.mem_of_getElem? (i := 68) rfl)) (notFace_of_selects (args := #[]) (mvT hZ (hw _ (List.mem_of_getElem? (i := 68) rfl)))) (hw _ (List.mem_of_getElem? (i := 67) rfl)) (by decide) ((rm_longValue l Z a0 hw [] r2 p4 h276 n0 f277 f284).pay (W := 0) hZ (hw _ (List.mem_of_getElem? (i := 69) rfl)) (hw _ (List.mem_of_getElem? (i := 6) rfl)) (by decide) (by decide)) e282 f283 (g := (mkF m 232 #[.val (.long p1), .second, .val (.long p2), .second, .val (.long p3), .second, .val (.long p4), .second, .val (.long p5), .second, .val (.int p6), .val (.int b1), .val (.int b2), .val (.ref sd), .val (.long q), .second, .val (.long pp), .second, .val (.long (p5 >>> ((32 : Int32) &&& 0x3f).toInt64)), .second, .val (.ref r1), .val (.ref r2), .val (.ref b267), .val (.long cm), .second, .val (.long av), .second, .val (.long lv), .second] [(.ref r2)])) rfl (by rw [hml]; rfl) [] [] (lenOf pd_6 rfl) rfl (by show 2 * 0 + _ ≤ _; exact Nat.le_of_eq rfl) (Jvm.hb hby at_232) rfl (by decide) (by decide)
                  have e285 := e285.trans q285
                  have N285 := N281.app (Fr.nil n0)
                  refine FinP.st st285 ?_
                  show FinP p e below s _ _ _ (T285.setTop (mkF m 235 #[.val (.long p1), .second, .val (.long p2), .second, .val (.long p3), .second, .val (.long p4), .second, .val (.long p5), .second, .val (.int p6), .val (.int b1), .val (.int b2), .val (.ref sd), .val (.long q), .second, .val (.long pp), .second, .val (.long (p5 >>> ((32 : Int32) &&& 0x3f).toInt64)), .second, .val (.ref r1), .val (.ref r2), .val (.ref b267), .val (.long cm), .second, .val (.long av), .second, .val (.long lv), .second] [(.long p4)]))
                  refine FinP.st (fun _ => XS.lload X285.here hx rfl (Jvm.hb hby at_235) rfl) ?_
                  show FinP p e below s _ _ _ (T285.setTop (mkF m 237 #[.val (.long p1), .second, .val (.long p2), .second, .val (.long p3), .second, .val (.long p4), .second, .val (.long p5), .second, .val (.int p6), .val (.int b1), .val (.int b2), .val (.ref sd), .val (.long q), .second, .val (.long pp), .second, .val (.long (p5 >>> ((32 : Int32) &&& 0x3f).toInt64)), .second, .val (.ref r1), .val (.ref r2), .val (.ref b267), .val (.long cm), .second, .val (.long av), .second, .val (.long lv), .second] [(.long p4), (.long p4)]))
                  refine FinP.st (fun _ => XS.lcmp X285.here hx rfl (Jvm.hb hby at_237) rfl) ?_
                  show FinP p e below s _ _ _ (T285.setTop (mkF m 238 #[.val (.long p1), .second, .val (.long p2), .second, .val (.long p3), .second, .val (.long p4), .second, .val (.long p5), .second, .val (.int p6), .val (.int b1), .val (.int b2), .val (.ref sd), .val (.long q), .second, .val (.long pp), .second, .val (.long (p5 >>> ((32 : Int32) &&& 0x3f).toInt64)), .second, .val (.ref r1), .val (.ref r2), .val (.ref b267), .val (.long cm), .second, .val (.long av), .second, .val (.long lv), .second] [(.int (lcmpW p4 p4))]))
                  refine FinP.st (fun _ => XS.ifNo X285.here hx rfl (Jvm.hb hby at_238) rfl (zneN ((lw_eq _ _).mpr rfl))) ?_
                  show FinP p e below s _ _ _ (T285.setTop (mkF m 241 #[.val (.long p1), .second, .val (.long p2), .second, .val (.long p3), .second, .val (.long p4), .second, .val (.long p5), .second, .val (.int p6), .val (.int b1), .val (.int b2), .val (.ref sd), .val (.long q), .second, .val (.long pp), .second, .val (.long (p5 >>> ((32 : Int32) &&& 0x3f).toInt64)), .second, .val (.ref r1), .val (.ref r2), .val (.ref b267), .val (.long cm), .second, .val (.long av), .second, .val (.long lv), .second] []))
                  refine FinP.st (fun _ => XS.aload X285.here hx rfl (Jvm.hb hby at_241) rfl rfl) ?_
                  show FinP p e below s _ _ _ (T285.setTop (mkF m 243 #[.val (.long p1), .second, .val (.long p2), .second, .val (.long p3), .second, .val (.long p4), .second, .val (.long p5), .second, .val (.int p6), .val (.int b1), .val (.int b2), .val (.ref sd), .val (.long q), .second, .val (.long pp), .second, .val (.long (p5 >>> ((32 : Int32) &&& 0x3f).toInt64)), .second, .val (.ref r1), .val (.ref r2), .val (.ref b267), .val (.long cm), .second, .val (.long av), .second, .val (.long lv), .second] [(.ref b267)]))
                  obtain ⟨_, T286, h286, L286, X286, e286, ⟨rfl, rfl, q286⟩, st286⟩ := goV X285 hx hZ hown (hw _ (List.mem_of_getElem? (i := 72) rfl)) (hw _ (List.mem_of_getElem? (i := 73) rfl)) (hw _ (List.mem_of_getElem? (i := 75) rfl)) (notFace_of_selects (args := #[]) (mvT hZ (hw _ (List.mem_of_getElem? (i := 75) rfl)))) (hw _ (List.mem_of_getElem? (i := 74) rfl)) (by decide) ((rm_cumQty l Z a0 hw [] b267 p1 p2 p3 r2 a.1 b2 a.2 h276 n0 f277 P276 ).pay (W := 0) hZ (hw _ (List.mem_of_getElem? (i := 76) rfl)) (hw _ (List.mem_of_getElem? (i := 14) rfl)) (by decide) (by decide)) e285 P276.1 (g := (mkF m 243 #[.val (.long p1), .second, .val (.long p2), .second, .val (.long p3), .second, .val (.long p4), .second, .val (.long p5), .second, .val (.int p6), .val (.int b1), .val (.int b2), .val (.ref sd), .val (.long q), .second, .val (.long pp), .second, .val (.long (p5 >>> ((32 : Int32) &&& 0x3f).toInt64)), .second, .val (.ref r1), .val (.ref r2), .val (.ref b267), .val (.long cm), .second, .val (.long av), .second, .val (.long lv), .second] [(.ref b267)])) rfl (by rw [hml]; rfl) [] [] (lenOf pd_6 rfl) rfl (by show 2 * 0 + _ ≤ _; exact Nat.le_of_eq rfl) (Jvm.hb hby at_243) rfl (by decide) (by decide)
                  have e286 := e286.trans q286
                  have N286 := N285.app (Fr.nil n0)
                  refine FinP.st st286 ?_
                  show FinP p e below s _ _ _ (T286.setTop (mkF m 246 #[.val (.long p1), .second, .val (.long p2), .second, .val (.long p3), .second, .val (.long p4), .second, .val (.long p5), .second, .val (.int p6), .val (.int b1), .val (.int b2), .val (.ref sd), .val (.long q), .second, .val (.long pp), .second, .val (.long (p5 >>> ((32 : Int32) &&& 0x3f).toInt64)), .second, .val (.ref r1), .val (.ref r2), .val (.ref b267), .val (.long cm), .second, .val (.long av), .second, .val (.long lv), .second] [(.long a.1)]))
                  refine FinP.st (fun _ => XS.lload X286.here hx rfl (Jvm.hb hby at_246) rfl) ?_
                  show FinP p e below s _ _ _ (T286.setTop (mkF m 248 #[.val (.long p1), .second, .val (.long p2), .second, .val (.long p3), .second, .val (.long p4), .second, .val (.long p5), .second, .val (.int p6), .val (.int b1), .val (.int b2), .val (.ref sd), .val (.long q), .second, .val (.long pp), .second, .val (.long (p5 >>> ((32 : Int32) &&& 0x3f).toInt64)), .second, .val (.ref r1), .val (.ref r2), .val (.ref b267), .val (.long cm), .second, .val (.long av), .second, .val (.long lv), .second] [(.long cm), (.long a.1)]))
                  refine FinP.st (fun _ => XS.lcmp X286.here hx rfl (Jvm.hb hby at_248) rfl) ?_
                  show FinP p e below s _ _ _ (T286.setTop (mkF m 249 #[.val (.long p1), .second, .val (.long p2), .second, .val (.long p3), .second, .val (.long p4), .second, .val (.long p5), .second, .val (.int p6), .val (.int b1), .val (.int b2), .val (.ref sd), .val (.long q), .second, .val (.long pp), .second, .val (.long (p5 >>> ((32 : Int32) &&& 0x3f).toInt64)), .second, .val (.ref r1), .val (.ref r2), .val (.ref b267), .val (.long cm), .second, .val (.long av), .second, .val (.long lv), .second] [(.int (lcmpW a.1 cm))]))
                  refine FinP.st (fun _ => XS.ifNo X286.here hx rfl (Jvm.hb hby at_249) rfl (zneN ((lw_eq _ _).mpr hcm.symm))) ?_
                  show FinP p e below s _ _ _ (T286.setTop (mkF m 252 #[.val (.long p1), .second, .val (.long p2), .second, .val (.long p3), .second, .val (.long p4), .second, .val (.long p5), .second, .val (.int p6), .val (.int b1), .val (.int b2), .val (.ref sd), .val (.long q), .second, .val (.long pp), .second, .val (.long (p5 >>> ((32 : Int32) &&& 0x3f).toInt64)), .second, .val (.ref r1), .val (.ref r2), .val (.ref b267), .val (.long cm), .second, .val (.long av), .second, .val (.long lv), .second] []))
                  refine FinP.st (fun _ => XS.aload X286.here hx rfl (Jvm.hb hby at_252) rfl rfl) ?_
                  show FinP p e below s _ _ _ (T286.setTop (mkF m 254 #[.val (.long p1), .second, .val (.long p2), .second, .val (.long p3), .second, .val (.long p4), .second, .val (.long p5), .second, .val (.int p6), .val (.int b1), .val (.int b2), .val (.ref sd), .val (.long q), .second, .val (.long pp), .second, .val (.long (p5 >>> ((32 : Int32) &&& 0x3f).toInt64)), .second, .val (.ref r1), .val (.ref r2), .val (.ref b267), .val (.long cm), .second, .val (.long av), .second, .val (.long lv), .second] [(.ref b267)]))
                  obtain ⟨_, T287, h287, L287, X287, e287, ⟨rfl, rfl, q287⟩, st287⟩ := goV X286 hx hZ hown (hw _ (List.mem_of_getElem? (i := 79) rfl)) (hw _ (List.mem_of_getElem? (i := 80) rfl)) (hw _ (List.mem_of_getElem? (i := 82) rfl)) (notFace_of_selects (args := #[]) (mvT hZ (hw _ (List.mem_of_getElem? (i := 82) rfl)))) (hw _ (List.mem_of_getElem? (i := 81) rfl)) (by decide) ((rm_leaves l Z a0 hw [] b267 p1 p2 p3 r2 a.1 b2 a.2 h276 n0 f277 P276 ).pay (W := 0) hZ (hw _ (List.mem_of_getElem? (i := 83) rfl)) (hw _ (List.mem_of_getElem? (i := 14) rfl)) (by decide) (by decide)) e286 P276.1 (g := (mkF m 254 #[.val (.long p1), .second, .val (.long p2), .second, .val (.long p3), .second, .val (.long p4), .second, .val (.long p5), .second, .val (.int p6), .val (.int b1), .val (.int b2), .val (.ref sd), .val (.long q), .second, .val (.long pp), .second, .val (.long (p5 >>> ((32 : Int32) &&& 0x3f).toInt64)), .second, .val (.ref r1), .val (.ref r2), .val (.ref b267), .val (.long cm), .second, .val (.long av), .second, .val (.long lv), .second] [(.ref b267)])) rfl (by rw [hml]; rfl) [] [] (lenOf pd_6 rfl) rfl (by show 2 * 0 + _ ≤ _; exact Nat.le_of_eq rfl) (Jvm.hb hby at_254) rfl (by decide) (by decide)
                  have e287 := e287.trans q287
                  have N287 := N286.app (Fr.nil n0)
                  refine FinP.st st287 ?_
                  show FinP p e below s _ _ _ (T287.setTop (mkF m 257 #[.val (.long p1), .second, .val (.long p2), .second, .val (.long p3), .second, .val (.long p4), .second, .val (.long p5), .second, .val (.int p6), .val (.int b1), .val (.int b2), .val (.ref sd), .val (.long q), .second, .val (.long pp), .second, .val (.long (p5 >>> ((32 : Int32) &&& 0x3f).toInt64)), .second, .val (.ref r1), .val (.ref r2), .val (.ref b267), .val (.long cm), .second, .val (.long av), .second, .val (.long lv), .second] [(.long (if b2 = 0 then p3 - a.1 else 0))]))
                  refine FinP.st (fun _ => XS.lload X287.here hx rfl (Jvm.hb hby at_257) rfl) ?_
                  show FinP p e below s _ _ _ (T287.setTop (mkF m 259 #[.val (.long p1), .second, .val (.long p2), .second, .val (.long p3), .second, .val (.long p4), .second, .val (.long p5), .second, .val (.int p6), .val (.int b1), .val (.int b2), .val (.ref sd), .val (.long q), .second, .val (.long pp), .second, .val (.long (p5 >>> ((32 : Int32) &&& 0x3f).toInt64)), .second, .val (.ref r1), .val (.ref r2), .val (.ref b267), .val (.long cm), .second, .val (.long av), .second, .val (.long lv), .second] [(.long lv), (.long (if b2 = 0 then p3 - a.1 else 0))]))
                  refine FinP.st (fun _ => XS.lcmp X287.here hx rfl (Jvm.hb hby at_259) rfl) ?_
                  show FinP p e below s _ _ _ (T287.setTop (mkF m 260 #[.val (.long p1), .second, .val (.long p2), .second, .val (.long p3), .second, .val (.long p4), .second, .val (.long p5), .second, .val (.int p6), .val (.int b1), .val (.int b2), .val (.ref sd), .val (.long q), .second, .val (.long pp), .second, .val (.long (p5 >>> ((32 : Int32) &&& 0x3f).toInt64)), .second, .val (.ref r1), .val (.ref r2), .val (.ref b267), .val (.long cm), .second, .val (.long av), .second, .val (.long lv), .second] [(.int (lcmpW (if b2 = 0 then p3 - a.1 else 0) lv))]))
                  refine FinP.st (fun _ => XS.ifNo X287.here hx rfl (Jvm.hb hby at_260) rfl (zneN ((lw_eq _ _).mpr hlv.symm))) ?_
                  show FinP p e below s _ _ _ (T287.setTop (mkF m 263 #[.val (.long p1), .second, .val (.long p2), .second, .val (.long p3), .second, .val (.long p4), .second, .val (.long p5), .second, .val (.int p6), .val (.int b1), .val (.int b2), .val (.ref sd), .val (.long q), .second, .val (.long pp), .second, .val (.long (p5 >>> ((32 : Int32) &&& 0x3f).toInt64)), .second, .val (.ref r1), .val (.ref r2), .val (.ref b267), .val (.long cm), .second, .val (.long av), .second, .val (.long lv), .second] []))
                  refine FinP.st (fun _ => XS.aload X287.here hx rfl (Jvm.hb hby at_263) rfl rfl) ?_
                  show FinP p e below s _ _ _ (T287.setTop (mkF m 265 #[.val (.long p1), .second, .val (.long p2), .second, .val (.long p3), .second, .val (.long p4), .second, .val (.long p5), .second, .val (.int p6), .val (.int b1), .val (.int b2), .val (.ref sd), .val (.long q), .second, .val (.long pp), .second, .val (.long (p5 >>> ((32 : Int32) &&& 0x3f).toInt64)), .second, .val (.ref r1), .val (.ref r2), .val (.ref b267), .val (.long cm), .second, .val (.long av), .second, .val (.long lv), .second] [(.ref b267)]))
                  rcases hav with ⟨hz, rfl⟩ | ⟨hz, hav2, hz2⟩
                  · skip
                    show FinP p e below s _ _ _ (T287.setTop (mkF m 265 #[.val (.long p1), .second, .val (.long p2), .second, .val (.long p3), .second, .val (.long p4), .second, .val (.long p5), .second, .val (.int p6), .val (.int b1), .val (.int b2), .val (.ref sd), .val (.long q), .second, .val (.long pp), .second, .val (.long (p5 >>> ((32 : Int32) &&& 0x3f).toInt64)), .second, .val (.ref r1), .val (.ref r2), .val (.ref b267), .val (.long cm), .second, .val (.long (0 : Int64)), .second, .val (.long lv), .second] [(.ref b267)]))
                    obtain ⟨_, T288, h288, L288, X288, e288, ⟨rfl, rfl, q288⟩, st288⟩ := goV X287 hx hZ hown (hw _ (List.mem_of_getElem? (i := 84) rfl)) (hw _ (List.mem_of_getElem? (i := 85) rfl)) (hw _ (List.mem_of_getElem? (i := 87) rfl)) (notFace_of_selects (args := #[]) (mvT hZ (hw _ (List.mem_of_getElem? (i := 87) rfl)))) (hw _ (List.mem_of_getElem? (i := 86) rfl)) (by decide) ((rm_avg0 l Z a0 hw [] b267 p1 p2 p3 r2 a.1 b2 a.2 h276 n0 f277 P276 hz).pay (W := 0) hZ (hw _ (List.mem_of_getElem? (i := 88) rfl)) (hw _ (List.mem_of_getElem? (i := 14) rfl)) (by decide) (by decide)) e287 P276.1 (g := (mkF m 265 #[.val (.long p1), .second, .val (.long p2), .second, .val (.long p3), .second, .val (.long p4), .second, .val (.long p5), .second, .val (.int p6), .val (.int b1), .val (.int b2), .val (.ref sd), .val (.long q), .second, .val (.long pp), .second, .val (.long (p5 >>> ((32 : Int32) &&& 0x3f).toInt64)), .second, .val (.ref r1), .val (.ref r2), .val (.ref b267), .val (.long cm), .second, .val (.long (0 : Int64)), .second, .val (.long lv), .second] [(.ref b267)])) rfl (by rw [hml]; rfl) [] [] (lenOf pd_6 rfl) rfl (by show 2 * 0 + _ ≤ _; exact Nat.le_of_eq rfl) (Jvm.hb hby at_265) rfl (by decide) (by decide)
                    have e288 := e288.trans q288
                    have N288 := N287.app (Fr.nil n0)
                    refine FinP.st st288 ?_
                    show FinP p e below s _ _ _ (T288.setTop (mkF m 268 #[.val (.long p1), .second, .val (.long p2), .second, .val (.long p3), .second, .val (.long p4), .second, .val (.long p5), .second, .val (.int p6), .val (.int b1), .val (.int b2), .val (.ref sd), .val (.long q), .second, .val (.long pp), .second, .val (.long (p5 >>> ((32 : Int32) &&& 0x3f).toInt64)), .second, .val (.ref r1), .val (.ref r2), .val (.ref b267), .val (.long cm), .second, .val (.long (0 : Int64)), .second, .val (.long lv), .second] [(.long (0 : Int64))]))
                    refine FinP.st (fun _ => XS.lload X288.here hx rfl (Jvm.hb hby at_268) rfl) ?_
                    show FinP p e below s _ _ _ (T288.setTop (mkF m 270 #[.val (.long p1), .second, .val (.long p2), .second, .val (.long p3), .second, .val (.long p4), .second, .val (.long p5), .second, .val (.int p6), .val (.int b1), .val (.int b2), .val (.ref sd), .val (.long q), .second, .val (.long pp), .second, .val (.long (p5 >>> ((32 : Int32) &&& 0x3f).toInt64)), .second, .val (.ref r1), .val (.ref r2), .val (.ref b267), .val (.long cm), .second, .val (.long (0 : Int64)), .second, .val (.long lv), .second] [(.long (0 : Int64)), (.long (0 : Int64))]))
                    refine FinP.st (fun _ => XS.lcmp X288.here hx rfl (Jvm.hb hby at_270) rfl) ?_
                    show FinP p e below s _ _ _ (T288.setTop (mkF m 271 #[.val (.long p1), .second, .val (.long p2), .second, .val (.long p3), .second, .val (.long p4), .second, .val (.long p5), .second, .val (.int p6), .val (.int b1), .val (.int b2), .val (.ref sd), .val (.long q), .second, .val (.long pp), .second, .val (.long (p5 >>> ((32 : Int32) &&& 0x3f).toInt64)), .second, .val (.ref r1), .val (.ref r2), .val (.ref b267), .val (.long cm), .second, .val (.long (0 : Int64)), .second, .val (.long lv), .second] [(.int (lcmpW (0 : Int64) (0 : Int64)))]))
                    refine FinP.st (fun _ => XS.ifNo X288.here hx rfl (Jvm.hb hby at_271) rfl (zneN ((lw_eq _ _).mpr rfl))) ?_
                    show FinP p e below s _ _ _ (T288.setTop (mkF m 274 #[.val (.long p1), .second, .val (.long p2), .second, .val (.long p3), .second, .val (.long p4), .second, .val (.long p5), .second, .val (.int p6), .val (.int b1), .val (.int b2), .val (.ref sd), .val (.long q), .second, .val (.long pp), .second, .val (.long (p5 >>> ((32 : Int32) &&& 0x3f).toInt64)), .second, .val (.ref r1), .val (.ref r2), .val (.ref b267), .val (.long cm), .second, .val (.long (0 : Int64)), .second, .val (.long lv), .second] []))
                    refine FinP.st (fun _ => XS.iconst X288.here hx rfl (Jvm.hb hby at_274)) ?_
                    show FinP p e below s _ _ _ (T288.setTop (mkF m 275 #[.val (.long p1), .second, .val (.long p2), .second, .val (.long p3), .second, .val (.long p4), .second, .val (.long p5), .second, .val (.int p6), .val (.int b1), .val (.int b2), .val (.ref sd), .val (.long q), .second, .val (.long pp), .second, .val (.long (p5 >>> ((32 : Int32) &&& 0x3f).toInt64)), .second, .val (.ref r1), .val (.ref r2), .val (.ref b267), .val (.long cm), .second, .val (.long (0 : Int64)), .second, .val (.long lv), .second] [(.int (1 : Int32))]))
                    refine FinP.st (fun _ => XS.goto X288.here hx rfl (pc0 := 275) (pc' := 279) rfl (Jvm.hb hby at_275) (by decide) (by decide)) ?_
                    show FinP p e below s _ _ _ (T288.setTop (mkF m 279 #[.val (.long p1), .second, .val (.long p2), .second, .val (.long p3), .second, .val (.long p4), .second, .val (.long p5), .second, .val (.int p6), .val (.int b1), .val (.int b2), .val (.ref sd), .val (.long q), .second, .val (.long pp), .second, .val (.long (p5 >>> ((32 : Int32) &&& 0x3f).toInt64)), .second, .val (.ref r1), .val (.ref r2), .val (.ref b267), .val (.long cm), .second, .val (.long (0 : Int64)), .second, .val (.long lv), .second] [(.int (1 : Int32))]))
                    exact finN X288 hx hlk hret (t := .boolean) (by simp) (Jvm.hb hby at_279) e288 ⟨rfl, N288⟩ (by decide) (by decide)
                  · rw [hav2]
                    show FinP p e below s _ _ _ (T287.setTop (mkF m 265 #[.val (.long p1), .second, .val (.long p2), .second, .val (.long p3), .second, .val (.long p4), .second, .val (.long p5), .second, .val (.int p6), .val (.int b1), .val (.int b2), .val (.ref sd), .val (.long q), .second, .val (.long pp), .second, .val (.long (p5 >>> ((32 : Int32) &&& 0x3f).toInt64)), .second, .val (.ref r1), .val (.ref r2), .val (.ref b267), .val (.long cm), .second, .val (.long pp), .second, .val (.long lv), .second] [(.ref b267)]))
                    have hav := avg_ok lq uq lp up (hz2.1 ▸ hz)
                    obtain ⟨_, T289, h289, L289, X289, e289, ⟨rfl, rfl, q289⟩, st289⟩ := goV X287 hx hZ hown (hw _ (List.mem_of_getElem? (i := 84) rfl)) (hw _ (List.mem_of_getElem? (i := 85) rfl)) (hw _ (List.mem_of_getElem? (i := 87) rfl)) (notFace_of_selects (args := #[]) (mvT hZ (hw _ (List.mem_of_getElem? (i := 87) rfl)))) (hw _ (List.mem_of_getElem? (i := 86) rfl)) (by decide) ((rm_avg1 l Z a0 hw [] b267 p1 p2 p3 r2 a.1 b2 a.2 pp h276 n0 f277 P276 hz (by rw [hz2.1]; exact hav.1) (by rw [hz2.1, hz2.2]; exact hav.2.1) (by rw [hz2.1, hz2.2]; exact hav.2.2)).pay (W := 0) hZ (hw _ (List.mem_of_getElem? (i := 88) rfl)) (hw _ (List.mem_of_getElem? (i := 14) rfl)) (by decide) (by decide)) e287 P276.1 (g := (mkF m 265 #[.val (.long p1), .second, .val (.long p2), .second, .val (.long p3), .second, .val (.long p4), .second, .val (.long p5), .second, .val (.int p6), .val (.int b1), .val (.int b2), .val (.ref sd), .val (.long q), .second, .val (.long pp), .second, .val (.long (p5 >>> ((32 : Int32) &&& 0x3f).toInt64)), .second, .val (.ref r1), .val (.ref r2), .val (.ref b267), .val (.long cm), .second, .val (.long pp), .second, .val (.long lv), .second] [(.ref b267)])) rfl (by rw [hml]; rfl) [] [] (lenOf pd_6 rfl) rfl (by show 2 * 0 + _ ≤ _; exact Nat.le_of_eq rfl) (Jvm.hb hby at_265) rfl (by decide) (by decide)
                    have e289 := e289.trans q289
                    have N289 := N287.app (Fr.nil n0)
                    refine FinP.st st289 ?_
                    show FinP p e below s _ _ _ (T289.setTop (mkF m 268 #[.val (.long p1), .second, .val (.long p2), .second, .val (.long p3), .second, .val (.long p4), .second, .val (.long p5), .second, .val (.int p6), .val (.int b1), .val (.int b2), .val (.ref sd), .val (.long q), .second, .val (.long pp), .second, .val (.long (p5 >>> ((32 : Int32) &&& 0x3f).toInt64)), .second, .val (.ref r1), .val (.ref r2), .val (.ref b267), .val (.long cm), .second, .val (.long pp), .second, .val (.long lv), .second] [(.long pp)]))
                    refine FinP.st (fun _ => XS.lload X289.here hx rfl (Jvm.hb hby at_268) rfl) ?_
                    show FinP p e below s _ _ _ (T289.setTop (mkF m 270 #[.val (.long p1), .second, .val (.long p2), .second, .val (.long p3), .second, .val (.long p4), .second, .val (.long p5), .second, .val (.int p6), .val (.int b1), .val (.int b2), .val (.ref sd), .val (.long q), .second, .val (.long pp), .second, .val (.long (p5 >>> ((32 : Int32) &&& 0x3f).toInt64)), .second, .val (.ref r1), .val (.ref r2), .val (.ref b267), .val (.long cm), .second, .val (.long pp), .second, .val (.long lv), .second] [(.long pp), (.long pp)]))
                    refine FinP.st (fun _ => XS.lcmp X289.here hx rfl (Jvm.hb hby at_270) rfl) ?_
                    show FinP p e below s _ _ _ (T289.setTop (mkF m 271 #[.val (.long p1), .second, .val (.long p2), .second, .val (.long p3), .second, .val (.long p4), .second, .val (.long p5), .second, .val (.int p6), .val (.int b1), .val (.int b2), .val (.ref sd), .val (.long q), .second, .val (.long pp), .second, .val (.long (p5 >>> ((32 : Int32) &&& 0x3f).toInt64)), .second, .val (.ref r1), .val (.ref r2), .val (.ref b267), .val (.long cm), .second, .val (.long pp), .second, .val (.long lv), .second] [(.int (lcmpW pp pp))]))
                    refine FinP.st (fun _ => XS.ifNo X289.here hx rfl (Jvm.hb hby at_271) rfl (zneN ((lw_eq _ _).mpr rfl))) ?_
                    show FinP p e below s _ _ _ (T289.setTop (mkF m 274 #[.val (.long p1), .second, .val (.long p2), .second, .val (.long p3), .second, .val (.long p4), .second, .val (.long p5), .second, .val (.int p6), .val (.int b1), .val (.int b2), .val (.ref sd), .val (.long q), .second, .val (.long pp), .second, .val (.long (p5 >>> ((32 : Int32) &&& 0x3f).toInt64)), .second, .val (.ref r1), .val (.ref r2), .val (.ref b267), .val (.long cm), .second, .val (.long pp), .second, .val (.long lv), .second] []))
                    refine FinP.st (fun _ => XS.iconst X289.here hx rfl (Jvm.hb hby at_274)) ?_
                    show FinP p e below s _ _ _ (T289.setTop (mkF m 275 #[.val (.long p1), .second, .val (.long p2), .second, .val (.long p3), .second, .val (.long p4), .second, .val (.long p5), .second, .val (.int p6), .val (.int b1), .val (.int b2), .val (.ref sd), .val (.long q), .second, .val (.long pp), .second, .val (.long (p5 >>> ((32 : Int32) &&& 0x3f).toInt64)), .second, .val (.ref r1), .val (.ref r2), .val (.ref b267), .val (.long cm), .second, .val (.long pp), .second, .val (.long lv), .second] [(.int (1 : Int32))]))
                    refine FinP.st (fun _ => XS.goto X289.here hx rfl (pc0 := 275) (pc' := 279) rfl (Jvm.hb hby at_275) (by decide) (by decide)) ?_
                    show FinP p e below s _ _ _ (T289.setTop (mkF m 279 #[.val (.long p1), .second, .val (.long p2), .second, .val (.long p3), .second, .val (.long p4), .second, .val (.long p5), .second, .val (.int p6), .val (.int b1), .val (.int b2), .val (.ref sd), .val (.long q), .second, .val (.long pp), .second, .val (.long (p5 >>> ((32 : Int32) &&& 0x3f).toInt64)), .second, .val (.ref r1), .val (.ref r2), .val (.ref b267), .val (.long cm), .second, .val (.long pp), .second, .val (.long lv), .second] [(.int (1 : Int32))]))
                    exact finN X289 hx hlk hret (t := .boolean) (by simp) (Jvm.hb hby at_279) e289 ⟨rfl, N289⟩ (by decide) (by decide)
                intro j191
                by_cases f191 : b2 = (0 : Int32)
                · skip
                  refine FinP.st (fun _ => XS.ifYes X276.here hx rfl (pc0 := 179) (pc' := 186) rfl (Jvm.hb hby at_179) rfl (zeq f191) (by decide) (by decide)) ?_
                  show FinP p e below s _ _ _ (T276.setTop (mkF m 186 #[.val (.long p1), .second, .val (.long p2), .second, .val (.long p3), .second, .val (.long p4), .second, .val (.long p5), .second, .val (.int p6), .val (.int b1), .val (.int b2), .val (.ref sd), .val (.long q), .second, .val (.long pp), .second, .val (.long (p5 >>> ((32 : Int32) &&& 0x3f).toInt64)), .second, .val (.ref r1), .val (.ref r2), .val (.ref b267), .val (.long cm), .second, .val (.long av), .second, .unset, .unset] []))
                  refine FinP.st (fun _ => XS.lload X276.here hx rfl (Jvm.hb hby at_186) rfl) ?_
                  show FinP p e below s _ _ _ (T276.setTop (mkF m 188 #[.val (.long p1), .second, .val (.long p2), .second, .val (.long p3), .second, .val (.long p4), .second, .val (.long p5), .second, .val (.int p6), .val (.int b1), .val (.int b2), .val (.ref sd), .val (.long q), .second, .val (.long pp), .second, .val (.long (p5 >>> ((32 : Int32) &&& 0x3f).toInt64)), .second, .val (.ref r1), .val (.ref r2), .val (.ref b267), .val (.long cm), .second, .val (.long av), .second, .unset, .unset] [(.long p3)]))
                  refine FinP.st (fun _ => XS.lload X276.here hx rfl (Jvm.hb hby at_188) rfl) ?_
                  show FinP p e below s _ _ _ (T276.setTop (mkF m 190 #[.val (.long p1), .second, .val (.long p2), .second, .val (.long p3), .second, .val (.long p4), .second, .val (.long p5), .second, .val (.int p6), .val (.int b1), .val (.int b2), .val (.ref sd), .val (.long q), .second, .val (.long pp), .second, .val (.long (p5 >>> ((32 : Int32) &&& 0x3f).toInt64)), .second, .val (.ref r1), .val (.ref r2), .val (.ref b267), .val (.long cm), .second, .val (.long av), .second, .unset, .unset] [(.long cm), (.long p3)]))
                  refine FinP.st (fun _ => XS.lsub X276.here hx rfl (Jvm.hb hby at_190) rfl) ?_
                  show FinP p e below s _ _ _ (T276.setTop (mkF m 191 #[.val (.long p1), .second, .val (.long p2), .second, .val (.long p3), .second, .val (.long p4), .second, .val (.long p5), .second, .val (.int p6), .val (.int b1), .val (.int b2), .val (.ref sd), .val (.long q), .second, .val (.long pp), .second, .val (.long (p5 >>> ((32 : Int32) &&& 0x3f).toInt64)), .second, .val (.ref r1), .val (.ref r2), .val (.ref b267), .val (.long cm), .second, .val (.long av), .second, .unset, .unset] [(.long (p3 - cm))]))
                  exact j191 _ (by rw [if_pos f191, hcm])
                · skip
                  refine FinP.st (fun _ => XS.ifNo X276.here hx rfl (Jvm.hb hby at_179) rfl (zeqN f191)) ?_
                  show FinP p e below s _ _ _ (T276.setTop (mkF m 182 #[.val (.long p1), .second, .val (.long p2), .second, .val (.long p3), .second, .val (.long p4), .second, .val (.long p5), .second, .val (.int p6), .val (.int b1), .val (.int b2), .val (.ref sd), .val (.long q), .second, .val (.long pp), .second, .val (.long (p5 >>> ((32 : Int32) &&& 0x3f).toInt64)), .second, .val (.ref r1), .val (.ref r2), .val (.ref b267), .val (.long cm), .second, .val (.long av), .second, .unset, .unset] []))
                  refine FinP.st (fun _ => XS.lconst X276.here hx rfl (Jvm.hb hby at_182)) ?_
                  show FinP p e below s _ _ _ (T276.setTop (mkF m 183 #[.val (.long p1), .second, .val (.long p2), .second, .val (.long p3), .second, .val (.long p4), .second, .val (.long p5), .second, .val (.int p6), .val (.int b1), .val (.int b2), .val (.ref sd), .val (.long q), .second, .val (.long pp), .second, .val (.long (p5 >>> ((32 : Int32) &&& 0x3f).toInt64)), .second, .val (.ref r1), .val (.ref r2), .val (.ref b267), .val (.long cm), .second, .val (.long av), .second, .unset, .unset] [(.long (0 : Int64))]))
                  refine FinP.st (fun _ => XS.goto X276.here hx rfl (pc0 := 183) (pc' := 191) rfl (Jvm.hb hby at_183) (by decide) (by decide)) ?_
                  show FinP p e below s _ _ _ (T276.setTop (mkF m 191 #[.val (.long p1), .second, .val (.long p2), .second, .val (.long p3), .second, .val (.long p4), .second, .val (.long p5), .second, .val (.int p6), .val (.int b1), .val (.int b2), .val (.ref sd), .val (.long q), .second, .val (.long pp), .second, .val (.long (p5 >>> ((32 : Int32) &&& 0x3f).toInt64)), .second, .val (.ref r1), .val (.ref r2), .val (.ref b267), .val (.long cm), .second, .val (.long av), .second, .unset, .unset] [(.long (0 : Int64))]))
                  exact j191 _ (by rw [if_neg f191]; try rfl)
              intro j175
              by_cases f159 : b1 = (0 : Int32)
              · skip
                refine FinP.st (fun _ => XS.ifYes X276.here hx rfl (pc0 := 159) (pc' := 174) rfl (Jvm.hb hby at_159) rfl (zeq f159) (by decide) (by decide)) ?_
                show FinP p e below s _ _ _ (T276.setTop (mkF m 174 #[.val (.long p1), .second, .val (.long p2), .second, .val (.long p3), .second, .val (.long p4), .second, .val (.long p5), .second, .val (.int p6), .val (.int b1), .val (.int b2), .val (.ref sd), .val (.long q), .second, .val (.long pp), .second, .val (.long (p5 >>> ((32 : Int32) &&& 0x3f).toInt64)), .second, .val (.ref r1), .val (.ref r2), .val (.ref b267), .val (.long cm), .second, .unset, .unset, .unset, .unset] []))
                refine FinP.st (fun _ => XS.lconst X276.here hx rfl (Jvm.hb hby at_174)) ?_
                show FinP p e below s _ _ _ (T276.setTop (mkF m 175 #[.val (.long p1), .second, .val (.long p2), .second, .val (.long p3), .second, .val (.long p4), .second, .val (.long p5), .second, .val (.int p6), .val (.int b1), .val (.int b2), .val (.ref sd), .val (.long q), .second, .val (.long pp), .second, .val (.long (p5 >>> ((32 : Int32) &&& 0x3f).toInt64)), .second, .val (.ref r1), .val (.ref r2), .val (.ref b267), .val (.long cm), .second, .unset, .unset, .unset, .unset] [(.long (0 : Int64))]))
                exact j175 _ (Or.inl ⟨by rcases ha with z | z; exact z.2.1; exact absurd (z.1.symm.trans f159) (by decide), rfl⟩)
              · skip
                refine FinP.st (fun _ => XS.ifNo X276.here hx rfl (Jvm.hb hby at_159) rfl (zeqN f159)) ?_
                show FinP p e below s _ _ _ (T276.setTop (mkF m 162 #[.val (.long p1), .second, .val (.long p2), .second, .val (.long p3), .second, .val (.long p4), .second, .val (.long p5), .second, .val (.int p6), .val (.int b1), .val (.int b2), .val (.ref sd), .val (.long q), .second, .val (.long pp), .second, .val (.long (p5 >>> ((32 : Int32) &&& 0x3f).toInt64)), .second, .val (.ref r1), .val (.ref r2), .val (.ref b267), .val (.long cm), .second, .unset, .unset, .unset, .unset] []))
                refine FinP.st (fun _ => XS.lload X276.here hx rfl (Jvm.hb hby at_162) rfl) ?_
                show FinP p e below s _ _ _ (T276.setTop (mkF m 164 #[.val (.long p1), .second, .val (.long p2), .second, .val (.long p3), .second, .val (.long p4), .second, .val (.long p5), .second, .val (.int p6), .val (.int b1), .val (.int b2), .val (.ref sd), .val (.long q), .second, .val (.long pp), .second, .val (.long (p5 >>> ((32 : Int32) &&& 0x3f).toInt64)), .second, .val (.ref r1), .val (.ref r2), .val (.ref b267), .val (.long cm), .second, .unset, .unset, .unset, .unset] [(.long q)]))
                refine FinP.st (fun _ => XS.lconst X276.here hx rfl (Jvm.hb hby at_164)) ?_
                show FinP p e below s _ _ _ (T276.setTop (mkF m 165 #[.val (.long p1), .second, .val (.long p2), .second, .val (.long p3), .second, .val (.long p4), .second, .val (.long p5), .second, .val (.int p6), .val (.int b1), .val (.int b2), .val (.ref sd), .val (.long q), .second, .val (.long pp), .second, .val (.long (p5 >>> ((32 : Int32) &&& 0x3f).toInt64)), .second, .val (.ref r1), .val (.ref r2), .val (.ref b267), .val (.long cm), .second, .unset, .unset, .unset, .unset] [(.long (0 : Int64)), (.long q)]))
                refine FinP.st (fun _ => XS.lcmp X276.here hx rfl (Jvm.hb hby at_165) rfl) ?_
                show FinP p e below s _ _ _ (T276.setTop (mkF m 166 #[.val (.long p1), .second, .val (.long p2), .second, .val (.long p3), .second, .val (.long p4), .second, .val (.long p5), .second, .val (.int p6), .val (.int b1), .val (.int b2), .val (.ref sd), .val (.long q), .second, .val (.long pp), .second, .val (.long (p5 >>> ((32 : Int32) &&& 0x3f).toInt64)), .second, .val (.ref r1), .val (.ref r2), .val (.ref b267), .val (.long cm), .second, .unset, .unset, .unset, .unset] [(.int (lcmpW q (0 : Int64)))]))
                have ha1 := (ha.resolve_left (fun z => f159 z.1)).2
                by_cases f166 : (lcmpW q (0 : Int64)) = (0 : Int32)
                · skip
                  refine FinP.st (fun _ => XS.ifYes X276.here hx rfl (pc0 := 166) (pc' := 174) rfl (Jvm.hb hby at_166) rfl (zeq f166) (by decide) (by decide)) ?_
                  show FinP p e below s _ _ _ (T276.setTop (mkF m 174 #[.val (.long p1), .second, .val (.long p2), .second, .val (.long p3), .second, .val (.long p4), .second, .val (.long p5), .second, .val (.int p6), .val (.int b1), .val (.int b2), .val (.ref sd), .val (.long q), .second, .val (.long pp), .second, .val (.long (p5 >>> ((32 : Int32) &&& 0x3f).toInt64)), .second, .val (.ref r1), .val (.ref r2), .val (.ref b267), .val (.long cm), .second, .unset, .unset, .unset, .unset] []))
                  refine FinP.st (fun _ => XS.lconst X276.here hx rfl (Jvm.hb hby at_174)) ?_
                  show FinP p e below s _ _ _ (T276.setTop (mkF m 175 #[.val (.long p1), .second, .val (.long p2), .second, .val (.long p3), .second, .val (.long p4), .second, .val (.long p5), .second, .val (.int p6), .val (.int b1), .val (.int b2), .val (.ref sd), .val (.long q), .second, .val (.long pp), .second, .val (.long (p5 >>> ((32 : Int32) &&& 0x3f).toInt64)), .second, .val (.ref r1), .val (.ref r2), .val (.ref b267), .val (.long cm), .second, .unset, .unset, .unset, .unset] [(.long (0 : Int64))]))
                  exact j175 _ (Or.inl ⟨ha1.1.trans ((lw_eq _ _).mp f166), rfl⟩)
                · skip
                  refine FinP.st (fun _ => XS.ifNo X276.here hx rfl (Jvm.hb hby at_166) rfl (zeqN f166)) ?_
                  show FinP p e below s _ _ _ (T276.setTop (mkF m 169 #[.val (.long p1), .second, .val (.long p2), .second, .val (.long p3), .second, .val (.long p4), .second, .val (.long p5), .second, .val (.int p6), .val (.int b1), .val (.int b2), .val (.ref sd), .val (.long q), .second, .val (.long pp), .second, .val (.long (p5 >>> ((32 : Int32) &&& 0x3f).toInt64)), .second, .val (.ref r1), .val (.ref r2), .val (.ref b267), .val (.long cm), .second, .unset, .unset, .unset, .unset] []))
                  refine FinP.st (fun _ => XS.lload X276.here hx rfl (Jvm.hb hby at_169) rfl) ?_
                  show FinP p e below s _ _ _ (T276.setTop (mkF m 171 #[.val (.long p1), .second, .val (.long p2), .second, .val (.long p3), .second, .val (.long p4), .second, .val (.long p5), .second, .val (.int p6), .val (.int b1), .val (.int b2), .val (.ref sd), .val (.long q), .second, .val (.long pp), .second, .val (.long (p5 >>> ((32 : Int32) &&& 0x3f).toInt64)), .second, .val (.ref r1), .val (.ref r2), .val (.ref b267), .val (.long cm), .second, .unset, .unset, .unset, .unset] [(.long pp)]))
                  refine FinP.st (fun _ => XS.goto X276.here hx rfl (pc0 := 171) (pc' := 175) rfl (Jvm.hb hby at_171) (by decide) (by decide)) ?_
                  show FinP p e below s _ _ _ (T276.setTop (mkF m 175 #[.val (.long p1), .second, .val (.long p2), .second, .val (.long p3), .second, .val (.long p4), .second, .val (.long p5), .second, .val (.int p6), .val (.int b1), .val (.int b2), .val (.ref sd), .val (.long q), .second, .val (.long pp), .second, .val (.long (p5 >>> ((32 : Int32) &&& 0x3f).toInt64)), .second, .val (.ref r1), .val (.ref r2), .val (.ref b267), .val (.long cm), .second, .unset, .unset, .unset, .unset] [(.long pp)]))
                  exact j175 _ (Or.inr ⟨fun z => f166 ((lw_eq _ _).mpr (ha1.1.symm.trans z)), rfl, ha1.1, ha1.2⟩)
            intro j155
            by_cases f146 : b1 = (0 : Int32)
            · skip
              refine FinP.st (fun _ => XS.ifYes X276.here hx rfl (pc0 := 146) (pc' := 154) rfl (Jvm.hb hby at_146) rfl (zeq f146) (by decide) (by decide)) ?_
              show FinP p e below s _ _ _ (T276.setTop (mkF m 154 #[.val (.long p1), .second, .val (.long p2), .second, .val (.long p3), .second, .val (.long p4), .second, .val (.long p5), .second, .val (.int p6), .val (.int b1), .val (.int b2), .val (.ref sd), .val (.long q), .second, .val (.long pp), .second, .val (.long (p5 >>> ((32 : Int32) &&& 0x3f).toInt64)), .second, .val (.ref r1), .val (.ref r2), .val (.ref b267), .unset, .unset, .unset, .unset, .unset, .unset] []))
              refine FinP.st (fun _ => XS.lconst X276.here hx rfl (Jvm.hb hby at_154)) ?_
              show FinP p e below s _ _ _ (T276.setTop (mkF m 155 #[.val (.long p1), .second, .val (.long p2), .second, .val (.long p3), .second, .val (.long p4), .second, .val (.long p5), .second, .val (.int p6), .val (.int b1), .val (.int b2), .val (.ref sd), .val (.long q), .second, .val (.long pp), .second, .val (.long (p5 >>> ((32 : Int32) &&& 0x3f).toInt64)), .second, .val (.ref r1), .val (.ref r2), .val (.ref b267), .unset, .unset, .unset, .unset, .unset, .unset] [(.long (0 : Int64))]))
              exact j155 _ (by rcases ha with z | z; exact z.2.1.symm; exact absurd (z.1.symm.trans f146) (by decide))
            · skip
              refine FinP.st (fun _ => XS.ifNo X276.here hx rfl (Jvm.hb hby at_146) rfl (zeqN f146)) ?_
              show FinP p e below s _ _ _ (T276.setTop (mkF m 149 #[.val (.long p1), .second, .val (.long p2), .second, .val (.long p3), .second, .val (.long p4), .second, .val (.long p5), .second, .val (.int p6), .val (.int b1), .val (.int b2), .val (.ref sd), .val (.long q), .second, .val (.long pp), .second, .val (.long (p5 >>> ((32 : Int32) &&& 0x3f).toInt64)), .second, .val (.ref r1), .val (.ref r2), .val (.ref b267), .unset, .unset, .unset, .unset, .unset, .unset] []))
              refine FinP.st (fun _ => XS.lload X276.here hx rfl (Jvm.hb hby at_149) rfl) ?_
              show FinP p e below s _ _ _ (T276.setTop (mkF m 151 #[.val (.long p1), .second, .val (.long p2), .second, .val (.long p3), .second, .val (.long p4), .second, .val (.long p5), .second, .val (.int p6), .val (.int b1), .val (.int b2), .val (.ref sd), .val (.long q), .second, .val (.long pp), .second, .val (.long (p5 >>> ((32 : Int32) &&& 0x3f).toInt64)), .second, .val (.ref r1), .val (.ref r2), .val (.ref b267), .unset, .unset, .unset, .unset, .unset, .unset] [(.long q)]))
              refine FinP.st (fun _ => XS.goto X276.here hx rfl (pc0 := 151) (pc' := 155) rfl (Jvm.hb hby at_151) (by decide) (by decide)) ?_
              show FinP p e below s _ _ _ (T276.setTop (mkF m 155 #[.val (.long p1), .second, .val (.long p2), .second, .val (.long p3), .second, .val (.long p4), .second, .val (.long p5), .second, .val (.int p6), .val (.int b1), .val (.int b2), .val (.ref sd), .val (.long q), .second, .val (.long pp), .second, .val (.long (p5 >>> ((32 : Int32) &&& 0x3f).toInt64)), .second, .val (.ref r1), .val (.ref r2), .val (.ref b267), .unset, .unset, .unset, .unset, .unset, .unset] [(.long q)]))
              exact j155 _ (ha.resolve_left (fun z => f146 z.1)).2.1.symm
          intro j133
          by_cases f125 : b2 = (0 : Int32)
          · skip
            refine FinP.st (fun _ => XS.ifYes X274.here hx rfl (pc0 := 125) (pc' := 133) rfl (Jvm.hb hby at_125) rfl (zeq f125) (by decide) (by decide)) ?_
            show FinP p e below s _ _ _ (T274.setTop (mkF m 133 #[.val (.long p1), .second, .val (.long p2), .second, .val (.long p3), .second, .val (.long p4), .second, .val (.long p5), .second, .val (.int p6), .val (.int b1), .val (.int b2), .val (.ref sd), .val (.long q), .second, .val (.long pp), .second, .val (.long (p5 >>> ((32 : Int32) &&& 0x3f).toInt64)), .second, .val (.ref r1), .val (.ref r2), .val (.ref b267), .unset, .unset, .unset, .unset, .unset, .unset] []))
            exact j133 () _ _ _ ⟨X274.more (by decide) (by decide), e274, N274, O274, trivial, G274_0, G274_1, (by rw [f125]; exact G274_2)⟩
          · skip
            refine FinP.st (fun _ => XS.ifNo X274.here hx rfl (Jvm.hb hby at_125) rfl (zeqN f125)) ?_
            show FinP p e below s _ _ _ (T274.setTop (mkF m 128 #[.val (.long p1), .second, .val (.long p2), .second, .val (.long p3), .second, .val (.long p4), .second, .val (.long p5), .second, .val (.int p6), .val (.int b1), .val (.int b2), .val (.ref sd), .val (.long q), .second, .val (.long pp), .second, .val (.long (p5 >>> ((32 : Int32) &&& 0x3f).toInt64)), .second, .val (.ref r1), .val (.ref r2), .val (.ref b267), .unset, .unset, .unset, .unset, .unset, .unset] []))
            refine FinP.st (fun _ => XS.aload X274.here hx rfl (Jvm.hb hby at_128) rfl rfl) ?_
            show FinP p e below s _ _ _ (T274.setTop (mkF m 130 #[.val (.long p1), .second, .val (.long p2), .second, .val (.long p3), .second, .val (.long p4), .second, .val (.long p5), .second, .val (.int p6), .val (.int b1), .val (.int b2), .val (.ref sd), .val (.long q), .second, .val (.long pp), .second, .val (.long (p5 >>> ((32 : Int32) &&& 0x3f).toInt64)), .second, .val (.ref r1), .val (.ref r2), .val (.ref b267), .unset, .unset, .unset, .unset, .unset, .unset] [(.ref b267)]))
            obtain ⟨_, T290, h290, L290, X290, e290, ⟨rfl, Nq290, K290, P290⟩, st290⟩ := goV X274 hx hZ hown (hw _ (List.mem_of_getElem? (i := 31) rfl)) (hw _ (List.mem_of_getElem? (i := 32) rfl)) (hw _ (List.mem_of_getElem? (i := 34) rfl)) (notFace_of_selects (args := #[]) (mvT hZ (hw _ (List.mem_of_getElem? (i := 34) rfl)))) (hw _ (List.mem_of_getElem? (i := 33) rfl)) (by decide) ((rmCancel l Z a0 hw [] b267 (p5 >>> ((32 : Int32) &&& 0x3f).toInt64) (pp + (1 : Int64)) (q + (1 : Int64)) r1 a.1 0 a.2 h274 n0 O274 ge267 G274_2).pay (W := 0) hZ (hw _ (List.mem_of_getElem? (i := 35) rfl)) (hw _ (List.mem_of_getElem? (i := 14) rfl)) (by decide) (by decide)) e274 G274_2.1 (g := (mkF m 130 #[.val (.long p1), .second, .val (.long p2), .second, .val (.long p3), .second, .val (.long p4), .second, .val (.long p5), .second, .val (.int p6), .val (.int b1), .val (.int b2), .val (.ref sd), .val (.long q), .second, .val (.long pp), .second, .val (.long (p5 >>> ((32 : Int32) &&& 0x3f).toInt64)), .second, .val (.ref r1), .val (.ref r2), .val (.ref b267), .unset, .unset, .unset, .unset, .unset, .unset] [(.ref b267)])) rfl (by rw [hml]; rfl) [] [] (lenOf pd_0 rfl) rfl (by show 2 * 0 + _ ≤ _; exact Nat.le_of_eq rfl) (Jvm.hb hby at_130) rfl (by decide) (by decide)
            have N290 := N274.app Nq290
            refine FinP.st st290 ?_
            show FinP p e below s _ _ _ (T290.setTop (mkF m 133 #[.val (.long p1), .second, .val (.long p2), .second, .val (.long p3), .second, .val (.long p4), .second, .val (.long p5), .second, .val (.int p6), .val (.int b1), .val (.int b2), .val (.ref sd), .val (.long q), .second, .val (.long pp), .second, .val (.long (p5 >>> ((32 : Int32) &&& 0x3f).toInt64)), .second, .val (.ref r1), .val (.ref r2), .val (.ref b267), .unset, .unset, .unset, .unset, .unset, .unset] []))
            have f291 := G274_0.keep K290
            have f292 := G274_1.keep K290 (ninS ne271 nin0)
            have f293 := O274.keep K290 (allS ge267 all0)
            exact j133 () _ _ _ ⟨X290.more (by decide) (by decide), e290, N290, f293, trivial, f291, f292, (by rw [hb2.resolve_left f125]; exact P290)⟩
        intro j123
        by_cases f111 : b1 = (0 : Int32)
        · skip
          refine FinP.st (fun _ => XS.ifYes X273.here hx rfl (pc0 := 111) (pc' := 123) rfl (Jvm.hb hby at_111) rfl (zeq f111) (by decide) (by decide)) ?_
          show FinP p e below s _ _ _ (T273.setTop (mkF m 123 #[.val (.long p1), .second, .val (.long p2), .second, .val (.long p3), .second, .val (.long p4), .second, .val (.long p5), .second, .val (.int p6), .val (.int b1), .val (.int b2), .val (.ref sd), .val (.long q), .second, .val (.long pp), .second, .val (.long (p5 >>> ((32 : Int32) &&& 0x3f).toInt64)), .second, .val (.ref r1), .val (.ref r2), .val (.ref b267), .unset, .unset, .unset, .unset, .unset, .unset] []))
          have f294 := E266.ext E267
          have f295 := f294.keep K273
          have f296 := F266.ext E267
          have f297 := f296.keep K273 (ninS ne271 nin0)
          have f298 := f272.keep K273 (allS ge267 all0)
          exact j123 ((0 : Int64), (0 : Int64)) _ _ _ ⟨X273.more (by decide) (by decide), e273, N273, f298, (Or.inl ⟨f111, rfl, rfl⟩), f295, f297, P273⟩
        · skip
          refine FinP.st (fun _ => XS.ifNo X273.here hx rfl (Jvm.hb hby at_111) rfl (zeqN f111)) ?_
          show FinP p e below s _ _ _ (T273.setTop (mkF m 114 #[.val (.long p1), .second, .val (.long p2), .second, .val (.long p3), .second, .val (.long p4), .second, .val (.long p5), .second, .val (.int p6), .val (.int b1), .val (.int b2), .val (.ref sd), .val (.long q), .second, .val (.long pp), .second, .val (.long (p5 >>> ((32 : Int32) &&& 0x3f).toInt64)), .second, .val (.ref r1), .val (.ref r2), .val (.ref b267), .unset, .unset, .unset, .unset, .unset, .unset] []))
          refine FinP.st (fun _ => XS.aload X273.here hx rfl (Jvm.hb hby at_114) rfl rfl) ?_
          show FinP p e below s _ _ _ (T273.setTop (mkF m 116 #[.val (.long p1), .second, .val (.long p2), .second, .val (.long p3), .second, .val (.long p4), .second, .val (.long p5), .second, .val (.int p6), .val (.int b1), .val (.int b2), .val (.ref sd), .val (.long q), .second, .val (.long pp), .second, .val (.long (p5 >>> ((32 : Int32) &&& 0x3f).toInt64)), .second, .val (.ref r1), .val (.ref r2), .val (.ref b267), .unset, .unset, .unset, .unset, .unset, .unset] [(.ref b267)]))
          refine FinP.st (fun _ => XS.lload X273.here hx rfl (Jvm.hb hby at_116) rfl) ?_
          show FinP p e below s _ _ _ (T273.setTop (mkF m 118 #[.val (.long p1), .second, .val (.long p2), .second, .val (.long p3), .second, .val (.long p4), .second, .val (.long p5), .second, .val (.int p6), .val (.int b1), .val (.int b2), .val (.ref sd), .val (.long q), .second, .val (.long pp), .second, .val (.long (p5 >>> ((32 : Int32) &&& 0x3f).toInt64)), .second, .val (.ref r1), .val (.ref r2), .val (.ref b267), .unset, .unset, .unset, .unset, .unset, .unset] [(.long q), (.ref b267)]))
          refine FinP.st (fun _ => XS.lload X273.here hx rfl (Jvm.hb hby at_118) rfl) ?_
          show FinP p e below s _ _ _ (T273.setTop (mkF m 120 #[.val (.long p1), .second, .val (.long p2), .second, .val (.long p3), .second, .val (.long p4), .second, .val (.long p5), .second, .val (.int p6), .val (.int b1), .val (.int b2), .val (.ref sd), .val (.long q), .second, .val (.long pp), .second, .val (.long (p5 >>> ((32 : Int32) &&& 0x3f).toInt64)), .second, .val (.ref r1), .val (.ref r2), .val (.ref b267), .unset, .unset, .unset, .unset, .unset, .unset] [(.long pp), (.long q), (.ref b267)]))
          have f299 := f272.keep K273 (allS ge267 all0)
          obtain ⟨_, T300, h300, L300, X300, e300, ⟨rfl, Nq300, K300, P300⟩, st300⟩ := goV X273 hx hZ hown (hw _ (List.mem_of_getElem? (i := 103) rfl)) (hw _ (List.mem_of_getElem? (i := 104) rfl)) (hw _ (List.mem_of_getElem? (i := 106) rfl)) (notFace_of_selects (args := #[]) (mvT hZ (hw _ (List.mem_of_getElem? (i := 106) rfl)))) (hw _ (List.mem_of_getElem? (i := 105) rfl)) (by decide) ((rmTrade l Z a0 hw [] b267 (p5 >>> ((32 : Int32) &&& 0x3f).toInt64) (pp + (1 : Int64)) (q + (1 : Int64)) r1 q pp h273 n0 f299 ge267 P273 lq uq lp up).pay (W := 0) hZ (hw _ (List.mem_of_getElem? (i := 107) rfl)) (hw _ (List.mem_of_getElem? (i := 14) rfl)) (by decide) (by decide)) e273 P273.1 (g := (mkF m 120 #[.val (.long p1), .second, .val (.long p2), .second, .val (.long p3), .second, .val (.long p4), .second, .val (.long p5), .second, .val (.int p6), .val (.int b1), .val (.int b2), .val (.ref sd), .val (.long q), .second, .val (.long pp), .second, .val (.long (p5 >>> ((32 : Int32) &&& 0x3f).toInt64)), .second, .val (.ref r1), .val (.ref r2), .val (.ref b267), .unset, .unset, .unset, .unset, .unset, .unset] [(.long pp), (.long q), (.ref b267)])) rfl (by rw [hml]; rfl) [(.long q), (.long pp)] [] (lenOf pd_8 rfl) rfl (by show 2 * 0 + _ ≤ _; exact Nat.le_of_eq rfl) (Jvm.hb hby at_120) rfl (by decide) (by decide)
          have N300 := N273.app Nq300
          refine FinP.st st300 ?_
          show FinP p e below s _ _ _ (T300.setTop (mkF m 123 #[.val (.long p1), .second, .val (.long p2), .second, .val (.long p3), .second, .val (.long p4), .second, .val (.long p5), .second, .val (.int p6), .val (.int b1), .val (.int b2), .val (.ref sd), .val (.long q), .second, .val (.long pp), .second, .val (.long (p5 >>> ((32 : Int32) &&& 0x3f).toInt64)), .second, .val (.ref r1), .val (.ref r2), .val (.ref b267), .unset, .unset, .unset, .unset, .unset, .unset] []))
          have f301 := E266.ext E267
          have f302 := f301.keep K273
          have f303 := f302.keep K300
          have f304 := F266.ext E267
          have f305 := f304.keep K273 (ninS ne271 nin0)
          have f306 := f305.keep K300 (ninS ne271 nin0)
          have f307 := f299.keep K300 (allS ge267 all0)
          exact j123 (q, q * pp) _ _ _ ⟨X300.more (by decide) (by decide), e300, N300, f307, (Or.inr ⟨hb1.resolve_left f111, rfl, rfl⟩), f303, f306, P300⟩
      intro j44
      by_cases fj44 : (p6 &&& (4 : Int32)) = (0 : Int32)
      · skip
        refine FinP.st (fun _ => XS.ifYes X0.here hx rfl (pc0 := 32) (pc' := 41) rfl (Jvm.hb hby at_32) rfl (zeq fj44) (by decide) (by decide)) ?_
        show FinP p e below s _ _ _ (T0.setTop (mkF m 41 #[.val (.long p1), .second, .val (.long p2), .second, .val (.long p3), .second, .val (.long p4), .second, .val (.long p5), .second, .val (.int p6), .val (.int b1), .val (.int b2), .unset, .unset, .unset, .unset, .unset, .unset, .unset, .unset, .unset, .unset, .unset, .unset, .unset, .unset, .unset, .unset] []))
        obtain ⟨T308, X308, e308, st308⟩ := getS (host := "") X0 hx hZ hown (hw _ (List.mem_of_getElem? (i := 0) rfl)) Via.refl e0 (SB.ext O.2) (g := (mkF m 41 #[.val (.long p1), .second, .val (.long p2), .second, .val (.long p3), .second, .val (.long p4), .second, .val (.long p5), .second, .val (.int p6), .val (.int b1), .val (.int b2), .unset, .unset, .unset, .unset, .unset, .unset, .unset, .unset, .unset, .unset, .unset, .unset, .unset, .unset, .unset, .unset] [])) rfl (Jvm.hb hby at_41)
        refine FinP.st st308 ?_
        show FinP p e below s _ _ _ (T308.setTop (mkF m 44 #[.val (.long p1), .second, .val (.long p2), .second, .val (.long p3), .second, .val (.long p4), .second, .val (.long p5), .second, .val (.int p6), .val (.int b1), .val (.int b2), .unset, .unset, .unset, .unset, .unset, .unset, .unset, .unset, .unset, .unset, .unset, .unset, .unset, .unset, .unset, .unset] [(.ref sb)]))
        exact j44 sb _ _ _ ⟨X308.more (by decide) (by decide), e308, N0, O, trivial⟩
      · skip
        refine FinP.st (fun _ => XS.ifNo X0.here hx rfl (Jvm.hb hby at_32) rfl (zeqN fj44)) ?_
        show FinP p e below s _ _ _ (T0.setTop (mkF m 35 #[.val (.long p1), .second, .val (.long p2), .second, .val (.long p3), .second, .val (.long p4), .second, .val (.long p5), .second, .val (.int p6), .val (.int b1), .val (.int b2), .unset, .unset, .unset, .unset, .unset, .unset, .unset, .unset, .unset, .unset, .unset, .unset, .unset, .unset, .unset, .unset] []))
        obtain ⟨T309, X309, e309, st309⟩ := getS (host := "") X0 hx hZ hown (hw _ (List.mem_of_getElem? (i := 89) rfl)) Via.refl e0 (SS.ext O.2) (g := (mkF m 35 #[.val (.long p1), .second, .val (.long p2), .second, .val (.long p3), .second, .val (.long p4), .second, .val (.long p5), .second, .val (.int p6), .val (.int b1), .val (.int b2), .unset, .unset, .unset, .unset, .unset, .unset, .unset, .unset, .unset, .unset, .unset, .unset, .unset, .unset, .unset, .unset] [])) rfl (Jvm.hb hby at_35)
        refine FinP.st st309 ?_
        show FinP p e below s _ _ _ (T309.setTop (mkF m 38 #[.val (.long p1), .second, .val (.long p2), .second, .val (.long p3), .second, .val (.long p4), .second, .val (.long p5), .second, .val (.int p6), .val (.int b1), .val (.int b2), .unset, .unset, .unset, .unset, .unset, .unset, .unset, .unset, .unset, .unset, .unset, .unset, .unset, .unset, .unset, .unset] [(.ref ss)]))
        refine FinP.st (fun _ => XS.goto X309.here hx rfl (pc0 := 38) (pc' := 44) rfl (Jvm.hb hby at_38) (by decide) (by decide)) ?_
        show FinP p e below s _ _ _ (T309.setTop (mkF m 44 #[.val (.long p1), .second, .val (.long p2), .second, .val (.long p3), .second, .val (.long p4), .second, .val (.long p5), .second, .val (.int p6), .val (.int b1), .val (.int b2), .unset, .unset, .unset, .unset, .unset, .unset, .unset, .unset, .unset, .unset, .unset, .unset, .unset, .unset, .unset, .unset] [(.ref ss)]))
        exact j44 ss _ _ _ ⟨X309.more (by decide) (by decide), e309, N0, O, trivial⟩
    intro j26
    by_cases fj26 : (p6 &&& (2 : Int32)) = (0 : Int32)
    · skip
      refine FinP.st (fun _ => XS.ifYes X0.here hx rfl (pc0 := 18) (pc' := 25) rfl (Jvm.hb hby at_18) rfl (zeq fj26) (by decide) (by decide)) ?_
      show FinP p e below s _ _ _ (T0.setTop (mkF m 25 #[.val (.long p1), .second, .val (.long p2), .second, .val (.long p3), .second, .val (.long p4), .second, .val (.long p5), .second, .val (.int p6), .val (.int b1), .unset, .unset, .unset, .unset, .unset, .unset, .unset, .unset, .unset, .unset, .unset, .unset, .unset, .unset, .unset, .unset, .unset] []))
      refine FinP.st (fun _ => XS.iconst X0.here hx rfl (Jvm.hb hby at_25)) ?_
      show FinP p e below s _ _ _ (T0.setTop (mkF m 26 #[.val (.long p1), .second, .val (.long p2), .second, .val (.long p3), .second, .val (.long p4), .second, .val (.long p5), .second, .val (.int p6), .val (.int b1), .unset, .unset, .unset, .unset, .unset, .unset, .unset, .unset, .unset, .unset, .unset, .unset, .unset, .unset, .unset, .unset, .unset] [(.int (0 : Int32))]))
      exact j26 (0 : Int32) (Or.inl rfl)
    · skip
      refine FinP.st (fun _ => XS.ifNo X0.here hx rfl (Jvm.hb hby at_18) rfl (zeqN fj26)) ?_
      show FinP p e below s _ _ _ (T0.setTop (mkF m 21 #[.val (.long p1), .second, .val (.long p2), .second, .val (.long p3), .second, .val (.long p4), .second, .val (.long p5), .second, .val (.int p6), .val (.int b1), .unset, .unset, .unset, .unset, .unset, .unset, .unset, .unset, .unset, .unset, .unset, .unset, .unset, .unset, .unset, .unset, .unset] []))
      refine FinP.st (fun _ => XS.iconst X0.here hx rfl (Jvm.hb hby at_21)) ?_
      show FinP p e below s _ _ _ (T0.setTop (mkF m 22 #[.val (.long p1), .second, .val (.long p2), .second, .val (.long p3), .second, .val (.long p4), .second, .val (.long p5), .second, .val (.int p6), .val (.int b1), .unset, .unset, .unset, .unset, .unset, .unset, .unset, .unset, .unset, .unset, .unset, .unset, .unset, .unset, .unset, .unset, .unset] [(.int (1 : Int32))]))
      refine FinP.st (fun _ => XS.goto X0.here hx rfl (pc0 := 22) (pc' := 26) rfl (Jvm.hb hby at_22) (by decide) (by decide)) ?_
      show FinP p e below s _ _ _ (T0.setTop (mkF m 26 #[.val (.long p1), .second, .val (.long p2), .second, .val (.long p3), .second, .val (.long p4), .second, .val (.long p5), .second, .val (.int p6), .val (.int b1), .unset, .unset, .unset, .unset, .unset, .unset, .unset, .unset, .unset, .unset, .unset, .unset, .unset, .unset, .unset, .unset, .unset] [(.int (1 : Int32))]))
      exact j26 (1 : Int32) (Or.inr rfl)
  intro j12
  by_cases fj12 : (p6 &&& (1 : Int32)) = (0 : Int32)
  · skip
    refine FinP.st (fun _ => XS.ifYes X0.here hx rfl (pc0 := 4) (pc' := 11) rfl (Jvm.hb hby at_4) rfl (zeq fj12) (by decide) (by decide)) ?_
    show FinP p e below s _ _ _ (T0.setTop (mkF m 11 #[.val (.long p1), .second, .val (.long p2), .second, .val (.long p3), .second, .val (.long p4), .second, .val (.long p5), .second, .val (.int p6), .unset, .unset, .unset, .unset, .unset, .unset, .unset, .unset, .unset, .unset, .unset, .unset, .unset, .unset, .unset, .unset, .unset, .unset] []))
    refine FinP.st (fun _ => XS.iconst X0.here hx rfl (Jvm.hb hby at_11)) ?_
    show FinP p e below s _ _ _ (T0.setTop (mkF m 12 #[.val (.long p1), .second, .val (.long p2), .second, .val (.long p3), .second, .val (.long p4), .second, .val (.long p5), .second, .val (.int p6), .unset, .unset, .unset, .unset, .unset, .unset, .unset, .unset, .unset, .unset, .unset, .unset, .unset, .unset, .unset, .unset, .unset, .unset] [(.int (0 : Int32))]))
    exact j12 (0 : Int32) (Or.inl rfl)
  · skip
    refine FinP.st (fun _ => XS.ifNo X0.here hx rfl (Jvm.hb hby at_4) rfl (zeqN fj12)) ?_
    show FinP p e below s _ _ _ (T0.setTop (mkF m 7 #[.val (.long p1), .second, .val (.long p2), .second, .val (.long p3), .second, .val (.long p4), .second, .val (.long p5), .second, .val (.int p6), .unset, .unset, .unset, .unset, .unset, .unset, .unset, .unset, .unset, .unset, .unset, .unset, .unset, .unset, .unset, .unset, .unset, .unset] []))
    refine FinP.st (fun _ => XS.iconst X0.here hx rfl (Jvm.hb hby at_7)) ?_
    show FinP p e below s _ _ _ (T0.setTop (mkF m 8 #[.val (.long p1), .second, .val (.long p2), .second, .val (.long p3), .second, .val (.long p4), .second, .val (.long p5), .second, .val (.int p6), .unset, .unset, .unset, .unset, .unset, .unset, .unset, .unset, .unset, .unset, .unset, .unset, .unset, .unset, .unset, .unset, .unset, .unset] [(.int (1 : Int32))]))
    refine FinP.st (fun _ => XS.goto X0.here hx rfl (pc0 := 8) (pc' := 12) rfl (Jvm.hb hby at_8) (by decide) (by decide)) ?_
    show FinP p e below s _ _ _ (T0.setTop (mkF m 12 #[.val (.long p1), .second, .val (.long p2), .second, .val (.long p3), .second, .val (.long p4), .second, .val (.long p5), .second, .val (.int p6), .unset, .unset, .unset, .unset, .unset, .unset, .unset, .unset, .unset, .unset, .unset, .unset, .unset, .unset, .unset, .unset, .unset, .unset] [(.int (1 : Int32))]))
    exact j12 (1 : Int32) (Or.inr rfl)
theorem long_cache {Z : State} {args : Array Value} {ca : Addr} {cc : Cell} (ec : (Jvm.Term.static "java/lang/Long$LongCache" "cache" "[Ljava/lang/Long;").eval args Z none [] Z = some (.ref ca)) (CA : Arr Z Z.heap ca cc (.object "java/lang/Long")) (hl : (Jvm.Cond.eq (Jvm.Term.length (Jvm.Term.static "java/lang/Long$LongCache" "cache" "[Ljava/lang/Long;")) (Jvm.Term.int 256)).value args Z none Z [] = some true)
    (h : (Jvm.Cond.all (Jvm.Term.static "java/lang/Long$LongCache" "cache" "[Ljava/lang/Long;") (.and (.exactly (.elem (Jvm.Term.static "java/lang/Long$LongCache" "cache" "[Ljava/lang/Long;") (.index 0)) "java/lang/Long") (.eq (.field (.elem (Jvm.Term.static "java/lang/Long$LongCache" "cache" "[Ljava/lang/Long;") (.index 0)) "java/lang/Long" "value" "J") (.op1 .i2l (.sub (.index 0) (.int 128)))))).value args Z none Z [] = some true) : Bxs Z ca cc "java/lang/Long" "J" 256 (fun j => .long (j - 128).toInt64) := by
  have hlen : (Jvm.Term.length (Jvm.Term.static "java/lang/Long$LongCache" "cache" "[Ljava/lang/Long;")).eval args Z none [] Z = some (.int 256) := eqv_i rfl hl
  have hAt : Z.arrayAt? ca = some cc := CA.fin (Vm.Alike.refl _)
  have h31 : cc.slots.size < 2 ^ 31 := Jvm.Free.SBG.length_lt ec hAt hlen
  refine Bxs.start (fun _ => ec) CA h31 ?_ (by decide) h ?_
  · exact Value.int.inj (Option.some.inj ((len_f ec hAt h31).symm.trans hlen))
  · intro X j hj hX
    refine eqv_l (i2l_at (y := j - 128) ?_) hX
    have e1 := idx_at (args := args) (s := Z) (first := Z) (o := none) hj
    exact Term.sub_int e1 rfl
set_option maxRecDepth 65536 in
set_option maxHeartbeats 40000000 in
theorem comes_1 {Post : Tables → Env → Array Value → State → Outcome → State → Prop} (hpost : ∀ tb e args s v u, (limb_1_1.after args s (.returned v) u = true ∧ limb_1_2.after args s (.returned v) u = true ∧ True) → FrameEnd s (.returned v) u (Jvm.fieldLocs frame_1_writes args s ++ Jvm.arrayLocs frame_1_arrays args s ++ Jvm.staticLocs frame_1_statics s) 16 128 → Post tb e args s (.returned v) u) :
    ArmFor flags0 classFile x code maxLocals ret World_1 tables_1 room_1 Calls_1 rest_1 Pre_1 Post := by
  intro l hfl _ _ p e ha hc hk s m args below hf hA hF happ hP
  obtain ⟨hcalls, hrest, hpre⟩ := hP
  obtain ⟨-, -, -, hnamed, -, -, -, hat⟩ := (Spec.applies_iff hf).mp happ
  obtain ⟨hg, hn⟩ := and_e (Cond.before_iff.mp (show (Jvm.Cond.and given_1 narrow_1).before args s = true from hpre))
  obtain ⟨hcnt, hg⟩ := and_e hg
  obtain ⟨g0, hg⟩ := and_e hg
  obtain ⟨g1, hg⟩ := and_e hg
  obtain ⟨g2, hg⟩ := and_e hg
  obtain ⟨g3, hg⟩ := and_e hg
  obtain ⟨g4, hg⟩ := and_e hg
  have g5 := hg
  obtain ⟨w0, w1, w2, w3, w4, w5, rfl⟩ : ∃ w0 w1 w2 w3 w4 w5 : Value, args = #[w0, w1, w2, w3, w4, w5] := by
    have hs : args.size = 6 := by simpa [Cond.value, given_1] using hcnt
    obtain ⟨L⟩ := args
    match L, hs with
    | [w0, w1, w2, w3, w4, w5], _ => exact ⟨w0, w1, w2, w3, w4, w5, rfl⟩
  have hw := fun d (hd : d ∈ tables_1) => atoms_spec (ws := Jvm.Cond.code x code maxLocals ret :: tables_1) hat d (List.mem_cons_of_mem _ hd)
  obtain ⟨hsets, hown0⟩ := atoms_of _ (rest_1_c_eq ▸ (show rest_1_c.before _ s = true from hrest))
  have hfit : Fit s := fun {y c} hc i hi => by
    obtain ⟨ha, rfl⟩ := Array.getElem?_eq_some_iff.mp hc
    have q := List.all_eq_true.mp ((Array.all_eq_true_iff_forall_mem.mp hF) _ (Array.getElem_mem ha)) i (List.mem_range.mpr hi)
    simpa [Array.getElem?_eq_getElem hi] using q
  obtain ⟨i0, ei0⟩ := isL_v g0
  obtain rfl : w0 = (.long i0) := Option.some.inj ei0
  obtain ⟨i1, ei1⟩ := isL_v g1
  obtain rfl : w1 = (.long i1) := Option.some.inj ei1
  obtain ⟨i2, ei2⟩ := isL_v g2
  obtain rfl : w2 = (.long i2) := Option.some.inj ei2
  obtain ⟨i3, ei3⟩ := isL_v g3
  obtain rfl : w3 = (.long i3) := Option.some.inj ei3
  obtain ⟨i4, ei4⟩ := isL_v g4
  obtain rfl : w4 = (.long i4) := Option.some.inj ei4
  obtain ⟨i5, ei5⟩ := is_v g5
  obtain rfl : w5 = (.int i5) := Option.some.inj ei5
  obtain ⟨nb, ns⟩ := and_e hn
  obtain ⟨sb, eb⟩ := exa_v nb
  obtain ⟨ss, es⟩ := exa_v ns
  have SB : Sta s s.heap "com/example/fillwire/fillwire/book/Side" "BUY" "Lcom/example/fillwire/fillwire/book/Side;" (.ref sb) := Sta.start eb (Or.inr ⟨(hw _ (List.mem_of_getElem? (i := 1) rfl)), (hw _ (List.mem_of_getElem? (i := 2) rfl))⟩)
  have SS : Sta s s.heap "com/example/fillwire/fillwire/book/Side" "SELL" "Lcom/example/fillwire/fillwire/book/Side;" (.ref ss) := Sta.start es (Or.inr ⟨(hw _ (List.mem_of_getElem? (i := 1) rfl)), (hw _ (List.mem_of_getElem? (i := 90) rfl))⟩)
  have hS := fun k d (q : jdkStatics_1[k]? = some d) => Cond.before_iff.mp (hsets d (List.mem_of_getElem? q))
  have c3 := hS 3 _ rfl
  obtain ⟨ca, ec⟩ := exa_v c3
  have SL : Sta s s.heap "java/lang/Long$LongCache" "cache" "[Ljava/lang/Long;" (.ref ca) := Sta.start ec (Or.inl (hsets _ (List.mem_of_getElem? (i := 1) rfl)))
  obtain ⟨cc, CA⟩ := Arr.start ec (hS 2 _ rfl)
  have c4 := hS 4 _ rfl
  have BX : Bxs s ca cc "java/lang/Long" "J" 256 (fun j => .long (j - 128).toInt64) := long_cache ec CA c4 (hS 5 _ rfl)
  obtain ⟨n, o, h1, h2, h3, _, L, rfl, ⟨rfl, N⟩, hq⟩ := rmLaw l s _ hw tables_1 i0 i1 i2 i3 i4 i5 ca sb ss cc s.heap s.heap.size (Old.start s)  BX SL SB SS p e ha hc hk s m _ below hf ((Spec.applies_iff_loose hf).mp happ).1 ⟨rfl, State.Warmed39.refl s, rfl⟩ trivial
  exact ⟨n, _, h1, h2, h3, hpost _ _ _ _ _ _ ⟨Cond.after_iff.mpr rfl, Cond.after_iff.mpr (eq_i res_at (Term.int_eval (1)) rfl), trivial⟩ ⟨hq.1, hq.2.1, (hq.2.2.sift fun y hy => Or.inr (N y hy)).mono (by decide) (by decide)⟩⟩
theorem main_1_1 : Claimed_1_1 := comes_1 fun _ _ _ _ _ _ h hF => ⟨h.1, hF⟩
theorem main_1_2 : Claimed_1_2 := comes_1 fun _ _ _ _ _ _ h hF => ⟨h.2.1, hF⟩
end Jvm.Pilot.@@N@@
namespace Jvm.Pilot.@@N@@
open Jvm Jvm.ClassFile Sem Op Lib Jvm.Free Jvm.Stand Jvm.Pilot.@@N@@.Jvm.D
/-! MADE BY PROGRAM (witnessworld.py) out of the Statement's table words and the real class files: 19 classes; the members and pool entries that the words name. The judged class is class 1, her method 1. -/
namespace start1
open Jvm.ClassFile
def u (s : String) : CpInfo := .utf8 (stringToUtf16 s)
/-- a pool by its gaps: so many unusable entries, then the entry; so many at the end -/
def gap : Nat → List CpInfo → List CpInfo
  | 0, r => r
  | n + 1, r => .unusable :: gap n r
def poolList (es : List (Nat × CpInfo)) (last : Nat) : List CpInfo := es.foldr (fun e r => gap e.1 (e.2 :: r)) (gap last [])
def pool (es : List (Nat × CpInfo)) (last : Nat) : Array CpInfo := ⟨poolList es last⟩
def fileOf (pool : Array CpInfo) (this : Nat) (attrs : Array Attribute := #[]) (ms : Array MethodInfo := #[]) (fl : Nat := 33) (sup : Nat := 0) (ifs : Array Nat := #[]) (fds : Array FieldInfo := #[]) : ClassFile where
  minorVersion := 0
  majorVersion := 65
  constantPool := pool
  accessFlags := fl
  thisClass := this
  superClass := sup
  interfaces := ifs
  fields := fds
  methods := ms
  attributes := attrs
def plain (name : String) (sup : Option ClassId) : Class where
  name := name
  kind := .ordinary
  loader := none
  accessFlags := 33
  super := sup
  interfaces := #[]
  cf := none
  fields := #[]
  methods := #[]
  instanceTypes := #[]
  staticTypes := #[]
  resolved := #[]
  callSites := []
  init := .initialized
  statics := none
  mirror := none

def pool0 : Array CpInfo := pool [(5, u "<init>"), (0, u "()V"), (1, .class_ 10), (1, u "java/lang/Object")] 113

def k0c0 : Code := { maxStack := 0, maxLocals := 1, code := object_method_1_code, exceptionTable := #[], attributes := #[] }
def k0m0 : Method := { name := "<init>", desc := "()V", sig := { parameters := [], returnType := none }, accessFlags := 1, code := some k0c0 }
/-- java/lang/Object -/
def k0 : Class := { plain "java/lang/Object" none with
  accessFlags := 33
  interfaces := #[]
  cf := some (fileOf pool0 8 #[] #[{ accessFlags := 1, nameIndex := 5, descriptorIndex := 6, attributes := #[] }] 33 0 #[] #[])
  fields := #[]
  methods := #[k0m0]
  instanceTypes := #[]
  staticTypes := #[]
  resolved := Array.replicate 124 none
  statics := none }

def pool1 : Array CpInfo := pool [(2, .class_ 4), (1, u "java/lang/Object"), (0, u "<init>"), (0, u "()V"), (0, .fieldref 8 9), (0, .class_ 10), (0, .nameAndType 11 12), (0, u "com/example/fillwire/fillwire/book/Side"), (0, u "SELL"), (0, u "Lcom/example/fillwire/fillwire/book/Side;"), (0, .fieldref 8 14), (0, .nameAndType 15 12), (0, u "BUY"), (0, .long 65535), (1, .methodref 19 20), (0, .class_ 21), (0, .nameAndType 22 23), (0, u "java/lang/Long"), (0, u "valueOf"), (0, u "(J)Ljava/lang/Long;"), (0, .class_ 25), (0, u "com/example/fillwire/fillwire/book/Order"), (0, .methodref 24 27), (0, .nameAndType 5 28), (0, u "(JLcom/example/fillwire/fillwire/book/Side;JJLjava/lang/Object;)V"), (0, .methodref 24 30), (0, .nameAndType 31 32), (0, u "trade"), (0, u "(JJ)V"), (0, .methodref 24 34), (0, .nameAndType 35 6), (0, u "cancel"), (0, .methodref 24 37), (0, .nameAndType 38 39), (0, u "modify"), (0, u "(JJJLjava/lang/Object;)V"), (0, .methodref 24 41), (0, .nameAndType 42 43), (0, u "id"), (0, u "()J"), (0, .methodref 24 45), (0, .nameAndType 46 43), (0, u "price"), (0, .methodref 24 48), (0, .nameAndType 49 43), (0, u "quantity"), (0, .methodref 24 51), (0, .nameAndType 52 53), (0, u "request"), (0, u "()Ljava/lang/Object;"), (0, .methodref 19 55), (0, .nameAndType 56 43), (0, u "longValue"), (0, .methodref 24 58), (0, .nameAndType 59 43), (0, u "cumQty"), (0, .methodref 24 61), (0, .nameAndType 62 43), (0, u "leavesQty"), (0, .methodref 24 64), (0, .nameAndType 65 43), (0, u "avgPx"), (0, .class_ 67), (0, u "com/example/fillwire/fillwire/book/OrderModifyPinLaw"), (2, u "law"), (0, u "(JJJJJI)Z")] 3

def k1m0 : Method := { name := "<init>", desc := "()V", sig := { parameters := [], returnType := none }, accessFlags := 1, code := none }
def k1c1 : Code := { maxStack := 11, maxLocals := 29, code := code, exceptionTable := #[], attributes := #[] }
def k1m1 : Method := { name := "law", desc := "(JJJJJI)Z", sig := { parameters := [.long, .long, .long, .long, .long, .int], returnType := some .boolean }, accessFlags := 9, code := some k1c1 }
/-- com/example/fillwire/fillwire/book/OrderModifyPinLaw -/
def k1 : Class := { plain "com/example/fillwire/fillwire/book/OrderModifyPinLaw" (some 0) with
  accessFlags := 49
  interfaces := #[]
  cf := some (fileOf pool1 66 #[] #[{ accessFlags := 1, nameIndex := 5, descriptorIndex := 6, attributes := #[] }, { accessFlags := 9, nameIndex := 70, descriptorIndex := 71, attributes := #[] }] 49 2 #[] #[])
  fields := #[]
  methods := #[k1m0, k1m1]
  instanceTypes := #[]
  staticTypes := #[]
  resolved := Array.replicate 75 none
  statics := none }

def pool2 : Array CpInfo := pool [(1, .class_ 2), (0, u "java/lang/constant/Constable"), (0, .class_ 4), (0, u "java/lang/Object")] 6

/-- java/lang/constant/Constable -/
def k2 : Class := { plain "java/lang/constant/Constable" (some 0) with
  accessFlags := 1537
  interfaces := #[]
  cf := some (fileOf pool2 1 #[] #[] 1537 3 #[] #[])
  fields := #[]
  methods := #[]
  instanceTypes := #[]
  staticTypes := #[]
  resolved := Array.replicate 11 none
  statics := none }

def pool3 : Array CpInfo := pool [(1, .class_ 2), (0, u "java/lang/Comparable"), (0, .class_ 4), (0, u "java/lang/Object")] 7

/-- java/lang/Comparable -/
def k3 : Class := { plain "java/lang/Comparable" (some 0) with
  accessFlags := 1537
  interfaces := #[]
  cf := some (fileOf pool3 1 #[] #[] 1537 3 #[] #[])
  fields := #[]
  methods := #[]
  instanceTypes := #[]
  staticTypes := #[]
  resolved := Array.replicate 12 none
  statics := none }

def pool4 : Array CpInfo := pool [(1, .class_ 2), (0, u "java/io/Serializable"), (0, .class_ 4), (0, u "java/lang/Object")] 2

/-- java/io/Serializable -/
def k4 : Class := { plain "java/io/Serializable" (some 0) with
  accessFlags := 1537
  interfaces := #[]
  cf := some (fileOf pool4 1 #[] #[] 1537 3 #[] #[])
  fields := #[]
  methods := #[]
  instanceTypes := #[]
  staticTypes := #[]
  resolved := Array.replicate 7 none
  statics := none }

def pool5 : Array CpInfo := pool [(2, .class_ 4), (1, u "java/lang/Enum"), (0, u "name"), (0, u "Ljava/lang/String;"), (2, u "ordinal"), (0, u "I"), (1, .class_ 14), (1, u "java/lang/Object"), (4, u "hash"), (86, .class_ 108), (1, u "java/lang/Enum$EnumDesc"), (2, .class_ 112), (0, u "java/lang/constant/Constable"), (0, .class_ 114), (0, u "java/lang/Comparable"), (0, .class_ 116), (0, u "java/io/Serializable")] 87

/-- java/lang/Enum -/
def k5 : Class := { plain "java/lang/Enum" (some 0) with
  accessFlags := 1057
  interfaces := #[2, 3, 4]
  cf := some (fileOf pool5 2 #[.nestMembers #[106]] #[] 1057 12 #[111, 113, 115] #[{ accessFlags := 18, nameIndex := 5, descriptorIndex := 6, attributes := #[] }, { accessFlags := 18, nameIndex := 9, descriptorIndex := 10, attributes := #[] }, { accessFlags := 2, nameIndex := 19, descriptorIndex := 10, attributes := #[] }])
  fields := #[{ name := "name", type := (.object "java/lang/String"), accessFlags := 18, slot := 0, constantValue := 0 }, { name := "ordinal", type := .int, accessFlags := 18, slot := 1, constantValue := 0 }, { name := "hash", type := .int, accessFlags := 2, slot := 2, constantValue := 0 }]
  methods := #[]
  instanceTypes := #[(.object "java/lang/String"), .int, .int]
  staticTypes := #[]
  resolved := Array.replicate 204 none
  statics := none }

def pool6 : Array CpInfo := pool [(1, .class_ 2), (0, u "com/example/fillwire/fillwire/book/Side"), (2, u "BUY"), (0, u "Lcom/example/fillwire/fillwire/book/Side;"), (2, u "SELL"), (2, u "$VALUES"), (0, u "[Lcom/example/fillwire/fillwire/book/Side;"), (6, .class_ 22), (1, u "java/lang/Enum")] 24

/-- com/example/fillwire/fillwire/book/Side -/
def k6 : Class := { plain "com/example/fillwire/fillwire/book/Side" (some 5) with
  accessFlags := 16433
  interfaces := #[]
  cf := some (fileOf pool6 1 #[] #[] 16433 20 #[] #[{ accessFlags := 16409, nameIndex := 5, descriptorIndex := 6, attributes := #[] }, { accessFlags := 16409, nameIndex := 9, descriptorIndex := 6, attributes := #[] }, { accessFlags := 4122, nameIndex := 12, descriptorIndex := 13, attributes := #[] }])
  fields := #[{ name := "BUY", type := (.object "com/example/fillwire/fillwire/book/Side"), accessFlags := 16409, slot := 0, constantValue := 0 }, { name := "SELL", type := (.object "com/example/fillwire/fillwire/book/Side"), accessFlags := 16409, slot := 1, constantValue := 0 }, { name := "$VALUES", type := (.array (.object "com/example/fillwire/fillwire/book/Side")), accessFlags := 4122, slot := 2, constantValue := 0 }]
  methods := #[]
  instanceTypes := #[(.object "java/lang/String"), .int, .int]
  staticTypes := #[(.object "com/example/fillwire/fillwire/book/Side"), (.object "com/example/fillwire/fillwire/book/Side"), (.array (.object "com/example/fillwire/fillwire/book/Side"))]
  resolved := Array.replicate 47 none
  statics := some 0 }

def pool7 : Array CpInfo := pool [(1, .methodref 2 3), (0, .class_ 4), (0, .nameAndType 5 6), (0, u "java/lang/Object"), (0, u "<init>"), (0, u "()V"), (1, .class_ 10), (1, u "java/lang/Number"), (2, .class_ 14), (0, u "java/io/Serializable"), (0, u "serialVersionUID"), (0, u "J")] 20

def k7c0 : Code := { maxStack := 1, maxLocals := 1, code := jdk_18_method_1_code, exceptionTable := #[], attributes := #[] }
def k7m0 : Method := { name := "<init>", desc := "()V", sig := { parameters := [], returnType := none }, accessFlags := 1, code := some k7c0 }
/-- java/lang/Number -/
def k7 : Class := { plain "java/lang/Number" (some 0) with
  accessFlags := 1057
  interfaces := #[4]
  cf := some (fileOf pool7 8 #[] #[{ accessFlags := 1, nameIndex := 5, descriptorIndex := 6, attributes := #[] }] 1057 2 #[13] #[{ accessFlags := 26, nameIndex := 15, descriptorIndex := 16, attributes := #[] }])
  fields := #[{ name := "serialVersionUID", type := .long, accessFlags := 26, slot := 0, constantValue := 0 }]
  methods := #[k7m0]
  instanceTypes := #[]
  staticTypes := #[.long]
  resolved := Array.replicate 37 none
  statics := none }

def pool8 : Array CpInfo := pool [(1, .class_ 2), (0, u "java/lang/constant/ConstantDesc"), (0, .class_ 4), (0, u "java/lang/Object")] 32

/-- java/lang/constant/ConstantDesc -/
def k8 : Class := { plain "java/lang/constant/ConstantDesc" (some 0) with
  accessFlags := 1537
  interfaces := #[]
  cf := some (fileOf pool8 1 #[] #[] 1537 3 #[] #[])
  fields := #[]
  methods := #[]
  instanceTypes := #[]
  staticTypes := #[]
  resolved := Array.replicate 37 none
  statics := none }

def pool9 : Array CpInfo := pool [(1, .class_ 2), (0, u "java/lang/Long"), (55, .nameAndType 59 60), (0, u "<init>"), (0, u "()V"), (24, u "valueOf"), (143, u "(J)Ljava/lang/Long;"), (0, .long 18446744073709551488), (1, .long 127), (1, .fieldref 235 236), (0, .class_ 237), (0, .nameAndType 238 239), (0, u "java/lang/Long$LongCache"), (0, u "cache"), (0, u "[Ljava/lang/Long;"), (0, .methodref 1 241), (0, .nameAndType 59 242), (0, u "(J)V"), (27, .methodref 271 58), (0, .class_ 272), (0, u "java/lang/Number"), (0, .fieldref 1 274), (0, .nameAndType 275 276), (0, u "value"), (0, u "J"), (5, u "longValue"), (0, u "()J"), (77, u "TYPE"), (0, u "Ljava/lang/Class;"), (0, .class_ 364), (0, u "java/lang/Comparable"), (0, .class_ 366), (0, u "java/lang/constant/Constable"), (0, .class_ 368), (0, u "java/lang/constant/ConstantDesc"), (0, u "MIN_VALUE"), (1, u "MAX_VALUE"), (4, u "SIZE"), (0, u "I"), (1, u "BYTES"), (1, u "serialVersionUID")] 142

def k9c0 : Code := { maxStack := 4, maxLocals := 3, code := jdk_35_method_24_code, exceptionTable := #[], attributes := #[] }
def k9m0 : Method := { name := "valueOf", desc := "(J)Ljava/lang/Long;", sig := { parameters := [.long], returnType := some (.object "java/lang/Long") }, accessFlags := 9, code := some k9c0 }
def k9c1 : Code := { maxStack := 3, maxLocals := 3, code := jdk_35_method_26_code, exceptionTable := #[], attributes := #[] }
def k9m1 : Method := { name := "<init>", desc := "(J)V", sig := { parameters := [.long], returnType := none }, accessFlags := 1, code := some k9c1 }
def k9c2 : Code := { maxStack := 2, maxLocals := 1, code := jdk_35_method_31_code, exceptionTable := #[], attributes := #[] }
def k9m2 : Method := { name := "longValue", desc := "()J", sig := { parameters := [], returnType := some .long }, accessFlags := 1, code := some k9c2 }
/-- java/lang/Long -/
def k9 : Class := { plain "java/lang/Long" (some 7) with
  accessFlags := 49
  interfaces := #[3, 2, 8]
  cf := some (fileOf pool9 1 #[.nestMembers #[235]] #[{ accessFlags := 9, nameIndex := 85, descriptorIndex := 229, attributes := #[] }, { accessFlags := 1, nameIndex := 59, descriptorIndex := 242, attributes := #[] }, { accessFlags := 1, nameIndex := 282, descriptorIndex := 283, attributes := #[] }] 49 271 #[363, 365, 367] #[{ accessFlags := 25, nameIndex := 369, descriptorIndex := 276, attributes := #[] }, { accessFlags := 25, nameIndex := 371, descriptorIndex := 276, attributes := #[] }, { accessFlags := 25, nameIndex := 361, descriptorIndex := 362, attributes := #[] }, { accessFlags := 18, nameIndex := 275, descriptorIndex := 276, attributes := #[] }, { accessFlags := 25, nameIndex := 376, descriptorIndex := 377, attributes := #[] }, { accessFlags := 25, nameIndex := 379, descriptorIndex := 377, attributes := #[] }, { accessFlags := 26, nameIndex := 381, descriptorIndex := 276, attributes := #[] }])
  fields := #[{ name := "MIN_VALUE", type := .long, accessFlags := 25, slot := 0, constantValue := 0 }, { name := "MAX_VALUE", type := .long, accessFlags := 25, slot := 1, constantValue := 0 }, { name := "TYPE", type := (.object "java/lang/Class"), accessFlags := 25, slot := 2, constantValue := 0 }, { name := "value", type := .long, accessFlags := 18, slot := 0, constantValue := 0 }, { name := "SIZE", type := .int, accessFlags := 25, slot := 3, constantValue := 0 }, { name := "BYTES", type := .int, accessFlags := 25, slot := 4, constantValue := 0 }, { name := "serialVersionUID", type := .long, accessFlags := 26, slot := 5, constantValue := 0 }]
  methods := #[k9m0, k9m1, k9m2]
  instanceTypes := #[.long]
  staticTypes := #[.long, .long, (.object "java/lang/Class"), .int, .int, .long]
  resolved := Array.replicate 524 none
  statics := none }

def pool10 : Array CpInfo := pool [(2, .class_ 4), (1, u "java/lang/Object"), (0, u "<init>"), (0, u "()V"), (0, .class_ 8), (0, u "java/lang/Long"), (7, .class_ 18), (1, u "java/lang/Long$LongCache"), (0, u "$assertionsDisabled"), (0, u "Z"), (8, u "archivedCache"), (0, u "[Ljava/lang/Long;"), (7, u "cache")] 24

def k10m0 : Method := { name := "<init>", desc := "()V", sig := { parameters := [], returnType := none }, accessFlags := 2, code := none }
/-- java/lang/Long$LongCache -/
def k10 : Class := { plain "java/lang/Long$LongCache" (some 0) with
  accessFlags := 48
  interfaces := #[]
  cf := some (fileOf pool10 16 #[.nestHost 7] #[{ accessFlags := 2, nameIndex := 5, descriptorIndex := 6, attributes := #[] }] 48 2 #[] #[{ accessFlags := 24, nameIndex := 38, descriptorIndex := 30, attributes := #[] }, { accessFlags := 8, nameIndex := 29, descriptorIndex := 30, attributes := #[] }, { accessFlags := 4120, nameIndex := 19, descriptorIndex := 20, attributes := #[] }])
  fields := #[{ name := "cache", type := (.array (.object "java/lang/Long")), accessFlags := 24, slot := 0, constantValue := 0 }, { name := "archivedCache", type := (.array (.object "java/lang/Long")), accessFlags := 8, slot := 1, constantValue := 0 }, { name := "$assertionsDisabled", type := .boolean, accessFlags := 4120, slot := 2, constantValue := 0 }]
  methods := #[k10m0]
  instanceTypes := #[]
  staticTypes := #[(.array (.object "java/lang/Long")), (.array (.object "java/lang/Long")), .boolean]
  resolved := Array.replicate 63 none
  statics := some 1 }

def pool11 : Array CpInfo := pool [(1, .methodref 2 3), (0, .class_ 4), (0, .nameAndType 5 6), (0, u "java/lang/Object"), (0, u "<init>"), (0, u "()V"), (0, .fieldref 8 9), (0, .class_ 10), (0, .nameAndType 11 12), (0, u "com/example/fillwire/fillwire/book/Order"), (0, u "id"), (0, u "J"), (0, .fieldref 8 14), (0, .nameAndType 15 16), (0, u "side"), (0, u "Lcom/example/fillwire/fillwire/book/Side;"), (0, .fieldref 8 18), (0, .nameAndType 19 12), (0, u "price"), (0, .fieldref 8 21), (0, .nameAndType 22 12), (0, u "quantity"), (0, .fieldref 8 24), (0, .nameAndType 25 26), (0, u "request"), (0, u "Ljava/lang/Object;"), (0, .fieldref 8 28), (0, .nameAndType 29 12), (0, u "cumQty"), (0, .fieldref 8 31), (0, .nameAndType 32 33), (0, u "cancelled"), (0, u "Z"), (0, .fieldref 8 35), (0, .nameAndType 36 37), (0, u "largeNotional"), (0, u "Ljava/math/BigDecimal;"), (0, .fieldref 8 39), (0, .nameAndType 40 12), (0, u "notional"), (19, u "()J"), (0, .methodref 62 63), (0, .class_ 64), (0, .nameAndType 65 66), (0, u "java/lang/Math"), (0, u "multiplyHigh"), (0, u "(JJ)J"), (2, .long 9223372036854775807), (10, u "(JLcom/example/fillwire/fillwire/book/Side;JJLjava/lang/Object;)V"), (4, u "()Ljava/lang/Object;"), (1, u "leavesQty"), (1, u "avgPx"), (0, u "modify"), (0, u "(JJJLjava/lang/Object;)V"), (1, u "cancel"), (0, u "trade"), (0, u "(JJ)V")] 3

def k11c0 : Code := { maxStack := 3, maxLocals := 9, code := prog_3_method_1_code, exceptionTable := #[], attributes := #[] }
def k11m0 : Method := { name := "<init>", desc := "(JLcom/example/fillwire/fillwire/book/Side;JJLjava/lang/Object;)V", sig := { parameters := [.long, (.object "com/example/fillwire/fillwire/book/Side"), .long, .long, (.object "java/lang/Object")], returnType := none }, accessFlags := 1, code := some k11c0 }
def k11c1 : Code := { maxStack := 2, maxLocals := 1, code := prog_3_method_2_code, exceptionTable := #[], attributes := #[] }
def k11m1 : Method := { name := "id", desc := "()J", sig := { parameters := [], returnType := some .long }, accessFlags := 1, code := some k11c1 }
def k11c2 : Code := { maxStack := 2, maxLocals := 1, code := prog_3_method_4_code, exceptionTable := #[], attributes := #[] }
def k11m2 : Method := { name := "price", desc := "()J", sig := { parameters := [], returnType := some .long }, accessFlags := 1, code := some k11c2 }
def k11c3 : Code := { maxStack := 2, maxLocals := 1, code := prog_3_method_5_code, exceptionTable := #[], attributes := #[] }
def k11m3 : Method := { name := "quantity", desc := "()J", sig := { parameters := [], returnType := some .long }, accessFlags := 1, code := some k11c3 }
def k11c4 : Code := { maxStack := 1, maxLocals := 1, code := prog_3_method_6_code, exceptionTable := #[], attributes := #[] }
def k11m4 : Method := { name := "request", desc := "()Ljava/lang/Object;", sig := { parameters := [], returnType := some (.object "java/lang/Object") }, accessFlags := 1, code := some k11c4 }
def k11c5 : Code := { maxStack := 2, maxLocals := 1, code := prog_3_method_7_code, exceptionTable := #[], attributes := #[] }
def k11m5 : Method := { name := "cumQty", desc := "()J", sig := { parameters := [], returnType := some .long }, accessFlags := 1, code := some k11c5 }
def k11c6 : Code := { maxStack := 4, maxLocals := 1, code := prog_3_method_8_code, exceptionTable := #[], attributes := #[] }
def k11m6 : Method := { name := "leavesQty", desc := "()J", sig := { parameters := [], returnType := some .long }, accessFlags := 1, code := some k11c6 }
def k11c7 : Code := { maxStack := 8, maxLocals := 5, code := prog_3_method_9_code, exceptionTable := #[], attributes := #[] }
def k11m7 : Method := { name := "avgPx", desc := "()J", sig := { parameters := [], returnType := some .long }, accessFlags := 1, code := some k11c7 }
def k11c8 : Code := { maxStack := 3, maxLocals := 8, code := prog_3_method_10_code, exceptionTable := #[], attributes := #[] }
def k11m8 : Method := { name := "modify", desc := "(JJJLjava/lang/Object;)V", sig := { parameters := [.long, .long, .long, (.object "java/lang/Object")], returnType := none }, accessFlags := 0, code := some k11c8 }
def k11c9 : Code := { maxStack := 2, maxLocals := 1, code := prog_3_method_11_code, exceptionTable := #[], attributes := #[] }
def k11m9 : Method := { name := "cancel", desc := "()V", sig := { parameters := [], returnType := none }, accessFlags := 1, code := some k11c9 }
def k11c10 : Code := { maxStack := 6, maxLocals := 9, code := prog_3_method_12_code, exceptionTable := #[], attributes := #[] }
def k11m10 : Method := { name := "trade", desc := "(JJ)V", sig := { parameters := [.long, .long], returnType := none }, accessFlags := 0, code := some k11c10 }
/-- com/example/fillwire/fillwire/book/Order -/
def k11 : Class := { plain "com/example/fillwire/fillwire/book/Order" (some 0) with
  accessFlags := 49
  interfaces := #[]
  cf := some (fileOf pool11 8 #[] #[{ accessFlags := 1, nameIndex := 5, descriptorIndex := 80, attributes := #[] }, { accessFlags := 1, nameIndex := 11, descriptorIndex := 60, attributes := #[] }, { accessFlags := 1, nameIndex := 19, descriptorIndex := 60, attributes := #[] }, { accessFlags := 1, nameIndex := 22, descriptorIndex := 60, attributes := #[] }, { accessFlags := 1, nameIndex := 25, descriptorIndex := 85, attributes := #[] }, { accessFlags := 1, nameIndex := 29, descriptorIndex := 60, attributes := #[] }, { accessFlags := 1, nameIndex := 87, descriptorIndex := 60, attributes := #[] }, { accessFlags := 1, nameIndex := 89, descriptorIndex := 60, attributes := #[] }, { accessFlags := 0, nameIndex := 90, descriptorIndex := 91, attributes := #[] }, { accessFlags := 1, nameIndex := 93, descriptorIndex := 6, attributes := #[] }, { accessFlags := 0, nameIndex := 94, descriptorIndex := 95, attributes := #[] }] 49 2 #[] #[{ accessFlags := 18, nameIndex := 15, descriptorIndex := 16, attributes := #[] }, { accessFlags := 2, nameIndex := 11, descriptorIndex := 12, attributes := #[] }, { accessFlags := 2, nameIndex := 19, descriptorIndex := 12, attributes := #[] }, { accessFlags := 2, nameIndex := 22, descriptorIndex := 12, attributes := #[] }, { accessFlags := 2, nameIndex := 25, descriptorIndex := 26, attributes := #[] }, { accessFlags := 2, nameIndex := 29, descriptorIndex := 12, attributes := #[] }, { accessFlags := 2, nameIndex := 32, descriptorIndex := 33, attributes := #[] }, { accessFlags := 2, nameIndex := 40, descriptorIndex := 12, attributes := #[] }, { accessFlags := 2, nameIndex := 36, descriptorIndex := 37, attributes := #[] }])
  fields := #[{ name := "side", type := (.object "com/example/fillwire/fillwire/book/Side"), accessFlags := 18, slot := 0, constantValue := 0 }, { name := "id", type := .long, accessFlags := 2, slot := 1, constantValue := 0 }, { name := "price", type := .long, accessFlags := 2, slot := 2, constantValue := 0 }, { name := "quantity", type := .long, accessFlags := 2, slot := 3, constantValue := 0 }, { name := "request", type := (.object "java/lang/Object"), accessFlags := 2, slot := 4, constantValue := 0 }, { name := "cumQty", type := .long, accessFlags := 2, slot := 5, constantValue := 0 }, { name := "cancelled", type := .boolean, accessFlags := 2, slot := 6, constantValue := 0 }, { name := "notional", type := .long, accessFlags := 2, slot := 7, constantValue := 0 }, { name := "largeNotional", type := (.object "java/math/BigDecimal"), accessFlags := 2, slot := 8, constantValue := 0 }]
  methods := #[k11m0, k11m1, k11m2, k11m3, k11m4, k11m5, k11m6, k11m7, k11m8, k11m9, k11m10]
  instanceTypes := #[(.object "com/example/fillwire/fillwire/book/Side"), .long, .long, .long, (.object "java/lang/Object"), .long, .boolean, .long, (.object "java/math/BigDecimal")]
  staticTypes := #[]
  resolved := Array.replicate 99 none
  statics := none }

def pool12 : Array CpInfo := pool [(1, .class_ 2), (0, u "java/lang/Math"), (1, .class_ 6), (1, u "java/lang/Object"), (0, u "<init>"), (0, u "()V"), (89, .class_ 100), (1, u "java/lang/Math$RandomNumberGeneratorHolder"), (20, u "(JJ)J"), (16, .long 4294967295), (3, u "multiplyHigh"), (29, u "negativeZeroFloatBits"), (0, u "J"), (2, u "negativeZeroDoubleBits"), (68, u "$assertionsDisabled"), (0, u "Z"), (91, u "twoToTheDoubleScaleDown"), (0, u "D"), (4, u "twoToTheDoubleScaleUp"), (9, u "E"), (3, u "PI"), (2, u "TAU"), (2, u "DEGREES_TO_RADIANS"), (0, u "RADIANS_TO_DEGREES")] 94

def k12m0 : Method := { name := "<init>", desc := "()V", sig := { parameters := [], returnType := none }, accessFlags := 2, code := none }
def k12c1 : Code := { maxStack := 6, maxLocals := 20, code := jdk_29_method_45_code, exceptionTable := #[], attributes := #[] }
def k12m1 : Method := { name := "multiplyHigh", desc := "(JJ)J", sig := { parameters := [.long, .long], returnType := some .long }, accessFlags := 9, code := some k12c1 }
/-- java/lang/Math -/
def k12 : Class := { plain "java/lang/Math" (some 0) with
  accessFlags := 49
  interfaces := #[]
  cf := some (fileOf pool12 1 #[.nestMembers #[98]] #[{ accessFlags := 2, nameIndex := 7, descriptorIndex := 8, attributes := #[] }, { accessFlags := 9, nameIndex := 142, descriptorIndex := 121, attributes := #[] }] 49 4 #[] #[{ accessFlags := 25, nameIndex := 354, descriptorIndex := 339, attributes := #[] }, { accessFlags := 25, nameIndex := 358, descriptorIndex := 339, attributes := #[] }, { accessFlags := 25, nameIndex := 361, descriptorIndex := 339, attributes := #[] }, { accessFlags := 26, nameIndex := 364, descriptorIndex := 339, attributes := #[] }, { accessFlags := 26, nameIndex := 365, descriptorIndex := 339, attributes := #[] }, { accessFlags := 26, nameIndex := 172, descriptorIndex := 173, attributes := #[] }, { accessFlags := 26, nameIndex := 176, descriptorIndex := 173, attributes := #[] }, { accessFlags := 8, nameIndex := 344, descriptorIndex := 339, attributes := #[] }, { accessFlags := 8, nameIndex := 338, descriptorIndex := 339, attributes := #[] }, { accessFlags := 4120, nameIndex := 245, descriptorIndex := 246, attributes := #[] }])
  fields := #[{ name := "E", type := .double, accessFlags := 25, slot := 0, constantValue := 0 }, { name := "PI", type := .double, accessFlags := 25, slot := 1, constantValue := 0 }, { name := "TAU", type := .double, accessFlags := 25, slot := 2, constantValue := 0 }, { name := "DEGREES_TO_RADIANS", type := .double, accessFlags := 26, slot := 3, constantValue := 0 }, { name := "RADIANS_TO_DEGREES", type := .double, accessFlags := 26, slot := 4, constantValue := 0 }, { name := "negativeZeroFloatBits", type := .long, accessFlags := 26, slot := 5, constantValue := 0 }, { name := "negativeZeroDoubleBits", type := .long, accessFlags := 26, slot := 6, constantValue := 0 }, { name := "twoToTheDoubleScaleUp", type := .double, accessFlags := 8, slot := 7, constantValue := 0 }, { name := "twoToTheDoubleScaleDown", type := .double, accessFlags := 8, slot := 8, constantValue := 0 }, { name := "$assertionsDisabled", type := .boolean, accessFlags := 4120, slot := 9, constantValue := 0 }]
  methods := #[k12m0, k12m1]
  instanceTypes := #[]
  staticTypes := #[.double, .double, .double, .double, .double, .long, .long, .double, .double, .boolean]
  resolved := Array.replicate 460 none
  statics := none }

def pool13 : Array CpInfo := pool [(1, u "java/lang/Cloneable"), (0, .class_ 1), (0, u "java/lang/Object"), (0, .class_ 3)] 3

/-- java/lang/Cloneable -/
def k13 : Class := { plain "java/lang/Cloneable" (some 0) with
  accessFlags := 1537
  interfaces := #[]
  cf := some (fileOf pool13 2 #[] #[] 1537 4 #[] #[])
  fields := #[]
  methods := #[]
  instanceTypes := #[]
  staticTypes := #[]
  resolved := Array.replicate 8 none
  statics := none }

/-- the primitive byte -/
def k14 : Class := { plain "byte" none with kind := .primitive 'B', accessFlags := 0x411 }
/-- [B -/
def k15 : Class := { plain "[B" (some 0) with kind := .array 14 .byte, interfaces := #[13, 4], accessFlags := 1041 }

/-- the primitive int -/
def k16 : Class := { plain "int" none with kind := .primitive 'I', accessFlags := 0x411 }
/-- [I -/
def k17 : Class := { plain "[I" (some 0) with kind := .array 16 .int, interfaces := #[13, 4], accessFlags := 1041 }

/-- [Ljava/lang/Long; -/
def k18 : Class := { plain "[Ljava/lang/Long;" (some 0) with kind := .array 9 (.object "java/lang/Long"), interfaces := #[13, 4], accessFlags := 1041 }

def heap : Heap := #[{ cls := 6, slots := #[.ref 259, .ref 260, .null], vm := .statics 6 },
  { cls := 10, slots := #[.ref 2, .null, .int 0], vm := .statics 10 },
  { cls := 18, slots := #[.ref 3, .ref 4, .ref 5, .ref 6, .ref 7, .ref 8, .ref 9, .ref 10, .ref 11, .ref 12, .ref 13, .ref 14, .ref 15, .ref 16, .ref 17, .ref 18, .ref 19, .ref 20, .ref 21, .ref 22, .ref 23, .ref 24, .ref 25, .ref 26, .ref 27, .ref 28, .ref 29, .ref 30, .ref 31, .ref 32, .ref 33, .ref 34, .ref 35, .ref 36, .ref 37, .ref 38, .ref 39, .ref 40, .ref 41, .ref 42, .ref 43, .ref 44, .ref 45, .ref 46, .ref 47, .ref 48, .ref 49, .ref 50, .ref 51, .ref 52, .ref 53, .ref 54, .ref 55, .ref 56, .ref 57, .ref 58, .ref 59, .ref 60, .ref 61, .ref 62, .ref 63, .ref 64, .ref 65, .ref 66, .ref 67, .ref 68, .ref 69, .ref 70, .ref 71, .ref 72, .ref 73, .ref 74, .ref 75, .ref 76, .ref 77, .ref 78, .ref 79, .ref 80, .ref 81, .ref 82, .ref 83, .ref 84, .ref 85, .ref 86, .ref 87, .ref 88, .ref 89, .ref 90, .ref 91, .ref 92, .ref 93, .ref 94, .ref 95, .ref 96, .ref 97, .ref 98, .ref 99, .ref 100, .ref 101, .ref 102, .ref 103, .ref 104, .ref 105, .ref 106, .ref 107, .ref 108, .ref 109, .ref 110, .ref 111, .ref 112, .ref 113, .ref 114, .ref 115, .ref 116, .ref 117, .ref 118, .ref 119, .ref 120, .ref 121, .ref 122, .ref 123, .ref 124, .ref 125, .ref 126, .ref 127, .ref 128, .ref 129, .ref 130, .ref 131, .ref 132, .ref 133, .ref 134, .ref 135, .ref 136, .ref 137, .ref 138, .ref 139, .ref 140, .ref 141, .ref 142, .ref 143, .ref 144, .ref 145, .ref 146, .ref 147, .ref 148, .ref 149, .ref 150, .ref 151, .ref 152, .ref 153, .ref 154, .ref 155, .ref 156, .ref 157, .ref 158, .ref 159, .ref 160, .ref 161, .ref 162, .ref 163, .ref 164, .ref 165, .ref 166, .ref 167, .ref 168, .ref 169, .ref 170, .ref 171, .ref 172, .ref 173, .ref 174, .ref 175, .ref 176, .ref 177, .ref 178, .ref 179, .ref 180, .ref 181, .ref 182, .ref 183, .ref 184, .ref 185, .ref 186, .ref 187, .ref 188, .ref 189, .ref 190, .ref 191, .ref 192, .ref 193, .ref 194, .ref 195, .ref 196, .ref 197, .ref 198, .ref 199, .ref 200, .ref 201, .ref 202, .ref 203, .ref 204, .ref 205, .ref 206, .ref 207, .ref 208, .ref 209, .ref 210, .ref 211, .ref 212, .ref 213, .ref 214, .ref 215, .ref 216, .ref 217, .ref 218, .ref 219, .ref 220, .ref 221, .ref 222, .ref 223, .ref 224, .ref 225, .ref 226, .ref 227, .ref 228, .ref 229, .ref 230, .ref 231, .ref 232, .ref 233, .ref 234, .ref 235, .ref 236, .ref 237, .ref 238, .ref 239, .ref 240, .ref 241, .ref 242, .ref 243, .ref 244, .ref 245, .ref 246, .ref 247, .ref 248, .ref 249, .ref 250, .ref 251, .ref 252, .ref 253, .ref 254, .ref 255, .ref 256, .ref 257, .ref 258], vm := .none },
  { cls := 9, slots := #[.long (-128)], vm := .none },
  { cls := 9, slots := #[.long (-127)], vm := .none },
  { cls := 9, slots := #[.long (-126)], vm := .none },
  { cls := 9, slots := #[.long (-125)], vm := .none },
  { cls := 9, slots := #[.long (-124)], vm := .none },
  { cls := 9, slots := #[.long (-123)], vm := .none },
  { cls := 9, slots := #[.long (-122)], vm := .none },
  { cls := 9, slots := #[.long (-121)], vm := .none },
  { cls := 9, slots := #[.long (-120)], vm := .none },
  { cls := 9, slots := #[.long (-119)], vm := .none },
  { cls := 9, slots := #[.long (-118)], vm := .none },
  { cls := 9, slots := #[.long (-117)], vm := .none },
  { cls := 9, slots := #[.long (-116)], vm := .none },
  { cls := 9, slots := #[.long (-115)], vm := .none },
  { cls := 9, slots := #[.long (-114)], vm := .none },
  { cls := 9, slots := #[.long (-113)], vm := .none },
  { cls := 9, slots := #[.long (-112)], vm := .none },
  { cls := 9, slots := #[.long (-111)], vm := .none },
  { cls := 9, slots := #[.long (-110)], vm := .none },
  { cls := 9, slots := #[.long (-109)], vm := .none },
  { cls := 9, slots := #[.long (-108)], vm := .none },
  { cls := 9, slots := #[.long (-107)], vm := .none },
  { cls := 9, slots := #[.long (-106)], vm := .none },
  { cls := 9, slots := #[.long (-105)], vm := .none },
  { cls := 9, slots := #[.long (-104)], vm := .none },
  { cls := 9, slots := #[.long (-103)], vm := .none },
  { cls := 9, slots := #[.long (-102)], vm := .none },
  { cls := 9, slots := #[.long (-101)], vm := .none },
  { cls := 9, slots := #[.long (-100)], vm := .none },
  { cls := 9, slots := #[.long (-99)], vm := .none },
  { cls := 9, slots := #[.long (-98)], vm := .none },
  { cls := 9, slots := #[.long (-97)], vm := .none },
  { cls := 9, slots := #[.long (-96)], vm := .none },
  { cls := 9, slots := #[.long (-95)], vm := .none },
  { cls := 9, slots := #[.long (-94)], vm := .none },
  { cls := 9, slots := #[.long (-93)], vm := .none },
  { cls := 9, slots := #[.long (-92)], vm := .none },
  { cls := 9, slots := #[.long (-91)], vm := .none },
  { cls := 9, slots := #[.long (-90)], vm := .none },
  { cls := 9, slots := #[.long (-89)], vm := .none },
  { cls := 9, slots := #[.long (-88)], vm := .none },
  { cls := 9, slots := #[.long (-87)], vm := .none },
  { cls := 9, slots := #[.long (-86)], vm := .none },
  { cls := 9, slots := #[.long (-85)], vm := .none },
  { cls := 9, slots := #[.long (-84)], vm := .none },
  { cls := 9, slots := #[.long (-83)], vm := .none },
  { cls := 9, slots := #[.long (-82)], vm := .none },
  { cls := 9, slots := #[.long (-81)], vm := .none },
  { cls := 9, slots := #[.long (-80)], vm := .none },
  { cls := 9, slots := #[.long (-79)], vm := .none },
  { cls := 9, slots := #[.long (-78)], vm := .none },
  { cls := 9, slots := #[.long (-77)], vm := .none },
  { cls := 9, slots := #[.long (-76)], vm := .none },
  { cls := 9, slots := #[.long (-75)], vm := .none },
  { cls := 9, slots := #[.long (-74)], vm := .none },
  { cls := 9, slots := #[.long (-73)], vm := .none },
  { cls := 9, slots := #[.long (-72)], vm := .none },
  { cls := 9, slots := #[.long (-71)], vm := .none },
  { cls := 9, slots := #[.long (-70)], vm := .none },
  { cls := 9, slots := #[.long (-69)], vm := .none },
  { cls := 9, slots := #[.long (-68)], vm := .none },
  { cls := 9, slots := #[.long (-67)], vm := .none },
  { cls := 9, slots := #[.long (-66)], vm := .none },
  { cls := 9, slots := #[.long (-65)], vm := .none },
  { cls := 9, slots := #[.long (-64)], vm := .none },
  { cls := 9, slots := #[.long (-63)], vm := .none },
  { cls := 9, slots := #[.long (-62)], vm := .none },
  { cls := 9, slots := #[.long (-61)], vm := .none },
  { cls := 9, slots := #[.long (-60)], vm := .none },
  { cls := 9, slots := #[.long (-59)], vm := .none },
  { cls := 9, slots := #[.long (-58)], vm := .none },
  { cls := 9, slots := #[.long (-57)], vm := .none },
  { cls := 9, slots := #[.long (-56)], vm := .none },
  { cls := 9, slots := #[.long (-55)], vm := .none },
  { cls := 9, slots := #[.long (-54)], vm := .none },
  { cls := 9, slots := #[.long (-53)], vm := .none },
  { cls := 9, slots := #[.long (-52)], vm := .none },
  { cls := 9, slots := #[.long (-51)], vm := .none },
  { cls := 9, slots := #[.long (-50)], vm := .none },
  { cls := 9, slots := #[.long (-49)], vm := .none },
  { cls := 9, slots := #[.long (-48)], vm := .none },
  { cls := 9, slots := #[.long (-47)], vm := .none },
  { cls := 9, slots := #[.long (-46)], vm := .none },
  { cls := 9, slots := #[.long (-45)], vm := .none },
  { cls := 9, slots := #[.long (-44)], vm := .none },
  { cls := 9, slots := #[.long (-43)], vm := .none },
  { cls := 9, slots := #[.long (-42)], vm := .none },
  { cls := 9, slots := #[.long (-41)], vm := .none },
  { cls := 9, slots := #[.long (-40)], vm := .none },
  { cls := 9, slots := #[.long (-39)], vm := .none },
  { cls := 9, slots := #[.long (-38)], vm := .none },
  { cls := 9, slots := #[.long (-37)], vm := .none },
  { cls := 9, slots := #[.long (-36)], vm := .none },
  { cls := 9, slots := #[.long (-35)], vm := .none },
  { cls := 9, slots := #[.long (-34)], vm := .none },
  { cls := 9, slots := #[.long (-33)], vm := .none },
  { cls := 9, slots := #[.long (-32)], vm := .none },
  { cls := 9, slots := #[.long (-31)], vm := .none },
  { cls := 9, slots := #[.long (-30)], vm := .none },
  { cls := 9, slots := #[.long (-29)], vm := .none },
  { cls := 9, slots := #[.long (-28)], vm := .none },
  { cls := 9, slots := #[.long (-27)], vm := .none },
  { cls := 9, slots := #[.long (-26)], vm := .none },
  { cls := 9, slots := #[.long (-25)], vm := .none },
  { cls := 9, slots := #[.long (-24)], vm := .none },
  { cls := 9, slots := #[.long (-23)], vm := .none },
  { cls := 9, slots := #[.long (-22)], vm := .none },
  { cls := 9, slots := #[.long (-21)], vm := .none },
  { cls := 9, slots := #[.long (-20)], vm := .none },
  { cls := 9, slots := #[.long (-19)], vm := .none },
  { cls := 9, slots := #[.long (-18)], vm := .none },
  { cls := 9, slots := #[.long (-17)], vm := .none },
  { cls := 9, slots := #[.long (-16)], vm := .none },
  { cls := 9, slots := #[.long (-15)], vm := .none },
  { cls := 9, slots := #[.long (-14)], vm := .none },
  { cls := 9, slots := #[.long (-13)], vm := .none },
  { cls := 9, slots := #[.long (-12)], vm := .none },
  { cls := 9, slots := #[.long (-11)], vm := .none },
  { cls := 9, slots := #[.long (-10)], vm := .none },
  { cls := 9, slots := #[.long (-9)], vm := .none },
  { cls := 9, slots := #[.long (-8)], vm := .none },
  { cls := 9, slots := #[.long (-7)], vm := .none },
  { cls := 9, slots := #[.long (-6)], vm := .none },
  { cls := 9, slots := #[.long (-5)], vm := .none },
  { cls := 9, slots := #[.long (-4)], vm := .none },
  { cls := 9, slots := #[.long (-3)], vm := .none },
  { cls := 9, slots := #[.long (-2)], vm := .none },
  { cls := 9, slots := #[.long (-1)], vm := .none },
  { cls := 9, slots := #[.long 0], vm := .none },
  { cls := 9, slots := #[.long 1], vm := .none },
  { cls := 9, slots := #[.long 2], vm := .none },
  { cls := 9, slots := #[.long 3], vm := .none },
  { cls := 9, slots := #[.long 4], vm := .none },
  { cls := 9, slots := #[.long 5], vm := .none },
  { cls := 9, slots := #[.long 6], vm := .none },
  { cls := 9, slots := #[.long 7], vm := .none },
  { cls := 9, slots := #[.long 8], vm := .none },
  { cls := 9, slots := #[.long 9], vm := .none },
  { cls := 9, slots := #[.long 10], vm := .none },
  { cls := 9, slots := #[.long 11], vm := .none },
  { cls := 9, slots := #[.long 12], vm := .none },
  { cls := 9, slots := #[.long 13], vm := .none },
  { cls := 9, slots := #[.long 14], vm := .none },
  { cls := 9, slots := #[.long 15], vm := .none },
  { cls := 9, slots := #[.long 16], vm := .none },
  { cls := 9, slots := #[.long 17], vm := .none },
  { cls := 9, slots := #[.long 18], vm := .none },
  { cls := 9, slots := #[.long 19], vm := .none },
  { cls := 9, slots := #[.long 20], vm := .none },
  { cls := 9, slots := #[.long 21], vm := .none },
  { cls := 9, slots := #[.long 22], vm := .none },
  { cls := 9, slots := #[.long 23], vm := .none },
  { cls := 9, slots := #[.long 24], vm := .none },
  { cls := 9, slots := #[.long 25], vm := .none },
  { cls := 9, slots := #[.long 26], vm := .none },
  { cls := 9, slots := #[.long 27], vm := .none },
  { cls := 9, slots := #[.long 28], vm := .none },
  { cls := 9, slots := #[.long 29], vm := .none },
  { cls := 9, slots := #[.long 30], vm := .none },
  { cls := 9, slots := #[.long 31], vm := .none },
  { cls := 9, slots := #[.long 32], vm := .none },
  { cls := 9, slots := #[.long 33], vm := .none },
  { cls := 9, slots := #[.long 34], vm := .none },
  { cls := 9, slots := #[.long 35], vm := .none },
  { cls := 9, slots := #[.long 36], vm := .none },
  { cls := 9, slots := #[.long 37], vm := .none },
  { cls := 9, slots := #[.long 38], vm := .none },
  { cls := 9, slots := #[.long 39], vm := .none },
  { cls := 9, slots := #[.long 40], vm := .none },
  { cls := 9, slots := #[.long 41], vm := .none },
  { cls := 9, slots := #[.long 42], vm := .none },
  { cls := 9, slots := #[.long 43], vm := .none },
  { cls := 9, slots := #[.long 44], vm := .none },
  { cls := 9, slots := #[.long 45], vm := .none },
  { cls := 9, slots := #[.long 46], vm := .none },
  { cls := 9, slots := #[.long 47], vm := .none },
  { cls := 9, slots := #[.long 48], vm := .none },
  { cls := 9, slots := #[.long 49], vm := .none },
  { cls := 9, slots := #[.long 50], vm := .none },
  { cls := 9, slots := #[.long 51], vm := .none },
  { cls := 9, slots := #[.long 52], vm := .none },
  { cls := 9, slots := #[.long 53], vm := .none },
  { cls := 9, slots := #[.long 54], vm := .none },
  { cls := 9, slots := #[.long 55], vm := .none },
  { cls := 9, slots := #[.long 56], vm := .none },
  { cls := 9, slots := #[.long 57], vm := .none },
  { cls := 9, slots := #[.long 58], vm := .none },
  { cls := 9, slots := #[.long 59], vm := .none },
  { cls := 9, slots := #[.long 60], vm := .none },
  { cls := 9, slots := #[.long 61], vm := .none },
  { cls := 9, slots := #[.long 62], vm := .none },
  { cls := 9, slots := #[.long 63], vm := .none },
  { cls := 9, slots := #[.long 64], vm := .none },
  { cls := 9, slots := #[.long 65], vm := .none },
  { cls := 9, slots := #[.long 66], vm := .none },
  { cls := 9, slots := #[.long 67], vm := .none },
  { cls := 9, slots := #[.long 68], vm := .none },
  { cls := 9, slots := #[.long 69], vm := .none },
  { cls := 9, slots := #[.long 70], vm := .none },
  { cls := 9, slots := #[.long 71], vm := .none },
  { cls := 9, slots := #[.long 72], vm := .none },
  { cls := 9, slots := #[.long 73], vm := .none },
  { cls := 9, slots := #[.long 74], vm := .none },
  { cls := 9, slots := #[.long 75], vm := .none },
  { cls := 9, slots := #[.long 76], vm := .none },
  { cls := 9, slots := #[.long 77], vm := .none },
  { cls := 9, slots := #[.long 78], vm := .none },
  { cls := 9, slots := #[.long 79], vm := .none },
  { cls := 9, slots := #[.long 80], vm := .none },
  { cls := 9, slots := #[.long 81], vm := .none },
  { cls := 9, slots := #[.long 82], vm := .none },
  { cls := 9, slots := #[.long 83], vm := .none },
  { cls := 9, slots := #[.long 84], vm := .none },
  { cls := 9, slots := #[.long 85], vm := .none },
  { cls := 9, slots := #[.long 86], vm := .none },
  { cls := 9, slots := #[.long 87], vm := .none },
  { cls := 9, slots := #[.long 88], vm := .none },
  { cls := 9, slots := #[.long 89], vm := .none },
  { cls := 9, slots := #[.long 90], vm := .none },
  { cls := 9, slots := #[.long 91], vm := .none },
  { cls := 9, slots := #[.long 92], vm := .none },
  { cls := 9, slots := #[.long 93], vm := .none },
  { cls := 9, slots := #[.long 94], vm := .none },
  { cls := 9, slots := #[.long 95], vm := .none },
  { cls := 9, slots := #[.long 96], vm := .none },
  { cls := 9, slots := #[.long 97], vm := .none },
  { cls := 9, slots := #[.long 98], vm := .none },
  { cls := 9, slots := #[.long 99], vm := .none },
  { cls := 9, slots := #[.long 100], vm := .none },
  { cls := 9, slots := #[.long 101], vm := .none },
  { cls := 9, slots := #[.long 102], vm := .none },
  { cls := 9, slots := #[.long 103], vm := .none },
  { cls := 9, slots := #[.long 104], vm := .none },
  { cls := 9, slots := #[.long 105], vm := .none },
  { cls := 9, slots := #[.long 106], vm := .none },
  { cls := 9, slots := #[.long 107], vm := .none },
  { cls := 9, slots := #[.long 108], vm := .none },
  { cls := 9, slots := #[.long 109], vm := .none },
  { cls := 9, slots := #[.long 110], vm := .none },
  { cls := 9, slots := #[.long 111], vm := .none },
  { cls := 9, slots := #[.long 112], vm := .none },
  { cls := 9, slots := #[.long 113], vm := .none },
  { cls := 9, slots := #[.long 114], vm := .none },
  { cls := 9, slots := #[.long 115], vm := .none },
  { cls := 9, slots := #[.long 116], vm := .none },
  { cls := 9, slots := #[.long 117], vm := .none },
  { cls := 9, slots := #[.long 118], vm := .none },
  { cls := 9, slots := #[.long 119], vm := .none },
  { cls := 9, slots := #[.long 120], vm := .none },
  { cls := 9, slots := #[.long 121], vm := .none },
  { cls := 9, slots := #[.long 122], vm := .none },
  { cls := 9, slots := #[.long 123], vm := .none },
  { cls := 9, slots := #[.long 124], vm := .none },
  { cls := 9, slots := #[.long 125], vm := .none },
  { cls := 9, slots := #[.long 126], vm := .none },
  { cls := 9, slots := #[.long 127], vm := .none },
  { cls := 6, slots := #[.null, .int 0, .int 0], vm := .none },
  { cls := 6, slots := #[.null, .int 1, .int 0], vm := .none }]
def classes : Array Class := #[k0, k1, k2, k3, k4, k5, k6, k7, k8, k9, k10, k11, k12, k13, k14, k15, k16, k17, k18]
def interned : List (Array UInt16 × Addr) := []
def slotsUsed : Nat := 524
def theMethod : MethodId := ⟨1, 1⟩
def args0 : Array Value := #[.long 5, .long 5, .long 5, .long 5, .long 5, .int 5]
def aboutOver (below : List Frame) : State where
  vm := { classes := classes, interned := interned.toArray }
  heap := heap
  slotsUsed := slotsUsed
  threads := #[{ frames := .invoking theMethod args0 :: below }]
def below0 : List Frame := [.native { method := ⟨0, 0⟩, args := #[] }]
def about1 : State := aboutOver below0
def p0 : Program := .bare "" "" ""
def e0 : Env := launch0.env 0 0 0
theorem w_frames : about1.frames = Frame.invoking theMethod args0 :: below0 := rfl
set_option maxRecDepth 65536 in
theorem w_args : argsFit about1.vm theMethod args0 = true := by decide +kernel
set_option maxRecDepth 65536 in
theorem w_heap : heapFits about1 = true := by decide +kernel
set_option maxRecDepth 65536 in
theorem w_runnable : about1.curStatus? = some .runnable := by decide +kernel
set_option maxRecDepth 65536 in
theorem w_alone : about1.alone = true := by decide +kernel
set_option maxRecDepth 65536 in
theorem w_named : about1.methodNamed? x = some theMethod := by decide +kernel
set_option maxRecDepth 65536 in
theorem w_hears : about1.hears theMethod below0 = true := by decide +kernel
set_option maxRecDepth 65536 in
theorem w_ripe : about1.ripe theMethod args0 below0 = true := by decide +kernel
theorem w_running : about1.status = .running := rfl
set_option maxRecDepth 65536 in
theorem w_room : about1.hasRoom e0.platform room_1 = true :=
  launch0.hasRoom_least _ room_1 (by decide +kernel) (by decide +kernel) (by decide +kernel) (by decide +kernel) (by decide +kernel) (by decide +kernel)
theorem allAtoms_all (ts : List Jvm.Cond) (a : Array Jvm.Value) (st : Jvm.State) : (allAtoms ts).before a st = ts.all (fun c => c.before a st) := by
  induction ts with
  | nil => rfl
  | cons c t ih =>
    show (Jvm.Cond.and c (allAtoms t)).before a st = _
    rw [Jvm.Cond.before_and, ih, List.all_cons]
def words1 : List Jvm.Cond := Jvm.Cond.code x code maxLocals ret :: tables_1
/-- a 'code' word, met by the world's own term for the bytes: nothing is compared byte by byte -/
theorem code_word {y : MethodName} {bytes : ByteArray} {mx : Nat} {rt : Option FieldType} {a : Array Value} {s : State} {m : MethodId} {meth : Method} {c : Code} (h1 : s.methodNamed? y = some m) (h2 : s.vm.method? m = some meth) (h3 : meth.code = some c) (h4 : c.code = bytes)
    (h5 : (c.maxLocals == mx && c.exceptionTable.isEmpty && decide (c.maxStack ≤ mostOperands) && decide (meth.sig.returnType = rt) && !meth.locks && decide (parseMethodDescriptor y.desc = some meth.sig)) = true) : (Jvm.Cond.code y bytes mx rt).before a s = true := by
  simp only [Bool.and_eq_true, beq_iff_eq, Bool.not_eq_true', decide_eq_true_eq] at h5
  obtain ⟨⟨⟨⟨⟨g1, g2⟩, g3⟩, g4⟩, g5⟩, g6⟩ := h5
  simp [Cond.before, Cond.holds, Cond.value, h1, h2, h3, h4, g1, g2, g3, g4, g5, g6]
def isCode : Jvm.Cond → Bool
  | .code _ _ _ _ => true
  | _ => false
theorem all_split {L : List Jvm.Cond} {P : Jvm.Cond → Bool} (h1 : L.all (fun c => isCode c || P c) = true) (h2 : ∀ c ∈ L.filter isCode, P c = true) : L.all P = true := by
  refine List.all_eq_true.mpr fun c hc => ?_
  have h := List.all_eq_true.mp h1 c hc
  rcases Bool.eq_false_or_eq_true (isCode c) with hi | hi
  · exact h2 c (List.mem_filter.mpr ⟨hc, hi⟩)
  · simpa [hi] using h
set_option maxRecDepth 65536 in
theorem w_c0 : (Jvm.Cond.code x code maxLocals ret).before args0 about1 = true := code_word (m := ⟨1, 1⟩) (meth := k1m1) (c := k1c1) (by decide +kernel) rfl rfl rfl (by decide +kernel)
set_option maxRecDepth 65536 in
theorem w_c1 : (Jvm.Cond.code ({ cls := "java/lang/Long", name := "valueOf", desc := "(J)Ljava/lang/Long;" } : Jvm.MethodName) jdk_35_method_24_code (3 : Nat) (Option.some (Jvm.ClassFile.FieldType.object "java/lang/Long"))).before args0 about1 = true := code_word (m := ⟨9, 0⟩) (meth := k9m0) (c := k9c0) (by decide +kernel) rfl rfl rfl (by decide +kernel)
set_option maxRecDepth 65536 in
theorem w_c2 : (Jvm.Cond.code ({ cls := "com/example/fillwire/fillwire/book/Order", name := "<init>", desc := "(JLcom/example/fillwire/fillwire/book/Side;JJLjava/lang/Object;)V" } : Jvm.MethodName) prog_3_method_1_code (9 : Nat) (Option.none : Option Jvm.ClassFile.FieldType)).before args0 about1 = true := code_word (m := ⟨11, 0⟩) (meth := k11m0) (c := k11c0) (by decide +kernel) rfl rfl rfl (by decide +kernel)
set_option maxRecDepth 65536 in
theorem w_c3 : (Jvm.Cond.code ({ cls := "java/lang/Object", name := "<init>", desc := "()V" } : Jvm.MethodName) object_method_1_code (1 : Nat) (Option.none : Option Jvm.ClassFile.FieldType)).before args0 about1 = true := code_word (m := ⟨0, 0⟩) (meth := k0m0) (c := k0c0) (by decide +kernel) rfl rfl rfl (by decide +kernel)
set_option maxRecDepth 65536 in
theorem w_c4 : (Jvm.Cond.code ({ cls := "com/example/fillwire/fillwire/book/Order", name := "cancel", desc := "()V" } : Jvm.MethodName) prog_3_method_11_code (1 : Nat) (Option.none : Option Jvm.ClassFile.FieldType)).before args0 about1 = true := code_word (m := ⟨11, 9⟩) (meth := k11m9) (c := k11c9) (by decide +kernel) rfl rfl rfl (by decide +kernel)
set_option maxRecDepth 65536 in
theorem w_c5 : (Jvm.Cond.code ({ cls := "com/example/fillwire/fillwire/book/Order", name := "modify", desc := "(JJJLjava/lang/Object;)V" } : Jvm.MethodName) prog_3_method_10_code (8 : Nat) (Option.none : Option Jvm.ClassFile.FieldType)).before args0 about1 = true := code_word (m := ⟨11, 8⟩) (meth := k11m8) (c := k11c8) (by decide +kernel) rfl rfl rfl (by decide +kernel)
set_option maxRecDepth 65536 in
theorem w_c6 : (Jvm.Cond.code ({ cls := "com/example/fillwire/fillwire/book/Order", name := "id", desc := "()J" } : Jvm.MethodName) prog_3_method_2_code (1 : Nat) (Option.some Jvm.ClassFile.FieldType.long)).before args0 about1 = true := code_word (m := ⟨11, 1⟩) (meth := k11m1) (c := k11c1) (by decide +kernel) rfl rfl rfl (by decide +kernel)
set_option maxRecDepth 65536 in
theorem w_c7 : (Jvm.Cond.code ({ cls := "com/example/fillwire/fillwire/book/Order", name := "price", desc := "()J" } : Jvm.MethodName) prog_3_method_4_code (1 : Nat) (Option.some Jvm.ClassFile.FieldType.long)).before args0 about1 = true := code_word (m := ⟨11, 2⟩) (meth := k11m2) (c := k11c2) (by decide +kernel) rfl rfl rfl (by decide +kernel)
set_option maxRecDepth 65536 in
theorem w_c8 : (Jvm.Cond.code ({ cls := "com/example/fillwire/fillwire/book/Order", name := "quantity", desc := "()J" } : Jvm.MethodName) prog_3_method_5_code (1 : Nat) (Option.some Jvm.ClassFile.FieldType.long)).before args0 about1 = true := code_word (m := ⟨11, 3⟩) (meth := k11m3) (c := k11c3) (by decide +kernel) rfl rfl rfl (by decide +kernel)
set_option maxRecDepth 65536 in
theorem w_c9 : (Jvm.Cond.code ({ cls := "com/example/fillwire/fillwire/book/Order", name := "request", desc := "()Ljava/lang/Object;" } : Jvm.MethodName) prog_3_method_6_code (1 : Nat) (Option.some (Jvm.ClassFile.FieldType.object "java/lang/Object"))).before args0 about1 = true := code_word (m := ⟨11, 4⟩) (meth := k11m4) (c := k11c4) (by decide +kernel) rfl rfl rfl (by decide +kernel)
set_option maxRecDepth 65536 in
theorem w_c10 : (Jvm.Cond.code ({ cls := "java/lang/Long", name := "longValue", desc := "()J" } : Jvm.MethodName) jdk_35_method_31_code (1 : Nat) (Option.some Jvm.ClassFile.FieldType.long)).before args0 about1 = true := code_word (m := ⟨9, 2⟩) (meth := k9m2) (c := k9c2) (by decide +kernel) rfl rfl rfl (by decide +kernel)
set_option maxRecDepth 65536 in
theorem w_c11 : (Jvm.Cond.code ({ cls := "com/example/fillwire/fillwire/book/Order", name := "cumQty", desc := "()J" } : Jvm.MethodName) prog_3_method_7_code (1 : Nat) (Option.some Jvm.ClassFile.FieldType.long)).before args0 about1 = true := code_word (m := ⟨11, 5⟩) (meth := k11m5) (c := k11c5) (by decide +kernel) rfl rfl rfl (by decide +kernel)
set_option maxRecDepth 65536 in
theorem w_c12 : (Jvm.Cond.code ({ cls := "com/example/fillwire/fillwire/book/Order", name := "leavesQty", desc := "()J" } : Jvm.MethodName) prog_3_method_8_code (1 : Nat) (Option.some Jvm.ClassFile.FieldType.long)).before args0 about1 = true := code_word (m := ⟨11, 6⟩) (meth := k11m6) (c := k11c6) (by decide +kernel) rfl rfl rfl (by decide +kernel)
set_option maxRecDepth 65536 in
theorem w_c13 : (Jvm.Cond.code ({ cls := "com/example/fillwire/fillwire/book/Order", name := "avgPx", desc := "()J" } : Jvm.MethodName) prog_3_method_9_code (5 : Nat) (Option.some Jvm.ClassFile.FieldType.long)).before args0 about1 = true := code_word (m := ⟨11, 7⟩) (meth := k11m7) (c := k11c7) (by decide +kernel) rfl rfl rfl (by decide +kernel)
set_option maxRecDepth 65536 in
theorem w_c14 : (Jvm.Cond.code ({ cls := "java/lang/Long", name := "<init>", desc := "(J)V" } : Jvm.MethodName) jdk_35_method_26_code (3 : Nat) (Option.none : Option Jvm.ClassFile.FieldType)).before args0 about1 = true := code_word (m := ⟨9, 1⟩) (meth := k9m1) (c := k9c1) (by decide +kernel) rfl rfl rfl (by decide +kernel)
set_option maxRecDepth 65536 in
theorem w_c15 : (Jvm.Cond.code ({ cls := "java/lang/Number", name := "<init>", desc := "()V" } : Jvm.MethodName) jdk_18_method_1_code (1 : Nat) (Option.none : Option Jvm.ClassFile.FieldType)).before args0 about1 = true := code_word (m := ⟨7, 0⟩) (meth := k7m0) (c := k7c0) (by decide +kernel) rfl rfl rfl (by decide +kernel)
set_option maxRecDepth 65536 in
theorem w_c16 : (Jvm.Cond.code ({ cls := "com/example/fillwire/fillwire/book/Order", name := "trade", desc := "(JJ)V" } : Jvm.MethodName) prog_3_method_12_code (9 : Nat) (Option.none : Option Jvm.ClassFile.FieldType)).before args0 about1 = true := code_word (m := ⟨11, 10⟩) (meth := k11m10) (c := k11c10) (by decide +kernel) rfl rfl rfl (by decide +kernel)
set_option maxRecDepth 65536 in
theorem w_c17 : (Jvm.Cond.code ({ cls := "java/lang/Math", name := "multiplyHigh", desc := "(JJ)J" } : Jvm.MethodName) jdk_29_method_45_code (20 : Nat) (Option.some Jvm.ClassFile.FieldType.long)).before args0 about1 = true := code_word (m := ⟨12, 1⟩) (meth := k12m1) (c := k12c1) (by decide +kernel) rfl rfl rfl (by decide +kernel)
def codes1 : List Jvm.Cond := [Jvm.Cond.code x code maxLocals ret, Jvm.Cond.code ({ cls := "java/lang/Long", name := "valueOf", desc := "(J)Ljava/lang/Long;" } : Jvm.MethodName) jdk_35_method_24_code (3 : Nat) (Option.some (Jvm.ClassFile.FieldType.object "java/lang/Long")), Jvm.Cond.code ({ cls := "com/example/fillwire/fillwire/book/Order", name := "<init>", desc := "(JLcom/example/fillwire/fillwire/book/Side;JJLjava/lang/Object;)V" } : Jvm.MethodName) prog_3_method_1_code (9 : Nat) (Option.none : Option Jvm.ClassFile.FieldType), Jvm.Cond.code ({ cls := "java/lang/Object", name := "<init>", desc := "()V" } : Jvm.MethodName) object_method_1_code (1 : Nat) (Option.none : Option Jvm.ClassFile.FieldType), Jvm.Cond.code ({ cls := "com/example/fillwire/fillwire/book/Order", name := "cancel", desc := "()V" } : Jvm.MethodName) prog_3_method_11_code (1 : Nat) (Option.none : Option Jvm.ClassFile.FieldType), Jvm.Cond.code ({ cls := "com/example/fillwire/fillwire/book/Order", name := "modify", desc := "(JJJLjava/lang/Object;)V" } : Jvm.MethodName) prog_3_method_10_code (8 : Nat) (Option.none : Option Jvm.ClassFile.FieldType), Jvm.Cond.code ({ cls := "com/example/fillwire/fillwire/book/Order", name := "id", desc := "()J" } : Jvm.MethodName) prog_3_method_2_code (1 : Nat) (Option.some Jvm.ClassFile.FieldType.long), Jvm.Cond.code ({ cls := "com/example/fillwire/fillwire/book/Order", name := "price", desc := "()J" } : Jvm.MethodName) prog_3_method_4_code (1 : Nat) (Option.some Jvm.ClassFile.FieldType.long), Jvm.Cond.code ({ cls := "com/example/fillwire/fillwire/book/Order", name := "quantity", desc := "()J" } : Jvm.MethodName) prog_3_method_5_code (1 : Nat) (Option.some Jvm.ClassFile.FieldType.long), Jvm.Cond.code ({ cls := "com/example/fillwire/fillwire/book/Order", name := "request", desc := "()Ljava/lang/Object;" } : Jvm.MethodName) prog_3_method_6_code (1 : Nat) (Option.some (Jvm.ClassFile.FieldType.object "java/lang/Object")), Jvm.Cond.code ({ cls := "java/lang/Long", name := "longValue", desc := "()J" } : Jvm.MethodName) jdk_35_method_31_code (1 : Nat) (Option.some Jvm.ClassFile.FieldType.long), Jvm.Cond.code ({ cls := "com/example/fillwire/fillwire/book/Order", name := "cumQty", desc := "()J" } : Jvm.MethodName) prog_3_method_7_code (1 : Nat) (Option.some Jvm.ClassFile.FieldType.long), Jvm.Cond.code ({ cls := "com/example/fillwire/fillwire/book/Order", name := "leavesQty", desc := "()J" } : Jvm.MethodName) prog_3_method_8_code (1 : Nat) (Option.some Jvm.ClassFile.FieldType.long), Jvm.Cond.code ({ cls := "com/example/fillwire/fillwire/book/Order", name := "avgPx", desc := "()J" } : Jvm.MethodName) prog_3_method_9_code (5 : Nat) (Option.some Jvm.ClassFile.FieldType.long), Jvm.Cond.code ({ cls := "java/lang/Long", name := "<init>", desc := "(J)V" } : Jvm.MethodName) jdk_35_method_26_code (3 : Nat) (Option.none : Option Jvm.ClassFile.FieldType), Jvm.Cond.code ({ cls := "java/lang/Number", name := "<init>", desc := "()V" } : Jvm.MethodName) jdk_18_method_1_code (1 : Nat) (Option.none : Option Jvm.ClassFile.FieldType), Jvm.Cond.code ({ cls := "com/example/fillwire/fillwire/book/Order", name := "trade", desc := "(JJ)V" } : Jvm.MethodName) prog_3_method_12_code (9 : Nat) (Option.none : Option Jvm.ClassFile.FieldType), Jvm.Cond.code ({ cls := "java/lang/Math", name := "multiplyHigh", desc := "(JJ)J" } : Jvm.MethodName) jdk_29_method_45_code (20 : Nat) (Option.some Jvm.ClassFile.FieldType.long)]
set_option maxRecDepth 65536 in
theorem codes_eq : words1.filter isCode = codes1 := rfl
theorem w_codes : ∀ c ∈ words1.filter isCode, c.before args0 about1 = true := by
  rw [codes_eq]
  intro c hc
  simp only [codes1, List.mem_cons, List.not_mem_nil, or_false] at hc
  rcases hc with rfl | rfl | rfl | rfl | rfl | rfl | rfl | rfl | rfl | rfl | rfl | rfl | rfl | rfl | rfl | rfl | rfl | rfl
  · exact w_c0
  · exact w_c1
  · exact w_c2
  · exact w_c3
  · exact w_c4
  · exact w_c5
  · exact w_c6
  · exact w_c7
  · exact w_c8
  · exact w_c9
  · exact w_c10
  · exact w_c11
  · exact w_c12
  · exact w_c13
  · exact w_c14
  · exact w_c15
  · exact w_c16
  · exact w_c17
set_option maxRecDepth 65536 in
theorem w_t1 : (words1.take 24).all (fun c => isCode c || c.before args0 about1) = true := by decide +kernel
set_option maxRecDepth 65536 in
theorem w_t2 : ((words1.drop 24).take 24).all (fun c => isCode c || c.before args0 about1) = true := by decide +kernel
set_option maxRecDepth 65536 in
theorem w_t3 : (((words1.drop 24).drop 24).take 24).all (fun c => isCode c || c.before args0 about1) = true := by decide +kernel
set_option maxRecDepth 65536 in
theorem w_t4 : ((((words1.drop 24).drop 24).drop 24).take 24).all (fun c => isCode c || c.before args0 about1) = true := by decide +kernel
set_option maxRecDepth 65536 in
theorem w_t5 : ((((words1.drop 24).drop 24).drop 24).drop 24).all (fun c => isCode c || c.before args0 about1) = true := by decide +kernel
theorem w_tables : (allAtoms (Jvm.Cond.code x code maxLocals ret :: tables_1)).before args0 about1 = true := by
  rw [allAtoms_all]
  show words1.all (fun c => c.before args0 about1) = true
  refine all_split ?_ w_codes
  rw [← List.take_append_drop 24 words1, List.all_append, w_t1, ← List.take_append_drop 24 (words1.drop 24), List.all_append, w_t2, ← List.take_append_drop 24 ((words1.drop 24).drop 24), List.all_append, w_t3, ← List.take_append_drop 24 (((words1.drop 24).drop 24).drop 24), List.all_append, w_t4, w_t5]
  rfl
set_option maxRecDepth 65536 in
theorem w_rest : rest_1_c.before args0 about1 = true := by decide +kernel
set_option maxRecDepth 65536 in
theorem w_case : (Jvm.Cond.and given_1 narrow_1).before args0 about1 = true := by decide +kernel
theorem w_applies : (headSpec (Jvm.Cond.code x code maxLocals ret :: tables_1) room_1).applies x e0.platform about1 = true :=
  (Spec.applies_iff w_frames).mpr ⟨w_running, w_runnable, w_alone, w_named, w_hears, w_ripe, w_room, w_tables⟩
theorem atStart : AtStart classFile x code maxLocals ret World_1 tables_1 room_1 Calls_1 rest_1 Pre_1 launch0 p0 e0 about1 theMethod args0 below0 :=
  ⟨lists_1, trivial, launch0.admits_env _ _ _, launch0.least_env, fairChoices_fair.cas, fairChoices_fair.clock, w_frames, w_args, w_heap, w_applies, trivial, w_rest, w_case⟩
end start1
theorem witness_1 : WitnessClaimed_1 := ⟨start1.p0, start1.e0, start1.about1, start1.theMethod, start1.args0, start1.below0, start1.atStart⟩
end Jvm.Pilot.@@N@@
