import JvmDerived
import JvmDerived.Pilot.@@N@@Statement
import JvmDerived.Pilot.@@N@@Code
set_option linter.unusedVariables false
set_option linter.unusedSimpArgs false
namespace Jvm.RoadKit
theorem Old.own_le {Z : State} {h : Heap} {n0 : Nat} (O : Old Z n0 h) : n0 ≤ h.size := O.1 ▸ O.2.1
end Jvm.RoadKit
namespace Jvm.OwnKit
open Sem ClassFile Op Lib Jvm.Stand Jvm.Free Jvm.LawKit Jvm.RoadKit
section Kit
variable {p : Program} {l : Launch} {e : Env} {R : Room} {s : State} {m : MethodId} {args : Array Value} {below : List Frame} {meth : Method} {c : Code} {T : State} {locs : List Loc} {cells slots : Nat} {Z : State} {a0 : Array Value} {h h0 : Heap} {Q : Option Value → Heap → List Loc → Prop} {k n : Nat}
/-- from the state A on the body comes to its end; Q says what it leaves -/
def Fin (p : Program) (e : Env) (below : List Frame) (s : State) (Q : Option Value → Heap → List Loc → Prop) (k n : Nat) (A : State) : Prop :=
  ∃ s₂ o, Steps p.tables e below A s₂ ∧ s₂.status = .running ∧ Ended s₂ below o ∧ ∃ v L, o = .returned v ∧ Q v s₂.heap L ∧ FrameEnd s o s₂ L k n
theorem Fin.st {A B : State} (hs : ∀ t, Steps p.tables e below B t → Steps p.tables e below A t) (f : Fin p e below s Q k n B) : Fin p e below s Q k n A := by
  obtain ⟨s2, o, h1, r⟩ := f; exact ⟨s2, o, hs _ h1, r⟩
/-- the contract of a body: called with as at the heap h0 -/
abbrev Con (l : Launch) (Z : State) (h0 : Heap) (x : MethodName) (bytes : ByteArray) (maxL : Nat) (ret : Option FieldType) (ws : List Cond) (rm : Room) (as : Array Value) (Q : Option Value → Heap → List Loc → Prop) : Prop :=
  MetFree l x (head1 (Cond.code x bytes maxL ret :: ws) rm) (fun a U => a = as ∧ Z.Warmed39 U.vm ∧ U.heap = h0) (fun _ _ _ _ _ => True) (fun _ U o U' => ∃ v L, o = .returned v ∧ Q v U'.heap L ∧ FrameEnd U o U' L rm.cells rm.slots)
theorem Con.of {x : MethodName} {bytes : ByteArray} {maxL : Nat} {ret : Option FieldType} {ws : List Cond} {rm : Room} {as : Array Value} (hn : plainName x.cls = true) {f0 : MethodId → JFrame} (hf0 : ∀ m, entryFrame m as maxL = f0 m)
    (body : ∀ (p : Program) (e : Env) (s : State) (m : MethodId) (below : List Frame) (meth : Method) (c : Code) (T : State), p.tables.exec = Jvm.exec → c.code = bytes → c.maxLocals = maxL → s.vm.findClass x.cls = some m.cls → meth.name = x.name → meth.sig.returnType = ret → meth.locks = false → Z.Warmed39 s.vm →
      Stand p l e rm s m as below meth c T [] 0 0 → T.heap = h0 → Fin p e below s Q rm.cells rm.slots (T.setTop (f0 m))) : Con l Z h0 x bytes maxL ret ws rm as Q := by
  refine MetFree.of_bodySF (plainFor_of_name hn) hisR ?_
  intro p e s m args below meth c s₁ Bd hml0 hP hK
  obtain ⟨rfl, hZ, hh⟩ := hP
  have X0 : Stand p l e rm s m args below meth c s₁ [] 0 0 := Stand.of_body Bd
  have e0 : s₁.heap = h0 := by rw [← hh, Bd.state]; rfl
  have q := body p e s m below meth c s₁ Bd.exec Bd.bytes hml0 (findClass_of_methodNamed Bd.named) (name_of_methodNamed Bd.named Bd.method).1 Bd.returns (BodyLoose.notSynchronized Bd) hZ X0 e0
  rw [hf0 m]
  exact q
/-- a paid call -/
abbrev Pay (l : Launch) (R : Room) (p : Program) (e : Env) (below : List Frame) (s : State) (args : Array Value) (y : MethodName) (len W : Nat) (as : Array Value) (h : Heap) (rc rs : Nat) (Q : Option Value → Heap → List Loc → Prop) : Prop :=
  Back l R p e below s args y len W (fun A a => a = as ∧ A.U.heap = h ∧ A.cells + rc ≤ R.cells ∧ A.slots + rs ≤ R.slots) (fun A _ v B => ∃ L, Q v B.U.heap L ∧ B.locs = A.locs ++ L ∧ B.cells = A.cells + rc ∧ B.slots = A.slots + rs)
theorem Con.pay {y : MethodName} {bytes : ByteArray} {maxL : Nat} {ret : Option FieldType} {rm : Room} {len W : Nat} {as : Array Value} (hM : Con l Z h y bytes maxL ret [] rm as Q)
    (hZ : Z.Warmed39 s.vm) (wc : (Cond.code y bytes maxL ret).before a0 Z = true) (wz : (Cond.initialized y.cls).before a0 Z = true) (hf : rm.frames + 1 ≤ R.frames) (hl : W + (maxL + 11) + rm.locals ≤ R.locals) : Pay l R p e below s args y len W as h rm.cells rm.slots Q :=
  backOf hM hZ wc wz hf hl
theorem goI (X : Stand p l e R s m args below meth c T locs cells slots) (hx : p.tables.exec = Jvm.exec) (hZ : Z.Warmed39 s.vm) {own : String} (hown : s.vm.findClass own = some m.cls) {index : Nat} {y : MethodName} (hy1 : y.name = "<init>") (w1 : (Cond.methodLink own index y).before a0 Z = true) (w2 : (Cond.instanceMethod y).before a0 Z = true)
    {bytes : ByteArray} {maxL : Nat} (w3 : (Cond.code y bytes maxL none).before a0 Z = true) (hy : y.cls ≠ "java/lang/invoke/MethodHandle" ∧ y.cls ≠ "java/lang/invoke/VarHandle") {W rc rs : Nat} {as : Array Value} (hK : Pay l R p e below s args y 3 W as h rc rs Q) (eT : T.heap = h)
    {g : JFrame} (hg : g.method = m) (hsize : g.locals.size = c.maxLocals) {a : Addr} (argsL rest : List Value) (hlen : ∀ sig, parseMethodDescriptor y.desc = some sig → argsL.length = sig.parameters.length) (hstack : g.stack = argsL.reverse ++ .ref a :: rest) (hW : 2 * g.monitorRoom + (rest.map fun v => v.category).sum ≤ W)
    (hdg : decode c.code g.pc = .ok (.invokespecial index, 3)) (has : (Value.ref a :: argsL).toArray = as) (hc : cells + rc ≤ R.cells) (hs : slots + rs ≤ R.slots) :
    ∃ (v : Option Value) (T' : State) (h' : Heap) (L : List Loc), Stand p l e R s m args below meth c T' (locs ++ L) (cells + rc) (slots + rs) ∧ T'.heap = h' ∧ Q v h' L ∧ ∀ t, Steps p.tables e below (T'.setTop { g with pc := g.pc + 3, stack := v.toList ++ rest }) t → Steps p.tables e below (T.setTop g) t := by
  obtain ⟨v, _, ⟨T', L', k', n'⟩, -, X', ⟨L, hQ, l1, y1, z1⟩, st⟩ := X.specialBack hx hy1 hown (mvT hZ w1) (mvT hZ w2) (mvT hZ w3) hy hK hg hsize (Steps.refl _) hlen hstack hW hdg (fun _ _ => ⟨has, eT, hc, hs⟩)
  dsimp only [Pt.U, Pt.locs, Pt.cells, Pt.slots] at X' l1 y1 z1 st hQ
  subst l1 y1 z1
  exact ⟨v, T', _, L, X', rfl, hQ, fun t q => st.trans q⟩
theorem goV (X : Stand p l e R s m args below meth c T locs cells slots) (hx : p.tables.exec = Jvm.exec) (hZ : Z.Warmed39 s.vm) {own : String} (hown : s.vm.findClass own = some m.cls) {index : Nat} {C : String} {y z : MethodName} (w1 : (Cond.methodLink own index y).before a0 Z = true) (w2 : (Cond.declares y).before a0 Z = true)
    (w3 : (Cond.selects C y z).before a0 Z = true) (nf : NotFace s y) (w4 : (Cond.instanceMethod z).before a0 Z = true) (hy : y.cls ≠ "java/lang/invoke/MethodHandle" ∧ y.cls ≠ "java/lang/invoke/VarHandle") {W rc rs : Nat} {as : Array Value} (hK : Pay l R p e below s args z 3 W as h rc rs Q) (eT : T.heap = h) {a : Addr} (E : Exa Z h a C)
    {g : JFrame} (hg : g.method = m) (hsize : g.locals.size = c.maxLocals) (argsL rest : List Value) (hlen : ∀ sig, parseMethodDescriptor y.desc = some sig → argsL.length = sig.parameters.length) (hstack : g.stack = argsL.reverse ++ .ref a :: rest) (hW : 2 * g.monitorRoom + (rest.map fun v => v.category).sum ≤ W)
    (hdg : decode c.code g.pc = .ok (.invokevirtual index, 3)) (has : (Value.ref a :: argsL).toArray = as) (hc : cells + rc ≤ R.cells) (hs : slots + rs ≤ R.slots) :
    ∃ (v : Option Value) (T' : State) (h' : Heap) (L : List Loc), Stand p l e R s m args below meth c T' (locs ++ L) (cells + rc) (slots + rs) ∧ T'.heap = h' ∧ Q v h' L ∧ ∀ t, Steps p.tables e below (T'.setTop { g with pc := g.pc + 3, stack := v.toList ++ rest }) t → Steps p.tables e below (T.setTop g) t := by
  obtain ⟨cB, kB, q1, -, q3⟩ := isOf hZ eT E
  obtain ⟨v, _, ⟨T', L', k', n'⟩, -, X', ⟨L, hQ, l1, y1, z1⟩, st⟩ := X.virtualBack hx hown (mvT hZ w1) (mvT hZ w2) nf (mvT hZ w3) (mvT hZ w4) hy hK q1 q3 hg hsize (Steps.refl _) hlen hstack hW hdg (fun _ _ => ⟨has, eT, hc, hs⟩)
  dsimp only [Pt.U, Pt.locs, Pt.cells, Pt.slots] at X' l1 y1 z1 st hQ
  subst l1 y1 z1
  exact ⟨v, T', _, L, X', rfl, hQ, fun t q => st.trans q⟩
theorem goS (X : Stand p l e R s m args below meth c T locs cells slots) (hx : p.tables.exec = Jvm.exec) (hZ : Z.Warmed39 s.vm) {own : String} (hown : s.vm.findClass own = some m.cls) {index : Nat} {y : MethodName} (w1 : (Cond.methodLink own index y).before a0 Z = true) (w2 : (Cond.static y).before a0 Z = true) (w3 : (Cond.initialized y.cls).before a0 Z = true)
    {bytes : ByteArray} {maxL : Nat} {ret : Option FieldType} (w4 : (Cond.code y bytes maxL ret).before a0 Z = true) (hy : y.cls ≠ "java/lang/invoke/MethodHandle" ∧ y.cls ≠ "java/lang/invoke/VarHandle") {W rc rs : Nat} {as : Array Value} (hK : Pay l R p e below s args y 3 W as h rc rs Q) (eT : T.heap = h)
    {g : JFrame} (hg : g.method = m) (hsize : g.locals.size = c.maxLocals) (argsL rest : List Value) (hlen : ∀ sig, parseMethodDescriptor y.desc = some sig → argsL.length = sig.parameters.length) (hstack : g.stack = argsL.reverse ++ rest) (hW : 2 * g.monitorRoom + (rest.map fun v => v.category).sum ≤ W)
    (hdg : decode c.code g.pc = .ok (.invokestatic index, 3)) (has : argsL.toArray = as) (hc : cells + rc ≤ R.cells) (hs : slots + rs ≤ R.slots) :
    ∃ (v : Option Value) (T' : State) (h' : Heap) (L : List Loc), Stand p l e R s m args below meth c T' (locs ++ L) (cells + rc) (slots + rs) ∧ T'.heap = h' ∧ Q v h' L ∧ ∀ t, Steps p.tables e below (T'.setTop { g with pc := g.pc + 3, stack := v.toList ++ rest }) t → Steps p.tables e below (T.setTop g) t := by
  obtain ⟨v, _, ⟨T', L', k', n'⟩, -, X', ⟨L, hQ, l1, y1, z1⟩, st⟩ := Jvm.LawKit.callS X hx hown (mvT hZ w1) (mvT hZ w2) (mvT hZ w3) (mvT hZ w4) hy hK hg hsize hlen hstack hW hdg (fun _ _ => ⟨has, eT, hc, hs⟩)
  dsimp only [Pt.U, Pt.locs, Pt.cells, Pt.slots] at X' l1 y1 z1 st hQ
  subst l1 y1 z1
  exact ⟨v, T', _, L, X', rfl, hQ, st⟩
/-! the ends of a body -/
theorem fin_of (X : Stand p l e R s m args below meth c T locs cells slots) (hlk : meth.locks = false) {v : Option Value} (hv : meth.sig.returnType = none → v = none) {A : State} (eT : T.heap = h) (q : Q v h locs) (hc : cells ≤ k) (hs : slots ≤ n)
    (hst : ∀ fs, (∀ (f : JFrame) (acts : List Action), f.method = m → f.locked = none → f.entered = [] → (doReturn e (T.setTop f) acts v).1 = T.setFrames fs) → Steps p.tables e below A (T.setFrames fs)) : Fin p e below s Q k n A := by
  obtain ⟨fs, hr, hrun, hended, hW, hsame⟩ := X.leave (v := v) hv hlk
  refine ⟨_, _, hst fs hr, hrun, hended, v, locs, rfl, ?_, ⟨_, rfl⟩, hW, hsame.mono hc hs⟩
  show Q v T.heap locs
  rw [eT]; exact q
theorem finV (X : Stand p l e R s m args below meth c T locs cells slots) (hx : p.tables.exec = Jvm.exec) (hlk : meth.locks = false) (hret : meth.sig.returnType = none) {pc : Nat} {Ls : Array Slot} (hd : decode c.code pc = .ok (.return_, 1)) (eT : T.heap = h) (q : Q none h locs) (hc : cells ≤ k) (hs : slots ≤ n) : Fin p e below s Q k n (T.setTop (mkF m pc Ls [])) :=
  fin_of X hlk (fun _ => rfl) eT q hc hs fun fs hr => X.returnOut hx hret hd hr
theorem finO (X : Stand p l e R s m args below meth c T locs cells slots) (hx : p.tables.exec = Jvm.exec) (hlk : meth.locks = false) {t : FieldType} {w : Value} {i : Instr} {rest : List Value} (hret : meth.sig.returnType = some t) (hn : narrow t w = w)
    (hi : (i = .ireturn ∧ (t = .int ∨ t = .boolean ∨ t = .byte ∨ t = .char ∨ t = .short) ∧ ∃ z, w = .int z) ∨ (i = .lreturn ∧ t = .long ∧ ∃ z, w = .long z) ∨ (i = .dreturn ∧ t = .double ∧ ∃ z, w = .double z) ∨ (i = .freturn ∧ t = .float ∧ ∃ z, w = .float z) ∨ (i = .areturn ∧ t.isReference = true ∧ w.isRef = true))
    {pc : Nat} {Ls : Array Slot} (hd : decode c.code pc = .ok (i, 1)) (eT : T.heap = h) (q : Q (some w) h locs) (hc : cells ≤ k) (hs : slots ≤ n) : Fin p e below s Q k n (T.setTop (mkF m pc Ls (w :: rest))) :=
  fin_of X hlk (fun hq => by rw [hret] at hq; cases hq) eT q hc hs fun fs hr => retOut X hx hret hn hi hd hr
theorem finI (X : Stand p l e R s m args below meth c T locs cells slots) (hx : p.tables.exec = Jvm.exec) (hlk : meth.locks = false) {z : Int32} {rest : List Value} (hret : meth.sig.returnType = some .int) {pc : Nat} {Ls : Array Slot} (hd : decode c.code pc = .ok (.ireturn, 1)) (eT : T.heap = h) (q : Q (some (.int z)) h locs) (hc : cells ≤ k) (hs : slots ≤ n) : Fin p e below s Q k n (T.setTop (mkF m pc Ls (.int z :: rest))) :=
  finO X hx hlk hret rfl (Or.inl ⟨rfl, Or.inl rfl, z, rfl⟩) hd eT q hc hs
theorem finL (X : Stand p l e R s m args below meth c T locs cells slots) (hx : p.tables.exec = Jvm.exec) (hlk : meth.locks = false) {z : Int64} {rest : List Value} (hret : meth.sig.returnType = some .long) {pc : Nat} {Ls : Array Slot} (hd : decode c.code pc = .ok (.lreturn, 1)) (eT : T.heap = h) (q : Q (some (.long z)) h locs) (hc : cells ≤ k) (hs : slots ≤ n) : Fin p e below s Q k n (T.setTop (mkF m pc Ls (.long z :: rest))) :=
  finO X hx hlk hret rfl (Or.inr (Or.inl ⟨rfl, rfl, z, rfl⟩)) hd eT q hc hs
theorem finA (X : Stand p l e R s m args below meth c T locs cells slots) (hx : p.tables.exec = Jvm.exec) (hlk : meth.locks = false) {t : FieldType} {w : Value} {rest : List Value} (hret : meth.sig.returnType = some t) (ht : t.isReference = true) (hw : w.isRef = true) (hn : narrow t w = w) {pc : Nat} {Ls : Array Slot} (hd : decode c.code pc = .ok (.areturn, 1)) (eT : T.heap = h) (q : Q (some w) h locs) (hc : cells ≤ k) (hs : slots ≤ n) : Fin p e below s Q k n (T.setTop (mkF m pc Ls (w :: rest))) :=
  finO X hx hlk hret hn (Or.inr (Or.inr (Or.inr (Or.inr ⟨rfl, ht, hw⟩)))) hd eT q hc hs
theorem finN (X : Stand p l e R s m args below meth c T locs cells slots) (hx : p.tables.exec = Jvm.exec) (hlk : meth.locks = false) {t : FieldType} {z : Int32} {rest : List Value} (hret : meth.sig.returnType = some t) (ht : t = .boolean ∨ t = .byte ∨ t = .char ∨ t = .short) {pc : Nat} {Ls : Array Slot} (hd : decode c.code pc = .ok (.ireturn, 1)) (eT : T.heap = h) (q : Q (some (.int (nar t z))) h locs) (hc : cells ≤ k) (hs : slots ≤ n) : Fin p e below s Q k n (T.setTop (mkF m pc Ls (.int z :: rest))) :=
  fin_of X hlk (fun hq => by rw [hret] at hq; cases hq) eT q hc hs fun fs hr => retN X hx hret ht hd hr
/-! the branches, by what holds -/
theorem ieq {x y : Int32} (h : x = y) : if_icmp.holds .eq x y = true := (teq h).1
theorem ieqN {x y : Int32} (h : ¬ x = y) : if_icmp.holds .eq x y = false := (feq h).1
theorem ine {x y : Int32} (h : ¬ x = y) : if_icmp.holds .ne x y = true := (feq h).2
theorem ineN {x y : Int32} (h : x = y) : if_icmp.holds .ne x y = false := (teq h).2
theorem ilt {x y : Int32} (h : x < y) : if_icmp.holds .lt x y = true := (tlt h).1
theorem iltN {x y : Int32} (h : ¬ x < y) : if_icmp.holds .lt x y = false := (flt h).1
theorem ige {x y : Int32} (h : ¬ x < y) : if_icmp.holds .ge x y = true := (flt h).2.1
theorem igeN {x y : Int32} (h : x < y) : if_icmp.holds .ge x y = false := (tlt h).2.1
theorem igt {x y : Int32} (h : y < x) : if_icmp.holds .gt x y = true := (tlt h).2.2.1
theorem igtN {x y : Int32} (h : ¬ y < x) : if_icmp.holds .gt x y = false := (flt h).2.2.1
theorem ile {x y : Int32} (h : ¬ y < x) : if_icmp.holds .le x y = true := (flt h).2.2.2
theorem ileN {x y : Int32} (h : y < x) : if_icmp.holds .le x y = false := (tlt h).2.2.2
theorem zeq {x : Int32} (h : x = 0) : ifCond.holds .eq x = true := (if0 _ _).trans (ieq h)
theorem zeqN {x : Int32} (h : ¬ x = 0) : ifCond.holds .eq x = false := (if0 _ _).trans (ieqN h)
theorem zne {x : Int32} (h : ¬ x = 0) : ifCond.holds .ne x = true := (if0 _ _).trans (ine h)
theorem zneN {x : Int32} (h : x = 0) : ifCond.holds .ne x = false := (if0 _ _).trans (ineN h)
theorem zlt {x : Int32} (h : x < 0) : ifCond.holds .lt x = true := (if0 _ _).trans (ilt h)
theorem zltN {x : Int32} (h : ¬ x < 0) : ifCond.holds .lt x = false := (if0 _ _).trans (iltN h)
theorem zge {x : Int32} (h : ¬ x < 0) : ifCond.holds .ge x = true := (if0 _ _).trans (ige h)
theorem zgeN {x : Int32} (h : x < 0) : ifCond.holds .ge x = false := (if0 _ _).trans (igeN h)
theorem zgt {x : Int32} (h : 0 < x) : ifCond.holds .gt x = true := (if0 _ _).trans (igt h)
theorem zgtN {x : Int32} (h : ¬ 0 < x) : ifCond.holds .gt x = false := (if0 _ _).trans (igtN h)
theorem zle {x : Int32} (h : ¬ 0 < x) : ifCond.holds .le x = true := (if0 _ _).trans (ile h)
theorem zleN {x : Int32} (h : 0 < x) : ifCond.holds .le x = false := (if0 _ _).trans (ileN h)
/-- the heap has grown -/
def Grw (h0 h : Heap) : Prop := h0.size ≤ h.size
theorem Grw.ext {h' : Heap} (B : Grw h0 h) (E : Ext h h') : Grw h0 h' := Nat.le_trans B E.1
theorem Grw.keep {h' : Heap} {ws : List Addr} (B : Grw h0 h) (K : Keep h h' ws) : Grw h0 h' := Nat.le_trans B K.1
theorem Grw.wr {h' : Heap} {a : Addr} {sl : Nat} {v : Value} (B : Grw h0 h) (W : Wr h h' a sl v) : Grw h0 h' := Nat.le_trans B (Nat.le_of_eq W.size.symm)
/-! joining roads -/
theorem join1 {α : Type} {P : α → Prop} {A : α → State} {B : State} (hj : ∀ a, P a → Fin p e below s Q k n (A a)) (go : (∀ a, P a → Fin p e below s Q k n (A a)) → Fin p e below s Q k n B) : Fin p e below s Q k n B := go hj
theorem joinH {α : Type} {P : α → State → Heap → List Loc → Prop} {A : α → State → State} {B : State} (hj : ∀ a T h L, P a T h L → Fin p e below s Q k n (A a T)) (go : (∀ a T h L, P a T h L → Fin p e below s Q k n (A a T)) → Fin p e below s Q k n B) : Fin p e below s Q k n B := go hj
/-! arrays -/
theorem newA0 (X : Stand p l e R s m args below meth c T locs cells slots) (hx : p.tables.exec = Jvm.exec) (hZ : Z.Warmed39 s.vm) {aty : ArrayType} (w : (Cond.arrayClass (newarray.typeOf aty)).before a0 Z = true) (eT : T.heap = h) {g : JFrame} (hg : g.method = m) (hd : decode c.code g.pc = .ok (.newarray aty, 2)) {z : Int32} {rest : List Value} (hs : g.stack = .int z :: rest)
    (hz : ¬ z < 0) {N : Nat} (hN : z.toNatClampNeg = N) (hb : N * 8 ≤ 536870912) (hc : cells + 1 ≤ R.cells) (hl : slots + N ≤ R.slots) :
    ∃ T' h' cA, Stand p l e R s m args below meth c T' locs (cells + 1) (slots + N) ∧ T'.heap = h' ∧ Ext h h' ∧ Arv Z h' h.size cA (newarray.typeOf aty) z (List.replicate N (defaultValue (newarray.typeOf aty))) (defaultValue (newarray.typeOf aty)) ∧
      ∀ target, Steps p.tables e below (T'.setTop { g with pc := g.pc + 2, stack := .ref h.size :: rest }) target → Steps p.tables e below (T.setTop g) target := by
  obtain ⟨T', h', cA, X', e', E', A', st⟩ := newP X hx hZ w eT hg hd hs hz (cap := N) (Nat.le_of_eq hN) hb hc hl
  exact ⟨T', h', cA, X', e', E', (Arv.new A' hz).pad (pad_rep [] _ N), st⟩
theorem stC0 (X : Stand p l e R s m args below meth c T locs cells slots) (hx : p.tables.exec = Jvm.exec) (hZ : Z.Warmed39 s.vm) (eT : T.heap = h) {a : Addr} {ka : ClassId} {z : Int32} {vs : List Value} {dv : Value} (V : Arv Z h a ka .char z vs dv) {j x : Int32} (hj : ¬ j < 0 ∧ j < z) (i : Nat) (hi : j.toNatClampNeg = i) (hil : i < vs.length) (hnx : nar .char x = x)
    {g : JFrame} (hg : g.method = m) {rest : List Value} (hs : g.stack = .int x :: .int j :: .ref a :: rest) (hd : decode c.code g.pc = .ok (.castore, 1)) :
    ∃ T' h', Stand p l e R s m args below meth c T' (locs ++ [⟨a, j.toNatClampNeg⟩]) cells slots ∧ T'.heap = h' ∧ Wr h h' a j.toNatClampNeg (.int x) ∧ Arv Z h' a ka .char z (vs.set i (.int x)) dv ∧ ∀ target, Steps p.tables e below (T'.setTop { g with pc := g.pc + 1, stack := rest }) target → Steps p.tables e below (T.setTop g) target := by
  obtain ⟨cl, A, q1, S, M, H, G⟩ := V
  obtain ⟨T', h', X', e', W, st⟩ := stC X hx hZ eT A (j := j) (inb_of S hj) hg hs hd
  have W' := W
  rw [hnx] at W
  exact ⟨T', h', X', e', W, Arv.set A q1 S M H G (by rw [← hnx]; exact fits_nar_char _) W i hi hil, st⟩
theorem alen (X : Stand p l e R s m args below meth c T locs cells slots) (hx : p.tables.exec = Jvm.exec) (hZ : Z.Warmed39 s.vm) (eT : T.heap = h) {a : Addr} {ka : ClassId} {ty : FieldType} {z : Int32} {vs : List Value} {dv : Value} (V : Arv Z h a ka ty z vs dv)
    {g : JFrame} (hg : g.method = m) {rest : List Value} (hs : g.stack = .ref a :: rest) (hd : decode c.code g.pc = .ok (.arraylength, 1)) :
    ∀ target, Steps p.tables e below (T.setTop { g with pc := g.pc + 1, stack := .int z :: rest }) target → Steps p.tables e below (T.setTop g) target := by
  obtain ⟨cl, A, q1, S, M, H, G⟩ := V
  intro t ht
  refine X.arraylength hx (by rw [eT]; exact A.1) (State.isArrayOf_alike hZ.alike A.2.1) hg hs hd t ?_
  rw [len_of S M]; exact ht
theorem ldC0 (X : Stand p l e R s m args below meth c T locs cells slots) (hx : p.tables.exec = Jvm.exec) (hZ : Z.Warmed39 s.vm) (eT : T.heap = h) {a : Addr} {ka : ClassId} {z : Int32} {vs : List Value} {dv : Value} (V : Arv Z h a ka .char z vs dv) {j : Int32} (hj : ¬ j < 0 ∧ j < z) {v : Value} (hv : vs.getD j.toNatClampNeg dv = v)
    {g : JFrame} (hg : g.method = m) {rest : List Value} (hs : g.stack = .int j :: .ref a :: rest) (hd : decode c.code g.pc = .ok (.caload, 1)) :
    ∀ target, Steps p.tables e below (T.setTop { g with pc := g.pc + 1, stack := v :: rest }) target → Steps p.tables e below (T.setTop g) target := by
  obtain ⟨cl, A, q1, S, M, H, G⟩ := V
  exact X.caload hx (by rw [eT]; exact A.1) (State.isArrayOf_alike hZ.alike A.2.1) A.2.2 (inb_of S hj) (H.at (inb_of S hj) hv) hg hs hd
theorem ldB0 (X : Stand p l e R s m args below meth c T locs cells slots) (hx : p.tables.exec = Jvm.exec) (hZ : Z.Warmed39 s.vm) (eT : T.heap = h) {a : Addr} {ka : ClassId} {z : Int32} {vs : List Value} {dv : Value} (V : Arv Z h a ka .byte z vs dv) {j : Int32} (hj : ¬ j < 0 ∧ j < z) {v : Value} (hv : vs.getD j.toNatClampNeg dv = v)
    {g : JFrame} (hg : g.method = m) {rest : List Value} (hs : g.stack = .int j :: .ref a :: rest) (hd : decode c.code g.pc = .ok (.baload, 1)) :
    ∀ target, Steps p.tables e below (T.setTop { g with pc := g.pc + 1, stack := v :: rest }) target → Steps p.tables e below (T.setTop g) target := by
  obtain ⟨cl, A, q1, S, M, H, G⟩ := V
  exact X.baloadBytes hx (by rw [eT]; exact A.1) (State.isArrayOf_alike hZ.alike A.2.1) A.2.2 (inb_of S hj) (H.at (inb_of S hj) hv) hg hs hd
theorem ldR0 (X : Stand p l e R s m args below meth c T locs cells slots) (hx : p.tables.exec = Jvm.exec) (hZ : Z.Warmed39 s.vm) (eT : T.heap = h) {a : Addr} {ka : ClassId} {ty : FieldType} (hty : ty.isReference = true) {z : Int32} {vs : List Value} {dv : Value} (V : Arv Z h a ka ty z vs dv) {j : Int32} (hj : ¬ j < 0 ∧ j < z) {v : Value} (hv : vs.getD j.toNatClampNeg dv = v)
    {g : JFrame} (hg : g.method = m) {rest : List Value} (hs : g.stack = .int j :: .ref a :: rest) (hd : decode c.code g.pc = .ok (.aaload, 1)) :
    ∀ target, Steps p.tables e below (T.setTop { g with pc := g.pc + 1, stack := v :: rest }) target → Steps p.tables e below (T.setTop g) target := by
  obtain ⟨cl, A, q1, S, M, H, G⟩ := V
  exact X.aaload hx (by rw [eT]; exact A.1) (State.isArrayOf_alike hZ.alike A.2.1) hty A.2.2 (inb_of S hj) (H.at (inb_of S hj) hv) hg hs hd
/-- C's superclass S is the root; K is an ordinary class that is neither -/
theorem notSub {C S K : String} {n : Nat} (w : (Cond.superclass C S).before a0 Z = true) (w2 : (Cond.noSuperclass S).before a0 Z = true) (wi : (Cond.instantiable K n).before a0 Z = true) (h1 : C ≠ K) (h2 : S ≠ K) : ∃ c t, Z.vm.findClass C = some c ∧ Z.vm.findClass K = some t ∧ Z.vm.assignable c t = false := by
  obtain ⟨c, hc⟩ := found_sup w
  obtain ⟨q, k1, kq, a1, a2, a3, a4, a5, -, a7⟩ := Cond.superclass_spec hc w
  obtain ⟨q', k2, b1, b2, b3, -, -⟩ := Cond.noSuperclass_spec w2
  cases a1.symm.trans b1
  cases a3.symm.trans b2
  obtain ⟨t, k3, d1, d2, d3, d4, -⟩ := Cond.instantiable_spec wi
  have ne1 := ids_ne hc d1 h1
  have ne2 := ids_ne a1 d1 h2
  have d5 : k3.isInterface = false := by cases h : k3.isInterface <;> simp [h] at d4 ⊢
  refine ⟨c, t, hc, d1, ?_⟩
  have g0 : ∀ fuel, Z.vm.isSubclassAux fuel q t = false := fun fuel => by
    cases fuel with
    | zero => rfl
    | succ f => simp [Vm.isSubclassAux, ne2, a3, b3]
  have g1 : ∀ fuel, Z.vm.isSubclassAux fuel c t = false := fun fuel => by
    cases fuel with
    | zero => rfl
    | succ f => simp [Vm.isSubclassAux, ne1, a2, a4, g0]
  show Z.vm.assignableAux (255 + 1) c t = false
  simp [Vm.assignableAux, ne1, a2, d2, a5, d3, d5, Vm.isSubclass, g1]
/-! numbers -/
abbrev ush (x y : Int32) : Int32 := (x.toUInt32 >>> (y &&& 31).toUInt32).toInt32
abbrev lush (x : Int64) (y : Int32) : Int64 := (x.toUInt64 >>> (y &&& 0x3f).toInt64.toUInt64).toInt64
abbrev chr (x : Int32) : Int32 := x.toUInt32.toUInt16.toUInt32.toInt32
theorem and_bits (x : Int32) : ¬ (x &&& 255) < 0 ∧ ¬ 255 < (x &&& 255) := by
  have h := c_mask x 255 8 (by decide) (by decide)
  have h2 : (0 : Int32).toInt = 0 := rfl
  have h3 : (255 : Int32).toInt = 255 := rfl
  rw [Int32.lt_iff_toInt_lt, Int32.lt_iff_toInt_lt, h, h2, h3]
  omega
theorem chr_255 (x : Int32) : ∃ c : Int32, chr (x &&& 255) = c ∧ ¬ c < 0 ∧ ¬ 255 < c ∧ c = x &&& 255 := ⟨x &&& 255, i2c_mask x, (and_bits x).1, (and_bits x).2, rfl⟩
theorem nar_chr {c : Int32} (h0 : ¬ c < 0) (h1 : ¬ 255 < c) : nar .char c = c := by
  have e : c = c &&& 255 := by
    have h := c_mask c 255 8 (by decide) (by decide)
    rw [Int32.lt_iff_toInt_lt] at h0 h1
    have h2 : (0 : Int32).toInt = 0 := rfl
    have h3 : (255 : Int32).toInt = 255 := rfl
    rw [h2] at h0; rw [h3] at h1
    apply Int32.toInt_inj.mp
    rw [h]; omega
  rw [e]; exact i2c_mask c
theorem rem5 (x : Int32) : ∃ r : Int32, (x &&& 2147483647) % 5 = r ∧ (r = 0 ∨ r = 1 ∨ r = 2 ∨ r = 3 ∨ r = 4) := by
  refine ⟨_, rfl, ?_⟩
  have h := c_mask x 2147483647 31 (by decide) (by decide)
  have h5 : (5 : Int32).toInt = 5 := rfl
  have h6 : ((x &&& 2147483647) % 5).toInt = (x.toInt % (2 ^ 31 : Nat)).tmod 5 := by rw [Int32.toInt_mod, h, h5]
  have h7 : (0 : Int) ≤ x.toInt % (2 ^ 31 : Nat) := by omega
  rw [Int.tmod_eq_emod_of_nonneg h7] at h6
  have h8 : ((x &&& 2147483647) % 5).toInt = 0 ∨ ((x &&& 2147483647) % 5).toInt = 1 ∨ ((x &&& 2147483647) % 5).toInt = 2 ∨ ((x &&& 2147483647) % 5).toInt = 3 ∨ ((x &&& 2147483647) % 5).toInt = 4 := by omega
  rcases h8 with q | q | q | q | q
  · exact Or.inl (Int32.toInt_inj.mp q)
  · exact Or.inr (Or.inl (Int32.toInt_inj.mp q))
  · exact Or.inr (Or.inr (Or.inl (Int32.toInt_inj.mp q)))
  · exact Or.inr (Or.inr (Or.inr (Or.inl (Int32.toInt_inj.mp q))))
  · exact Or.inr (Or.inr (Or.inr (Or.inr (Int32.toInt_inj.mp q))))
end Kit
end Jvm.OwnKit
/- laws to paste: Road.backV, Road.codOf (cut by pick.py; bodies as the Statement names them) -/
namespace Jvm.Pilot.@@N@@
namespace StrChars
open Jvm Sem ClassFile Op Lib Jvm.Stand Jvm.Free.XT Jvm.Free.ALB Jvm.Free.JM Jvm.Free
open Jvm.Lib.Cold (StaticIs)
/-- a char array whose places are chars -/
def Ch (a : Addr) (A : Cell) (U : State) : Prop := Arr .char a A U ∧ Typed .char A
theorem Ch.mv {a : Addr} {A : Cell} {U U' : State} (h : Ch a A U) (hal : U.vm.Alike U'.vm) (hh : U'.heap = U.heap) : Ch a A U' := ⟨h.1.mv hal hh, h.2⟩
theorem Ch.keep {a : Addr} {A : Cell} {U U' : State} (h : Ch a A U) (hal : U.vm.Alike U'.vm) (hk : U'.heap[a]? = some A) : Ch a A U' := ⟨h.1.keep hal hk, h.2⟩
/-- what place i of a char[]'s cell holds -/
def cv (A : Cell) (i : Nat) : Int32 := match A.slots[i]? with | some (.int x) => x | _ => 0
theorem Ch.get {a : Addr} {A : Cell} {U : State} (h : Ch a A U) {i : Nat} (hi : i < A.slots.size) : A.slots[i]? = some (.int (cv A i)) := by
  have e := Array.getElem?_eq_getElem hi
  have f := h.2 i _ e
  unfold cv; rw [e]
  generalize A.slots[i] = v at f
  cases v <;> simp [fits] at f ⊢
/-- the byte that i2b leaves of a char -/
def lo8 (x : Int32) : Int32 := x.toInt8.toInt32
theorem fits_lo8 (y : Int32) : fits .byte (.int (lo8 y)) = true := by
  have h1 := y.toInt8.le_toInt
  have h2 := y.toInt8.toInt_lt
  simp only [lo8, fits, Bool.and_eq_true, decide_eq_true_eq, Int32.le_iff_toInt_le, Int8.toInt_toInt32, show (-128 : Int32).toInt = -128 from by decide, show (127 : Int32).toInt = 127 from by decide]
  omega
/-- A' is A but that each place j of lo .. hi - 1 holds f j -/
def Laid (A A' : Cell) (lo hi : Nat) (f : Nat → Value) : Prop := A'.cls = A.cls ∧ A'.vm = A.vm ∧ A'.slots.size = A.slots.size ∧ ∀ i, A'.slots[i]? = if lo ≤ i ∧ i < hi then some (f i) else A.slots[i]?
theorem Laid.zero (A : Cell) (lo : Nat) (f : Nat → Value) : Laid A A lo (lo + 0) f := ⟨rfl, rfl, rfl, fun i => by rw [if_neg (by omega)]⟩
theorem Laid.step {A Ak : Cell} {lo k : Nat} {f : Nat → Value} {v : Value} (h : Laid A Ak lo k f) (hlo : lo ≤ k) (hk : k < Ak.slots.size) (hv : v = f k) : Laid A (Ak.setSlot k v) lo (k + 1) f := by
  refine ⟨h.1, h.2.1, by simpa [Cell.setSlot] using h.2.2.1, fun i => ?_⟩
  by_cases e : k = i
  · subst e; rw [Cell.slots_setSlot_self v hk, if_pos (by omega), hv]
  · rw [Cell.slots_setSlot_ne v e, h.2.2.2 i]
    by_cases q : lo ≤ i ∧ i < k
    · rw [if_pos q, if_pos (by omega)]
    · rw [if_neg q, if_neg (by omega)]
def U16 : String := "java/lang/StringUTF16"
namespace Cmp5
def yN : MethodName := ⟨"java/lang/StringUTF16", "compress", "([CI[BII)I"⟩
abbrev yB : ByteArray := jdk_52_method_21_code
theorem d0 : decode yB 0 = .ok (.iconst 0, 1) := by decide +kernel
theorem d1 : decode yB 1 = .ok (.istore 5, 2) := by decide +kernel
theorem d3 : decode yB 3 = .ok (.iload 5, 2) := by decide +kernel
theorem d5 : decode yB 5 = .ok (.iload 4, 2) := by decide +kernel
theorem d7 : decode yB 7 = .ok (.if_icmp (.ge) 37, 3) := by decide +kernel
theorem d10 : decode yB 10 = .ok (.aload_n 0, 1) := by decide +kernel
theorem d11 : decode yB 11 = .ok (.iload_n 1, 1) := by decide +kernel
theorem d12 : decode yB 12 = .ok (.caload, 1) := by decide +kernel
theorem d13 : decode yB 13 = .ok (.istore 6, 2) := by decide +kernel
theorem d15 : decode yB 15 = .ok (.iload 6, 2) := by decide +kernel
theorem d17 : decode yB 17 = .ok (.sipush 255, 3) := by decide +kernel
theorem d20 : decode yB 20 = .ok (.if_icmp (.le) 6, 3) := by decide +kernel
theorem d26 : decode yB 26 = .ok (.aload_n 2, 1) := by decide +kernel
theorem d27 : decode yB 27 = .ok (.iload_n 3, 1) := by decide +kernel
theorem d28 : decode yB 28 = .ok (.iload 6, 2) := by decide +kernel
theorem d30 : decode yB 30 = .ok (.i2b, 1) := by decide +kernel
theorem d31 : decode yB 31 = .ok (.bastore, 1) := by decide +kernel
theorem d32 : decode yB 32 = .ok (.iinc 1 1, 3) := by decide +kernel
theorem d35 : decode yB 35 = .ok (.iinc 3 1, 3) := by decide +kernel
theorem d38 : decode yB 38 = .ok (.iinc 5 1, 3) := by decide +kernel
theorem d41 : decode yB 41 = .ok (.goto (-38), 3) := by decide +kernel
theorem d44 : decode yB 44 = .ok (.iload 4, 2) := by decide +kernel
theorem d46 : decode yB 46 = .ok (.ireturn, 1) := by decide +kernel
def site : List Cond := []
def tab : Cond := tabOf yN yB 7 (some .int) site
def P (b : Addr) (A : Cell) (d : Addr) (B : Cell) (o q len : Nat) (args : Array Value) (s : State) : Prop := args = #[.ref b, .int (Int32.ofNat o), .ref d, .int (Int32.ofNat q), .int (Int32.ofNat len)] ∧ Ch b A s ∧ Arr .byte d B s ∧ b ≠ d ∧ o + len ≤ A.slots.size ∧ q + len ≤ B.slots.size ∧ ∀ i, i < len → ¬ 255 < cv A (o + i)
def E (b : Addr) (A : Cell) (d : Addr) (B : Cell) (o q len : Nat) (r : Option Value) (s u : State) : Prop := r = some (.int (Int32.ofNat len)) ∧ ∃ B', Put d B' s u ∧ Laid B B' q (q + len) (fun j => Value.int (lo8 (cv A (o + (j - q)))))
/-- no char of the range above 255: len; the places written hold each char's low byte -/
theorem law (l : Launch) (b : Addr) (A : Cell) (d : Addr) (B : Cell) (o q len : Nat) : Law l yN 5 5 0 0 yB 7 (some .int) site (P b A d B o q len) (E b A d B o q len) (copyLocs d q len) 0 0 := by
  refine Law.of_walk (plainFor_of_name (by decide +kernel)) (by decide +kernel) (by decide +kernel) (by decide) (fun _ _ h => by rw [h.1]; rfl) (fun _ U U' hal hh h => ⟨h.1, h.2.1.mv hal hh, h.2.2.1.mv hal hh, h.2.2.2⟩) (fun r U U' V V' h1 hal h2 h => ⟨h.1, h.2.elim fun B' q => ⟨B', q.1.mv h1 h2, q.2⟩⟩) ?_
  intro p e s m args below meth c s₁ X0 hexec hbytes hml hret hlk hnm hown hh0 W hP
  obtain ⟨rfl, hA, hB, hne, l1, l2, hp⟩ := hP
  have c1 : Steps p.tables e below (s₁.setTop (entryFrame m #[.ref b, .int (Int32.ofNat o), .ref d, .int (Int32.ofNat q), .int (Int32.ofNat len)] 7)) (s₁.setTop (mkF m 0 #[.val (.ref b), .val (.int (Int32.ofNat o)), .val (.ref d), .val (.int (Int32.ofNat q)), .val (.int (Int32.ofNat len)), .unset, .unset] [])) := entry rfl
  have hA0 := hA.1.mv X0.warmed.alike hh0
  have hB0 := hB.mv X0.warmed.alike hh0
  have a31 := hA.1.2.2.2
  have c2 : Steps p.tables e below (s₁.setTop (entryFrame m #[.ref b, .int (Int32.ofNat o), .ref d, .int (Int32.ofNat q), .int (Int32.ofNat len)] 7)) (s₁.setTop (mkF m 3 #[.val (.ref b), .val (.int (Int32.ofNat o)), .val (.ref d), .val (.int (Int32.ofNat q)), .val (.int (Int32.ofNat len)), .val (.int 0), .unset] [])) := c1.trans (by
    refine iconstV X0.here hexec rfl 0 (hb hbytes d0) (by decide) ?_
    refine XS.istore X0.here hexec rfl (hb hbytes d1) rfl rfl ?_
    exact Steps.refl _)
  have loop : ∀ (r i : Nat), i + r = len → ∀ (z : Slot), (z = .unset ∨ ∃ w, z = .val w ∧ w.category = 1) → ∀ (Tl : State) (Bk : Cell), Stand p l e { frames := 0, locals := 0, cells := 0, slots := 0 } s m #[.ref b, .int (Int32.ofNat o), .ref d, .int (Int32.ofNat q), .int (Int32.ofNat len)] below meth c Tl ([] ++ copyLocs d q i) 0 0 → Put d Bk s₁ Tl → Laid B Bk q (q + i) (fun j => Value.int (lo8 (cv A (o + (j - q))))) →
      Steps p.tables e below (s₁.setTop (entryFrame m #[.ref b, .int (Int32.ofNat o), .ref d, .int (Int32.ofNat q), .int (Int32.ofNat len)] 7)) (Tl.setTop (mkF m 3 #[.val (.ref b), .val (.int (Int32.ofNat (o + i))), .val (.ref d), .val (.int (Int32.ofNat (q + i))), .val (.int (Int32.ofNat len)), .val (.int (Int32.ofNat i)), z] [])) → ∃ (T' : State) (B' : Cell) (z' : Slot), Stand p l e { frames := 0, locals := 0, cells := 0, slots := 0 } s m #[.ref b, .int (Int32.ofNat o), .ref d, .int (Int32.ofNat q), .int (Int32.ofNat len)] below meth c T' ([] ++ copyLocs d q len) 0 0 ∧ Put d B' s₁ T' ∧ Laid B B' q (q + len) (fun j => Value.int (lo8 (cv A (o + (j - q))))) ∧
      Steps p.tables e below (s₁.setTop (entryFrame m #[.ref b, .int (Int32.ofNat o), .ref d, .int (Int32.ofNat q), .int (Int32.ofNat len)] 7)) (T'.setTop (mkF m 3 #[.val (.ref b), .val (.int (Int32.ofNat (o + len))), .val (.ref d), .val (.int (Int32.ofNat (q + len))), .val (.int (Int32.ofNat len)), .val (.int (Int32.ofNat len)), z'] [])) := by
    intro r
    induction r with
    | zero =>
      intro i hi z hz Tl Bk Xl pl fl cl
      have hil : i = len := by omega
      rw [hil] at Xl fl cl
      exact ⟨Tl, Bk, z, Xl, pl, fl, cl⟩
    | succ r ih =>
      intro i hi z hz Tl Bk Xl pl fl cl
      have all := X0.warmed.alike.symm.trans Xl.warmed.alike
      have hAl := hA0.keep all (pl.other hne hA0.1)
      have hBk := hB0.like all pl.1 fl.1 fl.2.1 fl.2.2.1
      have hlt : q + i < Bk.slots.size := by rw [fl.2.2.1]; omega
      have c3 : Steps p.tables e below (s₁.setTop (entryFrame m #[.ref b, .int (Int32.ofNat o), .ref d, .int (Int32.ofNat q), .int (Int32.ofNat len)] 7)) (Tl.setTop (mkF m 12 #[.val (.ref b), .val (.int (Int32.ofNat (o + i))), .val (.ref d), .val (.int (Int32.ofNat (q + i))), .val (.int (Int32.ofNat len)), .val (.int (Int32.ofNat i)), z] [.int (Int32.ofNat (o + i)), .ref b])) := cl.trans (by
        refine XS.iload Xl.here hexec rfl (hb hbytes d3) rfl ?_
        refine XS.iload Xl.here hexec rfl (hb hbytes d5) rfl ?_
        refine XS.icmpNo Xl.here hexec rfl (hb hbytes d7) rfl (ii_ge_f (lt32 (by omega) (by omega))) ?_
        refine XS.aloadN Xl.here hexec rfl (hb hbytes d10) rfl rfl ?_
        refine XS.iloadN Xl.here hexec rfl (hb hbytes d11) rfl ?_
        exact Steps.refl _)
      have c4 : Steps p.tables e below (s₁.setTop (entryFrame m #[.ref b, .int (Int32.ofNat o), .ref d, .int (Int32.ofNat q), .int (Int32.ofNat len)] 7)) (Tl.setTop (mkF m 13 #[.val (.ref b), .val (.int (Int32.ofNat (o + i))), .val (.ref d), .val (.int (Int32.ofNat (q + i))), .val (.int (Int32.ofNat len)), .val (.int (Int32.ofNat i)), z] [.int (cv A (o + i))])) := c3.trans (by
        refine Xl.aget hexec hAl rfl (hA.get (i := o + i) (by omega)) rfl rfl (hb hbytes d12) ?_
        exact Steps.refl _)
      have c5 : Steps p.tables e below (s₁.setTop (entryFrame m #[.ref b, .int (Int32.ofNat o), .ref d, .int (Int32.ofNat q), .int (Int32.ofNat len)] 7)) (Tl.setTop (mkF m 15 #[.val (.ref b), .val (.int (Int32.ofNat (o + i))), .val (.ref d), .val (.int (Int32.ofNat (q + i))), .val (.int (Int32.ofNat len)), .val (.int (Int32.ofNat i)), .val (.int (cv A (o + i)))] [])) := c4.trans (by
        refine XS.istoreS Xl.here hexec rfl (hb hbytes d13) rfl rfl hz ?_
        exact Steps.refl _)
      have c6 : Steps p.tables e below (s₁.setTop (entryFrame m #[.ref b, .int (Int32.ofNat o), .ref d, .int (Int32.ofNat q), .int (Int32.ofNat len)] 7)) (Tl.setTop (mkF m 31 #[.val (.ref b), .val (.int (Int32.ofNat (o + i))), .val (.ref d), .val (.int (Int32.ofNat (q + i))), .val (.int (Int32.ofNat len)), .val (.int (Int32.ofNat i)), .val (.int (cv A (o + i)))] [.int (lo8 (cv A (o + i))), .int (Int32.ofNat (q + i)), .ref d])) := c5.trans (by
        refine XS.iload Xl.here hexec rfl (hb hbytes d15) rfl ?_
        refine sipushV Xl.here hexec rfl 255 (hb hbytes d17) (by decide) ?_
        refine XS.icmpYes Xl.here hexec rfl (pc0 := 20) rfl (hb hbytes d20) rfl (ii_le_t (hp i (by omega))) (by decide) rfl ?_
        refine XS.aloadN Xl.here hexec rfl (hb hbytes d26) rfl rfl ?_
        refine XS.iloadN Xl.here hexec rfl (hb hbytes d27) rfl ?_
        refine XS.iload Xl.here hexec rfl (hb hbytes d28) rfl ?_
        refine i2b Xl.here hexec rfl (hb hbytes d30) rfl ?_
        exact Steps.refl _)
      obtain ⟨T7, X7, p7, st7⟩ := Xl.aput hexec hBk rfl hlt rfl (fits_lo8 (cv A (o + i))) (g := (mkF m 31 #[.val (.ref b), .val (.int (Int32.ofNat (o + i))), .val (.ref d), .val (.int (Int32.ofNat (q + i))), .val (.int (Int32.ofNat len)), .val (.int (Int32.ofNat i)), .val (.int (cv A (o + i)))] [.int (lo8 (cv A (o + i))), .int (Int32.ofNat (q + i)), .ref d])) rfl (rest := []) rfl (hb hbytes d31)
      have c8 : Steps p.tables e below (s₁.setTop (entryFrame m #[.ref b, .int (Int32.ofNat o), .ref d, .int (Int32.ofNat q), .int (Int32.ofNat len)] 7)) (T7.setTop (mkF m 32 #[.val (.ref b), .val (.int (Int32.ofNat (o + i))), .val (.ref d), .val (.int (Int32.ofNat (q + i))), .val (.int (Int32.ofNat len)), .val (.int (Int32.ofNat i)), .val (.int (cv A (o + i)))] [])) := c6.trans (st7 _ (Steps.refl _))
      have c9 : Steps p.tables e below (s₁.setTop (entryFrame m #[.ref b, .int (Int32.ofNat o), .ref d, .int (Int32.ofNat q), .int (Int32.ofNat len)] 7)) (T7.setTop (mkF m 3 #[.val (.ref b), .val (.int (Int32.ofNat (o + i) + 1)), .val (.ref d), .val (.int (Int32.ofNat (q + i) + 1)), .val (.int (Int32.ofNat len)), .val (.int (Int32.ofNat i + 1)), .val (.int (cv A (o + i)))] [])) := c8.trans (by
        refine iincV X7.here hexec rfl 1 (hb hbytes d32) (by decide) rfl rfl ?_
        refine iincV X7.here hexec rfl 1 (hb hbytes d35) (by decide) rfl rfl ?_
        refine iincV X7.here hexec rfl 1 (hb hbytes d38) (by decide) rfl rfl ?_
        refine XS.goto X7.here hexec rfl (pc0 := 41) rfl (hb hbytes d41) (by decide) rfl ?_
        exact Steps.refl _)
      have c10 : Steps p.tables e below (s₁.setTop (entryFrame m #[.ref b, .int (Int32.ofNat o), .ref d, .int (Int32.ofNat q), .int (Int32.ofNat len)] 7)) (T7.setTop (mkF m 3 #[.val (.ref b), .val (.int (Int32.ofNat (o + (i + 1)))), .val (.ref d), .val (.int (Int32.ofNat (q + (i + 1)))), .val (.int (Int32.ofNat len)), .val (.int (Int32.ofNat (i + 1))), .val (.int (cv A (o + i)))] [])) := by
        have := c9
        rw [succ32, succ32, succ32] at this
        exact this
      exact ih (i + 1) (by omega) _ (Or.inr ⟨_, rfl, rfl⟩) T7 _ (by rw [copyLocs_step, ← List.append_assoc]; exact X7) (pl.trans p7) (fl.step (by omega) hlt (by simp)) c10
  obtain ⟨T9, B9, z9, X9, p9, f9, g9⟩ := loop len 0 (by omega) .unset (Or.inl rfl) s₁ B (by simpa [copyLocs] using X0) ⟨hB0.1, fun _ _ => rfl, rfl⟩ (Laid.zero _ _ _) c2
  have c11 : Steps p.tables e below (s₁.setTop (entryFrame m #[.ref b, .int (Int32.ofNat o), .ref d, .int (Int32.ofNat q), .int (Int32.ofNat len)] 7)) (T9.setTop (mkF m 46 #[.val (.ref b), .val (.int (Int32.ofNat (o + len))), .val (.ref d), .val (.int (Int32.ofNat (q + len))), .val (.int (Int32.ofNat len)), .val (.int (Int32.ofNat len)), z9] [.int (Int32.ofNat len)])) := g9.trans (by
    refine XS.iload X9.here hexec rfl (hb hbytes d3) rfl ?_
    refine XS.iload X9.here hexec rfl (hb hbytes d5) rfl ?_
    refine XS.icmpYes X9.here hexec rfl (pc0 := 7) rfl (hb hbytes d7) rfl (ii_ge_t (nlt32 (by omega) (Nat.le_refl _))) (by decide) rfl ?_
    refine XS.iload X9.here hexec rfl (hb hbytes d44) rfl ?_
    exact Steps.refl _)
  exact ⟨T9, some (.int (Int32.ofNat len)), _, _, _, X9, by simp, rfl, rfl, (fun h => by cases h), ⟨rfl, B9, p9.from hh0, f9⟩, fun fs hl => c11.trans (X9.ireturnOut hexec hret rfl (Or.inl rfl) (hb hbytes d46) hl)⟩
end Cmp5
namespace Cmp3
def yN : MethodName := ⟨"java/lang/StringUTF16", "compress", "([CII)[B"⟩
abbrev yB : ByteArray := jdk_52_method_16_code
theorem d0 : decode yB 0 = .ok (.iload_n 2, 1) := by decide +kernel
theorem d1 : decode yB 1 = .ok (.newarray .byte, 2) := by decide +kernel
theorem d3 : decode yB 3 = .ok (.astore_n 3, 1) := by decide +kernel
theorem d4 : decode yB 4 = .ok (.aload_n 0, 1) := by decide +kernel
theorem d5 : decode yB 5 = .ok (.iload_n 1, 1) := by decide +kernel
theorem d6 : decode yB 6 = .ok (.aload_n 3, 1) := by decide +kernel
theorem d7 : decode yB 7 = .ok (.iconst 0, 1) := by decide +kernel
theorem d8 : decode yB 8 = .ok (.iload_n 2, 1) := by decide +kernel
theorem d9 : decode yB 9 = .ok (.invokestatic 115, 3) := by decide +kernel
theorem d12 : decode yB 12 = .ok (.istore 4, 2) := by decide +kernel
theorem d14 : decode yB 14 = .ok (.iload 4, 2) := by decide +kernel
theorem d16 : decode yB 16 = .ok (.iload_n 2, 1) := by decide +kernel
theorem d17 : decode yB 17 = .ok (.if_icmp (.eq) 40, 3) := by decide +kernel
theorem d57 : decode yB 57 = .ok (.aload_n 3, 1) := by decide +kernel
theorem d58 : decode yB 58 = .ok (.areturn, 1) := by decide +kernel
def site : List Cond := [.arrayClass .byte, Cmp5.tab] ++ staticW U16 115 Cmp5.yN
def tab : Cond := tabOf yN yB 6 (some (.array .byte)) site
def P (b : Addr) (A : Cell) (o len : Nat) (args : Array Value) (s : State) : Prop := args = #[.ref b, .int (Int32.ofNat o), .int (Int32.ofNat len)] ∧ Ch b A s ∧ o + len ≤ A.slots.size ∧ len ≤ 536870912 ∧ ∀ i, i < len → ¬ 255 < cv A (o + i)
def E (b : Addr) (A : Cell) (o len : Nat) (r : Option Value) (s u : State) : Prop := NewArr .byte "[B" len (fun j => .int (lo8 (cv A (o + j)))) r s u ∧ u.heap.size = s.heap.size + 1
/-- no char of the range above 255: a new byte[] of their low bytes -/
theorem law (l : Launch) (b : Addr) (A : Cell) (o len : Nat) : Law l yN 3 3 1 18 yB 6 (some (.array .byte)) site (P b A o len) (E b A o len) [] 1 len := by
  refine Law.of_walk (plainFor_of_name (by decide +kernel)) (by decide +kernel) (by decide +kernel) (by decide) (fun _ _ h => by rw [h.1]; rfl) (fun _ U U' hal hh h => ⟨h.1, h.2.1.mv hal hh, h.2.2⟩) (fun r U U' V V' h1 hal h2 h => ⟨NewArr.mv r U U' V V' h1 hal h2 h.1, by rw [h1, h2]; exact h.2⟩) ?_
  intro p e s m args below meth c s₁ X0 hexec hbytes hml hret hlk hnm hown hh0 W hP
  obtain ⟨rfl, hA, l1, l2, hp⟩ := hP
  have a31 := hA.1.2.2.2
  have c1 : Steps p.tables e below (s₁.setTop (entryFrame m #[.ref b, .int (Int32.ofNat o), .int (Int32.ofNat len)] 6)) (s₁.setTop (mkF m 0 #[.val (.ref b), .val (.int (Int32.ofNat o)), .val (.int (Int32.ofNat len)), .unset, .unset, .unset] [])) := entry rfl
  have c2 : Steps p.tables e below (s₁.setTop (entryFrame m #[.ref b, .int (Int32.ofNat o), .int (Int32.ofNat len)] 6)) (s₁.setTop (mkF m 1 #[.val (.ref b), .val (.int (Int32.ofNat o)), .val (.int (Int32.ofNat len)), .unset, .unset, .unset] [.int (Int32.ofNat len)])) := c1.trans (by
    refine XS.iloadN X0.here hexec rfl (hb hbytes d0) rfl ?_
    exact Steps.refl _)
  obtain ⟨T3, B3, X3, ba3, bs3, bv3, bh3, bf3, st3⟩ := X0.anew hexec (atype := .byte) (wk W (.arrayClass .byte)) rfl (by show len * 1 ≤ _; omega) (by omega) (g := (mkF m 1 #[.val (.ref b), .val (.int (Int32.ofNat o)), .val (.int (Int32.ofNat len)), .unset, .unset, .unset] [.int (Int32.ofNat len)])) rfl (hb hbytes d1) (rest := []) rfl (Nat.le_refl _) (by show 0 + len ≤ len; omega)
  rw [hh0] at ba3 st3
  have kp3 : XT.Kept s T3 := (XT.Kept.of_eq hh0).push bh3
  have hA3 := hA.keep X3.warmed.alike (kp3 _ _ hA.1.1)
  have hne : b ≠ s.heap.size := hA.1.ne
  have c4 : Steps p.tables e below (s₁.setTop (entryFrame m #[.ref b, .int (Int32.ofNat o), .int (Int32.ofNat len)] 6)) (T3.setTop (mkF m 3 #[.val (.ref b), .val (.int (Int32.ofNat o)), .val (.int (Int32.ofNat len)), .unset, .unset, .unset] [.ref s.heap.size])) := c2.trans (st3 _ (Steps.refl _))
  have c5 : Steps p.tables e below (s₁.setTop (entryFrame m #[.ref b, .int (Int32.ofNat o), .int (Int32.ofNat len)] 6)) (T3.setTop (mkF m 9 #[.val (.ref b), .val (.int (Int32.ofNat o)), .val (.int (Int32.ofNat len)), .val (.ref s.heap.size), .unset, .unset] [.int (Int32.ofNat len), .int 0, .ref s.heap.size, .int (Int32.ofNat o), .ref b])) := c4.trans (by
    refine XS.astoreN X3.here hexec rfl (hb hbytes d3) rfl rfl rfl ?_
    refine XS.aloadN X3.here hexec rfl (hb hbytes d4) rfl rfl ?_
    refine XS.iloadN X3.here hexec rfl (hb hbytes d5) rfl ?_
    refine XS.aloadN X3.here hexec rfl (hb hbytes d6) rfl rfl ?_
    refine iconstV X3.here hexec rfl 0 (hb hbytes d7) (by decide) ?_
    refine XS.iloadN X3.here hexec rfl (hb hbytes d8) rfl ?_
    exact Steps.refl _)
  obtain ⟨v6, T6, X6, E6, g6⟩ := X3.callS hexec (Cmp5.law l b A s.heap.size B3 o 0 len) hown (wks W (staticW U16 115 Cmp5.yN)) (wk W Cmp5.tab) (W := 0) (Nat.le_of_ble_eq_true rfl) (Nat.le_of_ble_eq_true rfl) (Nat.le_refl _) (by show 0 + len + 0 ≤ len; omega) (g := (mkF m 9 #[.val (.ref b), .val (.int (Int32.ofNat o)), .val (.int (Int32.ofNat len)), .val (.ref s.heap.size), .unset, .unset] [.int (Int32.ofNat len), .int (Int32.ofNat 0), .ref s.heap.size, .int (Int32.ofNat o), .ref b])) rfl (by rw [hml]; rfl) c5 (argsL := [.ref b, .int (Int32.ofNat o), .ref s.heap.size, .int (Int32.ofNat 0), .int (Int32.ofNat len)]) (rest := []) rfl rfl (by show 2 * 0 + 0 ≤ _; decide) (hb hbytes d9) (⟨rfl, hA3, ba3, hne, l1, by rw [bs3]; simp, hp⟩)
  obtain ⟨rfl, B6, p6, f6⟩ := E6
  have c7 : Steps p.tables e below (s₁.setTop (entryFrame m #[.ref b, .int (Int32.ofNat o), .int (Int32.ofNat len)] 6)) (T6.setTop (mkF m 12 #[.val (.ref b), .val (.int (Int32.ofNat o)), .val (.int (Int32.ofNat len)), .val (.ref s.heap.size), .unset, .unset] [.int (Int32.ofNat len)])) := g6
  have c8 : Steps p.tables e below (s₁.setTop (entryFrame m #[.ref b, .int (Int32.ofNat o), .int (Int32.ofNat len)] 6)) (T6.setTop (mkF m 58 #[.val (.ref b), .val (.int (Int32.ofNat o)), .val (.int (Int32.ofNat len)), .val (.ref s.heap.size), .val (.int (Int32.ofNat len)), .unset] [.ref s.heap.size])) := c7.trans (by
    refine XS.istore X6.here hexec rfl (hb hbytes d12) rfl rfl ?_
    refine XS.iload X6.here hexec rfl (hb hbytes d14) rfl ?_
    refine XS.iloadN X6.here hexec rfl (hb hbytes d16) rfl ?_
    refine XS.icmpYes X6.here hexec rfl (pc0 := 17) rfl (hb hbytes d17) rfl (ii_eq_t rfl) (by decide) rfl ?_
    refine XS.aloadN X6.here hexec rfl (hb hbytes d57) rfl rfl ?_
    exact Steps.refl _)
  have X8 := X6.wide (L' := []) (cells' := 1) (slots' := len) (fun x hx hlt => by
    simp only [List.nil_append, copyLocs, List.mem_map, List.mem_range] at hx
    obtain ⟨i, -, rfl⟩ := hx
    exact absurd hlt (Nat.lt_irrefl _)) (Nat.le_refl _) (by omega)
  exact ⟨T6, some (.ref s.heap.size), _, _, _, X8, rfl, rfl, rfl, (fun h => by cases h), ⟨⟨rfl, B6, ba3.like (X3.warmed.alike.symm.trans X6.warmed.alike) p6.1 f6.1 f6.2.1 f6.2.2.1, f6.2.1.trans bv3, by rw [X6.warmed.alike.findClass, f6.1]; exact bf3, by rw [f6.2.2.1, bs3]; simp, fun j hj => by rw [f6.2.2.2 j, if_pos (by omega)]; rfl, kp3.put p6 (Nat.le_refl _)⟩, by rw [p6.2.2, bh3, hh0]; simp⟩, fun fs hl => c8.trans (X8.areturnOut hexec rfl hret rfl (hb hbytes d58) hl)⟩
end Cmp3
namespace CodL
def yN : MethodName := ⟨"java/lang/StringUTF16", "coderFromArrayLen", "([BI)B"⟩
abbrev yB : ByteArray := jdk_52_method_15_code
theorem d0 : decode yB 0 = .ok (.iload_n 1, 1) := by decide +kernel
theorem d1 : decode yB 1 = .ok (.aload_n 0, 1) := by decide +kernel
theorem d2 : decode yB 2 = .ok (.arraylength, 1) := by decide +kernel
theorem d3 : decode yB 3 = .ok (.isub, 1) := by decide +kernel
theorem d4 : decode yB 4 = .ok (.bipush 31, 2) := by decide +kernel
theorem d6 : decode yB 6 = .ok (.iushr, 1) := by decide +kernel
theorem d7 : decode yB 7 = .ok (.i2b, 1) := by decide +kernel
theorem d8 : decode yB 8 = .ok (.ireturn, 1) := by decide +kernel
def site : List Cond := []
def tab : Cond := tabOf yN yB 2 (some .byte) site
def P (d : Addr) (B : Cell) (args : Array Value) (s : State) : Prop := args = #[.ref d, .int (Int32.ofNat B.slots.size)] ∧ Arr .byte d B s
def E (r : Option Value) (s u : State) : Prop := XT.PureE (some (.int 0)) r s u
/-- an array as long as the number of chars: LATIN1 -/
theorem law (l : Launch) (d : Addr) (B : Cell) : Law l yN 2 2 0 0 yB 2 (some .byte) site (P d B) E [] 0 0 := by
  refine Law.of_walk (plainFor_of_name (by decide +kernel)) (by decide +kernel) (by decide +kernel) (by decide) (fun _ _ h => by rw [h.1]; rfl) (fun _ U U' hal hh h => ⟨h.1, h.2.mv hal hh⟩) (fun r U U' V V' h1 hal h2 h => XT.PureE.mv r U U' V V' h1 hal h2 h) ?_
  intro p e s m args below meth c s₁ X0 hexec hbytes hml hret hlk hnm hown hh0 W hP
  obtain ⟨rfl, hB⟩ := hP
  have hB0 := hB.mv X0.warmed.alike hh0
  have c1 : Steps p.tables e below (s₁.setTop (entryFrame m #[.ref d, .int (Int32.ofNat B.slots.size)] 2)) (s₁.setTop (mkF m 0 #[.val (.ref d), .val (.int (Int32.ofNat B.slots.size))] [])) := entry rfl
  have c2 : Steps p.tables e below (s₁.setTop (entryFrame m #[.ref d, .int (Int32.ofNat B.slots.size)] 2)) (s₁.setTop (mkF m 2 #[.val (.ref d), .val (.int (Int32.ofNat B.slots.size))] [.ref d, .int (Int32.ofNat B.slots.size)])) := c1.trans (by
    refine XS.iloadN X0.here hexec rfl (hb hbytes d0) rfl ?_
    refine XS.aloadN X0.here hexec rfl (hb hbytes d1) rfl rfl ?_
    exact Steps.refl _)
  have c3 : Steps p.tables e below (s₁.setTop (entryFrame m #[.ref d, .int (Int32.ofNat B.slots.size)] 2)) (s₁.setTop (mkF m 8 #[.val (.ref d), .val (.int (Int32.ofNat B.slots.size))] [.int (lo8 (ushr (Int32.ofNat B.slots.size - Int32.ofNat B.slots.size) 31))])) := c2.trans (by
    refine X0.alen hexec hB0 rfl rfl (hb hbytes d2) ?_
    refine XS.isub X0.here hexec rfl (hb hbytes d3) rfl ?_
    refine bipushV X0.here hexec rfl 31 (hb hbytes d4) (by decide) ?_
    refine iushr X0.here hexec rfl (hb hbytes d6) rfl ?_
    refine i2b X0.here hexec rfl (hb hbytes d7) rfl ?_
    exact Steps.refl _)
  have e0 : lo8 (ushr (Int32.ofNat B.slots.size - Int32.ofNat B.slots.size) 31) = 0 := by rw [Int32.sub_self]; decide
  rw [e0] at c3
  exact ⟨s₁, some (.int 0), _, _, _, X0, rfl, rfl, rfl, (fun h => by cases h), ⟨rfl, hh0⟩, fun fs hl => c3.trans (X0.ireturnOut hexec hret rfl (Or.inr (Or.inr (Or.inl rfl))) (hb hbytes d8) hl)⟩
end CodL
/-- the String at a is Latin-1 over a new byte[] (the heap's one new cell): the low bytes of the len chars of A from o on; every cell but a is kept -/
def Got (a : Addr) (D : Cell) (fV fC : Field) (A : Cell) (o len : Nat) (r : Option Value) (s u : State) : Prop := r = none ∧ ∃ D' V : Cell, Blank "java/lang/String" a D' u ∧ Same D D' [fV.slot, fC.slot] ∧ D'.slots[fV.slot]? = some (.ref s.heap.size) ∧ D'.slots[fC.slot]? = some (.int 0) ∧ Arr .byte s.heap.size V u ∧ V.vm = .none ∧ u.vm.findClass "[B" = some V.cls ∧ V.slots.size = len ∧ (∀ j, j < len → V.slots[j]? = some (.int (lo8 (cv A (o + j))))) ∧ (∀ (y : Addr) (c : Cell), y ≠ a → s.heap[y]? = some c → u.heap[y]? = some c) ∧ u.heap.size = s.heap.size + 1
theorem Got.mv {a : Addr} {D A : Cell} {fV fC : Field} {o len : Nat} : ∀ r (U U' V V' : State), U'.heap = U.heap → V.vm.Alike V'.vm → V'.heap = V.heap → Got a D fV fC A o len r U V → Got a D fV fC A o len r U' V' :=
  fun r U U' V V' h1 hal h2 ⟨e0, D', X, a1, a2, a3, a4, a5, a6, a7, a8, a9, a10, a11⟩ => ⟨e0, D', X, a1.mv hal h2, a2, by rw [h1]; exact a3, a4, by rw [h1]; exact a5.mv hal h2, a6, by rw [hal.findClass]; exact a7, a8, a9, by rw [h1, h2]; exact a10, by rw [h1, h2]; exact a11⟩
namespace New4
def yN : MethodName := ⟨"java/lang/String", "<init>", "([CIILjava/lang/Void;)V"⟩
abbrev yB : ByteArray := jdk_42_method_149_code
theorem d0 : decode yB 0 = .ok (.aload_n 0, 1) := by decide +kernel
theorem d1 : decode yB 1 = .ok (.invokespecial 1, 3) := by decide +kernel
theorem d4 : decode yB 4 = .ok (.iload_n 3, 1) := by decide +kernel
theorem d5 : decode yB 5 = .ok (.ifCond (.ne) 22, 3) := by decide +kernel
theorem d27 : decode yB 27 = .ok (.getstatic 38, 3) := by decide +kernel
theorem d30 : decode yB 30 = .ok (.ifCond (.eq) 28, 3) := by decide +kernel
theorem d33 : decode yB 33 = .ok (.aload_n 1, 1) := by decide +kernel
theorem d34 : decode yB 34 = .ok (.iload_n 2, 1) := by decide +kernel
theorem d35 : decode yB 35 = .ok (.iload_n 3, 1) := by decide +kernel
theorem d36 : decode yB 36 = .ok (.invokestatic 177, 3) := by decide +kernel
theorem d39 : decode yB 39 = .ok (.astore 5, 2) := by decide +kernel
theorem d41 : decode yB 41 = .ok (.aload_n 0, 1) := by decide +kernel
theorem d42 : decode yB 42 = .ok (.aload 5, 2) := by decide +kernel
theorem d44 : decode yB 44 = .ok (.iload_n 3, 1) := by decide +kernel
theorem d45 : decode yB 45 = .ok (.invokestatic 47, 3) := by decide +kernel
theorem d48 : decode yB 48 = .ok (.putfield 15, 3) := by decide +kernel
theorem d51 : decode yB 51 = .ok (.aload_n 0, 1) := by decide +kernel
theorem d52 : decode yB 52 = .ok (.aload 5, 2) := by decide +kernel
theorem d54 : decode yB 54 = .ok (.putfield 9, 3) := by decide +kernel
theorem d57 : decode yB 57 = .ok (.return_, 1) := by decide +kernel
def site : List Cond := [.fieldLink "java/lang/String" 38 "java/lang/String" "COMPACT_STRINGS" "Z", Cmp3.tab, CodL.tab, .laysFinal "java/lang/String" "java/lang/String" "value" "[B", .fieldLink "java/lang/String" 9 "java/lang/String" "value" "[B", .laysFinal "java/lang/String" "java/lang/String" "coder" "B", .fieldLink "java/lang/String" 15 "java/lang/String" "coder" "B"] ++ objW "java/lang/String" 1 ++ staticW "java/lang/String" 177 Cmp3.yN ++ staticW "java/lang/String" 47 CodL.yN
def tab : Cond := tabOf yN yB 6 none site
def P (a : Addr) (D : Cell) (fV fC : Field) (b : Addr) (A : Cell) (z : Int32) (o len : Nat) (args : Array Value) (s : State) : Prop := args = #[.ref a, .ref b, .int (Int32.ofNat o), .int (Int32.ofNat len), .null] ∧ Blank "java/lang/String" a D s ∧ Found "java/lang/String" "value" "[B" fV s ∧ Found "java/lang/String" "coder" "B" fC s ∧ Ch b A s ∧ StaticIs s "java/lang/String" "COMPACT_STRINGS" "Z" (.int z) ∧ ¬ z = 0 ∧ 0 < len ∧ o + len ≤ A.slots.size ∧ len ≤ 536870912 ∧ ∀ i, i < len → ¬ 255 < cv A (o + i)
def E (a : Addr) (D : Cell) (fV fC : Field) (A : Cell) (o len : Nat) (r : Option Value) (s u : State) : Prop := Got a D fV fC A o len r s u
/-- len > 0, no char of the range above 255: a Latin-1 String of their low bytes -/
theorem law (l : Launch) (a : Addr) (D : Cell) (fV fC : Field) (b : Addr) (A : Cell) (z : Int32) (o len : Nat) : Law l yN 5 4 2 35 yB 6 none site (P a D fV fC b A z o len) (E a D fV fC A o len) [⟨a, fC.slot⟩, ⟨a, fV.slot⟩] 1 len := by
  refine Law.of_walk (plainFor_of_name (by decide +kernel)) (by decide +kernel) (by decide +kernel) (by decide) (fun _ _ h => by rw [h.1]; rfl) (fun _ U U' hal hh h => ⟨h.1, h.2.1.mv hal hh, h.2.2.1.al hal, h.2.2.2.1.al hal, h.2.2.2.2.1.mv hal hh, h.2.2.2.2.2.1.there hal hh, h.2.2.2.2.2.2⟩) (fun r U U' V V' h1 hal h2 h => Got.mv r U U' V V' h1 hal h2 h) ?_
  intro p e s m args below meth c s₁ X0 hexec hbytes hml hret hlk hnm hown hh0 W hP
  obtain ⟨rfl, hB, f1, f2, hA, s1, hz, l0, l1, l2, hp⟩ := hP
  have a31 := hA.1.2.2.2
  have c1 : Steps p.tables e below (s₁.setTop (entryFrame m #[.ref a, .ref b, .int (Int32.ofNat o), .int (Int32.ofNat len), .null] 6)) (s₁.setTop (mkF m 0 #[.val (.ref a), .val (.ref b), .val (.int (Int32.ofNat o)), .val (.int (Int32.ofNat len)), .val .null, .unset] [])) := entry rfl
  have c2 : Steps p.tables e below (s₁.setTop (entryFrame m #[.ref a, .ref b, .int (Int32.ofNat o), .int (Int32.ofNat len), .null] 6)) (s₁.setTop (mkF m 1 #[.val (.ref a), .val (.ref b), .val (.int (Int32.ofNat o)), .val (.int (Int32.ofNat len)), .val .null, .unset] [.ref a])) := c1.trans (by
    refine XS.aloadN X0.here hexec rfl (hb hbytes d0) rfl rfl ?_
    exact Steps.refl _)
  obtain ⟨T3, X3, q3, st3⟩ := X0.oinit hexec hown (wks W (objW "java/lang/String" 1)) (g := (mkF m 1 #[.val (.ref a), .val (.ref b), .val (.int (Int32.ofNat o)), .val (.int (Int32.ofNat len)), .val .null, .unset] [.ref a])) rfl (by rw [hml]; rfl) (rest := []) rfl (hb hbytes d1) (W := 0) (by show 2 * 0 + 0 ≤ _; decide) (Nat.le_of_ble_eq_true rfl) (Nat.le_of_ble_eq_true rfl)
  have hh3 := q3.trans hh0
  have c4 : Steps p.tables e below (s₁.setTop (entryFrame m #[.ref a, .ref b, .int (Int32.ofNat o), .int (Int32.ofNat len), .null] 6)) (T3.setTop (mkF m 27 #[.val (.ref a), .val (.ref b), .val (.int (Int32.ofNat o)), .val (.int (Int32.ofNat len)), .val .null, .unset] [])) := (c2.trans (st3 _ (Steps.refl _))).trans (by
    refine XS.iloadN X3.here hexec rfl (hb hbytes d4) rfl ?_
    refine XS.ifYes X3.here hexec rfl (pc0 := 5) rfl (hb hbytes d5) rfl (i0_ne_t (nz32 (by omega) l0)) (by decide) rfl ?_
    exact Steps.refl _)
  obtain ⟨T5, X5, q5, st5⟩ := X3.sget hexec hown (wk W (.fieldLink "java/lang/String" 38 "java/lang/String" "COMPACT_STRINGS" "Z")) s1 (fun _ _ h => by rw [hh3]; exact h) (g := (mkF m 27 #[.val (.ref a), .val (.ref b), .val (.int (Int32.ofNat o)), .val (.int (Int32.ofNat len)), .val .null, .unset] [])) rfl (hb hbytes d27)
  have hh5 := q5.trans hh3
  have c6 : Steps p.tables e below (s₁.setTop (entryFrame m #[.ref a, .ref b, .int (Int32.ofNat o), .int (Int32.ofNat len), .null] 6)) (T5.setTop (mkF m 30 #[.val (.ref a), .val (.ref b), .val (.int (Int32.ofNat o)), .val (.int (Int32.ofNat len)), .val .null, .unset] [.int z])) := c4.trans (st5 _ (Steps.refl _))
  have c7 : Steps p.tables e below (s₁.setTop (entryFrame m #[.ref a, .ref b, .int (Int32.ofNat o), .int (Int32.ofNat len), .null] 6)) (T5.setTop (mkF m 36 #[.val (.ref a), .val (.ref b), .val (.int (Int32.ofNat o)), .val (.int (Int32.ofNat len)), .val .null, .unset] [.int (Int32.ofNat len), .int (Int32.ofNat o), .ref b])) := c6.trans (by
    refine XS.ifNo X5.here hexec rfl (hb hbytes d30) rfl (i0_eq_f hz) ?_
    refine XS.aloadN X5.here hexec rfl (hb hbytes d33) rfl rfl ?_
    refine XS.iloadN X5.here hexec rfl (hb hbytes d34) rfl ?_
    refine XS.iloadN X5.here hexec rfl (hb hbytes d35) rfl ?_
    exact Steps.refl _)
  obtain ⟨v8, T8, X8, E8, g8⟩ := X5.callS hexec (Cmp3.law l b A o len) hown (wks W (staticW "java/lang/String" 177 Cmp3.yN)) (wk W Cmp3.tab) (W := 0) (Nat.le_of_ble_eq_true rfl) (Nat.le_of_ble_eq_true rfl) (Nat.le_refl _) (by show 0 + len ≤ len; omega) (g := (mkF m 36 #[.val (.ref a), .val (.ref b), .val (.int (Int32.ofNat o)), .val (.int (Int32.ofNat len)), .val .null, .unset] [.int (Int32.ofNat len), .int (Int32.ofNat o), .ref b])) rfl (by rw [hml]; rfl) c7 (argsL := [.ref b, .int (Int32.ofNat o), .int (Int32.ofNat len)]) (rest := []) rfl rfl (by show 2 * 0 + 0 ≤ _; decide) (hb hbytes d36) (⟨rfl, hA.mv X5.warmed.alike hh5, l1, l2, hp⟩)
  obtain ⟨e8, z8⟩ := E8
  obtain ⟨rfl, N, n1, n2, n3, n4, n5, n6⟩ := NewArr.mv _ T5 s _ _ hh5.symm (Vm.Alike.refl _) rfl e8
  rw [hh5] at z8
  have hB1 := hB.keep X8.warmed.alike (n6 _ _ hB.1)
  have hne : s.heap.size ≠ a := (Nat.ne_of_lt (Array.getElem?_eq_some_iff.mp hB.1).1).symm
  have c9 : Steps p.tables e below (s₁.setTop (entryFrame m #[.ref a, .ref b, .int (Int32.ofNat o), .int (Int32.ofNat len), .null] 6)) (T8.setTop (mkF m 39 #[.val (.ref a), .val (.ref b), .val (.int (Int32.ofNat o)), .val (.int (Int32.ofNat len)), .val .null, .unset] [.ref s.heap.size])) := g8
  have c10 : Steps p.tables e below (s₁.setTop (entryFrame m #[.ref a, .ref b, .int (Int32.ofNat o), .int (Int32.ofNat len), .null] 6)) (T8.setTop (mkF m 45 #[.val (.ref a), .val (.ref b), .val (.int (Int32.ofNat o)), .val (.int (Int32.ofNat len)), .val .null, .val (.ref s.heap.size)] [.int (Int32.ofNat N.slots.size), .ref s.heap.size, .ref a])) := by
    have hc : Steps p.tables e below (s₁.setTop (entryFrame m #[.ref a, .ref b, .int (Int32.ofNat o), .int (Int32.ofNat len), .null] 6)) (T8.setTop (mkF m 45 #[.val (.ref a), .val (.ref b), .val (.int (Int32.ofNat o)), .val (.int (Int32.ofNat len)), .val .null, .val (.ref s.heap.size)] [.int (Int32.ofNat len), .ref s.heap.size, .ref a])) := c9.trans (by
      refine XS.astore X8.here hexec rfl (hb hbytes d39) rfl rfl rfl ?_
      refine XS.aloadN X8.here hexec rfl (hb hbytes d41) rfl rfl ?_
      refine XS.aload X8.here hexec rfl (hb hbytes d42) rfl rfl ?_
      refine XS.iloadN X8.here hexec rfl (hb hbytes d44) rfl ?_
      exact Steps.refl _)
    rw [n4]; exact hc
  obtain ⟨v11, T11, X11, E11, g11⟩ := X8.callS hexec (CodL.law l s.heap.size N) hown (wks W (staticW "java/lang/String" 47 CodL.yN)) (wk W CodL.tab) (W := 1) (Nat.le_of_ble_eq_true rfl) (Nat.le_of_ble_eq_true rfl) (Nat.le_refl _) (by show 0 + len + 0 ≤ len; omega) (g := (mkF m 45 #[.val (.ref a), .val (.ref b), .val (.int (Int32.ofNat o)), .val (.int (Int32.ofNat len)), .val .null, .val (.ref s.heap.size)] [.int (Int32.ofNat N.slots.size), .ref s.heap.size, .ref a])) rfl (by rw [hml]; rfl) c10 (argsL := [.ref s.heap.size, .int (Int32.ofNat N.slots.size)]) (rest := [.ref a]) rfl rfl (by show 2 * 0 + (1 + 0) ≤ _; decide) (hb hbytes d45) (⟨rfl, n1⟩)
  obtain ⟨rfl, q11⟩ := E11
  have hB11 := hB1.mv (X8.warmed.alike.symm.trans X11.warmed.alike) q11
  have c12 : Steps p.tables e below (s₁.setTop (entryFrame m #[.ref a, .ref b, .int (Int32.ofNat o), .int (Int32.ofNat len), .null] 6)) (T11.setTop (mkF m 48 #[.val (.ref a), .val (.ref b), .val (.int (Int32.ofNat o)), .val (.int (Int32.ofNat len)), .val .null, .val (.ref s.heap.size)] [.int 0, .ref a])) := g11
  obtain ⟨T13, X13, p13, bl13, sl13, st13⟩ := X11.finit hexec hown (wk W (.fieldLink "java/lang/String" 15 "java/lang/String" "coder" "B")) (Or.inr ⟨_, (wk W (.laysFinal "java/lang/String" "java/lang/String" "coder" "B"))⟩) (Or.inl ⟨rfl, hnm⟩) f2 (Or.inl rfl) hB11 (t := .byte) (by decide +kernel) rfl (g := (mkF m 48 #[.val (.ref a), .val (.ref b), .val (.int (Int32.ofNat o)), .val (.int (Int32.ofNat len)), .val .null, .val (.ref s.heap.size)] [.int 0, .ref a])) rfl (rest := []) rfl (hb hbytes d48)
  have c14 : Steps p.tables e below (s₁.setTop (entryFrame m #[.ref a, .ref b, .int (Int32.ofNat o), .int (Int32.ofNat len), .null] 6)) (T13.setTop (mkF m 54 #[.val (.ref a), .val (.ref b), .val (.int (Int32.ofNat o)), .val (.int (Int32.ofNat len)), .val .null, .val (.ref s.heap.size)] [.ref s.heap.size, .ref a])) := (c12.trans (st13 _ (Steps.refl _))).trans (by
    refine XS.aloadN X13.here hexec rfl (hb hbytes d51) rfl rfl ?_
    refine XS.aload X13.here hexec rfl (hb hbytes d52) rfl rfl ?_
    exact Steps.refl _)
  obtain ⟨T15, X15, p15, bl15, sl15, st15⟩ := X13.finit hexec hown (wk W (.fieldLink "java/lang/String" 9 "java/lang/String" "value" "[B")) (Or.inr ⟨_, (wk W (.laysFinal "java/lang/String" "java/lang/String" "value" "[B"))⟩) (Or.inl ⟨rfl, hnm⟩) f1 (Or.inl rfl) bl13 (t := (.array .byte)) (by decide +kernel) rfl (g := (mkF m 54 #[.val (.ref a), .val (.ref b), .val (.int (Int32.ofNat o)), .val (.int (Int32.ofNat len)), .val .null, .val (.ref s.heap.size)] [.ref s.heap.size, .ref a])) rfl (rest := []) rfl (hb hbytes d54)
  have c16 : Steps p.tables e below (s₁.setTop (entryFrame m #[.ref a, .ref b, .int (Int32.ofNat o), .int (Int32.ofNat len), .null] 6)) (T15.setTop (mkF m 57 #[.val (.ref a), .val (.ref b), .val (.int (Int32.ofNat o)), .val (.int (Int32.ofNat len)), .val .null, .val (.ref s.heap.size)] [])) := c14.trans (st15 _ (Steps.refl _))
  have ap := apart (Or.inr ⟨_, (wk W (.laysFinal "java/lang/String" "java/lang/String" "value" "[B"))⟩) (Or.inr ⟨_, (wk W (.laysFinal "java/lang/String" "java/lang/String" "coder" "B"))⟩) f1 f2 (t₁ := .array .byte) (t₂ := .byte) (by decide +kernel) (by decide +kernel) (by decide)
  have al := X8.warmed.alike.symm.trans X15.warmed.alike
  have n7 : T11.heap[s.heap.size]? = some N := by rw [q11]; exact n1.1
  exact ⟨T15, none, _, _, _, X15, by simp, rfl, by omega, (fun _ => rfl), ⟨rfl, _, N, bl15, ((Same.refl D _).set _ (by simp)).set _ (by simp), sl15, (Cell.slots_setSlot_ne _ ap).trans sl13, n1.keep al (p15.other hne (p13.other hne n7)), n2, by rw [al.findClass]; exact n3, n4, n5, fun y c h1 h2 => p15.other h1 (p13.other h1 (by rw [q11]; exact n6 y c h2)), by rw [p15.2.2, p13.2.2, q11]; exact z8⟩, fun fs hl => c16.trans (X15.returnOut hexec hret (hb hbytes d57) hl)⟩
end New4
namespace New1
def yN : MethodName := ⟨"java/lang/String", "<init>", "([C)V"⟩
abbrev yB : ByteArray := jdk_42_method_3_code
theorem d0 : decode yB 0 = .ok (.aload_n 0, 1) := by decide +kernel
theorem d1 : decode yB 1 = .ok (.aload_n 1, 1) := by decide +kernel
theorem d2 : decode yB 2 = .ok (.iconst 0, 1) := by decide +kernel
theorem d3 : decode yB 3 = .ok (.aload_n 1, 1) := by decide +kernel
theorem d4 : decode yB 4 = .ok (.arraylength, 1) := by decide +kernel
theorem d5 : decode yB 5 = .ok (.aconst_null, 1) := by decide +kernel
theorem d6 : decode yB 6 = .ok (.invokespecial 27, 3) := by decide +kernel
theorem d9 : decode yB 9 = .ok (.return_, 1) := by decide +kernel
def site : List Cond := [New4.tab] ++ initW "java/lang/String" 27 New4.yN
def tab : Cond := tabOf yN yB 2 none site
def P (a : Addr) (D : Cell) (fV fC : Field) (b : Addr) (A : Cell) (z : Int32) (args : Array Value) (s : State) : Prop := args = #[.ref a, .ref b] ∧ Blank "java/lang/String" a D s ∧ Found "java/lang/String" "value" "[B" fV s ∧ Found "java/lang/String" "coder" "B" fC s ∧ Ch b A s ∧ StaticIs s "java/lang/String" "COMPACT_STRINGS" "Z" (.int z) ∧ ¬ z = 0 ∧ 0 < A.slots.size ∧ A.slots.size ≤ 536870912 ∧ ∀ i, i < A.slots.size → ¬ 255 < cv A i
def E (a : Addr) (D : Cell) (fV fC : Field) (A : Cell) (r : Option Value) (s u : State) : Prop := Got a D fV fC A 0 A.slots.size r s u
/-- new String(chars), not empty, no char above 255: a Latin-1 String of their low bytes -/
theorem law (l : Launch) (a : Addr) (D : Cell) (fV fC : Field) (b : Addr) (A : Cell) (z : Int32) : Law l yN 2 1 3 52 yB 2 none site (P a D fV fC b A z) (E a D fV fC A) [⟨a, fC.slot⟩, ⟨a, fV.slot⟩] 1 A.slots.size := by
  refine Law.of_walk (plainFor_of_name (by decide +kernel)) (by decide +kernel) (by decide +kernel) (by decide) (fun _ _ h => by rw [h.1]; rfl) (fun _ U U' hal hh h => ⟨h.1, h.2.1.mv hal hh, h.2.2.1.al hal, h.2.2.2.1.al hal, h.2.2.2.2.1.mv hal hh, h.2.2.2.2.2.1.there hal hh, h.2.2.2.2.2.2⟩) (fun r U U' V V' h1 hal h2 h => Got.mv r U U' V V' h1 hal h2 h) ?_
  intro p e s m args below meth c s₁ X0 hexec hbytes hml hret hlk hnm hown hh0 W hP
  obtain ⟨rfl, hB, f1, f2, hA, s1, hz, l0, l2, hp⟩ := hP
  have c1 : Steps p.tables e below (s₁.setTop (entryFrame m #[.ref a, .ref b] 2)) (s₁.setTop (mkF m 0 #[.val (.ref a), .val (.ref b)] [])) := entry rfl
  have c2 : Steps p.tables e below (s₁.setTop (entryFrame m #[.ref a, .ref b] 2)) (s₁.setTop (mkF m 6 #[.val (.ref a), .val (.ref b)] [.null, .int (Int32.ofNat A.slots.size), .int 0, .ref b, .ref a])) := c1.trans (by
    refine XS.aloadN X0.here hexec rfl (hb hbytes d0) rfl rfl ?_
    refine XS.aloadN X0.here hexec rfl (hb hbytes d1) rfl rfl ?_
    refine iconstV X0.here hexec rfl 0 (hb hbytes d2) (by decide) ?_
    refine XS.aloadN X0.here hexec rfl (hb hbytes d3) rfl rfl ?_
    refine X0.alen hexec (hA.1.mv X0.warmed.alike hh0) rfl rfl (hb hbytes d4) ?_
    refine XS.aconstNull X0.here hexec rfl (hb hbytes d5) ?_
    exact Steps.refl _)
  obtain ⟨v3, T3, X3, E3, g3⟩ := X0.callN hexec (New4.law l a D fV fC b A z 0 A.slots.size) rfl hown (wks W (initW "java/lang/String" 27 New4.yN)) (W New4.tab (by simp only [site, List.mem_cons, List.mem_append, true_or, or_true])) (W := 0) (Nat.le_of_ble_eq_true rfl) (Nat.le_of_ble_eq_true rfl) (Nat.le_refl _) (by show 0 + A.slots.size ≤ A.slots.size; omega) (g := (mkF m 6 #[.val (.ref a), .val (.ref b)] [.null, .int (Int32.ofNat A.slots.size), .int (Int32.ofNat 0), .ref b, .ref a])) rfl (by rw [hml]; rfl) c2 (argsL := [.ref b, .int (Int32.ofNat 0), .int (Int32.ofNat A.slots.size), .null]) (rest := []) rfl rfl (by show 2 * 0 + 0 ≤ _; decide) (hb hbytes d6) (⟨rfl, hB.mv X0.warmed.alike hh0, f1.al X0.warmed.alike, f2.al X0.warmed.alike, hA.mv X0.warmed.alike hh0, s1.there X0.warmed.alike hh0, hz, l0, by omega, l2, fun i hi => by rw [Nat.zero_add]; exact hp i hi⟩)
  have e0 := Got.mv _ s₁ s _ _ hh0.symm (Vm.Alike.refl _) rfl E3
  obtain rfl := e0.1
  have c4 : Steps p.tables e below (s₁.setTop (entryFrame m #[.ref a, .ref b] 2)) (T3.setTop (mkF m 9 #[.val (.ref a), .val (.ref b)] [])) := g3
  exact ⟨T3, none, _, _, _, X3, by simp, rfl, by omega, (fun _ => rfl), e0, fun fs hl => c4.trans (X3.returnOut hexec hret (hb hbytes d9) hl)⟩
theorem pays {l : Launch} {R : Room} {p : Program} {e : Env} {below : List Frame} {s : State} {sargs : Array Value} {len W : Nat} (a : Addr) (D : Cell) (fV fC : Field) (b : Addr) (A : Cell) (z : Int32) (htab : tab.before sargs s = true) (hfr : 4 ≤ R.frames) (hlo : W + 65 ≤ R.locals) :
    Back l R p e below s sargs yN len W (fun A₁ a₁ => A₁.cells + 1 ≤ R.cells ∧ A₁.slots + A.slots.size ≤ R.slots ∧ P a D fV fC b A z a₁ A₁.U) (fun A₁ _ v₁ B₁ => E a D fV fC A v₁ A₁.U B₁.U ∧ B₁.locs = A₁.locs ++ [⟨a, fC.slot⟩, ⟨a, fV.slot⟩] ∧ B₁.cells = A₁.cells + 1 ∧ B₁.slots = A₁.slots + A.slots.size) :=
  (law l a D fV fC b A z).pays htab hfr (by omega)
end New1
end StrChars
namespace StrChars.Road
open Jvm Sem ClassFile Op Lib Jvm.Stand Jvm.Free Jvm.Free.XT
open Jvm.Lib.Cold (StaticIs)
abbrev ST : String := "java/lang/String"
/-- every table word that New1's law asks, flat -/
abbrev words : List Jvm.Cond := [.code New1.yN New1.yB 2 none, .initialized ST, .methodLink ST 27 New4.yN, .instanceMethod New4.yN,
  .code New4.yN New4.yB 6 none, .fieldLink ST 38 ST "COMPACT_STRINGS" "Z", .laysFinal ST ST "value" "[B", .fieldLink ST 9 ST "value" "[B", .laysFinal ST ST "coder" "B", .fieldLink ST 15 ST "coder" "B",
  .methodLink ST 1 Lib.objectInit, .instanceMethod Lib.objectInit, .code Lib.objectInit ⟨#[0xb1]⟩ 1 none, .methodLink ST 177 Cmp3.yN, .static Cmp3.yN, .methodLink ST 47 CodL.yN, .static CodL.yN,
  .code Cmp3.yN Cmp3.yB 6 (some (.array .byte)), .initialized U16, .arrayClass .byte, .methodLink U16 115 Cmp5.yN, .static Cmp5.yN, .code Cmp5.yN Cmp5.yB 7 (some .int), .code CodL.yN CodL.yB 2 (some .byte)]
theorem tab_of {a : Array Value} {s : State} (h : ∀ w ∈ words, w.before a s = true) : New1.tab.before a s = true := by
  have h5 : Cmp5.tab.before a s = true := unparts (wk h (.code Cmp5.yN Cmp5.yB 7 (some .int))) (wks h (.initialized Cmp5.yN.cls :: Cmp5.site))
  have hc : CodL.tab.before a s = true := unparts (wk h (.code CodL.yN CodL.yB 2 (some .byte))) (wks h (.initialized CodL.yN.cls :: CodL.site))
  have q5 : ∀ w ∈ Cmp5.tab :: words, w.before a s = true := fun w hw => (List.mem_cons.mp hw).elim (fun e => e ▸ h5) (h w)
  have h3 : Cmp3.tab.before a s = true := unparts (wk q5 (.code Cmp3.yN Cmp3.yB 6 (some (.array .byte)))) (wks q5 (.initialized Cmp3.yN.cls :: Cmp3.site))
  have q3 : ∀ w ∈ Cmp3.tab :: CodL.tab :: words, w.before a s = true := fun w hw => (List.mem_cons.mp hw).elim (fun e => e ▸ h3) fun hw => (List.mem_cons.mp hw).elim (fun e => e ▸ hc) (h w)
  have h4 : New4.tab.before a s = true := unparts (wk q3 (.code New4.yN New4.yB 6 none)) (wks q3 (.initialized New4.yN.cls :: New4.site))
  have q4 : ∀ w ∈ New4.tab :: words, w.before a s = true := fun w hw => (List.mem_cons.mp hw).elim (fun e => e ▸ h4) (h w)
  exact unparts (wk q4 (.code New1.yN New1.yB 2 none)) (wks q4 (.initialized New1.yN.cls :: New1.site))
/-- the words ride from the start Z to the walk's own state -/
theorem moved {Z s : State} {a0 args : Array Value} (hZ : Z.Warmed39 s.vm) (hw : ∀ d ∈ words, d.before a0 Z = true) : ∀ d ∈ words, d.before args s = true := fun d hd => by
  have q := hw d hd
  have t : ∀ d ∈ words, d = .arrayClass .byte ∨ (d.onTables && d.keepsFace) = true := by decide +kernel
  rcases t d hd with rfl | t
  · exact RoadKit.mvA hZ q
  · exact RoadKit.mv hZ q t
/-- WHAT COMES BACK, over the tables of the start Z: h the heap at the call, h' behind it -/
def Q (Z : State) (x : Addr) (A : Cell) (h : Heap) (v : Option Value) (h' : Heap) (L : List Loc) : Prop := v = none ∧ (∀ y ∈ L, y.base = x) ∧ RoadKit.Keep h h' [x] ∧ h'.size = h.size + 1 ∧ RoadKit.Exa Z h' x ST ∧ RoadKit.Fld Z h' x ST "value" "[B" (.ref h.size) ∧ RoadKit.Fld Z h' x ST "coder" "B" (.int 0) ∧
  (∃ V : Cell, RoadKit.Arr Z h' h.size V .byte ∧ V.vm = .none ∧ Z.vm.findClass "[B" = some V.cls ∧ V.slots.size = A.slots.size ∧ ∀ j, j < A.slots.size → V.slots[j]? = some (.int (lo8 (cv A j)))) ∧
  ∀ (O n d : String) (w : Value), RoadKit.Fld Z h x O n d w → RoadKit.slotOf Z O n d ≠ RoadKit.slotOf Z ST "value" "[B" → RoadKit.slotOf Z O n d ≠ RoadKit.slotOf Z ST "coder" "B" → RoadKit.Fld Z h' x O n d w
/-- **new String(chars) AT A CALL, IN THE ROAD'S FORM**: for specialBack behind newO: x the fresh String, b the char[] with the cell A -/
theorem back {p : Program} {l : Launch} {e : Env} {R : Room} {s : State} {args : Array Value} {below : List Frame} {len W : Nat} {Z : State} {a0 : Array Value} {h : Heap} (hZ : Z.Warmed39 s.vm) (hw : ∀ d ∈ words, d.before a0 Z = true) {kI : Nat} (wi : (Jvm.Cond.instantiable ST kI).before a0 Z = true)
    {x b : Addr} {A : Cell} {z : Int32} {v0 c0 : Value} (E : RoadKit.Exa Z h x ST) (V : RoadKit.Fld Z h x ST "value" "[B" v0) (C : RoadKit.Fld Z h x ST "coder" "B" c0) (K : RoadKit.Arr Z h b A .char) (hty : Typed .char A) (S : RoadKit.Sta Z h ST "COMPACT_STRINGS" "Z" (.int z)) (hz : ¬ z = 0)
    (l0 : 0 < A.slots.size) (l2 : A.slots.size ≤ 536870912) (hp : ∀ i, i < A.slots.size → ¬ 255 < cv A i) (hfr : 4 ≤ R.frames) (hlo : W + 65 ≤ R.locals) :
    Back l R p e below s args New1.yN len W (fun P a => a = #[.ref x, .ref b] ∧ P.U.heap = h ∧ P.cells + 1 ≤ R.cells ∧ P.slots + A.slots.size ≤ R.slots)
      (fun P _ v B => ∃ L, Q Z x A h v B.U.heap L ∧ B.locs = P.locs ++ L ∧ B.cells = P.cells + 1 ∧ B.slots = P.slots + A.slots.size) := by
  intro m meth c P g ig mk a X hg hsize hdg hW hn hp'
  obtain ⟨rfl, rfl, r1, r2⟩ := hp'
  have al : Z.vm.Alike P.U.vm := hZ.alike.trans X.warmed.alike
  obtain ⟨D, cfV, kV, iV, fV, hD, gV, stV, knV, obV, asV, slV⟩ := id V
  obtain ⟨D', cfC, kC, iC, fC, hD', gC, stC, -, -, asC, slC⟩ := id C
  cases hD.symm.trans hD'
  obtain ⟨D2, kD, e1, e2, e3, e4, e5⟩ := id E
  cases hD.symm.trans e1
  obtain ⟨c2, k2, i1, i2, i3, -⟩ := Cond.instantiable_spec wi
  cases e2.symm.trans i1
  cases e3.symm.trans i2
  obtain ⟨kU, u1, u2⟩ := al.2.2 _ _ e3
  have hB : Blank ST x D P.U := ⟨hD, ⟨knV, fun q hq => by rw [hq] at obV; cases obV⟩, by rw [al.findClass]; exact e2, kU, u1, by rw [u2]; exact i3, by rw [u2]; exact e5 i3⟩
  have F1 : Found ST "value" "[B" fV P.U := ⟨SBG.found_only al ⟨cfV, kV, iV, gV⟩, stV⟩
  have F2 : Found ST "coder" "B" fC P.U := ⟨SBG.found_only al ⟨cfC, kC, iC, gC⟩, stC⟩
  have hA : Ch b A P.U := ⟨⟨K.1, State.isArrayOf_alike al K.2.1, K.2.2, by omega⟩, hty⟩
  have hS : StaticIs P.U ST "COMPACT_STRINGS" "Z" (.int z) := by
    obtain ⟨cfS, iS, kS, fS, st, cS, t1, t2, t3, t4, t5, t6, t7⟩ := S
    exact StaticIs.there (s := { Z with heap := P.U.heap }) ⟨cfS, iS, kS, fS, st, cS, t1, t2, t3, t4, t5, (fun q => by rw [q] at t6; cases t6), t7⟩ al rfl
  obtain ⟨v, B, X', ⟨⟨hv, E', V', q1, q2, q3, q4, q5, q6, q7, q8, q9, q10, q11⟩, hl, hc, hs⟩, st⟩ := New1.pays x D fV fC b A z (tab_of (moved hZ hw)) hfr hlo m meth c P g ig mk _ X hg hsize hdg hW hn ⟨r1, r2, rfl, hB, F1, F2, hA, hS, hz, l0, l2, hp⟩
  have al' : Z.vm.Alike B.U.vm := hZ.alike.trans X'.warmed.alike
  have hsz : E'.slots.size = D.slots.size := by
    obtain ⟨-, -, -, kB, w1, w2, w3⟩ := q1
    obtain ⟨kB', y1, y2⟩ := al'.2.2 _ _ e3
    rw [q2.2.1] at w1
    cases w1.symm.trans y1
    rw [w3, e5 i3, y2]
  refine ⟨v, B, X', ⟨_, ⟨hv, ?_, ⟨by omega, fun y cy hy hn' => q10 y cy (by simpa using hn') hy, fun y cy hy => ?_⟩, q11, ⟨E', _, q1.1, by rw [q2.2.1]; exact e2, by rw [q2.2.1]; exact e3, by rw [q2.1]; exact obV, fun _ => by rw [hsz]; exact e5 i3⟩,
    ⟨E', cfV, kV, iV, fV, q1.1, gV, stV, by rw [q2.1]; exact knV, by rw [q2.1]; exact obV, by rw [q2.2.1]; exact asV, q3⟩, ⟨E', cfC, kC, iC, fC, q1.1, gC, stC, by rw [q2.1]; exact knV, by rw [q2.1]; exact obV, by rw [q2.2.1]; exact asC, q4⟩,
    ⟨V', ⟨q5.1, State.isArrayOf_alike al'.symm q5.2.1, q5.2.2.1⟩, q6, by rw [← al'.findClass]; exact q7, q8, fun j hj => by have := q9 j hj; rwa [Nat.zero_add] at this⟩, fun O n d w F n1 n2 => ?_⟩, hl, hc, hs⟩, st⟩
  · intro y hy
    simp only [List.mem_cons, List.not_mem_nil, or_false] at hy
    rcases hy with rfl | rfl <;> rfl
  · by_cases q : y = x
    · subst q
      cases hD.symm.trans hy
      exact ⟨E', q1.1, q2.2.1, q2.1, hsz⟩
    · exact ⟨cy, q10 y cy q hy, rfl, rfl, rfl⟩
  · obtain ⟨D3, cf, k, i, f, g1, g2, g3, g4, g5, g6, g7⟩ := F
    cases hD.symm.trans g1
    simp only [RoadKit.slotOf, g2, gV, gC, Option.map_some, Option.getD_some] at n1 n2
    exact ⟨E', cf, k, i, f, q1.1, g2, g3, by rw [q2.1]; exact g4, by rw [q2.1]; exact g5, by rw [q2.2.1]; exact g6, by rw [q2.2.2 f.slot (by simp [n1, n2])]; exact g7⟩
end StrChars.Road
namespace StrChars.Road
open Jvm Sem ClassFile Op Lib Jvm.Stand Jvm.Free Jvm.Free.XT
/-- WHAT COMES BACK, the byte[] as a list of values -/
def QA (Z : State) (x : Addr) (zn : Int32) (cs : List Int32) (h : Heap) (v : Option Value) (h' : Heap) (L : List Loc) : Prop := v = none ∧ (∀ y ∈ L, y.base = x) ∧ RoadKit.Keep h h' [x] ∧ h'.size = h.size + 1 ∧ RoadKit.Exa Z h' x ST ∧ RoadKit.Fld Z h' x ST "value" "[B" (.ref h.size) ∧ RoadKit.Fld Z h' x ST "coder" "B" (.int 0) ∧
  (∃ kb, Z.vm.findClass "[B" = some kb ∧ RoadKit.Arv Z h' h.size kb .byte zn (cs.map fun c => .int (lo8 c)) (.int 0)) ∧
  ∀ (O n d : String) (w : Value), RoadKit.Fld Z h x O n d w → RoadKit.slotOf Z O n d ≠ RoadKit.slotOf Z ST "value" "[B" → RoadKit.slotOf Z O n d ≠ RoadKit.slotOf Z ST "coder" "B" → RoadKit.Fld Z h' x O n d w
/-- **new String(chars) AT A CALL, THE ARRAYS AS LISTS**: the char[] at b holds cs, not empty, no char above 255 -/
theorem backArv {p : Program} {l : Launch} {e : Env} {R : Room} {s : State} {args : Array Value} {below : List Frame} {len W : Nat} {Z : State} {a0 : Array Value} {h : Heap} (hZ : Z.Warmed39 s.vm) (hw : ∀ d ∈ words, d.before a0 Z = true) {kI : Nat} (wi : (Jvm.Cond.instantiable ST kI).before a0 Z = true)
    {x b : Addr} {k : ClassId} {zn z : Int32} {cs : List Int32} {dv v0 c0 : Value} (E : RoadKit.Exa Z h x ST) (V : RoadKit.Fld Z h x ST "value" "[B" v0) (C : RoadKit.Fld Z h x ST "coder" "B" c0) (K : RoadKit.Arv Z h b k .char zn (cs.map Value.int) dv) (S : RoadKit.Sta Z h ST "COMPACT_STRINGS" "Z" (.int z)) (hz : ¬ z = 0)
    (hlen : zn.toNatClampNeg = cs.length) (h0 : 0 < cs.length) (hbig : cs.length ≤ 536870912) (hall : ∀ c ∈ cs, ¬ 255 < c) (hfr : 4 ≤ R.frames) (hlo : W + 65 ≤ R.locals) :
    Back l R p e below s args New1.yN len W (fun P a => a = #[.ref x, .ref b] ∧ P.U.heap = h ∧ P.cells + 1 ≤ R.cells ∧ P.slots + cs.length ≤ R.slots)
      (fun P _ v B => ∃ L, QA Z x zn cs h v B.U.heap L ∧ B.locs = P.locs ++ L ∧ B.cells = P.cells + 1 ∧ B.slots = P.slots + cs.length) := by
  obtain ⟨A, K1, K2, K3, K4, K5, K6⟩ := K
  have e : A.slots.size = cs.length := K3.trans hlen
  have hat : ∀ (i : Nat) (hi : i < cs.length), A.slots[i]? = some (.int cs[i]) := fun i hi => by rw [K5 i (by omega)]; simp [List.getD_eq_getElem?_getD, hi]
  have hcv : ∀ (i : Nat) (hi : i < cs.length), cv A i = cs[i] := fun i hi => by unfold cv; rw [hat i hi]
  have hty : Typed .char A := fun i v hv => by
    have hi : i < A.slots.size := (Array.getElem?_eq_some_iff.mp hv).1
    have q := K5 i hi
    rw [hv] at q
    rw [Option.some.inj q]
    exact K6 i hi
  refine Back.mono (back hZ hw wi E V C K1 hty S hz (by omega) (by omega) (fun i hi => by rw [hcv i (by omega)]; exact hall _ (List.getElem_mem _)) hfr hlo) (fun P a hp => ⟨hp.1, hp.2.1, hp.2.2.1, by rw [e]; exact hp.2.2.2⟩) (fun P a v B hp hq => ?_)
  obtain ⟨L, ⟨q1, q2, q3, q4, q5, q6, q7, ⟨V', v1, v2, v3, v4, v5⟩, q9⟩, hl, hc, hs⟩ := hq
  refine ⟨L, ⟨q1, q2, q3, q4, q5, q6, q7, ⟨V'.cls, v3, V', v1, rfl, by rw [v4, e, hlen], K4, fun i hi => ?_, fun i hi => ?_⟩, q9⟩, hl, hc, by rw [hs, e]⟩
  · have hi' : i < cs.length := by omega
    rw [v5 i (by omega), hcv i hi']; simp [List.getD_eq_getElem?_getD, hi']
  · have hi' : i < cs.length := by omega
    simp only [List.getD_eq_getElem?_getD, List.getElem?_map, List.getElem?_eq_getElem hi', Option.map_some, Option.getD_some]
    exact fits_lo8 _
end StrChars.Road
namespace StrChars.Road
open Jvm Sem ClassFile Op Lib Jvm.Stand Jvm.Free Jvm.Free.XT
/-- WHAT COMES BACK, in the writer's own shape -/
def QV (Z : State) (x : Addr) (N : Int32) (bs : List Int32) (h : Heap) (n0 : Nat) (v : Option Value) (h' : Heap) (L : List Loc) : Prop := v = none ∧ RoadKit.Fr n0 L ∧ RoadKit.Keep h h' [x] ∧ RoadKit.Exa Z h' x ST ∧ RoadKit.Fld Z h' x ST "coder" "B" (.int 0) ∧
  ∃ (t : Addr) (kb : ClassId), n0 ≤ t ∧ h.size ≤ t ∧ ¬ t = x ∧ RoadKit.Fld Z h' x ST "value" "[B" (.ref t) ∧ RoadKit.Arv Z h' t kb .byte N (bs.map Value.int) (.int 0)
/-- **new String(chars) AT A CALL, FOR THE WRITER**: a char[] of n known ints, each 0 to 255 -/
theorem backV {p : Program} {l : Launch} {e : Env} {R : Room} {s : State} {args : Array Value} {below : List Frame} {len W : Nat} {Z : State} {a0 : Array Value} {h : Heap} (hZ : Z.Warmed39 s.vm) (hw : ∀ d ∈ words, d.before a0 Z = true) {kI : Nat} (wi : (Jvm.Cond.instantiable ST kI).before a0 Z = true)
    {x b : Addr} {kC : ClassId} {cs bs : List Int32} {d v0 c0 : Value} {z N : Int32} {n n0 : Nat} (hx0 : n0 ≤ x) (hh0 : n0 ≤ h.size) (E : RoadKit.Exa Z h x ST) (V : RoadKit.Fld Z h x ST "value" "[B" v0) (C : RoadKit.Fld Z h x ST "coder" "B" c0) (K : RoadKit.Arv Z h b kC .char N (cs.map Value.int) d) (S : RoadKit.Sta Z h ST "COMPACT_STRINGS" "Z" (.int z)) (hz : ¬ z = 0)
    (hn : cs.length = n) (hN : N = Int32.ofNat n) (l0 : 0 < n) (l2 : n ≤ 4000) (hp : ∀ c ∈ cs, ¬ c < 0 ∧ ¬ (255 : Int32) < c) (hb : bs = cs.map (fun c => c.toInt8.toInt32)) (hfr : 4 ≤ R.frames) (hlo : W + 65 ≤ R.locals) :
    Back l R p e below s args (⟨"java/lang/String", "<init>", "([C)V"⟩ : MethodName) len W (fun P a => a = #[.ref x, .ref b] ∧ P.U.heap = h ∧ P.cells + 1 ≤ R.cells ∧ P.slots + n ≤ R.slots)
      (fun P _ v B => ∃ L, QV Z x N bs h n0 v B.U.heap L ∧ B.locs = P.locs ++ L ∧ B.cells = P.cells + 1 ∧ B.slots = P.slots + n) := by
  subst hn hN hb
  refine Back.mono (backArv hZ hw wi E V C K S hz (n32 (by omega)) l0 (by omega) (fun c hc => (hp c hc).2) hfr hlo) (fun P a hp => hp) (fun P a v B hp hq => ?_)
  obtain ⟨L, ⟨q1, q2, q3, q4, q5, q6, q7, ⟨kb, v1, v2⟩, q9⟩, hl, hc, hs⟩ := hq
  exact ⟨L, ⟨q1, fun y hy => by rw [q2 y hy]; exact hx0, q3, q5, q7, h.size, kb, hh0, Nat.le_refl _, Nat.ne_of_gt E.lt, q6, by rw [List.map_map]; exact v2⟩, hl, hc, hs⟩
end StrChars.Road
namespace StrChars
open Jvm Sem ClassFile Op Lib Jvm.Stand Jvm.Free.XT Jvm.Free.ALB Jvm.Free.JM Jvm.Free
open Jvm.Lib.Cold (StaticIs)
def hi8 (x : Int32) : Int32 := lo8 (x >>> ((8 : Int32) &&& 31))
end StrChars
namespace StrChars.Road
open Jvm Sem ClassFile Op Lib Jvm.Stand Jvm.Free Jvm.Free.XT
open Jvm.Lib.Cold (StaticIs)
/-- the bytes of the chars cs, low before high -/
def wideBytes : List Int32 → List Value
  | [] => []
  | c :: cs => .int (lo8 c) :: .int (hi8 c) :: wideBytes cs
/-- an array of N2 bytes vs codes the chars cs by the coder cd -/
def CodA (cs : List Int32) (cd N2 : Int32) (vs : List Value) : Prop := (cd = 0 ∧ N2 = Int32.ofNat cs.length ∧ vs = (cs.map fun c => Value.int (lo8 c)) ∧ ∀ c ∈ cs, ¬ 255 < c) ∨ (cd = 1 ∧ N2 = Int32.ofNat (2 * cs.length) ∧ vs = wideBytes cs ∧ ∃ c ∈ cs, 255 < c)
end StrChars.Road
namespace StrChars.Road
open Jvm Sem ClassFile Op Lib Jvm.Stand Jvm.Free Jvm.Free.XT
open Jvm.Lib.Cold (StaticIs)
/-- what backV says of its String, as the contracts of this text ask it: cs's low bytes, coder 0 -/
theorem codOf {cs : List Int32} {n : Nat} (hn : cs.length = n) (hb : ∀ c ∈ cs, ¬ 255 < c) : CodA cs 0 (Int32.ofNat n) ((cs.map lo8).map Value.int) := Or.inl ⟨rfl, by rw [hn], by simp [List.map_map, Function.comp_def], hb⟩
end StrChars.Road
end Jvm.Pilot.@@N@@
namespace Jvm.Pilot.@@N@@
open Jvm Jvm.ClassFile Sem Op Lib Jvm.Free Jvm.Stand Jvm.LawKit Jvm.RoadKit Bundle Jvm.OwnKit Jvm.Pilot.@@N@@.Jvm.D
section OwnStr
variable {p : Program} {l : Launch} {e : Env} {R : Room} {s : State} {args : Array Value} {below : List Frame} {Z : State} {a0 : Array Value} {h h' : Heap} {x t : Addr} {cs : List Int32}
/-- the String at x, her byte[] at t: the chars cs, each 0 to 255 -/
def Str (Z : State) (h : Heap) (x t : Addr) (cs : List Int32) : Prop := Exa Z h x "java/lang/String" ∧ Fld Z h x "java/lang/String" "coder" "B" (.int 0) ∧ Fld Z h x "java/lang/String" "value" "[B" (.ref t) ∧ (∃ kb, Arv Z h t kb .byte (Int32.ofNat cs.length) ((cs.map fun c => c.toInt8.toInt32).map Value.int) (.int 0)) ∧ (∀ c ∈ cs, ¬ c < 0 ∧ ¬ (255 : Int32) < c) ∧ cs.length ≤ 4000
theorem Str.exa (S : Str Z h x t cs) : Exa Z h x "java/lang/String" := S.1
theorem Str.lt (S : Str Z h x t cs) : x < h.size := S.1.lt
theorem Str.ltt (S : Str Z h x t cs) : t < h.size := by obtain ⟨-, -, -, ⟨kb, V⟩, -⟩ := S; exact V.lt
theorem Str.ext (S : Str Z h x t cs) (E : Ext h h') : Str Z h' x t cs := by obtain ⟨a, b, c, ⟨kb, V⟩, d⟩ := S; exact ⟨a.ext E, b.ext E, c.ext E, ⟨kb, V.ext E⟩, d⟩
theorem Str.keep {ws : List Addr} (S : Str Z h x t cs) (K : Keep h h' ws) (q : x ∉ ws) (r : t ∉ ws) : Str Z h' x t cs := by obtain ⟨a, b, c, ⟨kb, V⟩, d⟩ := S; exact ⟨a.keep K, b.keep K q, c.keep K q, ⟨kb, V.keep K r⟩, d⟩
theorem Str.other {a : Addr} {sl : Nat} {v : Value} (S : Str Z h x t cs) (W : Wr h h' a sl v) (q : x ≠ a) (r : t ≠ a) : Str Z h' x t cs := S.keep (Keep.of_wr W) (ninS q nin0) (ninS r nin0)
theorem up8 (h : ∀ c ∈ cs, ¬ c < 0 ∧ ¬ (255 : Int32) < c) : ∀ c ∈ cs, ¬ c < 0 ∧ ¬ (65535 : Int32) < c := fun c hc => ⟨(h c hc).1, fun q => (h c hc).2 (by rw [Int32.lt_iff_toInt_lt] at q ⊢; have e1 : (65535 : Int32).toInt = 65535 := rfl; have e2 : (255 : Int32).toInt = 255 := rfl; omega)⟩
theorem own_words : ∀ d ∈ StrChars.Road.words, d ∈ tables_1 := by decide +kernel
theorem strNew {len W : Nat} (hZ : Z.Warmed39 s.vm) (hw : ∀ d ∈ tables_1, d.before a0 Z = true) (wi : (Jvm.Cond.instantiable "java/lang/String" 4).before a0 Z = true) {b : Addr} {kC : ClassId} {d v0 c0 : Value} {z : Int32} {n n0 : Nat} (hx0 : n0 ≤ x) (hh0 : n0 ≤ h.size)
    (E : Exa Z h x "java/lang/String") (V : Fld Z h x "java/lang/String" "value" "[B" v0) (C : Fld Z h x "java/lang/String" "coder" "B" c0) (K : Arv Z h b kC .char (Int32.ofNat n) (cs.map Value.int) d) (S : Sta Z h "java/lang/String" "COMPACT_STRINGS" "Z" (.int z)) (hz : ¬ z = 0)
    (hn : cs.length = n) (l0 : 0 < n) (l2 : n ≤ 4000) (hp : ∀ c ∈ cs, ¬ c < 0 ∧ ¬ (255 : Int32) < c) (hfr : 4 ≤ R.frames) (hlo : W + 65 ≤ R.locals) :
    Pay l R p e below s args ⟨"java/lang/String", "<init>", "([C)V"⟩ len W #[.ref x, .ref b] h 1 n (fun v h' L => v = none ∧ Fr n0 L ∧ Keep h h' [x] ∧ ∃ t, n0 ≤ t ∧ h.size ≤ t ∧ ¬ t = x ∧ Str Z h' x t cs) := by
  refine Back.mono (StrChars.Road.backV hZ (fun d hd => hw d (own_words d hd)) wi hx0 hh0 E V C K S hz hn rfl l0 l2 hp rfl hfr hlo) (fun _ _ q => q) (fun P a v B hp' hq => ?_)
  obtain ⟨L, ⟨q1, q2, q3, q4, q5, t, kb, q6, q7, q8, q9, q10⟩, r1, r2, r3⟩ := hq
  subst hn
  exact ⟨L, ⟨q1, q2, q3, t, q6, q7, q8, q4, q5, q9, ⟨kb, q10⟩, hp, l2⟩, r1, r2, r3⟩
end OwnStr
end Jvm.Pilot.@@N@@
namespace Jvm.Pilot.@@N@@
open Jvm Jvm.ClassFile Sem Op Lib Jvm.Free Jvm.Stand Jvm.LawKit Jvm.RoadKit Bundle Jvm.OwnKit Jvm.Pilot.@@N@@.Jvm.D
theorem pn_0 : plainName "java/util/concurrent/atomic/AtomicBoolean" = true := by first | (simp [plainName, overriddenIn]; done) | decide +kernel
theorem d_jdk_2802_method_2_0 : decode jdk_2802_method_2_code 0 = .ok (.aload_n 0, 1) := by decide +kernel
theorem d_jdk_2802_method_2_1 : decode jdk_2802_method_2_code 1 = .ok (.invokespecial 1, 3) := by decide +kernel
theorem d_jdk_2802_method_2_4 : decode jdk_2802_method_2_code 4 = .ok (.return_, 1) := by decide +kernel
set_option maxRecDepth 65536 in
set_option maxHeartbeats 40000000 in
theorem rmAB (l : Launch) (Z : State) (a0 : Array Value) (hw : ∀ d ∈ tables_1, d.before a0 Z = true) (ws : List Jvm.Cond) (a1 : Addr) (h0 : Heap) (n0 : Nat) (O : Old Z n0 h0)  :
    Con l Z h0 ⟨"java/util/concurrent/atomic/AtomicBoolean", "<init>", "()V"⟩ jdk_2802_method_2_code 1 none ws ({ frames := 1, cells := 0, slots := 0, locals := 12 } : Room) #[(.ref a1)] (fun v h L => v = none ∧ L = [] ∧ h = h0) := by
  refine Con.of pn_0 (f0 := fun m => (mkF m 0 #[.val (.ref a1)] [])) (fun m => by first | rfl | (simp [entryFrame, mkF, argsToLocals, Value.category, maxLocals]; done)) ?_
  intro p e s m below meth c T0 hx hby hml hown hnm hret hlk hZ X0 e0
  have hown : s.vm.findClass "java/util/concurrent/atomic/AtomicBoolean" = some m.cls := hown
  have N0 := Fr.nil n0
  show Fin p e below s _ _ _ (T0.setTop (mkF m 0 #[.val (.ref a1)] []))
  refine Fin.st (fun _ => XS.aloadN X0.here hx rfl (Jvm.hb hby d_jdk_2802_method_2_0) rfl rfl) ?_
  show Fin p e below s _ _ _ (T0.setTop (mkF m 1 #[.val (.ref a1)] [(.ref a1)]))
  obtain ⟨T101, X101, e101, st101⟩ := initO X0 hx hZ hown (hw _ (List.mem_of_getElem? (i := 43) rfl)) (hw _ (List.mem_of_getElem? (i := 12) rfl)) (hw _ (List.mem_of_getElem? (i := 13) rfl)) e0 (g := (mkF m 1 #[.val (.ref a1)] [(.ref a1)])) rfl (by rw [hml]; rfl) rfl (Jvm.hb hby d_jdk_2802_method_2_1) (by decide) (W := 0) (by show 2 * 0 + _ ≤ _; exact Nat.le_of_eq rfl) (by decide)
  refine Fin.st st101 ?_
  show Fin p e below s _ _ _ (T101.setTop (mkF m 4 #[.val (.ref a1)] []))
  exact finV X101 hx hlk hret (Jvm.hb hby d_jdk_2802_method_2_4) e101 ⟨rfl, rfl, rfl⟩ (by decide) (by decide)
theorem pn_1 : plainName "com/example/klatch/klatch/Holds$Hold" = true := by first | (simp [plainName, overriddenIn]; done) | decide +kernel
theorem d_prog_3_method_1_0 : decode prog_3_method_1_code 0 = .ok (.aload_n 0, 1) := by decide +kernel
theorem d_prog_3_method_1_1 : decode prog_3_method_1_code 1 = .ok (.invokespecial 1, 3) := by decide +kernel
theorem d_prog_3_method_1_4 : decode prog_3_method_1_code 4 = .ok (.aload_n 0, 1) := by decide +kernel
theorem d_prog_3_method_1_5 : decode prog_3_method_1_code 5 = .ok (.new 7, 3) := by decide +kernel
theorem d_prog_3_method_1_8 : decode prog_3_method_1_code 8 = .ok (.dup, 1) := by decide +kernel
theorem d_prog_3_method_1_9 : decode prog_3_method_1_code 9 = .ok (.invokespecial 9, 3) := by decide +kernel
theorem pd_0 : parseMethodDescriptor "()V" = some ⟨[], none⟩ := by decide +kernel
theorem d_prog_3_method_1_12 : decode prog_3_method_1_code 12 = .ok (.putfield 10, 3) := by decide +kernel
theorem d_prog_3_method_1_15 : decode prog_3_method_1_code 15 = .ok (.aload_n 0, 1) := by decide +kernel
theorem d_prog_3_method_1_16 : decode prog_3_method_1_code 16 = .ok (.iconst 1, 1) := by decide +kernel
theorem d_prog_3_method_1_17 : decode prog_3_method_1_code 17 = .ok (.putfield 16, 3) := by decide +kernel
theorem d_prog_3_method_1_20 : decode prog_3_method_1_code 20 = .ok (.aload_n 0, 1) := by decide +kernel
theorem d_prog_3_method_1_21 : decode prog_3_method_1_code 21 = .ok (.aload_n 1, 1) := by decide +kernel
theorem d_prog_3_method_1_22 : decode prog_3_method_1_code 22 = .ok (.putfield 20, 3) := by decide +kernel
theorem d_prog_3_method_1_25 : decode prog_3_method_1_code 25 = .ok (.aload_n 0, 1) := by decide +kernel
theorem d_prog_3_method_1_26 : decode prog_3_method_1_code 26 = .ok (.lload 4, 2) := by decide +kernel
theorem d_prog_3_method_1_28 : decode prog_3_method_1_code 28 = .ok (.putfield 24, 3) := by decide +kernel
theorem d_prog_3_method_1_31 : decode prog_3_method_1_code 31 = .ok (.aload_n 0, 1) := by decide +kernel
theorem d_prog_3_method_1_32 : decode prog_3_method_1_code 32 = .ok (.lload 6, 2) := by decide +kernel
theorem d_prog_3_method_1_34 : decode prog_3_method_1_code 34 = .ok (.putfield 28, 3) := by decide +kernel
theorem d_prog_3_method_1_37 : decode prog_3_method_1_code 37 = .ok (.aload_n 0, 1) := by decide +kernel
theorem d_prog_3_method_1_38 : decode prog_3_method_1_code 38 = .ok (.iload 8, 2) := by decide +kernel
theorem d_prog_3_method_1_40 : decode prog_3_method_1_code 40 = .ok (.putfield 31, 3) := by decide +kernel
theorem d_prog_3_method_1_43 : decode prog_3_method_1_code 43 = .ok (.aload_n 0, 1) := by decide +kernel
theorem d_prog_3_method_1_44 : decode prog_3_method_1_code 44 = .ok (.lload_n 2, 1) := by decide +kernel
theorem d_prog_3_method_1_45 : decode prog_3_method_1_code 45 = .ok (.putfield 35, 3) := by decide +kernel
theorem d_prog_3_method_1_48 : decode prog_3_method_1_code 48 = .ok (.return_, 1) := by decide +kernel
set_option maxRecDepth 65536 in
set_option maxHeartbeats 40000000 in
theorem rmHold (l : Launch) (Z : State) (a0 : Array Value) (hw : ∀ d ∈ tables_1, d.before a0 Z = true) (ws : List Jvm.Cond) (a1 a2 : Addr) (q3 q4 q5 : Int64) (p6 : Int32) (u_ended : Value) (u_holdCount : Value) (u_token : Value) (u_leaseMillis : Value) (u_validNanos : Value) (u_renewed : Value) (u_leaseStartNanos : Value) (h0 : Heap) (n0 : Nat) (O : Old Z n0 h0) (E1 : Exa Z h0 a1 "com/example/klatch/klatch/Holds$Hold") (g1 : n0 ≤ a1) (hp6 : p6 = 0 ∨ p6 = 1) (F_ended : Fld Z h0 a1 "com/example/klatch/klatch/Holds$Hold" "ended" "Ljava/util/concurrent/atomic/AtomicBoolean;" u_ended) (F_holdCount : Fld Z h0 a1 "com/example/klatch/klatch/Holds$Hold" "holdCount" "I" u_holdCount) (F_token : Fld Z h0 a1 "com/example/klatch/klatch/Holds$Hold" "token" "Ljava/lang/String;" u_token) (F_leaseMillis : Fld Z h0 a1 "com/example/klatch/klatch/Holds$Hold" "leaseMillis" "J" u_leaseMillis) (F_validNanos : Fld Z h0 a1 "com/example/klatch/klatch/Holds$Hold" "validNanos" "J" u_validNanos) (F_renewed : Fld Z h0 a1 "com/example/klatch/klatch/Holds$Hold" "renewed" "Z" u_renewed) (F_leaseStartNanos : Fld Z h0 a1 "com/example/klatch/klatch/Holds$Hold" "leaseStartNanos" "J" u_leaseStartNanos) (F_unconfirmed : Fld Z h0 a1 "com/example/klatch/klatch/Holds$Hold" "unconfirmed" "Z" (.int 0)) :
    Con l Z h0 ⟨"com/example/klatch/klatch/Holds$Hold", "<init>", "(Ljava/lang/String;JJJZ)V"⟩ prog_3_method_1_code 9 none ws ({ frames := 2, cells := 1, slots := 1, locals := 26 } : Room) #[(.ref a1), (.ref a2), (.long q3), (.long q4), (.long q5), (.int p6)] (fun v h L => v = none ∧ Fr n0 L ∧ Keep h0 h [a1] ∧ Exa Z h a1 "com/example/klatch/klatch/Holds$Hold" ∧ Fld Z h a1 "com/example/klatch/klatch/Holds$Hold" "holdCount" "I" (.int 1) ∧ Fld Z h a1 "com/example/klatch/klatch/Holds$Hold" "token" "Ljava/lang/String;" (.ref a2) ∧ Fld Z h a1 "com/example/klatch/klatch/Holds$Hold" "leaseMillis" "J" (.long q4) ∧ Fld Z h a1 "com/example/klatch/klatch/Holds$Hold" "renewed" "Z" (.int p6) ∧ Fld Z h a1 "com/example/klatch/klatch/Holds$Hold" "unconfirmed" "Z" (.int 0)) := by
  refine Con.of pn_1 (f0 := fun m => (mkF m 0 #[.val (.ref a1), .val (.ref a2), .val (.long q3), .second, .val (.long q4), .second, .val (.long q5), .second, .val (.int p6)] [])) (fun m => by first | rfl | (simp [entryFrame, mkF, argsToLocals, Value.category, maxLocals]; done)) ?_
  intro p e s m below meth c T0 hx hby hml hown hnm hret hlk hZ X0 e0
  have hown : s.vm.findClass "com/example/klatch/klatch/Holds$Hold" = some m.cls := hown
  have N0 := Fr.nil n0
  show Fin p e below s _ _ _ (T0.setTop (mkF m 0 #[.val (.ref a1), .val (.ref a2), .val (.long q3), .second, .val (.long q4), .second, .val (.long q5), .second, .val (.int p6)] []))
  have KK := Keep.refl h0 [a1]
  refine Fin.st (fun _ => XS.aloadN X0.here hx rfl (Jvm.hb hby d_prog_3_method_1_0) rfl rfl) ?_
  show Fin p e below s _ _ _ (T0.setTop (mkF m 1 #[.val (.ref a1), .val (.ref a2), .val (.long q3), .second, .val (.long q4), .second, .val (.long q5), .second, .val (.int p6)] [(.ref a1)]))
  obtain ⟨T102, X102, e102, st102⟩ := initO X0 hx hZ hown (hw _ (List.mem_of_getElem? (i := 36) rfl)) (hw _ (List.mem_of_getElem? (i := 12) rfl)) (hw _ (List.mem_of_getElem? (i := 13) rfl)) e0 (g := (mkF m 1 #[.val (.ref a1), .val (.ref a2), .val (.long q3), .second, .val (.long q4), .second, .val (.long q5), .second, .val (.int p6)] [(.ref a1)])) rfl (by rw [hml]; rfl) rfl (Jvm.hb hby d_prog_3_method_1_1) (by decide) (W := 0) (by show 2 * 0 + _ ≤ _; exact Nat.le_of_eq rfl) (by decide)
  refine Fin.st st102 ?_
  show Fin p e below s _ _ _ (T102.setTop (mkF m 4 #[.val (.ref a1), .val (.ref a2), .val (.long q3), .second, .val (.long q4), .second, .val (.long q5), .second, .val (.int p6)] []))
  refine Fin.st (fun _ => XS.aloadN X102.here hx rfl (Jvm.hb hby d_prog_3_method_1_4) rfl rfl) ?_
  show Fin p e below s _ _ _ (T102.setTop (mkF m 5 #[.val (.ref a1), .val (.ref a2), .val (.long q3), .second, .val (.long q4), .second, .val (.long q5), .second, .val (.int p6)] [(.ref a1)]))
  obtain ⟨b103, g103⟩ : ∃ z, z = h0.size := ⟨_, rfl⟩
  have ne104 : a1 ≠ b103 := by rw [g103]; exact Nat.ne_of_lt E1.lt
  have ge103 : n0 ≤ b103 := by rw [g103]; exact O.own_le
  obtain ⟨T103, h103, X103, e103, E103, A103, D103, -, st103⟩ := newO X102 hx hZ hown (hw _ (List.mem_of_getElem? (i := 37) rfl)) (hw _ (List.mem_of_getElem? (i := 38) rfl)) (hw _ (List.mem_of_getElem? (i := 39) rfl)) e102 (g := (mkF m 5 #[.val (.ref a1), .val (.ref a2), .val (.long q3), .second, .val (.long q4), .second, .val (.long q5), .second, .val (.int p6)] [(.ref a1)])) rfl (Jvm.hb hby d_prog_3_method_1_5) (by decide) (by decide)
  rw [← g103] at A103 D103 st103
  refine Fin.st st103 ?_
  show Fin p e below s _ _ _ (T103.setTop (mkF m 8 #[.val (.ref a1), .val (.ref a2), .val (.long q3), .second, .val (.long q4), .second, .val (.long q5), .second, .val (.int p6)] [(.ref b103), (.ref a1)]))
  refine Fin.st (fun _ => XS.dup X103.here hx rfl (Jvm.hb hby d_prog_3_method_1_8) rfl rfl) ?_
  show Fin p e below s _ _ _ (T103.setTop (mkF m 9 #[.val (.ref a1), .val (.ref a2), .val (.long q3), .second, .val (.long q4), .second, .val (.long q5), .second, .val (.int p6)] [(.ref b103), (.ref b103), (.ref a1)]))
  have f105 := O.ext E103
  obtain ⟨_, T106, h106, L106, X106, e106, ⟨rfl, rfl, q106⟩, st106⟩ := goI X103 hx hZ hown rfl (hw _ (List.mem_of_getElem? (i := 40) rfl)) (hw _ (List.mem_of_getElem? (i := 41) rfl)) (hw _ (List.mem_of_getElem? (i := 42) rfl)) (by decide) ((rmAB l Z a0 hw [] b103 h103 n0 f105).pay (W := 2) hZ (hw _ (List.mem_of_getElem? (i := 42) rfl)) (hw _ (List.mem_of_getElem? (i := 39) rfl)) (by decide) (by decide)) e103 (g := (mkF m 9 #[.val (.ref a1), .val (.ref a2), .val (.long q3), .second, .val (.long q4), .second, .val (.long q5), .second, .val (.int p6)] [(.ref b103), (.ref b103), (.ref a1)])) rfl (by rw [hml]; rfl) [] [(.ref b103), (.ref a1)] (lenOf pd_0 rfl) rfl (by show 2 * 0 + _ ≤ _; exact Nat.le_of_eq rfl) (Jvm.hb hby d_prog_3_method_1_9) rfl (by decide) (by decide)
  have e106 := e106.trans q106
  have N106 := N0.app (Fr.nil n0)
  refine Fin.st st106 ?_
  show Fin p e below s _ _ _ (T106.setTop (mkF m 12 #[.val (.ref a1), .val (.ref a2), .val (.long q3), .second, .val (.long q4), .second, .val (.long q5), .second, .val (.int p6)] [(.ref b103), (.ref a1)]))
  have f107 := F_ended.ext E103
  have f108 := E1.ext E103
  obtain ⟨T109, h109, X109, e109, W109, st109⟩ := putF X106 hx hZ hown (host := "") (Or.inl (hw _ (List.mem_of_getElem? (i := 44) rfl))) Via.refl e106 f107 f108 (Or.inr ⟨(hw _ (List.mem_of_getElem? (i := 45) rfl)), rfl, hnm⟩) (hw _ (List.mem_of_getElem? (i := 31) rfl)) (ty := (.object "java/util/concurrent/atomic/AtomicBoolean")) (by decide) rfl rfl (g := (mkF m 12 #[.val (.ref a1), .val (.ref a2), .val (.long q3), .second, .val (.long q4), .second, .val (.long q5), .second, .val (.int p6)] [(.ref b103), (.ref a1)])) rfl rfl (Jvm.hb hby d_prog_3_method_1_12)
  have N109 := Fr.snoc X109 N106 g1
  have F109 := f107.same W109
  refine Fin.st st109 ?_
  show Fin p e below s _ _ _ (T109.setTop (mkF m 15 #[.val (.ref a1), .val (.ref a2), .val (.long q3), .second, .val (.long q4), .second, .val (.long q5), .second, .val (.int p6)] []))
  refine Fin.st (fun _ => XS.aloadN X109.here hx rfl (Jvm.hb hby d_prog_3_method_1_15) rfl rfl) ?_
  show Fin p e below s _ _ _ (T109.setTop (mkF m 16 #[.val (.ref a1), .val (.ref a2), .val (.long q3), .second, .val (.long q4), .second, .val (.long q5), .second, .val (.int p6)] [(.ref a1)]))
  refine Fin.st (fun _ => XS.iconst X109.here hx rfl (Jvm.hb hby d_prog_3_method_1_16)) ?_
  show Fin p e below s _ _ _ (T109.setTop (mkF m 17 #[.val (.ref a1), .val (.ref a2), .val (.long q3), .second, .val (.long q4), .second, .val (.long q5), .second, .val (.int p6)] [(.int (1 : Int32)), (.ref a1)]))
  have f110 := F_holdCount.ext E103
  have f111 := f110.other W109 (Or.inr (slot_ne (Or.inl (hw _ (List.mem_of_getElem? (i := 47) rfl))) (Or.inr (hw _ (List.mem_of_getElem? (i := 45) rfl))) (by decide) (t := .int) (t' := (.object "java/util/concurrent/atomic/AtomicBoolean")) (by decide) (by decide)))
  have f112 := f108.wr W109
  obtain ⟨T113, h113, X113, e113, W113, st113⟩ := putF X109 hx hZ hown (host := "") (Or.inl (hw _ (List.mem_of_getElem? (i := 46) rfl))) Via.refl e109 f111 f112 (Or.inl (hw _ (List.mem_of_getElem? (i := 47) rfl))) (hw _ (List.mem_of_getElem? (i := 31) rfl)) (ty := .int) (by decide) rfl rfl (g := (mkF m 17 #[.val (.ref a1), .val (.ref a2), .val (.long q3), .second, .val (.long q4), .second, .val (.long q5), .second, .val (.int p6)] [(.int (1 : Int32)), (.ref a1)])) rfl rfl (Jvm.hb hby d_prog_3_method_1_17)
  have N113 := Fr.snoc X113 N109 g1
  have F113 := f111.same W113
  refine Fin.st st113 ?_
  show Fin p e below s _ _ _ (T113.setTop (mkF m 20 #[.val (.ref a1), .val (.ref a2), .val (.long q3), .second, .val (.long q4), .second, .val (.long q5), .second, .val (.int p6)] []))
  refine Fin.st (fun _ => XS.aloadN X113.here hx rfl (Jvm.hb hby d_prog_3_method_1_20) rfl rfl) ?_
  show Fin p e below s _ _ _ (T113.setTop (mkF m 21 #[.val (.ref a1), .val (.ref a2), .val (.long q3), .second, .val (.long q4), .second, .val (.long q5), .second, .val (.int p6)] [(.ref a1)]))
  refine Fin.st (fun _ => XS.aloadN X113.here hx rfl (Jvm.hb hby d_prog_3_method_1_21) rfl rfl) ?_
  show Fin p e below s _ _ _ (T113.setTop (mkF m 22 #[.val (.ref a1), .val (.ref a2), .val (.long q3), .second, .val (.long q4), .second, .val (.long q5), .second, .val (.int p6)] [(.ref a2), (.ref a1)]))
  have f114 := F_token.ext E103
  have f115 := f114.other W109 (Or.inr (slot_ne (Or.inr (hw _ (List.mem_of_getElem? (i := 49) rfl))) (Or.inr (hw _ (List.mem_of_getElem? (i := 45) rfl))) (by decide) (t := (.object "java/lang/String")) (t' := (.object "java/util/concurrent/atomic/AtomicBoolean")) (by decide) (by decide)))
  have f116 := f115.other W113 (Or.inr (slot_ne (Or.inr (hw _ (List.mem_of_getElem? (i := 49) rfl))) (Or.inl (hw _ (List.mem_of_getElem? (i := 47) rfl))) (by decide) (t := (.object "java/lang/String")) (t' := .int) (by decide) (by decide)))
  have f117 := f112.wr W113
  obtain ⟨T118, h118, X118, e118, W118, st118⟩ := putF X113 hx hZ hown (host := "") (Or.inl (hw _ (List.mem_of_getElem? (i := 48) rfl))) Via.refl e113 f116 f117 (Or.inr ⟨(hw _ (List.mem_of_getElem? (i := 49) rfl)), rfl, hnm⟩) (hw _ (List.mem_of_getElem? (i := 31) rfl)) (ty := (.object "java/lang/String")) (by decide) rfl rfl (g := (mkF m 22 #[.val (.ref a1), .val (.ref a2), .val (.long q3), .second, .val (.long q4), .second, .val (.long q5), .second, .val (.int p6)] [(.ref a2), (.ref a1)])) rfl rfl (Jvm.hb hby d_prog_3_method_1_22)
  have N118 := Fr.snoc X118 N113 g1
  have F118 := f116.same W118
  refine Fin.st st118 ?_
  show Fin p e below s _ _ _ (T118.setTop (mkF m 25 #[.val (.ref a1), .val (.ref a2), .val (.long q3), .second, .val (.long q4), .second, .val (.long q5), .second, .val (.int p6)] []))
  refine Fin.st (fun _ => XS.aloadN X118.here hx rfl (Jvm.hb hby d_prog_3_method_1_25) rfl rfl) ?_
  show Fin p e below s _ _ _ (T118.setTop (mkF m 26 #[.val (.ref a1), .val (.ref a2), .val (.long q3), .second, .val (.long q4), .second, .val (.long q5), .second, .val (.int p6)] [(.ref a1)]))
  refine Fin.st (fun _ => XS.lload X118.here hx rfl (Jvm.hb hby d_prog_3_method_1_26) rfl) ?_
  show Fin p e below s _ _ _ (T118.setTop (mkF m 28 #[.val (.ref a1), .val (.ref a2), .val (.long q3), .second, .val (.long q4), .second, .val (.long q5), .second, .val (.int p6)] [(.long q4), (.ref a1)]))
  have f119 := F_leaseMillis.ext E103
  have f120 := f119.other W109 (Or.inr (slot_ne (Or.inr (hw _ (List.mem_of_getElem? (i := 51) rfl))) (Or.inr (hw _ (List.mem_of_getElem? (i := 45) rfl))) (by decide) (t := .long) (t' := (.object "java/util/concurrent/atomic/AtomicBoolean")) (by decide) (by decide)))
  have f121 := f120.other W113 (Or.inr (slot_ne (Or.inr (hw _ (List.mem_of_getElem? (i := 51) rfl))) (Or.inl (hw _ (List.mem_of_getElem? (i := 47) rfl))) (by decide) (t := .long) (t' := .int) (by decide) (by decide)))
  have f122 := f121.other W118 (Or.inr (slot_ne (Or.inr (hw _ (List.mem_of_getElem? (i := 51) rfl))) (Or.inr (hw _ (List.mem_of_getElem? (i := 49) rfl))) (by decide) (t := .long) (t' := (.object "java/lang/String")) (by decide) (by decide)))
  have f123 := f117.wr W118
  obtain ⟨T124, h124, X124, e124, W124, st124⟩ := putF X118 hx hZ hown (host := "") (Or.inl (hw _ (List.mem_of_getElem? (i := 50) rfl))) Via.refl e118 f122 f123 (Or.inr ⟨(hw _ (List.mem_of_getElem? (i := 51) rfl)), rfl, hnm⟩) (hw _ (List.mem_of_getElem? (i := 31) rfl)) (ty := .long) (by decide) rfl rfl (g := (mkF m 28 #[.val (.ref a1), .val (.ref a2), .val (.long q3), .second, .val (.long q4), .second, .val (.long q5), .second, .val (.int p6)] [(.long q4), (.ref a1)])) rfl rfl (Jvm.hb hby d_prog_3_method_1_28)
  have N124 := Fr.snoc X124 N118 g1
  have F124 := f122.same W124
  refine Fin.st st124 ?_
  show Fin p e below s _ _ _ (T124.setTop (mkF m 31 #[.val (.ref a1), .val (.ref a2), .val (.long q3), .second, .val (.long q4), .second, .val (.long q5), .second, .val (.int p6)] []))
  refine Fin.st (fun _ => XS.aloadN X124.here hx rfl (Jvm.hb hby d_prog_3_method_1_31) rfl rfl) ?_
  show Fin p e below s _ _ _ (T124.setTop (mkF m 32 #[.val (.ref a1), .val (.ref a2), .val (.long q3), .second, .val (.long q4), .second, .val (.long q5), .second, .val (.int p6)] [(.ref a1)]))
  refine Fin.st (fun _ => XS.lload X124.here hx rfl (Jvm.hb hby d_prog_3_method_1_32) rfl) ?_
  show Fin p e below s _ _ _ (T124.setTop (mkF m 34 #[.val (.ref a1), .val (.ref a2), .val (.long q3), .second, .val (.long q4), .second, .val (.long q5), .second, .val (.int p6)] [(.long q5), (.ref a1)]))
  have f125 := F_validNanos.ext E103
  have f126 := f125.other W109 (Or.inr (slot_ne (Or.inr (hw _ (List.mem_of_getElem? (i := 53) rfl))) (Or.inr (hw _ (List.mem_of_getElem? (i := 45) rfl))) (by decide) (t := .long) (t' := (.object "java/util/concurrent/atomic/AtomicBoolean")) (by decide) (by decide)))
  have f127 := f126.other W113 (Or.inr (slot_ne (Or.inr (hw _ (List.mem_of_getElem? (i := 53) rfl))) (Or.inl (hw _ (List.mem_of_getElem? (i := 47) rfl))) (by decide) (t := .long) (t' := .int) (by decide) (by decide)))
  have f128 := f127.other W118 (Or.inr (slot_ne (Or.inr (hw _ (List.mem_of_getElem? (i := 53) rfl))) (Or.inr (hw _ (List.mem_of_getElem? (i := 49) rfl))) (by decide) (t := .long) (t' := (.object "java/lang/String")) (by decide) (by decide)))
  have f129 := f128.other W124 (Or.inr (slot_ne (Or.inr (hw _ (List.mem_of_getElem? (i := 53) rfl))) (Or.inr (hw _ (List.mem_of_getElem? (i := 51) rfl))) (by decide) (t := .long) (t' := .long) (by decide) (by decide)))
  have f130 := f123.wr W124
  obtain ⟨T131, h131, X131, e131, W131, st131⟩ := putF X124 hx hZ hown (host := "") (Or.inl (hw _ (List.mem_of_getElem? (i := 52) rfl))) Via.refl e124 f129 f130 (Or.inr ⟨(hw _ (List.mem_of_getElem? (i := 53) rfl)), rfl, hnm⟩) (hw _ (List.mem_of_getElem? (i := 31) rfl)) (ty := .long) (by decide) rfl rfl (g := (mkF m 34 #[.val (.ref a1), .val (.ref a2), .val (.long q3), .second, .val (.long q4), .second, .val (.long q5), .second, .val (.int p6)] [(.long q5), (.ref a1)])) rfl rfl (Jvm.hb hby d_prog_3_method_1_34)
  have N131 := Fr.snoc X131 N124 g1
  have F131 := f129.same W131
  refine Fin.st st131 ?_
  show Fin p e below s _ _ _ (T131.setTop (mkF m 37 #[.val (.ref a1), .val (.ref a2), .val (.long q3), .second, .val (.long q4), .second, .val (.long q5), .second, .val (.int p6)] []))
  refine Fin.st (fun _ => XS.aloadN X131.here hx rfl (Jvm.hb hby d_prog_3_method_1_37) rfl rfl) ?_
  show Fin p e below s _ _ _ (T131.setTop (mkF m 38 #[.val (.ref a1), .val (.ref a2), .val (.long q3), .second, .val (.long q4), .second, .val (.long q5), .second, .val (.int p6)] [(.ref a1)]))
  refine Fin.st (fun _ => XS.iload X131.here hx rfl (Jvm.hb hby d_prog_3_method_1_38) rfl) ?_
  show Fin p e below s _ _ _ (T131.setTop (mkF m 40 #[.val (.ref a1), .val (.ref a2), .val (.long q3), .second, .val (.long q4), .second, .val (.long q5), .second, .val (.int p6)] [(.int p6), (.ref a1)]))
  have f132 := F_renewed.ext E103
  have f133 := f132.other W109 (Or.inr (slot_ne (Or.inr (hw _ (List.mem_of_getElem? (i := 55) rfl))) (Or.inr (hw _ (List.mem_of_getElem? (i := 45) rfl))) (by decide) (t := .boolean) (t' := (.object "java/util/concurrent/atomic/AtomicBoolean")) (by decide) (by decide)))
  have f134 := f133.other W113 (Or.inr (slot_ne (Or.inr (hw _ (List.mem_of_getElem? (i := 55) rfl))) (Or.inl (hw _ (List.mem_of_getElem? (i := 47) rfl))) (by decide) (t := .boolean) (t' := .int) (by decide) (by decide)))
  have f135 := f134.other W118 (Or.inr (slot_ne (Or.inr (hw _ (List.mem_of_getElem? (i := 55) rfl))) (Or.inr (hw _ (List.mem_of_getElem? (i := 49) rfl))) (by decide) (t := .boolean) (t' := (.object "java/lang/String")) (by decide) (by decide)))
  have f136 := f135.other W124 (Or.inr (slot_ne (Or.inr (hw _ (List.mem_of_getElem? (i := 55) rfl))) (Or.inr (hw _ (List.mem_of_getElem? (i := 51) rfl))) (by decide) (t := .boolean) (t' := .long) (by decide) (by decide)))
  have f137 := f136.other W131 (Or.inr (slot_ne (Or.inr (hw _ (List.mem_of_getElem? (i := 55) rfl))) (Or.inr (hw _ (List.mem_of_getElem? (i := 53) rfl))) (by decide) (t := .boolean) (t' := .long) (by decide) (by decide)))
  have f138 := f130.wr W131
  obtain ⟨T139, h139, X139, e139, W139, st139⟩ := putF X131 hx hZ hown (host := "") (Or.inl (hw _ (List.mem_of_getElem? (i := 54) rfl))) Via.refl e131 f137 f138 (Or.inr ⟨(hw _ (List.mem_of_getElem? (i := 55) rfl)), rfl, hnm⟩) (hw _ (List.mem_of_getElem? (i := 31) rfl)) (ty := .boolean) (by decide) (by rcases hp6 with rfl | rfl <;> rfl) (by rcases hp6 with rfl | rfl <;> rfl) (g := (mkF m 40 #[.val (.ref a1), .val (.ref a2), .val (.long q3), .second, .val (.long q4), .second, .val (.long q5), .second, .val (.int p6)] [(.int p6), (.ref a1)])) rfl rfl (Jvm.hb hby d_prog_3_method_1_40)
  have N139 := Fr.snoc X139 N131 g1
  have F139 := f137.same W139
  refine Fin.st st139 ?_
  show Fin p e below s _ _ _ (T139.setTop (mkF m 43 #[.val (.ref a1), .val (.ref a2), .val (.long q3), .second, .val (.long q4), .second, .val (.long q5), .second, .val (.int p6)] []))
  refine Fin.st (fun _ => XS.aloadN X139.here hx rfl (Jvm.hb hby d_prog_3_method_1_43) rfl rfl) ?_
  show Fin p e below s _ _ _ (T139.setTop (mkF m 44 #[.val (.ref a1), .val (.ref a2), .val (.long q3), .second, .val (.long q4), .second, .val (.long q5), .second, .val (.int p6)] [(.ref a1)]))
  refine Fin.st (fun _ => XS.lloadN X139.here hx rfl (Jvm.hb hby d_prog_3_method_1_44) rfl) ?_
  show Fin p e below s _ _ _ (T139.setTop (mkF m 45 #[.val (.ref a1), .val (.ref a2), .val (.long q3), .second, .val (.long q4), .second, .val (.long q5), .second, .val (.int p6)] [(.long q3), (.ref a1)]))
  have f140 := F_leaseStartNanos.ext E103
  have f141 := f140.other W109 (Or.inr (slot_ne (Or.inl (hw _ (List.mem_of_getElem? (i := 57) rfl))) (Or.inr (hw _ (List.mem_of_getElem? (i := 45) rfl))) (by decide) (t := .long) (t' := (.object "java/util/concurrent/atomic/AtomicBoolean")) (by decide) (by decide)))
  have f142 := f141.other W113 (Or.inr (slot_ne (Or.inl (hw _ (List.mem_of_getElem? (i := 57) rfl))) (Or.inl (hw _ (List.mem_of_getElem? (i := 47) rfl))) (by decide) (t := .long) (t' := .int) (by decide) (by decide)))
  have f143 := f142.other W118 (Or.inr (slot_ne (Or.inl (hw _ (List.mem_of_getElem? (i := 57) rfl))) (Or.inr (hw _ (List.mem_of_getElem? (i := 49) rfl))) (by decide) (t := .long) (t' := (.object "java/lang/String")) (by decide) (by decide)))
  have f144 := f143.other W124 (Or.inr (slot_ne (Or.inl (hw _ (List.mem_of_getElem? (i := 57) rfl))) (Or.inr (hw _ (List.mem_of_getElem? (i := 51) rfl))) (by decide) (t := .long) (t' := .long) (by decide) (by decide)))
  have f145 := f144.other W131 (Or.inr (slot_ne (Or.inl (hw _ (List.mem_of_getElem? (i := 57) rfl))) (Or.inr (hw _ (List.mem_of_getElem? (i := 53) rfl))) (by decide) (t := .long) (t' := .long) (by decide) (by decide)))
  have f146 := f145.other W139 (Or.inr (slot_ne (Or.inl (hw _ (List.mem_of_getElem? (i := 57) rfl))) (Or.inr (hw _ (List.mem_of_getElem? (i := 55) rfl))) (by decide) (t := .long) (t' := .boolean) (by decide) (by decide)))
  have f147 := f138.wr W139
  obtain ⟨T148, h148, X148, e148, W148, st148⟩ := putF X139 hx hZ hown (host := "") (Or.inl (hw _ (List.mem_of_getElem? (i := 56) rfl))) Via.refl e139 f146 f147 (Or.inl (hw _ (List.mem_of_getElem? (i := 57) rfl))) (hw _ (List.mem_of_getElem? (i := 31) rfl)) (ty := .long) (by decide) rfl rfl (g := (mkF m 45 #[.val (.ref a1), .val (.ref a2), .val (.long q3), .second, .val (.long q4), .second, .val (.long q5), .second, .val (.int p6)] [(.long q3), (.ref a1)])) rfl rfl (Jvm.hb hby d_prog_3_method_1_45)
  have N148 := Fr.snoc X148 N139 g1
  have F148 := f146.same W148
  refine Fin.st st148 ?_
  show Fin p e below s _ _ _ (T148.setTop (mkF m 48 #[.val (.ref a1), .val (.ref a2), .val (.long q3), .second, .val (.long q4), .second, .val (.long q5), .second, .val (.int p6)] []))
  have f149 := f147.wr W148
  have f150 := F113.other W118 (Or.inr (slot_ne (Or.inl (hw _ (List.mem_of_getElem? (i := 47) rfl))) (Or.inr (hw _ (List.mem_of_getElem? (i := 49) rfl))) (by decide) (t := .int) (t' := (.object "java/lang/String")) (by decide) (by decide)))
  have f151 := f150.other W124 (Or.inr (slot_ne (Or.inl (hw _ (List.mem_of_getElem? (i := 47) rfl))) (Or.inr (hw _ (List.mem_of_getElem? (i := 51) rfl))) (by decide) (t := .int) (t' := .long) (by decide) (by decide)))
  have f152 := f151.other W131 (Or.inr (slot_ne (Or.inl (hw _ (List.mem_of_getElem? (i := 47) rfl))) (Or.inr (hw _ (List.mem_of_getElem? (i := 53) rfl))) (by decide) (t := .int) (t' := .long) (by decide) (by decide)))
  have f153 := f152.other W139 (Or.inr (slot_ne (Or.inl (hw _ (List.mem_of_getElem? (i := 47) rfl))) (Or.inr (hw _ (List.mem_of_getElem? (i := 55) rfl))) (by decide) (t := .int) (t' := .boolean) (by decide) (by decide)))
  have f154 := f153.other W148 (Or.inr (slot_ne (Or.inl (hw _ (List.mem_of_getElem? (i := 47) rfl))) (Or.inl (hw _ (List.mem_of_getElem? (i := 57) rfl))) (by decide) (t := .int) (t' := .long) (by decide) (by decide)))
  have f155 := F118.other W124 (Or.inr (slot_ne (Or.inr (hw _ (List.mem_of_getElem? (i := 49) rfl))) (Or.inr (hw _ (List.mem_of_getElem? (i := 51) rfl))) (by decide) (t := (.object "java/lang/String")) (t' := .long) (by decide) (by decide)))
  have f156 := f155.other W131 (Or.inr (slot_ne (Or.inr (hw _ (List.mem_of_getElem? (i := 49) rfl))) (Or.inr (hw _ (List.mem_of_getElem? (i := 53) rfl))) (by decide) (t := (.object "java/lang/String")) (t' := .long) (by decide) (by decide)))
  have f157 := f156.other W139 (Or.inr (slot_ne (Or.inr (hw _ (List.mem_of_getElem? (i := 49) rfl))) (Or.inr (hw _ (List.mem_of_getElem? (i := 55) rfl))) (by decide) (t := (.object "java/lang/String")) (t' := .boolean) (by decide) (by decide)))
  have f158 := f157.other W148 (Or.inr (slot_ne (Or.inr (hw _ (List.mem_of_getElem? (i := 49) rfl))) (Or.inl (hw _ (List.mem_of_getElem? (i := 57) rfl))) (by decide) (t := (.object "java/lang/String")) (t' := .long) (by decide) (by decide)))
  have f159 := F124.other W131 (Or.inr (slot_ne (Or.inr (hw _ (List.mem_of_getElem? (i := 51) rfl))) (Or.inr (hw _ (List.mem_of_getElem? (i := 53) rfl))) (by decide) (t := .long) (t' := .long) (by decide) (by decide)))
  have f160 := f159.other W139 (Or.inr (slot_ne (Or.inr (hw _ (List.mem_of_getElem? (i := 51) rfl))) (Or.inr (hw _ (List.mem_of_getElem? (i := 55) rfl))) (by decide) (t := .long) (t' := .boolean) (by decide) (by decide)))
  have f161 := f160.other W148 (Or.inr (slot_ne (Or.inr (hw _ (List.mem_of_getElem? (i := 51) rfl))) (Or.inl (hw _ (List.mem_of_getElem? (i := 57) rfl))) (by decide) (t := .long) (t' := .long) (by decide) (by decide)))
  have f162 := F139.other W148 (Or.inr (slot_ne (Or.inr (hw _ (List.mem_of_getElem? (i := 55) rfl))) (Or.inl (hw _ (List.mem_of_getElem? (i := 57) rfl))) (by decide) (t := .boolean) (t' := .long) (by decide) (by decide)))
  have f163 := F_unconfirmed.ext E103
  have f164 := f163.other W109 (Or.inr (slot_ne (Or.inl (hw _ (List.mem_of_getElem? (i := 95) rfl))) (Or.inr (hw _ (List.mem_of_getElem? (i := 45) rfl))) (by decide) (t := .boolean) (t' := (.object "java/util/concurrent/atomic/AtomicBoolean")) (by decide) (by decide)))
  have f165 := f164.other W113 (Or.inr (slot_ne (Or.inl (hw _ (List.mem_of_getElem? (i := 95) rfl))) (Or.inl (hw _ (List.mem_of_getElem? (i := 47) rfl))) (by decide) (t := .boolean) (t' := .int) (by decide) (by decide)))
  have f166 := f165.other W118 (Or.inr (slot_ne (Or.inl (hw _ (List.mem_of_getElem? (i := 95) rfl))) (Or.inr (hw _ (List.mem_of_getElem? (i := 49) rfl))) (by decide) (t := .boolean) (t' := (.object "java/lang/String")) (by decide) (by decide)))
  have f167 := f166.other W124 (Or.inr (slot_ne (Or.inl (hw _ (List.mem_of_getElem? (i := 95) rfl))) (Or.inr (hw _ (List.mem_of_getElem? (i := 51) rfl))) (by decide) (t := .boolean) (t' := .long) (by decide) (by decide)))
  have f168 := f167.other W131 (Or.inr (slot_ne (Or.inl (hw _ (List.mem_of_getElem? (i := 95) rfl))) (Or.inr (hw _ (List.mem_of_getElem? (i := 53) rfl))) (by decide) (t := .boolean) (t' := .long) (by decide) (by decide)))
  have f169 := f168.other W139 (Or.inr (slot_ne (Or.inl (hw _ (List.mem_of_getElem? (i := 95) rfl))) (Or.inr (hw _ (List.mem_of_getElem? (i := 55) rfl))) (by decide) (t := .boolean) (t' := .boolean) (by decide) (by decide)))
  have f170 := f169.other W148 (Or.inr (slot_ne (Or.inl (hw _ (List.mem_of_getElem? (i := 95) rfl))) (Or.inl (hw _ (List.mem_of_getElem? (i := 57) rfl))) (by decide) (t := .boolean) (t' := .long) (by decide) (by decide)))
  exact finV X148 hx hlk hret (Jvm.hb hby d_prog_3_method_1_48) e148 ⟨rfl, N148, (((((((((Keep.refl h0 [a1]).ext E103).wr W109 (Or.inl (List.mem_of_getElem? (i := 0) rfl))).wr W113 (Or.inl (List.mem_of_getElem? (i := 0) rfl))).wr W118 (Or.inl (List.mem_of_getElem? (i := 0) rfl))).wr W124 (Or.inl (List.mem_of_getElem? (i := 0) rfl))).wr W131 (Or.inl (List.mem_of_getElem? (i := 0) rfl))).wr W139 (Or.inl (List.mem_of_getElem? (i := 0) rfl))).wr W148 (Or.inl (List.mem_of_getElem? (i := 0) rfl))), f149, f154, f158, f161, f162, f170⟩ (by decide) (by decide)
theorem d_prog_3_method_5_0 : decode prog_3_method_5_code 0 = .ok (.aload_n 0, 1) := by decide +kernel
theorem d_prog_3_method_5_1 : decode prog_3_method_5_code 1 = .ok (.getfield 16, 3) := by decide +kernel
theorem d_prog_3_method_5_4 : decode prog_3_method_5_code 4 = .ok (.ireturn, 1) := by decide +kernel
set_option maxRecDepth 65536 in
set_option maxHeartbeats 40000000 in
theorem rm_holdCount (l : Launch) (Z : State) (a0 : Array Value) (hw : ∀ d ∈ tables_1, d.before a0 Z = true) (ws : List Jvm.Cond) (a1 : Addr) (w1 : Int32) (h0 : Heap) (n0 : Nat) (O : Old Z n0 h0) (F : Fld Z h0 a1 "com/example/klatch/klatch/Holds$Hold" "holdCount" "I" (.int w1))  :
    Con l Z h0 ⟨"com/example/klatch/klatch/Holds$Hold", "holdCount", "()I"⟩ prog_3_method_5_code 1 (some .int) ws ({ frames := 0, cells := 0, slots := 0, locals := 0 } : Room) #[(.ref a1)] (fun v h L => v = some (.int w1) ∧ L = [] ∧ h = h0) := by
  refine Con.of pn_1 (f0 := fun m => (mkF m 0 #[.val (.ref a1)] [])) (fun m => by first | rfl | (simp [entryFrame, mkF, argsToLocals, Value.category, maxLocals]; done)) ?_
  intro p e s m below meth c T0 hx hby hml hown hnm hret hlk hZ X0 e0
  have hown : s.vm.findClass "com/example/klatch/klatch/Holds$Hold" = some m.cls := hown
  have N0 := Fr.nil n0
  show Fin p e below s _ _ _ (T0.setTop (mkF m 0 #[.val (.ref a1)] []))
  refine Fin.st (fun _ => XS.aloadN X0.here hx rfl (Jvm.hb hby d_prog_3_method_5_0) rfl rfl) ?_
  show Fin p e below s _ _ _ (T0.setTop (mkF m 1 #[.val (.ref a1)] [(.ref a1)]))
  obtain ⟨T171, X171, e171, st171⟩ := getF X0 hx hZ hown (host := "") (Or.inl (hw _ (List.mem_of_getElem? (i := 46) rfl))) Via.refl e0 F (g := (mkF m 1 #[.val (.ref a1)] [(.ref a1)])) rfl rfl (Jvm.hb hby d_prog_3_method_5_1)
  refine Fin.st st171 ?_
  show Fin p e below s _ _ _ (T171.setTop (mkF m 4 #[.val (.ref a1)] [(.int w1)]))
  exact finI X171 hx hlk hret (Jvm.hb hby d_prog_3_method_5_4) e171 ⟨by first | rfl | (rcases hb with rfl | rfl <;> rfl), rfl, rfl⟩ (by decide) (by decide)
theorem d_prog_3_method_2_0 : decode prog_3_method_2_code 0 = .ok (.aload_n 0, 1) := by decide +kernel
theorem d_prog_3_method_2_1 : decode prog_3_method_2_code 1 = .ok (.getfield 20, 3) := by decide +kernel
theorem d_prog_3_method_2_4 : decode prog_3_method_2_code 4 = .ok (.areturn, 1) := by decide +kernel
set_option maxRecDepth 65536 in
set_option maxHeartbeats 40000000 in
theorem rm_token (l : Launch) (Z : State) (a0 : Array Value) (hw : ∀ d ∈ tables_1, d.before a0 Z = true) (ws : List Jvm.Cond) (a1 : Addr) (a2 : Addr) (h0 : Heap) (n0 : Nat) (O : Old Z n0 h0) (F : Fld Z h0 a1 "com/example/klatch/klatch/Holds$Hold" "token" "Ljava/lang/String;" (.ref a2))  :
    Con l Z h0 ⟨"com/example/klatch/klatch/Holds$Hold", "token", "()Ljava/lang/String;"⟩ prog_3_method_2_code 1 (some (.object "java/lang/String")) ws ({ frames := 0, cells := 0, slots := 0, locals := 0 } : Room) #[(.ref a1)] (fun v h L => v = some (.ref a2) ∧ L = [] ∧ h = h0) := by
  refine Con.of pn_1 (f0 := fun m => (mkF m 0 #[.val (.ref a1)] [])) (fun m => by first | rfl | (simp [entryFrame, mkF, argsToLocals, Value.category, maxLocals]; done)) ?_
  intro p e s m below meth c T0 hx hby hml hown hnm hret hlk hZ X0 e0
  have hown : s.vm.findClass "com/example/klatch/klatch/Holds$Hold" = some m.cls := hown
  have N0 := Fr.nil n0
  show Fin p e below s _ _ _ (T0.setTop (mkF m 0 #[.val (.ref a1)] []))
  refine Fin.st (fun _ => XS.aloadN X0.here hx rfl (Jvm.hb hby d_prog_3_method_2_0) rfl rfl) ?_
  show Fin p e below s _ _ _ (T0.setTop (mkF m 1 #[.val (.ref a1)] [(.ref a1)]))
  obtain ⟨T172, X172, e172, st172⟩ := getF X0 hx hZ hown (host := "") (Or.inl (hw _ (List.mem_of_getElem? (i := 48) rfl))) Via.refl e0 F (g := (mkF m 1 #[.val (.ref a1)] [(.ref a1)])) rfl rfl (Jvm.hb hby d_prog_3_method_2_1)
  refine Fin.st st172 ?_
  show Fin p e below s _ _ _ (T172.setTop (mkF m 4 #[.val (.ref a1)] [(.ref a2)]))
  exact finA X172 hx hlk hret rfl rfl rfl (Jvm.hb hby d_prog_3_method_2_4) e172 ⟨by first | rfl | (rcases hb with rfl | rfl <;> rfl), rfl, rfl⟩ (by decide) (by decide)
theorem d_prog_3_method_3_0 : decode prog_3_method_3_code 0 = .ok (.aload_n 0, 1) := by decide +kernel
theorem d_prog_3_method_3_1 : decode prog_3_method_3_code 1 = .ok (.getfield 24, 3) := by decide +kernel
theorem d_prog_3_method_3_4 : decode prog_3_method_3_code 4 = .ok (.lreturn, 1) := by decide +kernel
set_option maxRecDepth 65536 in
set_option maxHeartbeats 40000000 in
theorem rm_leaseMillis (l : Launch) (Z : State) (a0 : Array Value) (hw : ∀ d ∈ tables_1, d.before a0 Z = true) (ws : List Jvm.Cond) (a1 : Addr) (w1 : Int64) (h0 : Heap) (n0 : Nat) (O : Old Z n0 h0) (F : Fld Z h0 a1 "com/example/klatch/klatch/Holds$Hold" "leaseMillis" "J" (.long w1))  :
    Con l Z h0 ⟨"com/example/klatch/klatch/Holds$Hold", "leaseMillis", "()J"⟩ prog_3_method_3_code 1 (some .long) ws ({ frames := 0, cells := 0, slots := 0, locals := 0 } : Room) #[(.ref a1)] (fun v h L => v = some (.long w1) ∧ L = [] ∧ h = h0) := by
  refine Con.of pn_1 (f0 := fun m => (mkF m 0 #[.val (.ref a1)] [])) (fun m => by first | rfl | (simp [entryFrame, mkF, argsToLocals, Value.category, maxLocals]; done)) ?_
  intro p e s m below meth c T0 hx hby hml hown hnm hret hlk hZ X0 e0
  have hown : s.vm.findClass "com/example/klatch/klatch/Holds$Hold" = some m.cls := hown
  have N0 := Fr.nil n0
  show Fin p e below s _ _ _ (T0.setTop (mkF m 0 #[.val (.ref a1)] []))
  refine Fin.st (fun _ => XS.aloadN X0.here hx rfl (Jvm.hb hby d_prog_3_method_3_0) rfl rfl) ?_
  show Fin p e below s _ _ _ (T0.setTop (mkF m 1 #[.val (.ref a1)] [(.ref a1)]))
  obtain ⟨T173, X173, e173, st173⟩ := getF X0 hx hZ hown (host := "") (Or.inl (hw _ (List.mem_of_getElem? (i := 50) rfl))) Via.refl e0 F (g := (mkF m 1 #[.val (.ref a1)] [(.ref a1)])) rfl rfl (Jvm.hb hby d_prog_3_method_3_1)
  refine Fin.st st173 ?_
  show Fin p e below s _ _ _ (T173.setTop (mkF m 4 #[.val (.ref a1)] [(.long w1)]))
  exact finL X173 hx hlk hret (Jvm.hb hby d_prog_3_method_3_4) e173 ⟨by first | rfl | (rcases hb with rfl | rfl <;> rfl), rfl, rfl⟩ (by decide) (by decide)
theorem d_prog_3_method_4_0 : decode prog_3_method_4_code 0 = .ok (.aload_n 0, 1) := by decide +kernel
theorem d_prog_3_method_4_1 : decode prog_3_method_4_code 1 = .ok (.getfield 31, 3) := by decide +kernel
theorem d_prog_3_method_4_4 : decode prog_3_method_4_code 4 = .ok (.ireturn, 1) := by decide +kernel
set_option maxRecDepth 65536 in
set_option maxHeartbeats 40000000 in
theorem rm_renewed (l : Launch) (Z : State) (a0 : Array Value) (hw : ∀ d ∈ tables_1, d.before a0 Z = true) (ws : List Jvm.Cond) (a1 : Addr) (w1 : Int32) (h0 : Heap) (n0 : Nat) (O : Old Z n0 h0) (F : Fld Z h0 a1 "com/example/klatch/klatch/Holds$Hold" "renewed" "Z" (.int w1)) (hb : w1 = 0 ∨ w1 = 1) :
    Con l Z h0 ⟨"com/example/klatch/klatch/Holds$Hold", "isRenewed", "()Z"⟩ prog_3_method_4_code 1 (some .boolean) ws ({ frames := 0, cells := 0, slots := 0, locals := 0 } : Room) #[(.ref a1)] (fun v h L => v = some (.int w1) ∧ L = [] ∧ h = h0) := by
  refine Con.of pn_1 (f0 := fun m => (mkF m 0 #[.val (.ref a1)] [])) (fun m => by first | rfl | (simp [entryFrame, mkF, argsToLocals, Value.category, maxLocals]; done)) ?_
  intro p e s m below meth c T0 hx hby hml hown hnm hret hlk hZ X0 e0
  have hown : s.vm.findClass "com/example/klatch/klatch/Holds$Hold" = some m.cls := hown
  have N0 := Fr.nil n0
  show Fin p e below s _ _ _ (T0.setTop (mkF m 0 #[.val (.ref a1)] []))
  refine Fin.st (fun _ => XS.aloadN X0.here hx rfl (Jvm.hb hby d_prog_3_method_4_0) rfl rfl) ?_
  show Fin p e below s _ _ _ (T0.setTop (mkF m 1 #[.val (.ref a1)] [(.ref a1)]))
  obtain ⟨T174, X174, e174, st174⟩ := getF X0 hx hZ hown (host := "") (Or.inl (hw _ (List.mem_of_getElem? (i := 54) rfl))) Via.refl e0 F (g := (mkF m 1 #[.val (.ref a1)] [(.ref a1)])) rfl rfl (Jvm.hb hby d_prog_3_method_4_1)
  refine Fin.st st174 ?_
  show Fin p e below s _ _ _ (T174.setTop (mkF m 4 #[.val (.ref a1)] [(.int w1)]))
  exact finN X174 hx hlk hret (t := .boolean) (by simp) (Jvm.hb hby d_prog_3_method_4_4) e174 ⟨by first | rfl | (rcases hb with rfl | rfl <;> rfl), rfl, rfl⟩ (by decide) (by decide)
theorem d_prog_3_method_12_0 : decode prog_3_method_12_code 0 = .ok (.aload_n 0, 1) := by decide +kernel
theorem d_prog_3_method_12_1 : decode prog_3_method_12_code 1 = .ok (.getfield 61, 3) := by decide +kernel
theorem d_prog_3_method_12_4 : decode prog_3_method_12_code 4 = .ok (.ireturn, 1) := by decide +kernel
set_option maxRecDepth 65536 in
set_option maxHeartbeats 40000000 in
theorem rm_unconfirmed (l : Launch) (Z : State) (a0 : Array Value) (hw : ∀ d ∈ tables_1, d.before a0 Z = true) (ws : List Jvm.Cond) (a1 : Addr)  (h0 : Heap) (n0 : Nat) (O : Old Z n0 h0) (F : Fld Z h0 a1 "com/example/klatch/klatch/Holds$Hold" "unconfirmed" "Z" (.int 0))  :
    Con l Z h0 ⟨"com/example/klatch/klatch/Holds$Hold", "mayOutliveLease", "()Z"⟩ prog_3_method_12_code 1 (some .boolean) ws ({ frames := 0, cells := 0, slots := 0, locals := 0 } : Room) #[(.ref a1)] (fun v h L => v = some (.int 0) ∧ L = [] ∧ h = h0) := by
  refine Con.of pn_1 (f0 := fun m => (mkF m 0 #[.val (.ref a1)] [])) (fun m => by first | rfl | (simp [entryFrame, mkF, argsToLocals, Value.category, maxLocals]; done)) ?_
  intro p e s m below meth c T0 hx hby hml hown hnm hret hlk hZ X0 e0
  have hown : s.vm.findClass "com/example/klatch/klatch/Holds$Hold" = some m.cls := hown
  have N0 := Fr.nil n0
  show Fin p e below s _ _ _ (T0.setTop (mkF m 0 #[.val (.ref a1)] []))
  refine Fin.st (fun _ => XS.aloadN X0.here hx rfl (Jvm.hb hby d_prog_3_method_12_0) rfl rfl) ?_
  show Fin p e below s _ _ _ (T0.setTop (mkF m 1 #[.val (.ref a1)] [(.ref a1)]))
  obtain ⟨T175, X175, e175, st175⟩ := getF X0 hx hZ hown (host := "") (Or.inl (hw _ (List.mem_of_getElem? (i := 94) rfl))) Via.refl e0 F (g := (mkF m 1 #[.val (.ref a1)] [(.ref a1)])) rfl rfl (Jvm.hb hby d_prog_3_method_12_1)
  refine Fin.st st175 ?_
  show Fin p e below s _ _ _ (T175.setTop (mkF m 4 #[.val (.ref a1)] [(.int 0)]))
  exact finN X175 hx hlk hret (t := .boolean) (by simp) (Jvm.hb hby d_prog_3_method_12_4) e175 ⟨by first | rfl | (rcases hb with rfl | rfl <;> rfl), rfl, rfl⟩ (by decide) (by decide)
theorem d_prog_3_method_6_0 : decode prog_3_method_6_code 0 = .ok (.aload_n 0, 1) := by decide +kernel
theorem d_prog_3_method_6_1 : decode prog_3_method_6_code 1 = .ok (.getfield 16, 3) := by decide +kernel
theorem d_prog_3_method_6_4 : decode prog_3_method_6_code 4 = .ok (.ldc 40, 2) := by decide +kernel
theorem d_prog_3_method_6_6 : decode prog_3_method_6_code 6 = .ok (.if_icmp .ne 13, 3) := by decide +kernel
theorem d_prog_3_method_6_19 : decode prog_3_method_6_code 19 = .ok (.aload_n 0, 1) := by decide +kernel
theorem d_prog_3_method_6_20 : decode prog_3_method_6_code 20 = .ok (.dup, 1) := by decide +kernel
theorem d_prog_3_method_6_21 : decode prog_3_method_6_code 21 = .ok (.getfield 16, 3) := by decide +kernel
theorem d_prog_3_method_6_24 : decode prog_3_method_6_code 24 = .ok (.iconst 1, 1) := by decide +kernel
theorem d_prog_3_method_6_25 : decode prog_3_method_6_code 25 = .ok (.iadd, 1) := by decide +kernel
theorem d_prog_3_method_6_26 : decode prog_3_method_6_code 26 = .ok (.putfield 16, 3) := by decide +kernel
theorem d_prog_3_method_6_29 : decode prog_3_method_6_code 29 = .ok (.return_, 1) := by decide +kernel
set_option maxRecDepth 65536 in
set_option maxHeartbeats 40000000 in
theorem rmRe (l : Launch) (Z : State) (a0 : Array Value) (hw : ∀ d ∈ tables_1, d.before a0 Z = true) (ws : List Jvm.Cond) (a1 a2 : Addr) (w1 : Int32) (q4 : Int64) (p6 : Int32) (h0 : Heap) (n0 : Nat) (O : Old Z n0 h0) (E1 : Exa Z h0 a1 "com/example/klatch/klatch/Holds$Hold") (g1 : n0 ≤ a1) (hm : ¬ w1 = 2147483647) (F_holdCount : Fld Z h0 a1 "com/example/klatch/klatch/Holds$Hold" "holdCount" "I" (.int w1)) (F_token : Fld Z h0 a1 "com/example/klatch/klatch/Holds$Hold" "token" "Ljava/lang/String;" (.ref a2)) (F_leaseMillis : Fld Z h0 a1 "com/example/klatch/klatch/Holds$Hold" "leaseMillis" "J" (.long q4)) (F_renewed : Fld Z h0 a1 "com/example/klatch/klatch/Holds$Hold" "renewed" "Z" (.int p6)) (F_unconfirmed : Fld Z h0 a1 "com/example/klatch/klatch/Holds$Hold" "unconfirmed" "Z" (.int 0)) :
    Con l Z h0 ⟨"com/example/klatch/klatch/Holds$Hold", "reentered", "()V"⟩ prog_3_method_6_code 1 none ws ({ frames := 0, cells := 0, slots := 0, locals := 0 } : Room) #[(.ref a1)] (fun v h L => v = none ∧ Fr n0 L ∧ Keep h0 h [a1] ∧ Exa Z h a1 "com/example/klatch/klatch/Holds$Hold" ∧ Fld Z h a1 "com/example/klatch/klatch/Holds$Hold" "holdCount" "I" (.int (w1 + 1)) ∧ Fld Z h a1 "com/example/klatch/klatch/Holds$Hold" "token" "Ljava/lang/String;" (.ref a2) ∧ Fld Z h a1 "com/example/klatch/klatch/Holds$Hold" "leaseMillis" "J" (.long q4) ∧ Fld Z h a1 "com/example/klatch/klatch/Holds$Hold" "renewed" "Z" (.int p6) ∧ Fld Z h a1 "com/example/klatch/klatch/Holds$Hold" "unconfirmed" "Z" (.int 0)) := by
  refine Con.of pn_1 (f0 := fun m => (mkF m 0 #[.val (.ref a1)] [])) (fun m => by first | rfl | (simp [entryFrame, mkF, argsToLocals, Value.category, maxLocals]; done)) ?_
  intro p e s m below meth c T0 hx hby hml hown hnm hret hlk hZ X0 e0
  have hown : s.vm.findClass "com/example/klatch/klatch/Holds$Hold" = some m.cls := hown
  have N0 := Fr.nil n0
  show Fin p e below s _ _ _ (T0.setTop (mkF m 0 #[.val (.ref a1)] []))
  refine Fin.st (fun _ => XS.aloadN X0.here hx rfl (Jvm.hb hby d_prog_3_method_6_0) rfl rfl) ?_
  show Fin p e below s _ _ _ (T0.setTop (mkF m 1 #[.val (.ref a1)] [(.ref a1)]))
  obtain ⟨T176, X176, e176, st176⟩ := getF X0 hx hZ hown (host := "") (Or.inl (hw _ (List.mem_of_getElem? (i := 46) rfl))) Via.refl e0 F_holdCount (g := (mkF m 1 #[.val (.ref a1)] [(.ref a1)])) rfl rfl (Jvm.hb hby d_prog_3_method_6_1)
  refine Fin.st st176 ?_
  show Fin p e below s _ _ _ (T176.setTop (mkF m 4 #[.val (.ref a1)] [(.int w1)]))
  refine Fin.st (fun _ => X176.ldcI hx hown (mvT hZ (hw _ (List.mem_of_getElem? (i := 68) rfl))) rfl (Jvm.hb hby d_prog_3_method_6_4)) ?_
  show Fin p e below s _ _ _ (T176.setTop (mkF m 6 #[.val (.ref a1)] [(.int (2147483647 : Int32)), (.int w1)]))
  refine Fin.st (fun _ => XS.icmpYes X176.here hx rfl (pc0 := 6) (pc' := 19) rfl (Jvm.hb hby d_prog_3_method_6_6) rfl (ine hm) (by decide) (by decide)) ?_
  show Fin p e below s _ _ _ (T176.setTop (mkF m 19 #[.val (.ref a1)] []))
  refine Fin.st (fun _ => XS.aloadN X176.here hx rfl (Jvm.hb hby d_prog_3_method_6_19) rfl rfl) ?_
  show Fin p e below s _ _ _ (T176.setTop (mkF m 20 #[.val (.ref a1)] [(.ref a1)]))
  refine Fin.st (fun _ => XS.dup X176.here hx rfl (Jvm.hb hby d_prog_3_method_6_20) rfl rfl) ?_
  show Fin p e below s _ _ _ (T176.setTop (mkF m 21 #[.val (.ref a1)] [(.ref a1), (.ref a1)]))
  obtain ⟨T177, X177, e177, st177⟩ := getF X176 hx hZ hown (host := "") (Or.inl (hw _ (List.mem_of_getElem? (i := 46) rfl))) Via.refl e176 F_holdCount (g := (mkF m 21 #[.val (.ref a1)] [(.ref a1), (.ref a1)])) rfl rfl (Jvm.hb hby d_prog_3_method_6_21)
  refine Fin.st st177 ?_
  show Fin p e below s _ _ _ (T177.setTop (mkF m 24 #[.val (.ref a1)] [(.int w1), (.ref a1)]))
  refine Fin.st (fun _ => XS.iconst X177.here hx rfl (Jvm.hb hby d_prog_3_method_6_24)) ?_
  show Fin p e below s _ _ _ (T177.setTop (mkF m 25 #[.val (.ref a1)] [(.int (1 : Int32)), (.int w1), (.ref a1)]))
  refine Fin.st (fun _ => XS.iadd X177.here hx rfl (Jvm.hb hby d_prog_3_method_6_25) rfl) ?_
  show Fin p e below s _ _ _ (T177.setTop (mkF m 26 #[.val (.ref a1)] [(.int (w1 + (1 : Int32))), (.ref a1)]))
  obtain ⟨T178, h178, X178, e178, W178, st178⟩ := putF X177 hx hZ hown (host := "") (Or.inl (hw _ (List.mem_of_getElem? (i := 46) rfl))) Via.refl e177 F_holdCount E1 (Or.inl (hw _ (List.mem_of_getElem? (i := 47) rfl))) (hw _ (List.mem_of_getElem? (i := 31) rfl)) (ty := .int) (by decide) rfl rfl (g := (mkF m 26 #[.val (.ref a1)] [(.int (w1 + (1 : Int32))), (.ref a1)])) rfl rfl (Jvm.hb hby d_prog_3_method_6_26)
  have N178 := Fr.snoc X178 N0 g1
  have F178 := F_holdCount.same W178
  refine Fin.st st178 ?_
  show Fin p e below s _ _ _ (T178.setTop (mkF m 29 #[.val (.ref a1)] []))
  have f179 := E1.wr W178
  have f180 := F_token.other W178 (Or.inr (slot_ne (Or.inr (hw _ (List.mem_of_getElem? (i := 49) rfl))) (Or.inl (hw _ (List.mem_of_getElem? (i := 47) rfl))) (by decide) (t := (.object "java/lang/String")) (t' := .int) (by decide) (by decide)))
  have f181 := F_leaseMillis.other W178 (Or.inr (slot_ne (Or.inr (hw _ (List.mem_of_getElem? (i := 51) rfl))) (Or.inl (hw _ (List.mem_of_getElem? (i := 47) rfl))) (by decide) (t := .long) (t' := .int) (by decide) (by decide)))
  have f182 := F_renewed.other W178 (Or.inr (slot_ne (Or.inr (hw _ (List.mem_of_getElem? (i := 55) rfl))) (Or.inl (hw _ (List.mem_of_getElem? (i := 47) rfl))) (by decide) (t := .boolean) (t' := .int) (by decide) (by decide)))
  have f183 := F_unconfirmed.other W178 (Or.inr (slot_ne (Or.inl (hw _ (List.mem_of_getElem? (i := 95) rfl))) (Or.inl (hw _ (List.mem_of_getElem? (i := 47) rfl))) (by decide) (t := .boolean) (t' := .int) (by decide) (by decide)))
  exact finV X178 hx hlk hret (Jvm.hb hby d_prog_3_method_6_29) e178 ⟨rfl, N178, ((Keep.refl h0 [a1]).wr W178 (Or.inl (List.mem_of_getElem? (i := 0) rfl))), f179, F178, f180, f181, f182, f183⟩ (by decide) (by decide)
theorem pn_2 : plainName "java/lang/String" = true := by first | (simp [plainName, overriddenIn]; done) | decide +kernel
theorem d_jdk_42_method_66_0 : decode jdk_42_method_66_code 0 = .ok (.aload_n 0, 1) := by decide +kernel
theorem d_jdk_42_method_66_1 : decode jdk_42_method_66_code 1 = .ok (.aload_n 1, 1) := by decide +kernel
theorem d_jdk_42_method_66_2 : decode jdk_42_method_66_code 2 = .ok (.if_acmp .ne 5, 3) := by decide +kernel
theorem d_jdk_42_method_66_5 : decode jdk_42_method_66_code 5 = .ok (.iconst 1, 1) := by decide +kernel
theorem d_jdk_42_method_66_6 : decode jdk_42_method_66_code 6 = .ok (.ireturn, 1) := by decide +kernel
set_option maxRecDepth 65536 in
set_option maxHeartbeats 40000000 in
theorem rmEq (l : Launch) (Z : State) (a0 : Array Value) (hw : ∀ d ∈ tables_1, d.before a0 Z = true) (ws : List Jvm.Cond) (a1 : Addr) (h0 : Heap) (n0 : Nat) (O : Old Z n0 h0)  :
    Con l Z h0 ⟨"java/lang/String", "equals", "(Ljava/lang/Object;)Z"⟩ jdk_42_method_66_code 3 (some .boolean) ws ({ frames := 0, cells := 0, slots := 0, locals := 0 } : Room) #[(.ref a1), (.ref a1)] (fun v h L => v = some (.int 1) ∧ L = [] ∧ h = h0) := by
  refine Con.of pn_2 (f0 := fun m => (mkF m 0 #[.val (.ref a1), .val (.ref a1), .unset] [])) (fun m => by first | rfl | (simp [entryFrame, mkF, argsToLocals, Value.category, maxLocals]; done)) ?_
  intro p e s m below meth c T0 hx hby hml hown hnm hret hlk hZ X0 e0
  have hown : s.vm.findClass "java/lang/String" = some m.cls := hown
  have N0 := Fr.nil n0
  show Fin p e below s _ _ _ (T0.setTop (mkF m 0 #[.val (.ref a1), .val (.ref a1), .unset] []))
  refine Fin.st (fun _ => XS.aloadN X0.here hx rfl (Jvm.hb hby d_jdk_42_method_66_0) rfl rfl) ?_
  show Fin p e below s _ _ _ (T0.setTop (mkF m 1 #[.val (.ref a1), .val (.ref a1), .unset] [(.ref a1)]))
  refine Fin.st (fun _ => XS.aloadN X0.here hx rfl (Jvm.hb hby d_jdk_42_method_66_1) rfl rfl) ?_
  show Fin p e below s _ _ _ (T0.setTop (mkF m 2 #[.val (.ref a1), .val (.ref a1), .unset] [(.ref a1), (.ref a1)]))
  refine Fin.st (fun _ => Jvm.RoadKit.acmp (g := (mkF m 2 #[.val (.ref a1), .val (.ref a1), .unset] [(.ref a1), (.ref a1)])) X0 hx rfl rfl rfl (pc0 := 2) (pc' := 5) (same := true) rfl (Jvm.hb hby d_jdk_42_method_66_2) rfl (decide_eq_true rfl) (by decide) (by decide)) ?_
  show Fin p e below s _ _ _ (T0.setTop (mkF m 5 #[.val (.ref a1), .val (.ref a1), .unset] []))
  refine Fin.st (fun _ => XS.iconst X0.here hx rfl (Jvm.hb hby d_jdk_42_method_66_5)) ?_
  show Fin p e below s _ _ _ (T0.setTop (mkF m 6 #[.val (.ref a1), .val (.ref a1), .unset] [(.int (1 : Int32))]))
  exact finN X0 hx hlk hret (t := .boolean) (by simp) (Jvm.hb hby d_jdk_42_method_66_6) e0 ⟨rfl, rfl, rfl⟩ (by decide) (by decide)
theorem pn_3 : plainName "com/example/klatch/klatch/HoldReenteredPinLaw" = true := by first | (simp [plainName, overriddenIn]; done) | decide +kernel
theorem pd_1 : parseMethodDescriptor "([C)V" = some ⟨[(.array .char)], none⟩ := by decide +kernel
theorem pd_2 : parseMethodDescriptor "(Ljava/lang/String;JJJZ)V" = some ⟨[(.object "java/lang/String"), .long, .long, .long, .boolean], none⟩ := by decide +kernel
theorem pd_3 : parseMethodDescriptor "()I" = some ⟨[], some .int⟩ := by decide +kernel
theorem pd_4 : parseMethodDescriptor "()Ljava/lang/String;" = some ⟨[], some (.object "java/lang/String")⟩ := by decide +kernel
theorem pd_5 : parseMethodDescriptor "(Ljava/lang/Object;)Z" = some ⟨[(.object "java/lang/Object")], some .boolean⟩ := by decide +kernel
theorem pd_6 : parseMethodDescriptor "()J" = some ⟨[], some .long⟩ := by decide +kernel
theorem pd_7 : parseMethodDescriptor "()Z" = some ⟨[], some .boolean⟩ := by decide +kernel
set_option maxRecDepth 65536 in
set_option maxHeartbeats 40000000 in
theorem rmLaw (l : Launch) (Z : State) (a0 : Array Value) (hw : ∀ d ∈ tables_1, d.before a0 Z = true) (ws : List Jvm.Cond) (p1 : Int32) (q2 q3 q4 : Int64) (p5 cz : Int32) (h0 : Heap) (n0 : Nat) (O : Old Z n0 h0) (SC : Sta Z Z.heap "java/lang/String" "COMPACT_STRINGS" "Z" (.int cz)) (hcz : ¬ cz = 0) :
    Con l Z h0 x code maxLocals ret ws room_1 #[(.int p1), (.long q2), (.long q3), (.long q4), (.int p5)] (fun v h L => v = some (.int 1) ∧ Fr n0 L) := by
  refine Con.of pn_3 (f0 := fun m => (mkF m 0 #[.val (.int p1), .val (.long q2), .second, .val (.long q3), .second, .val (.long q4), .second, .val (.int p5), .unset, .unset, .unset, .unset, .unset, .unset, .unset] [])) (fun m => by first | rfl | (simp [entryFrame, mkF, argsToLocals, Value.category, maxLocals]; done)) ?_
  intro p e s m below meth c T0 hx hby hml hown hnm hret hlk hZ X0 e0
  have hml : c.maxLocals = 15 := hml
  have hown : s.vm.findClass "com/example/klatch/klatch/HoldReenteredPinLaw" = some m.cls := hown
  have N0 := Fr.nil n0
  show Fin p e below s _ _ _ (T0.setTop (mkF m 0 #[.val (.int p1), .val (.long q2), .second, .val (.long q3), .second, .val (.long q4), .second, .val (.int p5), .unset, .unset, .unset, .unset, .unset, .unset, .unset] []))
  refine Fin.st (fun _ => XS.iconst X0.here hx rfl (Jvm.hb hby at_0)) ?_
  show Fin p e below s _ _ _ (T0.setTop (mkF m 1 #[.val (.int p1), .val (.long q2), .second, .val (.long q3), .second, .val (.long q4), .second, .val (.int p5), .unset, .unset, .unset, .unset, .unset, .unset, .unset] [(.int (2 : Int32))]))
  obtain ⟨b184, g184⟩ : ∃ z, z = h0.size := ⟨_, rfl⟩
  have ge184 : n0 ≤ b184 := by rw [g184]; exact O.own_le
  obtain ⟨T184, h184, k184, X184, e184, E184, A184, st184⟩ := newA0 X0 hx hZ (hw _ (List.mem_of_getElem? (i := 0) rfl)) e0 (g := (mkF m 1 #[.val (.int p1), .val (.long q2), .second, .val (.long q3), .second, .val (.long q4), .second, .val (.int p5), .unset, .unset, .unset, .unset, .unset, .unset, .unset] [(.int (2 : Int32))])) rfl (Jvm.hb hby at_1) rfl (by decide) (N := 2) (by decide) (by decide) (by decide) (by decide)
  rw [← g184] at A184 st184
  have V184 : Arv Z h184 b184 k184 .char (2 : Int32) [(.int (0 : Int32)), (.int (0 : Int32))] (.int (0 : Int32)) := A184
  refine Fin.st st184 ?_
  show Fin p e below s _ _ _ (T184.setTop (mkF m 3 #[.val (.int p1), .val (.long q2), .second, .val (.long q3), .second, .val (.long q4), .second, .val (.int p5), .unset, .unset, .unset, .unset, .unset, .unset, .unset] [(.ref b184)]))
  refine Fin.st (fun _ => XS.astore X184.here hx rfl (Jvm.hb hby at_3) rfl rfl (l' := #[.val (.int p1), .val (.long q2), .second, .val (.long q3), .second, .val (.long q4), .second, .val (.int p5), .val (.ref b184), .unset, .unset, .unset, .unset, .unset, .unset]) rfl) ?_
  show Fin p e below s _ _ _ (T184.setTop (mkF m 5 #[.val (.int p1), .val (.long q2), .second, .val (.long q3), .second, .val (.long q4), .second, .val (.int p5), .val (.ref b184), .unset, .unset, .unset, .unset, .unset, .unset] []))
  refine Fin.st (fun _ => XS.aload X184.here hx rfl (Jvm.hb hby at_5) rfl rfl) ?_
  show Fin p e below s _ _ _ (T184.setTop (mkF m 7 #[.val (.int p1), .val (.long q2), .second, .val (.long q3), .second, .val (.long q4), .second, .val (.int p5), .val (.ref b184), .unset, .unset, .unset, .unset, .unset, .unset] [(.ref b184)]))
  refine Fin.st (fun _ => XS.iconst X184.here hx rfl (Jvm.hb hby at_7)) ?_
  show Fin p e below s _ _ _ (T184.setTop (mkF m 8 #[.val (.int p1), .val (.long q2), .second, .val (.long q3), .second, .val (.long q4), .second, .val (.int p5), .val (.ref b184), .unset, .unset, .unset, .unset, .unset, .unset] [(.int (0 : Int32)), (.ref b184)]))
  refine Fin.st (fun _ => XS.iloadN X184.here hx rfl (Jvm.hb hby at_8) rfl) ?_
  show Fin p e below s _ _ _ (T184.setTop (mkF m 9 #[.val (.int p1), .val (.long q2), .second, .val (.long q3), .second, .val (.long q4), .second, .val (.int p5), .val (.ref b184), .unset, .unset, .unset, .unset, .unset, .unset] [(.int p1), (.int (0 : Int32)), (.ref b184)]))
  refine Fin.st (fun _ => XS.sipush X184.here hx rfl (Jvm.hb hby at_9)) ?_
  show Fin p e below s _ _ _ (T184.setTop (mkF m 12 #[.val (.int p1), .val (.long q2), .second, .val (.long q3), .second, .val (.long q4), .second, .val (.int p5), .val (.ref b184), .unset, .unset, .unset, .unset, .unset, .unset] [(.int (255 : Int32)), (.int p1), (.int (0 : Int32)), (.ref b184)]))
  refine Fin.st (fun _ => XS.iand X184.here hx rfl (Jvm.hb hby at_12) rfl) ?_
  show Fin p e below s _ _ _ (T184.setTop (mkF m 13 #[.val (.int p1), .val (.long q2), .second, .val (.long q3), .second, .val (.long q4), .second, .val (.int p5), .val (.ref b184), .unset, .unset, .unset, .unset, .unset, .unset] [(.int (p1 &&& (255 : Int32))), (.int (0 : Int32)), (.ref b184)]))
  refine Fin.st (fun _ => XS.i2c X184.here hx rfl (Jvm.hb hby at_13) rfl) ?_
  show Fin p e below s _ _ _ (T184.setTop (mkF m 14 #[.val (.int p1), .val (.long q2), .second, .val (.long q3), .second, .val (.long q4), .second, .val (.int p5), .val (.ref b184), .unset, .unset, .unset, .unset, .unset, .unset] [(.int (chr (p1 &&& (255 : Int32)))), (.int (0 : Int32)), (.ref b184)]))
  obtain ⟨c0, hc0, lc0, uc0, -⟩ := chr_255 p1
  rw [hc0]
  show Fin p e below s _ _ _ (T184.setTop (mkF m 14 #[.val (.int p1), .val (.long q2), .second, .val (.long q3), .second, .val (.long q4), .second, .val (.int p5), .val (.ref b184), .unset, .unset, .unset, .unset, .unset, .unset] [(.int c0), (.int (0 : Int32)), (.ref b184)]))
  obtain ⟨T185, h185, X185, e185, W185, V185, st185⟩ := stC0 X184 hx hZ e184 V184 (j := (0 : Int32)) (by decide) 0 rfl (Nat.le_of_ble_eq_true rfl) (nar_chr lc0 uc0) (g := (mkF m 14 #[.val (.int p1), .val (.long q2), .second, .val (.long q3), .second, .val (.long q4), .second, .val (.int p5), .val (.ref b184), .unset, .unset, .unset, .unset, .unset, .unset] [(.int c0), (.int (0 : Int32)), (.ref b184)])) rfl rfl (Jvm.hb hby at_14)
  have N185 := Fr.snoc X185 N0 ge184
  refine Fin.st st185 ?_
  have V185 : Arv Z h185 b184 _ .char (2 : Int32) [(.int c0), (.int (0 : Int32))] (.int (0 : Int32)) := V185
  show Fin p e below s _ _ _ (T185.setTop (mkF m 15 #[.val (.int p1), .val (.long q2), .second, .val (.long q3), .second, .val (.long q4), .second, .val (.int p5), .val (.ref b184), .unset, .unset, .unset, .unset, .unset, .unset] []))
  refine Fin.st (fun _ => XS.aload X185.here hx rfl (Jvm.hb hby at_15) rfl rfl) ?_
  show Fin p e below s _ _ _ (T185.setTop (mkF m 17 #[.val (.int p1), .val (.long q2), .second, .val (.long q3), .second, .val (.long q4), .second, .val (.int p5), .val (.ref b184), .unset, .unset, .unset, .unset, .unset, .unset] [(.ref b184)]))
  refine Fin.st (fun _ => XS.iconst X185.here hx rfl (Jvm.hb hby at_17)) ?_
  show Fin p e below s _ _ _ (T185.setTop (mkF m 18 #[.val (.int p1), .val (.long q2), .second, .val (.long q3), .second, .val (.long q4), .second, .val (.int p5), .val (.ref b184), .unset, .unset, .unset, .unset, .unset, .unset] [(.int (1 : Int32)), (.ref b184)]))
  refine Fin.st (fun _ => XS.iloadN X185.here hx rfl (Jvm.hb hby at_18) rfl) ?_
  show Fin p e below s _ _ _ (T185.setTop (mkF m 19 #[.val (.int p1), .val (.long q2), .second, .val (.long q3), .second, .val (.long q4), .second, .val (.int p5), .val (.ref b184), .unset, .unset, .unset, .unset, .unset, .unset] [(.int p1), (.int (1 : Int32)), (.ref b184)]))
  refine Fin.st (fun _ => XS.bipush X185.here hx rfl (Jvm.hb hby at_19)) ?_
  show Fin p e below s _ _ _ (T185.setTop (mkF m 21 #[.val (.int p1), .val (.long q2), .second, .val (.long q3), .second, .val (.long q4), .second, .val (.int p5), .val (.ref b184), .unset, .unset, .unset, .unset, .unset, .unset] [(.int (8 : Int32)), (.int p1), (.int (1 : Int32)), (.ref b184)]))
  refine Fin.st (fun _ => XS.iushr X185.here hx rfl (Jvm.hb hby at_21) rfl) ?_
  show Fin p e below s _ _ _ (T185.setTop (mkF m 22 #[.val (.int p1), .val (.long q2), .second, .val (.long q3), .second, .val (.long q4), .second, .val (.int p5), .val (.ref b184), .unset, .unset, .unset, .unset, .unset, .unset] [(.int (ush p1 (8 : Int32))), (.int (1 : Int32)), (.ref b184)]))
  refine Fin.st (fun _ => XS.sipush X185.here hx rfl (Jvm.hb hby at_22)) ?_
  show Fin p e below s _ _ _ (T185.setTop (mkF m 25 #[.val (.int p1), .val (.long q2), .second, .val (.long q3), .second, .val (.long q4), .second, .val (.int p5), .val (.ref b184), .unset, .unset, .unset, .unset, .unset, .unset] [(.int (255 : Int32)), (.int (ush p1 (8 : Int32))), (.int (1 : Int32)), (.ref b184)]))
  refine Fin.st (fun _ => XS.iand X185.here hx rfl (Jvm.hb hby at_25) rfl) ?_
  show Fin p e below s _ _ _ (T185.setTop (mkF m 26 #[.val (.int p1), .val (.long q2), .second, .val (.long q3), .second, .val (.long q4), .second, .val (.int p5), .val (.ref b184), .unset, .unset, .unset, .unset, .unset, .unset] [(.int ((ush p1 (8 : Int32)) &&& (255 : Int32))), (.int (1 : Int32)), (.ref b184)]))
  refine Fin.st (fun _ => XS.i2c X185.here hx rfl (Jvm.hb hby at_26) rfl) ?_
  show Fin p e below s _ _ _ (T185.setTop (mkF m 27 #[.val (.int p1), .val (.long q2), .second, .val (.long q3), .second, .val (.long q4), .second, .val (.int p5), .val (.ref b184), .unset, .unset, .unset, .unset, .unset, .unset] [(.int (chr ((ush p1 (8 : Int32)) &&& (255 : Int32)))), (.int (1 : Int32)), (.ref b184)]))
  obtain ⟨c1, hc1, lc1, uc1, -⟩ := chr_255 (ush p1 (8 : Int32))
  rw [hc1]
  show Fin p e below s _ _ _ (T185.setTop (mkF m 27 #[.val (.int p1), .val (.long q2), .second, .val (.long q3), .second, .val (.long q4), .second, .val (.int p5), .val (.ref b184), .unset, .unset, .unset, .unset, .unset, .unset] [(.int c1), (.int (1 : Int32)), (.ref b184)]))
  obtain ⟨T187, h187, X187, e187, W187, V187, st187⟩ := stC0 X185 hx hZ e185 V185 (j := (1 : Int32)) (by decide) 1 rfl (Nat.le_of_ble_eq_true rfl) (nar_chr lc1 uc1) (g := (mkF m 27 #[.val (.int p1), .val (.long q2), .second, .val (.long q3), .second, .val (.long q4), .second, .val (.int p5), .val (.ref b184), .unset, .unset, .unset, .unset, .unset, .unset] [(.int c1), (.int (1 : Int32)), (.ref b184)])) rfl rfl (Jvm.hb hby at_27)
  have N187 := Fr.snoc X187 N185 ge184
  refine Fin.st st187 ?_
  have V187 : Arv Z h187 b184 _ .char (2 : Int32) [(.int c0), (.int c1)] (.int (0 : Int32)) := V187
  show Fin p e below s _ _ _ (T187.setTop (mkF m 28 #[.val (.int p1), .val (.long q2), .second, .val (.long q3), .second, .val (.long q4), .second, .val (.int p5), .val (.ref b184), .unset, .unset, .unset, .unset, .unset, .unset] []))
  have f190 := O.ext E184
  have f191 := f190.wr W185 ge184
  have f192 := f191.wr W187 ge184
  obtain ⟨b189, g189⟩ : ∃ z, z = h187.size := ⟨_, rfl⟩
  have ne193 : b184 ≠ b189 := by rw [g189]; exact Nat.ne_of_lt V187.lt
  have ge189 : n0 ≤ b189 := by rw [g189]; exact f192.own_le
  obtain ⟨T189, h189, X189, e189, E189, A189, D189, -, st189⟩ := newO X187 hx hZ hown (hw _ (List.mem_of_getElem? (i := 1) rfl)) (hw _ (List.mem_of_getElem? (i := 2) rfl)) (hw _ (List.mem_of_getElem? (i := 3) rfl)) e187 (g := (mkF m 28 #[.val (.int p1), .val (.long q2), .second, .val (.long q3), .second, .val (.long q4), .second, .val (.int p5), .val (.ref b184), .unset, .unset, .unset, .unset, .unset, .unset] [])) rfl (Jvm.hb hby at_28) (by decide) (by decide)
  rw [← g189] at A189 D189 st189
  have F189_coder : Fld Z h189 b189 "java/lang/String" "coder" "B" (.int (0 : Int32)) := D189 (Or.inr (hw _ (List.mem_of_getElem? (i := 27) rfl))) (ty := .byte) (by decide)
  have F189_value : Fld Z h189 b189 "java/lang/String" "value" "[B" .null := D189 (Or.inr (hw _ (List.mem_of_getElem? (i := 29) rfl))) (ty := (.array .byte)) (by decide)
  refine Fin.st st189 ?_
  show Fin p e below s _ _ _ (T189.setTop (mkF m 31 #[.val (.int p1), .val (.long q2), .second, .val (.long q3), .second, .val (.long q4), .second, .val (.int p5), .val (.ref b184), .unset, .unset, .unset, .unset, .unset, .unset] [(.ref b189)]))
  refine Fin.st (fun _ => XS.dup X189.here hx rfl (Jvm.hb hby at_31) rfl rfl) ?_
  show Fin p e below s _ _ _ (T189.setTop (mkF m 32 #[.val (.int p1), .val (.long q2), .second, .val (.long q3), .second, .val (.long q4), .second, .val (.int p5), .val (.ref b184), .unset, .unset, .unset, .unset, .unset, .unset] [(.ref b189), (.ref b189)]))
  refine Fin.st (fun _ => XS.aload X189.here hx rfl (Jvm.hb hby at_32) rfl rfl) ?_
  show Fin p e below s _ _ _ (T189.setTop (mkF m 34 #[.val (.int p1), .val (.long q2), .second, .val (.long q3), .second, .val (.long q4), .second, .val (.int p5), .val (.ref b184), .unset, .unset, .unset, .unset, .unset, .unset] [(.ref b184), (.ref b189), (.ref b189)]))
  have f194 := f192.ext E189
  have f195 := V187.ext E189
  have hp196 : ∀ c ∈ [c0, c1], ¬ c < 0 ∧ ¬ (255 : Int32) < c := by
    intro c hc; simp only [List.mem_cons, List.not_mem_nil, or_false] at hc; rcases hc with rfl | rfl
    · exact ⟨lc0, uc0⟩
    · exact ⟨lc1, uc1⟩
  obtain ⟨_, T197, h197, L197, X197, e197, ⟨rfl, Nq197, K197, t197, gt197, sz197, nt197, S197⟩, st197⟩ := goI X189 hx hZ hown rfl (hw _ (List.mem_of_getElem? (i := 4) rfl)) (hw _ (List.mem_of_getElem? (i := 5) rfl)) (hw _ (List.mem_of_getElem? (i := 6) rfl)) (by decide) (strNew (len := 3) (W := 1) hZ hw (hw _ (List.mem_of_getElem? (i := 2) rfl)) (cs := [c0, c1]) (n := 2) ge189 f194.own_le A189 F189_value F189_coder f195 (SC.ext f194.2) hcz rfl (by decide) (by decide) hp196 (by decide) (by decide)) e189 (g := (mkF m 34 #[.val (.int p1), .val (.long q2), .second, .val (.long q3), .second, .val (.long q4), .second, .val (.int p5), .val (.ref b184), .unset, .unset, .unset, .unset, .unset, .unset] [(.ref b184), (.ref b189), (.ref b189)])) rfl (by rw [hml]; rfl) [(.ref b184)] [(.ref b189)] (lenOf pd_1 rfl) rfl (by show 2 * 0 + _ ≤ _; exact Nat.le_of_eq rfl) (Jvm.hb hby at_34) rfl (by decide) (by decide)
  have ne197_b184 : b184 ≠ t197 := Nat.ne_of_lt (Nat.lt_of_lt_of_le f195.lt sz197)
  have N197 := N187.app Nq197
  refine Fin.st st197 ?_
  show Fin p e below s _ _ _ (T197.setTop (mkF m 37 #[.val (.int p1), .val (.long q2), .second, .val (.long q3), .second, .val (.long q4), .second, .val (.int p5), .val (.ref b184), .unset, .unset, .unset, .unset, .unset, .unset] [(.ref b189)]))
  refine Fin.st (fun _ => XS.astore X197.here hx rfl (Jvm.hb hby at_37) rfl rfl (l' := #[.val (.int p1), .val (.long q2), .second, .val (.long q3), .second, .val (.long q4), .second, .val (.int p5), .val (.ref b184), .val (.ref b189), .unset, .unset, .unset, .unset, .unset]) rfl) ?_
  show Fin p e below s _ _ _ (T197.setTop (mkF m 39 #[.val (.int p1), .val (.long q2), .second, .val (.long q3), .second, .val (.long q4), .second, .val (.int p5), .val (.ref b184), .val (.ref b189), .unset, .unset, .unset, .unset, .unset] []))
  refine Fin.st (fun _ => XS.iload X197.here hx rfl (Jvm.hb hby at_39) rfl) ?_
  show Fin p e below s _ _ _ (T197.setTop (mkF m 41 #[.val (.int p1), .val (.long q2), .second, .val (.long q3), .second, .val (.long q4), .second, .val (.int p5), .val (.ref b184), .val (.ref b189), .unset, .unset, .unset, .unset, .unset] [(.int p5)]))
  refine Fin.st (fun _ => XS.iconst X197.here hx rfl (Jvm.hb hby at_41)) ?_
  show Fin p e below s _ _ _ (T197.setTop (mkF m 42 #[.val (.int p1), .val (.long q2), .second, .val (.long q3), .second, .val (.long q4), .second, .val (.int p5), .val (.ref b184), .val (.ref b189), .unset, .unset, .unset, .unset, .unset] [(.int (4 : Int32)), (.int p5)]))
  refine Fin.st (fun _ => XS.iand X197.here hx rfl (Jvm.hb hby at_42) rfl) ?_
  show Fin p e below s _ _ _ (T197.setTop (mkF m 43 #[.val (.int p1), .val (.long q2), .second, .val (.long q3), .second, .val (.long q4), .second, .val (.int p5), .val (.ref b184), .val (.ref b189), .unset, .unset, .unset, .unset, .unset] [(.int (p5 &&& (4 : Int32)))]))
  refine join1 (α := Int32) (P := fun b => b = 0 ∨ b = 1) (A := fun b => T197.setTop (mkF m 51 #[.val (.int p1), .val (.long q2), .second, .val (.long q3), .second, .val (.long q4), .second, .val (.int p5), .val (.ref b184), .val (.ref b189), .unset, .unset, .unset, .unset, .unset] [(.int b)])) ?_ ?_
  · rintro b hb
    show Fin p e below s _ _ _ (T197.setTop (mkF m 51 #[.val (.int p1), .val (.long q2), .second, .val (.long q3), .second, .val (.long q4), .second, .val (.int p5), .val (.ref b184), .val (.ref b189), .unset, .unset, .unset, .unset, .unset] [(.int b)]))
    refine Fin.st (fun _ => XS.istore X197.here hx rfl (Jvm.hb hby at_51) rfl (l' := #[.val (.int p1), .val (.long q2), .second, .val (.long q3), .second, .val (.long q4), .second, .val (.int p5), .val (.ref b184), .val (.ref b189), .val (.int b), .unset, .unset, .unset, .unset]) rfl) ?_
    show Fin p e below s _ _ _ (T197.setTop (mkF m 53 #[.val (.int p1), .val (.long q2), .second, .val (.long q3), .second, .val (.long q4), .second, .val (.int p5), .val (.ref b184), .val (.ref b189), .val (.int b), .unset, .unset, .unset, .unset] []))
    have f199 := f194.keep K197 (allS ge189 all0)
    obtain ⟨b198, g198⟩ : ∃ z, z = h197.size := ⟨_, rfl⟩
    have f200 := f195.keep K197 (ninS ne193 nin0)
    have ne201 : b184 ≠ b198 := by rw [g198]; exact Nat.ne_of_lt f200.lt
    have f202 := A189.keep K197
    have ne203 : b189 ≠ b198 := by rw [g198]; exact Nat.ne_of_lt f202.lt
    have ne204 : t197 ≠ b198 := by rw [g198]; exact Nat.ne_of_lt S197.ltt
    have ge198 : n0 ≤ b198 := by rw [g198]; exact f199.own_le
    obtain ⟨T198, h198, X198, e198, E198, A198, D198, -, st198⟩ := newO X197 hx hZ hown (hw _ (List.mem_of_getElem? (i := 30) rfl)) (hw _ (List.mem_of_getElem? (i := 31) rfl)) (hw _ (List.mem_of_getElem? (i := 32) rfl)) e197 (g := (mkF m 53 #[.val (.int p1), .val (.long q2), .second, .val (.long q3), .second, .val (.long q4), .second, .val (.int p5), .val (.ref b184), .val (.ref b189), .val (.int b), .unset, .unset, .unset, .unset] [])) rfl (Jvm.hb hby at_53) (by decide) (by decide)
    rw [← g198] at A198 D198 st198
    have F198_ended : Fld Z h198 b198 "com/example/klatch/klatch/Holds$Hold" "ended" "Ljava/util/concurrent/atomic/AtomicBoolean;" .null := D198 (Or.inr (hw _ (List.mem_of_getElem? (i := 45) rfl))) (ty := (.object "java/util/concurrent/atomic/AtomicBoolean")) (by decide)
    have F198_holdCount : Fld Z h198 b198 "com/example/klatch/klatch/Holds$Hold" "holdCount" "I" (.int (0 : Int32)) := D198 (Or.inl (hw _ (List.mem_of_getElem? (i := 47) rfl))) (ty := .int) (by decide)
    have F198_token : Fld Z h198 b198 "com/example/klatch/klatch/Holds$Hold" "token" "Ljava/lang/String;" .null := D198 (Or.inr (hw _ (List.mem_of_getElem? (i := 49) rfl))) (ty := (.object "java/lang/String")) (by decide)
    have F198_leaseMillis : Fld Z h198 b198 "com/example/klatch/klatch/Holds$Hold" "leaseMillis" "J" (.long (0 : Int64)) := D198 (Or.inr (hw _ (List.mem_of_getElem? (i := 51) rfl))) (ty := .long) (by decide)
    have F198_validNanos : Fld Z h198 b198 "com/example/klatch/klatch/Holds$Hold" "validNanos" "J" (.long (0 : Int64)) := D198 (Or.inr (hw _ (List.mem_of_getElem? (i := 53) rfl))) (ty := .long) (by decide)
    have F198_renewed : Fld Z h198 b198 "com/example/klatch/klatch/Holds$Hold" "renewed" "Z" (.int (0 : Int32)) := D198 (Or.inr (hw _ (List.mem_of_getElem? (i := 55) rfl))) (ty := .boolean) (by decide)
    have F198_leaseStartNanos : Fld Z h198 b198 "com/example/klatch/klatch/Holds$Hold" "leaseStartNanos" "J" (.long (0 : Int64)) := D198 (Or.inl (hw _ (List.mem_of_getElem? (i := 57) rfl))) (ty := .long) (by decide)
    have F198_unconfirmed : Fld Z h198 b198 "com/example/klatch/klatch/Holds$Hold" "unconfirmed" "Z" (.int (0 : Int32)) := D198 (Or.inl (hw _ (List.mem_of_getElem? (i := 95) rfl))) (ty := .boolean) (by decide)
    refine Fin.st st198 ?_
    show Fin p e below s _ _ _ (T198.setTop (mkF m 56 #[.val (.int p1), .val (.long q2), .second, .val (.long q3), .second, .val (.long q4), .second, .val (.int p5), .val (.ref b184), .val (.ref b189), .val (.int b), .unset, .unset, .unset, .unset] [(.ref b198)]))
    refine Fin.st (fun _ => XS.dup X198.here hx rfl (Jvm.hb hby at_56) rfl rfl) ?_
    show Fin p e below s _ _ _ (T198.setTop (mkF m 57 #[.val (.int p1), .val (.long q2), .second, .val (.long q3), .second, .val (.long q4), .second, .val (.int p5), .val (.ref b184), .val (.ref b189), .val (.int b), .unset, .unset, .unset, .unset] [(.ref b198), (.ref b198)]))
    refine Fin.st (fun _ => XS.aload X198.here hx rfl (Jvm.hb hby at_57) rfl rfl) ?_
    show Fin p e below s _ _ _ (T198.setTop (mkF m 59 #[.val (.int p1), .val (.long q2), .second, .val (.long q3), .second, .val (.long q4), .second, .val (.int p5), .val (.ref b184), .val (.ref b189), .val (.int b), .unset, .unset, .unset, .unset] [(.ref b189), (.ref b198), (.ref b198)]))
    refine Fin.st (fun _ => XS.lloadN X198.here hx rfl (Jvm.hb hby at_59) rfl) ?_
    show Fin p e below s _ _ _ (T198.setTop (mkF m 60 #[.val (.int p1), .val (.long q2), .second, .val (.long q3), .second, .val (.long q4), .second, .val (.int p5), .val (.ref b184), .val (.ref b189), .val (.int b), .unset, .unset, .unset, .unset] [(.long q2), (.ref b189), (.ref b198), (.ref b198)]))
    refine Fin.st (fun _ => XS.lloadN X198.here hx rfl (Jvm.hb hby at_60) rfl) ?_
    show Fin p e below s _ _ _ (T198.setTop (mkF m 61 #[.val (.int p1), .val (.long q2), .second, .val (.long q3), .second, .val (.long q4), .second, .val (.int p5), .val (.ref b184), .val (.ref b189), .val (.int b), .unset, .unset, .unset, .unset] [(.long q3), (.long q2), (.ref b189), (.ref b198), (.ref b198)]))
    refine Fin.st (fun _ => XS.lload X198.here hx rfl (Jvm.hb hby at_61) rfl) ?_
    show Fin p e below s _ _ _ (T198.setTop (mkF m 63 #[.val (.int p1), .val (.long q2), .second, .val (.long q3), .second, .val (.long q4), .second, .val (.int p5), .val (.ref b184), .val (.ref b189), .val (.int b), .unset, .unset, .unset, .unset] [(.long q4), (.long q3), (.long q2), (.ref b189), (.ref b198), (.ref b198)]))
    refine Fin.st (fun _ => XS.iload X198.here hx rfl (Jvm.hb hby at_63) rfl) ?_
    show Fin p e below s _ _ _ (T198.setTop (mkF m 65 #[.val (.int p1), .val (.long q2), .second, .val (.long q3), .second, .val (.long q4), .second, .val (.int p5), .val (.ref b184), .val (.ref b189), .val (.int b), .unset, .unset, .unset, .unset] [(.int b), (.long q4), (.long q3), (.long q2), (.ref b189), (.ref b198), (.ref b198)]))
    have f205 := f199.ext E198
    obtain ⟨_, T206, h206, L206, X206, e206, ⟨rfl, Nq206, K206, E206, F206_holdCount, F206_token, F206_leaseMillis, F206_renewed, F206_unconfirmed⟩, st206⟩ := goI X198 hx hZ hown rfl (hw _ (List.mem_of_getElem? (i := 33) rfl)) (hw _ (List.mem_of_getElem? (i := 34) rfl)) (hw _ (List.mem_of_getElem? (i := 35) rfl)) (by decide) ((rmHold l Z a0 hw [] b198 b189 q2 q3 q4 b _ _ _ _ _ _ _ h198 n0 f205 A198 ge198 hb F198_ended F198_holdCount F198_token F198_leaseMillis F198_validNanos F198_renewed F198_leaseStartNanos F198_unconfirmed).pay (W := 1) hZ (hw _ (List.mem_of_getElem? (i := 35) rfl)) (hw _ (List.mem_of_getElem? (i := 32) rfl)) (by decide) (by decide)) e198 (g := (mkF m 65 #[.val (.int p1), .val (.long q2), .second, .val (.long q3), .second, .val (.long q4), .second, .val (.int p5), .val (.ref b184), .val (.ref b189), .val (.int b), .unset, .unset, .unset, .unset] [(.int b), (.long q4), (.long q3), (.long q2), (.ref b189), (.ref b198), (.ref b198)])) rfl (by rw [hml]; rfl) [(.ref b189), (.long q2), (.long q3), (.long q4), (.int b)] [(.ref b198)] (lenOf pd_2 rfl) rfl (by show 2 * 0 + _ ≤ _; exact Nat.le_of_eq rfl) (Jvm.hb hby at_65) rfl (by decide) (by decide)
    have N206 := N197.app Nq206
    refine Fin.st st206 ?_
    show Fin p e below s _ _ _ (T206.setTop (mkF m 68 #[.val (.int p1), .val (.long q2), .second, .val (.long q3), .second, .val (.long q4), .second, .val (.int p5), .val (.ref b184), .val (.ref b189), .val (.int b), .unset, .unset, .unset, .unset] [(.ref b198)]))
    refine Fin.st (fun _ => XS.astore X206.here hx rfl (Jvm.hb hby at_68) rfl rfl (l' := #[.val (.int p1), .val (.long q2), .second, .val (.long q3), .second, .val (.long q4), .second, .val (.int p5), .val (.ref b184), .val (.ref b189), .val (.int b), .val (.ref b198), .unset, .unset, .unset]) rfl) ?_
    show Fin p e below s _ _ _ (T206.setTop (mkF m 70 #[.val (.int p1), .val (.long q2), .second, .val (.long q3), .second, .val (.long q4), .second, .val (.int p5), .val (.ref b184), .val (.ref b189), .val (.int b), .val (.ref b198), .unset, .unset, .unset] []))
    refine Fin.st (fun _ => XS.aload X206.here hx rfl (Jvm.hb hby at_70) rfl rfl) ?_
    show Fin p e below s _ _ _ (T206.setTop (mkF m 72 #[.val (.int p1), .val (.long q2), .second, .val (.long q3), .second, .val (.long q4), .second, .val (.int p5), .val (.ref b184), .val (.ref b189), .val (.int b), .val (.ref b198), .unset, .unset, .unset] [(.ref b198)]))
    have f207 := f205.keep K206 (allS ge198 all0)
    obtain ⟨_, T208, h208, L208, X208, e208, ⟨rfl, rfl, q208⟩, st208⟩ := goV X206 hx hZ hown (hw _ (List.mem_of_getElem? (i := 58) rfl)) (hw _ (List.mem_of_getElem? (i := 59) rfl)) (hw _ (List.mem_of_getElem? (i := 61) rfl)) (notFace_of_selects (args := #[]) (mvT hZ (hw _ (List.mem_of_getElem? (i := 61) rfl)))) (hw _ (List.mem_of_getElem? (i := 60) rfl)) (by decide) ((rm_holdCount l Z a0 hw [] b198 (1 : Int32) h206 n0 f207 F206_holdCount ).pay (W := 0) hZ (hw _ (List.mem_of_getElem? (i := 62) rfl)) (hw _ (List.mem_of_getElem? (i := 32) rfl)) (by decide) (by decide)) e206 E206 (g := (mkF m 72 #[.val (.int p1), .val (.long q2), .second, .val (.long q3), .second, .val (.long q4), .second, .val (.int p5), .val (.ref b184), .val (.ref b189), .val (.int b), .val (.ref b198), .unset, .unset, .unset] [(.ref b198)])) rfl (by rw [hml]; rfl) [] [] (lenOf pd_3 rfl) rfl (by show 2 * 0 + _ ≤ _; exact Nat.le_of_eq rfl) (Jvm.hb hby at_72) rfl (by decide) (by decide)
    have e208 := e208.trans q208
    have N208 := N206.app (Fr.nil n0)
    refine Fin.st st208 ?_
    show Fin p e below s _ _ _ (T208.setTop (mkF m 75 #[.val (.int p1), .val (.long q2), .second, .val (.long q3), .second, .val (.long q4), .second, .val (.int p5), .val (.ref b184), .val (.ref b189), .val (.int b), .val (.ref b198), .unset, .unset, .unset] [(.int (1 : Int32))]))
    refine Fin.st (fun _ => XS.istore X208.here hx rfl (Jvm.hb hby at_75) rfl (l' := #[.val (.int p1), .val (.long q2), .second, .val (.long q3), .second, .val (.long q4), .second, .val (.int p5), .val (.ref b184), .val (.ref b189), .val (.int b), .val (.ref b198), .val (.int (1 : Int32)), .unset, .unset]) rfl) ?_
    show Fin p e below s _ _ _ (T208.setTop (mkF m 77 #[.val (.int p1), .val (.long q2), .second, .val (.long q3), .second, .val (.long q4), .second, .val (.int p5), .val (.ref b184), .val (.ref b189), .val (.int b), .val (.ref b198), .val (.int (1 : Int32)), .unset, .unset] []))
    refine Fin.st (fun _ => XS.aload X208.here hx rfl (Jvm.hb hby at_77) rfl rfl) ?_
    show Fin p e below s _ _ _ (T208.setTop (mkF m 79 #[.val (.int p1), .val (.long q2), .second, .val (.long q3), .second, .val (.long q4), .second, .val (.int p5), .val (.ref b184), .val (.ref b189), .val (.int b), .val (.ref b198), .val (.int (1 : Int32)), .unset, .unset] [(.ref b198)]))
    obtain ⟨_, T209, h209, L209, X209, e209, ⟨rfl, Nq209, K209, E209, F209_holdCount, F209_token, F209_leaseMillis, F209_renewed, F209_unconfirmed⟩, st209⟩ := goV X208 hx hZ hown (hw _ (List.mem_of_getElem? (i := 63) rfl)) (hw _ (List.mem_of_getElem? (i := 64) rfl)) (hw _ (List.mem_of_getElem? (i := 66) rfl)) (notFace_of_selects (args := #[]) (mvT hZ (hw _ (List.mem_of_getElem? (i := 66) rfl)))) (hw _ (List.mem_of_getElem? (i := 65) rfl)) (by decide) ((rmRe l Z a0 hw [] b198 b189 (1 : Int32) q3 b h206 n0 f207 E206 ge198 (by decide) F206_holdCount F206_token F206_leaseMillis F206_renewed F206_unconfirmed).pay (W := 0) hZ (hw _ (List.mem_of_getElem? (i := 67) rfl)) (hw _ (List.mem_of_getElem? (i := 32) rfl)) (by decide) (by decide)) e208 E206 (g := (mkF m 79 #[.val (.int p1), .val (.long q2), .second, .val (.long q3), .second, .val (.long q4), .second, .val (.int p5), .val (.ref b184), .val (.ref b189), .val (.int b), .val (.ref b198), .val (.int (1 : Int32)), .unset, .unset] [(.ref b198)])) rfl (by rw [hml]; rfl) [] [] (lenOf pd_0 rfl) rfl (by show 2 * 0 + _ ≤ _; exact Nat.le_of_eq rfl) (Jvm.hb hby at_79) rfl (by decide) (by decide)
    have N209 := N208.app Nq209
    refine Fin.st st209 ?_
    show Fin p e below s _ _ _ (T209.setTop (mkF m 82 #[.val (.int p1), .val (.long q2), .second, .val (.long q3), .second, .val (.long q4), .second, .val (.int p5), .val (.ref b184), .val (.ref b189), .val (.int b), .val (.ref b198), .val (.int (1 : Int32)), .unset, .unset] []))
    refine Fin.st (fun _ => XS.iconst X209.here hx rfl (Jvm.hb hby at_82)) ?_
    show Fin p e below s _ _ _ (T209.setTop (mkF m 83 #[.val (.int p1), .val (.long q2), .second, .val (.long q3), .second, .val (.long q4), .second, .val (.int p5), .val (.ref b184), .val (.ref b189), .val (.int b), .val (.ref b198), .val (.int (1 : Int32)), .unset, .unset] [(.int (1 : Int32))]))
    refine Fin.st (fun _ => XS.istore X209.here hx rfl (Jvm.hb hby at_83) rfl (l' := #[.val (.int p1), .val (.long q2), .second, .val (.long q3), .second, .val (.long q4), .second, .val (.int p5), .val (.ref b184), .val (.ref b189), .val (.int b), .val (.ref b198), .val (.int (1 : Int32)), .val (.int (1 : Int32)), .unset]) rfl) ?_
    show Fin p e below s _ _ _ (T209.setTop (mkF m 85 #[.val (.int p1), .val (.long q2), .second, .val (.long q3), .second, .val (.long q4), .second, .val (.int p5), .val (.ref b184), .val (.ref b189), .val (.int b), .val (.ref b198), .val (.int (1 : Int32)), .val (.int (1 : Int32)), .unset] []))
    refine Fin.st (fun _ => XS.iload X209.here hx rfl (Jvm.hb hby at_85) rfl) ?_
    show Fin p e below s _ _ _ (T209.setTop (mkF m 87 #[.val (.int p1), .val (.long q2), .second, .val (.long q3), .second, .val (.long q4), .second, .val (.int p5), .val (.ref b184), .val (.ref b189), .val (.int b), .val (.ref b198), .val (.int (1 : Int32)), .val (.int (1 : Int32)), .unset] [(.int p5)]))
    refine Fin.st (fun _ => XS.iconst X209.here hx rfl (Jvm.hb hby at_87)) ?_
    show Fin p e below s _ _ _ (T209.setTop (mkF m 88 #[.val (.int p1), .val (.long q2), .second, .val (.long q3), .second, .val (.long q4), .second, .val (.int p5), .val (.ref b184), .val (.ref b189), .val (.int b), .val (.ref b198), .val (.int (1 : Int32)), .val (.int (1 : Int32)), .unset] [(.int (1 : Int32)), (.int p5)]))
    refine Fin.st (fun _ => XS.iand X209.here hx rfl (Jvm.hb hby at_88) rfl) ?_
    show Fin p e below s _ _ _ (T209.setTop (mkF m 89 #[.val (.int p1), .val (.long q2), .second, .val (.long q3), .second, .val (.long q4), .second, .val (.int p5), .val (.ref b184), .val (.ref b189), .val (.int b), .val (.ref b198), .val (.int (1 : Int32)), .val (.int (1 : Int32)), .unset] [(.int (p5 &&& (1 : Int32)))]))
    refine joinH (α := Int32) (P := fun r T210 h210 L210 => (Stand p l e room_1 s m #[(.int p1), (.long q2), (.long q3), (.long q4), (.int p5)] below meth c T210 L210 5 20) ∧ (T210.heap = h210) ∧ (Fr n0 L210) ∧ (Old Z n0 h210) ∧ (r = 1 ∨ r = 2) ∧ (Exa Z h210 b198 "com/example/klatch/klatch/Holds$Hold") ∧ (Exa Z h210 b189 "java/lang/String") ∧ (Fld Z h210 b198 "com/example/klatch/klatch/Holds$Hold" "holdCount" "I" (.int (r + 1))) ∧ (Fld Z h210 b198 "com/example/klatch/klatch/Holds$Hold" "token" "Ljava/lang/String;" (.ref b189)) ∧ (Fld Z h210 b198 "com/example/klatch/klatch/Holds$Hold" "leaseMillis" "J" (.long q3)) ∧ (Fld Z h210 b198 "com/example/klatch/klatch/Holds$Hold" "renewed" "Z" (.int b)) ∧ (Fld Z h210 b198 "com/example/klatch/klatch/Holds$Hold" "unconfirmed" "Z" (.int (0 : Int32)))) (A := fun r T210 => T210.setTop (mkF m 103 #[.val (.int p1), .val (.long q2), .second, .val (.long q3), .second, .val (.long q4), .second, .val (.int p5), .val (.ref b184), .val (.ref b189), .val (.int b), .val (.ref b198), .val (.int (1 : Int32)), .val (.int r), .unset] [])) ?_ ?_
    · rintro r T210 h210 L210 ⟨X210, e210, N210, O210, hr, G210_0, G210_1, G210_2, G210_3, G210_4, G210_5, G210_6⟩
      show Fin p e below s _ _ _ (T210.setTop (mkF m 103 #[.val (.int p1), .val (.long q2), .second, .val (.long q3), .second, .val (.long q4), .second, .val (.int p5), .val (.ref b184), .val (.ref b189), .val (.int b), .val (.ref b198), .val (.int (1 : Int32)), .val (.int r), .unset] []))
      refine Fin.st (fun _ => XS.iload X210.here hx rfl (Jvm.hb hby at_103) rfl) ?_
      show Fin p e below s _ _ _ (T210.setTop (mkF m 105 #[.val (.int p1), .val (.long q2), .second, .val (.long q3), .second, .val (.long q4), .second, .val (.int p5), .val (.ref b184), .val (.ref b189), .val (.int b), .val (.ref b198), .val (.int (1 : Int32)), .val (.int r), .unset] [(.int p5)]))
      refine Fin.st (fun _ => XS.iconst X210.here hx rfl (Jvm.hb hby at_105)) ?_
      show Fin p e below s _ _ _ (T210.setTop (mkF m 106 #[.val (.int p1), .val (.long q2), .second, .val (.long q3), .second, .val (.long q4), .second, .val (.int p5), .val (.ref b184), .val (.ref b189), .val (.int b), .val (.ref b198), .val (.int (1 : Int32)), .val (.int r), .unset] [(.int (2 : Int32)), (.int p5)]))
      refine Fin.st (fun _ => XS.iand X210.here hx rfl (Jvm.hb hby at_106) rfl) ?_
      show Fin p e below s _ _ _ (T210.setTop (mkF m 107 #[.val (.int p1), .val (.long q2), .second, .val (.long q3), .second, .val (.long q4), .second, .val (.int p5), .val (.ref b184), .val (.ref b189), .val (.int b), .val (.ref b198), .val (.int (1 : Int32)), .val (.int r), .unset] [(.int (p5 &&& (2 : Int32)))]))
      refine joinH (α := Int32) (P := fun r T211 h211 L211 => (Stand p l e room_1 s m #[(.int p1), (.long q2), (.long q3), (.long q4), (.int p5)] below meth c T211 L211 5 20) ∧ (T211.heap = h211) ∧ (Fr n0 L211) ∧ (Old Z n0 h211) ∧ (r = 1 ∨ r = 2 ∨ r = 3) ∧ (Exa Z h211 b198 "com/example/klatch/klatch/Holds$Hold") ∧ (Exa Z h211 b189 "java/lang/String") ∧ (Fld Z h211 b198 "com/example/klatch/klatch/Holds$Hold" "holdCount" "I" (.int (r + 1))) ∧ (Fld Z h211 b198 "com/example/klatch/klatch/Holds$Hold" "token" "Ljava/lang/String;" (.ref b189)) ∧ (Fld Z h211 b198 "com/example/klatch/klatch/Holds$Hold" "leaseMillis" "J" (.long q3)) ∧ (Fld Z h211 b198 "com/example/klatch/klatch/Holds$Hold" "renewed" "Z" (.int b)) ∧ (Fld Z h211 b198 "com/example/klatch/klatch/Holds$Hold" "unconfirmed" "Z" (.int (0 : Int32)))) (A := fun r T211 => T211.setTop (mkF m 121 #[.val (.int p1), .val (.long q2), .second, .val (.long q3), .second, .val (.long q4), .second, .val (.int p5), .val (.ref b184), .val (.ref b189), .val (.int b), .val (.ref b198), .val (.int (1 : Int32)), .val (.int r), .unset] [])) ?_ ?_
      · rintro r T211 h211 L211 ⟨X211, e211, N211, O211, hr2, G211_0, G211_1, G211_2, G211_3, G211_4, G211_5, G211_6⟩
        show Fin p e below s _ _ _ (T211.setTop (mkF m 121 #[.val (.int p1), .val (.long q2), .second, .val (.long q3), .second, .val (.long q4), .second, .val (.int p5), .val (.ref b184), .val (.ref b189), .val (.int b), .val (.ref b198), .val (.int (1 : Int32)), .val (.int r), .unset] []))
        refine Fin.st (fun _ => XS.aload X211.here hx rfl (Jvm.hb hby at_121) rfl rfl) ?_
        show Fin p e below s _ _ _ (T211.setTop (mkF m 123 #[.val (.int p1), .val (.long q2), .second, .val (.long q3), .second, .val (.long q4), .second, .val (.int p5), .val (.ref b184), .val (.ref b189), .val (.int b), .val (.ref b198), .val (.int (1 : Int32)), .val (.int r), .unset] [(.ref b198)]))
        obtain ⟨_, T212, h212, L212, X212, e212, ⟨rfl, rfl, q212⟩, st212⟩ := goV X211 hx hZ hown (hw _ (List.mem_of_getElem? (i := 58) rfl)) (hw _ (List.mem_of_getElem? (i := 59) rfl)) (hw _ (List.mem_of_getElem? (i := 61) rfl)) (notFace_of_selects (args := #[]) (mvT hZ (hw _ (List.mem_of_getElem? (i := 61) rfl)))) (hw _ (List.mem_of_getElem? (i := 60) rfl)) (by decide) ((rm_holdCount l Z a0 hw [] b198 (r + 1) h211 n0 O211 G211_2 ).pay (W := 0) hZ (hw _ (List.mem_of_getElem? (i := 62) rfl)) (hw _ (List.mem_of_getElem? (i := 32) rfl)) (by decide) (by decide)) e211 G211_0 (g := (mkF m 123 #[.val (.int p1), .val (.long q2), .second, .val (.long q3), .second, .val (.long q4), .second, .val (.int p5), .val (.ref b184), .val (.ref b189), .val (.int b), .val (.ref b198), .val (.int (1 : Int32)), .val (.int r), .unset] [(.ref b198)])) rfl (by rw [hml]; rfl) [] [] (lenOf pd_3 rfl) rfl (by show 2 * 0 + _ ≤ _; exact Nat.le_of_eq rfl) (Jvm.hb hby at_123) rfl (by decide) (by decide)
        have e212 := e212.trans q212
        have N212 := N211.app (Fr.nil n0)
        refine Fin.st st212 ?_
        show Fin p e below s _ _ _ (T212.setTop (mkF m 126 #[.val (.int p1), .val (.long q2), .second, .val (.long q3), .second, .val (.long q4), .second, .val (.int p5), .val (.ref b184), .val (.ref b189), .val (.int b), .val (.ref b198), .val (.int (1 : Int32)), .val (.int r), .unset] [(.int (r + 1))]))
        refine Fin.st (fun _ => XS.istore X212.here hx rfl (Jvm.hb hby at_126) rfl (l' := #[.val (.int p1), .val (.long q2), .second, .val (.long q3), .second, .val (.long q4), .second, .val (.int p5), .val (.ref b184), .val (.ref b189), .val (.int b), .val (.ref b198), .val (.int (1 : Int32)), .val (.int r), .val (.int (r + 1))]) rfl) ?_
        show Fin p e below s _ _ _ (T212.setTop (mkF m 128 #[.val (.int p1), .val (.long q2), .second, .val (.long q3), .second, .val (.long q4), .second, .val (.int p5), .val (.ref b184), .val (.ref b189), .val (.int b), .val (.ref b198), .val (.int (1 : Int32)), .val (.int r), .val (.int (r + 1))] []))
        refine Fin.st (fun _ => XS.iload X212.here hx rfl (Jvm.hb hby at_128) rfl) ?_
        show Fin p e below s _ _ _ (T212.setTop (mkF m 130 #[.val (.int p1), .val (.long q2), .second, .val (.long q3), .second, .val (.long q4), .second, .val (.int p5), .val (.ref b184), .val (.ref b189), .val (.int b), .val (.ref b198), .val (.int (1 : Int32)), .val (.int r), .val (.int (r + 1))] [(.int (1 : Int32))]))
        refine Fin.st (fun _ => XS.iconst X212.here hx rfl (Jvm.hb hby at_130)) ?_
        show Fin p e below s _ _ _ (T212.setTop (mkF m 131 #[.val (.int p1), .val (.long q2), .second, .val (.long q3), .second, .val (.long q4), .second, .val (.int p5), .val (.ref b184), .val (.ref b189), .val (.int b), .val (.ref b198), .val (.int (1 : Int32)), .val (.int r), .val (.int (r + 1))] [(.int (1 : Int32)), (.int (1 : Int32))]))
        refine Fin.st (fun _ => XS.icmpNo X212.here hx rfl (Jvm.hb hby at_131) rfl (ineN rfl)) ?_
        show Fin p e below s _ _ _ (T212.setTop (mkF m 134 #[.val (.int p1), .val (.long q2), .second, .val (.long q3), .second, .val (.long q4), .second, .val (.int p5), .val (.ref b184), .val (.ref b189), .val (.int b), .val (.ref b198), .val (.int (1 : Int32)), .val (.int r), .val (.int (r + 1))] []))
        refine Fin.st (fun _ => XS.iload X212.here hx rfl (Jvm.hb hby at_134) rfl) ?_
        show Fin p e below s _ _ _ (T212.setTop (mkF m 136 #[.val (.int p1), .val (.long q2), .second, .val (.long q3), .second, .val (.long q4), .second, .val (.int p5), .val (.ref b184), .val (.ref b189), .val (.int b), .val (.ref b198), .val (.int (1 : Int32)), .val (.int r), .val (.int (r + 1))] [(.int (r + 1))]))
        refine Fin.st (fun _ => XS.iload X212.here hx rfl (Jvm.hb hby at_136) rfl) ?_
        show Fin p e below s _ _ _ (T212.setTop (mkF m 138 #[.val (.int p1), .val (.long q2), .second, .val (.long q3), .second, .val (.long q4), .second, .val (.int p5), .val (.ref b184), .val (.ref b189), .val (.int b), .val (.ref b198), .val (.int (1 : Int32)), .val (.int r), .val (.int (r + 1))] [(.int (1 : Int32)), (.int (r + 1))]))
        refine Fin.st (fun _ => XS.iload X212.here hx rfl (Jvm.hb hby at_138) rfl) ?_
        show Fin p e below s _ _ _ (T212.setTop (mkF m 140 #[.val (.int p1), .val (.long q2), .second, .val (.long q3), .second, .val (.long q4), .second, .val (.int p5), .val (.ref b184), .val (.ref b189), .val (.int b), .val (.ref b198), .val (.int (1 : Int32)), .val (.int r), .val (.int (r + 1))] [(.int r), (.int (1 : Int32)), (.int (r + 1))]))
        refine Fin.st (fun _ => XS.iadd X212.here hx rfl (Jvm.hb hby at_140) rfl) ?_
        show Fin p e below s _ _ _ (T212.setTop (mkF m 141 #[.val (.int p1), .val (.long q2), .second, .val (.long q3), .second, .val (.long q4), .second, .val (.int p5), .val (.ref b184), .val (.ref b189), .val (.int b), .val (.ref b198), .val (.int (1 : Int32)), .val (.int r), .val (.int (r + 1))] [(.int ((1 : Int32) + r)), (.int (r + 1))]))
        refine Fin.st (fun _ => XS.icmpNo X212.here hx rfl (Jvm.hb hby at_141) rfl (ineN (Int32.add_comm r 1))) ?_
        show Fin p e below s _ _ _ (T212.setTop (mkF m 144 #[.val (.int p1), .val (.long q2), .second, .val (.long q3), .second, .val (.long q4), .second, .val (.int p5), .val (.ref b184), .val (.ref b189), .val (.int b), .val (.ref b198), .val (.int (1 : Int32)), .val (.int r), .val (.int (r + 1))] []))
        refine Fin.st (fun _ => XS.aload X212.here hx rfl (Jvm.hb hby at_144) rfl rfl) ?_
        show Fin p e below s _ _ _ (T212.setTop (mkF m 146 #[.val (.int p1), .val (.long q2), .second, .val (.long q3), .second, .val (.long q4), .second, .val (.int p5), .val (.ref b184), .val (.ref b189), .val (.int b), .val (.ref b198), .val (.int (1 : Int32)), .val (.int r), .val (.int (r + 1))] [(.ref b198)]))
        obtain ⟨_, T213, h213, L213, X213, e213, ⟨rfl, rfl, q213⟩, st213⟩ := goV X212 hx hZ hown (hw _ (List.mem_of_getElem? (i := 69) rfl)) (hw _ (List.mem_of_getElem? (i := 70) rfl)) (hw _ (List.mem_of_getElem? (i := 72) rfl)) (notFace_of_selects (args := #[]) (mvT hZ (hw _ (List.mem_of_getElem? (i := 72) rfl)))) (hw _ (List.mem_of_getElem? (i := 71) rfl)) (by decide) ((rm_token l Z a0 hw [] b198 b189 h211 n0 O211 G211_3 ).pay (W := 0) hZ (hw _ (List.mem_of_getElem? (i := 73) rfl)) (hw _ (List.mem_of_getElem? (i := 32) rfl)) (by decide) (by decide)) e212 G211_0 (g := (mkF m 146 #[.val (.int p1), .val (.long q2), .second, .val (.long q3), .second, .val (.long q4), .second, .val (.int p5), .val (.ref b184), .val (.ref b189), .val (.int b), .val (.ref b198), .val (.int (1 : Int32)), .val (.int r), .val (.int (r + 1))] [(.ref b198)])) rfl (by rw [hml]; rfl) [] [] (lenOf pd_4 rfl) rfl (by show 2 * 0 + _ ≤ _; exact Nat.le_of_eq rfl) (Jvm.hb hby at_146) rfl (by decide) (by decide)
        have e213 := e213.trans q213
        have N213 := N212.app (Fr.nil n0)
        refine Fin.st st213 ?_
        show Fin p e below s _ _ _ (T213.setTop (mkF m 149 #[.val (.int p1), .val (.long q2), .second, .val (.long q3), .second, .val (.long q4), .second, .val (.int p5), .val (.ref b184), .val (.ref b189), .val (.int b), .val (.ref b198), .val (.int (1 : Int32)), .val (.int r), .val (.int (r + 1))] [(.ref b189)]))
        refine Fin.st (fun _ => XS.aload X213.here hx rfl (Jvm.hb hby at_149) rfl rfl) ?_
        show Fin p e below s _ _ _ (T213.setTop (mkF m 151 #[.val (.int p1), .val (.long q2), .second, .val (.long q3), .second, .val (.long q4), .second, .val (.int p5), .val (.ref b184), .val (.ref b189), .val (.int b), .val (.ref b198), .val (.int (1 : Int32)), .val (.int r), .val (.int (r + 1))] [(.ref b189), (.ref b189)]))
        obtain ⟨_, T214, h214, L214, X214, e214, ⟨rfl, rfl, q214⟩, st214⟩ := goV X213 hx hZ hown (hw _ (List.mem_of_getElem? (i := 74) rfl)) (hw _ (List.mem_of_getElem? (i := 75) rfl)) (hw _ (List.mem_of_getElem? (i := 77) rfl)) (notFace_of_selects (args := #[]) (mvT hZ (hw _ (List.mem_of_getElem? (i := 77) rfl)))) (hw _ (List.mem_of_getElem? (i := 76) rfl)) (by decide) ((rmEq l Z a0 hw [] b189 h211 n0 O211).pay (W := 0) hZ (hw _ (List.mem_of_getElem? (i := 78) rfl)) (hw _ (List.mem_of_getElem? (i := 3) rfl)) (by decide) (by decide)) e213 G211_1 (g := (mkF m 151 #[.val (.int p1), .val (.long q2), .second, .val (.long q3), .second, .val (.long q4), .second, .val (.int p5), .val (.ref b184), .val (.ref b189), .val (.int b), .val (.ref b198), .val (.int (1 : Int32)), .val (.int r), .val (.int (r + 1))] [(.ref b189), (.ref b189)])) rfl (by rw [hml]; rfl) [(.ref b189)] [] (lenOf pd_5 rfl) rfl (by show 2 * 0 + _ ≤ _; exact Nat.le_of_eq rfl) (Jvm.hb hby at_151) rfl (by decide) (by decide)
        have e214 := e214.trans q214
        have N214 := N213.app (Fr.nil n0)
        refine Fin.st st214 ?_
        show Fin p e below s _ _ _ (T214.setTop (mkF m 154 #[.val (.int p1), .val (.long q2), .second, .val (.long q3), .second, .val (.long q4), .second, .val (.int p5), .val (.ref b184), .val (.ref b189), .val (.int b), .val (.ref b198), .val (.int (1 : Int32)), .val (.int r), .val (.int (r + 1))] [(.int (1 : Int32))]))
        refine Fin.st (fun _ => XS.ifNo X214.here hx rfl (Jvm.hb hby at_154) rfl (zeqN (by decide))) ?_
        show Fin p e below s _ _ _ (T214.setTop (mkF m 157 #[.val (.int p1), .val (.long q2), .second, .val (.long q3), .second, .val (.long q4), .second, .val (.int p5), .val (.ref b184), .val (.ref b189), .val (.int b), .val (.ref b198), .val (.int (1 : Int32)), .val (.int r), .val (.int (r + 1))] []))
        refine Fin.st (fun _ => XS.aload X214.here hx rfl (Jvm.hb hby at_157) rfl rfl) ?_
        show Fin p e below s _ _ _ (T214.setTop (mkF m 159 #[.val (.int p1), .val (.long q2), .second, .val (.long q3), .second, .val (.long q4), .second, .val (.int p5), .val (.ref b184), .val (.ref b189), .val (.int b), .val (.ref b198), .val (.int (1 : Int32)), .val (.int r), .val (.int (r + 1))] [(.ref b198)]))
        obtain ⟨_, T215, h215, L215, X215, e215, ⟨rfl, rfl, q215⟩, st215⟩ := goV X214 hx hZ hown (hw _ (List.mem_of_getElem? (i := 79) rfl)) (hw _ (List.mem_of_getElem? (i := 80) rfl)) (hw _ (List.mem_of_getElem? (i := 82) rfl)) (notFace_of_selects (args := #[]) (mvT hZ (hw _ (List.mem_of_getElem? (i := 82) rfl)))) (hw _ (List.mem_of_getElem? (i := 81) rfl)) (by decide) ((rm_leaseMillis l Z a0 hw [] b198 q3 h211 n0 O211 G211_4 ).pay (W := 0) hZ (hw _ (List.mem_of_getElem? (i := 83) rfl)) (hw _ (List.mem_of_getElem? (i := 32) rfl)) (by decide) (by decide)) e214 G211_0 (g := (mkF m 159 #[.val (.int p1), .val (.long q2), .second, .val (.long q3), .second, .val (.long q4), .second, .val (.int p5), .val (.ref b184), .val (.ref b189), .val (.int b), .val (.ref b198), .val (.int (1 : Int32)), .val (.int r), .val (.int (r + 1))] [(.ref b198)])) rfl (by rw [hml]; rfl) [] [] (lenOf pd_6 rfl) rfl (by show 2 * 0 + _ ≤ _; exact Nat.le_of_eq rfl) (Jvm.hb hby at_159) rfl (by decide) (by decide)
        have e215 := e215.trans q215
        have N215 := N214.app (Fr.nil n0)
        refine Fin.st st215 ?_
        show Fin p e below s _ _ _ (T215.setTop (mkF m 162 #[.val (.int p1), .val (.long q2), .second, .val (.long q3), .second, .val (.long q4), .second, .val (.int p5), .val (.ref b184), .val (.ref b189), .val (.int b), .val (.ref b198), .val (.int (1 : Int32)), .val (.int r), .val (.int (r + 1))] [(.long q3)]))
        refine Fin.st (fun _ => XS.lloadN X215.here hx rfl (Jvm.hb hby at_162) rfl) ?_
        show Fin p e below s _ _ _ (T215.setTop (mkF m 163 #[.val (.int p1), .val (.long q2), .second, .val (.long q3), .second, .val (.long q4), .second, .val (.int p5), .val (.ref b184), .val (.ref b189), .val (.int b), .val (.ref b198), .val (.int (1 : Int32)), .val (.int r), .val (.int (r + 1))] [(.long q3), (.long q3)]))
        refine Fin.st (fun _ => XS.lcmp X215.here hx rfl (Jvm.hb hby at_163) rfl) ?_
        show Fin p e below s _ _ _ (T215.setTop (mkF m 164 #[.val (.int p1), .val (.long q2), .second, .val (.long q3), .second, .val (.long q4), .second, .val (.int p5), .val (.ref b184), .val (.ref b189), .val (.int b), .val (.ref b198), .val (.int (1 : Int32)), .val (.int r), .val (.int (r + 1))] [(.int (lcmpW q3 q3))]))
        refine Fin.st (fun _ => XS.ifNo X215.here hx rfl (Jvm.hb hby at_164) rfl (zneN ((lw_eq q3 q3).mpr rfl))) ?_
        show Fin p e below s _ _ _ (T215.setTop (mkF m 167 #[.val (.int p1), .val (.long q2), .second, .val (.long q3), .second, .val (.long q4), .second, .val (.int p5), .val (.ref b184), .val (.ref b189), .val (.int b), .val (.ref b198), .val (.int (1 : Int32)), .val (.int r), .val (.int (r + 1))] []))
        refine Fin.st (fun _ => XS.aload X215.here hx rfl (Jvm.hb hby at_167) rfl rfl) ?_
        show Fin p e below s _ _ _ (T215.setTop (mkF m 169 #[.val (.int p1), .val (.long q2), .second, .val (.long q3), .second, .val (.long q4), .second, .val (.int p5), .val (.ref b184), .val (.ref b189), .val (.int b), .val (.ref b198), .val (.int (1 : Int32)), .val (.int r), .val (.int (r + 1))] [(.ref b198)]))
        obtain ⟨_, T216, h216, L216, X216, e216, ⟨rfl, rfl, q216⟩, st216⟩ := goV X215 hx hZ hown (hw _ (List.mem_of_getElem? (i := 84) rfl)) (hw _ (List.mem_of_getElem? (i := 85) rfl)) (hw _ (List.mem_of_getElem? (i := 87) rfl)) (notFace_of_selects (args := #[]) (mvT hZ (hw _ (List.mem_of_getElem? (i := 87) rfl)))) (hw _ (List.mem_of_getElem? (i := 86) rfl)) (by decide) ((rm_renewed l Z a0 hw [] b198 b h211 n0 O211 G211_5 hb).pay (W := 0) hZ (hw _ (List.mem_of_getElem? (i := 88) rfl)) (hw _ (List.mem_of_getElem? (i := 32) rfl)) (by decide) (by decide)) e215 G211_0 (g := (mkF m 169 #[.val (.int p1), .val (.long q2), .second, .val (.long q3), .second, .val (.long q4), .second, .val (.int p5), .val (.ref b184), .val (.ref b189), .val (.int b), .val (.ref b198), .val (.int (1 : Int32)), .val (.int r), .val (.int (r + 1))] [(.ref b198)])) rfl (by rw [hml]; rfl) [] [] (lenOf pd_7 rfl) rfl (by show 2 * 0 + _ ≤ _; exact Nat.le_of_eq rfl) (Jvm.hb hby at_169) rfl (by decide) (by decide)
        have e216 := e216.trans q216
        have N216 := N215.app (Fr.nil n0)
        refine Fin.st st216 ?_
        show Fin p e below s _ _ _ (T216.setTop (mkF m 172 #[.val (.int p1), .val (.long q2), .second, .val (.long q3), .second, .val (.long q4), .second, .val (.int p5), .val (.ref b184), .val (.ref b189), .val (.int b), .val (.ref b198), .val (.int (1 : Int32)), .val (.int r), .val (.int (r + 1))] [(.int b)]))
        refine Fin.st (fun _ => XS.iload X216.here hx rfl (Jvm.hb hby at_172) rfl) ?_
        show Fin p e below s _ _ _ (T216.setTop (mkF m 174 #[.val (.int p1), .val (.long q2), .second, .val (.long q3), .second, .val (.long q4), .second, .val (.int p5), .val (.ref b184), .val (.ref b189), .val (.int b), .val (.ref b198), .val (.int (1 : Int32)), .val (.int r), .val (.int (r + 1))] [(.int b), (.int b)]))
        refine Fin.st (fun _ => XS.icmpNo X216.here hx rfl (Jvm.hb hby at_174) rfl (ineN rfl)) ?_
        show Fin p e below s _ _ _ (T216.setTop (mkF m 177 #[.val (.int p1), .val (.long q2), .second, .val (.long q3), .second, .val (.long q4), .second, .val (.int p5), .val (.ref b184), .val (.ref b189), .val (.int b), .val (.ref b198), .val (.int (1 : Int32)), .val (.int r), .val (.int (r + 1))] []))
        refine Fin.st (fun _ => XS.aload X216.here hx rfl (Jvm.hb hby at_177) rfl rfl) ?_
        show Fin p e below s _ _ _ (T216.setTop (mkF m 179 #[.val (.int p1), .val (.long q2), .second, .val (.long q3), .second, .val (.long q4), .second, .val (.int p5), .val (.ref b184), .val (.ref b189), .val (.int b), .val (.ref b198), .val (.int (1 : Int32)), .val (.int r), .val (.int (r + 1))] [(.ref b198)]))
        obtain ⟨_, T217, h217, L217, X217, e217, ⟨rfl, rfl, q217⟩, st217⟩ := goV X216 hx hZ hown (hw _ (List.mem_of_getElem? (i := 89) rfl)) (hw _ (List.mem_of_getElem? (i := 90) rfl)) (hw _ (List.mem_of_getElem? (i := 92) rfl)) (notFace_of_selects (args := #[]) (mvT hZ (hw _ (List.mem_of_getElem? (i := 92) rfl)))) (hw _ (List.mem_of_getElem? (i := 91) rfl)) (by decide) ((rm_unconfirmed l Z a0 hw [] b198  h211 n0 O211 G211_6 ).pay (W := 0) hZ (hw _ (List.mem_of_getElem? (i := 93) rfl)) (hw _ (List.mem_of_getElem? (i := 32) rfl)) (by decide) (by decide)) e216 G211_0 (g := (mkF m 179 #[.val (.int p1), .val (.long q2), .second, .val (.long q3), .second, .val (.long q4), .second, .val (.int p5), .val (.ref b184), .val (.ref b189), .val (.int b), .val (.ref b198), .val (.int (1 : Int32)), .val (.int r), .val (.int (r + 1))] [(.ref b198)])) rfl (by rw [hml]; rfl) [] [] (lenOf pd_7 rfl) rfl (by show 2 * 0 + _ ≤ _; exact Nat.le_of_eq rfl) (Jvm.hb hby at_179) rfl (by decide) (by decide)
        have e217 := e217.trans q217
        have N217 := N216.app (Fr.nil n0)
        refine Fin.st st217 ?_
        show Fin p e below s _ _ _ (T217.setTop (mkF m 182 #[.val (.int p1), .val (.long q2), .second, .val (.long q3), .second, .val (.long q4), .second, .val (.int p5), .val (.ref b184), .val (.ref b189), .val (.int b), .val (.ref b198), .val (.int (1 : Int32)), .val (.int r), .val (.int (r + 1))] [(.int (0 : Int32))]))
        refine Fin.st (fun _ => XS.ifNo X217.here hx rfl (Jvm.hb hby at_182) rfl (zneN rfl)) ?_
        show Fin p e below s _ _ _ (T217.setTop (mkF m 185 #[.val (.int p1), .val (.long q2), .second, .val (.long q3), .second, .val (.long q4), .second, .val (.int p5), .val (.ref b184), .val (.ref b189), .val (.int b), .val (.ref b198), .val (.int (1 : Int32)), .val (.int r), .val (.int (r + 1))] []))
        refine Fin.st (fun _ => XS.iconst X217.here hx rfl (Jvm.hb hby at_185)) ?_
        show Fin p e below s _ _ _ (T217.setTop (mkF m 186 #[.val (.int p1), .val (.long q2), .second, .val (.long q3), .second, .val (.long q4), .second, .val (.int p5), .val (.ref b184), .val (.ref b189), .val (.int b), .val (.ref b198), .val (.int (1 : Int32)), .val (.int r), .val (.int (r + 1))] [(.int (1 : Int32))]))
        refine Fin.st (fun _ => XS.goto X217.here hx rfl (pc0 := 186) (pc' := 190) rfl (Jvm.hb hby at_186) (by decide) (by decide)) ?_
        show Fin p e below s _ _ _ (T217.setTop (mkF m 190 #[.val (.int p1), .val (.long q2), .second, .val (.long q3), .second, .val (.long q4), .second, .val (.int p5), .val (.ref b184), .val (.ref b189), .val (.int b), .val (.ref b198), .val (.int (1 : Int32)), .val (.int r), .val (.int (r + 1))] [(.int (1 : Int32))]))
        exact finN X217 hx hlk hret (t := .boolean) (by simp) (Jvm.hb hby at_190) e217 ⟨rfl, N217⟩ (by decide) (by decide)
      intro j121
      by_cases hc107 : (p5 &&& (2 : Int32)) = (0 : Int32)
      · skip
        refine Fin.st (fun _ => XS.ifYes X210.here hx rfl (pc0 := 107) (pc' := 121) rfl (Jvm.hb hby at_107) rfl (zeq hc107) (by decide) (by decide)) ?_
        show Fin p e below s _ _ _ (T210.setTop (mkF m 121 #[.val (.int p1), .val (.long q2), .second, .val (.long q3), .second, .val (.long q4), .second, .val (.int p5), .val (.ref b184), .val (.ref b189), .val (.int b), .val (.ref b198), .val (.int (1 : Int32)), .val (.int r), .unset] []))
        exact j121 r _ _ _ ⟨X210.more (by decide) (by decide), e210, N210, O210, (hr.imp id Or.inl), G210_0, G210_1, G210_2, G210_3, G210_4, G210_5, G210_6⟩
      · skip
        refine Fin.st (fun _ => XS.ifNo X210.here hx rfl (Jvm.hb hby at_107) rfl (zeqN hc107)) ?_
        show Fin p e below s _ _ _ (T210.setTop (mkF m 110 #[.val (.int p1), .val (.long q2), .second, .val (.long q3), .second, .val (.long q4), .second, .val (.int p5), .val (.ref b184), .val (.ref b189), .val (.int b), .val (.ref b198), .val (.int (1 : Int32)), .val (.int r), .unset] []))
        refine Fin.st (fun _ => XS.aload X210.here hx rfl (Jvm.hb hby at_110) rfl rfl) ?_
        show Fin p e below s _ _ _ (T210.setTop (mkF m 112 #[.val (.int p1), .val (.long q2), .second, .val (.long q3), .second, .val (.long q4), .second, .val (.int p5), .val (.ref b184), .val (.ref b189), .val (.int b), .val (.ref b198), .val (.int (1 : Int32)), .val (.int r), .unset] [(.ref b198)]))
        obtain ⟨_, T218, h218, L218, X218, e218, ⟨rfl, Nq218, K218, E218, F218_holdCount, F218_token, F218_leaseMillis, F218_renewed, F218_unconfirmed⟩, st218⟩ := goV X210 hx hZ hown (hw _ (List.mem_of_getElem? (i := 63) rfl)) (hw _ (List.mem_of_getElem? (i := 64) rfl)) (hw _ (List.mem_of_getElem? (i := 66) rfl)) (notFace_of_selects (args := #[]) (mvT hZ (hw _ (List.mem_of_getElem? (i := 66) rfl)))) (hw _ (List.mem_of_getElem? (i := 65) rfl)) (by decide) ((rmRe l Z a0 hw [] b198 b189 (r + 1) q3 b h210 n0 O210 G210_0 ge198 (by rcases hr with rfl | rfl <;> decide) G210_2 G210_3 G210_4 G210_5 G210_6).pay (W := 0) hZ (hw _ (List.mem_of_getElem? (i := 67) rfl)) (hw _ (List.mem_of_getElem? (i := 32) rfl)) (by decide) (by decide)) e210 G210_0 (g := (mkF m 112 #[.val (.int p1), .val (.long q2), .second, .val (.long q3), .second, .val (.long q4), .second, .val (.int p5), .val (.ref b184), .val (.ref b189), .val (.int b), .val (.ref b198), .val (.int (1 : Int32)), .val (.int r), .unset] [(.ref b198)])) rfl (by rw [hml]; rfl) [] [] (lenOf pd_0 rfl) rfl (by show 2 * 0 + _ ≤ _; exact Nat.le_of_eq rfl) (Jvm.hb hby at_112) rfl (by decide) (by decide)
        have N218 := N210.app Nq218
        refine Fin.st st218 ?_
        show Fin p e below s _ _ _ (T218.setTop (mkF m 115 #[.val (.int p1), .val (.long q2), .second, .val (.long q3), .second, .val (.long q4), .second, .val (.int p5), .val (.ref b184), .val (.ref b189), .val (.int b), .val (.ref b198), .val (.int (1 : Int32)), .val (.int r), .unset] []))
        refine Fin.st (fun _ => XS.iload X218.here hx rfl (Jvm.hb hby at_115) rfl) ?_
        show Fin p e below s _ _ _ (T218.setTop (mkF m 117 #[.val (.int p1), .val (.long q2), .second, .val (.long q3), .second, .val (.long q4), .second, .val (.int p5), .val (.ref b184), .val (.ref b189), .val (.int b), .val (.ref b198), .val (.int (1 : Int32)), .val (.int r), .unset] [(.int r)]))
        refine Fin.st (fun _ => XS.iconst X218.here hx rfl (Jvm.hb hby at_117)) ?_
        show Fin p e below s _ _ _ (T218.setTop (mkF m 118 #[.val (.int p1), .val (.long q2), .second, .val (.long q3), .second, .val (.long q4), .second, .val (.int p5), .val (.ref b184), .val (.ref b189), .val (.int b), .val (.ref b198), .val (.int (1 : Int32)), .val (.int r), .unset] [(.int (1 : Int32)), (.int r)]))
        refine Fin.st (fun _ => XS.iadd X218.here hx rfl (Jvm.hb hby at_118) rfl) ?_
        show Fin p e below s _ _ _ (T218.setTop (mkF m 119 #[.val (.int p1), .val (.long q2), .second, .val (.long q3), .second, .val (.long q4), .second, .val (.int p5), .val (.ref b184), .val (.ref b189), .val (.int b), .val (.ref b198), .val (.int (1 : Int32)), .val (.int r), .unset] [(.int (r + (1 : Int32)))]))
        refine Fin.st (fun _ => XS.istore X218.here hx rfl (Jvm.hb hby at_119) rfl (l' := #[.val (.int p1), .val (.long q2), .second, .val (.long q3), .second, .val (.long q4), .second, .val (.int p5), .val (.ref b184), .val (.ref b189), .val (.int b), .val (.ref b198), .val (.int (1 : Int32)), .val (.int (r + (1 : Int32))), .unset]) rfl) ?_
        show Fin p e below s _ _ _ (T218.setTop (mkF m 121 #[.val (.int p1), .val (.long q2), .second, .val (.long q3), .second, .val (.long q4), .second, .val (.int p5), .val (.ref b184), .val (.ref b189), .val (.int b), .val (.ref b198), .val (.int (1 : Int32)), .val (.int (r + (1 : Int32))), .unset] []))
        have f219 := G210_1.keep K218
        have f220 := O210.keep K218 (allS ge198 all0)
        exact j121 (r + 1) _ _ _ ⟨X218.more (by decide) (by decide), e218, N218, f220, (by rcases hr with rfl | rfl <;> decide), E218, f219, F218_holdCount, F218_token, F218_leaseMillis, F218_renewed, F218_unconfirmed⟩
    intro j103
    by_cases hc89 : (p5 &&& (1 : Int32)) = (0 : Int32)
    · skip
      refine Fin.st (fun _ => XS.ifYes X209.here hx rfl (pc0 := 89) (pc' := 103) rfl (Jvm.hb hby at_89) rfl (zeq hc89) (by decide) (by decide)) ?_
      show Fin p e below s _ _ _ (T209.setTop (mkF m 103 #[.val (.int p1), .val (.long q2), .second, .val (.long q3), .second, .val (.long q4), .second, .val (.int p5), .val (.ref b184), .val (.ref b189), .val (.int b), .val (.ref b198), .val (.int (1 : Int32)), .val (.int (1 : Int32)), .unset] []))
      have f221 := f202.ext E198
      have f222 := f221.keep K206
      have f223 := f222.keep K209
      have f224 := f207.keep K209 (allS ge198 all0)
      exact j103 (1 : Int32) _ _ _ ⟨X209.more (by decide) (by decide), e209, N209, f224, (Or.inl rfl), E209, f223, F209_holdCount, F209_token, F209_leaseMillis, F209_renewed, F209_unconfirmed⟩
    · skip
      refine Fin.st (fun _ => XS.ifNo X209.here hx rfl (Jvm.hb hby at_89) rfl (zeqN hc89)) ?_
      show Fin p e below s _ _ _ (T209.setTop (mkF m 92 #[.val (.int p1), .val (.long q2), .second, .val (.long q3), .second, .val (.long q4), .second, .val (.int p5), .val (.ref b184), .val (.ref b189), .val (.int b), .val (.ref b198), .val (.int (1 : Int32)), .val (.int (1 : Int32)), .unset] []))
      refine Fin.st (fun _ => XS.aload X209.here hx rfl (Jvm.hb hby at_92) rfl rfl) ?_
      show Fin p e below s _ _ _ (T209.setTop (mkF m 94 #[.val (.int p1), .val (.long q2), .second, .val (.long q3), .second, .val (.long q4), .second, .val (.int p5), .val (.ref b184), .val (.ref b189), .val (.int b), .val (.ref b198), .val (.int (1 : Int32)), .val (.int (1 : Int32)), .unset] [(.ref b198)]))
      have f225 := f207.keep K209 (allS ge198 all0)
      obtain ⟨_, T226, h226, L226, X226, e226, ⟨rfl, Nq226, K226, E226, F226_holdCount, F226_token, F226_leaseMillis, F226_renewed, F226_unconfirmed⟩, st226⟩ := goV X209 hx hZ hown (hw _ (List.mem_of_getElem? (i := 63) rfl)) (hw _ (List.mem_of_getElem? (i := 64) rfl)) (hw _ (List.mem_of_getElem? (i := 66) rfl)) (notFace_of_selects (args := #[]) (mvT hZ (hw _ (List.mem_of_getElem? (i := 66) rfl)))) (hw _ (List.mem_of_getElem? (i := 65) rfl)) (by decide) ((rmRe l Z a0 hw [] b198 b189 ((1 : Int32) + 1) q3 b h209 n0 f225 E209 ge198 (by decide) F209_holdCount F209_token F209_leaseMillis F209_renewed F209_unconfirmed).pay (W := 0) hZ (hw _ (List.mem_of_getElem? (i := 67) rfl)) (hw _ (List.mem_of_getElem? (i := 32) rfl)) (by decide) (by decide)) e209 E209 (g := (mkF m 94 #[.val (.int p1), .val (.long q2), .second, .val (.long q3), .second, .val (.long q4), .second, .val (.int p5), .val (.ref b184), .val (.ref b189), .val (.int b), .val (.ref b198), .val (.int (1 : Int32)), .val (.int (1 : Int32)), .unset] [(.ref b198)])) rfl (by rw [hml]; rfl) [] [] (lenOf pd_0 rfl) rfl (by show 2 * 0 + _ ≤ _; exact Nat.le_of_eq rfl) (Jvm.hb hby at_94) rfl (by decide) (by decide)
      have N226 := N209.app Nq226
      refine Fin.st st226 ?_
      show Fin p e below s _ _ _ (T226.setTop (mkF m 97 #[.val (.int p1), .val (.long q2), .second, .val (.long q3), .second, .val (.long q4), .second, .val (.int p5), .val (.ref b184), .val (.ref b189), .val (.int b), .val (.ref b198), .val (.int (1 : Int32)), .val (.int (1 : Int32)), .unset] []))
      refine Fin.st (fun _ => XS.iload X226.here hx rfl (Jvm.hb hby at_97) rfl) ?_
      show Fin p e below s _ _ _ (T226.setTop (mkF m 99 #[.val (.int p1), .val (.long q2), .second, .val (.long q3), .second, .val (.long q4), .second, .val (.int p5), .val (.ref b184), .val (.ref b189), .val (.int b), .val (.ref b198), .val (.int (1 : Int32)), .val (.int (1 : Int32)), .unset] [(.int (1 : Int32))]))
      refine Fin.st (fun _ => XS.iconst X226.here hx rfl (Jvm.hb hby at_99)) ?_
      show Fin p e below s _ _ _ (T226.setTop (mkF m 100 #[.val (.int p1), .val (.long q2), .second, .val (.long q3), .second, .val (.long q4), .second, .val (.int p5), .val (.ref b184), .val (.ref b189), .val (.int b), .val (.ref b198), .val (.int (1 : Int32)), .val (.int (1 : Int32)), .unset] [(.int (1 : Int32)), (.int (1 : Int32))]))
      refine Fin.st (fun _ => XS.iadd X226.here hx rfl (Jvm.hb hby at_100) rfl) ?_
      show Fin p e below s _ _ _ (T226.setTop (mkF m 101 #[.val (.int p1), .val (.long q2), .second, .val (.long q3), .second, .val (.long q4), .second, .val (.int p5), .val (.ref b184), .val (.ref b189), .val (.int b), .val (.ref b198), .val (.int (1 : Int32)), .val (.int (1 : Int32)), .unset] [(.int ((1 : Int32) + (1 : Int32)))]))
      refine Fin.st (fun _ => XS.istore X226.here hx rfl (Jvm.hb hby at_101) rfl (l' := #[.val (.int p1), .val (.long q2), .second, .val (.long q3), .second, .val (.long q4), .second, .val (.int p5), .val (.ref b184), .val (.ref b189), .val (.int b), .val (.ref b198), .val (.int (1 : Int32)), .val (.int ((1 : Int32) + (1 : Int32))), .unset]) rfl) ?_
      show Fin p e below s _ _ _ (T226.setTop (mkF m 103 #[.val (.int p1), .val (.long q2), .second, .val (.long q3), .second, .val (.long q4), .second, .val (.int p5), .val (.ref b184), .val (.ref b189), .val (.int b), .val (.ref b198), .val (.int (1 : Int32)), .val (.int ((1 : Int32) + (1 : Int32))), .unset] []))
      have f227 := f202.ext E198
      have f228 := f227.keep K206
      have f229 := f228.keep K209
      have f230 := f229.keep K226
      have f231 := f225.keep K226 (allS ge198 all0)
      exact j103 ((1 : Int32) + 1) _ _ _ ⟨X226.more (by decide) (by decide), e226, N226, f231, (Or.inr rfl), E226, f230, F226_holdCount, F226_token, F226_leaseMillis, F226_renewed, F226_unconfirmed⟩
  intro j51
  by_cases hc43 : (p5 &&& (4 : Int32)) = (0 : Int32)
  · skip
    refine Fin.st (fun _ => XS.ifYes X197.here hx rfl (pc0 := 43) (pc' := 50) rfl (Jvm.hb hby at_43) rfl (zeq hc43) (by decide) (by decide)) ?_
    show Fin p e below s _ _ _ (T197.setTop (mkF m 50 #[.val (.int p1), .val (.long q2), .second, .val (.long q3), .second, .val (.long q4), .second, .val (.int p5), .val (.ref b184), .val (.ref b189), .unset, .unset, .unset, .unset, .unset] []))
    refine Fin.st (fun _ => XS.iconst X197.here hx rfl (Jvm.hb hby at_50)) ?_
    show Fin p e below s _ _ _ (T197.setTop (mkF m 51 #[.val (.int p1), .val (.long q2), .second, .val (.long q3), .second, .val (.long q4), .second, .val (.int p5), .val (.ref b184), .val (.ref b189), .unset, .unset, .unset, .unset, .unset] [(.int (0 : Int32))]))
    exact j51 (0 : Int32) (Or.inl rfl)
  · skip
    refine Fin.st (fun _ => XS.ifNo X197.here hx rfl (Jvm.hb hby at_43) rfl (zeqN hc43)) ?_
    show Fin p e below s _ _ _ (T197.setTop (mkF m 46 #[.val (.int p1), .val (.long q2), .second, .val (.long q3), .second, .val (.long q4), .second, .val (.int p5), .val (.ref b184), .val (.ref b189), .unset, .unset, .unset, .unset, .unset] []))
    refine Fin.st (fun _ => XS.iconst X197.here hx rfl (Jvm.hb hby at_46)) ?_
    show Fin p e below s _ _ _ (T197.setTop (mkF m 47 #[.val (.int p1), .val (.long q2), .second, .val (.long q3), .second, .val (.long q4), .second, .val (.int p5), .val (.ref b184), .val (.ref b189), .unset, .unset, .unset, .unset, .unset] [(.int (1 : Int32))]))
    refine Fin.st (fun _ => XS.goto X197.here hx rfl (pc0 := 47) (pc' := 51) rfl (Jvm.hb hby at_47) (by decide) (by decide)) ?_
    show Fin p e below s _ _ _ (T197.setTop (mkF m 51 #[.val (.int p1), .val (.long q2), .second, .val (.long q3), .second, .val (.long q4), .second, .val (.int p5), .val (.ref b184), .val (.ref b189), .unset, .unset, .unset, .unset, .unset] [(.int (1 : Int32))]))
    exact j51 (1 : Int32) (Or.inr rfl)
set_option maxRecDepth 65536 in
set_option maxHeartbeats 40000000 in
theorem comes_1 {Post : Tables → Env → Array Value → State → Outcome → State → Prop} (hpost : ∀ tb e args s v u, (limb_1_1.after args s (.returned v) u = true ∧ limb_1_2.after args s (.returned v) u = true ∧ True) → FrameEnd s (.returned v) u (Jvm.fieldLocs frame_1_writes args s ++ Jvm.arrayLocs frame_1_arrays args s ++ Jvm.staticLocs frame_1_statics s) 24 128 → Post tb e args s (.returned v) u) :
    ArmFor flags0 classFile x code maxLocals ret World_1 tables_1 room_1 Calls_1 rest_1 Pre_1 Post := by
  intro l hfl _ _ p e ha hc hk s m args below hf hA hF happ hP
  obtain ⟨hcalls, hrest, hpre⟩ := hP
  obtain ⟨-, -, -, hnamed, -, -, -, hat⟩ := (Spec.applies_iff hf).mp happ
  obtain ⟨hg, hn⟩ := and_e (Cond.before_iff.mp (show (Jvm.Cond.and given_1 narrow_1).before args s = true from hpre))
  obtain ⟨h1, hg⟩ := and_e hg
  obtain ⟨g0, hg⟩ := and_e hg
  obtain ⟨g1, hg⟩ := and_e hg
  obtain ⟨g2, hg⟩ := and_e hg
  obtain ⟨g3, g4⟩ := and_e hg
  obtain ⟨w0, w1, w2, w3, w4, rfl⟩ : ∃ w0 w1 w2 w3 w4 : Value, args = #[w0, w1, w2, w3, w4] := by
    have hs : args.size = 5 := by simpa [Cond.value, given_1] using h1
    obtain ⟨L⟩ := args
    match L, hs with
    | [w0, w1, w2, w3, w4], _ => exact ⟨w0, w1, w2, w3, w4, rfl⟩
  have hw := fun d (hd : d ∈ tables_1) => atoms_spec (ws := Jvm.Cond.code x code maxLocals ret :: tables_1) hat d (List.mem_cons_of_mem _ hd)
  obtain ⟨hsets, hown0⟩ := atoms_of _ (rest_1_c_eq ▸ (show rest_1_c.before _ s = true from hrest))
  have n3 := not_v (Cond.before_iff.mp (hsets _ (List.mem_of_getElem? (i := 2) rfl)))
  obtain ⟨i0, e0⟩ := is_v g0
  obtain rfl : w0 = (.int i0) := Option.some.inj e0
  obtain ⟨i1, e1⟩ := isL_v g1
  obtain rfl : w1 = (.long i1) := Option.some.inj e1
  obtain ⟨i2, e2⟩ := isL_v g2
  obtain rfl : w2 = (.long i2) := Option.some.inj e2
  obtain ⟨i3, e3⟩ := isL_v g3
  obtain rfl : w3 = (.long i3) := Option.some.inj e3
  obtain ⟨i4, e4⟩ := is_v g4
  obtain rfl : w4 = (.int i4) := Option.some.inj e4
  obtain ⟨i7, e6⟩ := is_v (Cond.before_iff.mp (hsets _ (List.mem_of_getElem? (i := 1) rfl)))
  have S8 : Sta s s.heap "java/lang/String" "COMPACT_STRINGS" "Z" (.int i7) := Sta.start e6 (Or.inl (hsets _ (List.mem_of_getElem? (i := 0) rfl)))
  have c13 : ¬ (i7 = (0 : Int32)) := gotF (Cond.eq_ints e6 (Term.int_eval (0))) n3
  obtain ⟨n, o, h1, h2, h3, _, L, rfl, ⟨rfl, N⟩, hq⟩ := rmLaw l s _ hw tables_1 i0 i1 i2 i3 i4 i7 s.heap s.heap.size (Old.start s) S8 c13 p e ha hc hk s m _ below hf ((Spec.applies_iff_loose hf).mp happ).1 ⟨rfl, State.Warmed39.refl s, rfl⟩ trivial
  refine ⟨n, _, h1, h2, h3, hpost _ _ _ _ _ _ ⟨Cond.after_iff.mpr rfl, Cond.after_iff.mpr (eq_i res_at (Term.int_eval (1)) rfl), trivial⟩ ⟨hq.1, hq.2.1, (hq.2.2.sift fun y hy => Or.inr (N y hy)).mono (by decide) (by decide)⟩⟩
theorem main_1_1 : Claimed_1_1 := comes_1 fun _ _ _ _ _ _ h hF => ⟨h.1, hF⟩
theorem main_1_2 : Claimed_1_2 := comes_1 fun _ _ _ _ _ _ h hF => ⟨h.2.1, hF⟩
end Jvm.Pilot.@@N@@
namespace Jvm.Pilot.@@N@@
open Jvm Jvm.ClassFile Sem Op Lib Jvm.Free Jvm.Stand Jvm.Pilot.@@N@@.Jvm.D
/-! MADE BY PROGRAM (witnessworld.py) out of the Statement's table words and the real class files: 21 classes; the members and pool entries that the words name. The judged class is class 1, her method 1. -/
namespace start1
open Jvm.ClassFile
def u (s : String) : CpInfo := .utf8 (stringToUtf16 s)
/-- a pool by its gaps: so many unusable entries, then the entry; so many at the end -/
def gap : Nat → List CpInfo → List CpInfo
  | 0, r => r
  | n + 1, r => .unusable :: gap n r
def poolList (es : List (Nat × CpInfo)) (last : Nat) : List CpInfo := es.foldr (fun e r => gap e.1 (e.2 :: r)) (gap last [])
def pool (es : List (Nat × CpInfo)) (last : Nat) : Array CpInfo := ⟨poolList es last⟩
def fileOf (pool : Array CpInfo) (this : Nat) (attrs : Array Attribute := #[]) (ms : Array MethodInfo := #[]) (fl : Nat := 33) (sup : Nat := 0) (ifs : Array Nat := #[]) (fds : Array FieldInfo := #[]) : ClassFile where
  minorVersion := 0
  majorVersion := 65
  constantPool := pool
  accessFlags := fl
  thisClass := this
  superClass := sup
  interfaces := ifs
  fields := fds
  methods := ms
  attributes := attrs
def plain (name : String) (sup : Option ClassId) : Class where
  name := name
  kind := .ordinary
  loader := none
  accessFlags := 33
  super := sup
  interfaces := #[]
  cf := none
  fields := #[]
  methods := #[]
  instanceTypes := #[]
  staticTypes := #[]
  resolved := #[]
  callSites := []
  init := .initialized
  statics := none
  mirror := none

def pool0 : Array CpInfo := pool [(5, u "<init>"), (0, u "()V"), (1, .class_ 10), (1, u "java/lang/Object")] 113

def k0c0 : Code := { maxStack := 0, maxLocals := 1, code := object_method_1_code, exceptionTable := #[], attributes := #[] }
def k0m0 : Method := { name := "<init>", desc := "()V", sig := { parameters := [], returnType := none }, accessFlags := 1, code := some k0c0 }
/-- java/lang/Object -/
def k0 : Class := { plain "java/lang/Object" none with
  accessFlags := 33
  interfaces := #[]
  cf := some (fileOf pool0 8 #[] #[{ accessFlags := 1, nameIndex := 5, descriptorIndex := 6, attributes := #[] }] 33 0 #[] #[])
  fields := #[]
  methods := #[k0m0]
  instanceTypes := #[]
  staticTypes := #[]
  resolved := Array.replicate 124 none
  statics := none }

def pool1 : Array CpInfo := pool [(2, .class_ 4), (1, u "java/lang/Object"), (0, u "<init>"), (0, u "()V"), (0, .class_ 8), (0, u "java/lang/String"), (0, .methodref 7 10), (0, .nameAndType 5 11), (0, u "([C)V"), (0, .class_ 13), (0, u "com/example/klatch/klatch/Holds$Hold"), (0, .methodref 12 15), (0, .nameAndType 5 16), (0, u "(Ljava/lang/String;JJJZ)V"), (0, .methodref 12 18), (0, .nameAndType 19 20), (0, u "holdCount"), (0, u "()I"), (0, .methodref 12 22), (0, .nameAndType 23 6), (0, u "reentered"), (0, .methodref 12 25), (0, .nameAndType 26 27), (0, u "token"), (0, u "()Ljava/lang/String;"), (0, .methodref 7 29), (0, .nameAndType 30 31), (0, u "equals"), (0, u "(Ljava/lang/Object;)Z"), (0, .methodref 12 33), (0, .nameAndType 34 35), (0, u "leaseMillis"), (0, u "()J"), (0, .methodref 12 37), (0, .nameAndType 38 39), (0, u "isRenewed"), (0, u "()Z"), (0, .methodref 12 41), (0, .nameAndType 42 39), (0, u "mayOutliveLease"), (0, .class_ 44), (0, u "com/example/klatch/klatch/HoldReenteredPinLaw"), (2, u "law"), (0, u "(IJJJI)Z")] 9

def k1m0 : Method := { name := "<init>", desc := "()V", sig := { parameters := [], returnType := none }, accessFlags := 1, code := none }
def k1c1 : Code := { maxStack := 10, maxLocals := 15, code := code, exceptionTable := #[], attributes := #[] }
def k1m1 : Method := { name := "law", desc := "(IJJJI)Z", sig := { parameters := [.int, .long, .long, .long, .int], returnType := some .boolean }, accessFlags := 9, code := some k1c1 }
/-- com/example/klatch/klatch/HoldReenteredPinLaw -/
def k1 : Class := { plain "com/example/klatch/klatch/HoldReenteredPinLaw" (some 0) with
  accessFlags := 49
  interfaces := #[]
  cf := some (fileOf pool1 43 #[] #[{ accessFlags := 1, nameIndex := 5, descriptorIndex := 6, attributes := #[] }, { accessFlags := 9, nameIndex := 47, descriptorIndex := 48, attributes := #[] }] 49 2 #[] #[])
  fields := #[]
  methods := #[k1m0, k1m1]
  instanceTypes := #[]
  staticTypes := #[]
  resolved := Array.replicate 58 none
  statics := none }

def pool2 : Array CpInfo := pool [(1, .class_ 2), (0, u "java/io/Serializable"), (0, .class_ 4), (0, u "java/lang/Object")] 2

/-- java/io/Serializable -/
def k2 : Class := { plain "java/io/Serializable" (some 0) with
  accessFlags := 1537
  interfaces := #[]
  cf := some (fileOf pool2 1 #[] #[] 1537 3 #[] #[])
  fields := #[]
  methods := #[]
  instanceTypes := #[]
  staticTypes := #[]
  resolved := Array.replicate 7 none
  statics := none }

def pool3 : Array CpInfo := pool [(1, .class_ 2), (0, u "java/lang/Comparable"), (0, .class_ 4), (0, u "java/lang/Object")] 7

/-- java/lang/Comparable -/
def k3 : Class := { plain "java/lang/Comparable" (some 0) with
  accessFlags := 1537
  interfaces := #[]
  cf := some (fileOf pool3 1 #[] #[] 1537 3 #[] #[])
  fields := #[]
  methods := #[]
  instanceTypes := #[]
  staticTypes := #[]
  resolved := Array.replicate 12 none
  statics := none }

def pool4 : Array CpInfo := pool [(2, .class_ 4), (1, u "java/lang/CharSequence"), (42, .class_ 48), (0, u "java/lang/CharSequence$1CodePointIterator"), (10, .class_ 60), (0, u "java/lang/CharSequence$1CharIterator"), (5, .class_ 67), (0, u "java/lang/Object")] 63

/-- java/lang/CharSequence -/
def k4 : Class := { plain "java/lang/CharSequence" (some 0) with
  accessFlags := 1537
  interfaces := #[]
  cf := some (fileOf pool4 2 #[.nestMembers #[47, 59]] #[] 1537 66 #[] #[])
  fields := #[]
  methods := #[]
  instanceTypes := #[]
  staticTypes := #[]
  resolved := Array.replicate 131 none
  statics := none }

def pool5 : Array CpInfo := pool [(1, .class_ 2), (0, u "java/lang/constant/Constable"), (0, .class_ 4), (0, u "java/lang/Object")] 6

/-- java/lang/constant/Constable -/
def k5 : Class := { plain "java/lang/constant/Constable" (some 0) with
  accessFlags := 1537
  interfaces := #[]
  cf := some (fileOf pool5 1 #[] #[] 1537 3 #[] #[])
  fields := #[]
  methods := #[]
  instanceTypes := #[]
  staticTypes := #[]
  resolved := Array.replicate 11 none
  statics := none }

def pool6 : Array CpInfo := pool [(1, .class_ 2), (0, u "java/lang/constant/ConstantDesc"), (0, .class_ 4), (0, u "java/lang/Object")] 32

/-- java/lang/constant/ConstantDesc -/
def k6 : Class := { plain "java/lang/constant/ConstantDesc" (some 0) with
  accessFlags := 1537
  interfaces := #[]
  cf := some (fileOf pool6 1 #[] #[] 1537 3 #[] #[])
  fields := #[]
  methods := #[]
  instanceTypes := #[]
  staticTypes := #[]
  resolved := Array.replicate 37 none
  statics := none }

def pool7 : Array CpInfo := pool [(1, .methodref 2 3), (0, .class_ 4), (0, .nameAndType 5 6), (0, u "java/lang/Object"), (0, u "<init>"), (0, u "()V"), (2, .fieldref 10 11), (0, .class_ 12), (0, .nameAndType 13 14), (0, u "java/lang/String"), (0, u "value"), (0, u "[B"), (0, .fieldref 10 16), (0, .nameAndType 17 18), (0, u "coder"), (0, u "B"), (2, u "hash"), (0, u "I"), (2, u "hashIsZero"), (0, u "Z"), (0, .methodref 10 28), (0, .nameAndType 5 29), (0, u "([CIILjava/lang/Void;)V"), (8, .fieldref 10 39), (0, .nameAndType 40 26), (0, u "COMPACT_STRINGS"), (1, .class_ 44), (1, u "java/lang/StringUTF16"), (0, u "compress"), (1, .methodref 42 48), (0, .nameAndType 49 50), (0, u "coderFromArrayLen"), (0, u "([BI)B"), (126, .methodref 42 178), (0, .nameAndType 45 179), (0, u "([CII)[B"), (363, u "equals"), (29, u "(Ljava/lang/Object;)Z"), (1, .class_ 576), (0, u "java/lang/CharSequence"), (22, u "CASE_INSENSITIVE_ORDER"), (0, u "Ljava/util/Comparator;"), (409, u "([C)V"), (90, u "serialPersistentFields"), (0, u "[Ljava/io/ObjectStreamField;"), (0, .class_ 1104), (0, u "java/lang/String$CaseInsensitiveComparator"), (1, .class_ 1107), (0, u "java/io/Serializable"), (0, .class_ 1109), (0, u "java/lang/Comparable"), (0, .class_ 1111), (0, u "java/lang/constant/Constable"), (0, .class_ 1113), (0, u "java/lang/constant/ConstantDesc"), (2, u "serialVersionUID"), (0, u "J"), (3, u "REPL"), (0, u "C"), (2, u "LATIN1"), (1, u "UTF16")] 323

def k7m0 : Method := { name := "<init>", desc := "()V", sig := { parameters := [], returnType := none }, accessFlags := 1, code := none }
def k7c1 : Code := { maxStack := 5, maxLocals := 2, code := jdk_42_method_3_code, exceptionTable := #[], attributes := #[] }
def k7m1 : Method := { name := "<init>", desc := "([C)V", sig := { parameters := [(.array .char)], returnType := none }, accessFlags := 1, code := some k7c1 }
def k7c2 : Code := { maxStack := 2, maxLocals := 3, code := jdk_42_method_66_code, exceptionTable := #[], attributes := #[] }
def k7m2 : Method := { name := "equals", desc := "(Ljava/lang/Object;)Z", sig := { parameters := [(.object "java/lang/Object")], returnType := some .boolean }, accessFlags := 1, code := some k7c2 }
def k7c3 : Code := { maxStack := 4, maxLocals := 6, code := jdk_42_method_149_code, exceptionTable := #[], attributes := #[] }
def k7m3 : Method := { name := "<init>", desc := "([CIILjava/lang/Void;)V", sig := { parameters := [(.array .char), .int, .int, (.object "java/lang/Void")], returnType := none }, accessFlags := 2, code := some k7c3 }
/-- java/lang/String -/
def k7 : Class := { plain "java/lang/String" (some 0) with
  accessFlags := 49
  interfaces := #[2, 3, 4, 5, 6]
  cf := some (fileOf pool7 10 #[.nestMembers #[1103]] #[{ accessFlags := 1, nameIndex := 5, descriptorIndex := 6, attributes := #[] }, { accessFlags := 1, nameIndex := 5, descriptorIndex := 1010, attributes := #[] }, { accessFlags := 1, nameIndex := 543, descriptorIndex := 573, attributes := #[] }, { accessFlags := 2, nameIndex := 5, descriptorIndex := 29, attributes := #[] }] 49 2 #[1106, 1108, 575, 1110, 1112] #[{ accessFlags := 18, nameIndex := 13, descriptorIndex := 14, attributes := #[] }, { accessFlags := 18, nameIndex := 17, descriptorIndex := 18, attributes := #[] }, { accessFlags := 2, nameIndex := 21, descriptorIndex := 22, attributes := #[] }, { accessFlags := 2, nameIndex := 25, descriptorIndex := 26, attributes := #[] }, { accessFlags := 26, nameIndex := 1116, descriptorIndex := 1117, attributes := #[] }, { accessFlags := 24, nameIndex := 40, descriptorIndex := 26, attributes := #[] }, { accessFlags := 26, nameIndex := 1101, descriptorIndex := 1102, attributes := #[] }, { accessFlags := 26, nameIndex := 1121, descriptorIndex := 1122, attributes := #[] }, { accessFlags := 25, nameIndex := 599, descriptorIndex := 600, attributes := #[] }, { accessFlags := 24, nameIndex := 1125, descriptorIndex := 18, attributes := #[] }, { accessFlags := 24, nameIndex := 1127, descriptorIndex := 18, attributes := #[] }])
  fields := #[{ name := "value", type := (.array .byte), accessFlags := 18, slot := 0, constantValue := 0 }, { name := "coder", type := .byte, accessFlags := 18, slot := 1, constantValue := 0 }, { name := "hash", type := .int, accessFlags := 2, slot := 2, constantValue := 0 }, { name := "hashIsZero", type := .boolean, accessFlags := 2, slot := 3, constantValue := 0 }, { name := "serialVersionUID", type := .long, accessFlags := 26, slot := 0, constantValue := 0 }, { name := "COMPACT_STRINGS", type := .boolean, accessFlags := 24, slot := 1, constantValue := 0 }, { name := "serialPersistentFields", type := (.array (.object "java/io/ObjectStreamField")), accessFlags := 26, slot := 2, constantValue := 0 }, { name := "REPL", type := .char, accessFlags := 26, slot := 3, constantValue := 0 }, { name := "CASE_INSENSITIVE_ORDER", type := (.object "java/util/Comparator"), accessFlags := 25, slot := 4, constantValue := 0 }, { name := "LATIN1", type := .byte, accessFlags := 24, slot := 5, constantValue := 0 }, { name := "UTF16", type := .byte, accessFlags := 24, slot := 6, constantValue := 0 }]
  methods := #[k7m0, k7m1, k7m2, k7m3]
  instanceTypes := #[(.array .byte), .byte, .int, .boolean]
  staticTypes := #[.long, .boolean, (.array (.object "java/io/ObjectStreamField")), .char, (.object "java/util/Comparator"), .byte, .byte]
  resolved := Array.replicate 1451 none
  statics := some 0 }

def pool8 : Array CpInfo := pool [(6, .class_ 8), (1, u "java/lang/Object"), (0, u "<init>"), (0, u "()V"), (1, .class_ 14), (1, u "java/lang/StringUTF16"), (31, u "$assertionsDisabled"), (0, u "Z"), (13, u "HI_BYTE_SHIFT"), (0, u "I"), (2, u "LO_BYTE_SHIFT"), (49, .methodref 12 116), (0, .nameAndType 117 118), (0, u "compress"), (0, u "([CI[BII)I"), (3, u "([CII)[B"), (138, u "coderFromArrayLen"), (0, u "([BI)B"), (106, .class_ 371), (1, u "java/lang/StringUTF16$LinesSpliterator"), (58, u "MAX_LENGTH"), (196, .class_ 628), (0, u "java/lang/StringUTF16$CodePointsSpliterator"), (0, .class_ 630), (0, u "java/lang/StringUTF16$CharsSpliterator")] 4

def k8m0 : Method := { name := "<init>", desc := "()V", sig := { parameters := [], returnType := none }, accessFlags := 0, code := none }
def k8c1 : Code := { maxStack := 2, maxLocals := 2, code := jdk_52_method_15_code, exceptionTable := #[], attributes := #[] }
def k8m1 : Method := { name := "coderFromArrayLen", desc := "([BI)B", sig := { parameters := [(.array .byte), .int], returnType := some .byte }, accessFlags := 8, code := some k8c1 }
def k8c2 : Code := { maxStack := 5, maxLocals := 6, code := jdk_52_method_16_code, exceptionTable := #[], attributes := #[] }
def k8m2 : Method := { name := "compress", desc := "([CII)[B", sig := { parameters := [(.array .char), .int, .int], returnType := some (.array .byte) }, accessFlags := 9, code := some k8c2 }
def k8c3 : Code := { maxStack := 3, maxLocals := 7, code := jdk_52_method_21_code, exceptionTable := #[], attributes := #[] }
def k8m3 : Method := { name := "compress", desc := "([CI[BII)I", sig := { parameters := [(.array .char), .int, (.array .byte), .int, .int], returnType := some .int }, accessFlags := 9, code := some k8c3 }
/-- java/lang/StringUTF16 -/
def k8 : Class := { plain "java/lang/StringUTF16" (some 0) with
  accessFlags := 48
  interfaces := #[]
  cf := some (fileOf pool8 12 #[.nestMembers #[627, 629, 369]] #[{ accessFlags := 0, nameIndex := 9, descriptorIndex := 10, attributes := #[] }, { accessFlags := 8, nameIndex := 261, descriptorIndex := 262, attributes := #[] }, { accessFlags := 9, nameIndex := 117, descriptorIndex := 122, attributes := #[] }, { accessFlags := 9, nameIndex := 117, descriptorIndex := 118, attributes := #[] }] 48 6 #[] #[{ accessFlags := 26, nameIndex := 61, descriptorIndex := 62, attributes := #[] }, { accessFlags := 26, nameIndex := 65, descriptorIndex := 62, attributes := #[] }, { accessFlags := 24, nameIndex := 430, descriptorIndex := 62, attributes := #[] }, { accessFlags := 4120, nameIndex := 46, descriptorIndex := 47, attributes := #[] }])
  fields := #[{ name := "HI_BYTE_SHIFT", type := .int, accessFlags := 26, slot := 0, constantValue := 0 }, { name := "LO_BYTE_SHIFT", type := .int, accessFlags := 26, slot := 1, constantValue := 0 }, { name := "MAX_LENGTH", type := .int, accessFlags := 24, slot := 2, constantValue := 0 }, { name := "$assertionsDisabled", type := .boolean, accessFlags := 4120, slot := 3, constantValue := 0 }]
  methods := #[k8m0, k8m1, k8m2, k8m3]
  instanceTypes := #[]
  staticTypes := #[.int, .int, .int, .boolean]
  resolved := Array.replicate 635 none
  statics := none }

def pool9 : Array CpInfo := pool [(1, .methodref 2 3), (0, .class_ 4), (0, .nameAndType 5 6), (0, u "java/lang/Object"), (0, u "<init>"), (0, u "()V"), (0, .class_ 8), (0, u "java/util/concurrent/atomic/AtomicBoolean"), (0, .methodref 7 3), (0, .fieldref 11 12), (0, .class_ 13), (0, .nameAndType 14 15), (0, u "com/example/klatch/klatch/Holds$Hold"), (0, u "ended"), (0, u "Ljava/util/concurrent/atomic/AtomicBoolean;"), (0, .fieldref 11 17), (0, .nameAndType 18 19), (0, u "holdCount"), (0, u "I"), (0, .fieldref 11 21), (0, .nameAndType 22 23), (0, u "token"), (0, u "Ljava/lang/String;"), (0, .fieldref 11 25), (0, .nameAndType 26 27), (0, u "leaseMillis"), (0, u "J"), (0, .fieldref 11 29), (0, .nameAndType 30 27), (0, u "validNanos"), (0, .fieldref 11 32), (0, .nameAndType 33 34), (0, u "renewed"), (0, u "Z"), (0, .fieldref 11 36), (0, .nameAndType 37 27), (0, u "leaseStartNanos"), (2, .integer 2147483647), (10, u "()Z"), (8, u "()J"), (0, .fieldref 11 62), (0, .nameAndType 63 34), (0, u "unconfirmed"), (2, u "stopRenewal"), (0, u "Ljava/lang/Runnable;"), (9, u "(Ljava/lang/String;JJJZ)V"), (2, u "()Ljava/lang/String;"), (0, u "isRenewed"), (0, u "()I"), (0, u "reentered"), (6, u "mayOutliveLease"), (6, .class_ 98), (0, u "com/example/klatch/klatch/Holds")] 2

def k9c0 : Code := { maxStack := 3, maxLocals := 9, code := prog_3_method_1_code, exceptionTable := #[], attributes := #[] }
def k9m0 : Method := { name := "<init>", desc := "(Ljava/lang/String;JJJZ)V", sig := { parameters := [(.object "java/lang/String"), .long, .long, .long, .boolean], returnType := none }, accessFlags := 0, code := some k9c0 }
def k9c1 : Code := { maxStack := 1, maxLocals := 1, code := prog_3_method_2_code, exceptionTable := #[], attributes := #[] }
def k9m1 : Method := { name := "token", desc := "()Ljava/lang/String;", sig := { parameters := [], returnType := some (.object "java/lang/String") }, accessFlags := 0, code := some k9c1 }
def k9c2 : Code := { maxStack := 2, maxLocals := 1, code := prog_3_method_3_code, exceptionTable := #[], attributes := #[] }
def k9m2 : Method := { name := "leaseMillis", desc := "()J", sig := { parameters := [], returnType := some .long }, accessFlags := 0, code := some k9c2 }
def k9c3 : Code := { maxStack := 1, maxLocals := 1, code := prog_3_method_4_code, exceptionTable := #[], attributes := #[] }
def k9m3 : Method := { name := "isRenewed", desc := "()Z", sig := { parameters := [], returnType := some .boolean }, accessFlags := 0, code := some k9c3 }
def k9c4 : Code := { maxStack := 1, maxLocals := 1, code := prog_3_method_5_code, exceptionTable := #[], attributes := #[] }
def k9m4 : Method := { name := "holdCount", desc := "()I", sig := { parameters := [], returnType := some .int }, accessFlags := 0, code := some k9c4 }
def k9c5 : Code := { maxStack := 3, maxLocals := 1, code := prog_3_method_6_code, exceptionTable := #[], attributes := #[] }
def k9m5 : Method := { name := "reentered", desc := "()V", sig := { parameters := [], returnType := none }, accessFlags := 0, code := some k9c5 }
def k9c6 : Code := { maxStack := 1, maxLocals := 1, code := prog_3_method_12_code, exceptionTable := #[], attributes := #[] }
def k9m6 : Method := { name := "mayOutliveLease", desc := "()Z", sig := { parameters := [], returnType := some .boolean }, accessFlags := 0, code := some k9c6 }
/-- com/example/klatch/klatch/Holds$Hold -/
def k9 : Class := { plain "com/example/klatch/klatch/Holds$Hold" (some 0) with
  accessFlags := 48
  interfaces := #[]
  cf := some (fileOf pool9 11 #[.nestHost 97] #[{ accessFlags := 0, nameIndex := 5, descriptorIndex := 77, attributes := #[] }, { accessFlags := 0, nameIndex := 22, descriptorIndex := 80, attributes := #[] }, { accessFlags := 0, nameIndex := 26, descriptorIndex := 60, attributes := #[] }, { accessFlags := 0, nameIndex := 81, descriptorIndex := 51, attributes := #[] }, { accessFlags := 0, nameIndex := 18, descriptorIndex := 82, attributes := #[] }, { accessFlags := 0, nameIndex := 83, descriptorIndex := 6, attributes := #[] }, { accessFlags := 0, nameIndex := 90, descriptorIndex := 51, attributes := #[] }] 48 2 #[] #[{ accessFlags := 18, nameIndex := 22, descriptorIndex := 23, attributes := #[] }, { accessFlags := 18, nameIndex := 26, descriptorIndex := 27, attributes := #[] }, { accessFlags := 18, nameIndex := 30, descriptorIndex := 27, attributes := #[] }, { accessFlags := 18, nameIndex := 33, descriptorIndex := 34, attributes := #[] }, { accessFlags := 18, nameIndex := 14, descriptorIndex := 15, attributes := #[] }, { accessFlags := 66, nameIndex := 37, descriptorIndex := 27, attributes := #[] }, { accessFlags := 66, nameIndex := 63, descriptorIndex := 34, attributes := #[] }, { accessFlags := 66, nameIndex := 66, descriptorIndex := 67, attributes := #[] }, { accessFlags := 2, nameIndex := 18, descriptorIndex := 19, attributes := #[] }])
  fields := #[{ name := "token", type := (.object "java/lang/String"), accessFlags := 18, slot := 0, constantValue := 0 }, { name := "leaseMillis", type := .long, accessFlags := 18, slot := 1, constantValue := 0 }, { name := "validNanos", type := .long, accessFlags := 18, slot := 2, constantValue := 0 }, { name := "renewed", type := .boolean, accessFlags := 18, slot := 3, constantValue := 0 }, { name := "ended", type := (.object "java/util/concurrent/atomic/AtomicBoolean"), accessFlags := 18, slot := 4, constantValue := 0 }, { name := "leaseStartNanos", type := .long, accessFlags := 66, slot := 5, constantValue := 0 }, { name := "unconfirmed", type := .boolean, accessFlags := 66, slot := 6, constantValue := 0 }, { name := "stopRenewal", type := (.object "java/lang/Runnable"), accessFlags := 66, slot := 7, constantValue := 0 }, { name := "holdCount", type := .int, accessFlags := 2, slot := 8, constantValue := 0 }]
  methods := #[k9m0, k9m1, k9m2, k9m3, k9m4, k9m5, k9m6]
  instanceTypes := #[(.object "java/lang/String"), .long, .long, .boolean, (.object "java/util/concurrent/atomic/AtomicBoolean"), .long, .boolean, (.object "java/lang/Runnable"), .int]
  staticTypes := #[]
  resolved := Array.replicate 101 none
  statics := none }

def pool10 : Array CpInfo := pool [(1, .methodref 2 3), (0, .class_ 4), (0, .nameAndType 5 6), (0, u "java/lang/Object"), (0, u "<init>"), (0, u "()V"), (1, .class_ 10), (1, u "java/util/concurrent/atomic/AtomicBoolean"), (0, u "value"), (0, u "I"), (2, u "VALUE"), (0, u "Ljava/lang/invoke/VarHandle;"), (87, .class_ 105), (0, u "java/io/Serializable"), (0, u "serialVersionUID"), (0, u "J")] 35

def k10c0 : Code := { maxStack := 1, maxLocals := 1, code := jdk_2802_method_2_code, exceptionTable := #[], attributes := #[] }
def k10m0 : Method := { name := "<init>", desc := "()V", sig := { parameters := [], returnType := none }, accessFlags := 1, code := some k10c0 }
/-- java/util/concurrent/atomic/AtomicBoolean -/
def k10 : Class := { plain "java/util/concurrent/atomic/AtomicBoolean" (some 0) with
  accessFlags := 33
  interfaces := #[2]
  cf := some (fileOf pool10 8 #[] #[{ accessFlags := 1, nameIndex := 5, descriptorIndex := 6, attributes := #[] }] 33 2 #[104] #[{ accessFlags := 26, nameIndex := 106, descriptorIndex := 107, attributes := #[] }, { accessFlags := 26, nameIndex := 15, descriptorIndex := 16, attributes := #[] }, { accessFlags := 66, nameIndex := 11, descriptorIndex := 12, attributes := #[] }])
  fields := #[{ name := "serialVersionUID", type := .long, accessFlags := 26, slot := 0, constantValue := 0 }, { name := "VALUE", type := (.object "java/lang/invoke/VarHandle"), accessFlags := 26, slot := 1, constantValue := 0 }, { name := "value", type := .int, accessFlags := 66, slot := 0, constantValue := 0 }]
  methods := #[k10m0]
  instanceTypes := #[.int]
  staticTypes := #[.long, (.object "java/lang/invoke/VarHandle")]
  resolved := Array.replicate 143 none
  statics := none }

def pool11 : Array CpInfo := pool [(4, .class_ 6), (1, u "java/lang/Object"), (0, u "<init>"), (0, u "()V"), (5, .class_ 16), (1, u "java/lang/StringLatin1"), (104, u "$assertionsDisabled"), (0, u "Z"), (98, .class_ 223), (1, u "java/lang/StringLatin1$LinesSpliterator"), (166, .class_ 391), (0, u "java/lang/StringLatin1$CharsSpliterator")] 3

def k11m0 : Method := { name := "<init>", desc := "()V", sig := { parameters := [], returnType := none }, accessFlags := 0, code := none }
/-- java/lang/StringLatin1 -/
def k11 : Class := { plain "java/lang/StringLatin1" (some 0) with
  accessFlags := 48
  interfaces := #[]
  cf := some (fileOf pool11 14 #[.nestMembers #[390, 221]] #[{ accessFlags := 0, nameIndex := 7, descriptorIndex := 8, attributes := #[] }] 48 4 #[] #[{ accessFlags := 4120, nameIndex := 121, descriptorIndex := 122, attributes := #[] }])
  fields := #[{ name := "$assertionsDisabled", type := .boolean, accessFlags := 4120, slot := 0, constantValue := 0 }]
  methods := #[k11m0]
  instanceTypes := #[]
  staticTypes := #[.boolean]
  resolved := Array.replicate 395 none
  statics := none }

def pool12 : Array CpInfo := pool [(2, .class_ 4), (1, u "java/lang/Object"), (0, u "<init>"), (0, u "()V"), (17, .class_ 26), (1, u "jdk/internal/util/Preconditions"), (28, .class_ 56), (0, u "jdk/internal/util/Preconditions$4"), (57, .class_ 115), (0, u "jdk/internal/util/Preconditions$1"), (7, u "SIOOBE_FORMATTER"), (0, u "Ljava/util/function/BiFunction;"), (0, .class_ 126), (0, u "jdk/internal/util/Preconditions$2"), (3, u "AIOOBE_FORMATTER"), (0, .class_ 132), (0, u "jdk/internal/util/Preconditions$3"), (3, u "IOOBE_FORMATTER")] 57

def k12m0 : Method := { name := "<init>", desc := "()V", sig := { parameters := [], returnType := none }, accessFlags := 1, code := none }
/-- jdk/internal/util/Preconditions -/
def k12 : Class := { plain "jdk/internal/util/Preconditions" (some 0) with
  accessFlags := 33
  interfaces := #[]
  cf := some (fileOf pool12 24 #[.nestMembers #[55, 131, 125, 114]] #[{ accessFlags := 1, nameIndex := 5, descriptorIndex := 6, attributes := #[] }] 33 2 #[] #[{ accessFlags := 25, nameIndex := 123, descriptorIndex := 124, attributes := #[] }, { accessFlags := 25, nameIndex := 130, descriptorIndex := 124, attributes := #[] }, { accessFlags := 25, nameIndex := 136, descriptorIndex := 124, attributes := #[] }])
  fields := #[{ name := "SIOOBE_FORMATTER", type := (.object "java/util/function/BiFunction"), accessFlags := 25, slot := 0, constantValue := 0 }, { name := "AIOOBE_FORMATTER", type := (.object "java/util/function/BiFunction"), accessFlags := 25, slot := 1, constantValue := 0 }, { name := "IOOBE_FORMATTER", type := (.object "java/util/function/BiFunction"), accessFlags := 25, slot := 2, constantValue := 0 }]
  methods := #[k12m0]
  instanceTypes := #[]
  staticTypes := #[(.object "java/util/function/BiFunction"), (.object "java/util/function/BiFunction"), (.object "java/util/function/BiFunction")]
  resolved := Array.replicate 194 none
  statics := some 1 }

def pool13 : Array CpInfo := pool [(9, u "<init>"), (6, .class_ 18), (1, u "java/lang/Object"), (0, u "()V"), (1, .class_ 23), (1, u "jdk/internal/util/ArraysSupport"), (0, u "LOG2_ARRAY_LONG_INDEX_SCALE"), (0, u "I"), (2, u "U"), (0, u "Ljdk/internal/misc/Unsafe;"), (8, u "BIG_ENDIAN"), (0, u "Z"), (8, u "LOG2_BYTE_BIT_SIZE"), (4, u "LOG2_ARRAY_INT_INDEX_SCALE"), (54, u "JLA"), (0, u "Ljdk/internal/access/JavaLangAccess;"), (11, u "LOG2_ARRAY_BOOLEAN_INDEX_SCALE"), (9, u "LOG2_ARRAY_BYTE_INDEX_SCALE"), (5, u "LOG2_ARRAY_CHAR_INDEX_SCALE"), (5, u "LOG2_ARRAY_SHORT_INDEX_SCALE"), (18, u "LOG2_ARRAY_FLOAT_INDEX_SCALE"), (24, u "LOG2_ARRAY_DOUBLE_INDEX_SCALE"), (89, u "T_BOOLEAN"), (2, u "T_CHAR"), (1, u "T_FLOAT"), (1, u "T_DOUBLE"), (1, u "T_BYTE"), (1, u "T_SHORT"), (1, u "T_INT"), (1, u "T_LONG"), (1, u "SOFT_MAX_ARRAY_LENGTH")] 83

def k13m0 : Method := { name := "<init>", desc := "()V", sig := { parameters := [], returnType := none }, accessFlags := 2, code := none }
/-- jdk/internal/util/ArraysSupport -/
def k13 : Class := { plain "jdk/internal/util/ArraysSupport" (some 0) with
  accessFlags := 33
  interfaces := #[]
  cf := some (fileOf pool13 21 #[] #[{ accessFlags := 2, nameIndex := 9, descriptorIndex := 19, attributes := #[] }] 33 16 #[] #[{ accessFlags := 24, nameIndex := 28, descriptorIndex := 29, attributes := #[] }, { accessFlags := 26, nameIndex := 38, descriptorIndex := 39, attributes := #[] }, { accessFlags := 25, nameIndex := 121, descriptorIndex := 25, attributes := #[] }, { accessFlags := 25, nameIndex := 131, descriptorIndex := 25, attributes := #[] }, { accessFlags := 25, nameIndex := 137, descriptorIndex := 25, attributes := #[] }, { accessFlags := 25, nameIndex := 143, descriptorIndex := 25, attributes := #[] }, { accessFlags := 25, nameIndex := 53, descriptorIndex := 25, attributes := #[] }, { accessFlags := 25, nameIndex := 24, descriptorIndex := 25, attributes := #[] }, { accessFlags := 25, nameIndex := 162, descriptorIndex := 25, attributes := #[] }, { accessFlags := 25, nameIndex := 187, descriptorIndex := 25, attributes := #[] }, { accessFlags := 26, nameIndex := 48, descriptorIndex := 25, attributes := #[] }, { accessFlags := 25, nameIndex := 277, descriptorIndex := 25, attributes := #[] }, { accessFlags := 25, nameIndex := 280, descriptorIndex := 25, attributes := #[] }, { accessFlags := 25, nameIndex := 282, descriptorIndex := 25, attributes := #[] }, { accessFlags := 25, nameIndex := 284, descriptorIndex := 25, attributes := #[] }, { accessFlags := 25, nameIndex := 286, descriptorIndex := 25, attributes := #[] }, { accessFlags := 25, nameIndex := 288, descriptorIndex := 25, attributes := #[] }, { accessFlags := 25, nameIndex := 290, descriptorIndex := 25, attributes := #[] }, { accessFlags := 25, nameIndex := 292, descriptorIndex := 25, attributes := #[] }, { accessFlags := 26, nameIndex := 108, descriptorIndex := 109, attributes := #[] }, { accessFlags := 25, nameIndex := 294, descriptorIndex := 25, attributes := #[] }])
  fields := #[{ name := "U", type := (.object "jdk/internal/misc/Unsafe"), accessFlags := 24, slot := 0, constantValue := 0 }, { name := "BIG_ENDIAN", type := .boolean, accessFlags := 26, slot := 1, constantValue := 0 }, { name := "LOG2_ARRAY_BOOLEAN_INDEX_SCALE", type := .int, accessFlags := 25, slot := 2, constantValue := 0 }, { name := "LOG2_ARRAY_BYTE_INDEX_SCALE", type := .int, accessFlags := 25, slot := 3, constantValue := 0 }, { name := "LOG2_ARRAY_CHAR_INDEX_SCALE", type := .int, accessFlags := 25, slot := 4, constantValue := 0 }, { name := "LOG2_ARRAY_SHORT_INDEX_SCALE", type := .int, accessFlags := 25, slot := 5, constantValue := 0 }, { name := "LOG2_ARRAY_INT_INDEX_SCALE", type := .int, accessFlags := 25, slot := 6, constantValue := 0 }, { name := "LOG2_ARRAY_LONG_INDEX_SCALE", type := .int, accessFlags := 25, slot := 7, constantValue := 0 }, { name := "LOG2_ARRAY_FLOAT_INDEX_SCALE", type := .int, accessFlags := 25, slot := 8, constantValue := 0 }, { name := "LOG2_ARRAY_DOUBLE_INDEX_SCALE", type := .int, accessFlags := 25, slot := 9, constantValue := 0 }, { name := "LOG2_BYTE_BIT_SIZE", type := .int, accessFlags := 26, slot := 10, constantValue := 0 }, { name := "T_BOOLEAN", type := .int, accessFlags := 25, slot := 11, constantValue := 0 }, { name := "T_CHAR", type := .int, accessFlags := 25, slot := 12, constantValue := 0 }, { name := "T_FLOAT", type := .int, accessFlags := 25, slot := 13, constantValue := 0 }, { name := "T_DOUBLE", type := .int, accessFlags := 25, slot := 14, constantValue := 0 }, { name := "T_BYTE", type := .int, accessFlags := 25, slot := 15, constantValue := 0 }, { name := "T_SHORT", type := .int, accessFlags := 25, slot := 16, constantValue := 0 }, { name := "T_INT", type := .int, accessFlags := 25, slot := 17, constantValue := 0 }, { name := "T_LONG", type := .int, accessFlags := 25, slot := 18, constantValue := 0 }, { name := "JLA", type := (.object "jdk/internal/access/JavaLangAccess"), accessFlags := 26, slot := 19, constantValue := 0 }, { name := "SOFT_MAX_ARRAY_LENGTH", type := .int, accessFlags := 25, slot := 20, constantValue := 0 }]
  methods := #[k13m0]
  instanceTypes := #[]
  staticTypes := #[(.object "jdk/internal/misc/Unsafe"), .boolean, .int, .int, .int, .int, .int, .int, .int, .int, .int, .int, .int, .int, .int, .int, .int, .int, .int, (.object "jdk/internal/access/JavaLangAccess"), .int]
  resolved := Array.replicate 378 none
  statics := none }

def pool14 : Array CpInfo := pool [(1, u "java/lang/Cloneable"), (0, .class_ 1), (0, u "java/lang/Object"), (0, .class_ 3)] 3

/-- java/lang/Cloneable -/
def k14 : Class := { plain "java/lang/Cloneable" (some 0) with
  accessFlags := 1537
  interfaces := #[]
  cf := some (fileOf pool14 2 #[] #[] 1537 4 #[] #[])
  fields := #[]
  methods := #[]
  instanceTypes := #[]
  staticTypes := #[]
  resolved := Array.replicate 8 none
  statics := none }

/-- the primitive byte -/
def k15 : Class := { plain "byte" none with kind := .primitive 'B', accessFlags := 0x411 }
/-- [B -/
def k16 : Class := { plain "[B" (some 0) with kind := .array 15 .byte, interfaces := #[14, 2], accessFlags := 1041 }

/-- the primitive char -/
def k17 : Class := { plain "char" none with kind := .primitive 'C', accessFlags := 0x411 }
/-- [C -/
def k18 : Class := { plain "[C" (some 0) with kind := .array 17 .char, interfaces := #[14, 2], accessFlags := 1041 }

/-- the primitive int -/
def k19 : Class := { plain "int" none with kind := .primitive 'I', accessFlags := 0x411 }
/-- [I -/
def k20 : Class := { plain "[I" (some 0) with kind := .array 19 .int, interfaces := #[14, 2], accessFlags := 1041 }

def heap : Heap := #[{ cls := 7, slots := #[.long 0, .int 1, .null, .int 0, .null, .int 0, .int 0], vm := .statics 7 },
  { cls := 12, slots := #[.null, .null, .null], vm := .statics 12 }]
def classes : Array Class := #[k0, k1, k2, k3, k4, k5, k6, k7, k8, k9, k10, k11, k12, k13, k14, k15, k16, k17, k18, k19, k20]
def interned : List (Array UInt16 × Addr) := []
def slotsUsed : Nat := 10
def theMethod : MethodId := ⟨1, 1⟩
def args0 : Array Value := #[.int 5, .long 5, .long 5, .long 5, .int 5]
def aboutOver (below : List Frame) : State where
  vm := { classes := classes, interned := interned.toArray }
  heap := heap
  slotsUsed := slotsUsed
  threads := #[{ frames := .invoking theMethod args0 :: below }]
def below0 : List Frame := [.native { method := ⟨0, 0⟩, args := #[] }]
def about1 : State := aboutOver below0
def p0 : Program := .bare "" "" ""
def e0 : Env := launch0.env 0 0 0
theorem w_frames : about1.frames = Frame.invoking theMethod args0 :: below0 := rfl
set_option maxRecDepth 65536 in
theorem w_args : argsFit about1.vm theMethod args0 = true := by decide +kernel
set_option maxRecDepth 65536 in
theorem w_heap : heapFits about1 = true := by decide +kernel
set_option maxRecDepth 65536 in
theorem w_runnable : about1.curStatus? = some .runnable := by decide +kernel
set_option maxRecDepth 65536 in
theorem w_alone : about1.alone = true := by decide +kernel
set_option maxRecDepth 65536 in
theorem w_named : about1.methodNamed? x = some theMethod := by decide +kernel
set_option maxRecDepth 65536 in
theorem w_hears : about1.hears theMethod below0 = true := by decide +kernel
set_option maxRecDepth 65536 in
theorem w_ripe : about1.ripe theMethod args0 below0 = true := by decide +kernel
theorem w_running : about1.status = .running := rfl
set_option maxRecDepth 65536 in
theorem w_room : about1.hasRoom e0.platform room_1 = true :=
  launch0.hasRoom_least _ room_1 (by decide +kernel) (by decide +kernel) (by decide +kernel) (by decide +kernel) (by decide +kernel) (by decide +kernel)
theorem allAtoms_all (ts : List Jvm.Cond) (a : Array Jvm.Value) (st : Jvm.State) : (allAtoms ts).before a st = ts.all (fun c => c.before a st) := by
  induction ts with
  | nil => rfl
  | cons c t ih =>
    show (Jvm.Cond.and c (allAtoms t)).before a st = _
    rw [Jvm.Cond.before_and, ih, List.all_cons]
def words1 : List Jvm.Cond := Jvm.Cond.code x code maxLocals ret :: tables_1
/-- a 'code' word, met by the world's own term for the bytes: nothing is compared byte by byte -/
theorem code_word {y : MethodName} {bytes : ByteArray} {mx : Nat} {rt : Option FieldType} {a : Array Value} {s : State} {m : MethodId} {meth : Method} {c : Code} (h1 : s.methodNamed? y = some m) (h2 : s.vm.method? m = some meth) (h3 : meth.code = some c) (h4 : c.code = bytes)
    (h5 : (c.maxLocals == mx && c.exceptionTable.isEmpty && decide (c.maxStack ≤ mostOperands) && decide (meth.sig.returnType = rt) && !meth.locks && decide (parseMethodDescriptor y.desc = some meth.sig)) = true) : (Jvm.Cond.code y bytes mx rt).before a s = true := by
  simp only [Bool.and_eq_true, beq_iff_eq, Bool.not_eq_true', decide_eq_true_eq] at h5
  obtain ⟨⟨⟨⟨⟨g1, g2⟩, g3⟩, g4⟩, g5⟩, g6⟩ := h5
  simp [Cond.before, Cond.holds, Cond.value, h1, h2, h3, h4, g1, g2, g3, g4, g5, g6]
def isCode : Jvm.Cond → Bool
  | .code _ _ _ _ => true
  | _ => false
theorem all_split {L : List Jvm.Cond} {P : Jvm.Cond → Bool} (h1 : L.all (fun c => isCode c || P c) = true) (h2 : ∀ c ∈ L.filter isCode, P c = true) : L.all P = true := by
  refine List.all_eq_true.mpr fun c hc => ?_
  have h := List.all_eq_true.mp h1 c hc
  rcases Bool.eq_false_or_eq_true (isCode c) with hi | hi
  · exact h2 c (List.mem_filter.mpr ⟨hc, hi⟩)
  · simpa [hi] using h
set_option maxRecDepth 65536 in
theorem w_c0 : (Jvm.Cond.code x code maxLocals ret).before args0 about1 = true := code_word (m := ⟨1, 1⟩) (meth := k1m1) (c := k1c1) (by decide +kernel) rfl rfl rfl (by decide +kernel)
set_option maxRecDepth 65536 in
theorem w_c1 : (Jvm.Cond.code ({ cls := "java/lang/String", name := "<init>", desc := "([C)V" } : Jvm.MethodName) jdk_42_method_3_code (2 : Nat) (Option.none : Option Jvm.ClassFile.FieldType)).before args0 about1 = true := code_word (m := ⟨7, 1⟩) (meth := k7m1) (c := k7c1) (by decide +kernel) rfl rfl rfl (by decide +kernel)
set_option maxRecDepth 65536 in
theorem w_c2 : (Jvm.Cond.code ({ cls := "java/lang/String", name := "<init>", desc := "([CIILjava/lang/Void;)V" } : Jvm.MethodName) jdk_42_method_149_code (6 : Nat) (Option.none : Option Jvm.ClassFile.FieldType)).before args0 about1 = true := code_word (m := ⟨7, 3⟩) (meth := k7m3) (c := k7c3) (by decide +kernel) rfl rfl rfl (by decide +kernel)
set_option maxRecDepth 65536 in
theorem w_c3 : (Jvm.Cond.code ({ cls := "java/lang/Object", name := "<init>", desc := "()V" } : Jvm.MethodName) object_method_1_code (1 : Nat) (Option.none : Option Jvm.ClassFile.FieldType)).before args0 about1 = true := code_word (m := ⟨0, 0⟩) (meth := k0m0) (c := k0c0) (by decide +kernel) rfl rfl rfl (by decide +kernel)
set_option maxRecDepth 65536 in
theorem w_c4 : (Jvm.Cond.code ({ cls := "java/lang/StringUTF16", name := "compress", desc := "([CII)[B" } : Jvm.MethodName) jdk_52_method_16_code (6 : Nat) (Option.some (Jvm.ClassFile.FieldType.array Jvm.ClassFile.FieldType.byte))).before args0 about1 = true := code_word (m := ⟨8, 2⟩) (meth := k8m2) (c := k8c2) (by decide +kernel) rfl rfl rfl (by decide +kernel)
set_option maxRecDepth 65536 in
theorem w_c5 : (Jvm.Cond.code ({ cls := "java/lang/StringUTF16", name := "compress", desc := "([CI[BII)I" } : Jvm.MethodName) jdk_52_method_21_code (7 : Nat) (Option.some Jvm.ClassFile.FieldType.int)).before args0 about1 = true := code_word (m := ⟨8, 3⟩) (meth := k8m3) (c := k8c3) (by decide +kernel) rfl rfl rfl (by decide +kernel)
set_option maxRecDepth 65536 in
theorem w_c6 : (Jvm.Cond.code ({ cls := "java/lang/StringUTF16", name := "coderFromArrayLen", desc := "([BI)B" } : Jvm.MethodName) jdk_52_method_15_code (2 : Nat) (Option.some Jvm.ClassFile.FieldType.byte)).before args0 about1 = true := code_word (m := ⟨8, 1⟩) (meth := k8m1) (c := k8c1) (by decide +kernel) rfl rfl rfl (by decide +kernel)
set_option maxRecDepth 65536 in
theorem w_c7 : (Jvm.Cond.code ({ cls := "com/example/klatch/klatch/Holds$Hold", name := "<init>", desc := "(Ljava/lang/String;JJJZ)V" } : Jvm.MethodName) prog_3_method_1_code (9 : Nat) (Option.none : Option Jvm.ClassFile.FieldType)).before args0 about1 = true := code_word (m := ⟨9, 0⟩) (meth := k9m0) (c := k9c0) (by decide +kernel) rfl rfl rfl (by decide +kernel)
set_option maxRecDepth 65536 in
theorem w_c8 : (Jvm.Cond.code ({ cls := "java/util/concurrent/atomic/AtomicBoolean", name := "<init>", desc := "()V" } : Jvm.MethodName) jdk_2802_method_2_code (1 : Nat) (Option.none : Option Jvm.ClassFile.FieldType)).before args0 about1 = true := code_word (m := ⟨10, 0⟩) (meth := k10m0) (c := k10c0) (by decide +kernel) rfl rfl rfl (by decide +kernel)
set_option maxRecDepth 65536 in
theorem w_c9 : (Jvm.Cond.code ({ cls := "com/example/klatch/klatch/Holds$Hold", name := "holdCount", desc := "()I" } : Jvm.MethodName) prog_3_method_5_code (1 : Nat) (Option.some Jvm.ClassFile.FieldType.int)).before args0 about1 = true := code_word (m := ⟨9, 4⟩) (meth := k9m4) (c := k9c4) (by decide +kernel) rfl rfl rfl (by decide +kernel)
set_option maxRecDepth 65536 in
theorem w_c10 : (Jvm.Cond.code ({ cls := "com/example/klatch/klatch/Holds$Hold", name := "reentered", desc := "()V" } : Jvm.MethodName) prog_3_method_6_code (1 : Nat) (Option.none : Option Jvm.ClassFile.FieldType)).before args0 about1 = true := code_word (m := ⟨9, 5⟩) (meth := k9m5) (c := k9c5) (by decide +kernel) rfl rfl rfl (by decide +kernel)
set_option maxRecDepth 65536 in
theorem w_c11 : (Jvm.Cond.code ({ cls := "com/example/klatch/klatch/Holds$Hold", name := "token", desc := "()Ljava/lang/String;" } : Jvm.MethodName) prog_3_method_2_code (1 : Nat) (Option.some (Jvm.ClassFile.FieldType.object "java/lang/String"))).before args0 about1 = true := code_word (m := ⟨9, 1⟩) (meth := k9m1) (c := k9c1) (by decide +kernel) rfl rfl rfl (by decide +kernel)
set_option maxRecDepth 65536 in
theorem w_c12 : (Jvm.Cond.code ({ cls := "java/lang/String", name := "equals", desc := "(Ljava/lang/Object;)Z" } : Jvm.MethodName) jdk_42_method_66_code (3 : Nat) (Option.some Jvm.ClassFile.FieldType.boolean)).before args0 about1 = true := code_word (m := ⟨7, 2⟩) (meth := k7m2) (c := k7c2) (by decide +kernel) rfl rfl rfl (by decide +kernel)
set_option maxRecDepth 65536 in
theorem w_c13 : (Jvm.Cond.code ({ cls := "com/example/klatch/klatch/Holds$Hold", name := "leaseMillis", desc := "()J" } : Jvm.MethodName) prog_3_method_3_code (1 : Nat) (Option.some Jvm.ClassFile.FieldType.long)).before args0 about1 = true := code_word (m := ⟨9, 2⟩) (meth := k9m2) (c := k9c2) (by decide +kernel) rfl rfl rfl (by decide +kernel)
set_option maxRecDepth 65536 in
theorem w_c14 : (Jvm.Cond.code ({ cls := "com/example/klatch/klatch/Holds$Hold", name := "isRenewed", desc := "()Z" } : Jvm.MethodName) prog_3_method_4_code (1 : Nat) (Option.some Jvm.ClassFile.FieldType.boolean)).before args0 about1 = true := code_word (m := ⟨9, 3⟩) (meth := k9m3) (c := k9c3) (by decide +kernel) rfl rfl rfl (by decide +kernel)
set_option maxRecDepth 65536 in
theorem w_c15 : (Jvm.Cond.code ({ cls := "com/example/klatch/klatch/Holds$Hold", name := "mayOutliveLease", desc := "()Z" } : Jvm.MethodName) prog_3_method_12_code (1 : Nat) (Option.some Jvm.ClassFile.FieldType.boolean)).before args0 about1 = true := code_word (m := ⟨9, 6⟩) (meth := k9m6) (c := k9c6) (by decide +kernel) rfl rfl rfl (by decide +kernel)
def codes1 : List Jvm.Cond := [Jvm.Cond.code x code maxLocals ret, Jvm.Cond.code ({ cls := "java/lang/String", name := "<init>", desc := "([C)V" } : Jvm.MethodName) jdk_42_method_3_code (2 : Nat) (Option.none : Option Jvm.ClassFile.FieldType), Jvm.Cond.code ({ cls := "java/lang/String", name := "<init>", desc := "([CIILjava/lang/Void;)V" } : Jvm.MethodName) jdk_42_method_149_code (6 : Nat) (Option.none : Option Jvm.ClassFile.FieldType), Jvm.Cond.code ({ cls := "java/lang/Object", name := "<init>", desc := "()V" } : Jvm.MethodName) object_method_1_code (1 : Nat) (Option.none : Option Jvm.ClassFile.FieldType), Jvm.Cond.code ({ cls := "java/lang/StringUTF16", name := "compress", desc := "([CII)[B" } : Jvm.MethodName) jdk_52_method_16_code (6 : Nat) (Option.some (Jvm.ClassFile.FieldType.array Jvm.ClassFile.FieldType.byte)), Jvm.Cond.code ({ cls := "java/lang/StringUTF16", name := "compress", desc := "([CI[BII)I" } : Jvm.MethodName) jdk_52_method_21_code (7 : Nat) (Option.some Jvm.ClassFile.FieldType.int), Jvm.Cond.code ({ cls := "java/lang/StringUTF16", name := "coderFromArrayLen", desc := "([BI)B" } : Jvm.MethodName) jdk_52_method_15_code (2 : Nat) (Option.some Jvm.ClassFile.FieldType.byte), Jvm.Cond.code ({ cls := "com/example/klatch/klatch/Holds$Hold", name := "<init>", desc := "(Ljava/lang/String;JJJZ)V" } : Jvm.MethodName) prog_3_method_1_code (9 : Nat) (Option.none : Option Jvm.ClassFile.FieldType), Jvm.Cond.code ({ cls := "java/util/concurrent/atomic/AtomicBoolean", name := "<init>", desc := "()V" } : Jvm.MethodName) jdk_2802_method_2_code (1 : Nat) (Option.none : Option Jvm.ClassFile.FieldType), Jvm.Cond.code ({ cls := "com/example/klatch/klatch/Holds$Hold", name := "holdCount", desc := "()I" } : Jvm.MethodName) prog_3_method_5_code (1 : Nat) (Option.some Jvm.ClassFile.FieldType.int), Jvm.Cond.code ({ cls := "com/example/klatch/klatch/Holds$Hold", name := "reentered", desc := "()V" } : Jvm.MethodName) prog_3_method_6_code (1 : Nat) (Option.none : Option Jvm.ClassFile.FieldType), Jvm.Cond.code ({ cls := "com/example/klatch/klatch/Holds$Hold", name := "token", desc := "()Ljava/lang/String;" } : Jvm.MethodName) prog_3_method_2_code (1 : Nat) (Option.some (Jvm.ClassFile.FieldType.object "java/lang/String")), Jvm.Cond.code ({ cls := "java/lang/String", name := "equals", desc := "(Ljava/lang/Object;)Z" } : Jvm.MethodName) jdk_42_method_66_code (3 : Nat) (Option.some Jvm.ClassFile.FieldType.boolean), Jvm.Cond.code ({ cls := "com/example/klatch/klatch/Holds$Hold", name := "leaseMillis", desc := "()J" } : Jvm.MethodName) prog_3_method_3_code (1 : Nat) (Option.some Jvm.ClassFile.FieldType.long), Jvm.Cond.code ({ cls := "com/example/klatch/klatch/Holds$Hold", name := "isRenewed", desc := "()Z" } : Jvm.MethodName) prog_3_method_4_code (1 : Nat) (Option.some Jvm.ClassFile.FieldType.boolean), Jvm.Cond.code ({ cls := "com/example/klatch/klatch/Holds$Hold", name := "mayOutliveLease", desc := "()Z" } : Jvm.MethodName) prog_3_method_12_code (1 : Nat) (Option.some Jvm.ClassFile.FieldType.boolean)]
set_option maxRecDepth 65536 in
theorem codes_eq : words1.filter isCode = codes1 := rfl
theorem w_codes : ∀ c ∈ words1.filter isCode, c.before args0 about1 = true := by
  rw [codes_eq]
  intro c hc
  simp only [codes1, List.mem_cons, List.not_mem_nil, or_false] at hc
  rcases hc with rfl | rfl | rfl | rfl | rfl | rfl | rfl | rfl | rfl | rfl | rfl | rfl | rfl | rfl | rfl | rfl
  · exact w_c0
  · exact w_c1
  · exact w_c2
  · exact w_c3
  · exact w_c4
  · exact w_c5
  · exact w_c6
  · exact w_c7
  · exact w_c8
  · exact w_c9
  · exact w_c10
  · exact w_c11
  · exact w_c12
  · exact w_c13
  · exact w_c14
  · exact w_c15
set_option maxRecDepth 65536 in
theorem w_t1 : (words1.take 24).all (fun c => isCode c || c.before args0 about1) = true := by decide +kernel
set_option maxRecDepth 65536 in
theorem w_t2 : ((words1.drop 24).take 24).all (fun c => isCode c || c.before args0 about1) = true := by decide +kernel
set_option maxRecDepth 65536 in
theorem w_t3 : (((words1.drop 24).drop 24).take 24).all (fun c => isCode c || c.before args0 about1) = true := by decide +kernel
set_option maxRecDepth 65536 in
theorem w_t4 : ((((words1.drop 24).drop 24).drop 24).take 24).all (fun c => isCode c || c.before args0 about1) = true := by decide +kernel
set_option maxRecDepth 65536 in
theorem w_t5 : ((((words1.drop 24).drop 24).drop 24).drop 24).all (fun c => isCode c || c.before args0 about1) = true := by decide +kernel
theorem w_tables : (allAtoms (Jvm.Cond.code x code maxLocals ret :: tables_1)).before args0 about1 = true := by
  rw [allAtoms_all]
  show words1.all (fun c => c.before args0 about1) = true
  refine all_split ?_ w_codes
  rw [← List.take_append_drop 24 words1, List.all_append, w_t1, ← List.take_append_drop 24 (words1.drop 24), List.all_append, w_t2, ← List.take_append_drop 24 ((words1.drop 24).drop 24), List.all_append, w_t3, ← List.take_append_drop 24 (((words1.drop 24).drop 24).drop 24), List.all_append, w_t4, w_t5]
  rfl
set_option maxRecDepth 65536 in
theorem w_rest : rest_1_c.before args0 about1 = true := by decide +kernel
set_option maxRecDepth 65536 in
theorem w_case : (Jvm.Cond.and given_1 narrow_1).before args0 about1 = true := by decide +kernel
theorem w_applies : (headSpec (Jvm.Cond.code x code maxLocals ret :: tables_1) room_1).applies x e0.platform about1 = true :=
  (Spec.applies_iff w_frames).mpr ⟨w_running, w_runnable, w_alone, w_named, w_hears, w_ripe, w_room, w_tables⟩
theorem atStart : AtStart classFile x code maxLocals ret World_1 tables_1 room_1 Calls_1 rest_1 Pre_1 launch0 p0 e0 about1 theMethod args0 below0 :=
  ⟨lists_1, trivial, launch0.admits_env _ _ _, launch0.least_env, fairChoices_fair.cas, fairChoices_fair.clock, w_frames, w_args, w_heap, w_applies, trivial, w_rest, w_case⟩
end start1
theorem witness_1 : WitnessClaimed_1 := ⟨start1.p0, start1.e0, start1.about1, start1.theMethod, start1.args0, start1.below0, start1.atStart⟩
end Jvm.Pilot.@@N@@
