import JvmDerived
import JvmDerived.Pilot.@@N@@Statement
import JvmDerived.Pilot.@@N@@Code
set_option linter.unusedVariables false
set_option linter.unusedSimpArgs false
set_option maxRecDepth 65536
set_option maxHeartbeats 40000000
@@BLOCK:TracedD.lean.txt@@
namespace Jvm.RoadKit
open Sem ClassFile Op Lib Jvm.Stand Jvm.Free Jvm.LawKit
section Own
variable {p : Program} {l : Launch} {e : Env} {R : Room} {s : State} {m : MethodId} {args : Array Value} {below : List Frame} {meth : Method} {c : Code} {T T' : State} {locs : List Loc} {cells slots : Nat} {Z : State} {a0 : Array Value} {h h' h0 : Heap} {K : State → Outcome → Prop} {pc : Nat} {Ls : Array Slot} {rest : List Value} {Q : Option Value → Heap → List Loc → Prop} {k n : Nat} {a b : Addr} {ws : List Addr} {sl : Nat} {v : Value}
def Go (p : Program) (e : Env) (below : List Frame) (K : State → Outcome → Prop) (T : State) : Prop := ∃ U o, Steps p.tables e below T U ∧ U.status = .running ∧ Ended U below o ∧ K U o
theorem Go.by (st : ∀ t, Steps p.tables e below T' t → Steps p.tables e below T t) (g : Go p e below K T') : Go p e below K T := by
  obtain ⟨U, o, q, r⟩ := g; exact ⟨U, o, st _ q, r⟩
theorem Go.on (st : Steps p.tables e below T T') (g : Go p e below K T') : Go p e below K T := by
  obtain ⟨U, o, q, r⟩ := g; exact ⟨U, o, st.trans q, r⟩
theorem Go.cast {T'' : State} (q : T = T'') (g : Go p e below K T'') : Go p e below K T := q ▸ g
def KK (s : State) (Q : Option Value → Heap → List Loc → Prop) (k n : Nat) : State → Outcome → Prop := fun U o => ∃ v L, o = .returned v ∧ Q v U.heap L ∧ FrameEnd s o U L k n
abbrev Ctr (l : Launch) (Z : State) (h0 : Heap) (y : MethodName) (bytes : ByteArray) (maxL : Nat) (ret : Option FieldType) (ws : List Cond) (rm : Room) (as' : Array Value) (Q : Option Value → Heap → List Loc → Prop) : Prop :=
  MetFree l y (head1 (Cond.code y bytes maxL ret :: ws) rm) (fun a U => a = as' ∧ Z.Warmed39 U.vm ∧ U.heap = h0) (fun _ _ _ _ _ => True) (fun _ U o U' => ∃ v L, o = .returned v ∧ Q v U'.heap L ∧ FrameEnd U o U' L rm.cells rm.slots)
theorem enter {y : MethodName} {bytes : ByteArray} {maxL : Nat} {ret : Option FieldType} {ws : List Cond} {rm : Room} {as' : Array Value} (hp : plainFor y = true)
    (H : ∀ (p : Program) (e : Env) (s : State) (m : MethodId) (below : List Frame) (meth : Method) (c : Code) (s₁ : State), p.tables.exec = Jvm.exec → c.code = bytes → c.maxLocals = maxL → Z.Warmed39 s.vm → s.vm.findClass y.cls = some m.cls → meth.name = y.name → meth.sig.returnType = ret → meth.locks = false →
      Stand p l e rm s m as' below meth c s₁ [] 0 0 → s₁.heap = h0 → s.heap = h0 → Go p e below (KK s Q rm.cells rm.slots) (s₁.setTop (entryFrame m as' maxL))) : Ctr l Z h0 y bytes maxL ret ws rm as' Q := by
  refine MetFree.of_bodySF hp hisR ?_
  intro p e s m args below meth c s₁ Bd hml0 hP hK
  obtain ⟨rfl, hZ, hh⟩ := hP
  exact H p e s m below meth c s₁ Bd.exec Bd.bytes hml0 hZ (findClass_of_methodNamed Bd.named) (name_of_methodNamed Bd.named Bd.method).1 Bd.returns Bd.notSynchronized (Stand.of_body Bd) (by rw [← hh, Bd.state]; rfl) hh
/-! returns -/
theorem Go.ret {w : Value} {t : FieldType} {i : Instr} (X : Stand p l e R s m args below meth c T locs cells slots) (hx : p.tables.exec = Jvm.exec) (hret : meth.sig.returnType = some t) (hlk : meth.locks = false) (hn : narrow t w = w)
    (hi : (i = .ireturn ∧ (t = .int ∨ t = .boolean ∨ t = .byte ∨ t = .char ∨ t = .short) ∧ ∃ z, w = .int z) ∨ (i = .lreturn ∧ t = .long ∧ ∃ z, w = .long z) ∨ (i = .dreturn ∧ t = .double ∧ ∃ z, w = .double z) ∨ (i = .freturn ∧ t = .float ∧ ∃ z, w = .float z) ∨ (i = .areturn ∧ t.isReference = true ∧ w.isRef = true))
    (hd : decode c.code pc = .ok (i, 1)) (eT : T.heap = h) (hk : cells ≤ k) (hs : slots ≤ n) (hQ : Q (some w) h locs) : Go p e below (KK s Q k n) (T.setTop (mkF m pc Ls (w :: rest))) := by
  obtain ⟨fs, hr, hrun, hended, hW, hsame⟩ := X.leave (v := some w) (fun h => by rw [hret] at h; cases h) hlk
  subst eT
  exact ⟨_, _, retOut X hx hret hn hi hd hr, hrun, hended, _, _, rfl, hQ, ⟨_, rfl⟩, hW, hsame.mono hk hs⟩
theorem Go.retI {z : Int32} {t : FieldType} (X : Stand p l e R s m args below meth c T locs cells slots) (hx : p.tables.exec = Jvm.exec) (hret : meth.sig.returnType = some t) (hlk : meth.locks = false) (ht : t = .int ∨ t = .boolean ∨ t = .byte ∨ t = .char ∨ t = .short) (hn : narrow t (.int z) = .int z)
    (hd : decode c.code pc = .ok (.ireturn, 1)) (eT : T.heap = h) (hk : cells ≤ k) (hs : slots ≤ n) (hQ : Q (some (.int z)) h locs) : Go p e below (KK s Q k n) (T.setTop (mkF m pc Ls (.int z :: rest))) :=
  Go.ret X hx hret hlk hn (Or.inl ⟨rfl, ht, z, rfl⟩) hd eT hk hs hQ
theorem nar_ref {t : FieldType} {w : Value} (hw : w.isRef = true) : narrow t w = w := by cases w <;> first | (simp [Value.isRef] at hw; done) | (cases t <;> rfl)
theorem fits_any {C : String} {w : Value} (hw : w.isRef = true) : fits (.object C) w = true := by cases w <;> first | (simp [Value.isRef] at hw; done) | rfl
theorem Go.retA {w : Value} {t : FieldType} (X : Stand p l e R s m args below meth c T locs cells slots) (hx : p.tables.exec = Jvm.exec) (hret : meth.sig.returnType = some t) (hlk : meth.locks = false) (ht : t.isReference = true) (hw : w.isRef = true)
    (hd : decode c.code pc = .ok (.areturn, 1)) (eT : T.heap = h) (hk : cells ≤ k) (hs : slots ≤ n) (hQ : Q (some w) h locs) : Go p e below (KK s Q k n) (T.setTop (mkF m pc Ls (w :: rest))) :=
  Go.ret X hx hret hlk (nar_ref hw) (Or.inr (Or.inr (Or.inr (Or.inr ⟨rfl, ht, hw⟩)))) hd eT hk hs hQ
theorem Go.retV (X : Stand p l e R s m args below meth c T locs cells slots) (hx : p.tables.exec = Jvm.exec) (hret : meth.sig.returnType = none) (hlk : meth.locks = false)
    (hd : decode c.code pc = .ok (.return_, 1)) (eT : T.heap = h) (hk : cells ≤ k) (hs : slots ≤ n) (hQ : Q none h locs) : Go p e below (KK s Q k n) (T.setTop (mkF m pc Ls [])) := by
  obtain ⟨fs, hr, hrun, hended, hW, hsame⟩ := X.leave (v := none) (fun _ => rfl) hlk
  subst eT
  exact ⟨_, _, X.returnOut hx hret hd hr, hrun, hended, _, _, rfl, hQ, ⟨_, rfl⟩, hW, hsame.mono hk hs⟩
/-! the old cells -/
theorem ext_trans {h1 h2 h3 : Heap} (E : Ext h1 h2) (F : Ext h2 h3) : Ext h1 h3 := ⟨Nat.le_trans E.1 F.1, fun a c q => F.2 a c (E.2 a c q)⟩
theorem ext_wr {h1 h2 h3 : Heap} (E : Ext h1 h2) (W : Wr h2 h3 a sl v) (g : h1.size ≤ a) : Ext h1 h3 := by
  obtain ⟨cell, q1, q2, q3, rfl⟩ := W
  refine ⟨by simpa using E.1, fun x c q => ?_⟩
  have hx : x < h1.size := (Array.getElem?_eq_some_iff.mp q).1
  rw [Array.getElem?_setIfInBounds_ne (Nat.ne_of_gt (Nat.lt_of_lt_of_le hx g))]
  exact E.2 x c q
theorem ext_keep {h1 h2 h3 : Heap} (E : Ext h1 h2) (F : Keep h2 h3 ws) (g : ∀ x ∈ ws, h1.size ≤ x) : Ext h1 h3 := by
  refine ⟨Nat.le_trans E.1 F.1, fun x c q => F.2.1 x c (E.2 x c q) fun z => ?_⟩
  exact absurd (Array.getElem?_eq_some_iff.mp q).1 (Nat.not_lt.mpr (g x z))
theorem ne_new (q : a < h.size) (r : h.size ≤ b) : a ≠ b := Nat.ne_of_lt (Nat.lt_of_lt_of_le q r)
/-! calls -/
theorem Go.callS {own : String} {index : Nat} {y : MethodName} {bytes : ByteArray} {maxL : Nat} {ret : Option FieldType} {rm : Room} {as' : Array Value} {argsL S : List Value} (X : Stand p l e R s m args below meth c T locs cells slots) (hx : p.tables.exec = Jvm.exec) (hZ : Z.Warmed39 s.vm) (hown : s.vm.findClass own = some m.cls)
    (w1 : (Cond.methodLink own index y).before a0 Z = true) (w2 : (Cond.static y).before a0 Z = true) (w3 : (Cond.initialized y.cls).before a0 Z = true) (w4 : (Cond.code y bytes maxL ret).before a0 Z = true)
    (hy : y.cls ≠ "java/lang/invoke/MethodHandle" ∧ y.cls ≠ "java/lang/invoke/VarHandle") {Q : Option Value → Heap → List Loc → Prop} (hM : Ctr l Z h y bytes maxL ret [] rm as' Q) (eT : T.heap = h) (hsz : Ls.size = c.maxLocals)
    (hd : decode c.code pc = .ok (.invokestatic index, 3)) (hlen : ∀ sig, parseMethodDescriptor y.desc = some sig → argsL.length = sig.parameters.length) (hst : S = argsL.reverse ++ rest) (has : argsL.toArray = as')
    {W : Nat} (hW : 2 * 0 + (rest.map fun v => v.category).sum ≤ W) (hB : rm.frames + 1 ≤ R.frames ∧ W + (maxL + 11) + rm.locals ≤ R.locals ∧ cells + rm.cells ≤ R.cells ∧ slots + rm.slots ≤ R.slots)
    (g : ∀ (v : Option Value) (T' : State) (L : List Loc), Stand p l e R s m args below meth c T' (locs ++ L) (cells + rm.cells) (slots + rm.slots) → Q v T'.heap L → Go p e below K (T'.setTop (mkF m (pc + 3) Ls (v.toList ++ rest)))) : Go p e below K (T.setTop (mkF m pc Ls S)) := by
  obtain ⟨hf, hl, hc, hs⟩ := hB
  obtain ⟨v, _, ⟨T', L', k', n'⟩, -, X', ⟨Lc, hQ, l', y', z'⟩, st⟩ := Jvm.LawKit.callS X hx (y := y) hown (mvT hZ w1) (mvT hZ w2) (mvT hZ w3) (mvT hZ w4) hy (backOf (W := W) hM hZ w4 w3 hf hl) (g := mkF m pc Ls S) rfl hsz (argsL := argsL) (rest := rest) hlen hst hW hd (fun _ _ => ⟨has, eT, hc, hs⟩)
  dsimp only [Pt.U, Pt.locs, Pt.cells, Pt.slots] at X' l' y' z' st hQ
  subst l' y' z'
  exact Go.by st (g v T' Lc X' hQ)
theorem Go.init {own : String} {index : Nat} {y : MethodName} {bytes : ByteArray} {maxL : Nat} {rm : Room} {as' : Array Value} {argsL S : List Value} (X : Stand p l e R s m args below meth c T locs cells slots) (hx : p.tables.exec = Jvm.exec) (hZ : Z.Warmed39 s.vm) (hown : s.vm.findClass own = some m.cls) (hy1 : y.name = "<init>")
    (w1 : (Cond.methodLink own index y).before a0 Z = true) (w2 : (Cond.instanceMethod y).before a0 Z = true) (w3 : (Cond.initialized y.cls).before a0 Z = true) (w4 : (Cond.code y bytes maxL none).before a0 Z = true)
    (hy : y.cls ≠ "java/lang/invoke/MethodHandle" ∧ y.cls ≠ "java/lang/invoke/VarHandle") {Q : Option Value → Heap → List Loc → Prop} (hM : Ctr l Z h y bytes maxL none [] rm as' Q) (eT : T.heap = h) (hsz : Ls.size = c.maxLocals)
    (hd : decode c.code pc = .ok (.invokespecial index, 3)) (hlen : ∀ sig, parseMethodDescriptor y.desc = some sig → argsL.length = sig.parameters.length) (hst : S = argsL.reverse ++ .ref a :: rest) (has : (Value.ref a :: argsL).toArray = as')
    {W : Nat} (hW : 2 * 0 + (rest.map fun v => v.category).sum ≤ W) (hB : rm.frames + 1 ≤ R.frames ∧ W + (maxL + 11) + rm.locals ≤ R.locals ∧ cells + rm.cells ≤ R.cells ∧ slots + rm.slots ≤ R.slots)
    (g : ∀ (v : Option Value) (T' : State) (L : List Loc), Stand p l e R s m args below meth c T' (locs ++ L) (cells + rm.cells) (slots + rm.slots) → Q v T'.heap L → Go p e below K (T'.setTop (mkF m (pc + 3) Ls (v.toList ++ rest)))) : Go p e below K (T.setTop (mkF m pc Ls S)) := by
  obtain ⟨hf, hl, hc, hs⟩ := hB
  obtain ⟨v, _, ⟨T', L', k', n'⟩, -, X', ⟨Lc, hQ, l', y', z'⟩, st⟩ := X.specialBack hx (y := y) hy1 hown (mvT hZ w1) (mvT hZ w2) (mvT hZ w4) hy (backOf (W := W) hM hZ w4 w3 hf hl) (g := mkF m pc Ls S) rfl hsz (Steps.refl _) (a := a) (argsL := argsL) (rest := rest) hlen hst hW hd (fun _ _ => ⟨has, eT, hc, hs⟩)
  dsimp only [Pt.U, Pt.locs, Pt.cells, Pt.slots] at X' l' y' z' st hQ
  subst l' y' z'
  exact Go.on st (g v T' Lc X' hQ)
theorem Go.virt {own C : String} {index : Nat} {y z : MethodName} {bytes : ByteArray} {maxL : Nat} {ret : Option FieldType} {rm : Room} {as' : Array Value} {argsL S : List Value} (X : Stand p l e R s m args below meth c T locs cells slots) (hx : p.tables.exec = Jvm.exec) (hZ : Z.Warmed39 s.vm) (hown : s.vm.findClass own = some m.cls)
    (w1 : (Cond.methodLink own index y).before a0 Z = true) (w2 : (Cond.declares y).before a0 Z = true) (hnf : NotFace s y) (w5 : (Cond.selects C y z).before a0 Z = true) (w6 : (Cond.instanceMethod z).before a0 Z = true) (w3 : (Cond.initialized z.cls).before a0 Z = true) (w4 : (Cond.code z bytes maxL ret).before a0 Z = true)
    (hy : y.cls ≠ "java/lang/invoke/MethodHandle" ∧ y.cls ≠ "java/lang/invoke/VarHandle") {Q : Option Value → Heap → List Loc → Prop} (hM : Ctr l Z h z bytes maxL ret [] rm as' Q) (eT : T.heap = h) (E : Exa Z h a C) (hsz : Ls.size = c.maxLocals)
    (hd : decode c.code pc = .ok (.invokevirtual index, 3)) (hlen : ∀ sig, parseMethodDescriptor y.desc = some sig → argsL.length = sig.parameters.length) (hst : S = argsL.reverse ++ .ref a :: rest) (has : (Value.ref a :: argsL).toArray = as')
    {W : Nat} (hW : 2 * 0 + (rest.map fun v => v.category).sum ≤ W) (hB : rm.frames + 1 ≤ R.frames ∧ W + (maxL + 11) + rm.locals ≤ R.locals ∧ cells + rm.cells ≤ R.cells ∧ slots + rm.slots ≤ R.slots)
    (g : ∀ (v : Option Value) (T' : State) (L : List Loc), Stand p l e R s m args below meth c T' (locs ++ L) (cells + rm.cells) (slots + rm.slots) → Q v T'.heap L → Go p e below K (T'.setTop (mkF m (pc + 3) Ls (v.toList ++ rest)))) : Go p e below K (T.setTop (mkF m pc Ls S)) := by
  obtain ⟨hf, hl, hc, hs⟩ := hB
  obtain ⟨cq, kq, q1, q2, q3⟩ := isOf hZ eT E
  obtain ⟨v, _, ⟨T', L', k', n'⟩, -, X', ⟨Lc, hQ, l', y', z'⟩, st⟩ := X.virtualBack hx (y := y) (z := z) hown (mvT hZ w1) (mvT hZ w2) hnf (mvT hZ w5) (mvT hZ w6) hy (backOf (W := W) hM hZ w4 w3 hf hl) q1 q3 (g := mkF m pc Ls S) rfl hsz (Steps.refl _) (argsL := argsL) (rest := rest) hlen hst hW hd (fun _ _ => ⟨has, eT, hc, hs⟩)
  dsimp only [Pt.U, Pt.locs, Pt.cells, Pt.slots] at X' l' y' z' st hQ
  subst l' y' z'
  exact Go.on st (g v T' Lc X' hQ)
theorem Go.priv {own : String} {index : Nat} {y : MethodName} {bytes : ByteArray} {maxL : Nat} {ret : Option FieldType} {rm : Room} {as' : Array Value} {argsL S : List Value} {C : String} (X : Stand p l e R s m args below meth c T locs cells slots) (hx : p.tables.exec = Jvm.exec) (hZ : Z.Warmed39 s.vm) (hown : s.vm.findClass own = some m.cls)
    (w1 : (Cond.methodLink own index y).before a0 Z = true) (w6 : (Cond.instanceMethod y).before a0 Z = true) (w5 : (Cond.selects y.cls y y).before a0 Z = true) (w7 : (Cond.privateMethod y).before a0 Z = true) (w3 : (Cond.initialized y.cls).before a0 Z = true) (w4 : (Cond.code y bytes maxL ret).before a0 Z = true)
    (hy : y.cls ≠ "java/lang/invoke/MethodHandle" ∧ y.cls ≠ "java/lang/invoke/VarHandle") {Q : Option Value → Heap → List Loc → Prop} (hM : Ctr l Z h y bytes maxL ret [] rm as' Q) (eT : T.heap = h) (E : Exa Z h a C) (hsz : Ls.size = c.maxLocals)
    (hd : decode c.code pc = .ok (.invokevirtual index, 3)) (hlen : ∀ sig, parseMethodDescriptor y.desc = some sig → argsL.length = sig.parameters.length) (hst : S = argsL.reverse ++ .ref a :: rest) (has : (Value.ref a :: argsL).toArray = as')
    {W : Nat} (hW : 2 * 0 + (rest.map fun v => v.category).sum ≤ W) (hB : rm.frames + 1 ≤ R.frames ∧ W + (maxL + 11) + rm.locals ≤ R.locals ∧ cells + rm.cells ≤ R.cells ∧ slots + rm.slots ≤ R.slots)
    (g : ∀ (v : Option Value) (T' : State) (L : List Loc), Stand p l e R s m args below meth c T' (locs ++ L) (cells + rm.cells) (slots + rm.slots) → Q v T'.heap L → Go p e below K (T'.setTop (mkF m (pc + 3) Ls (v.toList ++ rest)))) : Go p e below K (T.setTop (mkF m pc Ls S)) := by
  obtain ⟨hf, hl, hc, hs⟩ := hB
  obtain ⟨cq, q1, q2⟩ := E.cell
  subst eT
  obtain ⟨v, _, ⟨T', L', k', n'⟩, -, X', ⟨Lc, hQ, l', y', z'⟩, st⟩ := X.privateBack hx (y := y) hown (mvT hZ w1) (mvT hZ w6) (mvT hZ w5) (Cond.privateMethod_at (mvP hZ w7 (args := #[]))) (mvT hZ w4) hy (backOf (W := W) hM hZ w4 w3 hf hl) (g := mkF m pc Ls S) rfl hsz (Steps.refl _) (a := a) q1 q2 (argsL := argsL) (rest := rest) hlen hst hW hd (fun _ _ => ⟨has, rfl, hc, hs⟩)
  dsimp only [Pt.U, Pt.locs, Pt.cells, Pt.slots] at X' l' y' z' st hQ
  subst l' y' z'
  exact Go.on st (g v T' Lc X' hQ)
theorem Go.sup {own C : String} {index : Nat} {y : MethodName} {bytes : ByteArray} {maxL : Nat} {ret : Option FieldType} {rm : Room} {as' : Array Value} {argsL S : List Value} (X : Stand p l e R s m args below meth c T locs cells slots) (hx : p.tables.exec = Jvm.exec) (hZ : Z.Warmed39 s.vm) (hown : s.vm.findClass own = some m.cls)
    (w1 : (Cond.methodLink own index y).before a0 Z = true) (w2 : (Cond.sameMethod y.cls y.cls y.name y.desc).before a0 Z = true) (w6 : (Cond.instanceMethod y).before a0 Z = true) (w5 : (Cond.superclass own y.cls).before a0 Z = true) (hn : y.name ≠ "<init>") (w3 : (Cond.initialized y.cls).before a0 Z = true) (w4 : (Cond.code y bytes maxL ret).before a0 Z = true)
    {Q : Option Value → Heap → List Loc → Prop} (hM : Ctr l Z h y bytes maxL ret [] rm as' Q) (eT : T.heap = h) (E : Exa Z h a C) (hsz : Ls.size = c.maxLocals)
    (hd : decode c.code pc = .ok (.invokespecial index, 3)) (hlen : ∀ sig, parseMethodDescriptor y.desc = some sig → argsL.length = sig.parameters.length) (hst : S = argsL.reverse ++ .ref a :: rest) (has : (Value.ref a :: argsL).toArray = as')
    {W : Nat} (hW : 2 * 0 + (rest.map fun v => v.category).sum ≤ W) (hB : rm.frames + 1 ≤ R.frames ∧ W + (maxL + 11) + rm.locals ≤ R.locals ∧ cells + rm.cells ≤ R.cells ∧ slots + rm.slots ≤ R.slots)
    (g : ∀ (v : Option Value) (T' : State) (L : List Loc), Stand p l e R s m args below meth c T' (locs ++ L) (cells + rm.cells) (slots + rm.slots) → Q v T'.heap L → Go p e below K (T'.setTop (mkF m (pc + 3) Ls (v.toList ++ rest)))) : Go p e below K (T.setTop (mkF m pc Ls S)) := by
  obtain ⟨hf, hl, hc, hs⟩ := hB
  obtain ⟨v, _, ⟨T', L', k', n'⟩, -, X', ⟨Lc, hQ, l', y', z'⟩, st⟩ := superBack X hx hZ (y := y) hown w1 w2 w6 w5 hn (backOf (W := W) hM hZ w4 w3 hf hl) eT (Ins.self E) (g := mkF m pc Ls S) rfl hsz w4 (argsL := argsL) (rest := rest) hlen hst hW hd (fun _ _ => ⟨has, eT, hc, hs⟩)
  dsimp only [Pt.U, Pt.locs, Pt.cells, Pt.slots] at X' l' y' z' st hQ
  subst l' y' z'
  exact Go.on st (g v T' Lc X' hQ)
/-! arrays whose components are known -/
variable {cA : ClassId} {ty : FieldType} {z j : Int32} {vs : List Value} {dv : Value}
theorem Go.alen (X : Stand p l e R s m args below meth c T locs cells slots) (hx : p.tables.exec = Jvm.exec) (hZ : Z.Warmed39 s.vm) (eT : T.heap = h) (V : Arv Z h a cA ty z vs dv) (hd : decode c.code pc = .ok (.arraylength, 1))
    (g : Go p e below K (T.setTop (mkF m (pc + 1) Ls (.int z :: rest)))) : Go p e below K (T.setTop (mkF m pc Ls (.ref a :: rest))) := by
  obtain ⟨cl, A, -, S, N, -, -⟩ := V
  subst eT
  refine Go.by (fun t q => X.arraylength hx A.1 (State.isArrayOf_alike hZ.alike A.2.1) (g := mkF m pc Ls (.ref a :: rest)) rfl rfl hd _ q) ?_
  rw [len_of S N]
  exact g
def Lng (Z : State) (h : Heap) (a : Addr) (n : Int32) : Prop := ∃ (cl : Cell) (ty : FieldType), Arr Z h a cl ty ∧ cl.slots.size = n.toNatClampNeg ∧ ¬ n < 0
theorem Lng.ext (L : Lng Z h a z) (E : Ext h h') : Lng Z h' a z := by obtain ⟨cl, ty, A, r⟩ := L; exact ⟨cl, ty, A.ext E, r⟩
theorem Lng.lt (L : Lng Z h a z) : a < h.size := by obtain ⟨cl, ty, A, r⟩ := L; exact A.lt
theorem Lng.of {cl : Cell} (A : Arr Z h a cl ty) (q : cl.slots.size < 2 ^ 31) (e : cl.slots.size.toInt32 = z) (hz : ¬ z < 0) : Lng Z h a z := by
  refine ⟨cl, ty, A, ?_, hz⟩
  rw [← e]; simp only [Int32.toNatClampNeg, len_toInt q]; rfl
theorem cc (x : Int32) : nar .char x.toUInt32.toUInt16.toUInt32.toInt32 = x.toUInt32.toUInt16.toUInt32.toInt32 := by
  have h := Jvm.Free.XT.narrow_c x
  exact Value.int.inj h
theorem bb (x : Int32) : x.toInt8.toInt32.toInt8.toInt32 = x.toInt8.toInt32 := by simp
theorem Go.bal {v : Value} (X : Stand p l e R s m args below meth c T locs cells slots) (hx : p.tables.exec = Jvm.exec) (hZ : Z.Warmed39 s.vm) (eT : T.heap = h) (V : Arv Z h a cA .byte z vs dv) (hj : ¬ j < 0 ∧ j < z) (hv : vs.getD j.toNatClampNeg dv = v) (hd : decode c.code pc = .ok (.baload, 1))
    (g : Go p e below K (T.setTop (mkF m (pc + 1) Ls (v :: rest)))) : Go p e below K (T.setTop (mkF m pc Ls (.int j :: .ref a :: rest))) := by
  obtain ⟨cl, A, -, S, N, H, -⟩ := V
  subst eT
  have hin := inb_of S hj
  exact Go.by (fun t q => X.baloadBytes hx (j := j) (v := v) A.1 (State.isArrayOf_alike hZ.alike A.2.1) A.2.2 hin (H.at hin hv) (g := mkF m pc Ls (.int j :: .ref a :: rest)) rfl rfl hd _ q) g
theorem Go.cal {v : Value} (X : Stand p l e R s m args below meth c T locs cells slots) (hx : p.tables.exec = Jvm.exec) (hZ : Z.Warmed39 s.vm) (eT : T.heap = h) (V : Arv Z h a cA .char z vs dv) (hj : ¬ j < 0 ∧ j < z) (hv : vs.getD j.toNatClampNeg dv = v) (hd : decode c.code pc = .ok (.caload, 1))
    (g : Go p e below K (T.setTop (mkF m (pc + 1) Ls (v :: rest)))) : Go p e below K (T.setTop (mkF m pc Ls (.int j :: .ref a :: rest))) := by
  obtain ⟨cl, A, -, S, N, H, -⟩ := V
  subst eT
  have hin := inb_of S hj
  exact Go.by (fun t q => X.caload hx (j := j) (v := v) A.1 (State.isArrayOf_alike hZ.alike A.2.1) A.2.2 hin (H.at hin hv) (g := mkF m pc Ls (.int j :: .ref a :: rest)) rfl rfl hd _ q) g
theorem Go.bst {x : Int32} {i : Nat} (X : Stand p l e R s m args below meth c T locs cells slots) (hx : p.tables.exec = Jvm.exec) (hZ : Z.Warmed39 s.vm) (eT : T.heap = h) (V : Arv Z h a cA .byte z vs dv) (hj : ¬ j < 0 ∧ j < z) (hi : j.toNatClampNeg = i) (hl : i < vs.length) (hd : decode c.code pc = .ok (.bastore, 1))
    (g : ∀ (T' : State) (h' : Heap), Stand p l e R s m args below meth c T' (locs ++ [⟨a, j.toNatClampNeg⟩]) cells slots → T'.heap = h' → Wr h h' a j.toNatClampNeg (.int x.toInt8.toInt32) → Arv Z h' a cA .byte z (vs.set i (.int x.toInt8.toInt32)) dv → Go p e below K (T'.setTop (mkF m (pc + 1) Ls rest))) : Go p e below K (T.setTop (mkF m pc Ls (.int x :: .int j :: .ref a :: rest))) := by
  obtain ⟨cl, A, q1, S, N, H, G⟩ := V
  obtain ⟨T', h', X', e', W, st⟩ := stB X hx hZ eT A (j := j) (x := x) (inb_of S hj) (g := mkF m pc Ls (.int x :: .int j :: .ref a :: rest)) rfl rfl hd
  exact Go.by st (g T' h' X' e' W (Arv.set A q1 S N H G (fits_nar_byte _) W i hi hl))
theorem Go.cst {x : Int32} {i : Nat} (X : Stand p l e R s m args below meth c T locs cells slots) (hx : p.tables.exec = Jvm.exec) (hZ : Z.Warmed39 s.vm) (eT : T.heap = h) (V : Arv Z h a cA .char z vs dv) (hj : ¬ j < 0 ∧ j < z) (hi : j.toNatClampNeg = i) (hl : i < vs.length) (hd : decode c.code pc = .ok (.castore, 1))
    (g : ∀ (T' : State) (h' : Heap), Stand p l e R s m args below meth c T' (locs ++ [⟨a, j.toNatClampNeg⟩]) cells slots → T'.heap = h' → Wr h h' a j.toNatClampNeg (.int (nar .char x)) → Arv Z h' a cA .char z (vs.set i (.int (nar .char x))) dv → Go p e below K (T'.setTop (mkF m (pc + 1) Ls rest))) : Go p e below K (T.setTop (mkF m pc Ls (.int x :: .int j :: .ref a :: rest))) := by
  obtain ⟨cl, A, q1, S, N, H, G⟩ := V
  obtain ⟨T', h', X', e', W, st⟩ := stC X hx hZ eT A (j := j) (x := x) (inb_of S hj) (g := mkF m pc Ls (.int x :: .int j :: .ref a :: rest)) rfl rfl hd
  exact Go.by st (g T' h' X' e' W (Arv.set A q1 S N H G (fits_nar_char _) W i hi hl))
/-! from the case's words -/
theorem sta_exa {C f d K : String} (hx : (Cond.exactly (Term.static C f d) K).value args s none s [] = some true) (w1 : (Cond.initialized C).before args s = true) (w2 : (Cond.laysStatic C f d).before args s = true) : ∃ a, (Term.static C f d).eval args s none [] s = some (.ref a) ∧ Sta s s.heap C f d (.ref a) ∧ Exa s s.heap a K := by
  obtain ⟨a, ev⟩ := exa_v hx
  exact ⟨a, ev, Sta.start ev (Or.inr ⟨w1, w2⟩), Exa.start ev hx⟩
theorem fld_int {t : Term} {C f d : String} {z : Int32} (ev : t.eval args s none [] s = some (.ref a)) (hx : (Cond.eq (Term.field t C f d) (Term.int z)).value args s none s [] = some true) : Fld s s.heap a C f d (.int z) := by
  obtain ⟨x, y, e1, e2, k1, k2⟩ := cmp_v (Or.inl hx)
  have e3 : y = .int z := by rw [Term.int_eval] at e2; exact (Option.some.inj e2).symm
  subst e3
  obtain ⟨q, rfl⟩ : ∃ q, x = .int q := k2
  have e4 : q = z := by simpa [Cond.value, e1, e2] using hx
  subst e4
  rw [fld_at ev] at e1
  exact Fld.start e1
theorem eq_int {t : Term} {x z : Int32} (ev : t.eval args s none [] s = some (.int x)) (h : (Cond.eq t (Term.int z)).before args s = true) : x = z := by
  have q := Cond.before_iff.mp h
  simpa [Cond.value, ev, Term.int_eval] using q
theorem fld_ref {t : Term} {C f d : String} (ev : t.eval args s none [] s = some (.ref a)) (ev2 : (Term.field t C f d).eval args s none [] s = some (.ref b)) : Fld s s.heap a C f d (.ref b) := by
  rw [fld_at ev] at ev2; exact Fld.start ev2
theorem fld_null {t : Term} {C f d : String} (ev : t.eval args s none [] s = some (.ref a)) (hx : (Cond.eq (Term.field t C f d) Term.null).value args s none s [] = some true) : Fld s s.heap a C f d .null := by
  have q := null_v hx
  rw [fld_at ev] at q; exact Fld.start q
theorem fld_same {t u : Term} {C f d : String} (ev : t.eval args s none [] s = some (.ref a)) (ev2 : u.eval args s none [] s = some (.ref b)) (hx : (Cond.eq (Term.field t C f d) u).value args s none s [] = some true) : Fld s s.heap a C f d (.ref b) := by
  obtain ⟨x, y, e1, e2, k1, k2⟩ := cmp_v (Or.inl hx)
  cases ev2.symm.trans e2
  have hr : x.isRef = true := by
    have := k2
    simp [Kin] at this
    exact this.2
  rw [eq_R e1 e2 hr rfl] at hx
  have e3 : x = .ref b := by simpa using hx
  subst e3
  exact fld_ref ev e1
theorem elem_int {t : Term} {i v : Int32} {cl : Cell} {ty : FieldType} (ev : t.eval args s none [] s = some (.ref a)) (A : Arr s s.heap a cl ty) (hx : (Cond.eq (Term.elem t (Term.int i)) (Term.int v)).value args s none s [] = some true) : cl.slots[i.toNatClampNeg]? = some (.int v) := by
  obtain ⟨x, y, e1, e2, k1, k2⟩ := cmp_v (Or.inl hx)
  have e3 : y = .int v := by rw [Term.int_eval] at e2; exact (Option.some.inj e2).symm
  subst e3
  obtain ⟨q, rfl⟩ : ∃ q, x = .int q := k2
  have e4 : q = v := eq_int e1 (Cond.before_iff.mpr hx)
  subst e4
  exact (elem_in e1 ev (Term.int_eval _) A.1).2
theorem sta_int {C f d : String} (h0 : (Cond.initializedFor C f d).before args s = true) (h1 : (Cond.isInt (Term.static C f d)).before args s = true) : ∃ x, (Term.static C f d).eval args s none [] s = some (.int x) ∧ Sta s s.heap C f d (.int x) := by
  obtain ⟨x, ev⟩ := is_v (Cond.before_iff.mp h1)
  exact ⟨x, ev, Sta.start ev (Or.inl h0)⟩
theorem sta_ref {C f d : String} (h0 : (Cond.initializedFor C f d).before args s = true) (h1 : (Cond.isRef (Term.static C f d)).before args s = true) : ∃ x, (Term.static C f d).eval args s none [] s = some x ∧ x.isRef = true ∧ Sta s s.heap C f d x := by
  obtain ⟨x, ev, hr⟩ := isR_v (Cond.before_iff.mp h1)
  exact ⟨x, ev, hr, Sta.start ev (Or.inl h0)⟩
theorem ne_int {t : Term} {x z : Int32} (ev : t.eval args s none [] s = some (.int x)) (h : (Cond.not (Cond.eq t (Term.int z))).before args s = true) : ¬ x = z := by
  have q := not_v (Cond.before_iff.mp h)
  intro e; subst e
  rw [eq_i ev (Term.int_eval _) rfl] at q
  cases q
/-! a class whose superclasses are named is not one that can be instantiated and isn't among them -/
theorem ns_root {O D : String} {nn : Nat} (w : (Cond.noSuperclass O).before a0 Z = true) (wk : (Cond.instantiable D nn).before a0 Z = true) (hn : O ≠ D) : NS Z O D := by
  obtain ⟨c1, k1, q1, q2, q3, -, -⟩ := Cond.noSuperclass_spec w
  obtain ⟨t, -, g1, -⟩ := Cond.instantiable_spec wk
  refine ⟨c1, t, q1, g1, fun fuel => ?_⟩
  have ne := ids_ne q1 g1 hn
  cases fuel <;> simp [Vm.isSubclassAux, ne, q2, q3]
theorem ns_no {C S D : String} {nn : Nat} (w : (Cond.superclass C S).before a0 Z = true) (wk : (Cond.instantiable D nn).before a0 Z = true) (n : NS Z C D) (hn : C ≠ D) : ∃ c t, Z.vm.findClass C = some c ∧ Z.vm.findClass D = some t ∧ Z.vm.assignable c t = false := by
  obtain ⟨c1, t, q0, g0, n3⟩ := n
  obtain ⟨p1, k1, kp, q1, q2, q3, q4, q5, -, q7⟩ := Cond.superclass_spec q0 w
  obtain ⟨t', k2, g1, g2, g3, g4, -⟩ := Cond.instantiable_spec wk
  cases g0.symm.trans g1
  have ne := ids_ne q0 g0 hn
  have g5 : k2.isInterface = false := by simpa using (Bool.or_eq_false_iff.mp g4).1
  refine ⟨c1, t, q0, g0, ?_⟩
  show Z.vm.assignableAux (255 + 1) c1 t = false
  simp [Vm.assignableAux, ne, q2, g2, q5, g3, g5, Vm.isSubclass, n3]
end Own
end Jvm.RoadKit
namespace Jvm.RoadKit
open Sem ClassFile Op Lib Jvm.Stand Jvm.Free Jvm.LawKit
section OwnSteps
variable {p : Program} {l : Launch} {e : Env} {R : Room} {s : State} {m : MethodId} {args : Array Value} {below : List Frame} {meth : Method} {c : Code} {T : State} {locs : List Loc} {cells slots : Nat} {K : State → Outcome → Prop} {pc q : Nat} {Ls l' : Array Slot} {S : List Value}
theorem Go.iloadN {k : Fin 4} {v : Int32} (X : Stand p l e R s m args below meth c T locs cells slots) (hx : p.tables.exec = Jvm.exec) (hd : decode c.code pc = .ok (.iload_n k, 1)) (hl : Ls[k.val]? = some (.val (.int v))) (hp : pc + 1 = q) (g : Go p e below K (T.setTop (mkF m q Ls (.int v :: S)))) : Go p e below K (T.setTop (mkF m pc Ls S)) := by
  subst hp
  exact Go.by (fun t z => XS.iloadN X.here hx rfl hd hl z) g
theorem Go.iload {k : Nat} {v : Int32} (X : Stand p l e R s m args below meth c T locs cells slots) (hx : p.tables.exec = Jvm.exec) (hd : decode c.code pc = .ok (.iload k, 2)) (hl : Ls[k]? = some (.val (.int v))) (hp : pc + 2 = q) (g : Go p e below K (T.setTop (mkF m q Ls (.int v :: S)))) : Go p e below K (T.setTop (mkF m pc Ls S)) := by
  subst hp
  exact Go.by (fun t z => XS.iload X.here hx rfl hd hl z) g
theorem Go.istoreN {k : Fin 4} {v : Int32} (X : Stand p l e R s m args below meth c T locs cells slots) (hx : p.tables.exec = Jvm.exec) (hd : decode c.code pc = .ok (.istore_n k, 1)) (hl : storeLocals Ls k.val (.int v) = some l') (hp : pc + 1 = q) (g : Go p e below K (T.setTop (mkF m q l' S))) : Go p e below K (T.setTop (mkF m pc Ls (.int v :: S))) := by
  subst hp
  exact Go.by (fun t z => XS.istoreN X.here hx rfl hd rfl hl z) g
theorem Go.istore {k : Nat} {v : Int32} (X : Stand p l e R s m args below meth c T locs cells slots) (hx : p.tables.exec = Jvm.exec) (hd : decode c.code pc = .ok (.istore k, 2)) (hl : storeLocals Ls k (.int v) = some l') (hp : pc + 2 = q) (g : Go p e below K (T.setTop (mkF m q l' S))) : Go p e below K (T.setTop (mkF m pc Ls (.int v :: S))) := by
  subst hp
  exact Go.by (fun t z => XS.istore X.here hx rfl hd rfl hl z) g
theorem Go.aloadN {k : Fin 4} {v : Value} (X : Stand p l e R s m args below meth c T locs cells slots) (hx : p.tables.exec = Jvm.exec) (hd : decode c.code pc = .ok (.aload_n k, 1)) (hl : Ls[k.val]? = some (.val v)) (hv : v.isRef = true) (hp : pc + 1 = q) (g : Go p e below K (T.setTop (mkF m q Ls (v :: S)))) : Go p e below K (T.setTop (mkF m pc Ls S)) := by
  subst hp
  exact Go.by (fun t z => XS.aloadN X.here hx rfl hd hl hv z) g
theorem Go.aload {k : Nat} {v : Value} (X : Stand p l e R s m args below meth c T locs cells slots) (hx : p.tables.exec = Jvm.exec) (hd : decode c.code pc = .ok (.aload k, 2)) (hl : Ls[k]? = some (.val v)) (hv : v.isRef = true) (hp : pc + 2 = q) (g : Go p e below K (T.setTop (mkF m q Ls (v :: S)))) : Go p e below K (T.setTop (mkF m pc Ls S)) := by
  subst hp
  exact Go.by (fun t z => XS.aload X.here hx rfl hd hl hv z) g
theorem Go.astoreN {k : Fin 4} {v : Value} (X : Stand p l e R s m args below meth c T locs cells slots) (hx : p.tables.exec = Jvm.exec) (hd : decode c.code pc = .ok (.astore_n k, 1)) (hv : v.isRef = true) (hl : storeLocals Ls k.val v = some l') (hp : pc + 1 = q) (g : Go p e below K (T.setTop (mkF m q l' S))) : Go p e below K (T.setTop (mkF m pc Ls (v :: S))) := by
  subst hp
  exact Go.by (fun t z => XS.astoreN X.here hx rfl hd rfl hv hl z) g
theorem Go.astore {k : Nat} {v : Value} (X : Stand p l e R s m args below meth c T locs cells slots) (hx : p.tables.exec = Jvm.exec) (hd : decode c.code pc = .ok (.astore k, 2)) (hv : v.isRef = true) (hl : storeLocals Ls k v = some l') (hp : pc + 2 = q) (g : Go p e below K (T.setTop (mkF m q l' S))) : Go p e below K (T.setTop (mkF m pc Ls (v :: S))) := by
  subst hp
  exact Go.by (fun t z => XS.astore X.here hx rfl hd rfl hv hl z) g
theorem Go.iconst {i : Int} {r : Int32} (X : Stand p l e R s m args below meth c T locs cells slots) (hx : p.tables.exec = Jvm.exec) (hd : decode c.code pc = .ok (.iconst i, 1)) (hr : Int32.ofInt i = r) (hp : pc + 1 = q) (g : Go p e below K (T.setTop (mkF m q Ls (.int r :: S)))) : Go p e below K (T.setTop (mkF m pc Ls S)) := by
  subst hp hr
  exact Go.by (fun t z => XS.iconst X.here hx rfl hd z) g
theorem Go.bipush {i : Int} {r : Int32} (X : Stand p l e R s m args below meth c T locs cells slots) (hx : p.tables.exec = Jvm.exec) (hd : decode c.code pc = .ok (.bipush i, 2)) (hr : (Int8.ofInt i).toInt32 = r) (hp : pc + 2 = q) (g : Go p e below K (T.setTop (mkF m q Ls (.int r :: S)))) : Go p e below K (T.setTop (mkF m pc Ls S)) := by
  subst hp hr
  exact Go.by (fun t z => XS.bipush X.here hx rfl hd z) g
theorem Go.sipush {i : Int} {r : Int32} (X : Stand p l e R s m args below meth c T locs cells slots) (hx : p.tables.exec = Jvm.exec) (hd : decode c.code pc = .ok (.sipush i, 3)) (hr : (Int16.ofInt i).toInt32 = r) (hp : pc + 3 = q) (g : Go p e below K (T.setTop (mkF m q Ls (.int r :: S)))) : Go p e below K (T.setTop (mkF m pc Ls S)) := by
  subst hp hr
  exact Go.by (fun t z => XS.sipush X.here hx rfl hd z) g
theorem Go.aconst_null  (X : Stand p l e R s m args below meth c T locs cells slots) (hx : p.tables.exec = Jvm.exec) (hd : decode c.code pc = .ok (.aconst_null, 1)) (hp : pc + 1 = q) (g : Go p e below K (T.setTop (mkF m q Ls (.null :: S)))) : Go p e below K (T.setTop (mkF m pc Ls S)) := by
  subst hp
  exact Go.by (fun t z => XS.aconstNull X.here hx rfl hd z) g
theorem Go.iadd {x y r : Int32} (X : Stand p l e R s m args below meth c T locs cells slots) (hx : p.tables.exec = Jvm.exec) (hd : decode c.code pc = .ok (.iadd, 1)) (hr : x + y = r) (hp : pc + 1 = q) (g : Go p e below K (T.setTop (mkF m q Ls (.int r :: S)))) : Go p e below K (T.setTop (mkF m pc Ls (.int y :: .int x :: S))) := by
  subst hp hr
  exact Go.by (fun t z => XS.iadd X.here hx rfl hd rfl z) g
theorem Go.isub {x y r : Int32} (X : Stand p l e R s m args below meth c T locs cells slots) (hx : p.tables.exec = Jvm.exec) (hd : decode c.code pc = .ok (.isub, 1)) (hr : x - y = r) (hp : pc + 1 = q) (g : Go p e below K (T.setTop (mkF m q Ls (.int r :: S)))) : Go p e below K (T.setTop (mkF m pc Ls (.int y :: .int x :: S))) := by
  subst hp hr
  exact Go.by (fun t z => XS.isub X.here hx rfl hd rfl z) g
theorem Go.iand {x y r : Int32} (X : Stand p l e R s m args below meth c T locs cells slots) (hx : p.tables.exec = Jvm.exec) (hd : decode c.code pc = .ok (.iand, 1)) (hr : x &&& y = r) (hp : pc + 1 = q) (g : Go p e below K (T.setTop (mkF m q Ls (.int r :: S)))) : Go p e below K (T.setTop (mkF m pc Ls (.int y :: .int x :: S))) := by
  subst hp hr
  exact Go.by (fun t z => XS.iand X.here hx rfl hd rfl z) g
theorem Go.ishl {x y r : Int32} (X : Stand p l e R s m args below meth c T locs cells slots) (hx : p.tables.exec = Jvm.exec) (hd : decode c.code pc = .ok (.ishl, 1)) (hr : x <<< (y &&& 31) = r) (hp : pc + 1 = q) (g : Go p e below K (T.setTop (mkF m q Ls (.int r :: S)))) : Go p e below K (T.setTop (mkF m pc Ls (.int y :: .int x :: S))) := by
  subst hp hr
  exact Go.by (fun t z => XS.ishl X.here hx rfl hd rfl z) g
theorem Go.ishr {x y r : Int32} (X : Stand p l e R s m args below meth c T locs cells slots) (hx : p.tables.exec = Jvm.exec) (hd : decode c.code pc = .ok (.ishr, 1)) (hr : x >>> (y &&& 31) = r) (hp : pc + 1 = q) (g : Go p e below K (T.setTop (mkF m q Ls (.int r :: S)))) : Go p e below K (T.setTop (mkF m pc Ls (.int y :: .int x :: S))) := by
  subst hp hr
  exact Go.by (fun t z => XS.ishr X.here hx rfl hd rfl z) g
theorem Go.iushr {x y r : Int32} (X : Stand p l e R s m args below meth c T locs cells slots) (hx : p.tables.exec = Jvm.exec) (hd : decode c.code pc = .ok (.iushr, 1)) (hr : (x.toUInt32 >>> (y &&& 31).toUInt32).toInt32 = r) (hp : pc + 1 = q) (g : Go p e below K (T.setTop (mkF m q Ls (.int r :: S)))) : Go p e below K (T.setTop (mkF m pc Ls (.int y :: .int x :: S))) := by
  subst hp hr
  exact Go.by (fun t z => XS.iushr X.here hx rfl hd rfl z) g
theorem Go.i2b {x : Int32} {r : Int32} (X : Stand p l e R s m args below meth c T locs cells slots) (hx : p.tables.exec = Jvm.exec) (hd : decode c.code pc = .ok (.i2b, 1)) (hr : x.toInt8.toInt32 = r) (hp : pc + 1 = q) (g : Go p e below K (T.setTop (mkF m q Ls (.int r :: S)))) : Go p e below K (T.setTop (mkF m pc Ls (.int x :: S))) := by
  subst hp hr
  exact Go.by (fun t z => XS.i2b X.here hx rfl hd rfl z) g
theorem Go.i2c {x : Int32} {r : Int32} (X : Stand p l e R s m args below meth c T locs cells slots) (hx : p.tables.exec = Jvm.exec) (hd : decode c.code pc = .ok (.i2c, 1)) (hr : x.toUInt32.toUInt16.toUInt32.toInt32 = r) (hp : pc + 1 = q) (g : Go p e below K (T.setTop (mkF m q Ls (.int r :: S)))) : Go p e below K (T.setTop (mkF m pc Ls (.int x :: S))) := by
  subst hp hr
  exact Go.by (fun t z => XS.i2c X.here hx rfl hd rfl z) g
theorem Go.iinc {k : Nat} {cst : Int} {x r : Int32} (X : Stand p l e R s m args below meth c T locs cells slots) (hx : p.tables.exec = Jvm.exec) (hd : decode c.code pc = .ok (.iinc k cst, 3)) (hl : Ls[k]? = some (.val (.int x))) (hr : x + Int32.ofInt cst = r) (hl' : storeLocals Ls k (.int r) = some l') (hp : pc + 3 = q) (g : Go p e below K (T.setTop (mkF m q l' S))) : Go p e below K (T.setTop (mkF m pc Ls S)) := by
  subst hp hr
  exact Go.by (fun t z => XS.iinc X.here hx rfl hd hl hl' z) g
theorem Go.dup {x : Value} (X : Stand p l e R s m args below meth c T locs cells slots) (hx : p.tables.exec = Jvm.exec) (hd : decode c.code pc = .ok (.dup, 1)) (hc : x.category = 1) (hp : pc + 1 = q) (g : Go p e below K (T.setTop (mkF m q Ls (x :: x :: S)))) : Go p e below K (T.setTop (mkF m pc Ls (x :: S))) := by
  subst hp
  exact Go.by (fun t z => XS.dup X.here hx rfl hd rfl hc z) g
theorem Go.dup_x1 {x y : Value} (X : Stand p l e R s m args below meth c T locs cells slots) (hx : p.tables.exec = Jvm.exec) (hd : decode c.code pc = .ok (.dup_x1, 1)) (hc : x.category = 1) (hc2 : y.category = 1) (hp : pc + 1 = q) (g : Go p e below K (T.setTop (mkF m q Ls (x :: y :: x :: S)))) : Go p e below K (T.setTop (mkF m pc Ls (x :: y :: S))) := by
  subst hp
  exact Go.by (fun t z => XS.dupX1 X.here hx rfl hd rfl hc hc2 z) g
theorem Go.pop {x : Value} (X : Stand p l e R s m args below meth c T locs cells slots) (hx : p.tables.exec = Jvm.exec) (hd : decode c.code pc = .ok (.pop, 1)) (hc : x.category = 1) (hp : pc + 1 = q) (g : Go p e below K (T.setTop (mkF m q Ls S))) : Go p e below K (T.setTop (mkF m pc Ls (x :: S))) := by
  subst hp
  exact Go.by (fun t z => XS.pop X.here hx rfl hd rfl hc z) g
theorem Go.goto  {o : Int} (X : Stand p l e R s m args below meth c T locs cells slots) (hx : p.tables.exec = Jvm.exec) (hd : decode c.code pc = .ok (.goto o, 3)) (ho : 0 ≤ (pc : Int) + o) (hp : ((pc : Int) + o).toNat = q) (g : Go p e below K (T.setTop (mkF m q Ls S))) : Go p e below K (T.setTop (mkF m pc Ls S)) :=
  Go.by (fun t z => XS.goto X.here hx rfl (pc0 := pc) rfl hd ho hp z) g
theorem Go.ifYes {cd : ClassFile.Cond} {x : Int32} {o : Int} (X : Stand p l e R s m args below meth c T locs cells slots) (hx : p.tables.exec = Jvm.exec) (hd : decode c.code pc = .ok (.ifCond cd o, 3)) (hc : ifCond.holds cd x = true) (ho : 0 ≤ (pc : Int) + o) (hp : ((pc : Int) + o).toNat = q) (g : Go p e below K (T.setTop (mkF m q Ls S))) : Go p e below K (T.setTop (mkF m pc Ls (.int x :: S))) :=
  Go.by (fun t z => XS.ifYes X.here hx rfl (pc0 := pc) rfl hd rfl hc ho hp z) g
theorem Go.icmpYes {cd : ClassFile.Cond} {x y : Int32} {o : Int} (X : Stand p l e R s m args below meth c T locs cells slots) (hx : p.tables.exec = Jvm.exec) (hd : decode c.code pc = .ok (.if_icmp cd o, 3)) (hc : if_icmp.holds cd x y = true) (ho : 0 ≤ (pc : Int) + o) (hp : ((pc : Int) + o).toNat = q) (g : Go p e below K (T.setTop (mkF m q Ls S))) : Go p e below K (T.setTop (mkF m pc Ls (.int y :: .int x :: S))) :=
  Go.by (fun t z => XS.icmpYes X.here hx rfl (pc0 := pc) rfl hd rfl hc ho hp z) g
theorem Go.ifnonnullYes {b : Addr} {o : Int} (X : Stand p l e R s m args below meth c T locs cells slots) (hx : p.tables.exec = Jvm.exec) (hd : decode c.code pc = .ok (.ifnonnull o, 3)) (ho : 0 ≤ (pc : Int) + o) (hp : ((pc : Int) + o).toNat = q) (g : Go p e below K (T.setTop (mkF m q Ls S))) : Go p e below K (T.setTop (mkF m pc Ls (.ref b :: S))) :=
  Go.by (fun t z => XS.ifnonnullYes X.here hx rfl (pc0 := pc) rfl hd rfl ho hp z) g
theorem Go.ifNo {cd : ClassFile.Cond} {x : Int32} {o : Int} (X : Stand p l e R s m args below meth c T locs cells slots) (hx : p.tables.exec = Jvm.exec) (hd : decode c.code pc = .ok (.ifCond cd o, 3)) (hc : ifCond.holds cd x = false) (hp : pc + 3 = q) (g : Go p e below K (T.setTop (mkF m q Ls S))) : Go p e below K (T.setTop (mkF m pc Ls (.int x :: S))) := by
  subst hp
  exact Go.by (fun t z => XS.ifNo X.here hx rfl hd rfl hc z) g
theorem Go.icmpNo {cd : ClassFile.Cond} {x y : Int32} {o : Int} (X : Stand p l e R s m args below meth c T locs cells slots) (hx : p.tables.exec = Jvm.exec) (hd : decode c.code pc = .ok (.if_icmp cd o, 3)) (hc : if_icmp.holds cd x y = false) (hp : pc + 3 = q) (g : Go p e below K (T.setTop (mkF m q Ls S))) : Go p e below K (T.setTop (mkF m pc Ls (.int y :: .int x :: S))) := by
  subst hp
  exact Go.by (fun t z => XS.icmpNo X.here hx rfl hd rfl hc z) g
theorem Go.acmp {cd : ACond} {x y : Value} {o : Int} {same : Bool} (X : Stand p l e R s m args below meth c T locs cells slots) (hx : p.tables.exec = Jvm.exec) (h1 : x.isRef = true) (h2 : y.isRef = true) (hd : decode c.code pc = .ok (.if_acmp cd o, 3)) (hq : decide (x = y) = same) (ho : 0 ≤ (pc : Int) + o) (hp : q = if acV cd same = true then ((pc : Int) + o).toNat else pc + 3) (g : Go p e below K (T.setTop (mkF m q Ls S))) : Go p e below K (T.setTop (mkF m pc Ls (y :: x :: S))) :=
  Go.by (fun t z => Jvm.RoadKit.acmp (g := mkF m pc Ls (y :: x :: S)) X hx rfl h1 h2 (pc0 := pc) (same := same) rfl hd rfl hq ho hp z) g
variable {Z : State} {a0 : Array Value} {h : Heap} {own R0 O n d host C : String} {index kk : Nat} {a : Addr} {v v' old : Value} {ty : FieldType}
theorem Go.getF (X : Stand p l e R s m args below meth c T locs cells slots) (hx : p.tables.exec = Jvm.exec) (hZ : Z.Warmed39 s.vm) (hown : s.vm.findClass own = some m.cls) (w : (Cond.fieldLink own index R0 n d).before a0 Z = true ∨ (Cond.fieldLinkNest own index R0 n d host).before a0 Z = true) (via : Via Z R0 O n d) (eT : T.heap = h) (F : Fld Z h a O n d v) (hd : decode c.code pc = .ok (.getfield index, 3)) (hp : pc + 3 = q)
    (g : ∀ T', Stand p l e R s m args below meth c T' locs cells slots → T'.heap = h → Go p e below K (T'.setTop (mkF m q Ls (v :: S)))) : Go p e below K (T.setTop (mkF m pc Ls (.ref a :: S))) := by
  subst hp
  obtain ⟨T', X', e', st⟩ := Jvm.RoadKit.getF X hx hZ hown w via eT F (g := mkF m pc Ls (.ref a :: S)) rfl rfl hd
  exact Go.by st (g T' X' e')
theorem Go.getS (X : Stand p l e R s m args below meth c T locs cells slots) (hx : p.tables.exec = Jvm.exec) (hZ : Z.Warmed39 s.vm) (hown : s.vm.findClass own = some m.cls) (w : (Cond.fieldLink own index R0 n d).before a0 Z = true ∨ (Cond.fieldLinkNest own index R0 n d host).before a0 Z = true) (via : Via Z R0 O n d) (eT : T.heap = h) (F : Sta Z h O n d v) (hd : decode c.code pc = .ok (.getstatic index, 3)) (hp : pc + 3 = q)
    (g : ∀ T', Stand p l e R s m args below meth c T' locs cells slots → T'.heap = h → Go p e below K (T'.setTop (mkF m q Ls (v :: S)))) : Go p e below K (T.setTop (mkF m pc Ls S)) := by
  subst hp
  obtain ⟨T', X', e', st⟩ := Jvm.RoadKit.getS2 X hx hZ hown w via eT F (g := mkF m pc Ls S) rfl hd
  exact Go.by st (g T' X' e')
theorem Go.putF (X : Stand p l e R s m args below meth c T locs cells slots) (hx : p.tables.exec = Jvm.exec) (hZ : Z.Warmed39 s.vm) (hown : s.vm.findClass own = some m.cls) (w : (Cond.fieldLink own index R0 n d).before a0 Z = true ∨ (Cond.fieldLinkNest own index R0 n d host).before a0 Z = true) (via : Via Z R0 O n d) (eT : T.heap = h) (F : Fld Z h a O n d old) (E : Exa Z h a C)
    (L : (Cond.lays C O n d).before a0 Z = true ∨ ((Cond.laysFinal C O n d).before a0 Z = true ∧ own = O ∧ meth.name = "<init>")) (wi : (Cond.instantiable C kk).before a0 Z = true) (hty : parseFieldDescriptor d = some ty) (hn : narrow ty v = v) (hf : fits ty v = true) (hd : decode c.code pc = .ok (.putfield index, 3)) (hp : pc + 3 = q)
    (g : ∀ T' h', Stand p l e R s m args below meth c T' (locs ++ [⟨a, slotOf Z O n d⟩]) cells slots → T'.heap = h' → Wr h h' a (slotOf Z O n d) v → Fld Z h' a O n d v → Go p e below K (T'.setTop (mkF m q Ls S))) : Go p e below K (T.setTop (mkF m pc Ls (v :: .ref a :: S))) := by
  subst hp
  obtain ⟨T', h', X', e', W, st⟩ := Jvm.RoadKit.putF X hx hZ hown w via eT F E L wi hty hn hf (g := mkF m pc Ls (v :: .ref a :: S)) rfl rfl hd
  exact Go.by st (g T' h' X' e' W (F.same W))
theorem Go.newO {nn : Nat} (X : Stand p l e R s m args below meth c T locs cells slots) (hx : p.tables.exec = Jvm.exec) (hZ : Z.Warmed39 s.vm) (hown : s.vm.findClass own = some m.cls) (w : (Cond.classLink own index C).before a0 Z = true) (wi : (Cond.instantiable C nn).before a0 Z = true) (wz : (Cond.initialized C).before a0 Z = true) (eT : T.heap = h) (hd : decode c.code pc = .ok (.new index, 3)) (hc : cells + 1 ≤ R.cells) (hl : slots + nn ≤ R.slots) (hp : pc + 3 = q)
    (g : ∀ (b : Addr) T' h', Stand p l e R s m args below meth c T' locs (cells + 1) (slots + nn) → T'.heap = h' → h.size = b → Ext h h' → Exa Z h' b C → (∀ {O nm d : String} {ty : FieldType}, Laid Z a0 C O nm d → parseFieldDescriptor d = some ty → Fld Z h' b O nm d (defaultValue ty)) → Unt h' b → Go p e below K (T'.setTop (mkF m q Ls (.ref b :: S)))) : Go p e below K (T.setTop (mkF m pc Ls S)) := by
  subst hp
  obtain ⟨T', h', X', e', E, A, D, U, st⟩ := Jvm.RoadKit.newO X hx hZ hown w wi wz eT (g := mkF m pc Ls S) rfl hd hc hl
  exact Go.by st (g _ T' h' X' e' rfl E A D U)
theorem Go.newP {aty : ArrayType} {z : Int32} {ad : String} {cap : Nat} (X : Stand p l e R s m args below meth c T locs cells slots) (hx : p.tables.exec = Jvm.exec) (hZ : Z.Warmed39 s.vm) (hd : decode c.code pc = .ok (.newarray aty, 2)) (w : (Cond.arrayClass (newarray.typeOf aty)).before a0 Z = true) (eT : T.heap = h) (hn : ¬ z < 0) (hcap : z.toNatClampNeg ≤ cap) (hb : cap * 8 ≤ 536870912) (hc : cells + 1 ≤ R.cells) (hl : slots + cap ≤ R.slots) (had : "[" ++ (newarray.typeOf aty).toString = ad) (hp : pc + 2 = q)
    (g : ∀ (b : Addr) T' h' cA, Stand p l e R s m args below meth c T' locs (cells + 1) (slots + cap) → T'.heap = h' → h.size = b → Ext h h' → Arv Z h' b cA (newarray.typeOf aty) z [] (defaultValue (newarray.typeOf aty)) → Exa Z h' b ad → Go p e below K (T'.setTop (mkF m q Ls (.ref b :: S)))) : Go p e below K (T.setTop (mkF m pc Ls (.int z :: S))) := by
  subst hp
  obtain ⟨T', h', cA, X', e', E, A, B, st⟩ := Jvm.RoadKit.newPE X hx hZ w eT (g := mkF m pc Ls (.int z :: S)) rfl hd rfl hn hcap hb hc hl had
  exact Go.by st (g _ T' h' cA X' e' rfl E (Arv.new A hn) B)
theorem Go.initO (X : Stand p l e R s m args below meth c T locs cells slots) (hx : p.tables.exec = Jvm.exec) (hZ : Z.Warmed39 s.vm) (hown : s.vm.findClass own = some m.cls) (w1 : (Cond.methodLink own index Lib.objectInit).before a0 Z = true) (w2 : (Cond.instanceMethod Lib.objectInit).before a0 Z = true) (w3 : (Cond.code Lib.objectInit ⟨#[0xb1]⟩ 1 none).before a0 Z = true) (eT : T.heap = h) (hsz : Ls.size = c.maxLocals) (hd : decode c.code pc = .ok (.invokespecial index, 3)) (hf : 1 ≤ R.frames) {W : Nat} (hW : 2 * 0 + (S.map fun v => v.category).sum ≤ W) (hl : W + 12 ≤ R.locals) (hp : pc + 3 = q)
    (g : ∀ T', Stand p l e R s m args below meth c T' locs cells slots → T'.heap = h → Go p e below K (T'.setTop (mkF m q Ls S))) : Go p e below K (T.setTop (mkF m pc Ls (.ref a :: S))) := by
  subst hp
  obtain ⟨T', X', e', st⟩ := Jvm.RoadKit.initO X hx hZ hown w1 w2 w3 eT (g := mkF m pc Ls (.ref a :: S)) rfl hsz rfl hd hf hW hl
  exact Go.by st (g T' X' e')
theorem Go.castY {D : String} (X : Stand p l e R s m args below meth c T locs cells slots) (hx : p.tables.exec = Jvm.exec) (hZ : Z.Warmed39 s.vm) (hown : s.vm.findClass own = some m.cls) (w : (Cond.classLink own index D).before a0 Z = true) (eT : T.heap = h) (F : Ins Z h a D true) (hd : decode c.code pc = .ok (.checkcast index, 3)) (hp : pc + 3 = q)
    (g : ∀ T', Stand p l e R s m args below meth c T' locs cells slots → T'.heap = h → Go p e below K (T'.setTop (mkF m q Ls (.ref a :: S)))) : Go p e below K (T.setTop (mkF m pc Ls (.ref a :: S))) := by
  subst hp
  obtain ⟨T', X', e', st⟩ := Jvm.RoadKit.castY X hx hZ hown w eT F (g := mkF m pc Ls (.ref a :: S)) rfl rfl hd
  exact Go.by st (g T' X' e')
theorem Go.instY {D : String} (X : Stand p l e R s m args below meth c T locs cells slots) (hx : p.tables.exec = Jvm.exec) (hZ : Z.Warmed39 s.vm) (hown : s.vm.findClass own = some m.cls) (w : (Cond.classLink own index D).before a0 Z = true) (eT : T.heap = h) (F : Ins Z h a D true) (hd : decode c.code pc = .ok (.instanceof index, 3)) (hp : pc + 3 = q)
    (g : ∀ T', Stand p l e R s m args below meth c T' locs cells slots → T'.heap = h → Go p e below K (T'.setTop (mkF m q Ls (.int 1 :: S)))) : Go p e below K (T.setTop (mkF m pc Ls (.ref a :: S))) := by
  subst hp
  obtain ⟨T', X', e', st⟩ := Jvm.RoadKit.instY X hx hZ hown w eT F (g := mkF m pc Ls (.ref a :: S)) rfl rfl hd
  exact Go.by st (g T' X' e')
theorem Go.ldcI {z : Int32} (X : Stand p l e R s m args below meth c T locs cells slots) (hx : p.tables.exec = Jvm.exec) (hZ : Z.Warmed39 s.vm) (hown : s.vm.findClass own = some m.cls) (w : (Cond.constant own index z).before a0 Z = true) (hd : decode c.code pc = .ok (.ldc index, 2)) (hp : pc + 2 = q) (g : Go p e below K (T.setTop (mkF m q Ls (.int z :: S)))) : Go p e below K (T.setTop (mkF m pc Ls S)) := by
  subst hp
  exact Go.by (X.ldcInt hx hown (mvT hZ w) (g := mkF m pc Ls S) rfl hd) g

end OwnSteps
end Jvm.RoadKit
namespace Jvm.RoadKit
open Sem ClassFile Op Lib Jvm.Stand Jvm.Free Jvm.LawKit
section OwnRefs
variable {p : Program} {l : Launch} {e : Env} {R : Room} {s : State} {m : MethodId} {args : Array Value} {below : List Frame} {meth : Method} {c : Code} {T T' : State} {locs : List Loc} {cells slots : Nat} {Z : State} {a0 : Array Value} {h h' h0 : Heap} {K : State → Outcome → Prop} {pc q : Nat} {Ls : Array Slot} {rest S : List Value} {k n : Nat} {a b : Addr} {cA : ClassId} {ty : FieldType} {z j : Int32} {vs : List Value} {dv : Value}
theorem own_selp {C : String} {x' y y' : MethodName} (hs : (Cond.selects C x' y').before a0 Z = true) (hc : y'.cls = y.cls) (w6 : (Cond.instanceMethod y).before a0 Z = true) (w7 : (Cond.privateMethod y).before a0 Z = true) (hy : y.cls ≠ "java/lang/invoke/MethodHandle" ∧ y.cls ≠ "java/lang/invoke/VarHandle") : (Cond.selects y.cls y y).before a0 Z = true := by
  obtain ⟨c2, r2, m2, q1, -, q3, -, kP, hkP, hkPi⟩ := Cond.selects_spec hs
  have q4 := findClass_of_methodNamed q3
  rw [hc] at q4
  exact selects_self_of_private q4 hkP hkPi (Cond.privateMethod_at w7) w6 hy
theorem own_nf {C : String} {x' z' y : MethodName} (hs : (Cond.selects C x' z').before args s = true) (hc : z'.cls = y.cls) : NotFace s y := fun r0 h0 => by
  obtain ⟨c2, r2, m2, -, -, q3, -, kP, hkP, hkPi⟩ := Cond.selects_spec hs
  have q4 := findClass_of_methodNamed q3
  have q5 := findClass_of_methodNamed h0
  rw [hc, q5] at q4
  exact ⟨kP, by rw [Option.some.inj q4]; exact hkP, hkPi⟩
theorem own_sameM {C : String} {x' z' y : MethodName} (hs : (Cond.selects C x' z').before a0 Z = true) (hc : z'.cls = y.cls) (wi : (Cond.instanceMethod y).before a0 Z = true) (hy : y.cls ≠ "java/lang/invoke/MethodHandle" ∧ y.cls ≠ "java/lang/invoke/VarHandle") : (Cond.sameMethod y.cls y.cls y.name y.desc).before a0 Z = true := by
  obtain ⟨mk, methM, hnamed, -⟩ := Cond.instanceMethod_spec wi
  obtain ⟨kr, hkr, hni⟩ := own_nf hs hc mk hnamed
  have hf := State.methodFound?_of_named hnamed hy
  have hcn := findClass_of_methodNamed hnamed
  have hn' : Z.methodNamed? ⟨y.cls, y.name, y.desc⟩ = some mk := hnamed
  simp [Cond.before, Cond.holds, Cond.value, hcn, hf, hn', hkr, hni]
theorem Sto.ofArv {y : Addr} {C : String} (V : Arv Z h a cA ty z vs dv) (O : Ovr Z cA C) (I : Ins Z h y C true) : Sto Z h a (.ref y) := by
  obtain ⟨cl, A, q1, -⟩ := V
  exact Sto.ofV A q1 O I
theorem Go.virtUp {own C owner : String} {index : Nat} {y z : MethodName} {bytes : ByteArray} {maxL : Nat} {ret : Option FieldType} {rm : Room} {as' : Array Value} {argsL S : List Value} (X : Stand p l e R s m args below meth c T locs cells slots) (hx : p.tables.exec = Jvm.exec) (hZ : Z.Warmed39 s.vm) (hown : s.vm.findClass own = some m.cls)
    (w1 : (Cond.methodLink own index y).before a0 Z = true) (w0 : (Cond.sameMethod y.cls owner y.name y.desc).before a0 Z = true) (w2 : (Cond.declares ⟨owner, y.name, y.desc⟩).before a0 Z = true) (w5 : (Cond.selects C y z).before a0 Z = true) (w6 : (Cond.instanceMethod z).before a0 Z = true) (w3 : (Cond.initialized z.cls).before a0 Z = true) (w4 : (Cond.code z bytes maxL ret).before a0 Z = true)
    (hy : owner ≠ "java/lang/invoke/MethodHandle" ∧ owner ≠ "java/lang/invoke/VarHandle") {Q : Option Value → Heap → List Loc → Prop} (hM : Ctr l Z h z bytes maxL ret [] rm as' Q) (eT : T.heap = h) (E : Exa Z h a C) (hsz : Ls.size = c.maxLocals)
    (hd : decode c.code pc = .ok (.invokevirtual index, 3)) (hlen : ∀ sig, parseMethodDescriptor y.desc = some sig → argsL.length = sig.parameters.length) (hst : S = argsL.reverse ++ .ref a :: rest) (has : (Value.ref a :: argsL).toArray = as')
    {W : Nat} (hW : 2 * 0 + (rest.map fun v => v.category).sum ≤ W) (hB : rm.frames + 1 ≤ R.frames ∧ W + (maxL + 11) + rm.locals ≤ R.locals ∧ cells + rm.cells ≤ R.cells ∧ slots + rm.slots ≤ R.slots)
    (g : ∀ (v : Option Value) (T' : State) (L : List Loc), Stand p l e R s m args below meth c T' (locs ++ L) (cells + rm.cells) (slots + rm.slots) → Q v T'.heap L → Go p e below K (T'.setTop (mkF m (pc + 3) Ls (v.toList ++ rest)))) : Go p e below K (T.setTop (mkF m pc Ls S)) := by
  obtain ⟨hf, hl, hc, hs⟩ := hB
  obtain ⟨cq, kq, q1, q2, q3⟩ := isOf hZ eT E
  obtain ⟨v, _, ⟨T', L', k', n'⟩, -, X', ⟨Lc, hQ, l', y', z'⟩, st⟩ := X.virtualBackUp hx (x := y) (y := z) hown (mvT hZ w1) (mvT hZ w0) (mvT hZ w2) hy (mvT hZ w5) (mvT hZ w6) (backOf (W := W) hM hZ w4 w3 hf hl) q1 q3 (g := mkF m pc Ls S) rfl hsz (Steps.refl _) (argsL := argsL) (rest := rest) hlen hst hW hd (fun _ _ => ⟨has, eT, hc, hs⟩)
  dsimp only [Pt.U, Pt.locs, Pt.cells, Pt.slots] at X' l' y' z' st hQ
  subst l' y' z'
  exact Go.on st (g v T' Lc X' hQ)
end OwnRefs
end Jvm.RoadKit
namespace Jvm.RoadKit
open Sem ClassFile Op Lib Jvm.Stand Jvm.Free Jvm.LawKit
section OwnHeld
variable {p : Program} {l : Launch} {e : Env} {R : Room} {s : State} {m : MethodId} {args : Array Value} {below : List Frame} {meth : Method} {c : Code} {T T' : State} {locs : List Loc} {cells slots : Nat} {Z : State} {a0 : Array Value} {h h' h0 : Heap} {K : State → Outcome → Prop} {pc q : Nat} {Ls : Array Slot} {rest S : List Value} {Q : Option Value → Heap → List Loc → Prop} {k n k0 : Nat} {a b x : Addr} {vm vm0 : Vm} {EL : List (String × Nat)}
def KKH (Z : State) (EL : List (String × Nat)) (s : State) (Q : Option Value → Heap → List Loc → Prop) (k n : Nat) : State → Outcome → Prop := fun U o => ∃ v L, o = .returned v ∧ Q v U.heap L ∧ CHr Z EL s.vm s.heap U.vm U.heap ∧ ReturnedEndW s o U L k n
abbrev CtrH (l : Launch) (Z : State) (EL : List (String × Nat)) (h0 : Heap) (y : MethodName) (bytes : ByteArray) (maxL : Nat) (ret : Option FieldType) (ws : List Cond) (rm : Room) (as' : Array Value) (Q : Option Value → Heap → List Loc → Prop) : Prop :=
  MetFree l y (head1 (Cond.code y bytes maxL ret :: ws) rm) (fun a U => a = as' ∧ Z.Warmed39 U.vm ∧ U.heap = h0 ∧ CHv Z EL U.vm h0) (fun _ _ _ _ _ => True) (fun _ U o U' => ∃ v L, o = .returned v ∧ Q v U'.heap L ∧ CHr Z EL U.vm U.heap U'.vm U'.heap ∧ ReturnedEndW U o U' L rm.cells rm.slots)
theorem enterH {y : MethodName} {bytes : ByteArray} {maxL : Nat} {ret : Option FieldType} {ws : List Cond} {rm : Room} {as' : Array Value} (hp : plainFor y = true)
    (H : ∀ (p : Program) (e : Env) (s : State) (m : MethodId) (below : List Frame) (meth : Method) (c : Code) (s₁ : State), p.tables.exec = Jvm.exec → c.code = bytes → c.maxLocals = maxL → Z.Warmed39 (s.setVm s.vm).vm → (s.setVm s.vm).vm.findClass y.cls = some m.cls → meth.name = y.name → meth.sig.returnType = ret → meth.locks = false →
      Stand p l e rm (s.setVm s.vm) m as' below meth c s₁ [] 0 0 → s₁.heap = h0 → s.heap = h0 → s.Since s.vm 0 → CHr Z EL s.vm h0 s.vm h0 → Go p e below (KKH Z EL s Q rm.cells rm.slots) (s₁.setTop (entryFrame m as' maxL))) : CtrH l Z EL h0 y bytes maxL ret ws rm as' Q := by
  refine MetFree.of_bodySF hp hisR ?_
  intro p e s m args below meth c s₁ Bd hml0 hP hK
  obtain ⟨rfl, hZ, hh, hC⟩ := hP
  exact H p e s m below meth c s₁ Bd.exec Bd.bytes hml0 hZ (findClass_of_methodNamed Bd.named) (name_of_methodNamed Bd.named Bd.method).1 Bd.returns Bd.notSynchronized (Stand.of_body Bd) (by rw [← hh, Bd.state]; rfl) hh ((State.WarmedH.refl s).since 0) (CHr.refl hC)
theorem Go.retH {w : Value} {t : FieldType} {i : Instr} (X : Stand p l e R (s.setVm vm0) m args below meth c T locs cells slots) (hx : p.tables.exec = Jvm.exec) (hS : s.Since vm0 k0) (hk0 : k0 ≤ h.size) (hs0 : s.heap = h0) (hZ : Z.Warmed39 (s.setVm vm0).vm) (hE : EW Z a0 EL) (hC : CHr Z EL s.vm h0 vm0 h) (hret : meth.sig.returnType = some t) (hlk : meth.locks = false) (hn : narrow t w = w)
    (hi : (i = .ireturn ∧ (t = .int ∨ t = .boolean ∨ t = .byte ∨ t = .char ∨ t = .short) ∧ ∃ z, w = .int z) ∨ (i = .lreturn ∧ t = .long ∧ ∃ z, w = .long z) ∨ (i = .dreturn ∧ t = .double ∧ ∃ z, w = .double z) ∨ (i = .freturn ∧ t = .float ∧ ∃ z, w = .float z) ∨ (i = .areturn ∧ t.isReference = true ∧ w.isRef = true))
    (hd : decode c.code pc = .ok (i, 1)) (eT : T.heap = h) (hk : cells ≤ k) (hs : slots ≤ n) (hQ : Q (some w) h locs) : Go p e below (KKH Z EL s Q k n) (T.setTop (mkF m pc Ls (w :: rest))) := by
  subst eT; subst hs0
  obtain ⟨fs, hr, hrun, hended, hq⟩ := X.leaveW hS hk0 (v := some w) (fun h => by rw [hret] at h; cases h) hlk
  exact ⟨_, _, retOut X hx hret hn hi hd hr, hrun, hended, _, _, rfl, hQ, (show CHr Z EL s.vm s.heap T.vm T.heap from hC.trans (CHv.at X hZ hE hC.1)), hq.1, hq.2.1, hq.2.2.1, hq.2.2.2.mono hk hs⟩
theorem Go.retIH {z : Int32} {t : FieldType} (X : Stand p l e R (s.setVm vm0) m args below meth c T locs cells slots) (hx : p.tables.exec = Jvm.exec) (hS : s.Since vm0 k0) (hk0 : k0 ≤ h.size) (hs0 : s.heap = h0) (hZ : Z.Warmed39 (s.setVm vm0).vm) (hE : EW Z a0 EL) (hC : CHr Z EL s.vm h0 vm0 h) (hret : meth.sig.returnType = some t) (hlk : meth.locks = false) (ht : t = .int ∨ t = .boolean ∨ t = .byte ∨ t = .char ∨ t = .short) (hn : narrow t (.int z) = .int z)
    (hd : decode c.code pc = .ok (.ireturn, 1)) (eT : T.heap = h) (hk : cells ≤ k) (hs : slots ≤ n) (hQ : Q (some (.int z)) h locs) : Go p e below (KKH Z EL s Q k n) (T.setTop (mkF m pc Ls (.int z :: rest))) :=
  Go.retH X hx hS hk0 hs0 hZ hE hC hret hlk hn (Or.inl ⟨rfl, ht, z, rfl⟩) hd eT hk hs hQ
theorem Go.retAH {w : Value} {t : FieldType} (X : Stand p l e R (s.setVm vm0) m args below meth c T locs cells slots) (hx : p.tables.exec = Jvm.exec) (hS : s.Since vm0 k0) (hk0 : k0 ≤ h.size) (hs0 : s.heap = h0) (hZ : Z.Warmed39 (s.setVm vm0).vm) (hE : EW Z a0 EL) (hC : CHr Z EL s.vm h0 vm0 h) (hret : meth.sig.returnType = some t) (hlk : meth.locks = false) (ht : t.isReference = true) (hw : w.isRef = true)
    (hd : decode c.code pc = .ok (.areturn, 1)) (eT : T.heap = h) (hk : cells ≤ k) (hs : slots ≤ n) (hQ : Q (some w) h locs) : Go p e below (KKH Z EL s Q k n) (T.setTop (mkF m pc Ls (w :: rest))) :=
  Go.retH X hx hS hk0 hs0 hZ hE hC hret hlk (nar_ref hw) (Or.inr (Or.inr (Or.inr (Or.inr ⟨rfl, ht, hw⟩)))) hd eT hk hs hQ
theorem Go.retVH (X : Stand p l e R (s.setVm vm0) m args below meth c T locs cells slots) (hx : p.tables.exec = Jvm.exec) (hS : s.Since vm0 k0) (hk0 : k0 ≤ h.size) (hs0 : s.heap = h0) (hZ : Z.Warmed39 (s.setVm vm0).vm) (hE : EW Z a0 EL) (hC : CHr Z EL s.vm h0 vm0 h) (hret : meth.sig.returnType = none) (hlk : meth.locks = false)
    (hd : decode c.code pc = .ok (.return_, 1)) (eT : T.heap = h) (hk : cells ≤ k) (hs : slots ≤ n) (hQ : Q none h locs) : Go p e below (KKH Z EL s Q k n) (T.setTop (mkF m pc Ls [])) := by
  subst eT; subst hs0
  obtain ⟨fs, hr, hrun, hended, hq⟩ := X.leaveW hS hk0 (v := none) (fun _ => rfl) hlk
  exact ⟨_, _, X.returnOut hx hret hd hr, hrun, hended, _, _, rfl, hQ, (show CHr Z EL s.vm s.heap T.vm T.heap from hC.trans (CHv.at X hZ hE hC.1)), hq.1, hq.2.1, hq.2.2.1, hq.2.2.2.mono hk hs⟩
theorem Go.ldcH {own text : String} {index nn : Nat} {vs : List Value} {z : Int32} (X : Stand p l e R (s.setVm vm0) m args below meth c T locs cells slots) (hx : p.tables.exec = Jvm.exec) (hZ : Z.Warmed39 (s.setVm vm0).vm) (hown : (s.setVm vm0).vm.findClass own = some m.cls) (w : (Cond.stringLink own index text).before a0 Z = true) (wS : ∀ a ∈ Bundle.stringAtoms, a.before a0 Z = true)
    (eT : T.heap = h) (hS : s.Since vm0 k0) (hk0 : k0 ≤ h.size) (hE : EW Z a0 EL) (hmem : (own, index) ∈ EL) (hC : CHr Z EL vm h0 vm0 h) (ht : (∀ c ∈ text.toList, c.toNat < 256) ∧ text.toList.map (fun c => Value.int (Jvm.Lit.byteI c.toNat.toUInt16)) = vs) (hz : ¬ z < 0) (hl0 : z.toNatClampNeg = vs.length)
    (hd : decode c.code pc = .ok (.ldc index, 2)) (hn : 4 * text.toList.length ≤ nn) (hbig : nn ≤ 536870912) (hc : cells + 2 ≤ R.cells) (hl : slots + (nn + 4) ≤ R.slots) (hp : pc + 2 = q)
    (g : ∀ (b v : Addr) (kc : ClassId) (T' : State) (h' : Heap) (k1 : Nat), Stand p l e R (s.setVm T'.vm) m args below meth c T' locs (cells + 2) (slots + (nn + 4)) → T'.heap = h' → Ext h h' → s.Since T'.vm k1 → k1 ≤ h'.size → Z.Warmed39 (s.setVm T'.vm).vm → (s.setVm T'.vm).vm.findClass own = some m.cls →
      Exa Z h' b "java/lang/String" → Fld Z h' b "java/lang/String" "coder" "B" (.int 0) → Fld Z h' b "java/lang/String" "value" "[B" (.ref v) → Arv Z h' v kc .byte z vs (.int 0) → CHr Z EL vm0 h T'.vm h' → Go p e below K (T'.setTop (mkF m q Ls (.ref b :: S)))) : Go p e below K (T.setTop (mkF m pc Ls S)) := by
  subst hp
  obtain ⟨b, T', h', k1, v, kc, X', e', E, hS', hk1, hZ', ho', Eb, Fc, Fv, Va, -, -, hR, -, -, st⟩ := Jvm.RoadKit.ldcCH X hx hZ hown w wS eT hS hk0 hE hmem hC.1 ht hz hl0 (g := mkF m pc Ls S) rfl hd hn hbig hc hl
  exact Go.by st (g b v kc T' h' k1 X' e' E hS' hk1 hZ' ho' Eb Fc Fv Va hR)
theorem Go.callSH {own : String} {index : Nat} {y : MethodName} {bytes : ByteArray} {maxL : Nat} {ret : Option FieldType} {rm : Room} {as' : Array Value} {argsL : List Value} (X : Stand p l e R (s.setVm vm0) m args below meth c T locs cells slots) (hx : p.tables.exec = Jvm.exec) (hZ : Z.Warmed39 (s.setVm vm0).vm) (hown : (s.setVm vm0).vm.findClass own = some m.cls) (hS : s.Since vm0 k0) (hk0 : k0 ≤ h.size) (hE : EW Z a0 EL) (hC : CHr Z EL vm h0 vm0 h)
    (w1 : (Cond.methodLink own index y).before a0 Z = true) (w2 : (Cond.static y).before a0 Z = true) (w3 : (Cond.initialized y.cls).before a0 Z = true) (w4 : (Cond.code y bytes maxL ret).before a0 Z = true)
    (hy : y.cls ≠ "java/lang/invoke/MethodHandle" ∧ y.cls ≠ "java/lang/invoke/VarHandle") {Q : Option Value → Heap → List Loc → Prop} (hM : CtrH l Z EL h y bytes maxL ret [] rm as' Q) (eT : T.heap = h) (hsz : Ls.size = c.maxLocals)
    (hd : decode c.code pc = .ok (.invokestatic index, 3)) (hlen : ∀ sig, parseMethodDescriptor y.desc = some sig → argsL.length = sig.parameters.length) (hst : S = argsL.reverse ++ rest) (has : argsL.toArray = as')
    {W : Nat} (hW : 2 * 0 + (rest.map fun v => v.category).sum ≤ W) (hB : rm.frames + 1 ≤ R.frames ∧ W + (maxL + 11) + rm.locals ≤ R.locals ∧ cells + rm.cells ≤ R.cells ∧ slots + rm.slots ≤ R.slots)
    (g : ∀ (v : Option Value) (T' : State) (L : List Loc) (k1 : Nat), Stand p l e R (s.setVm T'.vm) m args below meth c T' (locs ++ L) (cells + rm.cells) (slots + rm.slots) → s.Since T'.vm k1 → k1 ≤ T'.heap.size → Z.Warmed39 (s.setVm T'.vm).vm → (s.setVm T'.vm).vm.findClass own = some m.cls → CHr Z EL vm0 h T'.vm T'.heap → Q v T'.heap L → Go p e below K (T'.setTop (mkF m (pc + 3) Ls (v.toList ++ rest)))) : Go p e below K (T.setTop (mkF m pc Ls S)) := by
  obtain ⟨hf, hl, hc, hs⟩ := hB
  subst eT
  obtain ⟨v, _, ⟨T', L', k', n'⟩, -, X', hS', hgr, ⟨Lc, hQ, l', y', z', hR⟩, st⟩ := callSS X hx (y := y) hown (mvT hZ w1) (mvT hZ w2) (mvT hZ w3) (mvT hZ w4) hy (backOfSH (W := W) hM hZ w4 w3 hf hl hE hC.1) (g := mkF m pc Ls S) rfl hsz (argsL := argsL) (rest := rest) hlen hst hW hd (fun _ _ => ⟨has, rfl, hc, hs⟩)
  dsimp only [Pt.U, Pt.locs, Pt.cells, Pt.slots] at X' l' y' z' st hQ hS' hgr hR
  subst l' y' z'
  exact Go.on st (g v T' Lc _ X' (foldS hS hk0 hS' hgr) (Nat.le_refl _) (State.Warmed39.trans (t := s.setVm vm0) hZ hS'.1) (by rw [show (s.setVm T'.vm).vm = T'.vm from rfl, hS'.1.alike.findClass]; exact hown) hR hQ)
theorem Go.initH {own : String} {index : Nat} {y : MethodName} {bytes : ByteArray} {maxL : Nat} {rm : Room} {as' : Array Value} {argsL : List Value} (X : Stand p l e R (s.setVm vm0) m args below meth c T locs cells slots) (hx : p.tables.exec = Jvm.exec) (hZ : Z.Warmed39 (s.setVm vm0).vm) (hown : (s.setVm vm0).vm.findClass own = some m.cls) (hS : s.Since vm0 k0) (hk0 : k0 ≤ h.size) (hE : EW Z a0 EL) (hC : CHr Z EL vm h0 vm0 h) (hy1 : y.name = "<init>")
    (w1 : (Cond.methodLink own index y).before a0 Z = true) (w2 : (Cond.instanceMethod y).before a0 Z = true) (w3 : (Cond.initialized y.cls).before a0 Z = true) (w4 : (Cond.code y bytes maxL none).before a0 Z = true)
    (hy : y.cls ≠ "java/lang/invoke/MethodHandle" ∧ y.cls ≠ "java/lang/invoke/VarHandle") {Q : Option Value → Heap → List Loc → Prop} (hM : CtrH l Z EL h y bytes maxL none [] rm as' Q) (eT : T.heap = h) (hsz : Ls.size = c.maxLocals)
    (hd : decode c.code pc = .ok (.invokespecial index, 3)) (hlen : ∀ sig, parseMethodDescriptor y.desc = some sig → argsL.length = sig.parameters.length) (hst : S = argsL.reverse ++ .ref a :: rest) (has : (Value.ref a :: argsL).toArray = as')
    {W : Nat} (hW : 2 * 0 + (rest.map fun v => v.category).sum ≤ W) (hB : rm.frames + 1 ≤ R.frames ∧ W + (maxL + 11) + rm.locals ≤ R.locals ∧ cells + rm.cells ≤ R.cells ∧ slots + rm.slots ≤ R.slots)
    (g : ∀ (v : Option Value) (T' : State) (L : List Loc) (k1 : Nat), Stand p l e R (s.setVm T'.vm) m args below meth c T' (locs ++ L) (cells + rm.cells) (slots + rm.slots) → s.Since T'.vm k1 → k1 ≤ T'.heap.size → Z.Warmed39 (s.setVm T'.vm).vm → (s.setVm T'.vm).vm.findClass own = some m.cls → CHr Z EL vm0 h T'.vm T'.heap → Q v T'.heap L → Go p e below K (T'.setTop (mkF m (pc + 3) Ls (v.toList ++ rest)))) : Go p e below K (T.setTop (mkF m pc Ls S)) := by
  obtain ⟨hf, hl, hc, hs⟩ := hB
  subst eT
  obtain ⟨v, _, ⟨T', L', k', n'⟩, -, X', hS', hgr, ⟨Lc, hQ, l', y', z', hR⟩, st⟩ := X.specialBackS hx (y := y) hy1 hown (mvT hZ w1) (mvT hZ w2) (mvT hZ w4) hy (backOfSH (W := W) hM hZ w4 w3 hf hl hE hC.1) (g := mkF m pc Ls S) rfl hsz (Steps.refl _) (a := a) (argsL := argsL) (rest := rest) hlen hst hW hd (fun _ _ => ⟨has, rfl, hc, hs⟩)
  dsimp only [Pt.U, Pt.locs, Pt.cells, Pt.slots] at X' l' y' z' st hQ hS' hgr hR
  subst l' y' z'
  exact Go.on st (g v T' Lc _ X' (foldS hS hk0 hS' hgr) (Nat.le_refl _) (State.Warmed39.trans (t := s.setVm vm0) hZ hS'.1) (by rw [show (s.setVm T'.vm).vm = T'.vm from rfl, hS'.1.alike.findClass]; exact hown) hR hQ)
theorem own_safeNull (hal : Z.vm.Alike vm) (E : Exa Z h x "java/lang/String") (F : Fld Z h x "java/lang/String" "value" "[B" .null) : Safe Z EL vm h x := fun B => by
  obtain ⟨p, -, u, a, -, q, -, G, rfl | rfl⟩ := B
  · obtain ⟨cell, cf, kf, i, f, g1, g2, g3, g4, g5, g6, g7⟩ := F
    cases (show h[q.sa]? = some q.sC from G.ha).symm.trans g1
    obtain ⟨cS, ⟨⟨-, -, -, ⟨c1, k1, i1, f1, -⟩, -, -, -, v1, -⟩, -⟩, -⟩ := G
    obtain ⟨k3, e3, -⟩ := State.fieldFound?_setVm (s := Z) hal g2
    have e4 := (show (Wst Z vm h).fieldFound? _ _ _ = _ from e3).symm.trans f1
    simp only [Option.some.injEq, Prod.mk.injEq] at e4
    rw [← e4.2.2.2, g7] at v1
    cases v1
  · obtain ⟨cell, kE, e1, e2, e3, -, -⟩ := E
    cases (show h[q.sd]? = some q.SA from G.hd).symm.trans e1
    obtain ⟨cS, -, -, f, -⟩ := G
    have f : vm.findClass "[B" = some q.SA.cls := f
    rw [hal.findClass] at f
    obtain ⟨k1, q1, q2⟩ := Vm.findClass_spec f
    obtain ⟨k2, q3, q4⟩ := Vm.findClass_spec e2
    cases q1.symm.trans q3
    exact absurd (q2.symm.trans q4) (by decide)
end OwnHeld
end Jvm.RoadKit
namespace Jvm.RoadKit
open Sem ClassFile Op Lib Jvm.Stand Jvm.Free Jvm.LawKit Jvm.Free.Exc
section OwnKnown
variable {p : Program} {l : Launch} {e : Env} {R : Room} {s : State} {m : MethodId} {args : Array Value} {below : List Frame} {meth : Method} {c : Code} {T T' : State} {locs : List Loc} {cells slots : Nat} {Z : State} {a0 : Array Value} {h h' h0 : Heap} {K : State → Outcome → Prop} {pc q : Nat} {Ls : Array Slot} {rest S : List Value} {Q : Option Value → Heap → List Loc → Prop} {k n k0 : Nat} {a b x : Addr} {vm vm0 : Vm} {EL : List (String × Nat)}
abbrev CtrK (l : Launch) (Z : State) (EL : List (String × Nat)) (h0 : Heap) (y : MethodName) (bytes : ByteArray) (maxL : Nat) (ret : Option FieldType) (ws : List Cond) (rm : Room) (as' : Array Value) (Q : Option Value → Heap → List Loc → Prop) : Prop :=
  MetFree l y (head1 (Cond.code y bytes maxL ret :: ws) rm) (fun a U => a = as' ∧ Z.Warmed39 U.vm ∧ U.heap = h0 ∧ CHv Z EL U.vm h0) (fun _ _ bl s _ => s.vm.MethodsKnown ∧ s.vm.FramesKnown bl) (fun _ U o U' => ∃ v L, o = .returned v ∧ Q v U'.heap L ∧ CHr Z EL U.vm U.heap U'.vm U'.heap ∧ ReturnedEndW U o U' L rm.cells rm.slots)
theorem enterK {y : MethodName} {bytes : ByteArray} {maxL : Nat} {ret : Option FieldType} {ws : List Cond} {rm : Room} {as' : Array Value} (hp : plainFor y = true)
    (H : ∀ (p : Program) (e : Env) (s : State) (m : MethodId) (below : List Frame) (meth : Method) (c : Code) (s₁ : State), p.tables.exec = Jvm.exec → c.code = bytes → c.maxLocals = maxL → Z.Warmed39 (s.setVm s.vm).vm → (s.setVm s.vm).vm.findClass y.cls = some m.cls → meth.name = y.name → meth.sig.returnType = ret → meth.locks = false →
      Stand p l e rm (s.setVm s.vm) m as' below meth c s₁ [] 0 0 → s₁.heap = h0 → s.heap = h0 → s.Since s.vm 0 → CHr Z EL s.vm h0 s.vm h0 → (s.vm.MethodsKnown ∧ s.vm.FramesKnown below) → Go p e below (KKH Z EL s Q rm.cells rm.slots) (s₁.setTop (entryFrame m as' maxL))) : CtrK l Z EL h0 y bytes maxL ret ws rm as' Q := by
  refine MetFree.of_bodySF hp hisR ?_
  intro p e s m args below meth c s₁ Bd hml0 hP hK
  obtain ⟨rfl, hZ, hh, hC⟩ := hP
  exact H p e s m below meth c s₁ Bd.exec Bd.bytes hml0 hZ (findClass_of_methodNamed Bd.named) (name_of_methodNamed Bd.named Bd.method).1 Bd.returns Bd.notSynchronized (Stand.of_body Bd) (by rw [← hh, Bd.state]; rfl) hh ((State.WarmedH.refl s).since 0) (CHr.refl hC) hK
theorem own_kn (hS : s.Since vm0 k0) (hKn : s.vm.MethodsKnown ∧ s.vm.FramesKnown below) : vm0.MethodsKnown ∧ vm0.FramesKnown below := ⟨Vm.MethodsKnown.alikeC hS.1.alike hKn.1, Vm.FramesKnown.alikeC hS.1.alike hKn.2⟩
theorem Go.callSK {own : String} {index : Nat} {y : MethodName} {bytes : ByteArray} {maxL : Nat} {ret : Option FieldType} {rm : Room} {as' : Array Value} {argsL : List Value} (X : Stand p l e R (s.setVm vm0) m args below meth c T locs cells slots) (hx : p.tables.exec = Jvm.exec) (hZ : Z.Warmed39 (s.setVm vm0).vm) (hown : (s.setVm vm0).vm.findClass own = some m.cls) (hS : s.Since vm0 k0) (hk0 : k0 ≤ h.size) (hE : EW Z a0 EL) (hC : CHr Z EL vm h0 vm0 h) (hKn : s.vm.MethodsKnown ∧ s.vm.FramesKnown below)
    (w1 : (Cond.methodLink own index y).before a0 Z = true) (w2 : (Cond.static y).before a0 Z = true) (w3 : (Cond.initialized y.cls).before a0 Z = true) (w4 : (Cond.code y bytes maxL ret).before a0 Z = true)
    (hy : y.cls ≠ "java/lang/invoke/MethodHandle" ∧ y.cls ≠ "java/lang/invoke/VarHandle") {Q : Option Value → Heap → List Loc → Prop} (hM : CtrK l Z EL h y bytes maxL ret [] rm as' Q) (eT : T.heap = h) (hsz : Ls.size = c.maxLocals)
    (hd : decode c.code pc = .ok (.invokestatic index, 3)) (hlen : ∀ sig, parseMethodDescriptor y.desc = some sig → argsL.length = sig.parameters.length) (hst : S = argsL.reverse ++ rest) (has : argsL.toArray = as')
    {W : Nat} (hW : 2 * 0 + (rest.map fun v => v.category).sum ≤ W) (hB : rm.frames + 1 ≤ R.frames ∧ W + (maxL + 11) + rm.locals ≤ R.locals ∧ cells + rm.cells ≤ R.cells ∧ slots + rm.slots ≤ R.slots)
    (g : ∀ (v : Option Value) (T' : State) (L : List Loc) (k1 : Nat), Stand p l e R (s.setVm T'.vm) m args below meth c T' (locs ++ L) (cells + rm.cells) (slots + rm.slots) → s.Since T'.vm k1 → k1 ≤ T'.heap.size → Z.Warmed39 (s.setVm T'.vm).vm → (s.setVm T'.vm).vm.findClass own = some m.cls → CHr Z EL vm0 h T'.vm T'.heap → Q v T'.heap L → Go p e below K (T'.setTop (mkF m (pc + 3) Ls (v.toList ++ rest)))) : Go p e below K (T.setTop (mkF m pc Ls S)) := by
  obtain ⟨hf, hl, hc, hs⟩ := hB
  subst eT
  obtain ⟨v, _, ⟨T', L', k', n'⟩, -, X', hS', hgr, ⟨Lc, hQ, l', y', z', hR⟩, st⟩ := callSS X hx (y := y) hown (mvT hZ w1) (mvT hZ w2) (mvT hZ w3) (mvT hZ w4) hy (backOfSKH (W := W) hM hZ w4 w3 hf hl hE hC.1 (own_kn hS hKn).1 (own_kn hS hKn).2) (g := mkF m pc Ls S) rfl hsz (argsL := argsL) (rest := rest) hlen hst hW hd (fun _ _ => ⟨has, rfl, hc, hs⟩)
  dsimp only [Pt.U, Pt.locs, Pt.cells, Pt.slots] at X' l' y' z' st hQ hS' hgr hR
  subst l' y' z'
  exact Go.on st (g v T' Lc _ X' (foldS hS hk0 hS' hgr) (Nat.le_refl _) (State.Warmed39.trans (t := s.setVm vm0) hZ hS'.1) (by rw [show (s.setVm T'.vm).vm = T'.vm from rfl, hS'.1.alike.findClass]; exact hown) hR hQ)
theorem own_lc {P : Cond → Prop} {y : Cond} {L : List Cond} (q : P y) (r : ∀ d ∈ L, P d) : ∀ d ∈ y :: L, P d := fun d z => (List.mem_cons.mp z).elim (fun u => u ▸ q) (r d)
theorem own_l0 {P : Cond → Prop} : ∀ d ∈ ([] : List Cond), P d := fun _ z => nomatch z
end OwnKnown
end Jvm.RoadKit
namespace Jvm.RoadKit
open Sem ClassFile Op Lib Jvm.Stand Jvm.Free Jvm.LawKit Bundle Jvm.Free.Exc
section OwnFill
variable {p : Program} {l : Launch} {e : Env} {R : Room} {s : State} {m : MethodId} {args : Array Value} {below : List Frame} {meth : Method} {c : Code} {T T' : State} {locs : List Loc} {cells slots : Nat} {Z : State} {a0 : Array Value} {h h' h0 : Heap} {K : State → Outcome → Prop} {pc q : Nat} {Ls : Array Slot} {rest S : List Value} {k n k0 : Nat} {a b x : Addr} {vm vm0 : Vm} {EL : List (String × Nat)}
def fillAtoms (rc : String) : List Cond := [.initialized tN, .superclass tN "java/lang/Object", .instanceMethod tFill, .codeSync tFill LibCode.Throwable.Fill.code 1 (some (.object tN)), .instanceMethod tFill0, .native tFill0, .instanceMethod oInit, .code oInit ⟨#[0xb1]⟩ 1 none,
  .methodLink tN 1 oInit, .methodLink tN 27 tFill, .methodLink tN 202 tFill0, .fieldLink tN 7 tN "cause" thD, .fieldLink tN 17 tN "stackTrace" steD, .fieldLink tN 24 tN "suppressedExceptions" listD, .fieldLink tN 198 tN "backtrace" obD,
  .fieldLink tN 13 tN "UNASSIGNED_STACK" steD, .laysStatic tN "UNASSIGNED_STACK" steD, .fieldLink tN 20 tN "SUPPRESSED_SENTINEL" listD, .laysStatic tN "SUPPRESSED_SENTINEL" listD,
  .lays rc tN "cause" thD, .lays rc tN "stackTrace" steD, .lays rc tN "suppressedExceptions" listD, .lays rc tN "detailMessage" msgD, .lays rc tN "backtrace" obD, .lays rc tN "depth" "I",
  .selects rc tFill tFill, .selects rc tFill0 tFill0, .arrayOver (.object "java/lang/Object"), .soleField tN "backtrace", .soleField tN "depth", .declares tFill]
theorem fill_ok {rc : String} : (fillAtoms rc).all xOk = true := rfl
theorem own_field {rc O nme dsc : String} {t : FieldType} (ht : parseFieldDescriptor dsc = some t) (w : (Cond.lays rc O nme dsc).before args s = true) : ∃ (cl : ClassId) (kl : Class) (i : Nat) (f : Field), s.vm.findClass O = some cl ∧ s.vm.classes[cl]? = some kl ∧ kl.fields[i]? = some f ∧ s.fieldFound? O nme dsc = some (cl, kl, i, f) ∧ f.isStatic = false ∧ hasFlag f.accessFlags Acc.final = false ∧ f.name = nme ∧ f.type = t := by
  obtain ⟨_, _, cl, kl, i, f, -, -, hf, h1, h2, -⟩ := Cond.lays_spec w
  obtain ⟨g1, g2⟩ := State.fieldFound?_spec hf
  obtain ⟨g3, g4⟩ := State.fieldFound?_type hf ht
  exact ⟨cl, kl, i, f, Cond.lays_declared w hf, g1, g2, hf, h1, h2, g3, g4⟩
set_option maxHeartbeats 4000000 in
theorem own_links {rc : String} {pl : Platform} (howns : pl.frameOwnsMonitors = true) (hfin : pl.finalization = false) (hpl : pl.magicAccessors = ({} : Platform).magicAccessors) (W : ∀ d ∈ fillAtoms rc, d.before args s = true) :
    ∃ (D : ThrowableC) (B : BackC) (fd : Field) (jd : Nat), (D.Links pl s ∧ B.Links D pl s) ∧ (s.vm.findClass tN = some D.cT ∧ s.methodNamed? tFill = some D.fill ∧ s.methodNamed? tFill0 = some D.fill0) ∧
      (s.fieldFound? tN "stackTrace" steD = some (D.cT, D.kT, D.i17, D.fStack) ∧ s.fieldFound? tN "UNASSIGNED_STACK" steD = some (D.cT, D.kT, D.i13, D.fUnassigned) ∧ s.fieldFound? tN "backtrace" obD = some (D.cT, D.kT, B.i198, B.fBack) ∧ s.fieldFound? tN "depth" "I" = some (D.cT, D.kT, jd, fd)) ∧
      (D.fStack.type = .array (.object "java/lang/StackTraceElement") ∧ B.fBack.type = .object "java/lang/Object" ∧ fd.type = .int) ∧
      D.kT.fields.find? (fun f => f.name == "backtrace" && !f.isStatic) = some B.fBack ∧ D.kT.fields.find? (fun f => f.name == "depth" && !f.isStatic) = some fd := by
  have w : ∀ {i : Nat} {d : Cond}, (fillAtoms rc)[i]? = some d → d.holds args s none s [] = true := fun q => W _ (List.mem_of_getElem? q)
  obtain ⟨cT, kU, iU, fU, aS, cS, hc, ffU, stU, haS, -⟩ := Cond.laysStatic_spec (w (i := 16) rfl)
  obtain ⟨kT, hk, hnm⟩ := Vm.findClass_spec hc
  have hbt := Vm.findClass_boot hc hk
  have hin := Cond.initialized_spec hc hk (w (i := 0) rfl)
  obtain ⟨-, kk, -, -, r1, -, -, -, -, hni⟩ := Cond.superclass_spec hc (w (i := 1) rfl)
  cases hk.symm.trans r1
  obtain ⟨iF, mF, f1, f2, f3, f4, f5, -, -⟩ := Cond.ownMethod (x := tFill) hc hk (w (i := 2) rfl)
  obtain ⟨mF', cF, r2, f6, f7, f8, f9, f10, -, f11⟩ := Cond.codeSync_spec f1 (w (i := 3) rfl)
  cases f2.symm.trans r2
  obtain ⟨iG, mG, g1, g2, g3, g4, g5, g6, g7⟩ := Cond.ownMethod (x := tFill0) hc hk (w (i := 4) rfl)
  obtain ⟨mN, mG', r3, r4, g8, g9, g10, g11⟩ := Cond.native_spec (w (i := 5) rfl)
  cases g1.symm.trans r3
  cases g2.symm.trans r4
  obtain ⟨mO, meO, o1, o2, o3, o4⟩ := Cond.instanceMethod_spec (w (i := 6) rfl)
  obtain ⟨meO', cO, r5, o5, o6, o7, -, o8, -, o9⟩ := Cond.code_spec o1 (w (i := 7) rfl)
  cases o2.symm.trans r5
  obtain ⟨kO, o10, o11⟩ := Vm.findClass_spec (findClass_of_methodNamed o1)
  obtain ⟨o12, o13⟩ := name_of_methodNamed o1 o2
  have o14 : lookupSpecial s.vm mO.cls "<init>" meO.desc = .method mO := o13 ▸ lookupSpecial_of_named o1 o2 o3
  have f12 : mF.sig.parameters = [] := by rw [show mF.sig = ⟨[], some (.object tN)⟩ from Option.some.inj (f11.symm.trans (by decide +kernel))]
  have g12 : mG.sig.parameters = [.int] := by rw [show mG.sig = ⟨[.int], some (.object tN)⟩ from Option.some.inj (g11.symm.trans (by decide +kernel))]
  have o15 : meO.sig.parameters.length = 0 := by rw [show meO.sig = ⟨[], none⟩ from Option.some.inj (o9.symm.trans (by decide +kernel))]; rfl
  obtain ⟨a1, b1, cf, l1, l2, l3, l4⟩ := Cond.linkedMethod hc hk o1 (w (i := 8) rfl) pl hpl
  obtain ⟨a2, b2, cf2, l5, l6, l7, l8⟩ := Cond.linkedMethod hc hk f1 (w (i := 9) rfl) pl hpl
  cases l3.symm.trans l7
  obtain ⟨a3, b3, cf3, l9, l10, l11, l12⟩ := Cond.linkedMethod hc hk g1 (w (i := 10) rfl) pl hpl
  cases l3.symm.trans l11
  obtain ⟨a7, i7, e7, p1, p2, p3, p4, p5, p6, p7, p8⟩ := Cond.ownField (C' := rc) (t := .object tN) hc hk (by decide +kernel) (w (i := 11) rfl) (w (i := 19) rfl) pl hpl
  obtain ⟨a17, i17, e17, s1, s2, s3, s4, s5, s6, s7, s8⟩ := Cond.ownField (C' := rc) (t := .array (.object "java/lang/StackTraceElement")) hc hk (by decide +kernel) (w (i := 12) rfl) (w (i := 20) rfl) pl hpl
  obtain ⟨a24, i24, e24, t1, t2, t3, t4, t5, t6, t7, t8⟩ := Cond.ownField (C' := rc) (t := .object "java/util/List") hc hk (by decide +kernel) (w (i := 13) rfl) (w (i := 21) rfl) pl hpl
  obtain ⟨a98, i98, e98, u1, u2, u3, u4, u5, u6, u7, u8⟩ := Cond.ownField (C' := rc) (t := .object "java/lang/Object") hc hk (by decide +kernel) (w (i := 14) rfl) (w (i := 23) rfl) pl hpl
  obtain ⟨a13, i13, e13, aS2, cS2, v1, v2, v3, v4, -, -, v5, -, -, -, -, v6⟩ := Cond.ownStatic (t := .array (.object "java/lang/StackTraceElement")) hc hk (by decide +kernel) (w (i := 15) rfl) (w (i := 16) rfl) pl hpl
  obtain ⟨a20, i20, e20, aS3, cS3, x1, x2, x3, x4, -, -, -, -, -, -, -, -⟩ := Cond.ownStatic (t := .object "java/util/List") hc hk (by decide +kernel) (w (i := 17) rfl) (w (i := 18) rfl) pl hpl
  obtain ⟨cM, kM, iM, eM, y1, y2, -, -, y3, y4, -, -⟩ := own_field (t := .object "java/lang/String") (by decide +kernel) (w (i := 22) rfl)
  obtain ⟨cD, kD, iD, eD, z1, z2, z3, z4, z5, -, z6, z7⟩ := own_field (t := .int) (by decide +kernel) (w (i := 24) rfl)
  cases hc.symm.trans z1
  cases hk.symm.trans z2
  obtain ⟨cX, kX, _, _, _, _, d1, d2, -⟩ := Cond.lays_spec (w (i := 20) rfl)
  obtain ⟨-, _, d3, d4⟩ := Cond.laysAt d1 d2 s8 (w (i := 20) rfl)
  obtain ⟨-, _, d5, d6⟩ := Cond.laysAt d1 d2 t8 (w (i := 21) rfl)
  have d7 : e17.slot ≠ e24.slot := Cond.laysApart d3 d5 d4 d6 (by rw [s6, t6]; decide)
  refine ⟨{ cT := cT, kT := kT, cO := cT, aS := aS2, fillIdx := iF, fill0Idx := iG, initSIdx := iF, obj := mO, kObj := kO, methFill := mF, methFill0 := mG, methInitS := mF, methObj := meO, codeFill := cF, codeInitS := cF, codeObj := cO, fBack := e98, fDepth := eD, fStack := e17, fCause := e7, fSupp := e24, fMsg := eM, fUnassigned := e13, fSentinel := e20, cfT := cf, ci1 := a1, n1 := b1, ci27 := a2, n27 := b2, ci202 := a3, n202 := b3, ci7 := a7, i7 := i7, ci13 := a13, i13 := i13, ci17 := a17, i17 := i17, ci20 := a20, i20 := i20, ci24 := a24, i24 := i24 }, ⟨a98, i98, e98⟩, eD, iD, ⟨?_, ⟨u1, u2, u3, u4⟩⟩, ⟨hc, f1, g1⟩, ⟨s8, v6, u8, z4⟩, ⟨s7, u7, z7⟩,
    Cond.soleField_find hc hk (w (i := 28) rfl) u3 u6 u4, Cond.soleField_find hc hk (w (i := 29) rfl) z3 z6 z5⟩
  constructor <;> assumption
theorem own_wrsz {sl : Nat} {v : Value} (W : Wr h h' a sl v) : h'.size = h.size := by obtain ⟨_, -, -, -, rfl⟩ := W; simp
theorem Go.initK {own : String} {index : Nat} {y : MethodName} {bytes : ByteArray} {maxL : Nat} {rm : Room} {as' : Array Value} {argsL : List Value} (X : Stand p l e R (s.setVm vm0) m args below meth c T locs cells slots) (hx : p.tables.exec = Jvm.exec) (hZ : Z.Warmed39 (s.setVm vm0).vm) (hown : (s.setVm vm0).vm.findClass own = some m.cls) (hS : s.Since vm0 k0) (hk0 : k0 ≤ h.size) (hE : EW Z a0 EL) (hC : CHr Z EL vm h0 vm0 h) (hKn : s.vm.MethodsKnown ∧ s.vm.FramesKnown below) (hy1 : y.name = "<init>")
    (w1 : (Cond.methodLink own index y).before a0 Z = true) (w2 : (Cond.instanceMethod y).before a0 Z = true) (w3 : (Cond.initialized y.cls).before a0 Z = true) (w4 : (Cond.code y bytes maxL none).before a0 Z = true)
    (hy : y.cls ≠ "java/lang/invoke/MethodHandle" ∧ y.cls ≠ "java/lang/invoke/VarHandle") {Q : Option Value → Heap → List Loc → Prop} (hM : CtrK l Z EL h y bytes maxL none [] rm as' Q) (eT : T.heap = h) (hsz : Ls.size = c.maxLocals)
    (hd : decode c.code pc = .ok (.invokespecial index, 3)) (hlen : ∀ sig, parseMethodDescriptor y.desc = some sig → argsL.length = sig.parameters.length) (hst : S = argsL.reverse ++ .ref a :: rest) (has : (Value.ref a :: argsL).toArray = as')
    {W : Nat} (hW : 2 * 0 + (rest.map fun v => v.category).sum ≤ W) (hB : rm.frames + 1 ≤ R.frames ∧ W + (maxL + 11) + rm.locals ≤ R.locals ∧ cells + rm.cells ≤ R.cells ∧ slots + rm.slots ≤ R.slots)
    (g : ∀ (v : Option Value) (T' : State) (L : List Loc) (k1 : Nat), Stand p l e R (s.setVm T'.vm) m args below meth c T' (locs ++ L) (cells + rm.cells) (slots + rm.slots) → s.Since T'.vm k1 → k1 ≤ T'.heap.size → Z.Warmed39 (s.setVm T'.vm).vm → (s.setVm T'.vm).vm.findClass own = some m.cls → CHr Z EL vm0 h T'.vm T'.heap → Q v T'.heap L → Go p e below K (T'.setTop (mkF m (pc + 3) Ls (v.toList ++ rest)))) : Go p e below K (T.setTop (mkF m pc Ls S)) := by
  obtain ⟨hf, hl, hc, hs⟩ := hB
  subst eT
  obtain ⟨v, _, ⟨T', L', k', n'⟩, -, X', hS', hgr, ⟨Lc, hQ, l', y', z', hR⟩, st⟩ := X.specialBackS hx (y := y) hy1 hown (mvT hZ w1) (mvT hZ w2) (mvT hZ w4) hy (backOfSKH (W := W) hM hZ w4 w3 hf hl hE hC.1 (own_kn hS hKn).1 (own_kn hS hKn).2) (g := mkF m pc Ls S) rfl hsz (Steps.refl _) (a := a) (argsL := argsL) (rest := rest) hlen hst hW hd (fun _ _ => ⟨has, rfl, hc, hs⟩)
  dsimp only [Pt.U, Pt.locs, Pt.cells, Pt.slots] at X' l' y' z' st hQ hS' hgr hR
  subst l' y' z'
  exact Go.on st (g v T' Lc _ X' (foldS hS hk0 hS' hgr) (Nat.le_refl _) (State.Warmed39.trans (t := s.setVm vm0) hZ hS'.1) (by rw [show (s.setVm T'.vm).vm = T'.vm from rfl, hS'.1.alike.findClass]; exact hown) hR hQ)
set_option maxHeartbeats 4000000 in
theorem Go.fill {rc : String} {au : Addr} {nn : Nat} (X : Stand p l e R (s.setVm vm0) m args below meth c T locs cells slots) (hx : p.tables.exec = Jvm.exec) (hl : l.stackTraces = true) (hZ : Z.Warmed39 (s.setVm vm0).vm) (hown : (s.setVm vm0).vm.findClass tN = some m.cls) (hS : s.Since vm0 k0) (hKn : s.vm.MethodsKnown ∧ s.vm.FramesKnown below)
    (W : ∀ d ∈ fillAtoms rc, d.before a0 Z = true) (wi : (Cond.instantiable rc nn).before a0 Z = true) (hs0 : s.heap = h0) (O0 : Ext Z.heap h0) (O : Ext Z.heap h) (eT : T.heap = h) (KP : Keep h0 h [a]) (hz : h.size = h0.size) (hlb : ∀ y ∈ locs, y.base = a)
    (E : Exa Z h a rc) (U : Unt h a) (B : Fld Z h a tN "backtrace" obD .null) (F : Fld Z h a tN "stackTrace" steD (.ref au)) (Sf : Sta Z Z.heap tN "UNASSIGNED_STACK" steD (.ref au))
    (hsz : Ls.size = c.maxLocals) (hd : decode c.code pc = .ok (.invokevirtual 27, 3)) (hf : 3 ≤ R.frames) {W0 : Nat} (hW : 2 * 0 + (rest.map fun v => v.category).sum ≤ W0) (hlo : W0 + 42 ≤ R.locals) (hc : cells + 1 ≤ R.cells) (hsl : slots + 2752 ≤ R.slots) (hp : pc + 3 = q)
    (g : ∀ (T' : State) (h' : Heap) (L : List Loc) (v : Value), Stand p l e R (s.setVm vm0) m args below meth c T' (locs ++ L) (cells + 1) (slots + 2752) → T'.heap = h' → (∀ y ∈ L, y.base = a) → Keep h h' [a] → Fld Z h' a tN "detailMessage" msgD v → Go p e below K (T'.setTop (mkF m q Ls (.ref a :: rest)))) : Go p e below K (T.setTop (mkF m pc Ls (.ref a :: rest))) := by
  subst hp
  have hal : Z.vm.Alike (s.setVm vm0).vm := hZ.alike
  have hT : ThS Z (s.setVm vm0).heap := by show ThS Z s.heap; rw [hs0]; exact ThS.start.ext O0
  have W1 : ∀ d ∈ fillAtoms rc, d.before args (s.setVm vm0) = true := fun d hd => mvX hT hZ (List.all_eq_true.mp fill_ok d hd) (W d hd)
  have htr : e.platform.stackTraces = true := by rw [X.admits.platform]; exact hl
  obtain ⟨D, BB, fd, jd, ⟨L, LB⟩, ⟨hcT, hn1, hn2⟩, ⟨ff1, ff2, ff3, ff4⟩, ⟨ty1, ty2, ty3⟩, fb1, fb2⟩ := own_links (pl := e.platform) (by rw [X.admits.platform]) (by rw [X.admits.platform]) (by rw [X.admits.platform]) W1
  have w : ∀ {i : Nat} {d : Cond}, (fillAtoms rc)[i]? = some d → d.before args (s.setVm vm0) = true := fun q => W1 _ (List.mem_of_getElem? q)
  obtain ⟨cell, kc, e1, e2, e3, e4, e5⟩ := E
  obtain ⟨cU, u1, u2, u3⟩ := U
  cases e1.symm.trans u1
  obtain ⟨cI, kI, i1, i2, i3, -⟩ := Cond.instantiable_spec wi
  cases e2.symm.trans i1
  cases e3.symm.trans i2
  obtain ⟨kX, hkX, hek⟩ := hal.2.2 _ _ e3
  have hfc : (s.setVm vm0).vm.findClass rc = some cell.cls := by rw [hal.findClass]; exact e2
  have hord : kX.kind = .ordinary := by rw [hek]; exact i3
  have hsize : cell.slots.size = kX.instanceTypes.size := by rw [hek]; exact e5 i3
  have tk : ∀ {f : Field} {v : Value}, kX.instanceTypes[f.slot]? = some f.type → fits f.type v = true → Jvm.Takes (s.setVm vm0) cell f v := fun {f v} q1 q2 => by
    obtain ⟨-, r⟩ := Takes.of_laid (s := s.setVm vm0) hkX hord q1 q2
    exact ⟨by rw [hsize]; exact (Array.getElem?_eq_some_iff.mp q1).1, by rw [u2]; exact r⟩
  obtain ⟨lt1, -⟩ := Cond.laysAt hfc hkX ff1 (w (i := 20) rfl)
  obtain ⟨lt2, -⟩ := Cond.laysAt hfc hkX ff3 (w (i := 23) rfl)
  obtain ⟨lt3, -⟩ := Cond.laysAt hfc hkX ff4 (w (i := 24) rfl)
  have here : ∀ {nme dsc : String} {v : Value} {cl kl jl fl}, Fld Z h a tN nme dsc v → (s.setVm vm0).fieldFound? tN nme dsc = some (cl, kl, jl, fl) → cell.slots[fl.slot]? = some v := fun {nme dsc v cl kl jl fl} G r => by
    obtain ⟨c2, _, k2, _, f2, g1, g2, -, -, -, -, g7⟩ := G
    cases e1.symm.trans g1
    obtain ⟨k3, r3, -⟩ := State.fieldFound?_setVm hal g2
    cases (show (s.setVm vm0).fieldFound? tN nme dsc = _ from r3).symm.trans r
    exact g7
  obtain ⟨cf, ix, kf, f, st, cS, s1, s2, s3, s4, s5, s6, s7⟩ := Sf
  obtain ⟨k4, r4, r5⟩ := State.fieldFound?_setVm hal s1
  cases (show (s.setVm vm0).fieldFound? tN "UNASSIGNED_STACK" steD = _ from r4).symm.trans ff2
  have hst : D.aS = st := Option.some.inj (L.statics.symm.trans (by rw [r5]; exact s4))
  have hcS : h[D.aS]? = some cS := by rw [hst]; exact O.2 _ _ s5
  have hne : D.aS ≠ a := fun z => by
    rw [z] at hcS; cases hcS.symm.trans e1; rw [u2] at s6; cases s6
  have hkn : cS.vm ≠ .unknown := fun z => by rw [z] at s6; cases s6
  have hsel : selectMethod e.platform (s.setVm vm0).vm cell.cls D.fill0 = .method D.fill0 := by
    obtain ⟨c2, m2, m3, q1, q2, q3, q4, -⟩ := Cond.selects_spec (w (i := 26) rfl)
    cases hfc.symm.trans q1
    cases (State.methodFound?_of_named hn2 (by decide)).symm.trans q2
    cases hn2.symm.trans q3
    rw [Launch.admits_selectMethod X.admits]; exact q4
  obtain ⟨comp, cO, kO, -, -, hkO, hkd, hcO⟩ := Cond.arrayOver_spec (w (i := 27) rfl)
  have hcT' : T.heap[a]? = some cell := by rw [eT]; exact e1
  obtain ⟨v6, vm6, ⟨T6, L6, c6, n6⟩, hW6, X6, ⟨hv6, C6, n, hn, hD6, q1, q2, q3, -, hL6, hc6, hn6⟩, come⟩ := X.virtualBack hx (own := tN) (C := rc) (index := 27) (y := tFill) (z := tFill) hown (w (i := 9) rfl) (w (i := 30) rfl) (notFace_of_selects (w (i := 25) rfl)) (w (i := 25) rfl) (w (i := 2) rfl) (by decide)
    (fillPaysAny (l := l) (W := W0) hx htr D L hn1 (u0 := ⟨.ref au, rfl⟩) (self := a) (cell := cell) (cellS := cS) (fun _ => by rw [u2]; simp) (by rw [u2]; simp) (by rw [u3]) (by rw [u3]) (here F ff1) hsel hne hkn s7 (tk lt1 (by rw [ty1]; rfl)) ⟨BB, LB, here B ff3⟩ (own_kn hS hKn).1 (own_kn hS hKn).2 hcT hcO hkO hkd fb1 fb2 (fun y => tk lt2 (by rw [ty2]; rfl)) (fun y => tk lt3 (by rw [ty3]; rfl)) (by omega) (by omega))
    (b := a) (cB := cell.cls) hfc ⟨cell, hcT', rfl, e4⟩ (g := mkF m pc Ls (.ref a :: rest)) rfl hsz (Steps.refl _) (argsL := []) (rest := rest) (fun sig z => by rw [show parseMethodDescriptor tFill.desc = some ⟨[], some (.object tN)⟩ from by decide +kernel] at z; cases z; rfl) rfl hW hd (fun _ _ => ⟨rfl, hc, hsl, hcT', by show T.heap[D.aS]? = _; rw [eT]; exact hcS⟩)
  dsimp only [Pt.U, Pt.locs, Pt.cells, Pt.slots] at X6 hD6 hL6 hc6 hn6 come
  subst hv6 hL6 hc6 hn6
  have hKp : Keep h T6.heap [a] := by
    have old : ∀ (y : Addr) (cy : Cell), h0[y]? = some cy → y ≠ a → T6.heap[y]? = some cy := fun y cy r ne => by
      obtain ⟨c', r1, r2, r3, r4⟩ := X6.same.2.2.2.2.2 y cy (by show s.heap[y]? = _; rw [hs0]; exact r)
      have : c'.slots = cy.slots := Array.ext_getElem? fun i => r4 i fun hm => by
        rcases List.mem_append.mp hm with z | z
        · exact ne (hlb _ z)
        · simp only [List.mem_cons, List.not_mem_nil, or_false, Loc.mk.injEq] at z
          rcases z with z | z | z <;> exact ne z.1
      rw [show T6.heap[y]? = some c' from r1, r2, this]
    have oth : ∀ (y : Addr) (cy : Cell), h[y]? = some cy → y ≠ a → T6.heap[y]? = some cy := fun y cy r ne => by
      have hy : y < h0.size := by rw [← hz]; exact (Array.getElem?_eq_some_iff.mp r).1
      have r0 : h0[y]? = some h0[y] := Array.getElem?_eq_getElem hy
      have r1 := KP.2.1 y _ r0 (by simpa using ne)
      cases r.symm.trans r1
      exact old y _ r0 ne
    refine ⟨?_, fun y cy r ne => oth y cy r (by simpa using ne), fun y cy r => ?_⟩
    · rw [hz, ← hs0]; exact X6.same.2.1
    · by_cases z : y = a
      · subst z; cases r.symm.trans e1; exact ⟨C6, hD6, q1, q2, q3⟩
      · exact ⟨cy, oth y cy r z, rfl, rfl, rfl⟩
  obtain ⟨v, Fv⟩ := fld_laid (Z := Z) (h := T6.heap) (a := a) (O := tN) (n := "detailMessage") (d := msgD) (Exa.keep ⟨cell, kc, e1, e2, e3, e4, e5⟩ hKp) ⟨C6, hD6, by rw [q2, u2]; simp⟩ wi (Or.inl (W _ (List.mem_of_getElem? (i := 22) rfl)))
  exact Go.on come (g T6 T6.heap _ v (X6.more (Nat.le_refl _) (Nat.add_le_add_left hn _)) rfl (fun y z => by
    simp only [List.mem_cons, List.not_mem_nil, or_false] at z
    rcases z with rfl | rfl | rfl <;> rfl) hKp Fv)
end OwnFill
end Jvm.RoadKit
namespace Jvm.RoadKit
open Sem ClassFile Op Lib Jvm.Stand Jvm.Free Jvm.LawKit
section OwnMore
variable {p : Program} {l : Launch} {e : Env} {R : Room} {s : State} {m : MethodId} {args : Array Value} {below : List Frame} {meth : Method} {c : Code} {T T' : State} {locs : List Loc} {cells slots : Nat} {Z : State} {a0 : Array Value} {h h' h0 : Heap} {K : State → Outcome → Prop} {pc q : Nat} {Ls : Array Slot} {rest S : List Value} {Q : Option Value → Heap → List Loc → Prop} {k n : Nat} {a b : Addr} {cA : ClassId} {ty : FieldType} {z j : Int32} {vs vs' : List Value} {dv : Value}
theorem Arv.alt (F : Arv Z h a cA ty z vs dv) (q : ∀ i, i < z.toNatClampNeg → vs'.getD i dv = vs.getD i dv) : Arv Z h a cA ty z vs' dv := by
  obtain ⟨c, A, r1, r2, r3, H, G⟩ := F
  exact ⟨c, A, r1, r2, r3, fun i hi => by rw [q i (r2 ▸ hi)]; exact H i hi, fun i hi => by rw [q i (r2 ▸ hi)]; exact G i hi⟩
end OwnMore
end Jvm.RoadKit
namespace Jvm.Pilot.@@N@@
open Jvm Jvm.ClassFile Sem Op Lib Jvm.Free Jvm.Stand Jvm.LawKit Jvm.RoadKit Bundle Jvm.Pilot.@@N@@.Jvm.D
section
variable {Z : State} {a0 : Array Value} (hw : ∀ d ∈ tables_1, d.before a0 Z = true)
def wd0 := hw _ (List.mem_of_getElem? (i := 0) rfl)
def wd1 := hw _ (List.mem_of_getElem? (i := 1) rfl)
def wd2 := hw _ (List.mem_of_getElem? (i := 2) rfl)
def wd3 := hw _ (List.mem_of_getElem? (i := 3) rfl)
def wd4 := hw _ (List.mem_of_getElem? (i := 4) rfl)
def wd5 := hw _ (List.mem_of_getElem? (i := 5) rfl)
def wd6 := hw _ (List.mem_of_getElem? (i := 6) rfl)
def wd7 := hw _ (List.mem_of_getElem? (i := 7) rfl)
def wd8 := hw _ (List.mem_of_getElem? (i := 8) rfl)
def wd9 := hw _ (List.mem_of_getElem? (i := 9) rfl)
def wd10 := hw _ (List.mem_of_getElem? (i := 10) rfl)
def wd11 := hw _ (List.mem_of_getElem? (i := 11) rfl)
def wd12 := hw _ (List.mem_of_getElem? (i := 12) rfl)
def wd14 := hw _ (List.mem_of_getElem? (i := 14) rfl)
def wd15 := hw _ (List.mem_of_getElem? (i := 15) rfl)
def wd16 := hw _ (List.mem_of_getElem? (i := 16) rfl)
def wd17 := hw _ (List.mem_of_getElem? (i := 17) rfl)
def wd18 := hw _ (List.mem_of_getElem? (i := 18) rfl)
def wd19 := hw _ (List.mem_of_getElem? (i := 19) rfl)
def wd20 := hw _ (List.mem_of_getElem? (i := 20) rfl)
def wd21 := hw _ (List.mem_of_getElem? (i := 21) rfl)
def wd24 := hw _ (List.mem_of_getElem? (i := 24) rfl)
def wd25 := hw _ (List.mem_of_getElem? (i := 25) rfl)
def wd26 := hw _ (List.mem_of_getElem? (i := 26) rfl)
def wd27 := hw _ (List.mem_of_getElem? (i := 27) rfl)
def wd28 := hw _ (List.mem_of_getElem? (i := 28) rfl)
def wd29 := hw _ (List.mem_of_getElem? (i := 29) rfl)
def wd30 := hw _ (List.mem_of_getElem? (i := 30) rfl)
def wd31 := hw _ (List.mem_of_getElem? (i := 31) rfl)
def wd32 := hw _ (List.mem_of_getElem? (i := 32) rfl)
def wd33 := hw _ (List.mem_of_getElem? (i := 33) rfl)
def wd34 := hw _ (List.mem_of_getElem? (i := 34) rfl)
def wd35 := hw _ (List.mem_of_getElem? (i := 35) rfl)
def wd36 := hw _ (List.mem_of_getElem? (i := 36) rfl)
def wd37 := hw _ (List.mem_of_getElem? (i := 37) rfl)
def wd38 := hw _ (List.mem_of_getElem? (i := 38) rfl)
def wd39 := hw _ (List.mem_of_getElem? (i := 39) rfl)
def wd40 := hw _ (List.mem_of_getElem? (i := 40) rfl)
def wd41 := hw _ (List.mem_of_getElem? (i := 41) rfl)
def wd42 := hw _ (List.mem_of_getElem? (i := 42) rfl)
def wd43 := hw _ (List.mem_of_getElem? (i := 43) rfl)
def wd44 := hw _ (List.mem_of_getElem? (i := 44) rfl)
def wd45 := hw _ (List.mem_of_getElem? (i := 45) rfl)
def wd46 := hw _ (List.mem_of_getElem? (i := 46) rfl)
def wd47 := hw _ (List.mem_of_getElem? (i := 47) rfl)
def wd48 := hw _ (List.mem_of_getElem? (i := 48) rfl)
def wd49 := hw _ (List.mem_of_getElem? (i := 49) rfl)
def wd50 := hw _ (List.mem_of_getElem? (i := 50) rfl)
def wd51 := hw _ (List.mem_of_getElem? (i := 51) rfl)
def wd52 := hw _ (List.mem_of_getElem? (i := 52) rfl)
def wd53 := hw _ (List.mem_of_getElem? (i := 53) rfl)
def wd54 := hw _ (List.mem_of_getElem? (i := 54) rfl)
def wd55 := hw _ (List.mem_of_getElem? (i := 55) rfl)
def wd56 := hw _ (List.mem_of_getElem? (i := 56) rfl)
def wd57 := hw _ (List.mem_of_getElem? (i := 57) rfl)
def wd58 := hw _ (List.mem_of_getElem? (i := 58) rfl)
def wd59 := hw _ (List.mem_of_getElem? (i := 59) rfl)
def wd60 := hw _ (List.mem_of_getElem? (i := 60) rfl)
def wd61 := hw _ (List.mem_of_getElem? (i := 61) rfl)
def wd62 := hw _ (List.mem_of_getElem? (i := 62) rfl)
def wd63 := hw _ (List.mem_of_getElem? (i := 63) rfl)
def wd64 := hw _ (List.mem_of_getElem? (i := 64) rfl)
def wd65 := hw _ (List.mem_of_getElem? (i := 65) rfl)
def wd66 := hw _ (List.mem_of_getElem? (i := 66) rfl)
def wd67 := hw _ (List.mem_of_getElem? (i := 67) rfl)
def wd68 := hw _ (List.mem_of_getElem? (i := 68) rfl)
def wd69 := hw _ (List.mem_of_getElem? (i := 69) rfl)
def wd70 := hw _ (List.mem_of_getElem? (i := 70) rfl)
def wd71 := hw _ (List.mem_of_getElem? (i := 71) rfl)
def wd72 := hw _ (List.mem_of_getElem? (i := 72) rfl)
def wd73 := hw _ (List.mem_of_getElem? (i := 73) rfl)
def wd74 := hw _ (List.mem_of_getElem? (i := 74) rfl)
def wd75 := hw _ (List.mem_of_getElem? (i := 75) rfl)
def wd78 := hw _ (List.mem_of_getElem? (i := 78) rfl)
def wd79 := hw _ (List.mem_of_getElem? (i := 79) rfl)
def wd80 := hw _ (List.mem_of_getElem? (i := 80) rfl)
def wd81 := hw _ (List.mem_of_getElem? (i := 81) rfl)
def wd82 := hw _ (List.mem_of_getElem? (i := 82) rfl)
def wd83 := hw _ (List.mem_of_getElem? (i := 83) rfl)
def wd84 := hw _ (List.mem_of_getElem? (i := 84) rfl)
def wd85 := hw _ (List.mem_of_getElem? (i := 85) rfl)
def wd86 := hw _ (List.mem_of_getElem? (i := 86) rfl)
def wd87 := hw _ (List.mem_of_getElem? (i := 87) rfl)
def wd88 := hw _ (List.mem_of_getElem? (i := 88) rfl)
def wd89 := hw _ (List.mem_of_getElem? (i := 89) rfl)
def wd90 := hw _ (List.mem_of_getElem? (i := 90) rfl)
def wd91 := hw _ (List.mem_of_getElem? (i := 91) rfl)
def wd92 := hw _ (List.mem_of_getElem? (i := 92) rfl)
def wd93 := hw _ (List.mem_of_getElem? (i := 93) rfl)
def wd94 := hw _ (List.mem_of_getElem? (i := 94) rfl)
def wd96 := hw _ (List.mem_of_getElem? (i := 96) rfl)
def wd97 := hw _ (List.mem_of_getElem? (i := 97) rfl)
def wd98 := hw _ (List.mem_of_getElem? (i := 98) rfl)
def wd99 := hw _ (List.mem_of_getElem? (i := 99) rfl)
def wd100 := hw _ (List.mem_of_getElem? (i := 100) rfl)
def wd101 := hw _ (List.mem_of_getElem? (i := 101) rfl)
def wd102 := hw _ (List.mem_of_getElem? (i := 102) rfl)
def wd103 := hw _ (List.mem_of_getElem? (i := 103) rfl)
def wd104 := hw _ (List.mem_of_getElem? (i := 104) rfl)
def wd105 := hw _ (List.mem_of_getElem? (i := 105) rfl)
def wd106 := hw _ (List.mem_of_getElem? (i := 106) rfl)
def wd107 := hw _ (List.mem_of_getElem? (i := 107) rfl)
def wd109 := hw _ (List.mem_of_getElem? (i := 109) rfl)
def wd110 := hw _ (List.mem_of_getElem? (i := 110) rfl)
def wd111 := hw _ (List.mem_of_getElem? (i := 111) rfl)
def wd112 := hw _ (List.mem_of_getElem? (i := 112) rfl)
def wd113 := hw _ (List.mem_of_getElem? (i := 113) rfl)
def wd114 := hw _ (List.mem_of_getElem? (i := 114) rfl)
def wd115 := hw _ (List.mem_of_getElem? (i := 115) rfl)
def wd116 := hw _ (List.mem_of_getElem? (i := 116) rfl)
def wd117 := hw _ (List.mem_of_getElem? (i := 117) rfl)
def wd118 := hw _ (List.mem_of_getElem? (i := 118) rfl)
def wd119 := hw _ (List.mem_of_getElem? (i := 119) rfl)
def wd120 := hw _ (List.mem_of_getElem? (i := 120) rfl)
def wd121 := hw _ (List.mem_of_getElem? (i := 121) rfl)
def wd122 := hw _ (List.mem_of_getElem? (i := 122) rfl)
def wd123 := hw _ (List.mem_of_getElem? (i := 123) rfl)
def wd124 := hw _ (List.mem_of_getElem? (i := 124) rfl)
def wd125 := hw _ (List.mem_of_getElem? (i := 125) rfl)
def wd126 := hw _ (List.mem_of_getElem? (i := 126) rfl)
def wd127 := hw _ (List.mem_of_getElem? (i := 127) rfl)
def wd128 := hw _ (List.mem_of_getElem? (i := 128) rfl)
def wd129 := hw _ (List.mem_of_getElem? (i := 129) rfl)
def wd130 := hw _ (List.mem_of_getElem? (i := 130) rfl)
def wd131 := hw _ (List.mem_of_getElem? (i := 131) rfl)
def wd132 := hw _ (List.mem_of_getElem? (i := 132) rfl)
def wd133 := hw _ (List.mem_of_getElem? (i := 133) rfl)
def wd135 := hw _ (List.mem_of_getElem? (i := 135) rfl)
def wd136 := hw _ (List.mem_of_getElem? (i := 136) rfl)
def wd137 := hw _ (List.mem_of_getElem? (i := 137) rfl)
def wd138 := hw _ (List.mem_of_getElem? (i := 138) rfl)
def wd140 := hw _ (List.mem_of_getElem? (i := 140) rfl)
def wd141 := hw _ (List.mem_of_getElem? (i := 141) rfl)
def wd142 := hw _ (List.mem_of_getElem? (i := 142) rfl)
def wd143 := hw _ (List.mem_of_getElem? (i := 143) rfl)
def wd144 := hw _ (List.mem_of_getElem? (i := 144) rfl)
def wd145 := hw _ (List.mem_of_getElem? (i := 145) rfl)
def wd146 := hw _ (List.mem_of_getElem? (i := 146) rfl)
def wd147 := hw _ (List.mem_of_getElem? (i := 147) rfl)
def wd148 := hw _ (List.mem_of_getElem? (i := 148) rfl)
def wd149 := hw _ (List.mem_of_getElem? (i := 149) rfl)
def wd150 := hw _ (List.mem_of_getElem? (i := 150) rfl)
def wd151 := hw _ (List.mem_of_getElem? (i := 151) rfl)
def wd152 := hw _ (List.mem_of_getElem? (i := 152) rfl)
def wd153 := hw _ (List.mem_of_getElem? (i := 153) rfl)
def wd154 := hw _ (List.mem_of_getElem? (i := 154) rfl)
def wd155 := hw _ (List.mem_of_getElem? (i := 155) rfl)
def wd156 := hw _ (List.mem_of_getElem? (i := 156) rfl)
def wd157 := hw _ (List.mem_of_getElem? (i := 157) rfl)
def wd158 := hw _ (List.mem_of_getElem? (i := 158) rfl)
def wd159 := hw _ (List.mem_of_getElem? (i := 159) rfl)
def wd160 := hw _ (List.mem_of_getElem? (i := 160) rfl)
def wd161 := hw _ (List.mem_of_getElem? (i := 161) rfl)
def wd162 := hw _ (List.mem_of_getElem? (i := 162) rfl)
def wd163 := hw _ (List.mem_of_getElem? (i := 163) rfl)
def wd164 := hw _ (List.mem_of_getElem? (i := 164) rfl)
def wd165 := hw _ (List.mem_of_getElem? (i := 165) rfl)
def wd166 := hw _ (List.mem_of_getElem? (i := 166) rfl)
def wd167 := hw _ (List.mem_of_getElem? (i := 167) rfl)
def wd168 := hw _ (List.mem_of_getElem? (i := 168) rfl)
def wd169 := hw _ (List.mem_of_getElem? (i := 169) rfl)
def wd170 := hw _ (List.mem_of_getElem? (i := 170) rfl)
def wd171 := hw _ (List.mem_of_getElem? (i := 171) rfl)
def wd172 := hw _ (List.mem_of_getElem? (i := 172) rfl)
def wd173 := hw _ (List.mem_of_getElem? (i := 173) rfl)
def wd174 := hw _ (List.mem_of_getElem? (i := 174) rfl)
def wd175 := hw _ (List.mem_of_getElem? (i := 175) rfl)
def wd176 := hw _ (List.mem_of_getElem? (i := 176) rfl)
def wd177 := hw _ (List.mem_of_getElem? (i := 177) rfl)
def wd178 := hw _ (List.mem_of_getElem? (i := 178) rfl)
def wd179 := hw _ (List.mem_of_getElem? (i := 179) rfl)
def wd180 := hw _ (List.mem_of_getElem? (i := 180) rfl)
def wd181 := hw _ (List.mem_of_getElem? (i := 181) rfl)
def wd182 := hw _ (List.mem_of_getElem? (i := 182) rfl)
def wd183 := hw _ (List.mem_of_getElem? (i := 183) rfl)
def wd184 := hw _ (List.mem_of_getElem? (i := 184) rfl)
def wd185 := hw _ (List.mem_of_getElem? (i := 185) rfl)
def wd186 := hw _ (List.mem_of_getElem? (i := 186) rfl)
def wd187 := hw _ (List.mem_of_getElem? (i := 187) rfl)
def wd188 := hw _ (List.mem_of_getElem? (i := 188) rfl)
def wd189 := hw _ (List.mem_of_getElem? (i := 189) rfl)
def wd190 := hw _ (List.mem_of_getElem? (i := 190) rfl)
def wd191 := hw _ (List.mem_of_getElem? (i := 191) rfl)
def wd193 := hw _ (List.mem_of_getElem? (i := 193) rfl)
def wd194 := hw _ (List.mem_of_getElem? (i := 194) rfl)
def wd195 := hw _ (List.mem_of_getElem? (i := 195) rfl)
def wd196 := hw _ (List.mem_of_getElem? (i := 196) rfl)
def wd199 := hw _ (List.mem_of_getElem? (i := 199) rfl)
def wd200 := hw _ (List.mem_of_getElem? (i := 200) rfl)
def wd201 := hw _ (List.mem_of_getElem? (i := 201) rfl)
def wd202 := hw _ (List.mem_of_getElem? (i := 202) rfl)
def wd203 := hw _ (List.mem_of_getElem? (i := 203) rfl)
def wd204 := hw _ (List.mem_of_getElem? (i := 204) rfl)
def wd205 := hw _ (List.mem_of_getElem? (i := 205) rfl)
def wd206 := hw _ (List.mem_of_getElem? (i := 206) rfl)
def wd207 := hw _ (List.mem_of_getElem? (i := 207) rfl)
def wd208 := hw _ (List.mem_of_getElem? (i := 208) rfl)
def wd209 := hw _ (List.mem_of_getElem? (i := 209) rfl)
def wd233 := hw _ (List.mem_of_getElem? (i := 233) rfl)
def wd234 := hw _ (List.mem_of_getElem? (i := 234) rfl)
def wd235 := hw _ (List.mem_of_getElem? (i := 235) rfl)
def wd237 := hw _ (List.mem_of_getElem? (i := 237) rfl)
def wd238 := hw _ (List.mem_of_getElem? (i := 238) rfl)
def wd239 := hw _ (List.mem_of_getElem? (i := 239) rfl)
def wd240 := hw _ (List.mem_of_getElem? (i := 240) rfl)
def wd241 := hw _ (List.mem_of_getElem? (i := 241) rfl)
def wd242 := hw _ (List.mem_of_getElem? (i := 242) rfl)
def wd243 := hw _ (List.mem_of_getElem? (i := 243) rfl)
def wd244 := hw _ (List.mem_of_getElem? (i := 244) rfl)
def wd245 := hw _ (List.mem_of_getElem? (i := 245) rfl)
def wd246 := hw _ (List.mem_of_getElem? (i := 246) rfl)
def wd247 := hw _ (List.mem_of_getElem? (i := 247) rfl)
def wd248 := hw _ (List.mem_of_getElem? (i := 248) rfl)
def wd249 := hw _ (List.mem_of_getElem? (i := 249) rfl)
def wd250 := hw _ (List.mem_of_getElem? (i := 250) rfl)
def wd251 := hw _ (List.mem_of_getElem? (i := 251) rfl)
def wd252 := hw _ (List.mem_of_getElem? (i := 252) rfl)
def wd253 := hw _ (List.mem_of_getElem? (i := 253) rfl)
def wd254 := hw _ (List.mem_of_getElem? (i := 254) rfl)
def wd255 := hw _ (List.mem_of_getElem? (i := 255) rfl)
def wd256 := hw _ (List.mem_of_getElem? (i := 256) rfl)
def wd257 := hw _ (List.mem_of_getElem? (i := 257) rfl)
def wd258 := hw _ (List.mem_of_getElem? (i := 258) rfl)
def wd259 := hw _ (List.mem_of_getElem? (i := 259) rfl)
def wd261 := hw _ (List.mem_of_getElem? (i := 261) rfl)
def wd262 := hw _ (List.mem_of_getElem? (i := 262) rfl)
def wd263 := hw _ (List.mem_of_getElem? (i := 263) rfl)
def wd264 := hw _ (List.mem_of_getElem? (i := 264) rfl)
def wd265 := hw _ (List.mem_of_getElem? (i := 265) rfl)
end
theorem own_wS {Z : State} {a0 : Array Value} (hw : ∀ d ∈ tables_1, d.before a0 Z = true) : ∀ d ∈ Bundle.stringAtoms, d.before a0 Z = true := by
  intro d hd
  simp only [Bundle.stringAtoms, List.mem_cons, List.not_mem_nil, or_false] at hd
  rcases hd with rfl | rfl | rfl | rfl | rfl | rfl | rfl
  · exact hw _ (List.mem_of_getElem? (i := 6) rfl)
  · exact hw _ (List.mem_of_getElem? (i := 5) rfl)
  · exact hw _ (List.mem_of_getElem? (i := 19) rfl)
  · exact hw _ (List.mem_of_getElem? (i := 20) rfl)
  · exact hw _ (List.mem_of_getElem? (i := 21) rfl)
  · exact hw _ (List.mem_of_getElem? (i := 22) rfl)
  · exact hw _ (List.mem_of_getElem? (i := 23) rfl)
theorem own_EW {Z : State} {a0 : Array Value} (hw : ∀ d ∈ tables_1, d.before a0 Z = true) : EW Z a0 consts_1 := (EW.cons (hw _ (List.mem_of_getElem? (i := 47) (a := (Cond.stringLink "com/example/loopd/loopd/Flags" (51 : Nat) "-")) rfl)) (by decide) (EW.cons (hw _ (List.mem_of_getElem? (i := 257) (a := (Cond.stringLink "com/example/loopd/loopd/Flags" (57 : Nat) "unknown flag ")) rfl)) (by decide) (EW.cons (hw _ (List.mem_of_getElem? (i := 86) (a := (Cond.stringLink "com/example/loopd/loopd/Flags" (59 : Nat) "unexpected argument ")) rfl)) (by decide) (EW.cons (hw _ (List.mem_of_getElem? (i := 18) (a := (Cond.stringLink "java/lang/String" (7 : Nat) "")) rfl)) (by decide) EW.nil))))
abbrev k1 := method_3_code
abbrev k2 := jdk_42_method_3_code
abbrev k3 := jdk_42_method_149_code
abbrev k4 := object_method_1_code
abbrev k5 := method_4_code
abbrev k6 := jdk_52_method_16_code
abbrev k7 := jdk_52_method_21_code
abbrev k8 := jdk_52_method_15_code
abbrev k9 := prog_1_method_4_code
abbrev k10 := jdk_42_method_76_code
abbrev k11 := jdk_42_method_75_code
abbrev k12 := jdk_42_method_54_code
abbrev k13 := jdk_42_method_152_code
abbrev k14 := jdk_67_method_1_code
abbrev k15 := jdk_68_method_2_code
abbrev k16 := jdk_67_method_7_code
abbrev k17 := jdk_68_method_22_code
abbrev k18 := jdk_68_method_9_code
abbrev k19 := jdk_68_method_10_code
abbrev k20 := jdk_48_method_27_code
abbrev k21 := jdk_29_method_65_code
abbrev k22 := jdk_65_method_121_code
abbrev k23 := jdk_29_method_69_code
abbrev k24 := jdk_68_method_73_code
abbrev k25 := jdk_68_method_71_code
abbrev k26 := jdk_42_method_147_code
abbrev k27 := jdk_67_method_42_code
abbrev k28 := jdk_42_method_53_code
abbrev k29 := jdk_42_method_150_code
abbrev k30 := jdk_68_method_64_code
abbrev k31 := jdk_67_method_93_code
abbrev k32 := jdk_68_method_6_code
abbrev k33 := jdk_68_method_68_code
abbrev k34 := jdk_65_method_132_code
abbrev k35 := jdk_65_method_133_code
abbrev k36 := jdk_65_method_131_code
abbrev k37 := prog_4_method_1_code
abbrev k38 := jdk_59_method_2_code
abbrev k39 := jdk_78_method_2_code
abbrev k40 := jdk_78_method_18_code
abbrev k41 := jdk_78_method_1_code
abbrev k42 := jdk_78_method_6_code
abbrev k43 := jdk_42_method_66_code
abbrev k44 := jdk_43_method_13_code
abbrev k45 := jdk_48_method_14_code
theorem d1_0 : decode k1 0 = .ok (.iload_n 0, 1) := by decide +kernel
theorem d1_1 : decode k1 1 = .ok (.ifCond .ne 14, 3) := by decide +kernel
theorem d1_4 : decode k1 4 = .ok (.new 30, 3) := by decide +kernel
theorem d1_7 : decode k1 7 = .ok (.dup, 1) := by decide +kernel
theorem d1_8 : decode k1 8 = .ok (.iconst 0, 1) := by decide +kernel
theorem d1_9 : decode k1 9 = .ok (.newarray .char, 2) := by decide +kernel
theorem d1_11 : decode k1 11 = .ok (.invokespecial 35, 3) := by decide +kernel
theorem d1_14 : decode k1 14 = .ok (.areturn, 1) := by decide +kernel
theorem d1_15 : decode k1 15 = .ok (.iload_n 0, 1) := by decide +kernel
theorem d1_16 : decode k1 16 = .ok (.iconst 1, 1) := by decide +kernel
theorem d1_17 : decode k1 17 = .ok (.if_icmp .ne 18, 3) := by decide +kernel
theorem d1_20 : decode k1 20 = .ok (.new 30, 3) := by decide +kernel
theorem d1_23 : decode k1 23 = .ok (.dup, 1) := by decide +kernel
theorem d1_24 : decode k1 24 = .ok (.iconst 1, 1) := by decide +kernel
theorem d1_25 : decode k1 25 = .ok (.newarray .char, 2) := by decide +kernel
theorem d1_27 : decode k1 27 = .ok (.dup, 1) := by decide +kernel
theorem d1_28 : decode k1 28 = .ok (.iconst 0, 1) := by decide +kernel
theorem d1_29 : decode k1 29 = .ok (.iload_n 1, 1) := by decide +kernel
theorem d1_30 : decode k1 30 = .ok (.castore, 1) := by decide +kernel
theorem d1_31 : decode k1 31 = .ok (.invokespecial 35, 3) := by decide +kernel
theorem d1_34 : decode k1 34 = .ok (.areturn, 1) := by decide +kernel
theorem d1_35 : decode k1 35 = .ok (.iload_n 0, 1) := by decide +kernel
theorem d1_36 : decode k1 36 = .ok (.iconst 2, 1) := by decide +kernel
theorem d1_37 : decode k1 37 = .ok (.if_icmp .ne 22, 3) := by decide +kernel
theorem d1_40 : decode k1 40 = .ok (.new 30, 3) := by decide +kernel
theorem d1_43 : decode k1 43 = .ok (.dup, 1) := by decide +kernel
theorem d1_44 : decode k1 44 = .ok (.iconst 2, 1) := by decide +kernel
theorem d1_45 : decode k1 45 = .ok (.newarray .char, 2) := by decide +kernel
theorem d1_47 : decode k1 47 = .ok (.dup, 1) := by decide +kernel
theorem d1_48 : decode k1 48 = .ok (.iconst 0, 1) := by decide +kernel
theorem d1_49 : decode k1 49 = .ok (.iload_n 1, 1) := by decide +kernel
theorem d1_50 : decode k1 50 = .ok (.castore, 1) := by decide +kernel
theorem d1_51 : decode k1 51 = .ok (.dup, 1) := by decide +kernel
theorem d1_52 : decode k1 52 = .ok (.iconst 1, 1) := by decide +kernel
theorem d1_53 : decode k1 53 = .ok (.iload_n 2, 1) := by decide +kernel
theorem d1_54 : decode k1 54 = .ok (.castore, 1) := by decide +kernel
theorem d1_55 : decode k1 55 = .ok (.invokespecial 35, 3) := by decide +kernel
theorem d1_58 : decode k1 58 = .ok (.areturn, 1) := by decide +kernel
theorem d1_59 : decode k1 59 = .ok (.new 30, 3) := by decide +kernel
theorem d1_62 : decode k1 62 = .ok (.dup, 1) := by decide +kernel
theorem d1_63 : decode k1 63 = .ok (.iconst 3, 1) := by decide +kernel
theorem d1_64 : decode k1 64 = .ok (.newarray .char, 2) := by decide +kernel
theorem d1_66 : decode k1 66 = .ok (.dup, 1) := by decide +kernel
theorem d1_67 : decode k1 67 = .ok (.iconst 0, 1) := by decide +kernel
theorem d1_68 : decode k1 68 = .ok (.iload_n 1, 1) := by decide +kernel
theorem d1_69 : decode k1 69 = .ok (.castore, 1) := by decide +kernel
theorem d1_70 : decode k1 70 = .ok (.dup, 1) := by decide +kernel
theorem d1_71 : decode k1 71 = .ok (.iconst 1, 1) := by decide +kernel
theorem d1_72 : decode k1 72 = .ok (.iload_n 2, 1) := by decide +kernel
theorem d1_73 : decode k1 73 = .ok (.castore, 1) := by decide +kernel
theorem d1_74 : decode k1 74 = .ok (.dup, 1) := by decide +kernel
theorem d1_75 : decode k1 75 = .ok (.iconst 2, 1) := by decide +kernel
theorem d1_76 : decode k1 76 = .ok (.iload_n 3, 1) := by decide +kernel
theorem d1_77 : decode k1 77 = .ok (.castore, 1) := by decide +kernel
theorem d1_78 : decode k1 78 = .ok (.invokespecial 35, 3) := by decide +kernel
theorem d1_81 : decode k1 81 = .ok (.areturn, 1) := by decide +kernel
theorem d2_0 : decode k2 0 = .ok (.aload_n 0, 1) := by decide +kernel
theorem d2_1 : decode k2 1 = .ok (.aload_n 1, 1) := by decide +kernel
theorem d2_2 : decode k2 2 = .ok (.iconst 0, 1) := by decide +kernel
theorem d2_3 : decode k2 3 = .ok (.aload_n 1, 1) := by decide +kernel
theorem d2_4 : decode k2 4 = .ok (.arraylength, 1) := by decide +kernel
theorem d2_5 : decode k2 5 = .ok (.aconst_null, 1) := by decide +kernel
theorem d2_6 : decode k2 6 = .ok (.invokespecial 27, 3) := by decide +kernel
theorem d2_9 : decode k2 9 = .ok (.return_, 1) := by decide +kernel
theorem d3_0 : decode k3 0 = .ok (.aload_n 0, 1) := by decide +kernel
theorem d3_1 : decode k3 1 = .ok (.invokespecial 1, 3) := by decide +kernel
theorem d3_4 : decode k3 4 = .ok (.iload_n 3, 1) := by decide +kernel
theorem d3_5 : decode k3 5 = .ok (.ifCond .ne 22, 3) := by decide +kernel
theorem d3_8 : decode k3 8 = .ok (.aload_n 0, 1) := by decide +kernel
theorem d3_9 : decode k3 9 = .ok (.ldc 7, 2) := by decide +kernel
theorem d3_11 : decode k3 11 = .ok (.getfield 9, 3) := by decide +kernel
theorem d3_14 : decode k3 14 = .ok (.putfield 9, 3) := by decide +kernel
theorem d3_17 : decode k3 17 = .ok (.aload_n 0, 1) := by decide +kernel
theorem d3_18 : decode k3 18 = .ok (.ldc 7, 2) := by decide +kernel
theorem d3_20 : decode k3 20 = .ok (.getfield 15, 3) := by decide +kernel
theorem d3_23 : decode k3 23 = .ok (.putfield 15, 3) := by decide +kernel
theorem d3_26 : decode k3 26 = .ok (.return_, 1) := by decide +kernel
theorem d3_27 : decode k3 27 = .ok (.getstatic 38, 3) := by decide +kernel
theorem d3_30 : decode k3 30 = .ok (.ifCond .eq 28, 3) := by decide +kernel
theorem d3_33 : decode k3 33 = .ok (.aload_n 1, 1) := by decide +kernel
theorem d3_34 : decode k3 34 = .ok (.iload_n 2, 1) := by decide +kernel
theorem d3_35 : decode k3 35 = .ok (.iload_n 3, 1) := by decide +kernel
theorem d3_36 : decode k3 36 = .ok (.invokestatic 177, 3) := by decide +kernel
theorem d3_39 : decode k3 39 = .ok (.astore 5, 2) := by decide +kernel
theorem d3_41 : decode k3 41 = .ok (.aload_n 0, 1) := by decide +kernel
theorem d3_42 : decode k3 42 = .ok (.aload 5, 2) := by decide +kernel
theorem d3_44 : decode k3 44 = .ok (.iload_n 3, 1) := by decide +kernel
theorem d3_45 : decode k3 45 = .ok (.invokestatic 47, 3) := by decide +kernel
theorem d3_48 : decode k3 48 = .ok (.putfield 15, 3) := by decide +kernel
theorem d3_51 : decode k3 51 = .ok (.aload_n 0, 1) := by decide +kernel
theorem d3_52 : decode k3 52 = .ok (.aload 5, 2) := by decide +kernel
theorem d3_54 : decode k3 54 = .ok (.putfield 9, 3) := by decide +kernel
theorem d3_57 : decode k3 57 = .ok (.return_, 1) := by decide +kernel
theorem d5_0 : decode k5 0 = .ok (.iload_n 0, 1) := by decide +kernel
theorem d5_1 : decode k5 1 = .ok (.ifCond .eq 296, 3) := by decide +kernel
theorem d5_4 : decode k5 4 = .ok (.iload_n 1, 1) := by decide +kernel
theorem d5_5 : decode k5 5 = .ok (.iconst 1, 1) := by decide +kernel
theorem d5_6 : decode k5 6 = .ok (.if_icmp .ne 92, 3) := by decide +kernel
theorem d5_9 : decode k5 9 = .ok (.new 30, 3) := by decide +kernel
theorem d5_12 : decode k5 12 = .ok (.dup, 1) := by decide +kernel
theorem d5_13 : decode k5 13 = .ok (.bipush 14, 2) := by decide +kernel
theorem d5_15 : decode k5 15 = .ok (.newarray .char, 2) := by decide +kernel
theorem d5_17 : decode k5 17 = .ok (.dup, 1) := by decide +kernel
theorem d5_18 : decode k5 18 = .ok (.iconst 0, 1) := by decide +kernel
theorem d5_19 : decode k5 19 = .ok (.bipush 117, 2) := by decide +kernel
theorem d5_21 : decode k5 21 = .ok (.castore, 1) := by decide +kernel
theorem d5_22 : decode k5 22 = .ok (.dup, 1) := by decide +kernel
theorem d5_23 : decode k5 23 = .ok (.iconst 1, 1) := by decide +kernel
theorem d5_24 : decode k5 24 = .ok (.bipush 110, 2) := by decide +kernel
theorem d5_26 : decode k5 26 = .ok (.castore, 1) := by decide +kernel
theorem d5_27 : decode k5 27 = .ok (.dup, 1) := by decide +kernel
theorem d5_28 : decode k5 28 = .ok (.iconst 2, 1) := by decide +kernel
theorem d5_29 : decode k5 29 = .ok (.bipush 107, 2) := by decide +kernel
theorem d5_31 : decode k5 31 = .ok (.castore, 1) := by decide +kernel
theorem d5_32 : decode k5 32 = .ok (.dup, 1) := by decide +kernel
theorem d5_33 : decode k5 33 = .ok (.iconst 3, 1) := by decide +kernel
theorem d5_34 : decode k5 34 = .ok (.bipush 110, 2) := by decide +kernel
theorem d5_36 : decode k5 36 = .ok (.castore, 1) := by decide +kernel
theorem d5_37 : decode k5 37 = .ok (.dup, 1) := by decide +kernel
theorem d5_38 : decode k5 38 = .ok (.iconst 4, 1) := by decide +kernel
theorem d5_39 : decode k5 39 = .ok (.bipush 111, 2) := by decide +kernel
theorem d5_41 : decode k5 41 = .ok (.castore, 1) := by decide +kernel
theorem d5_42 : decode k5 42 = .ok (.dup, 1) := by decide +kernel
theorem d5_43 : decode k5 43 = .ok (.iconst 5, 1) := by decide +kernel
theorem d5_44 : decode k5 44 = .ok (.bipush 119, 2) := by decide +kernel
theorem d5_46 : decode k5 46 = .ok (.castore, 1) := by decide +kernel
theorem d5_47 : decode k5 47 = .ok (.dup, 1) := by decide +kernel
theorem d5_48 : decode k5 48 = .ok (.bipush 6, 2) := by decide +kernel
theorem d5_50 : decode k5 50 = .ok (.bipush 110, 2) := by decide +kernel
theorem d5_52 : decode k5 52 = .ok (.castore, 1) := by decide +kernel
theorem d5_53 : decode k5 53 = .ok (.dup, 1) := by decide +kernel
theorem d5_54 : decode k5 54 = .ok (.bipush 7, 2) := by decide +kernel
theorem d5_56 : decode k5 56 = .ok (.bipush 32, 2) := by decide +kernel
theorem d5_58 : decode k5 58 = .ok (.castore, 1) := by decide +kernel
theorem d5_59 : decode k5 59 = .ok (.dup, 1) := by decide +kernel
theorem d5_60 : decode k5 60 = .ok (.bipush 8, 2) := by decide +kernel
theorem d5_62 : decode k5 62 = .ok (.bipush 102, 2) := by decide +kernel
theorem d5_64 : decode k5 64 = .ok (.castore, 1) := by decide +kernel
theorem d5_65 : decode k5 65 = .ok (.dup, 1) := by decide +kernel
theorem d5_66 : decode k5 66 = .ok (.bipush 9, 2) := by decide +kernel
theorem d5_68 : decode k5 68 = .ok (.bipush 108, 2) := by decide +kernel
theorem d5_70 : decode k5 70 = .ok (.castore, 1) := by decide +kernel
theorem d5_71 : decode k5 71 = .ok (.dup, 1) := by decide +kernel
theorem d5_72 : decode k5 72 = .ok (.bipush 10, 2) := by decide +kernel
theorem d5_74 : decode k5 74 = .ok (.bipush 97, 2) := by decide +kernel
theorem d5_76 : decode k5 76 = .ok (.castore, 1) := by decide +kernel
theorem d5_77 : decode k5 77 = .ok (.dup, 1) := by decide +kernel
theorem d5_78 : decode k5 78 = .ok (.bipush 11, 2) := by decide +kernel
theorem d5_80 : decode k5 80 = .ok (.bipush 103, 2) := by decide +kernel
theorem d5_82 : decode k5 82 = .ok (.castore, 1) := by decide +kernel
theorem d5_83 : decode k5 83 = .ok (.dup, 1) := by decide +kernel
theorem d5_84 : decode k5 84 = .ok (.bipush 12, 2) := by decide +kernel
theorem d5_86 : decode k5 86 = .ok (.bipush 32, 2) := by decide +kernel
theorem d5_88 : decode k5 88 = .ok (.castore, 1) := by decide +kernel
theorem d5_89 : decode k5 89 = .ok (.dup, 1) := by decide +kernel
theorem d5_90 : decode k5 90 = .ok (.bipush 13, 2) := by decide +kernel
theorem d5_92 : decode k5 92 = .ok (.iload_n 2, 1) := by decide +kernel
theorem d5_93 : decode k5 93 = .ok (.castore, 1) := by decide +kernel
theorem d5_94 : decode k5 94 = .ok (.invokespecial 35, 3) := by decide +kernel
theorem d5_97 : decode k5 97 = .ok (.areturn, 1) := by decide +kernel
theorem d5_98 : decode k5 98 = .ok (.iload_n 1, 1) := by decide +kernel
theorem d5_99 : decode k5 99 = .ok (.iconst 2, 1) := by decide +kernel
theorem d5_100 : decode k5 100 = .ok (.if_icmp .ne 97, 3) := by decide +kernel
theorem d5_103 : decode k5 103 = .ok (.new 30, 3) := by decide +kernel
theorem d5_106 : decode k5 106 = .ok (.dup, 1) := by decide +kernel
theorem d5_107 : decode k5 107 = .ok (.bipush 15, 2) := by decide +kernel
theorem d5_109 : decode k5 109 = .ok (.newarray .char, 2) := by decide +kernel
theorem d5_111 : decode k5 111 = .ok (.dup, 1) := by decide +kernel
theorem d5_112 : decode k5 112 = .ok (.iconst 0, 1) := by decide +kernel
theorem d5_113 : decode k5 113 = .ok (.bipush 117, 2) := by decide +kernel
theorem d5_115 : decode k5 115 = .ok (.castore, 1) := by decide +kernel
theorem d5_116 : decode k5 116 = .ok (.dup, 1) := by decide +kernel
theorem d5_117 : decode k5 117 = .ok (.iconst 1, 1) := by decide +kernel
theorem d5_118 : decode k5 118 = .ok (.bipush 110, 2) := by decide +kernel
theorem d5_120 : decode k5 120 = .ok (.castore, 1) := by decide +kernel
theorem d5_121 : decode k5 121 = .ok (.dup, 1) := by decide +kernel
theorem d5_122 : decode k5 122 = .ok (.iconst 2, 1) := by decide +kernel
theorem d5_123 : decode k5 123 = .ok (.bipush 107, 2) := by decide +kernel
theorem d5_125 : decode k5 125 = .ok (.castore, 1) := by decide +kernel
theorem d5_126 : decode k5 126 = .ok (.dup, 1) := by decide +kernel
theorem d5_127 : decode k5 127 = .ok (.iconst 3, 1) := by decide +kernel
theorem d5_128 : decode k5 128 = .ok (.bipush 110, 2) := by decide +kernel
theorem d5_130 : decode k5 130 = .ok (.castore, 1) := by decide +kernel
theorem d5_131 : decode k5 131 = .ok (.dup, 1) := by decide +kernel
theorem d5_132 : decode k5 132 = .ok (.iconst 4, 1) := by decide +kernel
theorem d5_133 : decode k5 133 = .ok (.bipush 111, 2) := by decide +kernel
theorem d5_135 : decode k5 135 = .ok (.castore, 1) := by decide +kernel
theorem d5_136 : decode k5 136 = .ok (.dup, 1) := by decide +kernel
theorem d5_137 : decode k5 137 = .ok (.iconst 5, 1) := by decide +kernel
theorem d5_138 : decode k5 138 = .ok (.bipush 119, 2) := by decide +kernel
theorem d5_140 : decode k5 140 = .ok (.castore, 1) := by decide +kernel
theorem d5_141 : decode k5 141 = .ok (.dup, 1) := by decide +kernel
theorem d5_142 : decode k5 142 = .ok (.bipush 6, 2) := by decide +kernel
theorem d5_144 : decode k5 144 = .ok (.bipush 110, 2) := by decide +kernel
theorem d5_146 : decode k5 146 = .ok (.castore, 1) := by decide +kernel
theorem d5_147 : decode k5 147 = .ok (.dup, 1) := by decide +kernel
theorem d5_148 : decode k5 148 = .ok (.bipush 7, 2) := by decide +kernel
theorem d5_150 : decode k5 150 = .ok (.bipush 32, 2) := by decide +kernel
theorem d5_152 : decode k5 152 = .ok (.castore, 1) := by decide +kernel
theorem d5_153 : decode k5 153 = .ok (.dup, 1) := by decide +kernel
theorem d5_154 : decode k5 154 = .ok (.bipush 8, 2) := by decide +kernel
theorem d5_156 : decode k5 156 = .ok (.bipush 102, 2) := by decide +kernel
theorem d5_158 : decode k5 158 = .ok (.castore, 1) := by decide +kernel
theorem d5_159 : decode k5 159 = .ok (.dup, 1) := by decide +kernel
theorem d5_160 : decode k5 160 = .ok (.bipush 9, 2) := by decide +kernel
theorem d5_162 : decode k5 162 = .ok (.bipush 108, 2) := by decide +kernel
theorem d5_164 : decode k5 164 = .ok (.castore, 1) := by decide +kernel
theorem d5_165 : decode k5 165 = .ok (.dup, 1) := by decide +kernel
theorem d5_166 : decode k5 166 = .ok (.bipush 10, 2) := by decide +kernel
theorem d5_168 : decode k5 168 = .ok (.bipush 97, 2) := by decide +kernel
theorem d5_170 : decode k5 170 = .ok (.castore, 1) := by decide +kernel
theorem d5_171 : decode k5 171 = .ok (.dup, 1) := by decide +kernel
theorem d5_172 : decode k5 172 = .ok (.bipush 11, 2) := by decide +kernel
theorem d5_174 : decode k5 174 = .ok (.bipush 103, 2) := by decide +kernel
theorem d5_176 : decode k5 176 = .ok (.castore, 1) := by decide +kernel
theorem d5_177 : decode k5 177 = .ok (.dup, 1) := by decide +kernel
theorem d5_178 : decode k5 178 = .ok (.bipush 12, 2) := by decide +kernel
theorem d5_180 : decode k5 180 = .ok (.bipush 32, 2) := by decide +kernel
theorem d5_182 : decode k5 182 = .ok (.castore, 1) := by decide +kernel
theorem d5_183 : decode k5 183 = .ok (.dup, 1) := by decide +kernel
theorem d5_184 : decode k5 184 = .ok (.bipush 13, 2) := by decide +kernel
theorem d5_186 : decode k5 186 = .ok (.iload_n 2, 1) := by decide +kernel
theorem d5_187 : decode k5 187 = .ok (.castore, 1) := by decide +kernel
theorem d5_188 : decode k5 188 = .ok (.dup, 1) := by decide +kernel
theorem d5_189 : decode k5 189 = .ok (.bipush 14, 2) := by decide +kernel
theorem d5_191 : decode k5 191 = .ok (.iload_n 3, 1) := by decide +kernel
theorem d5_192 : decode k5 192 = .ok (.castore, 1) := by decide +kernel
theorem d5_193 : decode k5 193 = .ok (.invokespecial 35, 3) := by decide +kernel
theorem d5_196 : decode k5 196 = .ok (.areturn, 1) := by decide +kernel
theorem d5_197 : decode k5 197 = .ok (.new 30, 3) := by decide +kernel
theorem d5_200 : decode k5 200 = .ok (.dup, 1) := by decide +kernel
theorem d5_201 : decode k5 201 = .ok (.bipush 16, 2) := by decide +kernel
theorem d5_203 : decode k5 203 = .ok (.newarray .char, 2) := by decide +kernel
theorem d5_205 : decode k5 205 = .ok (.dup, 1) := by decide +kernel
theorem d5_206 : decode k5 206 = .ok (.iconst 0, 1) := by decide +kernel
theorem d5_207 : decode k5 207 = .ok (.bipush 117, 2) := by decide +kernel
theorem d5_209 : decode k5 209 = .ok (.castore, 1) := by decide +kernel
theorem d5_210 : decode k5 210 = .ok (.dup, 1) := by decide +kernel
theorem d5_211 : decode k5 211 = .ok (.iconst 1, 1) := by decide +kernel
theorem d5_212 : decode k5 212 = .ok (.bipush 110, 2) := by decide +kernel
theorem d5_214 : decode k5 214 = .ok (.castore, 1) := by decide +kernel
theorem d5_215 : decode k5 215 = .ok (.dup, 1) := by decide +kernel
theorem d5_216 : decode k5 216 = .ok (.iconst 2, 1) := by decide +kernel
theorem d5_217 : decode k5 217 = .ok (.bipush 107, 2) := by decide +kernel
theorem d5_219 : decode k5 219 = .ok (.castore, 1) := by decide +kernel
theorem d5_220 : decode k5 220 = .ok (.dup, 1) := by decide +kernel
theorem d5_221 : decode k5 221 = .ok (.iconst 3, 1) := by decide +kernel
theorem d5_222 : decode k5 222 = .ok (.bipush 110, 2) := by decide +kernel
theorem d5_224 : decode k5 224 = .ok (.castore, 1) := by decide +kernel
theorem d5_225 : decode k5 225 = .ok (.dup, 1) := by decide +kernel
theorem d5_226 : decode k5 226 = .ok (.iconst 4, 1) := by decide +kernel
theorem d5_227 : decode k5 227 = .ok (.bipush 111, 2) := by decide +kernel
theorem d5_229 : decode k5 229 = .ok (.castore, 1) := by decide +kernel
theorem d5_230 : decode k5 230 = .ok (.dup, 1) := by decide +kernel
theorem d5_231 : decode k5 231 = .ok (.iconst 5, 1) := by decide +kernel
theorem d5_232 : decode k5 232 = .ok (.bipush 119, 2) := by decide +kernel
theorem d5_234 : decode k5 234 = .ok (.castore, 1) := by decide +kernel
theorem d5_235 : decode k5 235 = .ok (.dup, 1) := by decide +kernel
theorem d5_236 : decode k5 236 = .ok (.bipush 6, 2) := by decide +kernel
theorem d5_238 : decode k5 238 = .ok (.bipush 110, 2) := by decide +kernel
theorem d5_240 : decode k5 240 = .ok (.castore, 1) := by decide +kernel
theorem d5_241 : decode k5 241 = .ok (.dup, 1) := by decide +kernel
theorem d5_242 : decode k5 242 = .ok (.bipush 7, 2) := by decide +kernel
theorem d5_244 : decode k5 244 = .ok (.bipush 32, 2) := by decide +kernel
theorem d5_246 : decode k5 246 = .ok (.castore, 1) := by decide +kernel
theorem d5_247 : decode k5 247 = .ok (.dup, 1) := by decide +kernel
theorem d5_248 : decode k5 248 = .ok (.bipush 8, 2) := by decide +kernel
theorem d5_250 : decode k5 250 = .ok (.bipush 102, 2) := by decide +kernel
theorem d5_252 : decode k5 252 = .ok (.castore, 1) := by decide +kernel
theorem d5_253 : decode k5 253 = .ok (.dup, 1) := by decide +kernel
theorem d5_254 : decode k5 254 = .ok (.bipush 9, 2) := by decide +kernel
theorem d5_256 : decode k5 256 = .ok (.bipush 108, 2) := by decide +kernel
theorem d5_258 : decode k5 258 = .ok (.castore, 1) := by decide +kernel
theorem d5_259 : decode k5 259 = .ok (.dup, 1) := by decide +kernel
theorem d5_260 : decode k5 260 = .ok (.bipush 10, 2) := by decide +kernel
theorem d5_262 : decode k5 262 = .ok (.bipush 97, 2) := by decide +kernel
theorem d5_264 : decode k5 264 = .ok (.castore, 1) := by decide +kernel
theorem d5_265 : decode k5 265 = .ok (.dup, 1) := by decide +kernel
theorem d5_266 : decode k5 266 = .ok (.bipush 11, 2) := by decide +kernel
theorem d5_268 : decode k5 268 = .ok (.bipush 103, 2) := by decide +kernel
theorem d5_270 : decode k5 270 = .ok (.castore, 1) := by decide +kernel
theorem d5_271 : decode k5 271 = .ok (.dup, 1) := by decide +kernel
theorem d5_272 : decode k5 272 = .ok (.bipush 12, 2) := by decide +kernel
theorem d5_274 : decode k5 274 = .ok (.bipush 32, 2) := by decide +kernel
theorem d5_276 : decode k5 276 = .ok (.castore, 1) := by decide +kernel
theorem d5_277 : decode k5 277 = .ok (.dup, 1) := by decide +kernel
theorem d5_278 : decode k5 278 = .ok (.bipush 13, 2) := by decide +kernel
theorem d5_280 : decode k5 280 = .ok (.iload_n 2, 1) := by decide +kernel
theorem d5_281 : decode k5 281 = .ok (.castore, 1) := by decide +kernel
theorem d5_282 : decode k5 282 = .ok (.dup, 1) := by decide +kernel
theorem d5_283 : decode k5 283 = .ok (.bipush 14, 2) := by decide +kernel
theorem d5_285 : decode k5 285 = .ok (.iload_n 3, 1) := by decide +kernel
theorem d5_286 : decode k5 286 = .ok (.castore, 1) := by decide +kernel
theorem d5_287 : decode k5 287 = .ok (.dup, 1) := by decide +kernel
theorem d5_288 : decode k5 288 = .ok (.bipush 15, 2) := by decide +kernel
theorem d5_290 : decode k5 290 = .ok (.iload 4, 2) := by decide +kernel
theorem d5_292 : decode k5 292 = .ok (.castore, 1) := by decide +kernel
theorem d5_293 : decode k5 293 = .ok (.invokespecial 35, 3) := by decide +kernel
theorem d5_296 : decode k5 296 = .ok (.areturn, 1) := by decide +kernel
theorem d5_297 : decode k5 297 = .ok (.iload_n 1, 1) := by decide +kernel
theorem d5_298 : decode k5 298 = .ok (.ifCond .ne 129, 3) := by decide +kernel
theorem d5_301 : decode k5 301 = .ok (.new 30, 3) := by decide +kernel
theorem d5_304 : decode k5 304 = .ok (.dup, 1) := by decide +kernel
theorem d5_305 : decode k5 305 = .ok (.bipush 20, 2) := by decide +kernel
theorem d5_307 : decode k5 307 = .ok (.newarray .char, 2) := by decide +kernel
theorem d5_309 : decode k5 309 = .ok (.dup, 1) := by decide +kernel
theorem d5_310 : decode k5 310 = .ok (.iconst 0, 1) := by decide +kernel
theorem d5_311 : decode k5 311 = .ok (.bipush 117, 2) := by decide +kernel
theorem d5_313 : decode k5 313 = .ok (.castore, 1) := by decide +kernel
theorem d5_314 : decode k5 314 = .ok (.dup, 1) := by decide +kernel
theorem d5_315 : decode k5 315 = .ok (.iconst 1, 1) := by decide +kernel
theorem d5_316 : decode k5 316 = .ok (.bipush 110, 2) := by decide +kernel
theorem d5_318 : decode k5 318 = .ok (.castore, 1) := by decide +kernel
theorem d5_319 : decode k5 319 = .ok (.dup, 1) := by decide +kernel
theorem d5_320 : decode k5 320 = .ok (.iconst 2, 1) := by decide +kernel
theorem d5_321 : decode k5 321 = .ok (.bipush 101, 2) := by decide +kernel
theorem d5_323 : decode k5 323 = .ok (.castore, 1) := by decide +kernel
theorem d5_324 : decode k5 324 = .ok (.dup, 1) := by decide +kernel
theorem d5_325 : decode k5 325 = .ok (.iconst 3, 1) := by decide +kernel
theorem d5_326 : decode k5 326 = .ok (.bipush 120, 2) := by decide +kernel
theorem d5_328 : decode k5 328 = .ok (.castore, 1) := by decide +kernel
theorem d5_329 : decode k5 329 = .ok (.dup, 1) := by decide +kernel
theorem d5_330 : decode k5 330 = .ok (.iconst 4, 1) := by decide +kernel
theorem d5_331 : decode k5 331 = .ok (.bipush 112, 2) := by decide +kernel
theorem d5_333 : decode k5 333 = .ok (.castore, 1) := by decide +kernel
theorem d5_334 : decode k5 334 = .ok (.dup, 1) := by decide +kernel
theorem d5_335 : decode k5 335 = .ok (.iconst 5, 1) := by decide +kernel
theorem d5_336 : decode k5 336 = .ok (.bipush 101, 2) := by decide +kernel
theorem d5_338 : decode k5 338 = .ok (.castore, 1) := by decide +kernel
theorem d5_339 : decode k5 339 = .ok (.dup, 1) := by decide +kernel
theorem d5_340 : decode k5 340 = .ok (.bipush 6, 2) := by decide +kernel
theorem d5_342 : decode k5 342 = .ok (.bipush 99, 2) := by decide +kernel
theorem d5_344 : decode k5 344 = .ok (.castore, 1) := by decide +kernel
theorem d5_345 : decode k5 345 = .ok (.dup, 1) := by decide +kernel
theorem d5_346 : decode k5 346 = .ok (.bipush 7, 2) := by decide +kernel
theorem d5_348 : decode k5 348 = .ok (.bipush 116, 2) := by decide +kernel
theorem d5_350 : decode k5 350 = .ok (.castore, 1) := by decide +kernel
theorem d5_351 : decode k5 351 = .ok (.dup, 1) := by decide +kernel
theorem d5_352 : decode k5 352 = .ok (.bipush 8, 2) := by decide +kernel
theorem d5_354 : decode k5 354 = .ok (.bipush 101, 2) := by decide +kernel
theorem d5_356 : decode k5 356 = .ok (.castore, 1) := by decide +kernel
theorem d5_357 : decode k5 357 = .ok (.dup, 1) := by decide +kernel
theorem d5_358 : decode k5 358 = .ok (.bipush 9, 2) := by decide +kernel
theorem d5_360 : decode k5 360 = .ok (.bipush 100, 2) := by decide +kernel
theorem d5_362 : decode k5 362 = .ok (.castore, 1) := by decide +kernel
theorem d5_363 : decode k5 363 = .ok (.dup, 1) := by decide +kernel
theorem d5_364 : decode k5 364 = .ok (.bipush 10, 2) := by decide +kernel
theorem d5_366 : decode k5 366 = .ok (.bipush 32, 2) := by decide +kernel
theorem d5_368 : decode k5 368 = .ok (.castore, 1) := by decide +kernel
theorem d5_369 : decode k5 369 = .ok (.dup, 1) := by decide +kernel
theorem d5_370 : decode k5 370 = .ok (.bipush 11, 2) := by decide +kernel
theorem d5_372 : decode k5 372 = .ok (.bipush 97, 2) := by decide +kernel
theorem d5_374 : decode k5 374 = .ok (.castore, 1) := by decide +kernel
theorem d5_375 : decode k5 375 = .ok (.dup, 1) := by decide +kernel
theorem d5_376 : decode k5 376 = .ok (.bipush 12, 2) := by decide +kernel
theorem d5_378 : decode k5 378 = .ok (.bipush 114, 2) := by decide +kernel
theorem d5_380 : decode k5 380 = .ok (.castore, 1) := by decide +kernel
theorem d5_381 : decode k5 381 = .ok (.dup, 1) := by decide +kernel
theorem d5_382 : decode k5 382 = .ok (.bipush 13, 2) := by decide +kernel
theorem d5_384 : decode k5 384 = .ok (.bipush 103, 2) := by decide +kernel
theorem d5_386 : decode k5 386 = .ok (.castore, 1) := by decide +kernel
theorem d5_387 : decode k5 387 = .ok (.dup, 1) := by decide +kernel
theorem d5_388 : decode k5 388 = .ok (.bipush 14, 2) := by decide +kernel
theorem d5_390 : decode k5 390 = .ok (.bipush 117, 2) := by decide +kernel
theorem d5_392 : decode k5 392 = .ok (.castore, 1) := by decide +kernel
theorem d5_393 : decode k5 393 = .ok (.dup, 1) := by decide +kernel
theorem d5_394 : decode k5 394 = .ok (.bipush 15, 2) := by decide +kernel
theorem d5_396 : decode k5 396 = .ok (.bipush 109, 2) := by decide +kernel
theorem d5_398 : decode k5 398 = .ok (.castore, 1) := by decide +kernel
theorem d5_399 : decode k5 399 = .ok (.dup, 1) := by decide +kernel
theorem d5_400 : decode k5 400 = .ok (.bipush 16, 2) := by decide +kernel
theorem d5_402 : decode k5 402 = .ok (.bipush 101, 2) := by decide +kernel
theorem d5_404 : decode k5 404 = .ok (.castore, 1) := by decide +kernel
theorem d5_405 : decode k5 405 = .ok (.dup, 1) := by decide +kernel
theorem d5_406 : decode k5 406 = .ok (.bipush 17, 2) := by decide +kernel
theorem d5_408 : decode k5 408 = .ok (.bipush 110, 2) := by decide +kernel
theorem d5_410 : decode k5 410 = .ok (.castore, 1) := by decide +kernel
theorem d5_411 : decode k5 411 = .ok (.dup, 1) := by decide +kernel
theorem d5_412 : decode k5 412 = .ok (.bipush 18, 2) := by decide +kernel
theorem d5_414 : decode k5 414 = .ok (.bipush 116, 2) := by decide +kernel
theorem d5_416 : decode k5 416 = .ok (.castore, 1) := by decide +kernel
theorem d5_417 : decode k5 417 = .ok (.dup, 1) := by decide +kernel
theorem d5_418 : decode k5 418 = .ok (.bipush 19, 2) := by decide +kernel
theorem d5_420 : decode k5 420 = .ok (.bipush 32, 2) := by decide +kernel
theorem d5_422 : decode k5 422 = .ok (.castore, 1) := by decide +kernel
theorem d5_423 : decode k5 423 = .ok (.invokespecial 35, 3) := by decide +kernel
theorem d5_426 : decode k5 426 = .ok (.areturn, 1) := by decide +kernel
theorem d5_427 : decode k5 427 = .ok (.iload_n 1, 1) := by decide +kernel
theorem d5_428 : decode k5 428 = .ok (.iconst 1, 1) := by decide +kernel
theorem d5_429 : decode k5 429 = .ok (.if_icmp .ne 134, 3) := by decide +kernel
theorem d5_432 : decode k5 432 = .ok (.new 30, 3) := by decide +kernel
theorem d5_435 : decode k5 435 = .ok (.dup, 1) := by decide +kernel
theorem d5_436 : decode k5 436 = .ok (.bipush 21, 2) := by decide +kernel
theorem d5_438 : decode k5 438 = .ok (.newarray .char, 2) := by decide +kernel
theorem d5_440 : decode k5 440 = .ok (.dup, 1) := by decide +kernel
theorem d5_441 : decode k5 441 = .ok (.iconst 0, 1) := by decide +kernel
theorem d5_442 : decode k5 442 = .ok (.bipush 117, 2) := by decide +kernel
theorem d5_444 : decode k5 444 = .ok (.castore, 1) := by decide +kernel
theorem d5_445 : decode k5 445 = .ok (.dup, 1) := by decide +kernel
theorem d5_446 : decode k5 446 = .ok (.iconst 1, 1) := by decide +kernel
theorem d5_447 : decode k5 447 = .ok (.bipush 110, 2) := by decide +kernel
theorem d5_449 : decode k5 449 = .ok (.castore, 1) := by decide +kernel
theorem d5_450 : decode k5 450 = .ok (.dup, 1) := by decide +kernel
theorem d5_451 : decode k5 451 = .ok (.iconst 2, 1) := by decide +kernel
theorem d5_452 : decode k5 452 = .ok (.bipush 101, 2) := by decide +kernel
theorem d5_454 : decode k5 454 = .ok (.castore, 1) := by decide +kernel
theorem d5_455 : decode k5 455 = .ok (.dup, 1) := by decide +kernel
theorem d5_456 : decode k5 456 = .ok (.iconst 3, 1) := by decide +kernel
theorem d5_457 : decode k5 457 = .ok (.bipush 120, 2) := by decide +kernel
theorem d5_459 : decode k5 459 = .ok (.castore, 1) := by decide +kernel
theorem d5_460 : decode k5 460 = .ok (.dup, 1) := by decide +kernel
theorem d5_461 : decode k5 461 = .ok (.iconst 4, 1) := by decide +kernel
theorem d5_462 : decode k5 462 = .ok (.bipush 112, 2) := by decide +kernel
theorem d5_464 : decode k5 464 = .ok (.castore, 1) := by decide +kernel
theorem d5_465 : decode k5 465 = .ok (.dup, 1) := by decide +kernel
theorem d5_466 : decode k5 466 = .ok (.iconst 5, 1) := by decide +kernel
theorem d5_467 : decode k5 467 = .ok (.bipush 101, 2) := by decide +kernel
theorem d5_469 : decode k5 469 = .ok (.castore, 1) := by decide +kernel
theorem d5_470 : decode k5 470 = .ok (.dup, 1) := by decide +kernel
theorem d5_471 : decode k5 471 = .ok (.bipush 6, 2) := by decide +kernel
theorem d5_473 : decode k5 473 = .ok (.bipush 99, 2) := by decide +kernel
theorem d5_475 : decode k5 475 = .ok (.castore, 1) := by decide +kernel
theorem d5_476 : decode k5 476 = .ok (.dup, 1) := by decide +kernel
theorem d5_477 : decode k5 477 = .ok (.bipush 7, 2) := by decide +kernel
theorem d5_479 : decode k5 479 = .ok (.bipush 116, 2) := by decide +kernel
theorem d5_481 : decode k5 481 = .ok (.castore, 1) := by decide +kernel
theorem d5_482 : decode k5 482 = .ok (.dup, 1) := by decide +kernel
theorem d5_483 : decode k5 483 = .ok (.bipush 8, 2) := by decide +kernel
theorem d5_485 : decode k5 485 = .ok (.bipush 101, 2) := by decide +kernel
theorem d5_487 : decode k5 487 = .ok (.castore, 1) := by decide +kernel
theorem d5_488 : decode k5 488 = .ok (.dup, 1) := by decide +kernel
theorem d5_489 : decode k5 489 = .ok (.bipush 9, 2) := by decide +kernel
theorem d5_491 : decode k5 491 = .ok (.bipush 100, 2) := by decide +kernel
theorem d5_493 : decode k5 493 = .ok (.castore, 1) := by decide +kernel
theorem d5_494 : decode k5 494 = .ok (.dup, 1) := by decide +kernel
theorem d5_495 : decode k5 495 = .ok (.bipush 10, 2) := by decide +kernel
theorem d5_497 : decode k5 497 = .ok (.bipush 32, 2) := by decide +kernel
theorem d5_499 : decode k5 499 = .ok (.castore, 1) := by decide +kernel
theorem d5_500 : decode k5 500 = .ok (.dup, 1) := by decide +kernel
theorem d5_501 : decode k5 501 = .ok (.bipush 11, 2) := by decide +kernel
theorem d5_503 : decode k5 503 = .ok (.bipush 97, 2) := by decide +kernel
theorem d5_505 : decode k5 505 = .ok (.castore, 1) := by decide +kernel
theorem d5_506 : decode k5 506 = .ok (.dup, 1) := by decide +kernel
theorem d5_507 : decode k5 507 = .ok (.bipush 12, 2) := by decide +kernel
theorem d5_509 : decode k5 509 = .ok (.bipush 114, 2) := by decide +kernel
theorem d5_511 : decode k5 511 = .ok (.castore, 1) := by decide +kernel
theorem d5_512 : decode k5 512 = .ok (.dup, 1) := by decide +kernel
theorem d5_513 : decode k5 513 = .ok (.bipush 13, 2) := by decide +kernel
theorem d5_515 : decode k5 515 = .ok (.bipush 103, 2) := by decide +kernel
theorem d5_517 : decode k5 517 = .ok (.castore, 1) := by decide +kernel
theorem d5_518 : decode k5 518 = .ok (.dup, 1) := by decide +kernel
theorem d5_519 : decode k5 519 = .ok (.bipush 14, 2) := by decide +kernel
theorem d5_521 : decode k5 521 = .ok (.bipush 117, 2) := by decide +kernel
theorem d5_523 : decode k5 523 = .ok (.castore, 1) := by decide +kernel
theorem d5_524 : decode k5 524 = .ok (.dup, 1) := by decide +kernel
theorem d5_525 : decode k5 525 = .ok (.bipush 15, 2) := by decide +kernel
theorem d5_527 : decode k5 527 = .ok (.bipush 109, 2) := by decide +kernel
theorem d5_529 : decode k5 529 = .ok (.castore, 1) := by decide +kernel
theorem d5_530 : decode k5 530 = .ok (.dup, 1) := by decide +kernel
theorem d5_531 : decode k5 531 = .ok (.bipush 16, 2) := by decide +kernel
theorem d5_533 : decode k5 533 = .ok (.bipush 101, 2) := by decide +kernel
theorem d5_535 : decode k5 535 = .ok (.castore, 1) := by decide +kernel
theorem d5_536 : decode k5 536 = .ok (.dup, 1) := by decide +kernel
theorem d5_537 : decode k5 537 = .ok (.bipush 17, 2) := by decide +kernel
theorem d5_539 : decode k5 539 = .ok (.bipush 110, 2) := by decide +kernel
theorem d5_541 : decode k5 541 = .ok (.castore, 1) := by decide +kernel
theorem d5_542 : decode k5 542 = .ok (.dup, 1) := by decide +kernel
theorem d5_543 : decode k5 543 = .ok (.bipush 18, 2) := by decide +kernel
theorem d5_545 : decode k5 545 = .ok (.bipush 116, 2) := by decide +kernel
theorem d5_547 : decode k5 547 = .ok (.castore, 1) := by decide +kernel
theorem d5_548 : decode k5 548 = .ok (.dup, 1) := by decide +kernel
theorem d5_549 : decode k5 549 = .ok (.bipush 19, 2) := by decide +kernel
theorem d5_551 : decode k5 551 = .ok (.bipush 32, 2) := by decide +kernel
theorem d5_553 : decode k5 553 = .ok (.castore, 1) := by decide +kernel
theorem d5_554 : decode k5 554 = .ok (.dup, 1) := by decide +kernel
theorem d5_555 : decode k5 555 = .ok (.bipush 20, 2) := by decide +kernel
theorem d5_557 : decode k5 557 = .ok (.iload_n 2, 1) := by decide +kernel
theorem d5_558 : decode k5 558 = .ok (.castore, 1) := by decide +kernel
theorem d5_559 : decode k5 559 = .ok (.invokespecial 35, 3) := by decide +kernel
theorem d5_562 : decode k5 562 = .ok (.areturn, 1) := by decide +kernel
theorem d5_563 : decode k5 563 = .ok (.iload_n 1, 1) := by decide +kernel
theorem d5_564 : decode k5 564 = .ok (.iconst 2, 1) := by decide +kernel
theorem d5_565 : decode k5 565 = .ok (.if_icmp .ne 139, 3) := by decide +kernel
theorem d5_568 : decode k5 568 = .ok (.new 30, 3) := by decide +kernel
theorem d5_571 : decode k5 571 = .ok (.dup, 1) := by decide +kernel
theorem d5_572 : decode k5 572 = .ok (.bipush 22, 2) := by decide +kernel
theorem d5_574 : decode k5 574 = .ok (.newarray .char, 2) := by decide +kernel
theorem d5_576 : decode k5 576 = .ok (.dup, 1) := by decide +kernel
theorem d5_577 : decode k5 577 = .ok (.iconst 0, 1) := by decide +kernel
theorem d5_578 : decode k5 578 = .ok (.bipush 117, 2) := by decide +kernel
theorem d5_580 : decode k5 580 = .ok (.castore, 1) := by decide +kernel
theorem d5_581 : decode k5 581 = .ok (.dup, 1) := by decide +kernel
theorem d5_582 : decode k5 582 = .ok (.iconst 1, 1) := by decide +kernel
theorem d5_583 : decode k5 583 = .ok (.bipush 110, 2) := by decide +kernel
theorem d5_585 : decode k5 585 = .ok (.castore, 1) := by decide +kernel
theorem d5_586 : decode k5 586 = .ok (.dup, 1) := by decide +kernel
theorem d5_587 : decode k5 587 = .ok (.iconst 2, 1) := by decide +kernel
theorem d5_588 : decode k5 588 = .ok (.bipush 101, 2) := by decide +kernel
theorem d5_590 : decode k5 590 = .ok (.castore, 1) := by decide +kernel
theorem d5_591 : decode k5 591 = .ok (.dup, 1) := by decide +kernel
theorem d5_592 : decode k5 592 = .ok (.iconst 3, 1) := by decide +kernel
theorem d5_593 : decode k5 593 = .ok (.bipush 120, 2) := by decide +kernel
theorem d5_595 : decode k5 595 = .ok (.castore, 1) := by decide +kernel
theorem d5_596 : decode k5 596 = .ok (.dup, 1) := by decide +kernel
theorem d5_597 : decode k5 597 = .ok (.iconst 4, 1) := by decide +kernel
theorem d5_598 : decode k5 598 = .ok (.bipush 112, 2) := by decide +kernel
theorem d5_600 : decode k5 600 = .ok (.castore, 1) := by decide +kernel
theorem d5_601 : decode k5 601 = .ok (.dup, 1) := by decide +kernel
theorem d5_602 : decode k5 602 = .ok (.iconst 5, 1) := by decide +kernel
theorem d5_603 : decode k5 603 = .ok (.bipush 101, 2) := by decide +kernel
theorem d5_605 : decode k5 605 = .ok (.castore, 1) := by decide +kernel
theorem d5_606 : decode k5 606 = .ok (.dup, 1) := by decide +kernel
theorem d5_607 : decode k5 607 = .ok (.bipush 6, 2) := by decide +kernel
theorem d5_609 : decode k5 609 = .ok (.bipush 99, 2) := by decide +kernel
theorem d5_611 : decode k5 611 = .ok (.castore, 1) := by decide +kernel
theorem d5_612 : decode k5 612 = .ok (.dup, 1) := by decide +kernel
theorem d5_613 : decode k5 613 = .ok (.bipush 7, 2) := by decide +kernel
theorem d5_615 : decode k5 615 = .ok (.bipush 116, 2) := by decide +kernel
theorem d5_617 : decode k5 617 = .ok (.castore, 1) := by decide +kernel
theorem d5_618 : decode k5 618 = .ok (.dup, 1) := by decide +kernel
theorem d5_619 : decode k5 619 = .ok (.bipush 8, 2) := by decide +kernel
theorem d5_621 : decode k5 621 = .ok (.bipush 101, 2) := by decide +kernel
theorem d5_623 : decode k5 623 = .ok (.castore, 1) := by decide +kernel
theorem d5_624 : decode k5 624 = .ok (.dup, 1) := by decide +kernel
theorem d5_625 : decode k5 625 = .ok (.bipush 9, 2) := by decide +kernel
theorem d5_627 : decode k5 627 = .ok (.bipush 100, 2) := by decide +kernel
theorem d5_629 : decode k5 629 = .ok (.castore, 1) := by decide +kernel
theorem d5_630 : decode k5 630 = .ok (.dup, 1) := by decide +kernel
theorem d5_631 : decode k5 631 = .ok (.bipush 10, 2) := by decide +kernel
theorem d5_633 : decode k5 633 = .ok (.bipush 32, 2) := by decide +kernel
theorem d5_635 : decode k5 635 = .ok (.castore, 1) := by decide +kernel
theorem d5_636 : decode k5 636 = .ok (.dup, 1) := by decide +kernel
theorem d5_637 : decode k5 637 = .ok (.bipush 11, 2) := by decide +kernel
theorem d5_639 : decode k5 639 = .ok (.bipush 97, 2) := by decide +kernel
theorem d5_641 : decode k5 641 = .ok (.castore, 1) := by decide +kernel
theorem d5_642 : decode k5 642 = .ok (.dup, 1) := by decide +kernel
theorem d5_643 : decode k5 643 = .ok (.bipush 12, 2) := by decide +kernel
theorem d5_645 : decode k5 645 = .ok (.bipush 114, 2) := by decide +kernel
theorem d5_647 : decode k5 647 = .ok (.castore, 1) := by decide +kernel
theorem d5_648 : decode k5 648 = .ok (.dup, 1) := by decide +kernel
theorem d5_649 : decode k5 649 = .ok (.bipush 13, 2) := by decide +kernel
theorem d5_651 : decode k5 651 = .ok (.bipush 103, 2) := by decide +kernel
theorem d5_653 : decode k5 653 = .ok (.castore, 1) := by decide +kernel
theorem d5_654 : decode k5 654 = .ok (.dup, 1) := by decide +kernel
theorem d5_655 : decode k5 655 = .ok (.bipush 14, 2) := by decide +kernel
theorem d5_657 : decode k5 657 = .ok (.bipush 117, 2) := by decide +kernel
theorem d5_659 : decode k5 659 = .ok (.castore, 1) := by decide +kernel
theorem d5_660 : decode k5 660 = .ok (.dup, 1) := by decide +kernel
theorem d5_661 : decode k5 661 = .ok (.bipush 15, 2) := by decide +kernel
theorem d5_663 : decode k5 663 = .ok (.bipush 109, 2) := by decide +kernel
theorem d5_665 : decode k5 665 = .ok (.castore, 1) := by decide +kernel
theorem d5_666 : decode k5 666 = .ok (.dup, 1) := by decide +kernel
theorem d5_667 : decode k5 667 = .ok (.bipush 16, 2) := by decide +kernel
theorem d5_669 : decode k5 669 = .ok (.bipush 101, 2) := by decide +kernel
theorem d5_671 : decode k5 671 = .ok (.castore, 1) := by decide +kernel
theorem d5_672 : decode k5 672 = .ok (.dup, 1) := by decide +kernel
theorem d5_673 : decode k5 673 = .ok (.bipush 17, 2) := by decide +kernel
theorem d5_675 : decode k5 675 = .ok (.bipush 110, 2) := by decide +kernel
theorem d5_677 : decode k5 677 = .ok (.castore, 1) := by decide +kernel
theorem d5_678 : decode k5 678 = .ok (.dup, 1) := by decide +kernel
theorem d5_679 : decode k5 679 = .ok (.bipush 18, 2) := by decide +kernel
theorem d5_681 : decode k5 681 = .ok (.bipush 116, 2) := by decide +kernel
theorem d5_683 : decode k5 683 = .ok (.castore, 1) := by decide +kernel
theorem d5_684 : decode k5 684 = .ok (.dup, 1) := by decide +kernel
theorem d5_685 : decode k5 685 = .ok (.bipush 19, 2) := by decide +kernel
theorem d5_687 : decode k5 687 = .ok (.bipush 32, 2) := by decide +kernel
theorem d5_689 : decode k5 689 = .ok (.castore, 1) := by decide +kernel
theorem d5_690 : decode k5 690 = .ok (.dup, 1) := by decide +kernel
theorem d5_691 : decode k5 691 = .ok (.bipush 20, 2) := by decide +kernel
theorem d5_693 : decode k5 693 = .ok (.iload_n 2, 1) := by decide +kernel
theorem d5_694 : decode k5 694 = .ok (.castore, 1) := by decide +kernel
theorem d5_695 : decode k5 695 = .ok (.dup, 1) := by decide +kernel
theorem d5_696 : decode k5 696 = .ok (.bipush 21, 2) := by decide +kernel
theorem d5_698 : decode k5 698 = .ok (.iload_n 3, 1) := by decide +kernel
theorem d5_699 : decode k5 699 = .ok (.castore, 1) := by decide +kernel
theorem d5_700 : decode k5 700 = .ok (.invokespecial 35, 3) := by decide +kernel
theorem d5_703 : decode k5 703 = .ok (.areturn, 1) := by decide +kernel
theorem d5_704 : decode k5 704 = .ok (.new 30, 3) := by decide +kernel
theorem d5_707 : decode k5 707 = .ok (.dup, 1) := by decide +kernel
theorem d5_708 : decode k5 708 = .ok (.bipush 23, 2) := by decide +kernel
theorem d5_710 : decode k5 710 = .ok (.newarray .char, 2) := by decide +kernel
theorem d5_712 : decode k5 712 = .ok (.dup, 1) := by decide +kernel
theorem d5_713 : decode k5 713 = .ok (.iconst 0, 1) := by decide +kernel
theorem d5_714 : decode k5 714 = .ok (.bipush 117, 2) := by decide +kernel
theorem d5_716 : decode k5 716 = .ok (.castore, 1) := by decide +kernel
theorem d5_717 : decode k5 717 = .ok (.dup, 1) := by decide +kernel
theorem d5_718 : decode k5 718 = .ok (.iconst 1, 1) := by decide +kernel
theorem d5_719 : decode k5 719 = .ok (.bipush 110, 2) := by decide +kernel
theorem d5_721 : decode k5 721 = .ok (.castore, 1) := by decide +kernel
theorem d5_722 : decode k5 722 = .ok (.dup, 1) := by decide +kernel
theorem d5_723 : decode k5 723 = .ok (.iconst 2, 1) := by decide +kernel
theorem d5_724 : decode k5 724 = .ok (.bipush 101, 2) := by decide +kernel
theorem d5_726 : decode k5 726 = .ok (.castore, 1) := by decide +kernel
theorem d5_727 : decode k5 727 = .ok (.dup, 1) := by decide +kernel
theorem d5_728 : decode k5 728 = .ok (.iconst 3, 1) := by decide +kernel
theorem d5_729 : decode k5 729 = .ok (.bipush 120, 2) := by decide +kernel
theorem d5_731 : decode k5 731 = .ok (.castore, 1) := by decide +kernel
theorem d5_732 : decode k5 732 = .ok (.dup, 1) := by decide +kernel
theorem d5_733 : decode k5 733 = .ok (.iconst 4, 1) := by decide +kernel
theorem d5_734 : decode k5 734 = .ok (.bipush 112, 2) := by decide +kernel
theorem d5_736 : decode k5 736 = .ok (.castore, 1) := by decide +kernel
theorem d5_737 : decode k5 737 = .ok (.dup, 1) := by decide +kernel
theorem d5_738 : decode k5 738 = .ok (.iconst 5, 1) := by decide +kernel
theorem d5_739 : decode k5 739 = .ok (.bipush 101, 2) := by decide +kernel
theorem d5_741 : decode k5 741 = .ok (.castore, 1) := by decide +kernel
theorem d5_742 : decode k5 742 = .ok (.dup, 1) := by decide +kernel
theorem d5_743 : decode k5 743 = .ok (.bipush 6, 2) := by decide +kernel
theorem d5_745 : decode k5 745 = .ok (.bipush 99, 2) := by decide +kernel
theorem d5_747 : decode k5 747 = .ok (.castore, 1) := by decide +kernel
theorem d5_748 : decode k5 748 = .ok (.dup, 1) := by decide +kernel
theorem d5_749 : decode k5 749 = .ok (.bipush 7, 2) := by decide +kernel
theorem d5_751 : decode k5 751 = .ok (.bipush 116, 2) := by decide +kernel
theorem d5_753 : decode k5 753 = .ok (.castore, 1) := by decide +kernel
theorem d5_754 : decode k5 754 = .ok (.dup, 1) := by decide +kernel
theorem d5_755 : decode k5 755 = .ok (.bipush 8, 2) := by decide +kernel
theorem d5_757 : decode k5 757 = .ok (.bipush 101, 2) := by decide +kernel
theorem d5_759 : decode k5 759 = .ok (.castore, 1) := by decide +kernel
theorem d5_760 : decode k5 760 = .ok (.dup, 1) := by decide +kernel
theorem d5_761 : decode k5 761 = .ok (.bipush 9, 2) := by decide +kernel
theorem d5_763 : decode k5 763 = .ok (.bipush 100, 2) := by decide +kernel
theorem d5_765 : decode k5 765 = .ok (.castore, 1) := by decide +kernel
theorem d5_766 : decode k5 766 = .ok (.dup, 1) := by decide +kernel
theorem d5_767 : decode k5 767 = .ok (.bipush 10, 2) := by decide +kernel
theorem d5_769 : decode k5 769 = .ok (.bipush 32, 2) := by decide +kernel
theorem d5_771 : decode k5 771 = .ok (.castore, 1) := by decide +kernel
theorem d5_772 : decode k5 772 = .ok (.dup, 1) := by decide +kernel
theorem d5_773 : decode k5 773 = .ok (.bipush 11, 2) := by decide +kernel
theorem d5_775 : decode k5 775 = .ok (.bipush 97, 2) := by decide +kernel
theorem d5_777 : decode k5 777 = .ok (.castore, 1) := by decide +kernel
theorem d5_778 : decode k5 778 = .ok (.dup, 1) := by decide +kernel
theorem d5_779 : decode k5 779 = .ok (.bipush 12, 2) := by decide +kernel
theorem d5_781 : decode k5 781 = .ok (.bipush 114, 2) := by decide +kernel
theorem d5_783 : decode k5 783 = .ok (.castore, 1) := by decide +kernel
theorem d5_784 : decode k5 784 = .ok (.dup, 1) := by decide +kernel
theorem d5_785 : decode k5 785 = .ok (.bipush 13, 2) := by decide +kernel
theorem d5_787 : decode k5 787 = .ok (.bipush 103, 2) := by decide +kernel
theorem d5_789 : decode k5 789 = .ok (.castore, 1) := by decide +kernel
theorem d5_790 : decode k5 790 = .ok (.dup, 1) := by decide +kernel
theorem d5_791 : decode k5 791 = .ok (.bipush 14, 2) := by decide +kernel
theorem d5_793 : decode k5 793 = .ok (.bipush 117, 2) := by decide +kernel
theorem d5_795 : decode k5 795 = .ok (.castore, 1) := by decide +kernel
theorem d5_796 : decode k5 796 = .ok (.dup, 1) := by decide +kernel
theorem d5_797 : decode k5 797 = .ok (.bipush 15, 2) := by decide +kernel
theorem d5_799 : decode k5 799 = .ok (.bipush 109, 2) := by decide +kernel
theorem d5_801 : decode k5 801 = .ok (.castore, 1) := by decide +kernel
theorem d5_802 : decode k5 802 = .ok (.dup, 1) := by decide +kernel
theorem d5_803 : decode k5 803 = .ok (.bipush 16, 2) := by decide +kernel
theorem d5_805 : decode k5 805 = .ok (.bipush 101, 2) := by decide +kernel
theorem d5_807 : decode k5 807 = .ok (.castore, 1) := by decide +kernel
theorem d5_808 : decode k5 808 = .ok (.dup, 1) := by decide +kernel
theorem d5_809 : decode k5 809 = .ok (.bipush 17, 2) := by decide +kernel
theorem d5_811 : decode k5 811 = .ok (.bipush 110, 2) := by decide +kernel
theorem d5_813 : decode k5 813 = .ok (.castore, 1) := by decide +kernel
theorem d5_814 : decode k5 814 = .ok (.dup, 1) := by decide +kernel
theorem d5_815 : decode k5 815 = .ok (.bipush 18, 2) := by decide +kernel
theorem d5_817 : decode k5 817 = .ok (.bipush 116, 2) := by decide +kernel
theorem d5_819 : decode k5 819 = .ok (.castore, 1) := by decide +kernel
theorem d5_820 : decode k5 820 = .ok (.dup, 1) := by decide +kernel
theorem d5_821 : decode k5 821 = .ok (.bipush 19, 2) := by decide +kernel
theorem d5_823 : decode k5 823 = .ok (.bipush 32, 2) := by decide +kernel
theorem d5_825 : decode k5 825 = .ok (.castore, 1) := by decide +kernel
theorem d5_826 : decode k5 826 = .ok (.dup, 1) := by decide +kernel
theorem d5_827 : decode k5 827 = .ok (.bipush 20, 2) := by decide +kernel
theorem d5_829 : decode k5 829 = .ok (.iload_n 2, 1) := by decide +kernel
theorem d5_830 : decode k5 830 = .ok (.castore, 1) := by decide +kernel
theorem d5_831 : decode k5 831 = .ok (.dup, 1) := by decide +kernel
theorem d5_832 : decode k5 832 = .ok (.bipush 21, 2) := by decide +kernel
theorem d5_834 : decode k5 834 = .ok (.iload_n 3, 1) := by decide +kernel
theorem d5_835 : decode k5 835 = .ok (.castore, 1) := by decide +kernel
theorem d5_836 : decode k5 836 = .ok (.dup, 1) := by decide +kernel
theorem d5_837 : decode k5 837 = .ok (.bipush 22, 2) := by decide +kernel
theorem d5_839 : decode k5 839 = .ok (.iload 4, 2) := by decide +kernel
theorem d5_841 : decode k5 841 = .ok (.castore, 1) := by decide +kernel
theorem d5_842 : decode k5 842 = .ok (.invokespecial 35, 3) := by decide +kernel
theorem d5_845 : decode k5 845 = .ok (.areturn, 1) := by decide +kernel
theorem d6_0 : decode k6 0 = .ok (.iload_n 2, 1) := by decide +kernel
theorem d6_1 : decode k6 1 = .ok (.newarray .byte, 2) := by decide +kernel
theorem d6_3 : decode k6 3 = .ok (.astore_n 3, 1) := by decide +kernel
theorem d6_4 : decode k6 4 = .ok (.aload_n 0, 1) := by decide +kernel
theorem d6_5 : decode k6 5 = .ok (.iload_n 1, 1) := by decide +kernel
theorem d6_6 : decode k6 6 = .ok (.aload_n 3, 1) := by decide +kernel
theorem d6_7 : decode k6 7 = .ok (.iconst 0, 1) := by decide +kernel
theorem d6_8 : decode k6 8 = .ok (.iload_n 2, 1) := by decide +kernel
theorem d6_9 : decode k6 9 = .ok (.invokestatic 115, 3) := by decide +kernel
theorem d6_12 : decode k6 12 = .ok (.istore 4, 2) := by decide +kernel
theorem d6_14 : decode k6 14 = .ok (.iload 4, 2) := by decide +kernel
theorem d6_16 : decode k6 16 = .ok (.iload_n 2, 1) := by decide +kernel
theorem d6_17 : decode k6 17 = .ok (.if_icmp .eq 40, 3) := by decide +kernel
theorem d6_57 : decode k6 57 = .ok (.aload_n 3, 1) := by decide +kernel
theorem d6_58 : decode k6 58 = .ok (.areturn, 1) := by decide +kernel
theorem d7_0 : decode k7 0 = .ok (.iconst 0, 1) := by decide +kernel
theorem d7_1 : decode k7 1 = .ok (.istore 5, 2) := by decide +kernel
theorem d7_3 : decode k7 3 = .ok (.iload 5, 2) := by decide +kernel
theorem d7_5 : decode k7 5 = .ok (.iload 4, 2) := by decide +kernel
theorem d7_7 : decode k7 7 = .ok (.if_icmp .ge 37, 3) := by decide +kernel
theorem d7_10 : decode k7 10 = .ok (.aload_n 0, 1) := by decide +kernel
theorem d7_11 : decode k7 11 = .ok (.iload_n 1, 1) := by decide +kernel
theorem d7_12 : decode k7 12 = .ok (.caload, 1) := by decide +kernel
theorem d7_13 : decode k7 13 = .ok (.istore 6, 2) := by decide +kernel
theorem d7_15 : decode k7 15 = .ok (.iload 6, 2) := by decide +kernel
theorem d7_17 : decode k7 17 = .ok (.sipush 255, 3) := by decide +kernel
theorem d7_20 : decode k7 20 = .ok (.if_icmp .le 6, 3) := by decide +kernel
theorem d7_26 : decode k7 26 = .ok (.aload_n 2, 1) := by decide +kernel
theorem d7_27 : decode k7 27 = .ok (.iload_n 3, 1) := by decide +kernel
theorem d7_28 : decode k7 28 = .ok (.iload 6, 2) := by decide +kernel
theorem d7_30 : decode k7 30 = .ok (.i2b, 1) := by decide +kernel
theorem d7_31 : decode k7 31 = .ok (.bastore, 1) := by decide +kernel
theorem d7_32 : decode k7 32 = .ok (.iinc 1 1, 3) := by decide +kernel
theorem d7_35 : decode k7 35 = .ok (.iinc 3 1, 3) := by decide +kernel
theorem d7_38 : decode k7 38 = .ok (.iinc 5 1, 3) := by decide +kernel
theorem d7_41 : decode k7 41 = .ok (.goto (-38), 3) := by decide +kernel
theorem d7_44 : decode k7 44 = .ok (.iload 4, 2) := by decide +kernel
theorem d7_46 : decode k7 46 = .ok (.ireturn, 1) := by decide +kernel
theorem d8_0 : decode k8 0 = .ok (.iload_n 1, 1) := by decide +kernel
theorem d8_1 : decode k8 1 = .ok (.aload_n 0, 1) := by decide +kernel
theorem d8_2 : decode k8 2 = .ok (.arraylength, 1) := by decide +kernel
theorem d8_3 : decode k8 3 = .ok (.isub, 1) := by decide +kernel
theorem d8_4 : decode k8 4 = .ok (.bipush 31, 2) := by decide +kernel
theorem d8_6 : decode k8 6 = .ok (.iushr, 1) := by decide +kernel
theorem d8_7 : decode k8 7 = .ok (.i2b, 1) := by decide +kernel
theorem d8_8 : decode k8 8 = .ok (.ireturn, 1) := by decide +kernel
theorem d9_0 : decode k9 0 = .ok (.new 13, 3) := by decide +kernel
theorem d9_3 : decode k9 3 = .ok (.dup, 1) := by decide +kernel
theorem d9_4 : decode k9 4 = .ok (.aload_n 0, 1) := by decide +kernel
theorem d9_5 : decode k9 5 = .ok (.ldc 51, 2) := by decide +kernel
theorem d9_7 : decode k9 7 = .ok (.invokevirtual 53, 3) := by decide +kernel
theorem d9_10 : decode k9 10 = .ok (.ifCond .eq 25, 3) := by decide +kernel
theorem d9_13 : decode k9 13 = .ok (.new 15, 3) := by decide +kernel
theorem d9_16 : decode k9 16 = .ok (.dup, 1) := by decide +kernel
theorem d9_17 : decode k9 17 = .ok (.invokespecial 17, 3) := by decide +kernel
theorem d9_20 : decode k9 20 = .ok (.ldc 57, 2) := by decide +kernel
theorem d9_22 : decode k9 22 = .ok (.invokevirtual 18, 3) := by decide +kernel
theorem d9_25 : decode k9 25 = .ok (.aload_n 0, 1) := by decide +kernel
theorem d9_26 : decode k9 26 = .ok (.invokevirtual 18, 3) := by decide +kernel
theorem d9_29 : decode k9 29 = .ok (.invokevirtual 24, 3) := by decide +kernel
theorem d9_32 : decode k9 32 = .ok (.goto 22, 3) := by decide +kernel
theorem d9_35 : decode k9 35 = .ok (.new 15, 3) := by decide +kernel
theorem d9_38 : decode k9 38 = .ok (.dup, 1) := by decide +kernel
theorem d9_39 : decode k9 39 = .ok (.invokespecial 17, 3) := by decide +kernel
theorem d9_42 : decode k9 42 = .ok (.ldc 59, 2) := by decide +kernel
theorem d9_44 : decode k9 44 = .ok (.invokevirtual 18, 3) := by decide +kernel
theorem d9_47 : decode k9 47 = .ok (.aload_n 0, 1) := by decide +kernel
theorem d9_48 : decode k9 48 = .ok (.invokevirtual 18, 3) := by decide +kernel
theorem d9_51 : decode k9 51 = .ok (.invokevirtual 24, 3) := by decide +kernel
theorem d9_54 : decode k9 54 = .ok (.invokespecial 28, 3) := by decide +kernel
theorem d9_57 : decode k9 57 = .ok (.areturn, 1) := by decide +kernel
theorem d10_0 : decode k10 0 = .ok (.aload_n 0, 1) := by decide +kernel
theorem d10_1 : decode k10 1 = .ok (.aload_n 1, 1) := by decide +kernel
theorem d10_2 : decode k10 2 = .ok (.iconst 0, 1) := by decide +kernel
theorem d10_3 : decode k10 3 = .ok (.invokevirtual 624, 3) := by decide +kernel
theorem d10_6 : decode k10 6 = .ok (.ireturn, 1) := by decide +kernel
theorem d11_0 : decode k11 0 = .ok (.iload_n 2, 1) := by decide +kernel
theorem d11_1 : decode k11 1 = .ok (.ifCond .lt 16, 3) := by decide +kernel
theorem d11_4 : decode k11 4 = .ok (.iload_n 2, 1) := by decide +kernel
theorem d11_5 : decode k11 5 = .ok (.aload_n 0, 1) := by decide +kernel
theorem d11_6 : decode k11 6 = .ok (.invokevirtual 505, 3) := by decide +kernel
theorem d11_9 : decode k11 9 = .ok (.aload_n 1, 1) := by decide +kernel
theorem d11_10 : decode k11 10 = .ok (.invokevirtual 505, 3) := by decide +kernel
theorem d11_13 : decode k11 13 = .ok (.isub, 1) := by decide +kernel
theorem d11_14 : decode k11 14 = .ok (.if_icmp .le 5, 3) := by decide +kernel
theorem d11_17 : decode k11 17 = .ok (.iconst 0, 1) := by decide +kernel
theorem d11_18 : decode k11 18 = .ok (.ireturn, 1) := by decide +kernel
theorem d11_19 : decode k11 19 = .ok (.aload_n 0, 1) := by decide +kernel
theorem d11_20 : decode k11 20 = .ok (.getfield 9, 3) := by decide +kernel
theorem d11_23 : decode k11 23 = .ok (.astore_n 3, 1) := by decide +kernel
theorem d11_24 : decode k11 24 = .ok (.aload_n 1, 1) := by decide +kernel
theorem d11_25 : decode k11 25 = .ok (.getfield 9, 3) := by decide +kernel
theorem d11_28 : decode k11 28 = .ok (.astore 4, 2) := by decide +kernel
theorem d11_30 : decode k11 30 = .ok (.iconst 0, 1) := by decide +kernel
theorem d11_31 : decode k11 31 = .ok (.istore 5, 2) := by decide +kernel
theorem d11_33 : decode k11 33 = .ok (.aload 4, 2) := by decide +kernel
theorem d11_35 : decode k11 35 = .ok (.arraylength, 1) := by decide +kernel
theorem d11_36 : decode k11 36 = .ok (.istore 6, 2) := by decide +kernel
theorem d11_38 : decode k11 38 = .ok (.aload_n 0, 1) := by decide +kernel
theorem d11_39 : decode k11 39 = .ok (.invokevirtual 335, 3) := by decide +kernel
theorem d11_42 : decode k11 42 = .ok (.istore 7, 2) := by decide +kernel
theorem d11_44 : decode k11 44 = .ok (.iload 7, 2) := by decide +kernel
theorem d11_46 : decode k11 46 = .ok (.aload_n 1, 1) := by decide +kernel
theorem d11_47 : decode k11 47 = .ok (.invokevirtual 335, 3) := by decide +kernel
theorem d11_50 : decode k11 50 = .ok (.if_icmp .ne 32, 3) := by decide +kernel
theorem d11_53 : decode k11 53 = .ok (.iload 7, 2) := by decide +kernel
theorem d11_55 : decode k11 55 = .ok (.iconst 1, 1) := by decide +kernel
theorem d11_56 : decode k11 56 = .ok (.if_icmp .ne 7, 3) := by decide +kernel
theorem d11_63 : decode k11 63 = .ok (.aload_n 3, 1) := by decide +kernel
theorem d11_64 : decode k11 64 = .ok (.iload_n 2, 1) := by decide +kernel
theorem d11_65 : decode k11 65 = .ok (.aload 4, 2) := by decide +kernel
theorem d11_67 : decode k11 67 = .ok (.iconst 0, 1) := by decide +kernel
theorem d11_68 : decode k11 68 = .ok (.iload 6, 2) := by decide +kernel
theorem d11_70 : decode k11 70 = .ok (.invokestatic 607, 3) := by decide +kernel
theorem d11_73 : decode k11 73 = .ok (.ifCond .ge 7, 3) := by decide +kernel
theorem d11_76 : decode k11 76 = .ok (.iconst 1, 1) := by decide +kernel
theorem d11_77 : decode k11 77 = .ok (.goto 4, 3) := by decide +kernel
theorem d11_80 : decode k11 80 = .ok (.iconst 0, 1) := by decide +kernel
theorem d11_81 : decode k11 81 = .ok (.ireturn, 1) := by decide +kernel
theorem d12_0 : decode k12 0 = .ok (.aload_n 0, 1) := by decide +kernel
theorem d12_1 : decode k12 1 = .ok (.getfield 9, 3) := by decide +kernel
theorem d12_4 : decode k12 4 = .ok (.arraylength, 1) := by decide +kernel
theorem d12_5 : decode k12 5 = .ok (.aload_n 0, 1) := by decide +kernel
theorem d12_6 : decode k12 6 = .ok (.invokevirtual 335, 3) := by decide +kernel
theorem d12_9 : decode k12 9 = .ok (.ishr, 1) := by decide +kernel
theorem d12_10 : decode k12 10 = .ok (.ireturn, 1) := by decide +kernel
theorem d13_0 : decode k13 0 = .ok (.getstatic 38, 3) := by decide +kernel
theorem d13_3 : decode k13 3 = .ok (.ifCond .eq 10, 3) := by decide +kernel
theorem d13_6 : decode k13 6 = .ok (.aload_n 0, 1) := by decide +kernel
theorem d13_7 : decode k13 7 = .ok (.getfield 15, 3) := by decide +kernel
theorem d13_10 : decode k13 10 = .ok (.goto 4, 3) := by decide +kernel
theorem d13_14 : decode k13 14 = .ok (.ireturn, 1) := by decide +kernel
theorem d14_0 : decode k14 0 = .ok (.aload_n 0, 1) := by decide +kernel
theorem d14_1 : decode k14 1 = .ok (.bipush 16, 2) := by decide +kernel
theorem d14_3 : decode k14 3 = .ok (.invokespecial 1, 3) := by decide +kernel
theorem d14_6 : decode k14 6 = .ok (.return_, 1) := by decide +kernel
theorem d15_0 : decode k15 0 = .ok (.aload_n 0, 1) := by decide +kernel
theorem d15_1 : decode k15 1 = .ok (.invokespecial 3, 3) := by decide +kernel
theorem d15_4 : decode k15 4 = .ok (.getstatic 18, 3) := by decide +kernel
theorem d15_7 : decode k15 7 = .ok (.ifCond .eq 18, 3) := by decide +kernel
theorem d15_10 : decode k15 10 = .ok (.aload_n 0, 1) := by decide +kernel
theorem d15_11 : decode k15 11 = .ok (.iload_n 1, 1) := by decide +kernel
theorem d15_12 : decode k15 12 = .ok (.newarray .byte, 2) := by decide +kernel
theorem d15_14 : decode k15 14 = .ok (.putfield 15, 3) := by decide +kernel
theorem d15_17 : decode k15 17 = .ok (.aload_n 0, 1) := by decide +kernel
theorem d15_18 : decode k15 18 = .ok (.iconst 0, 1) := by decide +kernel
theorem d15_19 : decode k15 19 = .ok (.putfield 22, 3) := by decide +kernel
theorem d15_22 : decode k15 22 = .ok (.goto 16, 3) := by decide +kernel
theorem d15_38 : decode k15 38 = .ok (.return_, 1) := by decide +kernel
theorem d16_0 : decode k16 0 = .ok (.aload_n 0, 1) := by decide +kernel
theorem d16_1 : decode k16 1 = .ok (.aload_n 1, 1) := by decide +kernel
theorem d16_2 : decode k16 2 = .ok (.invokespecial 29, 3) := by decide +kernel
theorem d16_5 : decode k16 5 = .ok (.pop, 1) := by decide +kernel
theorem d16_6 : decode k16 6 = .ok (.aload_n 0, 1) := by decide +kernel
theorem d16_7 : decode k16 7 = .ok (.areturn, 1) := by decide +kernel
theorem d17_0 : decode k17 0 = .ok (.aload_n 1, 1) := by decide +kernel
theorem d17_1 : decode k17 1 = .ok (.ifnonnull 8, 3) := by decide +kernel
theorem d17_9 : decode k17 9 = .ok (.aload_n 1, 1) := by decide +kernel
theorem d17_10 : decode k17 10 = .ok (.invokevirtual 32, 3) := by decide +kernel
theorem d17_13 : decode k17 13 = .ok (.istore_n 2, 1) := by decide +kernel
theorem d17_14 : decode k17 14 = .ok (.aload_n 0, 1) := by decide +kernel
theorem d17_15 : decode k17 15 = .ok (.aload_n 0, 1) := by decide +kernel
theorem d17_16 : decode k17 16 = .ok (.getfield 79, 3) := by decide +kernel
theorem d17_19 : decode k17 19 = .ok (.iload_n 2, 1) := by decide +kernel
theorem d17_20 : decode k17 20 = .ok (.iadd, 1) := by decide +kernel
theorem d17_21 : decode k17 21 = .ok (.invokevirtual 100, 3) := by decide +kernel
theorem d17_24 : decode k17 24 = .ok (.aload_n 0, 1) := by decide +kernel
theorem d17_25 : decode k17 25 = .ok (.aload_n 0, 1) := by decide +kernel
theorem d17_26 : decode k17 26 = .ok (.getfield 79, 3) := by decide +kernel
theorem d17_29 : decode k17 29 = .ok (.aload_n 1, 1) := by decide +kernel
theorem d17_30 : decode k17 30 = .ok (.invokevirtual 208, 3) := by decide +kernel
theorem d17_33 : decode k17 33 = .ok (.aload_n 0, 1) := by decide +kernel
theorem d17_34 : decode k17 34 = .ok (.dup, 1) := by decide +kernel
theorem d17_35 : decode k17 35 = .ok (.getfield 79, 3) := by decide +kernel
theorem d17_38 : decode k17 38 = .ok (.iload_n 2, 1) := by decide +kernel
theorem d17_39 : decode k17 39 = .ok (.iadd, 1) := by decide +kernel
theorem d17_40 : decode k17 40 = .ok (.putfield 79, 3) := by decide +kernel
theorem d17_43 : decode k17 43 = .ok (.aload_n 0, 1) := by decide +kernel
theorem d17_44 : decode k17 44 = .ok (.areturn, 1) := by decide +kernel
theorem d18_0 : decode k18 0 = .ok (.aload_n 0, 1) := by decide +kernel
theorem d18_1 : decode k18 1 = .ok (.getfield 15, 3) := by decide +kernel
theorem d18_4 : decode k18 4 = .ok (.arraylength, 1) := by decide +kernel
theorem d18_5 : decode k18 5 = .ok (.aload_n 0, 1) := by decide +kernel
theorem d18_6 : decode k18 6 = .ok (.getfield 22, 3) := by decide +kernel
theorem d18_9 : decode k18 9 = .ok (.ishr, 1) := by decide +kernel
theorem d18_10 : decode k18 10 = .ok (.istore_n 2, 1) := by decide +kernel
theorem d18_11 : decode k18 11 = .ok (.iload_n 1, 1) := by decide +kernel
theorem d18_12 : decode k18 12 = .ok (.iload_n 2, 1) := by decide +kernel
theorem d18_13 : decode k18 13 = .ok (.isub, 1) := by decide +kernel
theorem d18_14 : decode k18 14 = .ok (.ifCond .le 24, 3) := by decide +kernel
theorem d18_17 : decode k18 17 = .ok (.aload_n 0, 1) := by decide +kernel
theorem d18_18 : decode k18 18 = .ok (.aload_n 0, 1) := by decide +kernel
theorem d18_19 : decode k18 19 = .ok (.getfield 15, 3) := by decide +kernel
theorem d18_22 : decode k18 22 = .ok (.aload_n 0, 1) := by decide +kernel
theorem d18_23 : decode k18 23 = .ok (.iload_n 1, 1) := by decide +kernel
theorem d18_24 : decode k18 24 = .ok (.invokevirtual 104, 3) := by decide +kernel
theorem d18_27 : decode k18 27 = .ok (.aload_n 0, 1) := by decide +kernel
theorem d18_28 : decode k18 28 = .ok (.getfield 22, 3) := by decide +kernel
theorem d18_31 : decode k18 31 = .ok (.ishl, 1) := by decide +kernel
theorem d18_32 : decode k18 32 = .ok (.invokestatic 108, 3) := by decide +kernel
theorem d18_35 : decode k18 35 = .ok (.putfield 15, 3) := by decide +kernel
theorem d18_38 : decode k18 38 = .ok (.return_, 1) := by decide +kernel
theorem d19_0 : decode k19 0 = .ok (.aload_n 0, 1) := by decide +kernel
theorem d19_1 : decode k19 1 = .ok (.getfield 15, 3) := by decide +kernel
theorem d19_4 : decode k19 4 = .ok (.arraylength, 1) := by decide +kernel
theorem d19_5 : decode k19 5 = .ok (.istore_n 2, 1) := by decide +kernel
theorem d19_6 : decode k19 6 = .ok (.iload_n 1, 1) := by decide +kernel
theorem d19_7 : decode k19 7 = .ok (.aload_n 0, 1) := by decide +kernel
theorem d19_8 : decode k19 8 = .ok (.getfield 22, 3) := by decide +kernel
theorem d19_11 : decode k19 11 = .ok (.ishl, 1) := by decide +kernel
theorem d19_12 : decode k19 12 = .ok (.istore_n 3, 1) := by decide +kernel
theorem d19_13 : decode k19 13 = .ok (.iload_n 3, 1) := by decide +kernel
theorem d19_14 : decode k19 14 = .ok (.iload_n 2, 1) := by decide +kernel
theorem d19_15 : decode k19 15 = .ok (.isub, 1) := by decide +kernel
theorem d19_16 : decode k19 16 = .ok (.istore 4, 2) := by decide +kernel
theorem d19_18 : decode k19 18 = .ok (.iload_n 2, 1) := by decide +kernel
theorem d19_19 : decode k19 19 = .ok (.iload 4, 2) := by decide +kernel
theorem d19_21 : decode k19 21 = .ok (.iload_n 2, 1) := by decide +kernel
theorem d19_22 : decode k19 22 = .ok (.iconst 2, 1) := by decide +kernel
theorem d19_23 : decode k19 23 = .ok (.aload_n 0, 1) := by decide +kernel
theorem d19_24 : decode k19 24 = .ok (.getfield 22, 3) := by decide +kernel
theorem d19_27 : decode k19 27 = .ok (.ishl, 1) := by decide +kernel
theorem d19_28 : decode k19 28 = .ok (.iadd, 1) := by decide +kernel
theorem d19_29 : decode k19 29 = .ok (.invokestatic 114, 3) := by decide +kernel
theorem d19_32 : decode k19 32 = .ok (.istore 5, 2) := by decide +kernel
theorem d19_34 : decode k19 34 = .ok (.iload 5, 2) := by decide +kernel
theorem d19_36 : decode k19 36 = .ok (.ldc 39, 2) := by decide +kernel
theorem d19_38 : decode k19 38 = .ok (.if_icmp .ne 13, 3) := by decide +kernel
theorem d19_51 : decode k19 51 = .ok (.iload 5, 2) := by decide +kernel
theorem d19_53 : decode k19 53 = .ok (.aload_n 0, 1) := by decide +kernel
theorem d19_54 : decode k19 54 = .ok (.getfield 22, 3) := by decide +kernel
theorem d19_57 : decode k19 57 = .ok (.ishr, 1) := by decide +kernel
theorem d19_58 : decode k19 58 = .ok (.ireturn, 1) := by decide +kernel
theorem d20_0 : decode k20 0 = .ok (.iload_n 0, 1) := by decide +kernel
theorem d20_1 : decode k20 1 = .ok (.iload_n 1, 1) := by decide +kernel
theorem d20_2 : decode k20 2 = .ok (.iload_n 2, 1) := by decide +kernel
theorem d20_3 : decode k20 3 = .ok (.invokestatic 194, 3) := by decide +kernel
theorem d20_6 : decode k20 6 = .ok (.iadd, 1) := by decide +kernel
theorem d20_7 : decode k20 7 = .ok (.istore_n 3, 1) := by decide +kernel
theorem d20_8 : decode k20 8 = .ok (.iconst 0, 1) := by decide +kernel
theorem d20_9 : decode k20 9 = .ok (.iload_n 3, 1) := by decide +kernel
theorem d20_10 : decode k20 10 = .ok (.if_icmp .ge 11, 3) := by decide +kernel
theorem d20_13 : decode k20 13 = .ok (.iload_n 3, 1) := by decide +kernel
theorem d20_14 : decode k20 14 = .ok (.ldc 200, 2) := by decide +kernel
theorem d20_16 : decode k20 16 = .ok (.if_icmp .gt 5, 3) := by decide +kernel
theorem d20_19 : decode k20 19 = .ok (.iload_n 3, 1) := by decide +kernel
theorem d20_20 : decode k20 20 = .ok (.ireturn, 1) := by decide +kernel
theorem d21_0 : decode k21 0 = .ok (.iload_n 0, 1) := by decide +kernel
theorem d21_1 : decode k21 1 = .ok (.iload_n 1, 1) := by decide +kernel
theorem d21_2 : decode k21 2 = .ok (.if_icmp .lt 7, 3) := by decide +kernel
theorem d21_9 : decode k21 9 = .ok (.iload_n 1, 1) := by decide +kernel
theorem d21_10 : decode k21 10 = .ok (.ireturn, 1) := by decide +kernel
theorem d22_0 : decode k22 0 = .ok (.iload_n 1, 1) := by decide +kernel
theorem d22_1 : decode k22 1 = .ok (.aload_n 0, 1) := by decide +kernel
theorem d22_2 : decode k22 2 = .ok (.arraylength, 1) := by decide +kernel
theorem d22_3 : decode k22 3 = .ok (.if_icmp .ne 11, 3) := by decide +kernel
theorem d22_14 : decode k22 14 = .ok (.iload_n 1, 1) := by decide +kernel
theorem d22_15 : decode k22 15 = .ok (.newarray .byte, 2) := by decide +kernel
theorem d22_17 : decode k22 17 = .ok (.astore_n 2, 1) := by decide +kernel
theorem d22_18 : decode k22 18 = .ok (.aload_n 0, 1) := by decide +kernel
theorem d22_19 : decode k22 19 = .ok (.iconst 0, 1) := by decide +kernel
theorem d22_20 : decode k22 20 = .ok (.aload_n 2, 1) := by decide +kernel
theorem d22_21 : decode k22 21 = .ok (.iconst 0, 1) := by decide +kernel
theorem d22_22 : decode k22 22 = .ok (.aload_n 0, 1) := by decide +kernel
theorem d22_23 : decode k22 23 = .ok (.arraylength, 1) := by decide +kernel
theorem d22_24 : decode k22 24 = .ok (.iload_n 1, 1) := by decide +kernel
theorem d22_25 : decode k22 25 = .ok (.invokestatic 304, 3) := by decide +kernel
theorem d22_28 : decode k22 28 = .ok (.invokestatic 150, 3) := by decide +kernel
theorem d22_31 : decode k22 31 = .ok (.aload_n 2, 1) := by decide +kernel
theorem d22_32 : decode k22 32 = .ok (.areturn, 1) := by decide +kernel
theorem d23_0 : decode k23 0 = .ok (.iload_n 0, 1) := by decide +kernel
theorem d23_1 : decode k23 1 = .ok (.iload_n 1, 1) := by decide +kernel
theorem d23_2 : decode k23 2 = .ok (.if_icmp .gt 7, 3) := by decide +kernel
theorem d23_5 : decode k23 5 = .ok (.iload_n 0, 1) := by decide +kernel
theorem d23_6 : decode k23 6 = .ok (.goto 4, 3) := by decide +kernel
theorem d23_9 : decode k23 9 = .ok (.iload_n 1, 1) := by decide +kernel
theorem d23_10 : decode k23 10 = .ok (.ireturn, 1) := by decide +kernel
theorem d24_0 : decode k24 0 = .ok (.aload_n 0, 1) := by decide +kernel
theorem d24_1 : decode k24 1 = .ok (.aload_n 2, 1) := by decide +kernel
theorem d24_2 : decode k24 2 = .ok (.invokevirtual 397, 3) := by decide +kernel
theorem d24_5 : decode k24 5 = .ok (.aload_n 2, 1) := by decide +kernel
theorem d24_6 : decode k24 6 = .ok (.aload_n 0, 1) := by decide +kernel
theorem d24_7 : decode k24 7 = .ok (.getfield 15, 3) := by decide +kernel
theorem d24_10 : decode k24 10 = .ok (.iload_n 1, 1) := by decide +kernel
theorem d24_11 : decode k24 11 = .ok (.aload_n 0, 1) := by decide +kernel
theorem d24_12 : decode k24 12 = .ok (.getfield 22, 3) := by decide +kernel
theorem d24_15 : decode k24 15 = .ok (.invokevirtual 399, 3) := by decide +kernel
theorem d24_18 : decode k24 18 = .ok (.return_, 1) := by decide +kernel
theorem d25_0 : decode k25 0 = .ok (.getstatic 18, 3) := by decide +kernel
theorem d25_3 : decode k25 3 = .ok (.ifCond .eq 18, 3) := by decide +kernel
theorem d25_6 : decode k25 6 = .ok (.aload_n 0, 1) := by decide +kernel
theorem d25_7 : decode k25 7 = .ok (.getfield 22, 3) := by decide +kernel
theorem d25_10 : decode k25 10 = .ok (.aload_n 1, 1) := by decide +kernel
theorem d25_11 : decode k25 11 = .ok (.invokevirtual 40, 3) := by decide +kernel
theorem d25_14 : decode k25 14 = .ok (.if_icmp .eq 7, 3) := by decide +kernel
theorem d25_21 : decode k25 21 = .ok (.return_, 1) := by decide +kernel
theorem d26_0 : decode k26 0 = .ok (.aload_n 0, 1) := by decide +kernel
theorem d26_1 : decode k26 1 = .ok (.invokevirtual 335, 3) := by decide +kernel
theorem d26_4 : decode k26 4 = .ok (.iload_n 3, 1) := by decide +kernel
theorem d26_5 : decode k26 5 = .ok (.if_icmp .ne 23, 3) := by decide +kernel
theorem d26_8 : decode k26 8 = .ok (.aload_n 0, 1) := by decide +kernel
theorem d26_9 : decode k26 9 = .ok (.getfield 9, 3) := by decide +kernel
theorem d26_12 : decode k26 12 = .ok (.iconst 0, 1) := by decide +kernel
theorem d26_13 : decode k26 13 = .ok (.aload_n 1, 1) := by decide +kernel
theorem d26_14 : decode k26 14 = .ok (.iload_n 2, 1) := by decide +kernel
theorem d26_15 : decode k26 15 = .ok (.iload_n 3, 1) := by decide +kernel
theorem d26_16 : decode k26 16 = .ok (.ishl, 1) := by decide +kernel
theorem d26_17 : decode k26 17 = .ok (.aload_n 0, 1) := by decide +kernel
theorem d26_18 : decode k26 18 = .ok (.getfield 9, 3) := by decide +kernel
theorem d26_21 : decode k26 21 = .ok (.arraylength, 1) := by decide +kernel
theorem d26_22 : decode k26 22 = .ok (.invokestatic 212, 3) := by decide +kernel
theorem d26_25 : decode k26 25 = .ok (.goto 18, 3) := by decide +kernel
theorem d26_43 : decode k26 43 = .ok (.return_, 1) := by decide +kernel
theorem d27_0 : decode k27 0 = .ok (.new 18, 3) := by decide +kernel
theorem d27_3 : decode k27 3 = .ok (.dup, 1) := by decide +kernel
theorem d27_4 : decode k27 4 = .ok (.aload_n 0, 1) := by decide +kernel
theorem d27_5 : decode k27 5 = .ok (.invokespecial 137, 3) := by decide +kernel
theorem d27_8 : decode k27 8 = .ok (.areturn, 1) := by decide +kernel
theorem d28_0 : decode k28 0 = .ok (.aload_n 0, 1) := by decide +kernel
theorem d28_1 : decode k28 1 = .ok (.aload_n 1, 1) := by decide +kernel
theorem d28_2 : decode k28 2 = .ok (.aconst_null, 1) := by decide +kernel
theorem d28_3 : decode k28 3 = .ok (.invokespecial 489, 3) := by decide +kernel
theorem d28_6 : decode k28 6 = .ok (.return_, 1) := by decide +kernel
theorem d29_0 : decode k29 0 = .ok (.aload_n 0, 1) := by decide +kernel
theorem d29_1 : decode k29 1 = .ok (.invokespecial 1, 3) := by decide +kernel
theorem d29_4 : decode k29 4 = .ok (.aload_n 1, 1) := by decide +kernel
theorem d29_5 : decode k29 5 = .ok (.invokevirtual 552, 3) := by decide +kernel
theorem d29_8 : decode k29 8 = .ok (.astore_n 3, 1) := by decide +kernel
theorem d29_9 : decode k29 9 = .ok (.aload_n 1, 1) := by decide +kernel
theorem d29_10 : decode k29 10 = .ok (.invokevirtual 549, 3) := by decide +kernel
theorem d29_13 : decode k29 13 = .ok (.istore 4, 2) := by decide +kernel
theorem d29_15 : decode k29 15 = .ok (.aload_n 1, 1) := by decide +kernel
theorem d29_16 : decode k29 16 = .ok (.invokevirtual 1047, 3) := by decide +kernel
theorem d29_19 : decode k29 19 = .ok (.ifCond .eq 22, 3) := by decide +kernel
theorem d29_22 : decode k29 22 = .ok (.aload_n 0, 1) := by decide +kernel
theorem d29_23 : decode k29 23 = .ok (.iconst 0, 1) := by decide +kernel
theorem d29_24 : decode k29 24 = .ok (.putfield 15, 3) := by decide +kernel
theorem d29_27 : decode k29 27 = .ok (.aload_n 0, 1) := by decide +kernel
theorem d29_28 : decode k29 28 = .ok (.aload_n 3, 1) := by decide +kernel
theorem d29_29 : decode k29 29 = .ok (.iconst 0, 1) := by decide +kernel
theorem d29_30 : decode k29 30 = .ok (.iload 4, 2) := by decide +kernel
theorem d29_32 : decode k29 32 = .ok (.invokestatic 54, 3) := by decide +kernel
theorem d29_35 : decode k29 35 = .ok (.putfield 9, 3) := by decide +kernel
theorem d29_38 : decode k29 38 = .ok (.goto 59, 3) := by decide +kernel
theorem d29_97 : decode k29 97 = .ok (.return_, 1) := by decide +kernel
theorem d30_0 : decode k30 0 = .ok (.aload_n 0, 1) := by decide +kernel
theorem d30_1 : decode k30 1 = .ok (.getfield 15, 3) := by decide +kernel
theorem d30_4 : decode k30 4 = .ok (.areturn, 1) := by decide +kernel
theorem d31_0 : decode k31 0 = .ok (.aload_n 0, 1) := by decide +kernel
theorem d31_1 : decode k31 1 = .ok (.invokespecial 343, 3) := by decide +kernel
theorem d31_4 : decode k31 4 = .ok (.ireturn, 1) := by decide +kernel
theorem d32_0 : decode k32 0 = .ok (.aload_n 0, 1) := by decide +kernel
theorem d32_1 : decode k32 1 = .ok (.getfield 79, 3) := by decide +kernel
theorem d32_4 : decode k32 4 = .ok (.ireturn, 1) := by decide +kernel
theorem d33_0 : decode k33 0 = .ok (.getstatic 18, 3) := by decide +kernel
theorem d33_3 : decode k33 3 = .ok (.ifCond .eq 14, 3) := by decide +kernel
theorem d33_6 : decode k33 6 = .ok (.aload_n 0, 1) := by decide +kernel
theorem d33_7 : decode k33 7 = .ok (.getfield 22, 3) := by decide +kernel
theorem d33_10 : decode k33 10 = .ok (.ifCond .ne 7, 3) := by decide +kernel
theorem d33_13 : decode k33 13 = .ok (.iconst 1, 1) := by decide +kernel
theorem d33_14 : decode k33 14 = .ok (.goto 4, 3) := by decide +kernel
theorem d33_18 : decode k33 18 = .ok (.ireturn, 1) := by decide +kernel
theorem d34_0 : decode k34 0 = .ok (.iload_n 1, 1) := by decide +kernel
theorem d34_1 : decode k34 1 = .ok (.ifCond .ne 9, 3) := by decide +kernel
theorem d34_4 : decode k34 4 = .ok (.iload_n 2, 1) := by decide +kernel
theorem d34_5 : decode k34 5 = .ok (.aload_n 0, 1) := by decide +kernel
theorem d34_6 : decode k34 6 = .ok (.arraylength, 1) := by decide +kernel
theorem d34_7 : decode k34 7 = .ok (.if_icmp .eq 10, 3) := by decide +kernel
theorem d34_10 : decode k34 10 = .ok (.aload_n 0, 1) := by decide +kernel
theorem d34_11 : decode k34 11 = .ok (.iload_n 1, 1) := by decide +kernel
theorem d34_12 : decode k34 12 = .ok (.iload_n 2, 1) := by decide +kernel
theorem d34_13 : decode k34 13 = .ok (.invokestatic 339, 3) := by decide +kernel
theorem d34_16 : decode k34 16 = .ok (.areturn, 1) := by decide +kernel
theorem d34_17 : decode k34 17 = .ok (.aload_n 0, 1) := by decide +kernel
theorem d34_18 : decode k34 18 = .ok (.invokevirtual 310, 3) := by decide +kernel
theorem d34_21 : decode k34 21 = .ok (.checkcast 311, 3) := by decide +kernel
theorem d34_24 : decode k34 24 = .ok (.areturn, 1) := by decide +kernel
theorem d35_0 : decode k35 0 = .ok (.iload_n 1, 1) := by decide +kernel
theorem d35_1 : decode k35 1 = .ok (.iload_n 2, 1) := by decide +kernel
theorem d35_2 : decode k35 2 = .ok (.invokestatic 343, 3) := by decide +kernel
theorem d35_5 : decode k35 5 = .ok (.iload_n 2, 1) := by decide +kernel
theorem d35_6 : decode k35 6 = .ok (.iload_n 1, 1) := by decide +kernel
theorem d35_7 : decode k35 7 = .ok (.isub, 1) := by decide +kernel
theorem d35_8 : decode k35 8 = .ok (.istore_n 3, 1) := by decide +kernel
theorem d35_9 : decode k35 9 = .ok (.iload_n 3, 1) := by decide +kernel
theorem d35_10 : decode k35 10 = .ok (.newarray .byte, 2) := by decide +kernel
theorem d35_12 : decode k35 12 = .ok (.astore 4, 2) := by decide +kernel
theorem d35_14 : decode k35 14 = .ok (.aload_n 0, 1) := by decide +kernel
theorem d35_15 : decode k35 15 = .ok (.iload_n 1, 1) := by decide +kernel
theorem d35_16 : decode k35 16 = .ok (.aload 4, 2) := by decide +kernel
theorem d35_18 : decode k35 18 = .ok (.iconst 0, 1) := by decide +kernel
theorem d35_19 : decode k35 19 = .ok (.aload_n 0, 1) := by decide +kernel
theorem d35_20 : decode k35 20 = .ok (.arraylength, 1) := by decide +kernel
theorem d35_21 : decode k35 21 = .ok (.iload_n 1, 1) := by decide +kernel
theorem d35_22 : decode k35 22 = .ok (.isub, 1) := by decide +kernel
theorem d35_23 : decode k35 23 = .ok (.iload_n 3, 1) := by decide +kernel
theorem d35_24 : decode k35 24 = .ok (.invokestatic 304, 3) := by decide +kernel
theorem d35_27 : decode k35 27 = .ok (.invokestatic 150, 3) := by decide +kernel
theorem d35_30 : decode k35 30 = .ok (.aload 4, 2) := by decide +kernel
theorem d35_32 : decode k35 32 = .ok (.areturn, 1) := by decide +kernel
theorem d36_0 : decode k36 0 = .ok (.iload_n 1, 1) := by decide +kernel
theorem d36_1 : decode k36 1 = .ok (.iload_n 0, 1) := by decide +kernel
theorem d36_2 : decode k36 2 = .ok (.if_icmp .ge 35, 3) := by decide +kernel
theorem d36_37 : decode k36 37 = .ok (.return_, 1) := by decide +kernel
theorem d37_0 : decode k37 0 = .ok (.aload_n 0, 1) := by decide +kernel
theorem d37_1 : decode k37 1 = .ok (.aload_n 1, 1) := by decide +kernel
theorem d37_2 : decode k37 2 = .ok (.invokespecial 1, 3) := by decide +kernel
theorem d37_5 : decode k37 5 = .ok (.return_, 1) := by decide +kernel
theorem d38_0 : decode k38 0 = .ok (.aload_n 0, 1) := by decide +kernel
theorem d38_1 : decode k38 1 = .ok (.aload_n 1, 1) := by decide +kernel
theorem d38_2 : decode k38 2 = .ok (.invokespecial 7, 3) := by decide +kernel
theorem d38_5 : decode k38 5 = .ok (.return_, 1) := by decide +kernel
theorem d39_0 : decode k39 0 = .ok (.aload_n 0, 1) := by decide +kernel
theorem d39_1 : decode k39 1 = .ok (.invokespecial 1, 3) := by decide +kernel
theorem d39_4 : decode k39 4 = .ok (.aload_n 0, 1) := by decide +kernel
theorem d39_5 : decode k39 5 = .ok (.aload_n 0, 1) := by decide +kernel
theorem d39_6 : decode k39 6 = .ok (.putfield 7, 3) := by decide +kernel
theorem d39_9 : decode k39 9 = .ok (.aload_n 0, 1) := by decide +kernel
theorem d39_10 : decode k39 10 = .ok (.getstatic 13, 3) := by decide +kernel
theorem d39_13 : decode k39 13 = .ok (.putfield 17, 3) := by decide +kernel
theorem d39_16 : decode k39 16 = .ok (.aload_n 0, 1) := by decide +kernel
theorem d39_17 : decode k39 17 = .ok (.getstatic 20, 3) := by decide +kernel
theorem d39_20 : decode k39 20 = .ok (.putfield 24, 3) := by decide +kernel
theorem d39_23 : decode k39 23 = .ok (.aload_n 0, 1) := by decide +kernel
theorem d39_24 : decode k39 24 = .ok (.invokevirtual 27, 3) := by decide +kernel
theorem d39_27 : decode k39 27 = .ok (.pop, 1) := by decide +kernel
theorem d39_28 : decode k39 28 = .ok (.aload_n 0, 1) := by decide +kernel
theorem d39_29 : decode k39 29 = .ok (.aload_n 1, 1) := by decide +kernel
theorem d39_30 : decode k39 30 = .ok (.putfield 31, 3) := by decide +kernel
theorem d39_33 : decode k39 33 = .ok (.return_, 1) := by decide +kernel
theorem d42_0 : decode k42 0 = .ok (.aload_n 0, 1) := by decide +kernel
theorem d42_1 : decode k42 1 = .ok (.getfield 31, 3) := by decide +kernel
theorem d42_4 : decode k42 4 = .ok (.areturn, 1) := by decide +kernel
theorem d43_0 : decode k43 0 = .ok (.aload_n 0, 1) := by decide +kernel
theorem d43_1 : decode k43 1 = .ok (.aload_n 1, 1) := by decide +kernel
theorem d43_2 : decode k43 2 = .ok (.if_acmp .ne 5, 3) := by decide +kernel
theorem d43_7 : decode k43 7 = .ok (.aload_n 1, 1) := by decide +kernel
theorem d43_8 : decode k43 8 = .ok (.instanceof 10, 3) := by decide +kernel
theorem d43_11 : decode k43 11 = .ok (.ifCond .eq 43, 3) := by decide +kernel
theorem d43_14 : decode k43 14 = .ok (.aload_n 1, 1) := by decide +kernel
theorem d43_15 : decode k43 15 = .ok (.checkcast 10, 3) := by decide +kernel
theorem d43_18 : decode k43 18 = .ok (.astore_n 2, 1) := by decide +kernel
theorem d43_19 : decode k43 19 = .ok (.getstatic 38, 3) := by decide +kernel
theorem d43_22 : decode k43 22 = .ok (.ifCond .eq 14, 3) := by decide +kernel
theorem d43_25 : decode k43 25 = .ok (.aload_n 0, 1) := by decide +kernel
theorem d43_26 : decode k43 26 = .ok (.getfield 15, 3) := by decide +kernel
theorem d43_29 : decode k43 29 = .ok (.aload_n 2, 1) := by decide +kernel
theorem d43_30 : decode k43 30 = .ok (.getfield 15, 3) := by decide +kernel
theorem d43_33 : decode k43 33 = .ok (.if_icmp .ne 21, 3) := by decide +kernel
theorem d43_36 : decode k43 36 = .ok (.aload_n 0, 1) := by decide +kernel
theorem d43_37 : decode k43 37 = .ok (.getfield 9, 3) := by decide +kernel
theorem d43_40 : decode k43 40 = .ok (.aload_n 2, 1) := by decide +kernel
theorem d43_41 : decode k43 41 = .ok (.getfield 9, 3) := by decide +kernel
theorem d43_44 : decode k43 44 = .ok (.invokestatic 541, 3) := by decide +kernel
theorem d43_47 : decode k43 47 = .ok (.ifCond .eq 7, 3) := by decide +kernel
theorem d43_50 : decode k43 50 = .ok (.iconst 1, 1) := by decide +kernel
theorem d43_51 : decode k43 51 = .ok (.goto 4, 3) := by decide +kernel
theorem d43_55 : decode k43 55 = .ok (.ireturn, 1) := by decide +kernel
theorem d44_0 : decode k44 0 = .ok (.aload_n 0, 1) := by decide +kernel
theorem d44_1 : decode k44 1 = .ok (.arraylength, 1) := by decide +kernel
theorem d44_2 : decode k44 2 = .ok (.aload_n 1, 1) := by decide +kernel
theorem d44_3 : decode k44 3 = .ok (.arraylength, 1) := by decide +kernel
theorem d44_4 : decode k44 4 = .ok (.if_icmp .ne 30, 3) := by decide +kernel
theorem d44_7 : decode k44 7 = .ok (.iconst 0, 1) := by decide +kernel
theorem d44_8 : decode k44 8 = .ok (.istore_n 2, 1) := by decide +kernel
theorem d44_9 : decode k44 9 = .ok (.iload_n 2, 1) := by decide +kernel
theorem d44_10 : decode k44 10 = .ok (.aload_n 0, 1) := by decide +kernel
theorem d44_11 : decode k44 11 = .ok (.arraylength, 1) := by decide +kernel
theorem d44_12 : decode k44 12 = .ok (.if_icmp .ge 20, 3) := by decide +kernel
theorem d44_15 : decode k44 15 = .ok (.aload_n 0, 1) := by decide +kernel
theorem d44_16 : decode k44 16 = .ok (.iload_n 2, 1) := by decide +kernel
theorem d44_17 : decode k44 17 = .ok (.baload, 1) := by decide +kernel
theorem d44_18 : decode k44 18 = .ok (.aload_n 1, 1) := by decide +kernel
theorem d44_19 : decode k44 19 = .ok (.iload_n 2, 1) := by decide +kernel
theorem d44_20 : decode k44 20 = .ok (.baload, 1) := by decide +kernel
theorem d44_21 : decode k44 21 = .ok (.if_icmp .eq 5, 3) := by decide +kernel
theorem d44_26 : decode k44 26 = .ok (.iinc 2 1, 3) := by decide +kernel
theorem d44_29 : decode k44 29 = .ok (.goto (-20), 3) := by decide +kernel
theorem d44_32 : decode k44 32 = .ok (.iconst 1, 1) := by decide +kernel
theorem d44_33 : decode k44 33 = .ok (.ireturn, 1) := by decide +kernel
theorem d45_0 : decode k45 0 = .ok (.iconst 0, 1) := by decide +kernel
theorem d45_1 : decode k45 1 = .ok (.istore 5, 2) := by decide +kernel
theorem d45_3 : decode k45 3 = .ok (.iload 4, 2) := by decide +kernel
theorem d45_5 : decode k45 5 = .ok (.bipush 7, 2) := by decide +kernel
theorem d45_7 : decode k45 7 = .ok (.if_icmp .le 63, 3) := by decide +kernel
theorem d45_70 : decode k45 70 = .ok (.iload 5, 2) := by decide +kernel
theorem d45_72 : decode k45 72 = .ok (.iload 4, 2) := by decide +kernel
theorem d45_74 : decode k45 74 = .ok (.if_icmp .ge 27, 3) := by decide +kernel
theorem d45_77 : decode k45 77 = .ok (.aload_n 0, 1) := by decide +kernel
theorem d45_78 : decode k45 78 = .ok (.iload_n 1, 1) := by decide +kernel
theorem d45_79 : decode k45 79 = .ok (.iload 5, 2) := by decide +kernel
theorem d45_81 : decode k45 81 = .ok (.iadd, 1) := by decide +kernel
theorem d45_82 : decode k45 82 = .ok (.baload, 1) := by decide +kernel
theorem d45_83 : decode k45 83 = .ok (.aload_n 2, 1) := by decide +kernel
theorem d45_84 : decode k45 84 = .ok (.iload_n 3, 1) := by decide +kernel
theorem d45_85 : decode k45 85 = .ok (.iload 5, 2) := by decide +kernel
theorem d45_87 : decode k45 87 = .ok (.iadd, 1) := by decide +kernel
theorem d45_88 : decode k45 88 = .ok (.baload, 1) := by decide +kernel
theorem d45_89 : decode k45 89 = .ok (.if_icmp .eq 6, 3) := by decide +kernel
theorem d45_92 : decode k45 92 = .ok (.iload 5, 2) := by decide +kernel
theorem d45_94 : decode k45 94 = .ok (.ireturn, 1) := by decide +kernel
theorem d45_95 : decode k45 95 = .ok (.iinc 5 1, 3) := by decide +kernel
theorem d45_98 : decode k45 98 = .ok (.goto (-28), 3) := by decide +kernel
theorem d45_101 : decode k45 101 = .ok (.iconst (-1), 1) := by decide +kernel
theorem d45_102 : decode k45 102 = .ok (.ireturn, 1) := by decide +kernel
theorem pd0 : parseMethodDescriptor "([CIILjava/lang/Void;)V" = some ⟨[(.array .char), .int, .int, (.object "java/lang/Void")], none⟩ := by decide +kernel
theorem pd1 : parseMethodDescriptor "([CI[BII)I" = some ⟨[(.array .char), .int, (.array .byte), .int, .int], some .int⟩ := by decide +kernel
theorem pd2 : parseMethodDescriptor "([CII)[B" = some ⟨[(.array .char), .int, .int], some (.array .byte)⟩ := by decide +kernel
theorem pd3 : parseMethodDescriptor "([BI)B" = some ⟨[(.array .byte), .int], some .byte⟩ := by decide +kernel
theorem pd4 : parseMethodDescriptor "()B" = some ⟨[], some .byte⟩ := by decide +kernel
theorem pd5 : parseMethodDescriptor "([C)V" = some ⟨[(.array .char)], none⟩ := by decide +kernel
theorem pd6 : parseMethodDescriptor "()I" = some ⟨[], some .int⟩ := by decide +kernel
theorem pd7 : parseMethodDescriptor "([BI[BII)I" = some ⟨[(.array .byte), .int, (.array .byte), .int, .int], some .int⟩ := by decide +kernel
theorem pd8 : parseMethodDescriptor "(Ljava/lang/String;I)Z" = some ⟨[(.object "java/lang/String"), .int], some .boolean⟩ := by decide +kernel
theorem pd9 : parseMethodDescriptor "(I)V" = some ⟨[.int], none⟩ := by decide +kernel
theorem pd10 : parseMethodDescriptor "(Ljava/lang/String;)V" = some ⟨[(.object "java/lang/String")], none⟩ := by decide +kernel
theorem pd11 : parseMethodDescriptor "([BIB)V" = some ⟨[(.array .byte), .int, .byte], none⟩ := by decide +kernel
theorem pd12 : parseMethodDescriptor "(ILjava/lang/String;)V" = some ⟨[.int, (.object "java/lang/String")], none⟩ := by decide +kernel
theorem pd13 : parseMethodDescriptor "(Ljava/lang/String;)Ljava/lang/AbstractStringBuilder;" = some ⟨[(.object "java/lang/String")], some (.object "java/lang/AbstractStringBuilder")⟩ := by decide +kernel
theorem pd14 : parseMethodDescriptor "(II)V" = some ⟨[.int, .int], none⟩ := by decide +kernel
theorem pd15 : parseMethodDescriptor "(II)I" = some ⟨[.int, .int], some .int⟩ := by decide +kernel
theorem pd16 : parseMethodDescriptor "([BII)[B" = some ⟨[(.array .byte), .int, .int], some (.array .byte)⟩ := by decide +kernel
theorem pd17 : parseMethodDescriptor "()[B" = some ⟨[], some (.array .byte)⟩ := by decide +kernel
theorem pd18 : parseMethodDescriptor "()Z" = some ⟨[], some .boolean⟩ := by decide +kernel
theorem pd19 : parseMethodDescriptor "(Ljava/lang/AbstractStringBuilder;Ljava/lang/Void;)V" = some ⟨[(.object "java/lang/AbstractStringBuilder"), (.object "java/lang/Void")], none⟩ := by decide +kernel
theorem pd20 : parseMethodDescriptor "(Ljava/lang/StringBuilder;)V" = some ⟨[(.object "java/lang/StringBuilder")], none⟩ := by decide +kernel
theorem pd21 : parseMethodDescriptor "(III)I" = some ⟨[.int, .int, .int], some .int⟩ := by decide +kernel
theorem pd22 : parseMethodDescriptor "(I)I" = some ⟨[.int], some .int⟩ := by decide +kernel
theorem pd23 : parseMethodDescriptor "([BI)[B" = some ⟨[(.array .byte), .int], some (.array .byte)⟩ := by decide +kernel
theorem pd24 : parseMethodDescriptor "(Ljava/lang/String;)Z" = some ⟨[(.object "java/lang/String")], some .boolean⟩ := by decide +kernel
theorem pd25 : parseMethodDescriptor "()V" = some ⟨[], none⟩ := by decide +kernel
theorem pd26 : parseMethodDescriptor "(Ljava/lang/String;)Ljava/lang/StringBuilder;" = some ⟨[(.object "java/lang/String")], some (.object "java/lang/StringBuilder")⟩ := by decide +kernel
theorem pd27 : parseMethodDescriptor "()Ljava/lang/String;" = some ⟨[], some (.object "java/lang/String")⟩ := by decide +kernel
theorem pd28 : parseMethodDescriptor "([B[B)Z" = some ⟨[(.array .byte), (.array .byte)], some .boolean⟩ := by decide +kernel
theorem pd29 : parseMethodDescriptor "(ICCC)Ljava/lang/String;" = some ⟨[.int, .char, .char, .char], some (.object "java/lang/String")⟩ := by decide +kernel
theorem pd30 : parseMethodDescriptor "(ZICCC)Ljava/lang/String;" = some ⟨[.boolean, .int, .char, .char, .char], some (.object "java/lang/String")⟩ := by decide +kernel
theorem pd31 : parseMethodDescriptor "(Ljava/lang/String;)Lcom/example/loopd/loopd/UsageException;" = some ⟨[(.object "java/lang/String")], some (.object "com/example/loopd/loopd/UsageException")⟩ := by decide +kernel
theorem pd32 : parseMethodDescriptor "(Ljava/lang/Object;)Z" = some ⟨[(.object "java/lang/Object")], some .boolean⟩ := by decide +kernel
theorem pn0 : plainName "java/lang/String" = true := by first | (simp [plainName, overriddenIn]; done) | decide +kernel
theorem pn1 : plainName "java/lang/StringUTF16" = true := by first | (simp [plainName, overriddenIn]; done) | decide +kernel
theorem pn2 : plainName "com/example/loopd/loopd/FlagsUnexpectedPinLaw" = true := by first | (simp [plainName, overriddenIn]; done) | decide +kernel
theorem pn3 : plainName "jdk/internal/util/ArraysSupport" = true := by first | (simp [plainName, overriddenIn]; done) | decide +kernel
theorem pn4 : plainName "java/lang/AbstractStringBuilder" = true := by first | (simp [plainName, overriddenIn]; done) | decide +kernel
theorem pn5 : plainName "java/lang/StringBuilder" = true := by first | (simp [plainName, overriddenIn]; done) | decide +kernel
theorem pn6 : plainName "java/util/Arrays" = true := by first | (simp [plainName, overriddenIn]; done) | decide +kernel
theorem pn7 : plainName "java/lang/Throwable" = true := by first | (simp [plainName, overriddenIn]; done) | decide +kernel
theorem pn8 : plainName "java/lang/Exception" = true := by first | (simp [plainName, overriddenIn]; done) | decide +kernel
theorem pn9 : plainName "com/example/loopd/loopd/UsageException" = true := by first | (simp [plainName, overriddenIn]; done) | decide +kernel
theorem pn10 : plainName "com/example/loopd/loopd/Flags" = true := by first | (simp [plainName, overriddenIn]; done) | decide +kernel
theorem pn11 : plainName "java/lang/StringLatin1" = true := by first | (simp [plainName, overriddenIn]; done) | decide +kernel
theorem ef_csi0 (m : MethodId) (x0 : Addr) (x1 : Addr) : entryFrame m #[(.ref x0), (.ref x1), (.int 0), (.int 0), .null] 6 = mkF m 0 #[.val (.ref x0), .val (.ref x1), .val (.int 0), .val (.int 0), .val .null, .unset] [] := by first | (simp [entryFrame, mkF, argsToLocals, Value.category, maxLocals]; done) | rfl
theorem ef_csj0 (m : MethodId) (x0 : Addr) (x1 : Addr) : entryFrame m #[(.ref x0), (.ref x1)] 2 = mkF m 0 #[.val (.ref x0), .val (.ref x1)] [] := by first | (simp [entryFrame, mkF, argsToLocals, Value.category, maxLocals]; done) | rfl
theorem ef_ccmp (m : MethodId) (x0 : Addr) (x2 : Addr) (x4 : Int32) : entryFrame m #[(.ref x0), (.int 0), (.ref x2), (.int 0), (.int x4)] 7 = mkF m 0 #[.val (.ref x0), .val (.int 0), .val (.ref x2), .val (.int 0), .val (.int x4), .unset, .unset] [] := by first | (simp [entryFrame, mkF, argsToLocals, Value.category, maxLocals]; done) | rfl
theorem ef_ccmq (m : MethodId) (x0 : Addr) (x2 : Int32) : entryFrame m #[(.ref x0), (.int 0), (.int x2)] 6 = mkF m 0 #[.val (.ref x0), .val (.int 0), .val (.int x2), .unset, .unset, .unset] [] := by first | (simp [entryFrame, mkF, argsToLocals, Value.category, maxLocals]; done) | rfl
theorem ef_ccal (m : MethodId) (x0 : Addr) (x1 : Int32) : entryFrame m #[(.ref x0), (.int x1)] 2 = mkF m 0 #[.val (.ref x0), .val (.int x1)] [] := by first | (simp [entryFrame, mkF, argsToLocals, Value.category, maxLocals]; done) | rfl
theorem ef_csi (m : MethodId) (x0 : Addr) (x1 : Addr) (x3 : Int32) : entryFrame m #[(.ref x0), (.ref x1), (.int 0), (.int x3), .null] 6 = mkF m 0 #[.val (.ref x0), .val (.ref x1), .val (.int 0), .val (.int x3), .val .null, .unset] [] := by first | (simp [entryFrame, mkF, argsToLocals, Value.category, maxLocals]; done) | rfl
theorem ef_csj (m : MethodId) (x0 : Addr) (x1 : Addr) : entryFrame m #[(.ref x0), (.ref x1)] 2 = mkF m 0 #[.val (.ref x0), .val (.ref x1)] [] := by first | (simp [entryFrame, mkF, argsToLocals, Value.category, maxLocals]; done) | rfl
theorem ef_ccoder (m : MethodId) (x0 : Addr) : entryFrame m #[(.ref x0)] 1 = mkF m 0 #[.val (.ref x0)] [] := by first | (simp [entryFrame, mkF, argsToLocals, Value.category, maxLocals]; done) | rfl
theorem ef_clen (m : MethodId) (x0 : Addr) : entryFrame m #[(.ref x0)] 1 = mkF m 0 #[.val (.ref x0)] [] := by first | (simp [entryFrame, mkF, argsToLocals, Value.category, maxLocals]; done) | rfl
theorem ef_cmw0 (m : MethodId) (x1 : Int32) (x2 : Int32) (x3 : Int32) : entryFrame m #[(.int 0), (.int x1), (.int x2), (.int x3)] 4 = mkF m 0 #[.val (.int 0), .val (.int x1), .val (.int x2), .val (.int x3)] [] := by first | (simp [entryFrame, mkF, argsToLocals, Value.category, maxLocals]; done) | rfl
theorem ef_cmw1 (m : MethodId) (x1 : Int32) (x2 : Int32) (x3 : Int32) : entryFrame m #[(.int 1), (.int x1), (.int x2), (.int x3)] 4 = mkF m 0 #[.val (.int 1), .val (.int x1), .val (.int x2), .val (.int x3)] [] := by first | (simp [entryFrame, mkF, argsToLocals, Value.category, maxLocals]; done) | rfl
theorem ef_cmw2 (m : MethodId) (x1 : Int32) (x2 : Int32) (x3 : Int32) : entryFrame m #[(.int 2), (.int x1), (.int x2), (.int x3)] 4 = mkF m 0 #[.val (.int 2), .val (.int x1), .val (.int x2), .val (.int x3)] [] := by first | (simp [entryFrame, mkF, argsToLocals, Value.category, maxLocals]; done) | rfl
theorem ef_cmw3 (m : MethodId) (x1 : Int32) (x2 : Int32) (x3 : Int32) : entryFrame m #[(.int 3), (.int x1), (.int x2), (.int x3)] 4 = mkF m 0 #[.val (.int 3), .val (.int x1), .val (.int x2), .val (.int x3)] [] := by first | (simp [entryFrame, mkF, argsToLocals, Value.category, maxLocals]; done) | rfl
theorem ef_cex11 (m : MethodId) (x2 : Int32) (x3 : Int32) (x4 : Int32) : entryFrame m #[(.int 1), (.int 1), (.int x2), (.int x3), (.int x4)] 5 = mkF m 0 #[.val (.int 1), .val (.int 1), .val (.int x2), .val (.int x3), .val (.int x4)] [] := by first | (simp [entryFrame, mkF, argsToLocals, Value.category, maxLocals]; done) | rfl
theorem ef_cex12 (m : MethodId) (x2 : Int32) (x3 : Int32) (x4 : Int32) : entryFrame m #[(.int 1), (.int 2), (.int x2), (.int x3), (.int x4)] 5 = mkF m 0 #[.val (.int 1), .val (.int 2), .val (.int x2), .val (.int x3), .val (.int x4)] [] := by first | (simp [entryFrame, mkF, argsToLocals, Value.category, maxLocals]; done) | rfl
theorem ef_cex13 (m : MethodId) (x2 : Int32) (x3 : Int32) (x4 : Int32) : entryFrame m #[(.int 1), (.int 3), (.int x2), (.int x3), (.int x4)] 5 = mkF m 0 #[.val (.int 1), .val (.int 3), .val (.int x2), .val (.int x3), .val (.int x4)] [] := by first | (simp [entryFrame, mkF, argsToLocals, Value.category, maxLocals]; done) | rfl
theorem ef_cex00 (m : MethodId) (x2 : Int32) (x3 : Int32) (x4 : Int32) : entryFrame m #[(.int 0), (.int 0), (.int x2), (.int x3), (.int x4)] 5 = mkF m 0 #[.val (.int 0), .val (.int 0), .val (.int x2), .val (.int x3), .val (.int x4)] [] := by first | (simp [entryFrame, mkF, argsToLocals, Value.category, maxLocals]; done) | rfl
theorem ef_cex01 (m : MethodId) (x2 : Int32) (x3 : Int32) (x4 : Int32) : entryFrame m #[(.int 0), (.int 1), (.int x2), (.int x3), (.int x4)] 5 = mkF m 0 #[.val (.int 0), .val (.int 1), .val (.int x2), .val (.int x3), .val (.int x4)] [] := by first | (simp [entryFrame, mkF, argsToLocals, Value.category, maxLocals]; done) | rfl
theorem ef_cex02 (m : MethodId) (x2 : Int32) (x3 : Int32) (x4 : Int32) : entryFrame m #[(.int 0), (.int 2), (.int x2), (.int x3), (.int x4)] 5 = mkF m 0 #[.val (.int 0), .val (.int 2), .val (.int x2), .val (.int x3), .val (.int x4)] [] := by first | (simp [entryFrame, mkF, argsToLocals, Value.category, maxLocals]; done) | rfl
theorem ef_cex03 (m : MethodId) (x2 : Int32) (x3 : Int32) (x4 : Int32) : entryFrame m #[(.int 0), (.int 3), (.int x2), (.int x3), (.int x4)] 5 = mkF m 0 #[.val (.int 0), .val (.int 3), .val (.int x2), .val (.int x3), .val (.int x4)] [] := by first | (simp [entryFrame, mkF, argsToLocals, Value.category, maxLocals]; done) | rfl
theorem ef_cmisy (m : MethodId) (x0 : Addr) (x2 : Addr) : entryFrame m #[(.ref x0), (.int 0), (.ref x2), (.int 0), (.int 1)] 8 = mkF m 0 #[.val (.ref x0), .val (.int 0), .val (.ref x2), .val (.int 0), .val (.int 1), .unset, .unset, .unset] [] := by first | (simp [entryFrame, mkF, argsToLocals, Value.category, maxLocals]; done) | rfl
theorem ef_csvy (m : MethodId) (x0 : Addr) (x1 : Addr) : entryFrame m #[(.ref x0), (.ref x1), (.int 0)] 8 = mkF m 0 #[.val (.ref x0), .val (.ref x1), .val (.int 0), .unset, .unset, .unset, .unset, .unset] [] := by first | (simp [entryFrame, mkF, argsToLocals, Value.category, maxLocals]; done) | rfl
theorem ef_cswy (m : MethodId) (x0 : Addr) (x1 : Addr) : entryFrame m #[(.ref x0), (.ref x1)] 2 = mkF m 0 #[.val (.ref x0), .val (.ref x1)] [] := by first | (simp [entryFrame, mkF, argsToLocals, Value.category, maxLocals]; done) | rfl
theorem ef_cmisn (m : MethodId) (x0 : Addr) (x2 : Addr) : entryFrame m #[(.ref x0), (.int 0), (.ref x2), (.int 0), (.int 1)] 8 = mkF m 0 #[.val (.ref x0), .val (.int 0), .val (.ref x2), .val (.int 0), .val (.int 1), .unset, .unset, .unset] [] := by first | (simp [entryFrame, mkF, argsToLocals, Value.category, maxLocals]; done) | rfl
theorem ef_csvn (m : MethodId) (x0 : Addr) (x1 : Addr) : entryFrame m #[(.ref x0), (.ref x1), (.int 0)] 8 = mkF m 0 #[.val (.ref x0), .val (.ref x1), .val (.int 0), .unset, .unset, .unset, .unset, .unset] [] := by first | (simp [entryFrame, mkF, argsToLocals, Value.category, maxLocals]; done) | rfl
theorem ef_cswn (m : MethodId) (x0 : Addr) (x1 : Addr) : entryFrame m #[(.ref x0), (.ref x1)] 2 = mkF m 0 #[.val (.ref x0), .val (.ref x1)] [] := by first | (simp [entryFrame, mkF, argsToLocals, Value.category, maxLocals]; done) | rfl
theorem ef_csv0 (m : MethodId) (x0 : Addr) (x1 : Addr) : entryFrame m #[(.ref x0), (.ref x1), (.int 0)] 8 = mkF m 0 #[.val (.ref x0), .val (.ref x1), .val (.int 0), .unset, .unset, .unset, .unset, .unset] [] := by first | (simp [entryFrame, mkF, argsToLocals, Value.category, maxLocals]; done) | rfl
theorem ef_csw0 (m : MethodId) (x0 : Addr) (x1 : Addr) : entryFrame m #[(.ref x0), (.ref x1)] 2 = mkF m 0 #[.val (.ref x0), .val (.ref x1)] [] := by first | (simp [entryFrame, mkF, argsToLocals, Value.category, maxLocals]; done) | rfl
theorem ef_casb (m : MethodId) (x0 : Addr) : entryFrame m #[(.ref x0), (.int 16)] 2 = mkF m 0 #[.val (.ref x0), .val (.int 16)] [] := by first | (simp [entryFrame, mkF, argsToLocals, Value.category, maxLocals]; done) | rfl
theorem ef_csb (m : MethodId) (x0 : Addr) : entryFrame m #[(.ref x0)] 1 = mkF m 0 #[.val (.ref x0)] [] := by first | (simp [entryFrame, mkF, argsToLocals, Value.category, maxLocals]; done) | rfl
theorem ef_cens (m : MethodId) (x0 : Addr) (x1 : Int32) : entryFrame m #[(.ref x0), (.int x1)] 3 = mkF m 0 #[.val (.ref x0), .val (.int x1), .unset] [] := by first | (simp [entryFrame, mkF, argsToLocals, Value.category, maxLocals]; done) | rfl
theorem ef_cinf (m : MethodId) (x0 : Addr) (x1 : Addr) : entryFrame m #[(.ref x0), (.ref x1)] 2 = mkF m 0 #[.val (.ref x0), .val (.ref x1)] [] := by first | (simp [entryFrame, mkF, argsToLocals, Value.category, maxLocals]; done) | rfl
theorem ef_csbl (m : MethodId) (x0 : Addr) : entryFrame m #[(.ref x0)] 1 = mkF m 0 #[.val (.ref x0)] [] := by first | (simp [entryFrame, mkF, argsToLocals, Value.category, maxLocals]; done) | rfl
theorem ef_cgva (m : MethodId) (x0 : Addr) : entryFrame m #[(.ref x0)] 1 = mkF m 0 #[.val (.ref x0)] [] := by first | (simp [entryFrame, mkF, argsToLocals, Value.category, maxLocals]; done) | rfl
theorem ef_clna (m : MethodId) (x0 : Addr) : entryFrame m #[(.ref x0)] 1 = mkF m 0 #[.val (.ref x0)] [] := by first | (simp [entryFrame, mkF, argsToLocals, Value.category, maxLocals]; done) | rfl
theorem ef_clnb (m : MethodId) (x0 : Addr) : entryFrame m #[(.ref x0)] 1 = mkF m 0 #[.val (.ref x0)] [] := by first | (simp [entryFrame, mkF, argsToLocals, Value.category, maxLocals]; done) | rfl
theorem ef_cchl (m : MethodId) (x0 : Int32) (x1 : Int32) : entryFrame m #[(.int x0), (.int x1)] 2 = mkF m 0 #[.val (.int x0), .val (.int x1)] [] := by first | (simp [entryFrame, mkF, argsToLocals, Value.category, maxLocals]; done) | rfl
theorem ef_cmin1 (m : MethodId) (x0 : Int32) (x1 : Int32) : entryFrame m #[(.int x0), (.int x1)] 2 = mkF m 0 #[.val (.int x0), .val (.int x1)] [] := by first | (simp [entryFrame, mkF, argsToLocals, Value.category, maxLocals]; done) | rfl
theorem ef_cmin2 (m : MethodId) (x0 : Int32) (x1 : Int32) : entryFrame m #[(.int x0), (.int x1)] 2 = mkF m 0 #[.val (.int x0), .val (.int x1)] [] := by first | (simp [entryFrame, mkF, argsToLocals, Value.category, maxLocals]; done) | rfl
theorem ef_cgb (m : MethodId) (x0 : Addr) (x1 : Addr) (x2 : Int32) : entryFrame m #[(.ref x0), (.ref x1), (.int x2), (.int 0)] 4 = mkF m 0 #[.val (.ref x0), .val (.ref x1), .val (.int x2), .val (.int 0)] [] := by first | (simp [entryFrame, mkF, argsToLocals, Value.category, maxLocals]; done) | rfl
theorem ef_cps (m : MethodId) (x0 : Addr) (x1 : Int32) (x2 : Addr) : entryFrame m #[(.ref x0), (.int x1), (.ref x2)] 3 = mkF m 0 #[.val (.ref x0), .val (.int x1), .val (.ref x2)] [] := by first | (simp [entryFrame, mkF, argsToLocals, Value.category, maxLocals]; done) | rfl
theorem ef_caa (m : MethodId) (x0 : Addr) (x1 : Addr) : entryFrame m #[(.ref x0), (.ref x1)] 3 = mkF m 0 #[.val (.ref x0), .val (.ref x1), .unset] [] := by first | (simp [entryFrame, mkF, argsToLocals, Value.category, maxLocals]; done) | rfl
theorem ef_cab (m : MethodId) (x0 : Addr) (x1 : Addr) : entryFrame m #[(.ref x0), (.ref x1)] 2 = mkF m 0 #[.val (.ref x0), .val (.ref x1)] [] := by first | (simp [entryFrame, mkF, argsToLocals, Value.category, maxLocals]; done) | rfl
theorem ef_ccqb (m : MethodId) (x0 : Addr) (x2 : Int32) : entryFrame m #[(.ref x0), (.int 0), (.int x2)] 5 = mkF m 0 #[.val (.ref x0), .val (.int 0), .val (.int x2), .unset, .unset] [] := by first | (simp [entryFrame, mkF, argsToLocals, Value.category, maxLocals]; done) | rfl
theorem ef_ccq (m : MethodId) (x0 : Addr) (x2 : Int32) : entryFrame m #[(.ref x0), (.int 0), (.int x2)] 3 = mkF m 0 #[.val (.ref x0), .val (.int 0), .val (.int x2)] [] := by first | (simp [entryFrame, mkF, argsToLocals, Value.category, maxLocals]; done) | rfl
theorem ef_cia (m : MethodId) (x0 : Addr) (x1 : Addr) : entryFrame m #[(.ref x0), (.ref x1), .null] 5 = mkF m 0 #[.val (.ref x0), .val (.ref x1), .val .null, .unset, .unset] [] := by first | (simp [entryFrame, mkF, argsToLocals, Value.category, maxLocals]; done) | rfl
theorem ef_cib (m : MethodId) (x0 : Addr) (x1 : Addr) : entryFrame m #[(.ref x0), (.ref x1)] 2 = mkF m 0 #[.val (.ref x0), .val (.ref x1)] [] := by first | (simp [entryFrame, mkF, argsToLocals, Value.category, maxLocals]; done) | rfl
theorem ef_cts (m : MethodId) (x0 : Addr) : entryFrame m #[(.ref x0)] 1 = mkF m 0 #[.val (.ref x0)] [] := by first | (simp [entryFrame, mkF, argsToLocals, Value.category, maxLocals]; done) | rfl
theorem ef_cmax (m : MethodId) (x0 : Int32) (x1 : Int32) : entryFrame m #[(.int x0), (.int x1)] 2 = mkF m 0 #[.val (.int x0), .val (.int x1)] [] := by first | (simp [entryFrame, mkF, argsToLocals, Value.category, maxLocals]; done) | rfl
theorem ef_cnlen (m : MethodId)  : entryFrame m #[(.int 16), (.int 4), (.int 18)] 4 = mkF m 0 #[.val (.int 16), .val (.int 4), .val (.int 18), .unset] [] := by first | (simp [entryFrame, mkF, argsToLocals, Value.category, maxLocals]; done) | rfl
theorem ef_cncap (m : MethodId) (x0 : Addr) : entryFrame m #[(.ref x0), (.int 20)] 6 = mkF m 0 #[.val (.ref x0), .val (.int 20), .unset, .unset, .unset, .unset] [] := by first | (simp [entryFrame, mkF, argsToLocals, Value.category, maxLocals]; done) | rfl
theorem ef_ccpo (m : MethodId) (x0 : Addr) : entryFrame m #[(.ref x0), (.int 34)] 3 = mkF m 0 #[.val (.ref x0), .val (.int 34), .unset] [] := by first | (simp [entryFrame, mkF, argsToLocals, Value.category, maxLocals]; done) | rfl
theorem ef_censG (m : MethodId) (x0 : Addr) : entryFrame m #[(.ref x0), (.int 20)] 3 = mkF m 0 #[.val (.ref x0), .val (.int 20), .unset] [] := by first | (simp [entryFrame, mkF, argsToLocals, Value.category, maxLocals]; done) | rfl
theorem ef_caaG (m : MethodId) (x0 : Addr) (x1 : Addr) : entryFrame m #[(.ref x0), (.ref x1)] 3 = mkF m 0 #[.val (.ref x0), .val (.ref x1), .unset] [] := by first | (simp [entryFrame, mkF, argsToLocals, Value.category, maxLocals]; done) | rfl
theorem ef_cabG (m : MethodId) (x0 : Addr) (x1 : Addr) : entryFrame m #[(.ref x0), (.ref x1)] 2 = mkF m 0 #[.val (.ref x0), .val (.ref x1)] [] := by first | (simp [entryFrame, mkF, argsToLocals, Value.category, maxLocals]; done) | rfl
theorem ef_ccqF (m : MethodId) (x0 : Addr) : entryFrame m #[(.ref x0), (.int 0), (.int 16)] 3 = mkF m 0 #[.val (.ref x0), .val (.int 0), .val (.int 16)] [] := by first | (simp [entryFrame, mkF, argsToLocals, Value.category, maxLocals]; done) | rfl
theorem ef_ciaF (m : MethodId) (x0 : Addr) (x1 : Addr) : entryFrame m #[(.ref x0), (.ref x1), .null] 5 = mkF m 0 #[.val (.ref x0), .val (.ref x1), .val .null, .unset, .unset] [] := by first | (simp [entryFrame, mkF, argsToLocals, Value.category, maxLocals]; done) | rfl
theorem ef_cibF (m : MethodId) (x0 : Addr) (x1 : Addr) : entryFrame m #[(.ref x0), (.ref x1)] 2 = mkF m 0 #[.val (.ref x0), .val (.ref x1)] [] := by first | (simp [entryFrame, mkF, argsToLocals, Value.category, maxLocals]; done) | rfl
theorem ef_ctsF (m : MethodId) (x0 : Addr) : entryFrame m #[(.ref x0)] 1 = mkF m 0 #[.val (.ref x0)] [] := by first | (simp [entryFrame, mkF, argsToLocals, Value.category, maxLocals]; done) | rfl
theorem ef_cth1 (m : MethodId) (x0 : Addr) (x1 : Addr) : entryFrame m #[(.ref x0), (.ref x1)] 2 = mkF m 0 #[.val (.ref x0), .val (.ref x1)] [] := by first | (simp [entryFrame, mkF, argsToLocals, Value.category, maxLocals]; done) | rfl
theorem ef_cxc1 (m : MethodId) (x0 : Addr) (x1 : Addr) : entryFrame m #[(.ref x0), (.ref x1)] 2 = mkF m 0 #[.val (.ref x0), .val (.ref x1)] [] := by first | (simp [entryFrame, mkF, argsToLocals, Value.category, maxLocals]; done) | rfl
theorem ef_cux1 (m : MethodId) (x0 : Addr) (x1 : Addr) : entryFrame m #[(.ref x0), (.ref x1)] 2 = mkF m 0 #[.val (.ref x0), .val (.ref x1)] [] := by first | (simp [entryFrame, mkF, argsToLocals, Value.category, maxLocals]; done) | rfl
theorem ef_cunF (m : MethodId) (x0 : Addr) : entryFrame m #[(.ref x0)] 1 = mkF m 0 #[.val (.ref x0)] [] := by first | (simp [entryFrame, mkF, argsToLocals, Value.category, maxLocals]; done) | rfl
theorem ef_cunf (m : MethodId) (x0 : Addr) : entryFrame m #[(.ref x0)] 1 = mkF m 0 #[.val (.ref x0)] [] := by first | (simp [entryFrame, mkF, argsToLocals, Value.category, maxLocals]; done) | rfl
theorem ef_cun0 (m : MethodId) (x0 : Addr) : entryFrame m #[(.ref x0)] 1 = mkF m 0 #[.val (.ref x0)] [] := by first | (simp [entryFrame, mkF, argsToLocals, Value.category, maxLocals]; done) | rfl
theorem ef_cung (m : MethodId) (x0 : Addr) : entryFrame m #[(.ref x0)] 1 = mkF m 0 #[.val (.ref x0)] [] := by first | (simp [entryFrame, mkF, argsToLocals, Value.category, maxLocals]; done) | rfl
theorem ef_cgm (m : MethodId) (x0 : Addr) : entryFrame m #[(.ref x0)] 1 = mkF m 0 #[.val (.ref x0)] [] := by first | (simp [entryFrame, mkF, argsToLocals, Value.category, maxLocals]; done) | rfl
theorem ef_cle (m : MethodId) (x0 : Addr) (x1 : Addr) : entryFrame m #[(.ref x0), (.ref x1)] 3 = mkF m 0 #[.val (.ref x0), .val (.ref x1), .unset] [] := by first | (simp [entryFrame, mkF, argsToLocals, Value.category, maxLocals]; done) | rfl
theorem ef_cse (m : MethodId) (x0 : Addr) (x1 : Addr) : entryFrame m #[(.ref x0), (.ref x1)] 3 = mkF m 0 #[.val (.ref x0), .val (.ref x1), .unset] [] := by first | (simp [entryFrame, mkF, argsToLocals, Value.category, maxLocals]; done) | rfl
theorem ef_law0 (m : MethodId) (x0 : Int32) (x1 : Int32) (x2 : Int32) (x3 : Int32) (x4 : Int32) : entryFrame m #[(.int x0), (.int x1), (.int x2), (.int x3), (.int x4)] maxLocals = mkF m 0 #[.val (.int x0), .val (.int x1), .val (.int x2), .val (.int x3), .val (.int x4), .unset, .unset, .unset, .unset, .unset, .unset, .unset, .unset, .unset] [] := by first | (simp [entryFrame, mkF, argsToLocals, Value.category, maxLocals]; done) | rfl
theorem own_and3 (x : Int32) : x &&& (3 : Int32) = 0 ∨ x &&& (3 : Int32) = 1 ∨ x &&& (3 : Int32) = 2 ∨ x &&& (3 : Int32) = 3 := by
  have h := c_and x 3 (by decide)
  have e0 : (0 : Int32).toInt = 0 := rfl
  have e1 : (1 : Int32).toInt = 1 := rfl
  have e2 : (2 : Int32).toInt = 2 := rfl
  have e3 : (3 : Int32).toInt = 3 := rfl
  simp only [← Int32.toInt_inj]
  omega
theorem own_shr0 (n : Int32) : n >>> ((0 : Int32) &&& 31) = n := by
  have := c_ishr n 0 0 rfl
  apply Int32.toInt_inj.mp
  rw [this]; simp
theorem own_shl0 (n : Int32) : n <<< ((0 : Int32) &&& 31) = n := by
  apply Int32.toBitVec_inj.mp
  simp
theorem own_sub0 (n : Int32) : n - (0 : Int32) = n := by simp
def Cpy (sp dp nn z z' : Int32) (vs vd us out : List Value) : Prop := (¬ sp < 0 ∧ ¬ dp < 0 ∧ ¬ nn < 0) ∧ sp.toNatClampNeg + nn.toNatClampNeg ≤ z.toNatClampNeg ∧ dp.toNatClampNeg + nn.toNatClampNeg ≤ z'.toNatClampNeg ∧ us = ((List.range nn.toNatClampNeg).map fun i => vs.getD (sp.toNatClampNeg + i) (.int 0)) ∧ dp.toNatClampNeg + nn.toNatClampNeg ≤ vd.length ∧ vd.take dp.toNatClampNeg ++ us ++ vd.drop (dp.toNatClampNeg + nn.toNatClampNeg) = out
def Stp (j z : Int32) (vd : List Value) (x : Value) (out : List Value) : Prop := (¬ j < 0 ∧ j < z) ∧ j.toNatClampNeg < vd.length ∧ vd.set j.toNatClampNeg x = out
def Cut (ct cp : Int32) (ds us : List Value) : Prop := (¬ ct < 0 ∧ ct < cp) ∧ ct.toNatClampNeg ≤ 24 ∧ us = ((List.range ct.toNatClampNeg).map fun i => ds.getD ((0 : Int32).toNatClampNeg + i) (.int 0))
theorem own_cutL (ct : Int32) : (0 : Int32).toNatClampNeg + ct.toNatClampNeg ≤ ct.toNatClampNeg := Nat.le_of_eq (Nat.zero_add _)
theorem own_cutA {ct cp : Int32} {ds us : List Value} (h : Cut ct cp ds us) : (0 : Int32).toNatClampNeg + ct.toNatClampNeg ≤ cp.toNatClampNeg := by
  have e : (0 : Int32).toNatClampNeg = 0 := rfl
  have := Int32.lt_iff_toInt_lt.mp h.1.2; simp only [Int32.toNatClampNeg] at *; omega
theorem own_cutB {ct cp : Int32} {ds us : List Value} (h : Cut ct cp ds us) : (0 : Int32).toNatClampNeg + ct.toNatClampNeg ≤ [(.int 0 : Value), .int 0, .int 0, .int 0, .int 0, .int 0, .int 0, .int 0, .int 0, .int 0, .int 0, .int 0, .int 0, .int 0, .int 0, .int 0, .int 0, .int 0, .int 0, .int 0, .int 0, .int 0, .int 0, .int 0].length := by
  have e : (0 : Int32).toNatClampNeg = 0 := rfl
  have e2 : ([(.int 0 : Value), .int 0, .int 0, .int 0, .int 0, .int 0, .int 0, .int 0, .int 0, .int 0, .int 0, .int 0, .int 0, .int 0, .int 0, .int 0, .int 0, .int 0, .int 0, .int 0, .int 0, .int 0, .int 0, .int 0] : List Value).length = 24 := rfl
  have := h.2.1; omega
theorem own_cutN {ct cp : Int32} {ds us : List Value} (h : Cut ct cp ds us) : ¬ (ct = cp) := fun q => by
  have := Int32.lt_iff_toInt_lt.mp h.1.2; rw [q] at this; omega
theorem own_cut {Z : State} {h : Heap} {a : Addr} {c : ClassId} {ty : FieldType} {z : Int32} {us : List Value} {j : Nat} (A : Arv Z h a c ty z ([(.int 0 : Value), .int 0, .int 0, .int 0, .int 0, .int 0, .int 0, .int 0, .int 0, .int 0, .int 0, .int 0, .int 0, .int 0, .int 0, .int 0, .int 0, .int 0, .int 0, .int 0, .int 0, .int 0, .int 0, .int 0].take (0 : Int32).toNatClampNeg ++ us ++ [(.int 0 : Value), .int 0, .int 0, .int 0, .int 0, .int 0, .int 0, .int 0, .int 0, .int 0, .int 0, .int 0, .int 0, .int 0, .int 0, .int 0, .int 0, .int 0, .int 0, .int 0, .int 0, .int 0, .int 0, .int 0].drop j) (.int 0)) : Arv Z h a c ty z us (.int 0) := by
  refine A.pad fun i => ?_
  have e : (([(.int 0 : Value), .int 0, .int 0, .int 0, .int 0, .int 0, .int 0, .int 0, .int 0, .int 0, .int 0, .int 0, .int 0, .int 0, .int 0, .int 0, .int 0, .int 0, .int 0, .int 0, .int 0, .int 0, .int 0, .int 0] : List Value).take (0 : Int32).toNatClampNeg ++ us ++ [(.int 0 : Value), .int 0, .int 0, .int 0, .int 0, .int 0, .int 0, .int 0, .int 0, .int 0, .int 0, .int 0, .int 0, .int 0, .int 0, .int 0, .int 0, .int 0, .int 0, .int 0, .int 0, .int 0, .int 0, .int 0].drop j) = us ++ List.replicate (24 - j) (.int 0) := by
    rw [show ([(.int 0 : Value), .int 0, .int 0, .int 0, .int 0, .int 0, .int 0, .int 0, .int 0, .int 0, .int 0, .int 0, .int 0, .int 0, .int 0, .int 0, .int 0, .int 0, .int 0, .int 0, .int 0, .int 0, .int 0, .int 0] : List Value) = List.replicate 24 (.int 0) from rfl, List.drop_replicate, show (0 : Int32).toNatClampNeg = 0 from rfl, List.take_zero, List.nil_append]
  rw [e]; exact (pad_rep us (.int 0) (24 - j) i).symm
theorem own_lt {x y : Int32} (h : x < y) : x.toInt < y.toInt := Int32.lt_iff_toInt_lt.mp h
def ASC : List Value → List Value → Prop
  | [], [] => True
  | .int c :: ds, b :: bs => ¬ (255 : Int32) < c ∧ b = .int c.toInt8.toInt32 ∧ ASC ds bs
  | _, _ => False
def NB (n : Int32) (ds bs : List Value) : Prop := 1 ≤ n.toInt ∧ n.toInt ≤ 23 ∧ ds.length = n.toNatClampNeg ∧ ASC ds bs
def INT (vs : List Value) : Prop := ∀ v ∈ vs, ∃ c, v = Value.int c
def NV (n : Int32) (vs : List Value) : Prop := 0 ≤ n.toInt ∧ n.toInt ≤ 23 ∧ vs.length = n.toNatClampNeg ∧ INT vs
section
variable {ds bs es vs : List Value} {n kk c : Int32} {r : Nat}
theorem own_an : ASC [] [] := trivial
theorem own_ac (h : ¬ (255 : Int32) < c) (q : ASC ds bs) : ASC (.int c :: ds) (.int c.toInt8.toInt32 :: bs) := ⟨h, rfl, q⟩
theorem own_al (h : ¬ (255 : Int32) < c) (g : c.toInt8.toInt32 = c) (q : ASC ds bs) : ASC (.int c :: ds) (.int c :: bs) := ⟨h, by rw [g], q⟩
theorem own_uf (q : ASC ds bs) : ASC ([(.int 117), (.int 110), (.int 107), (.int 110), (.int 111), (.int 119), (.int 110), (.int 32), (.int 102), (.int 108), (.int 97), (.int 103), (.int 32)] ++ ds) ([(.int 117), (.int 110), (.int 107), (.int 110), (.int 111), (.int 119), (.int 110), (.int 32), (.int 102), (.int 108), (.int 97), (.int 103), (.int 32)] ++ bs) := (own_al (by decide) (by decide) (own_al (by decide) (by decide) (own_al (by decide) (by decide) (own_al (by decide) (by decide) (own_al (by decide) (by decide) (own_al (by decide) (by decide) (own_al (by decide) (by decide) (own_al (by decide) (by decide) (own_al (by decide) (by decide) (own_al (by decide) (by decide) (own_al (by decide) (by decide) (own_al (by decide) (by decide) (own_al (by decide) (by decide) q)))))))))))))
theorem own_ua (q : ASC ds bs) : ASC ([(.int 117), (.int 110), (.int 101), (.int 120), (.int 112), (.int 101), (.int 99), (.int 116), (.int 101), (.int 100), (.int 32), (.int 97), (.int 114), (.int 103), (.int 117), (.int 109), (.int 101), (.int 110), (.int 116), (.int 32)] ++ ds) ([(.int 117), (.int 110), (.int 101), (.int 120), (.int 112), (.int 101), (.int 99), (.int 116), (.int 101), (.int 100), (.int 32), (.int 97), (.int 114), (.int 103), (.int 117), (.int 109), (.int 101), (.int 110), (.int 116), (.int 32)] ++ bs) := (own_al (by decide) (by decide) (own_al (by decide) (by decide) (own_al (by decide) (by decide) (own_al (by decide) (by decide) (own_al (by decide) (by decide) (own_al (by decide) (by decide) (own_al (by decide) (by decide) (own_al (by decide) (by decide) (own_al (by decide) (by decide) (own_al (by decide) (by decide) (own_al (by decide) (by decide) (own_al (by decide) (by decide) (own_al (by decide) (by decide) (own_al (by decide) (by decide) (own_al (by decide) (by decide) (own_al (by decide) (by decide) (own_al (by decide) (by decide) (own_al (by decide) (by decide) (own_al (by decide) (by decide) (own_al (by decide) (by decide) q))))))))))))))))))))
theorem own_at : ∀ {ds bs : List Value}, ASC ds bs → ∀ i, i < ds.length → ∃ c, ds.getD i (.int 0) = .int c ∧ ¬ (255 : Int32) < c ∧ bs.getD i (.int 0) = .int c.toInt8.toInt32
  | [], [], _, i, hi => absurd hi (Nat.not_lt_zero _)
  | .int c :: ds, b :: bs, h, i, hi => by
    obtain ⟨h1, rfl, h3⟩ := h
    cases i with
    | zero => exact ⟨c, rfl, h1, rfl⟩
    | succ i => simpa using own_at h3 i (by simpa using hi)
theorem own_in : INT [] := fun _ h => nomatch h
theorem own_ic (q : INT vs) : INT (.int c :: vs) := fun v h => (List.mem_cons.mp h).elim (fun e => ⟨c, e⟩) (q v)
theorem own_jf (q : INT vs) : INT ([(.int 117), (.int 110), (.int 107), (.int 110), (.int 111), (.int 119), (.int 110), (.int 32), (.int 102), (.int 108), (.int 97), (.int 103), (.int 32)] ++ vs) := (own_ic (own_ic (own_ic (own_ic (own_ic (own_ic (own_ic (own_ic (own_ic (own_ic (own_ic (own_ic (own_ic q)))))))))))))
theorem own_ja (q : INT vs) : INT ([(.int 117), (.int 110), (.int 101), (.int 120), (.int 112), (.int 101), (.int 99), (.int 116), (.int 101), (.int 100), (.int 32), (.int 97), (.int 114), (.int 103), (.int 117), (.int 109), (.int 101), (.int 110), (.int 116), (.int 32)] ++ vs) := (own_ic (own_ic (own_ic (own_ic (own_ic (own_ic (own_ic (own_ic (own_ic (own_ic (own_ic (own_ic (own_ic (own_ic (own_ic (own_ic (own_ic (own_ic (own_ic (own_ic q))))))))))))))))))))
theorem own_it (q : INT vs) (i : Nat) (hi : i < vs.length) : ∃ c, vs.getD i (.int 0) = .int c := by
  obtain ⟨c, h⟩ := q vs[i] (List.getElem_mem hi)
  exact ⟨c, by rw [List.getD_eq_getElem?_getD, List.getElem?_eq_getElem hi]; exact h⟩
theorem own_r0 (h : (0 : Int) ≤ n.toInt) : (n.toInt.toNat : Int) = n.toInt - (0 : Int32).toInt := by have e : (0 : Int32).toInt = 0 := rfl; omega
theorem own_rz (h : ((0 : Nat) : Int) = n.toInt - kk.toInt) : ¬ (kk < n) := fun q => by have := own_lt q; omega
theorem own_rs (h : ((r + 1 : Nat) : Int) = n.toInt - kk.toInt) : kk < n := Int32.lt_iff_toInt_lt.mpr (by omega)
theorem own_rk (h0 : 0 ≤ kk.toInt) (h : ((r + 1 : Nat) : Int) = n.toInt - kk.toInt) (hn : n.toInt ≤ 23) : kk.toNatClampNeg < 23 := by simp only [Int32.toNatClampNeg]; omega
theorem own_rl (h0 : 0 ≤ kk.toInt) (h : ((r + 1 : Nat) : Int) = n.toInt - kk.toInt) : kk.toNatClampNeg < n.toNatClampNeg := by simp only [Int32.toNatClampNeg]; omega
theorem own_rin (h0 : 0 ≤ kk.toInt) (h : ((r + 1 : Nat) : Int) = n.toInt - kk.toInt) : ¬ kk < 0 ∧ kk < n := ⟨fun q => by have := own_lt q; have e : (0 : Int32).toInt = 0 := rfl; omega, own_rs h⟩
theorem own_kk1 (h0 : 0 ≤ kk.toInt) (h : ((r + 1 : Nat) : Int) = n.toInt - kk.toInt) (hn : n.toInt ≤ 23) : (kk + (1 : Int32)).toInt = kk.toInt + 1 := by
  have e : (1 : Int32).toInt = 1 := rfl
  rw [Int32.toInt_add, e, Int.bmod_eq_of_le (by omega) (by omega)]
theorem own_k1 (h0 : 0 ≤ kk.toInt) (h : ((r + 1 : Nat) : Int) = n.toInt - kk.toInt) (hn : n.toInt ≤ 23) : 0 ≤ (kk + (1 : Int32)).toInt := by rw [own_kk1 h0 h hn]; omega
theorem own_r1 (h0 : 0 ≤ kk.toInt) (h : ((r + 1 : Nat) : Int) = n.toInt - kk.toInt) (hn : n.toInt ≤ 23) : (r : Int) = n.toInt - (kk + (1 : Int32)).toInt := by rw [own_kk1 h0 h hn]; omega
theorem own_es (h0 : 0 ≤ kk.toInt) (h : ((r + 1 : Nat) : Int) = n.toInt - kk.toInt) (hn : n.toInt ≤ 23) (hes : ∀ i, i < kk.toNatClampNeg → es.getD i (.int 0) = bs.getD i (.int 0)) (hel : es.length = 23) {v : Value} (hc : bs.getD kk.toNatClampNeg (.int 0) = v) : ∀ i, i < (kk + (1 : Int32)).toNatClampNeg → (es.set kk.toNatClampNeg v).getD i (.int 0) = bs.getD i (.int 0) := fun i hi => by
  have e := own_kk1 h0 h hn
  have hk := own_rk h0 h hn
  by_cases q : kk.toNatClampNeg = i
  · subst q; rw [hc]; simp only [List.getD_eq_getElem?_getD, List.getElem?_set]; simp [hel, hk]
  · have : i < kk.toNatClampNeg := by simp only [Int32.toNatClampNeg, e] at *; omega
    rw [← hes i this]; simp only [List.getD_eq_getElem?_getD, List.getElem?_set_ne q]
theorem own_fin (h : ((0 : Nat) : Int) = n.toInt - kk.toInt) (hes : ∀ i, i < kk.toNatClampNeg → es.getD i (.int 0) = bs.getD i (.int 0)) : ∀ i, i < n.toNatClampNeg → bs.getD i (.int 0) = es.getD i (.int 0) := fun i hi => (hes i (by simp only [Int32.toNatClampNeg] at *; omega)).symm
theorem own_nb0 (h : 1 ≤ n.toInt) : ¬ n < 0 := fun q => by have := own_lt q; have e : (0 : Int32).toInt = 0 := rfl; omega
theorem own_nb12 (h : n.toInt ≤ 23) : n.toNatClampNeg ≤ 23 := by simp only [Int32.toNatClampNeg]; omega
theorem own_nbz (h : 1 ≤ n.toInt) : ¬ (n = (0 : Int32)) := fun q => by rw [q] at h; exact absurd h (by decide)
theorem own_cal (n : Int32) : (((n - n).toUInt32 >>> ((31 : Int32) &&& 31).toUInt32).toInt32).toInt8.toInt32 = 0 := by rw [show n - n = 0 by simp]; decide
end
def B8 (y : Int32) : Prop := 0 ≤ y.toInt ∧ y.toInt ≤ 255
theorem own_small {y : Int32} (h0 : 0 ≤ y.toInt) (h1 : y.toInt ≤ 255) : ∃ n : Nat, n < 256 ∧ y = Int32.ofNat n := by
  refine ⟨y.toInt.toNat, by omega, ?_⟩
  apply Int32.toInt_inj.mp
  rw [Int32.toInt_ofNat_of_lt (by omega)]; omega
theorem own_all : ∀ n : Nat, n < 256 → nar .char (Int32.ofNat n) = Int32.ofNat n ∧ (Int32.ofNat n).toUInt32.toUInt16.toUInt32.toInt32 = Int32.ofNat n ∧ ((Int32.ofNat n).toInt8.toInt32 = 45 → Int32.ofNat n = 45) := by decide +kernel
theorem own_b8 (x : Int32) : B8 ((x &&& (255 : Int32)).toUInt32.toUInt16.toUInt32.toInt32) := by
  have h := c_and x 255 (by decide)
  have e : (255 : Int32).toInt = 255 := rfl
  obtain ⟨n, hn, q⟩ := own_small (y := x &&& (255 : Int32)) (by omega) (by omega)
  rw [q, (own_all n hn).2.1, ← q]; exact ⟨by omega, by omega⟩
theorem own_b8n {y : Int32} (h : B8 y) : nar .char y = y := by
  obtain ⟨n, hn, rfl⟩ := own_small h.1 h.2; exact (own_all n hn).1
theorem own_b8x {y : Int32} (h : B8 y) : ¬ (255 : Int32) < y := fun q => by
  have := Int32.lt_iff_toInt_lt.mp q; have e : (255 : Int32).toInt = 255 := rfl; have := h.2; omega
theorem own_b845 : B8 (45 : Int32) := ⟨by decide, by decide⟩
theorem own_b8q {y : Int32} (h : B8 y) (q : ¬ (y = (45 : Int32))) : ¬ (y.toInt8.toInt32 = (45 : Int32)) := fun r => by
  obtain ⟨n, hn, rfl⟩ := own_small h.1 h.2; exact q ((own_all n hn).2.2 r)
abbrev CtrK0 (l : Launch) (Z : State) (EL : List (String × Nat)) (h0 : Heap) (y : MethodName) (bytes : ByteArray) (maxL : Nat) (ret : Option FieldType) (ws : List Cond) (rm : Room) (as' : Array Value) (Q : Option Value → Heap → List Loc → Prop) : Prop :=
  MetFree l y (head1 (Cond.code y bytes maxL ret :: ws) rm) (fun a U => a = as' ∧ Z.Warmed39 U.vm ∧ U.heap = h0 ∧ CHv Z EL U.vm h0) (fun _ _ _ s _ => tablesKnown s = true ∧ framesKnown s = true) (fun _ U o U' => ∃ v L, o = .returned v ∧ Q v U'.heap L ∧ CHr Z EL U.vm U.heap U'.vm U'.heap ∧ ReturnedEndW U o U' L rm.cells rm.slots)
theorem enterK0 {l : Launch} {Z : State} {EL : List (String × Nat)} {h0 : Heap} {Q : Option Value → Heap → List Loc → Prop} {y : MethodName} {bytes : ByteArray} {maxL : Nat} {ret : Option FieldType} {ws : List Cond} {rm : Room} {as' : Array Value} (hp : plainFor y = true)
    (H : ∀ (p : Program) (e : Env) (s : State) (m : MethodId) (below : List Frame) (meth : Method) (c : Code) (s₁ : State), p.tables.exec = Jvm.exec → c.code = bytes → c.maxLocals = maxL → Z.Warmed39 (s.setVm s.vm).vm → (s.setVm s.vm).vm.findClass y.cls = some m.cls → meth.name = y.name → meth.sig.returnType = ret → meth.locks = false →
      Stand p l e rm (s.setVm s.vm) m as' below meth c s₁ [] 0 0 → s₁.heap = h0 → s.heap = h0 → s.Since s.vm 0 → CHr Z EL s.vm h0 s.vm h0 → (s.vm.MethodsKnown ∧ s.vm.FramesKnown below) → Go p e below (KKH Z EL s Q rm.cells rm.slots) (s₁.setTop (entryFrame m as' maxL))) : CtrK0 l Z EL h0 y bytes maxL ret ws rm as' Q := by
  refine MetFree.of_bodySF hp hisR ?_
  intro p e s m args below meth c s₁ Bd hml0 hP hK
  obtain ⟨rfl, hZ, hh, hC⟩ := hP
  exact H p e s m below meth c s₁ Bd.exec Bd.bytes hml0 hZ (findClass_of_methodNamed Bd.named) (name_of_methodNamed Bd.named Bd.method).1 Bd.returns Bd.notSynchronized (Stand.of_body Bd) (by rw [← hh, Bd.state]; rfl) hh ((State.WarmedH.refl s).since 0) (CHr.refl hC) ((Stand.of_body Bd).known hK.1 hK.2)
theorem own_fa {Z : State} {a0 : Array Value} (hw : ∀ d ∈ tables_1, d.before a0 Z = true) : ∀ d ∈ fillAtoms "com/example/loopd/loopd/UsageException", d.before a0 Z = true := (own_lc (hw _ (List.mem_of_getElem? (i := 199) rfl)) (own_lc (hw _ (List.mem_of_getElem? (i := 217) rfl)) (own_lc (hw _ (List.mem_of_getElem? (i := 212) rfl)) (own_lc (hw _ (List.mem_of_getElem? (i := 218) rfl)) (own_lc (hw _ (List.mem_of_getElem? (i := 219) rfl)) (own_lc (hw _ (List.mem_of_getElem? (i := 220) rfl)) (own_lc (hw _ (List.mem_of_getElem? (i := 16) rfl)) (own_lc (hw _ (List.mem_of_getElem? (i := 17) rfl)) (own_lc (hw _ (List.mem_of_getElem? (i := 201) rfl)) (own_lc (hw _ (List.mem_of_getElem? (i := 210) rfl)) (own_lc (hw _ (List.mem_of_getElem? (i := 223) rfl)) (own_lc (hw _ (List.mem_of_getElem? (i := 202) rfl)) (own_lc (hw _ (List.mem_of_getElem? (i := 205) rfl)) (own_lc (hw _ (List.mem_of_getElem? (i := 208) rfl)) (own_lc (hw _ (List.mem_of_getElem? (i := 228) rfl)) (own_lc (hw _ (List.mem_of_getElem? (i := 204) rfl)) (own_lc (hw _ (List.mem_of_getElem? (i := 230) rfl)) (own_lc (hw _ (List.mem_of_getElem? (i := 207) rfl)) (own_lc (hw _ (List.mem_of_getElem? (i := 231) rfl)) (own_lc (hw _ (List.mem_of_getElem? (i := 203) rfl)) (own_lc (hw _ (List.mem_of_getElem? (i := 206) rfl)) (own_lc (hw _ (List.mem_of_getElem? (i := 209) rfl)) (own_lc (hw _ (List.mem_of_getElem? (i := 233) rfl)) (own_lc (hw _ (List.mem_of_getElem? (i := 234) rfl)) (own_lc (hw _ (List.mem_of_getElem? (i := 235) rfl)) (own_lc (hw _ (List.mem_of_getElem? (i := 213) rfl)) (own_lc (hw _ (List.mem_of_getElem? (i := 232) rfl)) (own_lc (hw _ (List.mem_of_getElem? (i := 214) rfl)) (own_lc (hw _ (List.mem_of_getElem? (i := 215) rfl)) (own_lc (hw _ (List.mem_of_getElem? (i := 216) rfl)) (own_lc (hw _ (List.mem_of_getElem? (i := 211) rfl)) own_l0)))))))))))))))))))))))))))))))
abbrev xS0 : String := "java/lang/String"
abbrev xS1 : String := "java/lang/AbstractStringBuilder"
abbrev xS2 : String := "java/lang/Throwable"
abbrev xS3 : String := "COMPACT_STRINGS"
abbrev xS4 : String := "java/lang/StringBuilder"
abbrev xS5 : String := "com/example/loopd/loopd/FlagsUnexpectedPinLaw"
abbrev xS6 : String := "ensureCapacityInternal"
abbrev xS7 : String := "[Ljava/lang/StackTraceElement;"
abbrev xS8 : String := "com/example/loopd/loopd/UsageException"
def Q_csi0 (Z : State) (o a : Addr) (ka : ClassId) (h0 : Heap) (vR : Option Value) (hR : Heap) (LR : List Loc) : Prop := ∃ b : Addr, ∃ kb : ClassId, vR = none ∧ Fr Z.heap.size LR ∧ Keep h0 hR [o] ∧ Fld Z hR o xS0 "value" "[B" (.ref b) ∧ Fld Z hR o xS0 "coder" "B" (.int 0) ∧ Arv Z hR b kb .byte (0 : Int32) [] (.int 0)
theorem csi0 (l : Launch) (Z : State) (a0 : Array Value) (hw : ∀ d ∈ tables_1, d.before a0 Z = true) (o a : Addr) (ka : ClassId) (h0 : Heap) (O0 : Ext Z.heap h0) (Eo : Exa Z h0 o xS0) (Fv : Fld Z h0 o xS0 "value" "[B" .null) (Fc : Fld Z h0 o xS0 "coder" "B" (.int 0)) (g_o : Z.heap.size ≤ o) (Va : Arv Z h0 a ka .char (0 : Int32) [] (.int 0)) :
    CtrH l Z consts_1 h0 (⟨xS0, "<init>", "([CIILjava/lang/Void;)V"⟩ : MethodName) k3 6 none [] ({ frames := 1, cells := 4, slots := 8, locals := 12 } : Room) #[(.ref o), (.ref a), (.int 0), (.int 0), .null] (Q_csi0 Z o a ka h0) := by
  refine enterH (plainFor_of_name pn0) ?_
  intro pp ee ss mm below meth cc s₁ hx hby hml hZ hown hnm hret hlk X0 e0 hs0 hS hC
  replace hown : (ss.setVm ss.vm).vm.findClass xS0 = some mm.cls := hown
  have hKd := Nat.zero_le h0.size
  refine Go.cast (congrArg s₁.setTop (ef_csi0 mm o a)) ?_
  have N0 := Fr.nil Z.heap.size
  have KP := Keep.refl h0 [o]
  show Go pp ee below _ (s₁.setTop (mkF mm 0 #[.val (.ref o), .val (.ref a), .val (.int 0), .val (.int 0), .val .null, .unset] []))
  have sf_o : Safe Z consts_1 ss.vm h0 o := own_safeNull hZ.alike Eo Fv
  refine Go.aloadN X0 hx (hb hby d3_0) rfl rfl (q := 1) rfl ?_
  refine Go.initO X0 hx hZ hown (wd15 hw) (wd16 hw) (wd17 hw) e0 (by rw [hml]; rfl) (hb hby d3_1) (by decide) (W := 0) (by exact Nat.le_refl _) (by decide) (q := 4) rfl ?_
  intro T101 X101 e101
  refine Go.iloadN X101 hx (hb hby d3_4) rfl (q := 5) rfl ?_
  refine Go.ifNo X101 hx (hb hby d3_5) (by decide) (q := 8) rfl ?_
  refine Go.aloadN X101 hx (hb hby d3_8) rfl rfl (q := 9) rfl ?_
  refine Go.ldcH X101 hx hZ hown (wd18 hw) (own_wS hw) e101 hS hKd (own_EW hw) (List.mem_of_getElem? (i := 3) rfl) hC (vs := []) (z := (0 : Int32)) ⟨by decide, rfl⟩ (by decide) rfl (hb hby d3_9) (nn := 0) (by decide) (by decide) (by decide) (by decide) (q := 11) rfl ?_
  intro b102 u102 kc102 T102 h102 k102 X102 e102 E102 hS hKd hZ hown B102 C102 F102 V102 hR102
  replace sf_o := hR102.safe Eo.lt sf_o
  replace hC := hC.trans hR102
  replace Eo := Eo.ext E102
  replace Fv := Fv.ext E102
  replace Fc := Fc.ext E102
  replace Va := Va.ext E102
  have OE102 := ext_trans O0 E102
  replace KP := KP.ext E102
  have ne_b102_o := Fld.ne F102 Fv nofun
  have ne_o_u102 := Exa.neArv Eo V102 (wd5 hw)
  refine Go.getF X102 hx hZ hown (host := "") (Or.inl (wd24 hw)) Via.refl e102 F102 (hb hby d3_11) (q := 14) rfl ?_
  intro T103 X103 e103
  refine Go.putF X103 hx hZ hown (host := "") (Or.inl (wd24 hw)) Via.refl e103 Fv Eo (Or.inr ⟨(wd20 hw), rfl, hnm⟩) (wd5 hw) (ty := (.array .byte)) (by decide) rfl rfl (hb hby d3_14) (q := 17) rfl ?_
  intro T104 h104 X104 e104 W104 F104
  have N104 := Fr.snoc X104 N0 g_o
  have hSw := sf_o
  replace sf_o := Safe.wr W104 hSw hC.1 hSw
  replace hC := hC.trans (CHr.wr W104 hSw hC.1)
  replace Eo := Eo.wr W104
  replace Fc := Fc.other W104 (Or.inr (slot_ne (Or.inr (wd21 hw)) (Or.inr (wd20 hw)) (by decide) (t := .byte) (t' := (.array .byte)) (by decide) (by decide)))
  replace B102 := B102.wr W104
  replace C102 := C102.other W104 (Or.inl ne_b102_o)
  replace F102 := F102.other W104 (Or.inl ne_b102_o)
  replace V102 := V102.other W104 (Ne.symm ne_o_u102)
  have OW104 := ext_wr OE102 W104 g_o
  replace hKd := Nat.le_trans hKd (Keep.of_wr W104).1
  replace KP := KP.wr W104 (Or.inl (List.mem_of_getElem? (i := 0) rfl))
  refine Go.aloadN X104 hx (hb hby d3_17) rfl rfl (q := 18) rfl ?_
  refine Go.ldcH X104 hx hZ hown (wd18 hw) (own_wS hw) e104 hS hKd (own_EW hw) (List.mem_of_getElem? (i := 3) rfl) hC (vs := []) (z := (0 : Int32)) ⟨by decide, rfl⟩ (by decide) rfl (hb hby d3_18) (nn := 0) (by decide) (by decide) (by decide) (by decide) (q := 20) rfl ?_
  intro b105 u105 kc105 T105 h105 k105 X105 e105 E105 hS hKd hZ hown B105 C105 F105 V105 hR105
  replace sf_o := hR105.safe Eo.lt sf_o
  replace hC := hC.trans hR105
  replace Eo := Eo.ext E105
  replace Fc := Fc.ext E105
  replace B102 := B102.ext E105
  replace C102 := C102.ext E105
  replace F102 := F102.ext E105
  replace V102 := V102.ext E105
  replace F104 := F104.ext E105
  have OE105 := ext_trans OW104 E105
  replace KP := KP.ext E105
  have ne_o_u105 := Exa.neArv Eo V105 (wd5 hw)
  have ne_b102_u105 := Exa.neArv B102 V105 (wd5 hw)
  refine Go.getF X105 hx hZ hown (host := "") (Or.inl (wd25 hw)) Via.refl e105 C105 (hb hby d3_20) (q := 23) rfl ?_
  intro T106 X106 e106
  refine Go.putF X106 hx hZ hown (host := "") (Or.inl (wd25 hw)) Via.refl e106 Fc Eo (Or.inr ⟨(wd21 hw), rfl, hnm⟩) (wd5 hw) (ty := .byte) (by decide) rfl rfl (hb hby d3_23) (q := 26) rfl ?_
  intro T107 h107 X107 e107 W107 F107
  have N107 := Fr.snoc X107 N104 g_o
  have hSw := sf_o
  replace sf_o := Safe.wr W107 hSw hC.1 hSw
  replace hC := hC.trans (CHr.wr W107 hSw hC.1)
  replace Eo := Eo.wr W107
  replace B102 := B102.wr W107
  replace C102 := C102.other W107 (Or.inl ne_b102_o)
  replace F102 := F102.other W107 (Or.inl ne_b102_o)
  replace V102 := V102.other W107 (Ne.symm ne_o_u102)
  replace F104 := F104.other W107 (Or.inr (slot_ne (Or.inr (wd20 hw)) (Or.inr (wd21 hw)) (by decide) (t := (.array .byte)) (t' := .byte) (by decide) (by decide)))
  replace B105 := B105.wr W107
  replace V105 := V105.other W107 (Ne.symm ne_o_u105)
  have OW107 := ext_wr OE105 W107 g_o
  replace hKd := Nat.le_trans hKd (Keep.of_wr W107).1
  replace KP := KP.wr W107 (Or.inl (List.mem_of_getElem? (i := 0) rfl))
  exact Go.retVH X107 hx hS hKd hs0 hZ (own_EW hw) hC hret hlk (hb hby d3_26) e107 (by decide) (by decide) ⟨u102, kc102, rfl, N107, KP, F104, F107, V102⟩
def Q_csj0 (Z : State) (o a : Addr) (ka : ClassId) (h0 : Heap) (vR : Option Value) (hR : Heap) (LR : List Loc) : Prop := ∃ b : Addr, ∃ kb : ClassId, vR = none ∧ Fr Z.heap.size LR ∧ Keep h0 hR [o] ∧ Fld Z hR o xS0 "value" "[B" (.ref b) ∧ Fld Z hR o xS0 "coder" "B" (.int 0) ∧ Arv Z hR b kb .byte (0 : Int32) [] (.int 0)
theorem csj0 (l : Launch) (Z : State) (a0 : Array Value) (hw : ∀ d ∈ tables_1, d.before a0 Z = true) (o a : Addr) (ka : ClassId) (h0 : Heap) (O0 : Ext Z.heap h0) (Eo : Exa Z h0 o xS0) (Fv : Fld Z h0 o xS0 "value" "[B" .null) (Fc : Fld Z h0 o xS0 "coder" "B" (.int 0)) (g_o : Z.heap.size ≤ o) (Va : Arv Z h0 a ka .char (0 : Int32) [] (.int 0)) :
    CtrH l Z consts_1 h0 (⟨xS0, "<init>", "([C)V"⟩ : MethodName) k2 2 none [] ({ frames := 2, cells := 4, slots := 8, locals := 29 } : Room) #[(.ref o), (.ref a)] (Q_csj0 Z o a ka h0) := by
  refine enterH (plainFor_of_name pn0) ?_
  intro pp ee ss mm below meth cc s₁ hx hby hml hZ hown hnm hret hlk X0 e0 hs0 hS hC
  replace hown : (ss.setVm ss.vm).vm.findClass xS0 = some mm.cls := hown
  have hKd := Nat.zero_le h0.size
  refine Go.cast (congrArg s₁.setTop (ef_csj0 mm o a)) ?_
  have N0 := Fr.nil Z.heap.size
  have KP := Keep.refl h0 [o]
  show Go pp ee below _ (s₁.setTop (mkF mm 0 #[.val (.ref o), .val (.ref a)] []))
  refine Go.aloadN X0 hx (hb hby d2_0) rfl rfl (q := 1) rfl ?_
  refine Go.aloadN X0 hx (hb hby d2_1) rfl rfl (q := 2) rfl ?_
  refine Go.iconst X0 hx (hb hby d2_2) (r := (0 : Int32)) rfl (q := 3) rfl ?_
  refine Go.aloadN X0 hx (hb hby d2_3) rfl rfl (q := 4) rfl ?_
  refine Go.alen X0 hx hZ e0 Va (hb hby d2_4) ?_
  refine Go.aconst_null X0 hx (hb hby d2_5) (q := 6) rfl ?_
  refine Go.initH X0 hx hZ hown hS hKd (own_EW hw) hC rfl (wd11 hw) (wd12 hw) (wd6 hw) (wd14 hw) (by decide) (csi0 l Z a0 hw o a (ka) h0 O0 Eo Fv Fc g_o Va) e0 (by rw [hml]; rfl) (hb hby d2_6) (argsL := [(.ref a), (.int 0), (.int 0), .null]) (rest := []) (lenOf pd0 rfl) rfl rfl (W := 0) (Nat.le_refl _) (by decide) ?_
  intro v101 T101 L101 k101 X101 hS hKd hZ hown hR101 hQ101
  obtain ⟨h101, e101⟩ : ∃ z, T101.heap = z := ⟨_, rfl⟩
  rw [e101] at hQ101 hKd hR101
  obtain ⟨b_101, kb_101, rfl, N101q, K101, P101_0, P101_1, P101_2⟩ := hQ101
  have N101 := Fr.app N0 N101q
  replace hC := hC.trans hR101
  replace Eo := Eo.keep K101
  have OK101 := ext_keep O0 K101 (allS g_o all0)
  replace KP := KP.trans K101 (allS (Or.inl (List.mem_of_getElem? (i := 0) rfl)) all0)
  exact Go.retVH X101 hx hS hKd hs0 hZ (own_EW hw) hC hret hlk (hb hby d2_9) e101 (by decide) (by decide) ⟨b_101, kb_101, rfl, N101, KP, P101_0, P101_1, P101_2⟩
def Q_ccmp (Z : State) (a b : Addr) (n : Int32) (ka kb : ClassId) (ds bs : List Value) (h0 : Heap) (vR : Option Value) (hR : Heap) (LR : List Loc) : Prop := vR = some (.int n) ∧ Fr Z.heap.size LR ∧ Keep h0 hR [b] ∧ Arv Z hR b kb .byte n bs (.int 0)
theorem ccmp (l : Launch) (Z : State) (a0 : Array Value) (hw : ∀ d ∈ tables_1, d.before a0 Z = true) (a b : Addr) (n : Int32) (ka kb : ClassId) (ds bs : List Value) (h0 : Heap) (O0 : Ext Z.heap h0) (Va : Arv Z h0 a ka .char n ds (.int 0)) (Vb : Arv Z h0 b kb .byte n [(.int 0), (.int 0), (.int 0), (.int 0), (.int 0), (.int 0), (.int 0), (.int 0), (.int 0), (.int 0), (.int 0), (.int 0), (.int 0), (.int 0), (.int 0), (.int 0), (.int 0), (.int 0), (.int 0), (.int 0), (.int 0), (.int 0), (.int 0)] (.int 0)) (g_b : Z.heap.size ≤ b) (nab : a ≠ b) (hn : NB n ds bs) :
    Ctr l Z h0 (⟨"java/lang/StringUTF16", "compress", "([CI[BII)I"⟩ : MethodName) k7 7 (some .int) [] ({ frames := 0, cells := 0, slots := 0, locals := 0 } : Room) #[(.ref a), (.int 0), (.ref b), (.int 0), (.int n)] (Q_ccmp Z a b n ka kb ds bs h0) := by
  refine enter (plainFor_of_name pn1) ?_
  intro pp ee ss mm below meth cc s₁ hx hby hml hZ hown hnm hret hlk X0 e0 hs0
  replace hown : ss.vm.findClass "java/lang/StringUTF16" = some mm.cls := hown
  refine Go.cast (congrArg s₁.setTop (ef_ccmp mm a b n)) ?_
  have N0 := Fr.nil Z.heap.size
  have KP := Keep.refl h0 [b]
  show Go pp ee below _ (s₁.setTop (mkF mm 0 #[.val (.ref a), .val (.int 0), .val (.ref b), .val (.int 0), .val (.int n), .unset, .unset] []))
  refine Go.iconst X0 hx (hb hby d7_0) (r := (0 : Int32)) rfl (q := 1) rfl ?_
  refine Go.istore X0 hx (hb hby d7_1) (l' := #[.val (.ref a), .val (.int 0), .val (.ref b), .val (.int 0), .val (.int n), .val (.int 0), .unset]) rfl (q := 3) rfl ?_
  have JL : ∀ (r : Nat) (kk : Int32) (es : List Value) (s6 : Slot) (TJ : State) (hJ : Heap) (LJ : List Loc), (Stand pp l ee ({ frames := 0, cells := 0, slots := 0, locals := 0 } : Room) ss mm #[(.ref a), (.int 0), (.ref b), (.int 0), (.int n)] below meth cc TJ LJ 0 0) → (TJ.heap = hJ) → (Fr Z.heap.size LJ) → (Ext Z.heap hJ) → (Keep h0 hJ [b]) → (Arv Z hJ a ka .char n ds (.int 0)) → (Arv Z hJ b kb .byte n es (.int 0)) → ((r : Int) = n.toInt - kk.toInt) → (0 ≤ kk.toInt) → (∀ i, i < kk.toNatClampNeg → es.getD i (.int 0) = bs.getD i (.int 0)) → (es.length = 23) → (One s6) → Go pp ee below (KK ss (Q_ccmp Z a b n ka kb ds bs h0) ({ frames := 0, cells := 0, slots := 0, locals := 0 } : Room).cells ({ frames := 0, cells := 0, slots := 0, locals := 0 } : Room).slots) (TJ.setTop (mkF mm 3 #[.val (.ref a), .val (.int kk), .val (.ref b), .val (.int kk), .val (.int n), .val (.int kk), s6] [])) := by
    intro r
    induction r with
    | zero =>
      intro kk es s6 TJ hJ LJ XJ eJ NJ OJ KP Va Vb hr hk0 hes hel h6
      refine Go.iload XJ hx (hb hby d7_3) rfl (q := 5) rfl ?_
      refine Go.iload XJ hx (hb hby d7_5) rfl (q := 7) rfl ?_
      refine Go.icmpYes XJ hx (hb hby d7_7) (Jvm.Free.XT.ii_ge_t (own_rz hr)) (q := 44) (by decide) (by decide) ?_
      refine Go.iload XJ hx (hb hby d7_44) rfl (q := 46) rfl ?_
      exact Go.retI XJ hx hret hlk (Or.inl rfl) rfl (hb hby d7_46) eJ (by decide) (by decide) ⟨rfl, NJ, KP, Arv.alt Vb (own_fin hr hes)⟩
    | succ r ih =>
      intro kk es s6 TJ hJ LJ XJ eJ NJ OJ KP Va Vb hr hk0 hes hel h6
      obtain ⟨c, hcc, hc1, hbv⟩ := own_at hn.2.2.2 kk.toNatClampNeg (hn.2.2.1 ▸ own_rl hk0 hr)
      refine Go.iload XJ hx (hb hby d7_3) rfl (q := 5) rfl ?_
      refine Go.iload XJ hx (hb hby d7_5) rfl (q := 7) rfl ?_
      refine Go.icmpNo XJ hx (hb hby d7_7) (Jvm.Free.XT.ii_ge_f (own_rs hr)) (q := 10) rfl ?_
      refine Go.aloadN XJ hx (hb hby d7_10) rfl rfl (q := 11) rfl ?_
      refine Go.iloadN XJ hx (hb hby d7_11) rfl (q := 12) rfl ?_
      refine Go.cal XJ hx hZ eJ Va (own_rin hk0 hr) (v := (.int c)) hcc (hb hby d7_12) ?_
      refine Go.istore XJ hx (hb hby d7_13) (l' := #[.val (.ref a), .val (.int kk), .val (.ref b), .val (.int kk), .val (.int n), .val (.int kk), .val (.int c)]) (XS.store1 rfl h6 rfl) (q := 15) rfl ?_
      refine Go.iload XJ hx (hb hby d7_15) rfl (q := 17) rfl ?_
      refine Go.sipush XJ hx (hb hby d7_17) (r := (255 : Int32)) rfl (q := 20) rfl ?_
      refine Go.icmpYes XJ hx (hb hby d7_20) (Jvm.Free.XT.ii_le_t hc1) (q := 26) (by decide) (by decide) ?_
      refine Go.aloadN XJ hx (hb hby d7_26) rfl rfl (q := 27) rfl ?_
      refine Go.iloadN XJ hx (hb hby d7_27) rfl (q := 28) rfl ?_
      refine Go.iload XJ hx (hb hby d7_28) rfl (q := 30) rfl ?_
      refine Go.i2b XJ hx (hb hby d7_30) rfl (q := 31) rfl ?_
      refine Go.bst XJ hx hZ eJ Vb (own_rin hk0 hr) (i := kk.toNatClampNeg) rfl (by rw [hel]; exact own_rk hk0 hr hn.2.1) (hb hby d7_31) ?_
      intro T101 h101 X101 e101 W101 V101
      rw [bb c] at V101
      replace V101 : Arv Z h101 b kb .byte n (es.set kk.toNatClampNeg (.int (c.toInt8.toInt32))) (.int 0) := V101
      have N101 := Fr.snoc X101 NJ g_b
      replace Va := Va.other W101 nab
      have OW101 := ext_wr OJ W101 g_b
      replace KP := KP.wr W101 (Or.inl (List.mem_of_getElem? (i := 0) rfl))
      refine Go.iinc X101 hx (hb hby d7_32) rfl (r := (kk + (1 : Int32))) rfl (l' := #[.val (.ref a), .val (.int (kk + (1 : Int32))), .val (.ref b), .val (.int kk), .val (.int n), .val (.int kk), .val (.int c)]) rfl (q := 35) rfl ?_
      refine Go.iinc X101 hx (hb hby d7_35) rfl (r := (kk + (1 : Int32))) rfl (l' := #[.val (.ref a), .val (.int (kk + (1 : Int32))), .val (.ref b), .val (.int (kk + (1 : Int32))), .val (.int n), .val (.int kk), .val (.int c)]) rfl (q := 38) rfl ?_
      refine Go.iinc X101 hx (hb hby d7_38) rfl (r := (kk + (1 : Int32))) rfl (l' := #[.val (.ref a), .val (.int (kk + (1 : Int32))), .val (.ref b), .val (.int (kk + (1 : Int32))), .val (.int n), .val (.int (kk + (1 : Int32))), .val (.int c)]) rfl (q := 41) rfl ?_
      refine Go.goto X101 hx (hb hby d7_41) (q := 3) (by decide) (by decide) ?_
      exact ih (kk + (1 : Int32)) (es.set kk.toNatClampNeg (.int (c.toInt8.toInt32))) (.val (.int c)) _ _ _ (X101.more (by decide) (by decide)) e101 N101 OW101 KP Va V101 (own_r1 hk0 hr hn.2.1) (own_k1 hk0 hr hn.2.1) (own_es hk0 hr hn.2.1 hes hel hbv) (by rw [List.length_set]; exact hel) (One.val rfl)
  exact JL n.toInt.toNat (0 : Int32) [(.int 0), (.int 0), (.int 0), (.int 0), (.int 0), (.int 0), (.int 0), (.int 0), (.int 0), (.int 0), (.int 0), (.int 0), (.int 0), (.int 0), (.int 0), (.int 0), (.int 0), (.int 0), (.int 0), (.int 0), (.int 0), (.int 0), (.int 0)] .unset _ _ _ (X0.more (by decide) (by decide)) e0 N0 O0 KP Va Vb (own_r0 (Int.le_trans (by decide) hn.1)) (by decide) (fun i hi => absurd hi (by simp)) rfl One.u
def Q_ccmq (Z : State) (a : Addr) (n : Int32) (ka : ClassId) (ds bs : List Value) (h0 : Heap) (vR : Option Value) (hR : Heap) (LR : List Loc) : Prop := ∃ b : Addr, ∃ kb : ClassId, vR = some (.ref b) ∧ Fr Z.heap.size LR ∧ Keep h0 hR [] ∧ h0.size ≤ b ∧ Arv Z hR b kb .byte n bs (.int 0)
theorem ccmq (l : Launch) (Z : State) (a0 : Array Value) (hw : ∀ d ∈ tables_1, d.before a0 Z = true) (a : Addr) (n : Int32) (ka : ClassId) (ds bs : List Value) (h0 : Heap) (O0 : Ext Z.heap h0) (Va : Arv Z h0 a ka .char n ds (.int 0)) (hn : NB n ds bs) :
    Ctr l Z h0 (⟨"java/lang/StringUTF16", "compress", "([CII)[B"⟩ : MethodName) k6 6 (some (.array .byte)) [] ({ frames := 1, cells := 1, slots := 23, locals := 18 } : Room) #[(.ref a), (.int 0), (.int n)] (Q_ccmq Z a n ka ds bs h0) := by
  refine enter (plainFor_of_name pn1) ?_
  intro pp ee ss mm below meth cc s₁ hx hby hml hZ hown hnm hret hlk X0 e0 hs0
  replace hown : ss.vm.findClass "java/lang/StringUTF16" = some mm.cls := hown
  refine Go.cast (congrArg s₁.setTop (ef_ccmq mm a n)) ?_
  have N0 := Fr.nil Z.heap.size
  have KP := Keep.refl h0 []
  show Go pp ee below _ (s₁.setTop (mkF mm 0 #[.val (.ref a), .val (.int 0), .val (.int n), .unset, .unset, .unset] []))
  refine Go.iloadN X0 hx (hb hby d6_0) rfl (q := 1) rfl ?_
  refine Go.newP X0 hx hZ (hb hby d6_1) (wd19 hw) e0 (own_nb0 hn.1) (cap := 23) (own_nb12 hn.2.1) (by decide) (by decide) (by decide) (ad := "[B") rfl (q := 3) rfl ?_
  intro b101 T101 h101 k101 X101 e101 q101 E101 V101 B101
  have ne_a_b101 : a ≠ b101 := ne_new Va.lt (Nat.le_of_eq q101)
  have g_b101 : Z.heap.size ≤ b101 := Nat.le_trans O0.1 (Nat.le_of_eq q101)
  have z_b101 : h0.size ≤ b101 := Nat.le_trans KP.1 (Nat.le_of_eq q101)
  replace Va := Va.ext E101
  have OE101 := ext_trans O0 E101
  replace KP := KP.ext E101
  replace V101 : Arv Z h101 b101 k101 .byte n [(.int 0), (.int 0), (.int 0), (.int 0), (.int 0), (.int 0), (.int 0), (.int 0), (.int 0), (.int 0), (.int 0), (.int 0), (.int 0), (.int 0), (.int 0), (.int 0), (.int 0), (.int 0), (.int 0), (.int 0), (.int 0), (.int 0), (.int 0)] (.int 0) := V101.pad (pad_rep [] (.int 0) 23)
  refine Go.astoreN X101 hx (hb hby d6_3) rfl (l' := #[.val (.ref a), .val (.int 0), .val (.int n), .val (.ref b101), .unset, .unset]) rfl (q := 4) rfl ?_
  refine Go.aloadN X101 hx (hb hby d6_4) rfl rfl (q := 5) rfl ?_
  refine Go.iloadN X101 hx (hb hby d6_5) rfl (q := 6) rfl ?_
  refine Go.aloadN X101 hx (hb hby d6_6) rfl rfl (q := 7) rfl ?_
  refine Go.iconst X101 hx (hb hby d6_7) (r := (0 : Int32)) rfl (q := 8) rfl ?_
  refine Go.iloadN X101 hx (hb hby d6_8) rfl (q := 9) rfl ?_
  refine Go.callS X101 hx hZ hown (wd34 hw) (wd35 hw) (wd32 hw) (wd36 hw) (by decide) (ccmp l Z a0 hw a b101 n (ka) (k101) (ds) (bs) h101 OE101 Va V101 g_b101 ne_a_b101 hn) e101 (by rw [hml]; rfl) (hb hby d6_9) (argsL := [(.ref a), (.int 0), (.ref b101), (.int 0), (.int n)]) (rest := []) (lenOf pd1 rfl) rfl rfl (W := 0) (Nat.le_refl _) (by decide) ?_
  intro v102 T102 L102 X102 hQ102
  obtain ⟨h102, e102⟩ : ∃ z, T102.heap = z := ⟨_, rfl⟩
  rw [e102] at hQ102
  obtain ⟨rfl, N102q, K102, P102_0⟩ := hQ102
  have N102 := Fr.app N0 N102q
  replace Va := Va.keep K102 (ninS ne_a_b101 nin0)
  replace B101 := B101.keep K102
  have OK102 := ext_keep OE101 K102 (allS g_b101 all0)
  replace KP := KP.trans K102 (allS (Or.inr z_b101) all0)
  refine Go.istore X102 hx (hb hby d6_12) (l' := #[.val (.ref a), .val (.int 0), .val (.int n), .val (.ref b101), .val (.int n), .unset]) rfl (q := 14) rfl ?_
  refine Go.iload X102 hx (hb hby d6_14) rfl (q := 16) rfl ?_
  refine Go.iloadN X102 hx (hb hby d6_16) rfl (q := 17) rfl ?_
  refine Go.icmpYes X102 hx (hb hby d6_17) (Jvm.Free.XT.ii_eq_t rfl) (q := 57) (by decide) (by decide) ?_
  refine Go.aloadN X102 hx (hb hby d6_57) rfl rfl (q := 58) rfl ?_
  exact Go.retA X102 hx hret hlk rfl rfl (hb hby d6_58) e102 (by decide) (by decide) ⟨b101, k101, rfl, N102, KP, z_b101, P102_0⟩
def Q_ccal (Z : State) (b : Addr) (n : Int32) (kb : ClassId) (ds : List Value) (h0 : Heap) (vR : Option Value) (hR : Heap) (LR : List Loc) : Prop := vR = some (.int 0) ∧ Fr Z.heap.size LR ∧ hR = h0
theorem ccal (l : Launch) (Z : State) (a0 : Array Value) (hw : ∀ d ∈ tables_1, d.before a0 Z = true) (b : Addr) (n : Int32) (kb : ClassId) (ds : List Value) (h0 : Heap) (O0 : Ext Z.heap h0) (Vb : Arv Z h0 b kb .byte n ds (.int 0)) :
    Ctr l Z h0 (⟨"java/lang/StringUTF16", "coderFromArrayLen", "([BI)B"⟩ : MethodName) k8 2 (some .byte) [] ({ frames := 0, cells := 0, slots := 0, locals := 0 } : Room) #[(.ref b), (.int n)] (Q_ccal Z b n kb ds h0) := by
  refine enter (plainFor_of_name pn1) ?_
  intro pp ee ss mm below meth cc s₁ hx hby hml hZ hown hnm hret hlk X0 e0 hs0
  replace hown : ss.vm.findClass "java/lang/StringUTF16" = some mm.cls := hown
  refine Go.cast (congrArg s₁.setTop (ef_ccal mm b n)) ?_
  have N0 := Fr.nil Z.heap.size
  show Go pp ee below _ (s₁.setTop (mkF mm 0 #[.val (.ref b), .val (.int n)] []))
  refine Go.iloadN X0 hx (hb hby d8_0) rfl (q := 1) rfl ?_
  refine Go.aloadN X0 hx (hb hby d8_1) rfl rfl (q := 2) rfl ?_
  refine Go.alen X0 hx hZ e0 Vb (hb hby d8_2) ?_
  refine Go.isub X0 hx (hb hby d8_3) rfl (q := 4) rfl ?_
  refine Go.bipush X0 hx (hb hby d8_4) (r := (31 : Int32)) rfl (q := 6) rfl ?_
  refine Go.iushr X0 hx (hb hby d8_6) rfl (q := 7) rfl ?_
  refine Go.i2b X0 hx (hb hby d8_7) rfl (q := 8) rfl ?_
  exact Go.retI X0 hx hret hlk (by simp) (Jvm.Free.XT.narrow_b _) (hb hby d8_8) e0 (by decide) (by decide) ⟨by rw [own_cal n], N0, rfl⟩
def Q_csi (Z : State) (o a : Addr) (n : Int32) (ka : ClassId) (cs : Int32) (ds bs : List Value) (h0 : Heap) (vR : Option Value) (hR : Heap) (LR : List Loc) : Prop := ∃ b : Addr, ∃ kb : ClassId, vR = none ∧ Fr Z.heap.size LR ∧ Keep h0 hR [o] ∧ h0.size ≤ b ∧ Fld Z hR o xS0 "value" "[B" (.ref b) ∧ Fld Z hR o xS0 "coder" "B" (.int 0) ∧ Arv Z hR b kb .byte n bs (.int 0)
theorem csi (l : Launch) (Z : State) (a0 : Array Value) (hw : ∀ d ∈ tables_1, d.before a0 Z = true) (o a : Addr) (n : Int32) (ka : ClassId) (cs : Int32) (ds bs : List Value) (h0 : Heap) (O0 : Ext Z.heap h0) (Eo : Exa Z h0 o xS0) (Fv : Fld Z h0 o xS0 "value" "[B" .null) (Fc : Fld Z h0 o xS0 "coder" "B" (.int 0)) (g_o : Z.heap.size ≤ o) (Va : Arv Z h0 a ka .char n ds (.int 0)) (SCS : Sta Z Z.heap xS0 xS3 "Z" (.int cs)) (hcs : ¬ (cs = (0 : Int32))) (hn : NB n ds bs) :
    Ctr l Z h0 (⟨xS0, "<init>", "([CIILjava/lang/Void;)V"⟩ : MethodName) k3 6 none [] ({ frames := 2, cells := 1, slots := 23, locals := 35 } : Room) #[(.ref o), (.ref a), (.int 0), (.int n), .null] (Q_csi Z o a n ka cs ds bs h0) := by
  refine enter (plainFor_of_name pn0) ?_
  intro pp ee ss mm below meth cc s₁ hx hby hml hZ hown hnm hret hlk X0 e0 hs0
  replace hown : ss.vm.findClass xS0 = some mm.cls := hown
  refine Go.cast (congrArg s₁.setTop (ef_csi mm o a n)) ?_
  have N0 := Fr.nil Z.heap.size
  have KP := Keep.refl h0 [o]
  show Go pp ee below _ (s₁.setTop (mkF mm 0 #[.val (.ref o), .val (.ref a), .val (.int 0), .val (.int n), .val .null, .unset] []))
  refine Go.aloadN X0 hx (hb hby d3_0) rfl rfl (q := 1) rfl ?_
  refine Go.initO X0 hx hZ hown (wd15 hw) (wd16 hw) (wd17 hw) e0 (by rw [hml]; rfl) (hb hby d3_1) (by decide) (W := 0) (by exact Nat.le_refl _) (by decide) (q := 4) rfl ?_
  intro T101 X101 e101
  refine Go.iloadN X101 hx (hb hby d3_4) rfl (q := 5) rfl ?_
  refine Go.ifYes X101 hx (hb hby d3_5) (Jvm.Free.XT.i0_ne_t (own_nbz hn.1)) (q := 27) (by decide) (by decide) ?_
  refine Go.getS X101 hx hZ hown (host := "") (Or.inl (wd29 hw)) Via.refl e101 (SCS.ext O0) (hb hby d3_27) (q := 30) rfl ?_
  intro T102 X102 e102
  refine Go.ifNo X102 hx (hb hby d3_30) (Jvm.Free.XT.i0_eq_f hcs) (q := 33) rfl ?_
  refine Go.aloadN X102 hx (hb hby d3_33) rfl rfl (q := 34) rfl ?_
  refine Go.iloadN X102 hx (hb hby d3_34) rfl (q := 35) rfl ?_
  refine Go.iloadN X102 hx (hb hby d3_35) rfl (q := 36) rfl ?_
  refine Go.callS X102 hx hZ hown (wd30 hw) (wd31 hw) (wd32 hw) (wd33 hw) (by decide) (ccmq l Z a0 hw a n (ka) (ds) (bs) h0 O0 Va hn) e102 (by rw [hml]; rfl) (hb hby d3_36) (argsL := [(.ref a), (.int 0), (.int n)]) (rest := []) (lenOf pd2 rfl) rfl rfl (W := 0) (Nat.le_refl _) (by decide) ?_
  intro v103 T103 L103 X103 hQ103
  obtain ⟨h103, e103⟩ : ∃ z, T103.heap = z := ⟨_, rfl⟩
  rw [e103] at hQ103
  obtain ⟨b_103, kb_103, rfl, N103q, K103, fr103_b, P103_0⟩ := hQ103
  have N103 := Fr.app N0 N103q
  have ne_o_b_103 : o ≠ b_103 := ne_new Eo.lt fr103_b
  have ne_a_b_103 : a ≠ b_103 := ne_new Va.lt fr103_b
  have g_b_103 : Z.heap.size ≤ b_103 := Nat.le_trans O0.1 fr103_b
  have z_b_103 : h0.size ≤ b_103 := Nat.le_trans KP.1 fr103_b
  replace Eo := Eo.keep K103
  replace Fv := Fv.keep K103 nin0
  replace Fc := Fc.keep K103 nin0
  replace Va := Va.keep K103 nin0
  have OK103 := ext_keep O0 K103 all0
  replace KP := KP.trans K103 all0
  refine Go.astore X103 hx (hb hby d3_39) rfl (l' := #[.val (.ref o), .val (.ref a), .val (.int 0), .val (.int n), .val .null, .val (.ref b_103)]) rfl (q := 41) rfl ?_
  refine Go.aloadN X103 hx (hb hby d3_41) rfl rfl (q := 42) rfl ?_
  refine Go.aload X103 hx (hb hby d3_42) rfl rfl (q := 44) rfl ?_
  refine Go.iloadN X103 hx (hb hby d3_44) rfl (q := 45) rfl ?_
  refine Go.callS X103 hx hZ hown (wd37 hw) (wd38 hw) (wd32 hw) (wd39 hw) (by decide) (ccal l Z a0 hw b_103 n (kb_103) (bs) h103 OK103 P103_0) e103 (by rw [hml]; rfl) (hb hby d3_45) (argsL := [(.ref b_103), (.int n)]) (rest := [(.ref o)]) (lenOf pd3 rfl) rfl rfl (W := 1) (Nat.le_refl _) (by decide) ?_
  intro v104 T104 L104 X104 hQ104
  obtain ⟨rfl, N104q, e104⟩ := hQ104
  have N104 := Fr.app N103 N104q
  refine Go.putF X104 hx hZ hown (host := "") (Or.inl (wd25 hw)) Via.refl e104 Fc Eo (Or.inr ⟨(wd21 hw), rfl, hnm⟩) (wd5 hw) (ty := .byte) (by decide) rfl rfl (hb hby d3_48) (q := 51) rfl ?_
  intro T105 h105 X105 e105 W105 F105
  have N105 := Fr.snoc X105 N104 g_o
  replace Eo := Eo.wr W105
  replace Fv := Fv.other W105 (Or.inr (slot_ne (Or.inr (wd20 hw)) (Or.inr (wd21 hw)) (by decide) (t := (.array .byte)) (t' := .byte) (by decide) (by decide)))
  replace P103_0 := P103_0.other W105 (Ne.symm ne_o_b_103)
  have OW105 := ext_wr OK103 W105 g_o
  replace KP := KP.wr W105 (Or.inl (List.mem_of_getElem? (i := 0) rfl))
  refine Go.aloadN X105 hx (hb hby d3_51) rfl rfl (q := 52) rfl ?_
  refine Go.aload X105 hx (hb hby d3_52) rfl rfl (q := 54) rfl ?_
  refine Go.putF X105 hx hZ hown (host := "") (Or.inl (wd24 hw)) Via.refl e105 Fv Eo (Or.inr ⟨(wd20 hw), rfl, hnm⟩) (wd5 hw) (ty := (.array .byte)) (by decide) rfl rfl (hb hby d3_54) (q := 57) rfl ?_
  intro T106 h106 X106 e106 W106 F106
  have N106 := Fr.snoc X106 N105 g_o
  replace Eo := Eo.wr W106
  replace P103_0 := P103_0.other W106 (Ne.symm ne_o_b_103)
  replace F105 := F105.other W106 (Or.inr (slot_ne (Or.inr (wd21 hw)) (Or.inr (wd20 hw)) (by decide) (t := .byte) (t' := (.array .byte)) (by decide) (by decide)))
  have OW106 := ext_wr OW105 W106 g_o
  replace KP := KP.wr W106 (Or.inl (List.mem_of_getElem? (i := 0) rfl))
  exact Go.retV X106 hx hret hlk (hb hby d3_57) e106 (by decide) (by decide) ⟨b_103, kb_103, rfl, N106, KP, z_b_103, F106, F105, P103_0⟩
def Q_csj (Z : State) (o a : Addr) (n : Int32) (ka : ClassId) (cs : Int32) (ds bs : List Value) (h0 : Heap) (vR : Option Value) (hR : Heap) (LR : List Loc) : Prop := ∃ b : Addr, ∃ kb : ClassId, vR = none ∧ Fr Z.heap.size LR ∧ Keep h0 hR [o] ∧ h0.size ≤ b ∧ Fld Z hR o xS0 "value" "[B" (.ref b) ∧ Fld Z hR o xS0 "coder" "B" (.int 0) ∧ Arv Z hR b kb .byte n bs (.int 0)
theorem csj (l : Launch) (Z : State) (a0 : Array Value) (hw : ∀ d ∈ tables_1, d.before a0 Z = true) (o a : Addr) (n : Int32) (ka : ClassId) (cs : Int32) (ds bs : List Value) (h0 : Heap) (O0 : Ext Z.heap h0) (Eo : Exa Z h0 o xS0) (Fv : Fld Z h0 o xS0 "value" "[B" .null) (Fc : Fld Z h0 o xS0 "coder" "B" (.int 0)) (g_o : Z.heap.size ≤ o) (Va : Arv Z h0 a ka .char n ds (.int 0)) (SCS : Sta Z Z.heap xS0 xS3 "Z" (.int cs)) (hcs : ¬ (cs = (0 : Int32))) (hn : NB n ds bs) :
    Ctr l Z h0 (⟨xS0, "<init>", "([C)V"⟩ : MethodName) k2 2 none [] ({ frames := 3, cells := 1, slots := 23, locals := 52 } : Room) #[(.ref o), (.ref a)] (Q_csj Z o a n ka cs ds bs h0) := by
  refine enter (plainFor_of_name pn0) ?_
  intro pp ee ss mm below meth cc s₁ hx hby hml hZ hown hnm hret hlk X0 e0 hs0
  replace hown : ss.vm.findClass xS0 = some mm.cls := hown
  refine Go.cast (congrArg s₁.setTop (ef_csj mm o a)) ?_
  have N0 := Fr.nil Z.heap.size
  have KP := Keep.refl h0 [o]
  show Go pp ee below _ (s₁.setTop (mkF mm 0 #[.val (.ref o), .val (.ref a)] []))
  refine Go.aloadN X0 hx (hb hby d2_0) rfl rfl (q := 1) rfl ?_
  refine Go.aloadN X0 hx (hb hby d2_1) rfl rfl (q := 2) rfl ?_
  refine Go.iconst X0 hx (hb hby d2_2) (r := (0 : Int32)) rfl (q := 3) rfl ?_
  refine Go.aloadN X0 hx (hb hby d2_3) rfl rfl (q := 4) rfl ?_
  refine Go.alen X0 hx hZ e0 Va (hb hby d2_4) ?_
  refine Go.aconst_null X0 hx (hb hby d2_5) (q := 6) rfl ?_
  refine Go.init X0 hx hZ hown rfl (wd11 hw) (wd12 hw) (wd6 hw) (wd14 hw) (by decide) (csi l Z a0 hw o a n (ka) cs (ds) (bs) h0 O0 Eo Fv Fc g_o Va SCS hcs hn) e0 (by rw [hml]; rfl) (hb hby d2_6) (argsL := [(.ref a), (.int 0), (.int n), .null]) (rest := []) (lenOf pd0 rfl) rfl rfl (W := 0) (Nat.le_refl _) (by decide) ?_
  intro v101 T101 L101 X101 hQ101
  obtain ⟨h101, e101⟩ : ∃ z, T101.heap = z := ⟨_, rfl⟩
  rw [e101] at hQ101
  obtain ⟨b_101, kb_101, rfl, N101q, K101, fr101_b, P101_0, P101_1, P101_2⟩ := hQ101
  have N101 := Fr.app N0 N101q
  have ne_o_b_101 : o ≠ b_101 := ne_new Eo.lt fr101_b
  have ne_a_b_101 : a ≠ b_101 := ne_new Va.lt fr101_b
  have g_b_101 : Z.heap.size ≤ b_101 := Nat.le_trans O0.1 fr101_b
  have z_b_101 : h0.size ≤ b_101 := Nat.le_trans KP.1 fr101_b
  replace Eo := Eo.keep K101
  have OK101 := ext_keep O0 K101 (allS g_o all0)
  replace KP := KP.trans K101 (allS (Or.inl (List.mem_of_getElem? (i := 0) rfl)) all0)
  exact Go.retV X101 hx hret hlk (hb hby d2_9) e101 (by decide) (by decide) ⟨b_101, kb_101, rfl, N101, KP, z_b_101, P101_0, P101_1, P101_2⟩
def Q_ccoder (Z : State) (o : Addr) (cs : Int32) (h0 : Heap) (vR : Option Value) (hR : Heap) (LR : List Loc) : Prop := vR = some (.int 0) ∧ Fr Z.heap.size LR ∧ hR = h0
theorem ccoder (l : Launch) (Z : State) (a0 : Array Value) (hw : ∀ d ∈ tables_1, d.before a0 Z = true) (o : Addr) (cs : Int32) (h0 : Heap) (O0 : Ext Z.heap h0) (C : Fld Z h0 o xS0 "coder" "B" (.int 0)) (SCS : Sta Z Z.heap xS0 xS3 "Z" (.int cs)) (hcs : ¬ (cs = (0 : Int32))) :
    Ctr l Z h0 (⟨xS0, "coder", "()B"⟩ : MethodName) k13 1 (some .byte) [] ({ frames := 0, cells := 0, slots := 0, locals := 0 } : Room) #[(.ref o)] (Q_ccoder Z o cs h0) := by
  refine enter (plainFor_of_name pn0) ?_
  intro pp ee ss mm below meth cc s₁ hx hby hml hZ hown hnm hret hlk X0 e0 hs0
  replace hown : ss.vm.findClass xS0 = some mm.cls := hown
  refine Go.cast (congrArg s₁.setTop (ef_ccoder mm o)) ?_
  have N0 := Fr.nil Z.heap.size
  show Go pp ee below _ (s₁.setTop (mkF mm 0 #[.val (.ref o)] []))
  refine Go.getS X0 hx hZ hown (host := "") (Or.inl (wd29 hw)) Via.refl e0 (SCS.ext O0) (hb hby d13_0) (q := 3) rfl ?_
  intro T101 X101 e101
  refine Go.ifNo X101 hx (hb hby d13_3) (Jvm.Free.XT.i0_eq_f hcs) (q := 6) rfl ?_
  refine Go.aloadN X101 hx (hb hby d13_6) rfl rfl (q := 7) rfl ?_
  refine Go.getF X101 hx hZ hown (host := "") (Or.inl (wd25 hw)) Via.refl e101 C (hb hby d13_7) (q := 10) rfl ?_
  intro T102 X102 e102
  refine Go.goto X102 hx (hb hby d13_10) (q := 14) (by decide) (by decide) ?_
  exact Go.retI X102 hx hret hlk (by simp) rfl (hb hby d13_14) e102 (by decide) (by decide) ⟨rfl, N0, rfl⟩
def Q_clen (Z : State) (o : Addr) (cs : Int32) (v : Addr) (kv : ClassId) (n : Int32) (vs : List Value) (h0 : Heap) (vR : Option Value) (hR : Heap) (LR : List Loc) : Prop := vR = some (.int n) ∧ Fr Z.heap.size LR ∧ hR = h0
theorem clen (l : Launch) (Z : State) (a0 : Array Value) (hw : ∀ d ∈ tables_1, d.before a0 Z = true) (o : Addr) (cs : Int32) (v : Addr) (kv : ClassId) (n : Int32) (vs : List Value) (h0 : Heap) (O0 : Ext Z.heap h0) (E : Exa Z h0 o xS0) (C : Fld Z h0 o xS0 "coder" "B" (.int 0)) (F : Fld Z h0 o xS0 "value" "[B" (.ref v)) (Va : Arv Z h0 v kv .byte n vs (.int 0)) (SCS : Sta Z Z.heap xS0 xS3 "Z" (.int cs)) (hcs : ¬ (cs = (0 : Int32))) :
    Ctr l Z h0 (⟨xS0, "length", "()I"⟩ : MethodName) k12 1 (some .int) [] ({ frames := 1, cells := 0, slots := 0, locals := 13 } : Room) #[(.ref o)] (Q_clen Z o cs v kv n vs h0) := by
  refine enter (plainFor_of_name pn0) ?_
  intro pp ee ss mm below meth cc s₁ hx hby hml hZ hown hnm hret hlk X0 e0 hs0
  replace hown : ss.vm.findClass xS0 = some mm.cls := hown
  refine Go.cast (congrArg s₁.setTop (ef_clen mm o)) ?_
  have N0 := Fr.nil Z.heap.size
  show Go pp ee below _ (s₁.setTop (mkF mm 0 #[.val (.ref o)] []))
  refine Go.aloadN X0 hx (hb hby d12_0) rfl rfl (q := 1) rfl ?_
  refine Go.getF X0 hx hZ hown (host := "") (Or.inl (wd24 hw)) Via.refl e0 F (hb hby d12_1) (q := 4) rfl ?_
  intro T101 X101 e101
  refine Go.alen X101 hx hZ e101 Va (hb hby d12_4) ?_
  refine Go.aloadN X101 hx (hb hby d12_5) rfl rfl (q := 6) rfl ?_
  refine Go.virt X101 hx hZ hown (wd63 hw) (wd64 hw) (notFace_of_selects (args := #[]) (mvT hZ (wd66 hw))) (wd66 hw) (wd65 hw) (wd6 hw) (wd67 hw) (by decide) (ccoder l Z a0 hw o cs h0 O0 C SCS hcs) e101 E (by rw [hml]; rfl) (hb hby d12_6) (argsL := []) (rest := [(.int n)]) (lenOf pd4 rfl) rfl rfl (W := 1) (Nat.le_refl _) (by decide) ?_
  intro v102 T102 L102 X102 hQ102
  obtain ⟨rfl, N102q, e102⟩ := hQ102
  have N102 := Fr.app N0 N102q
  refine Go.ishr X102 hx (hb hby d12_9) rfl (q := 10) rfl ?_
  exact Go.retI X102 hx hret hlk (Or.inl rfl) rfl (hb hby d12_10) e102 (by decide) (by decide) ⟨by rw [own_shr0], N102, rfl⟩
def Q_cmw0 (Z : State) (c0 c1 c2 : Int32) (h0 : Heap) (vR : Option Value) (hR : Heap) (LR : List Loc) : Prop := ∃ s : Addr, ∃ b : Addr, ∃ kb : ClassId, vR = some (.ref s) ∧ Fr Z.heap.size LR ∧ Keep h0 hR [] ∧ h0.size ≤ s ∧ Exa Z hR s xS0 ∧ Fld Z hR s xS0 "coder" "B" (.int 0) ∧ Fld Z hR s xS0 "value" "[B" (.ref b) ∧ Arv Z hR b kb .byte (0 : Int32) [] (.int 0)
theorem cmw0 (l : Launch) (Z : State) (a0 : Array Value) (hw : ∀ d ∈ tables_1, d.before a0 Z = true) (c0 c1 c2 : Int32) (h0 : Heap) (O0 : Ext Z.heap h0) :
    CtrH l Z consts_1 h0 (⟨xS5, "makeWord", "(ICCC)Ljava/lang/String;"⟩ : MethodName) k1 4 (some (.object xS0)) [] ({ frames := 3, cells := 6, slots := 12, locals := 43 } : Room) #[(.int 0), (.int c0), (.int c1), (.int c2)] (Q_cmw0 Z c0 c1 c2 h0) := by
  refine enterH (plainFor_of_name pn2) ?_
  intro pp ee ss mm below meth cc s₁ hx hby hml hZ hown hnm hret hlk X0 e0 hs0 hS hC
  replace hown : (ss.setVm ss.vm).vm.findClass xS5 = some mm.cls := hown
  have hKd := Nat.zero_le h0.size
  refine Go.cast (congrArg s₁.setTop (ef_cmw0 mm c0 c1 c2)) ?_
  have N0 := Fr.nil Z.heap.size
  have KP := Keep.refl h0 []
  show Go pp ee below _ (s₁.setTop (mkF mm 0 #[.val (.int 0), .val (.int c0), .val (.int c1), .val (.int c2)] []))
  refine Go.iloadN X0 hx (hb hby d1_0) rfl (q := 1) rfl ?_
  refine Go.ifNo X0 hx (hb hby d1_1) (by decide) (q := 4) rfl ?_
  refine Go.newO X0 hx hZ hown (wd4 hw) (wd5 hw) (wd6 hw) e0 (hb hby d1_4) (by decide) (by decide) (q := 7) rfl ?_
  intro b101 T101 h101 X101 e101 q101 E101 A101 D101 U101
  have g_b101 : Z.heap.size ≤ b101 := Nat.le_trans O0.1 (Nat.le_of_eq q101)
  have z_b101 : h0.size ≤ b101 := Nat.le_trans KP.1 (Nat.le_of_eq q101)
  replace hC := hC.trans (CHr.ext E101 hC.1)
  have OE101 := ext_trans O0 E101
  replace hKd := Nat.le_trans hKd E101.1
  replace KP := KP.ext E101
  have F101_value : Fld Z h101 b101 xS0 "value" "[B" .null := D101 (Or.inr (wd20 hw)) (ty := (.array .byte)) (by decide)
  have F101_coder : Fld Z h101 b101 xS0 "coder" "B" (.int 0) := D101 (Or.inr (wd21 hw)) (ty := .byte) (by decide)
  clear D101
  refine Go.dup X101 hx (hb hby d1_7) rfl (q := 8) rfl ?_
  refine Go.iconst X101 hx (hb hby d1_8) (r := (0 : Int32)) rfl (q := 9) rfl ?_
  refine Go.newP X101 hx hZ (hb hby d1_9) (wd7 hw) e101 (by decide) (cap := 0) (by decide) (by decide) (by decide) (by decide) (ad := "[C") rfl (q := 11) rfl ?_
  intro b102 T102 h102 k102 X102 e102 q102 E102 V102 B102
  have ne_b101_b102 : b101 ≠ b102 := ne_new A101.lt (Nat.le_of_eq q102)
  have g_b102 : Z.heap.size ≤ b102 := Nat.le_trans OE101.1 (Nat.le_of_eq q102)
  have z_b102 : h0.size ≤ b102 := Nat.le_trans KP.1 (Nat.le_of_eq q102)
  replace hC := hC.trans (CHr.ext E102 hC.1)
  replace A101 := A101.ext E102
  replace F101_value := F101_value.ext E102
  replace F101_coder := F101_coder.ext E102
  have OE102 := ext_trans OE101 E102
  replace hKd := Nat.le_trans hKd E102.1
  replace KP := KP.ext E102
  replace V102 : Arv Z h102 b102 k102 .char (0 : Int32) [] (.int 0) := V102
  refine Go.initH X102 hx hZ hown hS hKd (own_EW hw) hC rfl (wd8 hw) (wd9 hw) (wd6 hw) (wd10 hw) (by decide) (csj0 l Z a0 hw b101 b102 (k102) h102 OE102 A101 F101_value F101_coder g_b101 V102) e102 (by rw [hml]; rfl) (hb hby d1_11) (argsL := [(.ref b102)]) (rest := [(.ref b101)]) (lenOf pd5 rfl) rfl rfl (W := 1) (Nat.le_refl _) (by decide) ?_
  intro v103 T103 L103 k103 X103 hS hKd hZ hown hR103 hQ103
  obtain ⟨h103, e103⟩ : ∃ z, T103.heap = z := ⟨_, rfl⟩
  rw [e103] at hQ103 hKd hR103
  obtain ⟨b_103, kb_103, rfl, N103q, K103, P103_0, P103_1, P103_2⟩ := hQ103
  have N103 := Fr.app N0 N103q
  replace hC := hC.trans hR103
  replace A101 := A101.keep K103
  replace B102 := B102.keep K103
  replace V102 := V102.keep K103 (ninS (Ne.symm ne_b101_b102) nin0)
  have OK103 := ext_keep OE102 K103 (allS g_b101 all0)
  replace KP := KP.trans K103 (allS (Or.inr z_b101) all0)
  exact Go.retAH X103 hx hS hKd hs0 hZ (own_EW hw) hC hret hlk rfl rfl (hb hby d1_14) e103 (by decide) (by decide) ⟨b101, b_103, kb_103, rfl, N103, KP, z_b101, A101, P103_1, P103_0, P103_2⟩
def Q_cmw1 (Z : State) (c0 c1 c2 cs : Int32) (h0 : Heap) (vR : Option Value) (hR : Heap) (LR : List Loc) : Prop := ∃ s : Addr, ∃ b : Addr, ∃ kb : ClassId, vR = some (.ref s) ∧ Fr Z.heap.size LR ∧ Keep h0 hR [] ∧ h0.size ≤ s ∧ h0.size ≤ b ∧ Exa Z hR s xS0 ∧ Fld Z hR s xS0 "coder" "B" (.int 0) ∧ Fld Z hR s xS0 "value" "[B" (.ref b) ∧ Arv Z hR b kb .byte (1 : Int32) [(.int (c0.toInt8.toInt32))] (.int 0)
theorem cmw1 (l : Launch) (Z : State) (a0 : Array Value) (hw : ∀ d ∈ tables_1, d.before a0 Z = true) (c0 c1 c2 cs : Int32) (h0 : Heap) (O0 : Ext Z.heap h0) (SCS : Sta Z Z.heap xS0 xS3 "Z" (.int cs)) (hcs : ¬ (cs = (0 : Int32))) (hn0 : nar .char c0 = c0) (hc0 : ¬ ((255 : Int32) < c0)) :
    Ctr l Z h0 (⟨xS5, "makeWord", "(ICCC)Ljava/lang/String;"⟩ : MethodName) k1 4 (some (.object xS0)) [] ({ frames := 4, cells := 3, slots := 28, locals := 66 } : Room) #[(.int 1), (.int c0), (.int c1), (.int c2)] (Q_cmw1 Z c0 c1 c2 cs h0) := by
  refine enter (plainFor_of_name pn2) ?_
  intro pp ee ss mm below meth cc s₁ hx hby hml hZ hown hnm hret hlk X0 e0 hs0
  replace hown : ss.vm.findClass xS5 = some mm.cls := hown
  refine Go.cast (congrArg s₁.setTop (ef_cmw1 mm c0 c1 c2)) ?_
  have N0 := Fr.nil Z.heap.size
  have KP := Keep.refl h0 []
  show Go pp ee below _ (s₁.setTop (mkF mm 0 #[.val (.int 1), .val (.int c0), .val (.int c1), .val (.int c2)] []))
  refine Go.iloadN X0 hx (hb hby d1_0) rfl (q := 1) rfl ?_
  refine Go.ifYes X0 hx (hb hby d1_1) (by decide) (q := 15) (by decide) (by decide) ?_
  refine Go.iloadN X0 hx (hb hby d1_15) rfl (q := 16) rfl ?_
  refine Go.iconst X0 hx (hb hby d1_16) (r := (1 : Int32)) rfl (q := 17) rfl ?_
  refine Go.icmpNo X0 hx (hb hby d1_17) (by decide) (q := 20) rfl ?_
  refine Go.newO X0 hx hZ hown (wd4 hw) (wd5 hw) (wd6 hw) e0 (hb hby d1_20) (by decide) (by decide) (q := 23) rfl ?_
  intro b101 T101 h101 X101 e101 q101 E101 A101 D101 U101
  have g_b101 : Z.heap.size ≤ b101 := Nat.le_trans O0.1 (Nat.le_of_eq q101)
  have z_b101 : h0.size ≤ b101 := Nat.le_trans KP.1 (Nat.le_of_eq q101)
  have OE101 := ext_trans O0 E101
  replace KP := KP.ext E101
  have F101_value : Fld Z h101 b101 xS0 "value" "[B" .null := D101 (Or.inr (wd20 hw)) (ty := (.array .byte)) (by decide)
  have F101_coder : Fld Z h101 b101 xS0 "coder" "B" (.int 0) := D101 (Or.inr (wd21 hw)) (ty := .byte) (by decide)
  clear D101
  refine Go.dup X101 hx (hb hby d1_23) rfl (q := 24) rfl ?_
  refine Go.iconst X101 hx (hb hby d1_24) (r := (1 : Int32)) rfl (q := 25) rfl ?_
  refine Go.newP X101 hx hZ (hb hby d1_25) (wd7 hw) e101 (by decide) (cap := 1) (by decide) (by decide) (by decide) (by decide) (ad := "[C") rfl (q := 27) rfl ?_
  intro b102 T102 h102 k102 X102 e102 q102 E102 V102 B102
  have ne_b101_b102 : b101 ≠ b102 := ne_new A101.lt (Nat.le_of_eq q102)
  have g_b102 : Z.heap.size ≤ b102 := Nat.le_trans OE101.1 (Nat.le_of_eq q102)
  have z_b102 : h0.size ≤ b102 := Nat.le_trans KP.1 (Nat.le_of_eq q102)
  replace A101 := A101.ext E102
  replace F101_value := F101_value.ext E102
  replace F101_coder := F101_coder.ext E102
  have OE102 := ext_trans OE101 E102
  replace KP := KP.ext E102
  replace V102 : Arv Z h102 b102 k102 .char (1 : Int32) [(.int 0)] (.int 0) := V102.pad (pad_rep [] (.int 0) 1)
  refine Go.dup X102 hx (hb hby d1_27) rfl (q := 28) rfl ?_
  refine Go.iconst X102 hx (hb hby d1_28) (r := (0 : Int32)) rfl (q := 29) rfl ?_
  refine Go.iloadN X102 hx (hb hby d1_29) rfl (q := 30) rfl ?_
  refine Go.cst X102 hx hZ e102 V102 ⟨by decide, by decide⟩ (i := 0) rfl (Nat.le_of_ble_eq_true rfl) (hb hby d1_30) ?_
  intro T103 h103 X103 e103 W103 V103
  rw [hn0] at V103
  replace V103 : Arv Z h103 b102 k102 .char (1 : Int32) [(.int c0)] (.int 0) := V103
  have N103 := Fr.snoc X103 N0 g_b102
  replace A101 := A101.wr W103
  replace F101_value := F101_value.other W103 (Or.inl ne_b101_b102)
  replace F101_coder := F101_coder.other W103 (Or.inl ne_b101_b102)
  replace B102 := B102.wr W103
  have OW103 := ext_wr OE102 W103 g_b102
  replace KP := KP.wr W103 (Or.inr z_b102)
  refine Go.init X103 hx hZ hown rfl (wd8 hw) (wd9 hw) (wd6 hw) (wd10 hw) (by decide) (csj l Z a0 hw b101 b102 ((1 : Int32)) (k102) cs ([(.int c0)]) ([(.int (c0.toInt8.toInt32))]) h103 OW103 A101 F101_value F101_coder g_b101 V103 SCS hcs ⟨by decide, by decide, rfl, (own_ac hc0 own_an)⟩) e103 (by rw [hml]; rfl) (hb hby d1_31) (argsL := [(.ref b102)]) (rest := [(.ref b101)]) (lenOf pd5 rfl) rfl rfl (W := 1) (Nat.le_refl _) (by decide) ?_
  intro v104 T104 L104 X104 hQ104
  obtain ⟨h104, e104⟩ : ∃ z, T104.heap = z := ⟨_, rfl⟩
  rw [e104] at hQ104
  obtain ⟨b_104, kb_104, rfl, N104q, K104, fr104_b, P104_0, P104_1, P104_2⟩ := hQ104
  have N104 := Fr.app N103 N104q
  have ne_b101_b_104 : b101 ≠ b_104 := ne_new A101.lt fr104_b
  have ne_b102_b_104 : b102 ≠ b_104 := ne_new B102.lt fr104_b
  have g_b_104 : Z.heap.size ≤ b_104 := Nat.le_trans OW103.1 fr104_b
  have z_b_104 : h0.size ≤ b_104 := Nat.le_trans KP.1 fr104_b
  replace A101 := A101.keep K104
  replace B102 := B102.keep K104
  replace V103 := V103.keep K104 (ninS (Ne.symm ne_b101_b102) nin0)
  have OK104 := ext_keep OW103 K104 (allS g_b101 all0)
  replace KP := KP.trans K104 (allS (Or.inr z_b101) all0)
  exact Go.retA X104 hx hret hlk rfl rfl (hb hby d1_34) e104 (by decide) (by decide) ⟨b101, b_104, kb_104, rfl, N104, KP, z_b101, z_b_104, A101, P104_1, P104_0, P104_2⟩
def Q_cmw2 (Z : State) (c0 c1 c2 cs : Int32) (h0 : Heap) (vR : Option Value) (hR : Heap) (LR : List Loc) : Prop := ∃ s : Addr, ∃ b : Addr, ∃ kb : ClassId, vR = some (.ref s) ∧ Fr Z.heap.size LR ∧ Keep h0 hR [] ∧ h0.size ≤ s ∧ h0.size ≤ b ∧ Exa Z hR s xS0 ∧ Fld Z hR s xS0 "coder" "B" (.int 0) ∧ Fld Z hR s xS0 "value" "[B" (.ref b) ∧ Arv Z hR b kb .byte (2 : Int32) [(.int (c0.toInt8.toInt32)), (.int (c1.toInt8.toInt32))] (.int 0)
theorem cmw2 (l : Launch) (Z : State) (a0 : Array Value) (hw : ∀ d ∈ tables_1, d.before a0 Z = true) (c0 c1 c2 cs : Int32) (h0 : Heap) (O0 : Ext Z.heap h0) (SCS : Sta Z Z.heap xS0 xS3 "Z" (.int cs)) (hcs : ¬ (cs = (0 : Int32))) (hn0 : nar .char c0 = c0) (hn1 : nar .char c1 = c1) (hc0 : ¬ ((255 : Int32) < c0)) (hc1 : ¬ ((255 : Int32) < c1)) :
    Ctr l Z h0 (⟨xS5, "makeWord", "(ICCC)Ljava/lang/String;"⟩ : MethodName) k1 4 (some (.object xS0)) [] ({ frames := 4, cells := 3, slots := 29, locals := 66 } : Room) #[(.int 2), (.int c0), (.int c1), (.int c2)] (Q_cmw2 Z c0 c1 c2 cs h0) := by
  refine enter (plainFor_of_name pn2) ?_
  intro pp ee ss mm below meth cc s₁ hx hby hml hZ hown hnm hret hlk X0 e0 hs0
  replace hown : ss.vm.findClass xS5 = some mm.cls := hown
  refine Go.cast (congrArg s₁.setTop (ef_cmw2 mm c0 c1 c2)) ?_
  have N0 := Fr.nil Z.heap.size
  have KP := Keep.refl h0 []
  show Go pp ee below _ (s₁.setTop (mkF mm 0 #[.val (.int 2), .val (.int c0), .val (.int c1), .val (.int c2)] []))
  refine Go.iloadN X0 hx (hb hby d1_0) rfl (q := 1) rfl ?_
  refine Go.ifYes X0 hx (hb hby d1_1) (by decide) (q := 15) (by decide) (by decide) ?_
  refine Go.iloadN X0 hx (hb hby d1_15) rfl (q := 16) rfl ?_
  refine Go.iconst X0 hx (hb hby d1_16) (r := (1 : Int32)) rfl (q := 17) rfl ?_
  refine Go.icmpYes X0 hx (hb hby d1_17) (by decide) (q := 35) (by decide) (by decide) ?_
  refine Go.iloadN X0 hx (hb hby d1_35) rfl (q := 36) rfl ?_
  refine Go.iconst X0 hx (hb hby d1_36) (r := (2 : Int32)) rfl (q := 37) rfl ?_
  refine Go.icmpNo X0 hx (hb hby d1_37) (by decide) (q := 40) rfl ?_
  refine Go.newO X0 hx hZ hown (wd4 hw) (wd5 hw) (wd6 hw) e0 (hb hby d1_40) (by decide) (by decide) (q := 43) rfl ?_
  intro b101 T101 h101 X101 e101 q101 E101 A101 D101 U101
  have g_b101 : Z.heap.size ≤ b101 := Nat.le_trans O0.1 (Nat.le_of_eq q101)
  have z_b101 : h0.size ≤ b101 := Nat.le_trans KP.1 (Nat.le_of_eq q101)
  have OE101 := ext_trans O0 E101
  replace KP := KP.ext E101
  have F101_value : Fld Z h101 b101 xS0 "value" "[B" .null := D101 (Or.inr (wd20 hw)) (ty := (.array .byte)) (by decide)
  have F101_coder : Fld Z h101 b101 xS0 "coder" "B" (.int 0) := D101 (Or.inr (wd21 hw)) (ty := .byte) (by decide)
  clear D101
  refine Go.dup X101 hx (hb hby d1_43) rfl (q := 44) rfl ?_
  refine Go.iconst X101 hx (hb hby d1_44) (r := (2 : Int32)) rfl (q := 45) rfl ?_
  refine Go.newP X101 hx hZ (hb hby d1_45) (wd7 hw) e101 (by decide) (cap := 2) (by decide) (by decide) (by decide) (by decide) (ad := "[C") rfl (q := 47) rfl ?_
  intro b102 T102 h102 k102 X102 e102 q102 E102 V102 B102
  have ne_b101_b102 : b101 ≠ b102 := ne_new A101.lt (Nat.le_of_eq q102)
  have g_b102 : Z.heap.size ≤ b102 := Nat.le_trans OE101.1 (Nat.le_of_eq q102)
  have z_b102 : h0.size ≤ b102 := Nat.le_trans KP.1 (Nat.le_of_eq q102)
  replace A101 := A101.ext E102
  replace F101_value := F101_value.ext E102
  replace F101_coder := F101_coder.ext E102
  have OE102 := ext_trans OE101 E102
  replace KP := KP.ext E102
  replace V102 : Arv Z h102 b102 k102 .char (2 : Int32) [(.int 0), (.int 0)] (.int 0) := V102.pad (pad_rep [] (.int 0) 2)
  refine Go.dup X102 hx (hb hby d1_47) rfl (q := 48) rfl ?_
  refine Go.iconst X102 hx (hb hby d1_48) (r := (0 : Int32)) rfl (q := 49) rfl ?_
  refine Go.iloadN X102 hx (hb hby d1_49) rfl (q := 50) rfl ?_
  refine Go.cst X102 hx hZ e102 V102 ⟨by decide, by decide⟩ (i := 0) rfl (Nat.le_of_ble_eq_true rfl) (hb hby d1_50) ?_
  intro T103 h103 X103 e103 W103 V103
  rw [hn0] at V103
  replace V103 : Arv Z h103 b102 k102 .char (2 : Int32) [(.int c0), (.int 0)] (.int 0) := V103
  have N103 := Fr.snoc X103 N0 g_b102
  replace A101 := A101.wr W103
  replace F101_value := F101_value.other W103 (Or.inl ne_b101_b102)
  replace F101_coder := F101_coder.other W103 (Or.inl ne_b101_b102)
  replace B102 := B102.wr W103
  have OW103 := ext_wr OE102 W103 g_b102
  replace KP := KP.wr W103 (Or.inr z_b102)
  refine Go.dup X103 hx (hb hby d1_51) rfl (q := 52) rfl ?_
  refine Go.iconst X103 hx (hb hby d1_52) (r := (1 : Int32)) rfl (q := 53) rfl ?_
  refine Go.iloadN X103 hx (hb hby d1_53) rfl (q := 54) rfl ?_
  refine Go.cst X103 hx hZ e103 V103 ⟨by decide, by decide⟩ (i := 1) rfl (Nat.le_of_ble_eq_true rfl) (hb hby d1_54) ?_
  intro T104 h104 X104 e104 W104 V104
  rw [hn1] at V104
  replace V104 : Arv Z h104 b102 k102 .char (2 : Int32) [(.int c0), (.int c1)] (.int 0) := V104
  have N104 := Fr.snoc X104 N103 g_b102
  replace A101 := A101.wr W104
  replace F101_value := F101_value.other W104 (Or.inl ne_b101_b102)
  replace F101_coder := F101_coder.other W104 (Or.inl ne_b101_b102)
  replace B102 := B102.wr W104
  have OW104 := ext_wr OW103 W104 g_b102
  replace KP := KP.wr W104 (Or.inr z_b102)
  refine Go.init X104 hx hZ hown rfl (wd8 hw) (wd9 hw) (wd6 hw) (wd10 hw) (by decide) (csj l Z a0 hw b101 b102 ((2 : Int32)) (k102) cs ([(.int c0), (.int c1)]) ([(.int (c0.toInt8.toInt32)), (.int (c1.toInt8.toInt32))]) h104 OW104 A101 F101_value F101_coder g_b101 V104 SCS hcs ⟨by decide, by decide, rfl, (own_ac hc0 (own_ac hc1 own_an))⟩) e104 (by rw [hml]; rfl) (hb hby d1_55) (argsL := [(.ref b102)]) (rest := [(.ref b101)]) (lenOf pd5 rfl) rfl rfl (W := 1) (Nat.le_refl _) (by decide) ?_
  intro v105 T105 L105 X105 hQ105
  obtain ⟨h105, e105⟩ : ∃ z, T105.heap = z := ⟨_, rfl⟩
  rw [e105] at hQ105
  obtain ⟨b_105, kb_105, rfl, N105q, K105, fr105_b, P105_0, P105_1, P105_2⟩ := hQ105
  have N105 := Fr.app N104 N105q
  have ne_b101_b_105 : b101 ≠ b_105 := ne_new A101.lt fr105_b
  have ne_b102_b_105 : b102 ≠ b_105 := ne_new B102.lt fr105_b
  have g_b_105 : Z.heap.size ≤ b_105 := Nat.le_trans OW104.1 fr105_b
  have z_b_105 : h0.size ≤ b_105 := Nat.le_trans KP.1 fr105_b
  replace A101 := A101.keep K105
  replace B102 := B102.keep K105
  replace V104 := V104.keep K105 (ninS (Ne.symm ne_b101_b102) nin0)
  have OK105 := ext_keep OW104 K105 (allS g_b101 all0)
  replace KP := KP.trans K105 (allS (Or.inr z_b101) all0)
  exact Go.retA X105 hx hret hlk rfl rfl (hb hby d1_58) e105 (by decide) (by decide) ⟨b101, b_105, kb_105, rfl, N105, KP, z_b101, z_b_105, A101, P105_1, P105_0, P105_2⟩
def Q_cmw3 (Z : State) (c0 c1 c2 cs : Int32) (h0 : Heap) (vR : Option Value) (hR : Heap) (LR : List Loc) : Prop := ∃ s : Addr, ∃ b : Addr, ∃ kb : ClassId, vR = some (.ref s) ∧ Fr Z.heap.size LR ∧ Keep h0 hR [] ∧ h0.size ≤ s ∧ h0.size ≤ b ∧ Exa Z hR s xS0 ∧ Fld Z hR s xS0 "coder" "B" (.int 0) ∧ Fld Z hR s xS0 "value" "[B" (.ref b) ∧ Arv Z hR b kb .byte (3 : Int32) [(.int (c0.toInt8.toInt32)), (.int (c1.toInt8.toInt32)), (.int (c2.toInt8.toInt32))] (.int 0)
theorem cmw3 (l : Launch) (Z : State) (a0 : Array Value) (hw : ∀ d ∈ tables_1, d.before a0 Z = true) (c0 c1 c2 cs : Int32) (h0 : Heap) (O0 : Ext Z.heap h0) (SCS : Sta Z Z.heap xS0 xS3 "Z" (.int cs)) (hcs : ¬ (cs = (0 : Int32))) (hn0 : nar .char c0 = c0) (hn1 : nar .char c1 = c1) (hn2 : nar .char c2 = c2) (hc0 : ¬ ((255 : Int32) < c0)) (hc1 : ¬ ((255 : Int32) < c1)) (hc2 : ¬ ((255 : Int32) < c2)) :
    Ctr l Z h0 (⟨xS5, "makeWord", "(ICCC)Ljava/lang/String;"⟩ : MethodName) k1 4 (some (.object xS0)) [] ({ frames := 4, cells := 3, slots := 30, locals := 66 } : Room) #[(.int 3), (.int c0), (.int c1), (.int c2)] (Q_cmw3 Z c0 c1 c2 cs h0) := by
  refine enter (plainFor_of_name pn2) ?_
  intro pp ee ss mm below meth cc s₁ hx hby hml hZ hown hnm hret hlk X0 e0 hs0
  replace hown : ss.vm.findClass xS5 = some mm.cls := hown
  refine Go.cast (congrArg s₁.setTop (ef_cmw3 mm c0 c1 c2)) ?_
  have N0 := Fr.nil Z.heap.size
  have KP := Keep.refl h0 []
  show Go pp ee below _ (s₁.setTop (mkF mm 0 #[.val (.int 3), .val (.int c0), .val (.int c1), .val (.int c2)] []))
  refine Go.iloadN X0 hx (hb hby d1_0) rfl (q := 1) rfl ?_
  refine Go.ifYes X0 hx (hb hby d1_1) (by decide) (q := 15) (by decide) (by decide) ?_
  refine Go.iloadN X0 hx (hb hby d1_15) rfl (q := 16) rfl ?_
  refine Go.iconst X0 hx (hb hby d1_16) (r := (1 : Int32)) rfl (q := 17) rfl ?_
  refine Go.icmpYes X0 hx (hb hby d1_17) (by decide) (q := 35) (by decide) (by decide) ?_
  refine Go.iloadN X0 hx (hb hby d1_35) rfl (q := 36) rfl ?_
  refine Go.iconst X0 hx (hb hby d1_36) (r := (2 : Int32)) rfl (q := 37) rfl ?_
  refine Go.icmpYes X0 hx (hb hby d1_37) (by decide) (q := 59) (by decide) (by decide) ?_
  refine Go.newO X0 hx hZ hown (wd4 hw) (wd5 hw) (wd6 hw) e0 (hb hby d1_59) (by decide) (by decide) (q := 62) rfl ?_
  intro b101 T101 h101 X101 e101 q101 E101 A101 D101 U101
  have g_b101 : Z.heap.size ≤ b101 := Nat.le_trans O0.1 (Nat.le_of_eq q101)
  have z_b101 : h0.size ≤ b101 := Nat.le_trans KP.1 (Nat.le_of_eq q101)
  have OE101 := ext_trans O0 E101
  replace KP := KP.ext E101
  have F101_value : Fld Z h101 b101 xS0 "value" "[B" .null := D101 (Or.inr (wd20 hw)) (ty := (.array .byte)) (by decide)
  have F101_coder : Fld Z h101 b101 xS0 "coder" "B" (.int 0) := D101 (Or.inr (wd21 hw)) (ty := .byte) (by decide)
  clear D101
  refine Go.dup X101 hx (hb hby d1_62) rfl (q := 63) rfl ?_
  refine Go.iconst X101 hx (hb hby d1_63) (r := (3 : Int32)) rfl (q := 64) rfl ?_
  refine Go.newP X101 hx hZ (hb hby d1_64) (wd7 hw) e101 (by decide) (cap := 3) (by decide) (by decide) (by decide) (by decide) (ad := "[C") rfl (q := 66) rfl ?_
  intro b102 T102 h102 k102 X102 e102 q102 E102 V102 B102
  have ne_b101_b102 : b101 ≠ b102 := ne_new A101.lt (Nat.le_of_eq q102)
  have g_b102 : Z.heap.size ≤ b102 := Nat.le_trans OE101.1 (Nat.le_of_eq q102)
  have z_b102 : h0.size ≤ b102 := Nat.le_trans KP.1 (Nat.le_of_eq q102)
  replace A101 := A101.ext E102
  replace F101_value := F101_value.ext E102
  replace F101_coder := F101_coder.ext E102
  have OE102 := ext_trans OE101 E102
  replace KP := KP.ext E102
  replace V102 : Arv Z h102 b102 k102 .char (3 : Int32) [(.int 0), (.int 0), (.int 0)] (.int 0) := V102.pad (pad_rep [] (.int 0) 3)
  refine Go.dup X102 hx (hb hby d1_66) rfl (q := 67) rfl ?_
  refine Go.iconst X102 hx (hb hby d1_67) (r := (0 : Int32)) rfl (q := 68) rfl ?_
  refine Go.iloadN X102 hx (hb hby d1_68) rfl (q := 69) rfl ?_
  refine Go.cst X102 hx hZ e102 V102 ⟨by decide, by decide⟩ (i := 0) rfl (Nat.le_of_ble_eq_true rfl) (hb hby d1_69) ?_
  intro T103 h103 X103 e103 W103 V103
  rw [hn0] at V103
  replace V103 : Arv Z h103 b102 k102 .char (3 : Int32) [(.int c0), (.int 0), (.int 0)] (.int 0) := V103
  have N103 := Fr.snoc X103 N0 g_b102
  replace A101 := A101.wr W103
  replace F101_value := F101_value.other W103 (Or.inl ne_b101_b102)
  replace F101_coder := F101_coder.other W103 (Or.inl ne_b101_b102)
  replace B102 := B102.wr W103
  have OW103 := ext_wr OE102 W103 g_b102
  replace KP := KP.wr W103 (Or.inr z_b102)
  refine Go.dup X103 hx (hb hby d1_70) rfl (q := 71) rfl ?_
  refine Go.iconst X103 hx (hb hby d1_71) (r := (1 : Int32)) rfl (q := 72) rfl ?_
  refine Go.iloadN X103 hx (hb hby d1_72) rfl (q := 73) rfl ?_
  refine Go.cst X103 hx hZ e103 V103 ⟨by decide, by decide⟩ (i := 1) rfl (Nat.le_of_ble_eq_true rfl) (hb hby d1_73) ?_
  intro T104 h104 X104 e104 W104 V104
  rw [hn1] at V104
  replace V104 : Arv Z h104 b102 k102 .char (3 : Int32) [(.int c0), (.int c1), (.int 0)] (.int 0) := V104
  have N104 := Fr.snoc X104 N103 g_b102
  replace A101 := A101.wr W104
  replace F101_value := F101_value.other W104 (Or.inl ne_b101_b102)
  replace F101_coder := F101_coder.other W104 (Or.inl ne_b101_b102)
  replace B102 := B102.wr W104
  have OW104 := ext_wr OW103 W104 g_b102
  replace KP := KP.wr W104 (Or.inr z_b102)
  refine Go.dup X104 hx (hb hby d1_74) rfl (q := 75) rfl ?_
  refine Go.iconst X104 hx (hb hby d1_75) (r := (2 : Int32)) rfl (q := 76) rfl ?_
  refine Go.iloadN X104 hx (hb hby d1_76) rfl (q := 77) rfl ?_
  refine Go.cst X104 hx hZ e104 V104 ⟨by decide, by decide⟩ (i := 2) rfl (Nat.le_of_ble_eq_true rfl) (hb hby d1_77) ?_
  intro T105 h105 X105 e105 W105 V105
  rw [hn2] at V105
  replace V105 : Arv Z h105 b102 k102 .char (3 : Int32) [(.int c0), (.int c1), (.int c2)] (.int 0) := V105
  have N105 := Fr.snoc X105 N104 g_b102
  replace A101 := A101.wr W105
  replace F101_value := F101_value.other W105 (Or.inl ne_b101_b102)
  replace F101_coder := F101_coder.other W105 (Or.inl ne_b101_b102)
  replace B102 := B102.wr W105
  have OW105 := ext_wr OW104 W105 g_b102
  replace KP := KP.wr W105 (Or.inr z_b102)
  refine Go.init X105 hx hZ hown rfl (wd8 hw) (wd9 hw) (wd6 hw) (wd10 hw) (by decide) (csj l Z a0 hw b101 b102 ((3 : Int32)) (k102) cs ([(.int c0), (.int c1), (.int c2)]) ([(.int (c0.toInt8.toInt32)), (.int (c1.toInt8.toInt32)), (.int (c2.toInt8.toInt32))]) h105 OW105 A101 F101_value F101_coder g_b101 V105 SCS hcs ⟨by decide, by decide, rfl, (own_ac hc0 (own_ac hc1 (own_ac hc2 own_an)))⟩) e105 (by rw [hml]; rfl) (hb hby d1_78) (argsL := [(.ref b102)]) (rest := [(.ref b101)]) (lenOf pd5 rfl) rfl rfl (W := 1) (Nat.le_refl _) (by decide) ?_
  intro v106 T106 L106 X106 hQ106
  obtain ⟨h106, e106⟩ : ∃ z, T106.heap = z := ⟨_, rfl⟩
  rw [e106] at hQ106
  obtain ⟨b_106, kb_106, rfl, N106q, K106, fr106_b, P106_0, P106_1, P106_2⟩ := hQ106
  have N106 := Fr.app N105 N106q
  have ne_b101_b_106 : b101 ≠ b_106 := ne_new A101.lt fr106_b
  have ne_b102_b_106 : b102 ≠ b_106 := ne_new B102.lt fr106_b
  have g_b_106 : Z.heap.size ≤ b_106 := Nat.le_trans OW105.1 fr106_b
  have z_b_106 : h0.size ≤ b_106 := Nat.le_trans KP.1 fr106_b
  replace A101 := A101.keep K106
  replace B102 := B102.keep K106
  replace V105 := V105.keep K106 (ninS (Ne.symm ne_b101_b102) nin0)
  have OK106 := ext_keep OW105 K106 (allS g_b101 all0)
  replace KP := KP.trans K106 (allS (Or.inr z_b101) all0)
  exact Go.retA X106 hx hret hlk rfl rfl (hb hby d1_81) e106 (by decide) (by decide) ⟨b101, b_106, kb_106, rfl, N106, KP, z_b101, z_b_106, A101, P106_1, P106_0, P106_2⟩
def Q_cex11 (Z : State) (c0 c1 c2 cs : Int32) (h0 : Heap) (vR : Option Value) (hR : Heap) (LR : List Loc) : Prop := ∃ s : Addr, ∃ b : Addr, ∃ kb : ClassId, vR = some (.ref s) ∧ Fr Z.heap.size LR ∧ Keep h0 hR [] ∧ h0.size ≤ s ∧ h0.size ≤ b ∧ Exa Z hR s xS0 ∧ Fld Z hR s xS0 "coder" "B" (.int 0) ∧ Fld Z hR s xS0 "value" "[B" (.ref b) ∧ Arv Z hR b kb .byte (14 : Int32) [(.int 117), (.int 110), (.int 107), (.int 110), (.int 111), (.int 119), (.int 110), (.int 32), (.int 102), (.int 108), (.int 97), (.int 103), (.int 32), (.int (c0.toInt8.toInt32))] (.int 0)
theorem cex11 (l : Launch) (Z : State) (a0 : Array Value) (hw : ∀ d ∈ tables_1, d.before a0 Z = true) (c0 c1 c2 cs : Int32) (h0 : Heap) (O0 : Ext Z.heap h0) (SCS : Sta Z Z.heap xS0 xS3 "Z" (.int cs)) (hcs : ¬ (cs = (0 : Int32))) (hn0 : nar .char c0 = c0) (hc0 : ¬ ((255 : Int32) < c0)) :
    Ctr l Z h0 (⟨xS5, "expected", "(ZICCC)Ljava/lang/String;"⟩ : MethodName) k5 5 (some (.object xS0)) [] ({ frames := 4, cells := 3, slots := 41, locals := 66 } : Room) #[(.int 1), (.int 1), (.int c0), (.int c1), (.int c2)] (Q_cex11 Z c0 c1 c2 cs h0) := by
  refine enter (plainFor_of_name pn2) ?_
  intro pp ee ss mm below meth cc s₁ hx hby hml hZ hown hnm hret hlk X0 e0 hs0
  replace hown : ss.vm.findClass xS5 = some mm.cls := hown
  refine Go.cast (congrArg s₁.setTop (ef_cex11 mm c0 c1 c2)) ?_
  have N0 := Fr.nil Z.heap.size
  have KP := Keep.refl h0 []
  show Go pp ee below _ (s₁.setTop (mkF mm 0 #[.val (.int 1), .val (.int 1), .val (.int c0), .val (.int c1), .val (.int c2)] []))
  refine Go.iloadN X0 hx (hb hby d5_0) rfl (q := 1) rfl ?_
  refine Go.ifNo X0 hx (hb hby d5_1) (by decide) (q := 4) rfl ?_
  refine Go.iloadN X0 hx (hb hby d5_4) rfl (q := 5) rfl ?_
  refine Go.iconst X0 hx (hb hby d5_5) (r := (1 : Int32)) rfl (q := 6) rfl ?_
  refine Go.icmpNo X0 hx (hb hby d5_6) (by decide) (q := 9) rfl ?_
  refine Go.newO X0 hx hZ hown (wd4 hw) (wd5 hw) (wd6 hw) e0 (hb hby d5_9) (by decide) (by decide) (q := 12) rfl ?_
  intro b101 T101 h101 X101 e101 q101 E101 A101 D101 U101
  have g_b101 : Z.heap.size ≤ b101 := Nat.le_trans O0.1 (Nat.le_of_eq q101)
  have z_b101 : h0.size ≤ b101 := Nat.le_trans KP.1 (Nat.le_of_eq q101)
  have OE101 := ext_trans O0 E101
  replace KP := KP.ext E101
  have F101_value : Fld Z h101 b101 xS0 "value" "[B" .null := D101 (Or.inr (wd20 hw)) (ty := (.array .byte)) (by decide)
  have F101_coder : Fld Z h101 b101 xS0 "coder" "B" (.int 0) := D101 (Or.inr (wd21 hw)) (ty := .byte) (by decide)
  clear D101
  refine Go.dup X101 hx (hb hby d5_12) rfl (q := 13) rfl ?_
  refine Go.bipush X101 hx (hb hby d5_13) (r := (14 : Int32)) rfl (q := 15) rfl ?_
  refine Go.newP X101 hx hZ (hb hby d5_15) (wd7 hw) e101 (by decide) (cap := 14) (by decide) (by decide) (by decide) (by decide) (ad := "[C") rfl (q := 17) rfl ?_
  intro b102 T102 h102 k102 X102 e102 q102 E102 V102 B102
  have ne_b101_b102 : b101 ≠ b102 := ne_new A101.lt (Nat.le_of_eq q102)
  have g_b102 : Z.heap.size ≤ b102 := Nat.le_trans OE101.1 (Nat.le_of_eq q102)
  have z_b102 : h0.size ≤ b102 := Nat.le_trans KP.1 (Nat.le_of_eq q102)
  replace A101 := A101.ext E102
  replace F101_value := F101_value.ext E102
  replace F101_coder := F101_coder.ext E102
  have OE102 := ext_trans OE101 E102
  replace KP := KP.ext E102
  replace V102 : Arv Z h102 b102 k102 .char (14 : Int32) [(.int 0), (.int 0), (.int 0), (.int 0), (.int 0), (.int 0), (.int 0), (.int 0), (.int 0), (.int 0), (.int 0), (.int 0), (.int 0), (.int 0)] (.int 0) := V102.pad (pad_rep [] (.int 0) 14)
  refine Go.dup X102 hx (hb hby d5_17) rfl (q := 18) rfl ?_
  refine Go.iconst X102 hx (hb hby d5_18) (r := (0 : Int32)) rfl (q := 19) rfl ?_
  refine Go.bipush X102 hx (hb hby d5_19) (r := (117 : Int32)) rfl (q := 21) rfl ?_
  refine Go.cst X102 hx hZ e102 V102 ⟨by decide, by decide⟩ (i := 0) rfl (Nat.le_of_ble_eq_true rfl) (hb hby d5_21) ?_
  intro T103 h103 X103 e103 W103 V103
  replace V103 : Arv Z h103 b102 k102 .char (14 : Int32) [(.int 117), (.int 0), (.int 0), (.int 0), (.int 0), (.int 0), (.int 0), (.int 0), (.int 0), (.int 0), (.int 0), (.int 0), (.int 0), (.int 0)] (.int 0) := V103
  have N103 := Fr.snoc X103 N0 g_b102
  replace A101 := A101.wr W103
  replace F101_value := F101_value.other W103 (Or.inl ne_b101_b102)
  replace F101_coder := F101_coder.other W103 (Or.inl ne_b101_b102)
  replace B102 := B102.wr W103
  have OW103 := ext_wr OE102 W103 g_b102
  replace KP := KP.wr W103 (Or.inr z_b102)
  refine Go.dup X103 hx (hb hby d5_22) rfl (q := 23) rfl ?_
  refine Go.iconst X103 hx (hb hby d5_23) (r := (1 : Int32)) rfl (q := 24) rfl ?_
  refine Go.bipush X103 hx (hb hby d5_24) (r := (110 : Int32)) rfl (q := 26) rfl ?_
  refine Go.cst X103 hx hZ e103 V103 ⟨by decide, by decide⟩ (i := 1) rfl (Nat.le_of_ble_eq_true rfl) (hb hby d5_26) ?_
  intro T104 h104 X104 e104 W104 V104
  replace V104 : Arv Z h104 b102 k102 .char (14 : Int32) [(.int 117), (.int 110), (.int 0), (.int 0), (.int 0), (.int 0), (.int 0), (.int 0), (.int 0), (.int 0), (.int 0), (.int 0), (.int 0), (.int 0)] (.int 0) := V104
  have N104 := Fr.snoc X104 N103 g_b102
  replace A101 := A101.wr W104
  replace F101_value := F101_value.other W104 (Or.inl ne_b101_b102)
  replace F101_coder := F101_coder.other W104 (Or.inl ne_b101_b102)
  replace B102 := B102.wr W104
  have OW104 := ext_wr OW103 W104 g_b102
  replace KP := KP.wr W104 (Or.inr z_b102)
  refine Go.dup X104 hx (hb hby d5_27) rfl (q := 28) rfl ?_
  refine Go.iconst X104 hx (hb hby d5_28) (r := (2 : Int32)) rfl (q := 29) rfl ?_
  refine Go.bipush X104 hx (hb hby d5_29) (r := (107 : Int32)) rfl (q := 31) rfl ?_
  refine Go.cst X104 hx hZ e104 V104 ⟨by decide, by decide⟩ (i := 2) rfl (Nat.le_of_ble_eq_true rfl) (hb hby d5_31) ?_
  intro T105 h105 X105 e105 W105 V105
  replace V105 : Arv Z h105 b102 k102 .char (14 : Int32) [(.int 117), (.int 110), (.int 107), (.int 0), (.int 0), (.int 0), (.int 0), (.int 0), (.int 0), (.int 0), (.int 0), (.int 0), (.int 0), (.int 0)] (.int 0) := V105
  have N105 := Fr.snoc X105 N104 g_b102
  replace A101 := A101.wr W105
  replace F101_value := F101_value.other W105 (Or.inl ne_b101_b102)
  replace F101_coder := F101_coder.other W105 (Or.inl ne_b101_b102)
  replace B102 := B102.wr W105
  have OW105 := ext_wr OW104 W105 g_b102
  replace KP := KP.wr W105 (Or.inr z_b102)
  refine Go.dup X105 hx (hb hby d5_32) rfl (q := 33) rfl ?_
  refine Go.iconst X105 hx (hb hby d5_33) (r := (3 : Int32)) rfl (q := 34) rfl ?_
  refine Go.bipush X105 hx (hb hby d5_34) (r := (110 : Int32)) rfl (q := 36) rfl ?_
  refine Go.cst X105 hx hZ e105 V105 ⟨by decide, by decide⟩ (i := 3) rfl (Nat.le_of_ble_eq_true rfl) (hb hby d5_36) ?_
  intro T106 h106 X106 e106 W106 V106
  replace V106 : Arv Z h106 b102 k102 .char (14 : Int32) [(.int 117), (.int 110), (.int 107), (.int 110), (.int 0), (.int 0), (.int 0), (.int 0), (.int 0), (.int 0), (.int 0), (.int 0), (.int 0), (.int 0)] (.int 0) := V106
  have N106 := Fr.snoc X106 N105 g_b102
  replace A101 := A101.wr W106
  replace F101_value := F101_value.other W106 (Or.inl ne_b101_b102)
  replace F101_coder := F101_coder.other W106 (Or.inl ne_b101_b102)
  replace B102 := B102.wr W106
  have OW106 := ext_wr OW105 W106 g_b102
  replace KP := KP.wr W106 (Or.inr z_b102)
  refine Go.dup X106 hx (hb hby d5_37) rfl (q := 38) rfl ?_
  refine Go.iconst X106 hx (hb hby d5_38) (r := (4 : Int32)) rfl (q := 39) rfl ?_
  refine Go.bipush X106 hx (hb hby d5_39) (r := (111 : Int32)) rfl (q := 41) rfl ?_
  refine Go.cst X106 hx hZ e106 V106 ⟨by decide, by decide⟩ (i := 4) rfl (Nat.le_of_ble_eq_true rfl) (hb hby d5_41) ?_
  intro T107 h107 X107 e107 W107 V107
  replace V107 : Arv Z h107 b102 k102 .char (14 : Int32) [(.int 117), (.int 110), (.int 107), (.int 110), (.int 111), (.int 0), (.int 0), (.int 0), (.int 0), (.int 0), (.int 0), (.int 0), (.int 0), (.int 0)] (.int 0) := V107
  have N107 := Fr.snoc X107 N106 g_b102
  replace A101 := A101.wr W107
  replace F101_value := F101_value.other W107 (Or.inl ne_b101_b102)
  replace F101_coder := F101_coder.other W107 (Or.inl ne_b101_b102)
  replace B102 := B102.wr W107
  have OW107 := ext_wr OW106 W107 g_b102
  replace KP := KP.wr W107 (Or.inr z_b102)
  refine Go.dup X107 hx (hb hby d5_42) rfl (q := 43) rfl ?_
  refine Go.iconst X107 hx (hb hby d5_43) (r := (5 : Int32)) rfl (q := 44) rfl ?_
  refine Go.bipush X107 hx (hb hby d5_44) (r := (119 : Int32)) rfl (q := 46) rfl ?_
  refine Go.cst X107 hx hZ e107 V107 ⟨by decide, by decide⟩ (i := 5) rfl (Nat.le_of_ble_eq_true rfl) (hb hby d5_46) ?_
  intro T108 h108 X108 e108 W108 V108
  replace V108 : Arv Z h108 b102 k102 .char (14 : Int32) [(.int 117), (.int 110), (.int 107), (.int 110), (.int 111), (.int 119), (.int 0), (.int 0), (.int 0), (.int 0), (.int 0), (.int 0), (.int 0), (.int 0)] (.int 0) := V108
  have N108 := Fr.snoc X108 N107 g_b102
  replace A101 := A101.wr W108
  replace F101_value := F101_value.other W108 (Or.inl ne_b101_b102)
  replace F101_coder := F101_coder.other W108 (Or.inl ne_b101_b102)
  replace B102 := B102.wr W108
  have OW108 := ext_wr OW107 W108 g_b102
  replace KP := KP.wr W108 (Or.inr z_b102)
  refine Go.dup X108 hx (hb hby d5_47) rfl (q := 48) rfl ?_
  refine Go.bipush X108 hx (hb hby d5_48) (r := (6 : Int32)) rfl (q := 50) rfl ?_
  refine Go.bipush X108 hx (hb hby d5_50) (r := (110 : Int32)) rfl (q := 52) rfl ?_
  refine Go.cst X108 hx hZ e108 V108 ⟨by decide, by decide⟩ (i := 6) rfl (Nat.le_of_ble_eq_true rfl) (hb hby d5_52) ?_
  intro T109 h109 X109 e109 W109 V109
  replace V109 : Arv Z h109 b102 k102 .char (14 : Int32) [(.int 117), (.int 110), (.int 107), (.int 110), (.int 111), (.int 119), (.int 110), (.int 0), (.int 0), (.int 0), (.int 0), (.int 0), (.int 0), (.int 0)] (.int 0) := V109
  have N109 := Fr.snoc X109 N108 g_b102
  replace A101 := A101.wr W109
  replace F101_value := F101_value.other W109 (Or.inl ne_b101_b102)
  replace F101_coder := F101_coder.other W109 (Or.inl ne_b101_b102)
  replace B102 := B102.wr W109
  have OW109 := ext_wr OW108 W109 g_b102
  replace KP := KP.wr W109 (Or.inr z_b102)
  refine Go.dup X109 hx (hb hby d5_53) rfl (q := 54) rfl ?_
  refine Go.bipush X109 hx (hb hby d5_54) (r := (7 : Int32)) rfl (q := 56) rfl ?_
  refine Go.bipush X109 hx (hb hby d5_56) (r := (32 : Int32)) rfl (q := 58) rfl ?_
  refine Go.cst X109 hx hZ e109 V109 ⟨by decide, by decide⟩ (i := 7) rfl (Nat.le_of_ble_eq_true rfl) (hb hby d5_58) ?_
  intro T110 h110 X110 e110 W110 V110
  replace V110 : Arv Z h110 b102 k102 .char (14 : Int32) [(.int 117), (.int 110), (.int 107), (.int 110), (.int 111), (.int 119), (.int 110), (.int 32), (.int 0), (.int 0), (.int 0), (.int 0), (.int 0), (.int 0)] (.int 0) := V110
  have N110 := Fr.snoc X110 N109 g_b102
  replace A101 := A101.wr W110
  replace F101_value := F101_value.other W110 (Or.inl ne_b101_b102)
  replace F101_coder := F101_coder.other W110 (Or.inl ne_b101_b102)
  replace B102 := B102.wr W110
  have OW110 := ext_wr OW109 W110 g_b102
  replace KP := KP.wr W110 (Or.inr z_b102)
  refine Go.dup X110 hx (hb hby d5_59) rfl (q := 60) rfl ?_
  refine Go.bipush X110 hx (hb hby d5_60) (r := (8 : Int32)) rfl (q := 62) rfl ?_
  refine Go.bipush X110 hx (hb hby d5_62) (r := (102 : Int32)) rfl (q := 64) rfl ?_
  refine Go.cst X110 hx hZ e110 V110 ⟨by decide, by decide⟩ (i := 8) rfl (Nat.le_of_ble_eq_true rfl) (hb hby d5_64) ?_
  intro T111 h111 X111 e111 W111 V111
  replace V111 : Arv Z h111 b102 k102 .char (14 : Int32) [(.int 117), (.int 110), (.int 107), (.int 110), (.int 111), (.int 119), (.int 110), (.int 32), (.int 102), (.int 0), (.int 0), (.int 0), (.int 0), (.int 0)] (.int 0) := V111
  have N111 := Fr.snoc X111 N110 g_b102
  replace A101 := A101.wr W111
  replace F101_value := F101_value.other W111 (Or.inl ne_b101_b102)
  replace F101_coder := F101_coder.other W111 (Or.inl ne_b101_b102)
  replace B102 := B102.wr W111
  have OW111 := ext_wr OW110 W111 g_b102
  replace KP := KP.wr W111 (Or.inr z_b102)
  refine Go.dup X111 hx (hb hby d5_65) rfl (q := 66) rfl ?_
  refine Go.bipush X111 hx (hb hby d5_66) (r := (9 : Int32)) rfl (q := 68) rfl ?_
  refine Go.bipush X111 hx (hb hby d5_68) (r := (108 : Int32)) rfl (q := 70) rfl ?_
  refine Go.cst X111 hx hZ e111 V111 ⟨by decide, by decide⟩ (i := 9) rfl (Nat.le_of_ble_eq_true rfl) (hb hby d5_70) ?_
  intro T112 h112 X112 e112 W112 V112
  replace V112 : Arv Z h112 b102 k102 .char (14 : Int32) [(.int 117), (.int 110), (.int 107), (.int 110), (.int 111), (.int 119), (.int 110), (.int 32), (.int 102), (.int 108), (.int 0), (.int 0), (.int 0), (.int 0)] (.int 0) := V112
  have N112 := Fr.snoc X112 N111 g_b102
  replace A101 := A101.wr W112
  replace F101_value := F101_value.other W112 (Or.inl ne_b101_b102)
  replace F101_coder := F101_coder.other W112 (Or.inl ne_b101_b102)
  replace B102 := B102.wr W112
  have OW112 := ext_wr OW111 W112 g_b102
  replace KP := KP.wr W112 (Or.inr z_b102)
  refine Go.dup X112 hx (hb hby d5_71) rfl (q := 72) rfl ?_
  refine Go.bipush X112 hx (hb hby d5_72) (r := (10 : Int32)) rfl (q := 74) rfl ?_
  refine Go.bipush X112 hx (hb hby d5_74) (r := (97 : Int32)) rfl (q := 76) rfl ?_
  refine Go.cst X112 hx hZ e112 V112 ⟨by decide, by decide⟩ (i := 10) rfl (Nat.le_of_ble_eq_true rfl) (hb hby d5_76) ?_
  intro T113 h113 X113 e113 W113 V113
  replace V113 : Arv Z h113 b102 k102 .char (14 : Int32) [(.int 117), (.int 110), (.int 107), (.int 110), (.int 111), (.int 119), (.int 110), (.int 32), (.int 102), (.int 108), (.int 97), (.int 0), (.int 0), (.int 0)] (.int 0) := V113
  have N113 := Fr.snoc X113 N112 g_b102
  replace A101 := A101.wr W113
  replace F101_value := F101_value.other W113 (Or.inl ne_b101_b102)
  replace F101_coder := F101_coder.other W113 (Or.inl ne_b101_b102)
  replace B102 := B102.wr W113
  have OW113 := ext_wr OW112 W113 g_b102
  replace KP := KP.wr W113 (Or.inr z_b102)
  refine Go.dup X113 hx (hb hby d5_77) rfl (q := 78) rfl ?_
  refine Go.bipush X113 hx (hb hby d5_78) (r := (11 : Int32)) rfl (q := 80) rfl ?_
  refine Go.bipush X113 hx (hb hby d5_80) (r := (103 : Int32)) rfl (q := 82) rfl ?_
  refine Go.cst X113 hx hZ e113 V113 ⟨by decide, by decide⟩ (i := 11) rfl (Nat.le_of_ble_eq_true rfl) (hb hby d5_82) ?_
  intro T114 h114 X114 e114 W114 V114
  replace V114 : Arv Z h114 b102 k102 .char (14 : Int32) [(.int 117), (.int 110), (.int 107), (.int 110), (.int 111), (.int 119), (.int 110), (.int 32), (.int 102), (.int 108), (.int 97), (.int 103), (.int 0), (.int 0)] (.int 0) := V114
  have N114 := Fr.snoc X114 N113 g_b102
  replace A101 := A101.wr W114
  replace F101_value := F101_value.other W114 (Or.inl ne_b101_b102)
  replace F101_coder := F101_coder.other W114 (Or.inl ne_b101_b102)
  replace B102 := B102.wr W114
  have OW114 := ext_wr OW113 W114 g_b102
  replace KP := KP.wr W114 (Or.inr z_b102)
  refine Go.dup X114 hx (hb hby d5_83) rfl (q := 84) rfl ?_
  refine Go.bipush X114 hx (hb hby d5_84) (r := (12 : Int32)) rfl (q := 86) rfl ?_
  refine Go.bipush X114 hx (hb hby d5_86) (r := (32 : Int32)) rfl (q := 88) rfl ?_
  refine Go.cst X114 hx hZ e114 V114 ⟨by decide, by decide⟩ (i := 12) rfl (Nat.le_of_ble_eq_true rfl) (hb hby d5_88) ?_
  intro T115 h115 X115 e115 W115 V115
  replace V115 : Arv Z h115 b102 k102 .char (14 : Int32) [(.int 117), (.int 110), (.int 107), (.int 110), (.int 111), (.int 119), (.int 110), (.int 32), (.int 102), (.int 108), (.int 97), (.int 103), (.int 32), (.int 0)] (.int 0) := V115
  have N115 := Fr.snoc X115 N114 g_b102
  replace A101 := A101.wr W115
  replace F101_value := F101_value.other W115 (Or.inl ne_b101_b102)
  replace F101_coder := F101_coder.other W115 (Or.inl ne_b101_b102)
  replace B102 := B102.wr W115
  have OW115 := ext_wr OW114 W115 g_b102
  replace KP := KP.wr W115 (Or.inr z_b102)
  refine Go.dup X115 hx (hb hby d5_89) rfl (q := 90) rfl ?_
  refine Go.bipush X115 hx (hb hby d5_90) (r := (13 : Int32)) rfl (q := 92) rfl ?_
  refine Go.iloadN X115 hx (hb hby d5_92) rfl (q := 93) rfl ?_
  refine Go.cst X115 hx hZ e115 V115 ⟨by decide, by decide⟩ (i := 13) rfl (Nat.le_of_ble_eq_true rfl) (hb hby d5_93) ?_
  intro T116 h116 X116 e116 W116 V116
  rw [hn0] at V116
  replace V116 : Arv Z h116 b102 k102 .char (14 : Int32) [(.int 117), (.int 110), (.int 107), (.int 110), (.int 111), (.int 119), (.int 110), (.int 32), (.int 102), (.int 108), (.int 97), (.int 103), (.int 32), (.int c0)] (.int 0) := V116
  have N116 := Fr.snoc X116 N115 g_b102
  replace A101 := A101.wr W116
  replace F101_value := F101_value.other W116 (Or.inl ne_b101_b102)
  replace F101_coder := F101_coder.other W116 (Or.inl ne_b101_b102)
  replace B102 := B102.wr W116
  have OW116 := ext_wr OW115 W116 g_b102
  replace KP := KP.wr W116 (Or.inr z_b102)
  refine Go.init X116 hx hZ hown rfl (wd8 hw) (wd9 hw) (wd6 hw) (wd10 hw) (by decide) (csj l Z a0 hw b101 b102 ((14 : Int32)) (k102) cs ([(.int 117), (.int 110), (.int 107), (.int 110), (.int 111), (.int 119), (.int 110), (.int 32), (.int 102), (.int 108), (.int 97), (.int 103), (.int 32), (.int c0)]) ([(.int 117), (.int 110), (.int 107), (.int 110), (.int 111), (.int 119), (.int 110), (.int 32), (.int 102), (.int 108), (.int 97), (.int 103), (.int 32), (.int (c0.toInt8.toInt32))]) h116 OW116 A101 F101_value F101_coder g_b101 V116 SCS hcs ⟨by decide, by decide, rfl, (own_uf (own_ac hc0 own_an))⟩) e116 (by rw [hml]; rfl) (hb hby d5_94) (argsL := [(.ref b102)]) (rest := [(.ref b101)]) (lenOf pd5 rfl) rfl rfl (W := 1) (Nat.le_refl _) (by decide) ?_
  intro v117 T117 L117 X117 hQ117
  obtain ⟨h117, e117⟩ : ∃ z, T117.heap = z := ⟨_, rfl⟩
  rw [e117] at hQ117
  obtain ⟨b_117, kb_117, rfl, N117q, K117, fr117_b, P117_0, P117_1, P117_2⟩ := hQ117
  have N117 := Fr.app N116 N117q
  have ne_b101_b_117 : b101 ≠ b_117 := ne_new A101.lt fr117_b
  have ne_b102_b_117 : b102 ≠ b_117 := ne_new B102.lt fr117_b
  have g_b_117 : Z.heap.size ≤ b_117 := Nat.le_trans OW116.1 fr117_b
  have z_b_117 : h0.size ≤ b_117 := Nat.le_trans KP.1 fr117_b
  replace A101 := A101.keep K117
  replace B102 := B102.keep K117
  replace V116 := V116.keep K117 (ninS (Ne.symm ne_b101_b102) nin0)
  have OK117 := ext_keep OW116 K117 (allS g_b101 all0)
  replace KP := KP.trans K117 (allS (Or.inr z_b101) all0)
  exact Go.retA X117 hx hret hlk rfl rfl (hb hby d5_97) e117 (by decide) (by decide) ⟨b101, b_117, kb_117, rfl, N117, KP, z_b101, z_b_117, A101, P117_1, P117_0, P117_2⟩
def Q_cex12 (Z : State) (c0 c1 c2 cs : Int32) (h0 : Heap) (vR : Option Value) (hR : Heap) (LR : List Loc) : Prop := ∃ s : Addr, ∃ b : Addr, ∃ kb : ClassId, vR = some (.ref s) ∧ Fr Z.heap.size LR ∧ Keep h0 hR [] ∧ h0.size ≤ s ∧ h0.size ≤ b ∧ Exa Z hR s xS0 ∧ Fld Z hR s xS0 "coder" "B" (.int 0) ∧ Fld Z hR s xS0 "value" "[B" (.ref b) ∧ Arv Z hR b kb .byte (15 : Int32) [(.int 117), (.int 110), (.int 107), (.int 110), (.int 111), (.int 119), (.int 110), (.int 32), (.int 102), (.int 108), (.int 97), (.int 103), (.int 32), (.int (c0.toInt8.toInt32)), (.int (c1.toInt8.toInt32))] (.int 0)
theorem cex12 (l : Launch) (Z : State) (a0 : Array Value) (hw : ∀ d ∈ tables_1, d.before a0 Z = true) (c0 c1 c2 cs : Int32) (h0 : Heap) (O0 : Ext Z.heap h0) (SCS : Sta Z Z.heap xS0 xS3 "Z" (.int cs)) (hcs : ¬ (cs = (0 : Int32))) (hn0 : nar .char c0 = c0) (hn1 : nar .char c1 = c1) (hc0 : ¬ ((255 : Int32) < c0)) (hc1 : ¬ ((255 : Int32) < c1)) :
    Ctr l Z h0 (⟨xS5, "expected", "(ZICCC)Ljava/lang/String;"⟩ : MethodName) k5 5 (some (.object xS0)) [] ({ frames := 4, cells := 3, slots := 42, locals := 66 } : Room) #[(.int 1), (.int 2), (.int c0), (.int c1), (.int c2)] (Q_cex12 Z c0 c1 c2 cs h0) := by
  refine enter (plainFor_of_name pn2) ?_
  intro pp ee ss mm below meth cc s₁ hx hby hml hZ hown hnm hret hlk X0 e0 hs0
  replace hown : ss.vm.findClass xS5 = some mm.cls := hown
  refine Go.cast (congrArg s₁.setTop (ef_cex12 mm c0 c1 c2)) ?_
  have N0 := Fr.nil Z.heap.size
  have KP := Keep.refl h0 []
  show Go pp ee below _ (s₁.setTop (mkF mm 0 #[.val (.int 1), .val (.int 2), .val (.int c0), .val (.int c1), .val (.int c2)] []))
  refine Go.iloadN X0 hx (hb hby d5_0) rfl (q := 1) rfl ?_
  refine Go.ifNo X0 hx (hb hby d5_1) (by decide) (q := 4) rfl ?_
  refine Go.iloadN X0 hx (hb hby d5_4) rfl (q := 5) rfl ?_
  refine Go.iconst X0 hx (hb hby d5_5) (r := (1 : Int32)) rfl (q := 6) rfl ?_
  refine Go.icmpYes X0 hx (hb hby d5_6) (by decide) (q := 98) (by decide) (by decide) ?_
  refine Go.iloadN X0 hx (hb hby d5_98) rfl (q := 99) rfl ?_
  refine Go.iconst X0 hx (hb hby d5_99) (r := (2 : Int32)) rfl (q := 100) rfl ?_
  refine Go.icmpNo X0 hx (hb hby d5_100) (by decide) (q := 103) rfl ?_
  refine Go.newO X0 hx hZ hown (wd4 hw) (wd5 hw) (wd6 hw) e0 (hb hby d5_103) (by decide) (by decide) (q := 106) rfl ?_
  intro b101 T101 h101 X101 e101 q101 E101 A101 D101 U101
  have g_b101 : Z.heap.size ≤ b101 := Nat.le_trans O0.1 (Nat.le_of_eq q101)
  have z_b101 : h0.size ≤ b101 := Nat.le_trans KP.1 (Nat.le_of_eq q101)
  have OE101 := ext_trans O0 E101
  replace KP := KP.ext E101
  have F101_value : Fld Z h101 b101 xS0 "value" "[B" .null := D101 (Or.inr (wd20 hw)) (ty := (.array .byte)) (by decide)
  have F101_coder : Fld Z h101 b101 xS0 "coder" "B" (.int 0) := D101 (Or.inr (wd21 hw)) (ty := .byte) (by decide)
  clear D101
  refine Go.dup X101 hx (hb hby d5_106) rfl (q := 107) rfl ?_
  refine Go.bipush X101 hx (hb hby d5_107) (r := (15 : Int32)) rfl (q := 109) rfl ?_
  refine Go.newP X101 hx hZ (hb hby d5_109) (wd7 hw) e101 (by decide) (cap := 15) (by decide) (by decide) (by decide) (by decide) (ad := "[C") rfl (q := 111) rfl ?_
  intro b102 T102 h102 k102 X102 e102 q102 E102 V102 B102
  have ne_b101_b102 : b101 ≠ b102 := ne_new A101.lt (Nat.le_of_eq q102)
  have g_b102 : Z.heap.size ≤ b102 := Nat.le_trans OE101.1 (Nat.le_of_eq q102)
  have z_b102 : h0.size ≤ b102 := Nat.le_trans KP.1 (Nat.le_of_eq q102)
  replace A101 := A101.ext E102
  replace F101_value := F101_value.ext E102
  replace F101_coder := F101_coder.ext E102
  have OE102 := ext_trans OE101 E102
  replace KP := KP.ext E102
  replace V102 : Arv Z h102 b102 k102 .char (15 : Int32) [(.int 0), (.int 0), (.int 0), (.int 0), (.int 0), (.int 0), (.int 0), (.int 0), (.int 0), (.int 0), (.int 0), (.int 0), (.int 0), (.int 0), (.int 0)] (.int 0) := V102.pad (pad_rep [] (.int 0) 15)
  refine Go.dup X102 hx (hb hby d5_111) rfl (q := 112) rfl ?_
  refine Go.iconst X102 hx (hb hby d5_112) (r := (0 : Int32)) rfl (q := 113) rfl ?_
  refine Go.bipush X102 hx (hb hby d5_113) (r := (117 : Int32)) rfl (q := 115) rfl ?_
  refine Go.cst X102 hx hZ e102 V102 ⟨by decide, by decide⟩ (i := 0) rfl (Nat.le_of_ble_eq_true rfl) (hb hby d5_115) ?_
  intro T103 h103 X103 e103 W103 V103
  replace V103 : Arv Z h103 b102 k102 .char (15 : Int32) [(.int 117), (.int 0), (.int 0), (.int 0), (.int 0), (.int 0), (.int 0), (.int 0), (.int 0), (.int 0), (.int 0), (.int 0), (.int 0), (.int 0), (.int 0)] (.int 0) := V103
  have N103 := Fr.snoc X103 N0 g_b102
  replace A101 := A101.wr W103
  replace F101_value := F101_value.other W103 (Or.inl ne_b101_b102)
  replace F101_coder := F101_coder.other W103 (Or.inl ne_b101_b102)
  replace B102 := B102.wr W103
  have OW103 := ext_wr OE102 W103 g_b102
  replace KP := KP.wr W103 (Or.inr z_b102)
  refine Go.dup X103 hx (hb hby d5_116) rfl (q := 117) rfl ?_
  refine Go.iconst X103 hx (hb hby d5_117) (r := (1 : Int32)) rfl (q := 118) rfl ?_
  refine Go.bipush X103 hx (hb hby d5_118) (r := (110 : Int32)) rfl (q := 120) rfl ?_
  refine Go.cst X103 hx hZ e103 V103 ⟨by decide, by decide⟩ (i := 1) rfl (Nat.le_of_ble_eq_true rfl) (hb hby d5_120) ?_
  intro T104 h104 X104 e104 W104 V104
  replace V104 : Arv Z h104 b102 k102 .char (15 : Int32) [(.int 117), (.int 110), (.int 0), (.int 0), (.int 0), (.int 0), (.int 0), (.int 0), (.int 0), (.int 0), (.int 0), (.int 0), (.int 0), (.int 0), (.int 0)] (.int 0) := V104
  have N104 := Fr.snoc X104 N103 g_b102
  replace A101 := A101.wr W104
  replace F101_value := F101_value.other W104 (Or.inl ne_b101_b102)
  replace F101_coder := F101_coder.other W104 (Or.inl ne_b101_b102)
  replace B102 := B102.wr W104
  have OW104 := ext_wr OW103 W104 g_b102
  replace KP := KP.wr W104 (Or.inr z_b102)
  refine Go.dup X104 hx (hb hby d5_121) rfl (q := 122) rfl ?_
  refine Go.iconst X104 hx (hb hby d5_122) (r := (2 : Int32)) rfl (q := 123) rfl ?_
  refine Go.bipush X104 hx (hb hby d5_123) (r := (107 : Int32)) rfl (q := 125) rfl ?_
  refine Go.cst X104 hx hZ e104 V104 ⟨by decide, by decide⟩ (i := 2) rfl (Nat.le_of_ble_eq_true rfl) (hb hby d5_125) ?_
  intro T105 h105 X105 e105 W105 V105
  replace V105 : Arv Z h105 b102 k102 .char (15 : Int32) [(.int 117), (.int 110), (.int 107), (.int 0), (.int 0), (.int 0), (.int 0), (.int 0), (.int 0), (.int 0), (.int 0), (.int 0), (.int 0), (.int 0), (.int 0)] (.int 0) := V105
  have N105 := Fr.snoc X105 N104 g_b102
  replace A101 := A101.wr W105
  replace F101_value := F101_value.other W105 (Or.inl ne_b101_b102)
  replace F101_coder := F101_coder.other W105 (Or.inl ne_b101_b102)
  replace B102 := B102.wr W105
  have OW105 := ext_wr OW104 W105 g_b102
  replace KP := KP.wr W105 (Or.inr z_b102)
  refine Go.dup X105 hx (hb hby d5_126) rfl (q := 127) rfl ?_
  refine Go.iconst X105 hx (hb hby d5_127) (r := (3 : Int32)) rfl (q := 128) rfl ?_
  refine Go.bipush X105 hx (hb hby d5_128) (r := (110 : Int32)) rfl (q := 130) rfl ?_
  refine Go.cst X105 hx hZ e105 V105 ⟨by decide, by decide⟩ (i := 3) rfl (Nat.le_of_ble_eq_true rfl) (hb hby d5_130) ?_
  intro T106 h106 X106 e106 W106 V106
  replace V106 : Arv Z h106 b102 k102 .char (15 : Int32) [(.int 117), (.int 110), (.int 107), (.int 110), (.int 0), (.int 0), (.int 0), (.int 0), (.int 0), (.int 0), (.int 0), (.int 0), (.int 0), (.int 0), (.int 0)] (.int 0) := V106
  have N106 := Fr.snoc X106 N105 g_b102
  replace A101 := A101.wr W106
  replace F101_value := F101_value.other W106 (Or.inl ne_b101_b102)
  replace F101_coder := F101_coder.other W106 (Or.inl ne_b101_b102)
  replace B102 := B102.wr W106
  have OW106 := ext_wr OW105 W106 g_b102
  replace KP := KP.wr W106 (Or.inr z_b102)
  refine Go.dup X106 hx (hb hby d5_131) rfl (q := 132) rfl ?_
  refine Go.iconst X106 hx (hb hby d5_132) (r := (4 : Int32)) rfl (q := 133) rfl ?_
  refine Go.bipush X106 hx (hb hby d5_133) (r := (111 : Int32)) rfl (q := 135) rfl ?_
  refine Go.cst X106 hx hZ e106 V106 ⟨by decide, by decide⟩ (i := 4) rfl (Nat.le_of_ble_eq_true rfl) (hb hby d5_135) ?_
  intro T107 h107 X107 e107 W107 V107
  replace V107 : Arv Z h107 b102 k102 .char (15 : Int32) [(.int 117), (.int 110), (.int 107), (.int 110), (.int 111), (.int 0), (.int 0), (.int 0), (.int 0), (.int 0), (.int 0), (.int 0), (.int 0), (.int 0), (.int 0)] (.int 0) := V107
  have N107 := Fr.snoc X107 N106 g_b102
  replace A101 := A101.wr W107
  replace F101_value := F101_value.other W107 (Or.inl ne_b101_b102)
  replace F101_coder := F101_coder.other W107 (Or.inl ne_b101_b102)
  replace B102 := B102.wr W107
  have OW107 := ext_wr OW106 W107 g_b102
  replace KP := KP.wr W107 (Or.inr z_b102)
  refine Go.dup X107 hx (hb hby d5_136) rfl (q := 137) rfl ?_
  refine Go.iconst X107 hx (hb hby d5_137) (r := (5 : Int32)) rfl (q := 138) rfl ?_
  refine Go.bipush X107 hx (hb hby d5_138) (r := (119 : Int32)) rfl (q := 140) rfl ?_
  refine Go.cst X107 hx hZ e107 V107 ⟨by decide, by decide⟩ (i := 5) rfl (Nat.le_of_ble_eq_true rfl) (hb hby d5_140) ?_
  intro T108 h108 X108 e108 W108 V108
  replace V108 : Arv Z h108 b102 k102 .char (15 : Int32) [(.int 117), (.int 110), (.int 107), (.int 110), (.int 111), (.int 119), (.int 0), (.int 0), (.int 0), (.int 0), (.int 0), (.int 0), (.int 0), (.int 0), (.int 0)] (.int 0) := V108
  have N108 := Fr.snoc X108 N107 g_b102
  replace A101 := A101.wr W108
  replace F101_value := F101_value.other W108 (Or.inl ne_b101_b102)
  replace F101_coder := F101_coder.other W108 (Or.inl ne_b101_b102)
  replace B102 := B102.wr W108
  have OW108 := ext_wr OW107 W108 g_b102
  replace KP := KP.wr W108 (Or.inr z_b102)
  refine Go.dup X108 hx (hb hby d5_141) rfl (q := 142) rfl ?_
  refine Go.bipush X108 hx (hb hby d5_142) (r := (6 : Int32)) rfl (q := 144) rfl ?_
  refine Go.bipush X108 hx (hb hby d5_144) (r := (110 : Int32)) rfl (q := 146) rfl ?_
  refine Go.cst X108 hx hZ e108 V108 ⟨by decide, by decide⟩ (i := 6) rfl (Nat.le_of_ble_eq_true rfl) (hb hby d5_146) ?_
  intro T109 h109 X109 e109 W109 V109
  replace V109 : Arv Z h109 b102 k102 .char (15 : Int32) [(.int 117), (.int 110), (.int 107), (.int 110), (.int 111), (.int 119), (.int 110), (.int 0), (.int 0), (.int 0), (.int 0), (.int 0), (.int 0), (.int 0), (.int 0)] (.int 0) := V109
  have N109 := Fr.snoc X109 N108 g_b102
  replace A101 := A101.wr W109
  replace F101_value := F101_value.other W109 (Or.inl ne_b101_b102)
  replace F101_coder := F101_coder.other W109 (Or.inl ne_b101_b102)
  replace B102 := B102.wr W109
  have OW109 := ext_wr OW108 W109 g_b102
  replace KP := KP.wr W109 (Or.inr z_b102)
  refine Go.dup X109 hx (hb hby d5_147) rfl (q := 148) rfl ?_
  refine Go.bipush X109 hx (hb hby d5_148) (r := (7 : Int32)) rfl (q := 150) rfl ?_
  refine Go.bipush X109 hx (hb hby d5_150) (r := (32 : Int32)) rfl (q := 152) rfl ?_
  refine Go.cst X109 hx hZ e109 V109 ⟨by decide, by decide⟩ (i := 7) rfl (Nat.le_of_ble_eq_true rfl) (hb hby d5_152) ?_
  intro T110 h110 X110 e110 W110 V110
  replace V110 : Arv Z h110 b102 k102 .char (15 : Int32) [(.int 117), (.int 110), (.int 107), (.int 110), (.int 111), (.int 119), (.int 110), (.int 32), (.int 0), (.int 0), (.int 0), (.int 0), (.int 0), (.int 0), (.int 0)] (.int 0) := V110
  have N110 := Fr.snoc X110 N109 g_b102
  replace A101 := A101.wr W110
  replace F101_value := F101_value.other W110 (Or.inl ne_b101_b102)
  replace F101_coder := F101_coder.other W110 (Or.inl ne_b101_b102)
  replace B102 := B102.wr W110
  have OW110 := ext_wr OW109 W110 g_b102
  replace KP := KP.wr W110 (Or.inr z_b102)
  refine Go.dup X110 hx (hb hby d5_153) rfl (q := 154) rfl ?_
  refine Go.bipush X110 hx (hb hby d5_154) (r := (8 : Int32)) rfl (q := 156) rfl ?_
  refine Go.bipush X110 hx (hb hby d5_156) (r := (102 : Int32)) rfl (q := 158) rfl ?_
  refine Go.cst X110 hx hZ e110 V110 ⟨by decide, by decide⟩ (i := 8) rfl (Nat.le_of_ble_eq_true rfl) (hb hby d5_158) ?_
  intro T111 h111 X111 e111 W111 V111
  replace V111 : Arv Z h111 b102 k102 .char (15 : Int32) [(.int 117), (.int 110), (.int 107), (.int 110), (.int 111), (.int 119), (.int 110), (.int 32), (.int 102), (.int 0), (.int 0), (.int 0), (.int 0), (.int 0), (.int 0)] (.int 0) := V111
  have N111 := Fr.snoc X111 N110 g_b102
  replace A101 := A101.wr W111
  replace F101_value := F101_value.other W111 (Or.inl ne_b101_b102)
  replace F101_coder := F101_coder.other W111 (Or.inl ne_b101_b102)
  replace B102 := B102.wr W111
  have OW111 := ext_wr OW110 W111 g_b102
  replace KP := KP.wr W111 (Or.inr z_b102)
  refine Go.dup X111 hx (hb hby d5_159) rfl (q := 160) rfl ?_
  refine Go.bipush X111 hx (hb hby d5_160) (r := (9 : Int32)) rfl (q := 162) rfl ?_
  refine Go.bipush X111 hx (hb hby d5_162) (r := (108 : Int32)) rfl (q := 164) rfl ?_
  refine Go.cst X111 hx hZ e111 V111 ⟨by decide, by decide⟩ (i := 9) rfl (Nat.le_of_ble_eq_true rfl) (hb hby d5_164) ?_
  intro T112 h112 X112 e112 W112 V112
  replace V112 : Arv Z h112 b102 k102 .char (15 : Int32) [(.int 117), (.int 110), (.int 107), (.int 110), (.int 111), (.int 119), (.int 110), (.int 32), (.int 102), (.int 108), (.int 0), (.int 0), (.int 0), (.int 0), (.int 0)] (.int 0) := V112
  have N112 := Fr.snoc X112 N111 g_b102
  replace A101 := A101.wr W112
  replace F101_value := F101_value.other W112 (Or.inl ne_b101_b102)
  replace F101_coder := F101_coder.other W112 (Or.inl ne_b101_b102)
  replace B102 := B102.wr W112
  have OW112 := ext_wr OW111 W112 g_b102
  replace KP := KP.wr W112 (Or.inr z_b102)
  refine Go.dup X112 hx (hb hby d5_165) rfl (q := 166) rfl ?_
  refine Go.bipush X112 hx (hb hby d5_166) (r := (10 : Int32)) rfl (q := 168) rfl ?_
  refine Go.bipush X112 hx (hb hby d5_168) (r := (97 : Int32)) rfl (q := 170) rfl ?_
  refine Go.cst X112 hx hZ e112 V112 ⟨by decide, by decide⟩ (i := 10) rfl (Nat.le_of_ble_eq_true rfl) (hb hby d5_170) ?_
  intro T113 h113 X113 e113 W113 V113
  replace V113 : Arv Z h113 b102 k102 .char (15 : Int32) [(.int 117), (.int 110), (.int 107), (.int 110), (.int 111), (.int 119), (.int 110), (.int 32), (.int 102), (.int 108), (.int 97), (.int 0), (.int 0), (.int 0), (.int 0)] (.int 0) := V113
  have N113 := Fr.snoc X113 N112 g_b102
  replace A101 := A101.wr W113
  replace F101_value := F101_value.other W113 (Or.inl ne_b101_b102)
  replace F101_coder := F101_coder.other W113 (Or.inl ne_b101_b102)
  replace B102 := B102.wr W113
  have OW113 := ext_wr OW112 W113 g_b102
  replace KP := KP.wr W113 (Or.inr z_b102)
  refine Go.dup X113 hx (hb hby d5_171) rfl (q := 172) rfl ?_
  refine Go.bipush X113 hx (hb hby d5_172) (r := (11 : Int32)) rfl (q := 174) rfl ?_
  refine Go.bipush X113 hx (hb hby d5_174) (r := (103 : Int32)) rfl (q := 176) rfl ?_
  refine Go.cst X113 hx hZ e113 V113 ⟨by decide, by decide⟩ (i := 11) rfl (Nat.le_of_ble_eq_true rfl) (hb hby d5_176) ?_
  intro T114 h114 X114 e114 W114 V114
  replace V114 : Arv Z h114 b102 k102 .char (15 : Int32) [(.int 117), (.int 110), (.int 107), (.int 110), (.int 111), (.int 119), (.int 110), (.int 32), (.int 102), (.int 108), (.int 97), (.int 103), (.int 0), (.int 0), (.int 0)] (.int 0) := V114
  have N114 := Fr.snoc X114 N113 g_b102
  replace A101 := A101.wr W114
  replace F101_value := F101_value.other W114 (Or.inl ne_b101_b102)
  replace F101_coder := F101_coder.other W114 (Or.inl ne_b101_b102)
  replace B102 := B102.wr W114
  have OW114 := ext_wr OW113 W114 g_b102
  replace KP := KP.wr W114 (Or.inr z_b102)
  refine Go.dup X114 hx (hb hby d5_177) rfl (q := 178) rfl ?_
  refine Go.bipush X114 hx (hb hby d5_178) (r := (12 : Int32)) rfl (q := 180) rfl ?_
  refine Go.bipush X114 hx (hb hby d5_180) (r := (32 : Int32)) rfl (q := 182) rfl ?_
  refine Go.cst X114 hx hZ e114 V114 ⟨by decide, by decide⟩ (i := 12) rfl (Nat.le_of_ble_eq_true rfl) (hb hby d5_182) ?_
  intro T115 h115 X115 e115 W115 V115
  replace V115 : Arv Z h115 b102 k102 .char (15 : Int32) [(.int 117), (.int 110), (.int 107), (.int 110), (.int 111), (.int 119), (.int 110), (.int 32), (.int 102), (.int 108), (.int 97), (.int 103), (.int 32), (.int 0), (.int 0)] (.int 0) := V115
  have N115 := Fr.snoc X115 N114 g_b102
  replace A101 := A101.wr W115
  replace F101_value := F101_value.other W115 (Or.inl ne_b101_b102)
  replace F101_coder := F101_coder.other W115 (Or.inl ne_b101_b102)
  replace B102 := B102.wr W115
  have OW115 := ext_wr OW114 W115 g_b102
  replace KP := KP.wr W115 (Or.inr z_b102)
  refine Go.dup X115 hx (hb hby d5_183) rfl (q := 184) rfl ?_
  refine Go.bipush X115 hx (hb hby d5_184) (r := (13 : Int32)) rfl (q := 186) rfl ?_
  refine Go.iloadN X115 hx (hb hby d5_186) rfl (q := 187) rfl ?_
  refine Go.cst X115 hx hZ e115 V115 ⟨by decide, by decide⟩ (i := 13) rfl (Nat.le_of_ble_eq_true rfl) (hb hby d5_187) ?_
  intro T116 h116 X116 e116 W116 V116
  rw [hn0] at V116
  replace V116 : Arv Z h116 b102 k102 .char (15 : Int32) [(.int 117), (.int 110), (.int 107), (.int 110), (.int 111), (.int 119), (.int 110), (.int 32), (.int 102), (.int 108), (.int 97), (.int 103), (.int 32), (.int c0), (.int 0)] (.int 0) := V116
  have N116 := Fr.snoc X116 N115 g_b102
  replace A101 := A101.wr W116
  replace F101_value := F101_value.other W116 (Or.inl ne_b101_b102)
  replace F101_coder := F101_coder.other W116 (Or.inl ne_b101_b102)
  replace B102 := B102.wr W116
  have OW116 := ext_wr OW115 W116 g_b102
  replace KP := KP.wr W116 (Or.inr z_b102)
  refine Go.dup X116 hx (hb hby d5_188) rfl (q := 189) rfl ?_
  refine Go.bipush X116 hx (hb hby d5_189) (r := (14 : Int32)) rfl (q := 191) rfl ?_
  refine Go.iloadN X116 hx (hb hby d5_191) rfl (q := 192) rfl ?_
  refine Go.cst X116 hx hZ e116 V116 ⟨by decide, by decide⟩ (i := 14) rfl (Nat.le_of_ble_eq_true rfl) (hb hby d5_192) ?_
  intro T117 h117 X117 e117 W117 V117
  rw [hn1] at V117
  replace V117 : Arv Z h117 b102 k102 .char (15 : Int32) [(.int 117), (.int 110), (.int 107), (.int 110), (.int 111), (.int 119), (.int 110), (.int 32), (.int 102), (.int 108), (.int 97), (.int 103), (.int 32), (.int c0), (.int c1)] (.int 0) := V117
  have N117 := Fr.snoc X117 N116 g_b102
  replace A101 := A101.wr W117
  replace F101_value := F101_value.other W117 (Or.inl ne_b101_b102)
  replace F101_coder := F101_coder.other W117 (Or.inl ne_b101_b102)
  replace B102 := B102.wr W117
  have OW117 := ext_wr OW116 W117 g_b102
  replace KP := KP.wr W117 (Or.inr z_b102)
  refine Go.init X117 hx hZ hown rfl (wd8 hw) (wd9 hw) (wd6 hw) (wd10 hw) (by decide) (csj l Z a0 hw b101 b102 ((15 : Int32)) (k102) cs ([(.int 117), (.int 110), (.int 107), (.int 110), (.int 111), (.int 119), (.int 110), (.int 32), (.int 102), (.int 108), (.int 97), (.int 103), (.int 32), (.int c0), (.int c1)]) ([(.int 117), (.int 110), (.int 107), (.int 110), (.int 111), (.int 119), (.int 110), (.int 32), (.int 102), (.int 108), (.int 97), (.int 103), (.int 32), (.int (c0.toInt8.toInt32)), (.int (c1.toInt8.toInt32))]) h117 OW117 A101 F101_value F101_coder g_b101 V117 SCS hcs ⟨by decide, by decide, rfl, (own_uf (own_ac hc0 (own_ac hc1 own_an)))⟩) e117 (by rw [hml]; rfl) (hb hby d5_193) (argsL := [(.ref b102)]) (rest := [(.ref b101)]) (lenOf pd5 rfl) rfl rfl (W := 1) (Nat.le_refl _) (by decide) ?_
  intro v118 T118 L118 X118 hQ118
  obtain ⟨h118, e118⟩ : ∃ z, T118.heap = z := ⟨_, rfl⟩
  rw [e118] at hQ118
  obtain ⟨b_118, kb_118, rfl, N118q, K118, fr118_b, P118_0, P118_1, P118_2⟩ := hQ118
  have N118 := Fr.app N117 N118q
  have ne_b101_b_118 : b101 ≠ b_118 := ne_new A101.lt fr118_b
  have ne_b102_b_118 : b102 ≠ b_118 := ne_new B102.lt fr118_b
  have g_b_118 : Z.heap.size ≤ b_118 := Nat.le_trans OW117.1 fr118_b
  have z_b_118 : h0.size ≤ b_118 := Nat.le_trans KP.1 fr118_b
  replace A101 := A101.keep K118
  replace B102 := B102.keep K118
  replace V117 := V117.keep K118 (ninS (Ne.symm ne_b101_b102) nin0)
  have OK118 := ext_keep OW117 K118 (allS g_b101 all0)
  replace KP := KP.trans K118 (allS (Or.inr z_b101) all0)
  exact Go.retA X118 hx hret hlk rfl rfl (hb hby d5_196) e118 (by decide) (by decide) ⟨b101, b_118, kb_118, rfl, N118, KP, z_b101, z_b_118, A101, P118_1, P118_0, P118_2⟩
def Q_cex13 (Z : State) (c0 c1 c2 cs : Int32) (h0 : Heap) (vR : Option Value) (hR : Heap) (LR : List Loc) : Prop := ∃ s : Addr, ∃ b : Addr, ∃ kb : ClassId, vR = some (.ref s) ∧ Fr Z.heap.size LR ∧ Keep h0 hR [] ∧ h0.size ≤ s ∧ h0.size ≤ b ∧ Exa Z hR s xS0 ∧ Fld Z hR s xS0 "coder" "B" (.int 0) ∧ Fld Z hR s xS0 "value" "[B" (.ref b) ∧ Arv Z hR b kb .byte (16 : Int32) [(.int 117), (.int 110), (.int 107), (.int 110), (.int 111), (.int 119), (.int 110), (.int 32), (.int 102), (.int 108), (.int 97), (.int 103), (.int 32), (.int (c0.toInt8.toInt32)), (.int (c1.toInt8.toInt32)), (.int (c2.toInt8.toInt32))] (.int 0)
theorem cex13 (l : Launch) (Z : State) (a0 : Array Value) (hw : ∀ d ∈ tables_1, d.before a0 Z = true) (c0 c1 c2 cs : Int32) (h0 : Heap) (O0 : Ext Z.heap h0) (SCS : Sta Z Z.heap xS0 xS3 "Z" (.int cs)) (hcs : ¬ (cs = (0 : Int32))) (hn0 : nar .char c0 = c0) (hn1 : nar .char c1 = c1) (hn2 : nar .char c2 = c2) (hc0 : ¬ ((255 : Int32) < c0)) (hc1 : ¬ ((255 : Int32) < c1)) (hc2 : ¬ ((255 : Int32) < c2)) :
    Ctr l Z h0 (⟨xS5, "expected", "(ZICCC)Ljava/lang/String;"⟩ : MethodName) k5 5 (some (.object xS0)) [] ({ frames := 4, cells := 3, slots := 43, locals := 66 } : Room) #[(.int 1), (.int 3), (.int c0), (.int c1), (.int c2)] (Q_cex13 Z c0 c1 c2 cs h0) := by
  refine enter (plainFor_of_name pn2) ?_
  intro pp ee ss mm below meth cc s₁ hx hby hml hZ hown hnm hret hlk X0 e0 hs0
  replace hown : ss.vm.findClass xS5 = some mm.cls := hown
  refine Go.cast (congrArg s₁.setTop (ef_cex13 mm c0 c1 c2)) ?_
  have N0 := Fr.nil Z.heap.size
  have KP := Keep.refl h0 []
  show Go pp ee below _ (s₁.setTop (mkF mm 0 #[.val (.int 1), .val (.int 3), .val (.int c0), .val (.int c1), .val (.int c2)] []))
  refine Go.iloadN X0 hx (hb hby d5_0) rfl (q := 1) rfl ?_
  refine Go.ifNo X0 hx (hb hby d5_1) (by decide) (q := 4) rfl ?_
  refine Go.iloadN X0 hx (hb hby d5_4) rfl (q := 5) rfl ?_
  refine Go.iconst X0 hx (hb hby d5_5) (r := (1 : Int32)) rfl (q := 6) rfl ?_
  refine Go.icmpYes X0 hx (hb hby d5_6) (by decide) (q := 98) (by decide) (by decide) ?_
  refine Go.iloadN X0 hx (hb hby d5_98) rfl (q := 99) rfl ?_
  refine Go.iconst X0 hx (hb hby d5_99) (r := (2 : Int32)) rfl (q := 100) rfl ?_
  refine Go.icmpYes X0 hx (hb hby d5_100) (by decide) (q := 197) (by decide) (by decide) ?_
  refine Go.newO X0 hx hZ hown (wd4 hw) (wd5 hw) (wd6 hw) e0 (hb hby d5_197) (by decide) (by decide) (q := 200) rfl ?_
  intro b101 T101 h101 X101 e101 q101 E101 A101 D101 U101
  have g_b101 : Z.heap.size ≤ b101 := Nat.le_trans O0.1 (Nat.le_of_eq q101)
  have z_b101 : h0.size ≤ b101 := Nat.le_trans KP.1 (Nat.le_of_eq q101)
  have OE101 := ext_trans O0 E101
  replace KP := KP.ext E101
  have F101_value : Fld Z h101 b101 xS0 "value" "[B" .null := D101 (Or.inr (wd20 hw)) (ty := (.array .byte)) (by decide)
  have F101_coder : Fld Z h101 b101 xS0 "coder" "B" (.int 0) := D101 (Or.inr (wd21 hw)) (ty := .byte) (by decide)
  clear D101
  refine Go.dup X101 hx (hb hby d5_200) rfl (q := 201) rfl ?_
  refine Go.bipush X101 hx (hb hby d5_201) (r := (16 : Int32)) rfl (q := 203) rfl ?_
  refine Go.newP X101 hx hZ (hb hby d5_203) (wd7 hw) e101 (by decide) (cap := 16) (by decide) (by decide) (by decide) (by decide) (ad := "[C") rfl (q := 205) rfl ?_
  intro b102 T102 h102 k102 X102 e102 q102 E102 V102 B102
  have ne_b101_b102 : b101 ≠ b102 := ne_new A101.lt (Nat.le_of_eq q102)
  have g_b102 : Z.heap.size ≤ b102 := Nat.le_trans OE101.1 (Nat.le_of_eq q102)
  have z_b102 : h0.size ≤ b102 := Nat.le_trans KP.1 (Nat.le_of_eq q102)
  replace A101 := A101.ext E102
  replace F101_value := F101_value.ext E102
  replace F101_coder := F101_coder.ext E102
  have OE102 := ext_trans OE101 E102
  replace KP := KP.ext E102
  replace V102 : Arv Z h102 b102 k102 .char (16 : Int32) [(.int 0), (.int 0), (.int 0), (.int 0), (.int 0), (.int 0), (.int 0), (.int 0), (.int 0), (.int 0), (.int 0), (.int 0), (.int 0), (.int 0), (.int 0), (.int 0)] (.int 0) := V102.pad (pad_rep [] (.int 0) 16)
  refine Go.dup X102 hx (hb hby d5_205) rfl (q := 206) rfl ?_
  refine Go.iconst X102 hx (hb hby d5_206) (r := (0 : Int32)) rfl (q := 207) rfl ?_
  refine Go.bipush X102 hx (hb hby d5_207) (r := (117 : Int32)) rfl (q := 209) rfl ?_
  refine Go.cst X102 hx hZ e102 V102 ⟨by decide, by decide⟩ (i := 0) rfl (Nat.le_of_ble_eq_true rfl) (hb hby d5_209) ?_
  intro T103 h103 X103 e103 W103 V103
  replace V103 : Arv Z h103 b102 k102 .char (16 : Int32) [(.int 117), (.int 0), (.int 0), (.int 0), (.int 0), (.int 0), (.int 0), (.int 0), (.int 0), (.int 0), (.int 0), (.int 0), (.int 0), (.int 0), (.int 0), (.int 0)] (.int 0) := V103
  have N103 := Fr.snoc X103 N0 g_b102
  replace A101 := A101.wr W103
  replace F101_value := F101_value.other W103 (Or.inl ne_b101_b102)
  replace F101_coder := F101_coder.other W103 (Or.inl ne_b101_b102)
  replace B102 := B102.wr W103
  have OW103 := ext_wr OE102 W103 g_b102
  replace KP := KP.wr W103 (Or.inr z_b102)
  refine Go.dup X103 hx (hb hby d5_210) rfl (q := 211) rfl ?_
  refine Go.iconst X103 hx (hb hby d5_211) (r := (1 : Int32)) rfl (q := 212) rfl ?_
  refine Go.bipush X103 hx (hb hby d5_212) (r := (110 : Int32)) rfl (q := 214) rfl ?_
  refine Go.cst X103 hx hZ e103 V103 ⟨by decide, by decide⟩ (i := 1) rfl (Nat.le_of_ble_eq_true rfl) (hb hby d5_214) ?_
  intro T104 h104 X104 e104 W104 V104
  replace V104 : Arv Z h104 b102 k102 .char (16 : Int32) [(.int 117), (.int 110), (.int 0), (.int 0), (.int 0), (.int 0), (.int 0), (.int 0), (.int 0), (.int 0), (.int 0), (.int 0), (.int 0), (.int 0), (.int 0), (.int 0)] (.int 0) := V104
  have N104 := Fr.snoc X104 N103 g_b102
  replace A101 := A101.wr W104
  replace F101_value := F101_value.other W104 (Or.inl ne_b101_b102)
  replace F101_coder := F101_coder.other W104 (Or.inl ne_b101_b102)
  replace B102 := B102.wr W104
  have OW104 := ext_wr OW103 W104 g_b102
  replace KP := KP.wr W104 (Or.inr z_b102)
  refine Go.dup X104 hx (hb hby d5_215) rfl (q := 216) rfl ?_
  refine Go.iconst X104 hx (hb hby d5_216) (r := (2 : Int32)) rfl (q := 217) rfl ?_
  refine Go.bipush X104 hx (hb hby d5_217) (r := (107 : Int32)) rfl (q := 219) rfl ?_
  refine Go.cst X104 hx hZ e104 V104 ⟨by decide, by decide⟩ (i := 2) rfl (Nat.le_of_ble_eq_true rfl) (hb hby d5_219) ?_
  intro T105 h105 X105 e105 W105 V105
  replace V105 : Arv Z h105 b102 k102 .char (16 : Int32) [(.int 117), (.int 110), (.int 107), (.int 0), (.int 0), (.int 0), (.int 0), (.int 0), (.int 0), (.int 0), (.int 0), (.int 0), (.int 0), (.int 0), (.int 0), (.int 0)] (.int 0) := V105
  have N105 := Fr.snoc X105 N104 g_b102
  replace A101 := A101.wr W105
  replace F101_value := F101_value.other W105 (Or.inl ne_b101_b102)
  replace F101_coder := F101_coder.other W105 (Or.inl ne_b101_b102)
  replace B102 := B102.wr W105
  have OW105 := ext_wr OW104 W105 g_b102
  replace KP := KP.wr W105 (Or.inr z_b102)
  refine Go.dup X105 hx (hb hby d5_220) rfl (q := 221) rfl ?_
  refine Go.iconst X105 hx (hb hby d5_221) (r := (3 : Int32)) rfl (q := 222) rfl ?_
  refine Go.bipush X105 hx (hb hby d5_222) (r := (110 : Int32)) rfl (q := 224) rfl ?_
  refine Go.cst X105 hx hZ e105 V105 ⟨by decide, by decide⟩ (i := 3) rfl (Nat.le_of_ble_eq_true rfl) (hb hby d5_224) ?_
  intro T106 h106 X106 e106 W106 V106
  replace V106 : Arv Z h106 b102 k102 .char (16 : Int32) [(.int 117), (.int 110), (.int 107), (.int 110), (.int 0), (.int 0), (.int 0), (.int 0), (.int 0), (.int 0), (.int 0), (.int 0), (.int 0), (.int 0), (.int 0), (.int 0)] (.int 0) := V106
  have N106 := Fr.snoc X106 N105 g_b102
  replace A101 := A101.wr W106
  replace F101_value := F101_value.other W106 (Or.inl ne_b101_b102)
  replace F101_coder := F101_coder.other W106 (Or.inl ne_b101_b102)
  replace B102 := B102.wr W106
  have OW106 := ext_wr OW105 W106 g_b102
  replace KP := KP.wr W106 (Or.inr z_b102)
  refine Go.dup X106 hx (hb hby d5_225) rfl (q := 226) rfl ?_
  refine Go.iconst X106 hx (hb hby d5_226) (r := (4 : Int32)) rfl (q := 227) rfl ?_
  refine Go.bipush X106 hx (hb hby d5_227) (r := (111 : Int32)) rfl (q := 229) rfl ?_
  refine Go.cst X106 hx hZ e106 V106 ⟨by decide, by decide⟩ (i := 4) rfl (Nat.le_of_ble_eq_true rfl) (hb hby d5_229) ?_
  intro T107 h107 X107 e107 W107 V107
  replace V107 : Arv Z h107 b102 k102 .char (16 : Int32) [(.int 117), (.int 110), (.int 107), (.int 110), (.int 111), (.int 0), (.int 0), (.int 0), (.int 0), (.int 0), (.int 0), (.int 0), (.int 0), (.int 0), (.int 0), (.int 0)] (.int 0) := V107
  have N107 := Fr.snoc X107 N106 g_b102
  replace A101 := A101.wr W107
  replace F101_value := F101_value.other W107 (Or.inl ne_b101_b102)
  replace F101_coder := F101_coder.other W107 (Or.inl ne_b101_b102)
  replace B102 := B102.wr W107
  have OW107 := ext_wr OW106 W107 g_b102
  replace KP := KP.wr W107 (Or.inr z_b102)
  refine Go.dup X107 hx (hb hby d5_230) rfl (q := 231) rfl ?_
  refine Go.iconst X107 hx (hb hby d5_231) (r := (5 : Int32)) rfl (q := 232) rfl ?_
  refine Go.bipush X107 hx (hb hby d5_232) (r := (119 : Int32)) rfl (q := 234) rfl ?_
  refine Go.cst X107 hx hZ e107 V107 ⟨by decide, by decide⟩ (i := 5) rfl (Nat.le_of_ble_eq_true rfl) (hb hby d5_234) ?_
  intro T108 h108 X108 e108 W108 V108
  replace V108 : Arv Z h108 b102 k102 .char (16 : Int32) [(.int 117), (.int 110), (.int 107), (.int 110), (.int 111), (.int 119), (.int 0), (.int 0), (.int 0), (.int 0), (.int 0), (.int 0), (.int 0), (.int 0), (.int 0), (.int 0)] (.int 0) := V108
  have N108 := Fr.snoc X108 N107 g_b102
  replace A101 := A101.wr W108
  replace F101_value := F101_value.other W108 (Or.inl ne_b101_b102)
  replace F101_coder := F101_coder.other W108 (Or.inl ne_b101_b102)
  replace B102 := B102.wr W108
  have OW108 := ext_wr OW107 W108 g_b102
  replace KP := KP.wr W108 (Or.inr z_b102)
  refine Go.dup X108 hx (hb hby d5_235) rfl (q := 236) rfl ?_
  refine Go.bipush X108 hx (hb hby d5_236) (r := (6 : Int32)) rfl (q := 238) rfl ?_
  refine Go.bipush X108 hx (hb hby d5_238) (r := (110 : Int32)) rfl (q := 240) rfl ?_
  refine Go.cst X108 hx hZ e108 V108 ⟨by decide, by decide⟩ (i := 6) rfl (Nat.le_of_ble_eq_true rfl) (hb hby d5_240) ?_
  intro T109 h109 X109 e109 W109 V109
  replace V109 : Arv Z h109 b102 k102 .char (16 : Int32) [(.int 117), (.int 110), (.int 107), (.int 110), (.int 111), (.int 119), (.int 110), (.int 0), (.int 0), (.int 0), (.int 0), (.int 0), (.int 0), (.int 0), (.int 0), (.int 0)] (.int 0) := V109
  have N109 := Fr.snoc X109 N108 g_b102
  replace A101 := A101.wr W109
  replace F101_value := F101_value.other W109 (Or.inl ne_b101_b102)
  replace F101_coder := F101_coder.other W109 (Or.inl ne_b101_b102)
  replace B102 := B102.wr W109
  have OW109 := ext_wr OW108 W109 g_b102
  replace KP := KP.wr W109 (Or.inr z_b102)
  refine Go.dup X109 hx (hb hby d5_241) rfl (q := 242) rfl ?_
  refine Go.bipush X109 hx (hb hby d5_242) (r := (7 : Int32)) rfl (q := 244) rfl ?_
  refine Go.bipush X109 hx (hb hby d5_244) (r := (32 : Int32)) rfl (q := 246) rfl ?_
  refine Go.cst X109 hx hZ e109 V109 ⟨by decide, by decide⟩ (i := 7) rfl (Nat.le_of_ble_eq_true rfl) (hb hby d5_246) ?_
  intro T110 h110 X110 e110 W110 V110
  replace V110 : Arv Z h110 b102 k102 .char (16 : Int32) [(.int 117), (.int 110), (.int 107), (.int 110), (.int 111), (.int 119), (.int 110), (.int 32), (.int 0), (.int 0), (.int 0), (.int 0), (.int 0), (.int 0), (.int 0), (.int 0)] (.int 0) := V110
  have N110 := Fr.snoc X110 N109 g_b102
  replace A101 := A101.wr W110
  replace F101_value := F101_value.other W110 (Or.inl ne_b101_b102)
  replace F101_coder := F101_coder.other W110 (Or.inl ne_b101_b102)
  replace B102 := B102.wr W110
  have OW110 := ext_wr OW109 W110 g_b102
  replace KP := KP.wr W110 (Or.inr z_b102)
  refine Go.dup X110 hx (hb hby d5_247) rfl (q := 248) rfl ?_
  refine Go.bipush X110 hx (hb hby d5_248) (r := (8 : Int32)) rfl (q := 250) rfl ?_
  refine Go.bipush X110 hx (hb hby d5_250) (r := (102 : Int32)) rfl (q := 252) rfl ?_
  refine Go.cst X110 hx hZ e110 V110 ⟨by decide, by decide⟩ (i := 8) rfl (Nat.le_of_ble_eq_true rfl) (hb hby d5_252) ?_
  intro T111 h111 X111 e111 W111 V111
  replace V111 : Arv Z h111 b102 k102 .char (16 : Int32) [(.int 117), (.int 110), (.int 107), (.int 110), (.int 111), (.int 119), (.int 110), (.int 32), (.int 102), (.int 0), (.int 0), (.int 0), (.int 0), (.int 0), (.int 0), (.int 0)] (.int 0) := V111
  have N111 := Fr.snoc X111 N110 g_b102
  replace A101 := A101.wr W111
  replace F101_value := F101_value.other W111 (Or.inl ne_b101_b102)
  replace F101_coder := F101_coder.other W111 (Or.inl ne_b101_b102)
  replace B102 := B102.wr W111
  have OW111 := ext_wr OW110 W111 g_b102
  replace KP := KP.wr W111 (Or.inr z_b102)
  refine Go.dup X111 hx (hb hby d5_253) rfl (q := 254) rfl ?_
  refine Go.bipush X111 hx (hb hby d5_254) (r := (9 : Int32)) rfl (q := 256) rfl ?_
  refine Go.bipush X111 hx (hb hby d5_256) (r := (108 : Int32)) rfl (q := 258) rfl ?_
  refine Go.cst X111 hx hZ e111 V111 ⟨by decide, by decide⟩ (i := 9) rfl (Nat.le_of_ble_eq_true rfl) (hb hby d5_258) ?_
  intro T112 h112 X112 e112 W112 V112
  replace V112 : Arv Z h112 b102 k102 .char (16 : Int32) [(.int 117), (.int 110), (.int 107), (.int 110), (.int 111), (.int 119), (.int 110), (.int 32), (.int 102), (.int 108), (.int 0), (.int 0), (.int 0), (.int 0), (.int 0), (.int 0)] (.int 0) := V112
  have N112 := Fr.snoc X112 N111 g_b102
  replace A101 := A101.wr W112
  replace F101_value := F101_value.other W112 (Or.inl ne_b101_b102)
  replace F101_coder := F101_coder.other W112 (Or.inl ne_b101_b102)
  replace B102 := B102.wr W112
  have OW112 := ext_wr OW111 W112 g_b102
  replace KP := KP.wr W112 (Or.inr z_b102)
  refine Go.dup X112 hx (hb hby d5_259) rfl (q := 260) rfl ?_
  refine Go.bipush X112 hx (hb hby d5_260) (r := (10 : Int32)) rfl (q := 262) rfl ?_
  refine Go.bipush X112 hx (hb hby d5_262) (r := (97 : Int32)) rfl (q := 264) rfl ?_
  refine Go.cst X112 hx hZ e112 V112 ⟨by decide, by decide⟩ (i := 10) rfl (Nat.le_of_ble_eq_true rfl) (hb hby d5_264) ?_
  intro T113 h113 X113 e113 W113 V113
  replace V113 : Arv Z h113 b102 k102 .char (16 : Int32) [(.int 117), (.int 110), (.int 107), (.int 110), (.int 111), (.int 119), (.int 110), (.int 32), (.int 102), (.int 108), (.int 97), (.int 0), (.int 0), (.int 0), (.int 0), (.int 0)] (.int 0) := V113
  have N113 := Fr.snoc X113 N112 g_b102
  replace A101 := A101.wr W113
  replace F101_value := F101_value.other W113 (Or.inl ne_b101_b102)
  replace F101_coder := F101_coder.other W113 (Or.inl ne_b101_b102)
  replace B102 := B102.wr W113
  have OW113 := ext_wr OW112 W113 g_b102
  replace KP := KP.wr W113 (Or.inr z_b102)
  refine Go.dup X113 hx (hb hby d5_265) rfl (q := 266) rfl ?_
  refine Go.bipush X113 hx (hb hby d5_266) (r := (11 : Int32)) rfl (q := 268) rfl ?_
  refine Go.bipush X113 hx (hb hby d5_268) (r := (103 : Int32)) rfl (q := 270) rfl ?_
  refine Go.cst X113 hx hZ e113 V113 ⟨by decide, by decide⟩ (i := 11) rfl (Nat.le_of_ble_eq_true rfl) (hb hby d5_270) ?_
  intro T114 h114 X114 e114 W114 V114
  replace V114 : Arv Z h114 b102 k102 .char (16 : Int32) [(.int 117), (.int 110), (.int 107), (.int 110), (.int 111), (.int 119), (.int 110), (.int 32), (.int 102), (.int 108), (.int 97), (.int 103), (.int 0), (.int 0), (.int 0), (.int 0)] (.int 0) := V114
  have N114 := Fr.snoc X114 N113 g_b102
  replace A101 := A101.wr W114
  replace F101_value := F101_value.other W114 (Or.inl ne_b101_b102)
  replace F101_coder := F101_coder.other W114 (Or.inl ne_b101_b102)
  replace B102 := B102.wr W114
  have OW114 := ext_wr OW113 W114 g_b102
  replace KP := KP.wr W114 (Or.inr z_b102)
  refine Go.dup X114 hx (hb hby d5_271) rfl (q := 272) rfl ?_
  refine Go.bipush X114 hx (hb hby d5_272) (r := (12 : Int32)) rfl (q := 274) rfl ?_
  refine Go.bipush X114 hx (hb hby d5_274) (r := (32 : Int32)) rfl (q := 276) rfl ?_
  refine Go.cst X114 hx hZ e114 V114 ⟨by decide, by decide⟩ (i := 12) rfl (Nat.le_of_ble_eq_true rfl) (hb hby d5_276) ?_
  intro T115 h115 X115 e115 W115 V115
  replace V115 : Arv Z h115 b102 k102 .char (16 : Int32) [(.int 117), (.int 110), (.int 107), (.int 110), (.int 111), (.int 119), (.int 110), (.int 32), (.int 102), (.int 108), (.int 97), (.int 103), (.int 32), (.int 0), (.int 0), (.int 0)] (.int 0) := V115
  have N115 := Fr.snoc X115 N114 g_b102
  replace A101 := A101.wr W115
  replace F101_value := F101_value.other W115 (Or.inl ne_b101_b102)
  replace F101_coder := F101_coder.other W115 (Or.inl ne_b101_b102)
  replace B102 := B102.wr W115
  have OW115 := ext_wr OW114 W115 g_b102
  replace KP := KP.wr W115 (Or.inr z_b102)
  refine Go.dup X115 hx (hb hby d5_277) rfl (q := 278) rfl ?_
  refine Go.bipush X115 hx (hb hby d5_278) (r := (13 : Int32)) rfl (q := 280) rfl ?_
  refine Go.iloadN X115 hx (hb hby d5_280) rfl (q := 281) rfl ?_
  refine Go.cst X115 hx hZ e115 V115 ⟨by decide, by decide⟩ (i := 13) rfl (Nat.le_of_ble_eq_true rfl) (hb hby d5_281) ?_
  intro T116 h116 X116 e116 W116 V116
  rw [hn0] at V116
  replace V116 : Arv Z h116 b102 k102 .char (16 : Int32) [(.int 117), (.int 110), (.int 107), (.int 110), (.int 111), (.int 119), (.int 110), (.int 32), (.int 102), (.int 108), (.int 97), (.int 103), (.int 32), (.int c0), (.int 0), (.int 0)] (.int 0) := V116
  have N116 := Fr.snoc X116 N115 g_b102
  replace A101 := A101.wr W116
  replace F101_value := F101_value.other W116 (Or.inl ne_b101_b102)
  replace F101_coder := F101_coder.other W116 (Or.inl ne_b101_b102)
  replace B102 := B102.wr W116
  have OW116 := ext_wr OW115 W116 g_b102
  replace KP := KP.wr W116 (Or.inr z_b102)
  refine Go.dup X116 hx (hb hby d5_282) rfl (q := 283) rfl ?_
  refine Go.bipush X116 hx (hb hby d5_283) (r := (14 : Int32)) rfl (q := 285) rfl ?_
  refine Go.iloadN X116 hx (hb hby d5_285) rfl (q := 286) rfl ?_
  refine Go.cst X116 hx hZ e116 V116 ⟨by decide, by decide⟩ (i := 14) rfl (Nat.le_of_ble_eq_true rfl) (hb hby d5_286) ?_
  intro T117 h117 X117 e117 W117 V117
  rw [hn1] at V117
  replace V117 : Arv Z h117 b102 k102 .char (16 : Int32) [(.int 117), (.int 110), (.int 107), (.int 110), (.int 111), (.int 119), (.int 110), (.int 32), (.int 102), (.int 108), (.int 97), (.int 103), (.int 32), (.int c0), (.int c1), (.int 0)] (.int 0) := V117
  have N117 := Fr.snoc X117 N116 g_b102
  replace A101 := A101.wr W117
  replace F101_value := F101_value.other W117 (Or.inl ne_b101_b102)
  replace F101_coder := F101_coder.other W117 (Or.inl ne_b101_b102)
  replace B102 := B102.wr W117
  have OW117 := ext_wr OW116 W117 g_b102
  replace KP := KP.wr W117 (Or.inr z_b102)
  refine Go.dup X117 hx (hb hby d5_287) rfl (q := 288) rfl ?_
  refine Go.bipush X117 hx (hb hby d5_288) (r := (15 : Int32)) rfl (q := 290) rfl ?_
  refine Go.iload X117 hx (hb hby d5_290) rfl (q := 292) rfl ?_
  refine Go.cst X117 hx hZ e117 V117 ⟨by decide, by decide⟩ (i := 15) rfl (Nat.le_of_ble_eq_true rfl) (hb hby d5_292) ?_
  intro T118 h118 X118 e118 W118 V118
  rw [hn2] at V118
  replace V118 : Arv Z h118 b102 k102 .char (16 : Int32) [(.int 117), (.int 110), (.int 107), (.int 110), (.int 111), (.int 119), (.int 110), (.int 32), (.int 102), (.int 108), (.int 97), (.int 103), (.int 32), (.int c0), (.int c1), (.int c2)] (.int 0) := V118
  have N118 := Fr.snoc X118 N117 g_b102
  replace A101 := A101.wr W118
  replace F101_value := F101_value.other W118 (Or.inl ne_b101_b102)
  replace F101_coder := F101_coder.other W118 (Or.inl ne_b101_b102)
  replace B102 := B102.wr W118
  have OW118 := ext_wr OW117 W118 g_b102
  replace KP := KP.wr W118 (Or.inr z_b102)
  refine Go.init X118 hx hZ hown rfl (wd8 hw) (wd9 hw) (wd6 hw) (wd10 hw) (by decide) (csj l Z a0 hw b101 b102 ((16 : Int32)) (k102) cs ([(.int 117), (.int 110), (.int 107), (.int 110), (.int 111), (.int 119), (.int 110), (.int 32), (.int 102), (.int 108), (.int 97), (.int 103), (.int 32), (.int c0), (.int c1), (.int c2)]) ([(.int 117), (.int 110), (.int 107), (.int 110), (.int 111), (.int 119), (.int 110), (.int 32), (.int 102), (.int 108), (.int 97), (.int 103), (.int 32), (.int (c0.toInt8.toInt32)), (.int (c1.toInt8.toInt32)), (.int (c2.toInt8.toInt32))]) h118 OW118 A101 F101_value F101_coder g_b101 V118 SCS hcs ⟨by decide, by decide, rfl, (own_uf (own_ac hc0 (own_ac hc1 (own_ac hc2 own_an))))⟩) e118 (by rw [hml]; rfl) (hb hby d5_293) (argsL := [(.ref b102)]) (rest := [(.ref b101)]) (lenOf pd5 rfl) rfl rfl (W := 1) (Nat.le_refl _) (by decide) ?_
  intro v119 T119 L119 X119 hQ119
  obtain ⟨h119, e119⟩ : ∃ z, T119.heap = z := ⟨_, rfl⟩
  rw [e119] at hQ119
  obtain ⟨b_119, kb_119, rfl, N119q, K119, fr119_b, P119_0, P119_1, P119_2⟩ := hQ119
  have N119 := Fr.app N118 N119q
  have ne_b101_b_119 : b101 ≠ b_119 := ne_new A101.lt fr119_b
  have ne_b102_b_119 : b102 ≠ b_119 := ne_new B102.lt fr119_b
  have g_b_119 : Z.heap.size ≤ b_119 := Nat.le_trans OW118.1 fr119_b
  have z_b_119 : h0.size ≤ b_119 := Nat.le_trans KP.1 fr119_b
  replace A101 := A101.keep K119
  replace B102 := B102.keep K119
  replace V118 := V118.keep K119 (ninS (Ne.symm ne_b101_b102) nin0)
  have OK119 := ext_keep OW118 K119 (allS g_b101 all0)
  replace KP := KP.trans K119 (allS (Or.inr z_b101) all0)
  exact Go.retA X119 hx hret hlk rfl rfl (hb hby d5_296) e119 (by decide) (by decide) ⟨b101, b_119, kb_119, rfl, N119, KP, z_b101, z_b_119, A101, P119_1, P119_0, P119_2⟩
def Q_cex00 (Z : State) (c0 c1 c2 cs : Int32) (h0 : Heap) (vR : Option Value) (hR : Heap) (LR : List Loc) : Prop := ∃ s : Addr, ∃ b : Addr, ∃ kb : ClassId, vR = some (.ref s) ∧ Fr Z.heap.size LR ∧ Keep h0 hR [] ∧ h0.size ≤ s ∧ h0.size ≤ b ∧ Exa Z hR s xS0 ∧ Fld Z hR s xS0 "coder" "B" (.int 0) ∧ Fld Z hR s xS0 "value" "[B" (.ref b) ∧ Arv Z hR b kb .byte (20 : Int32) [(.int 117), (.int 110), (.int 101), (.int 120), (.int 112), (.int 101), (.int 99), (.int 116), (.int 101), (.int 100), (.int 32), (.int 97), (.int 114), (.int 103), (.int 117), (.int 109), (.int 101), (.int 110), (.int 116), (.int 32)] (.int 0)
theorem cex00 (l : Launch) (Z : State) (a0 : Array Value) (hw : ∀ d ∈ tables_1, d.before a0 Z = true) (c0 c1 c2 cs : Int32) (h0 : Heap) (O0 : Ext Z.heap h0) (SCS : Sta Z Z.heap xS0 xS3 "Z" (.int cs)) (hcs : ¬ (cs = (0 : Int32))) :
    Ctr l Z h0 (⟨xS5, "expected", "(ZICCC)Ljava/lang/String;"⟩ : MethodName) k5 5 (some (.object xS0)) [] ({ frames := 4, cells := 3, slots := 47, locals := 66 } : Room) #[(.int 0), (.int 0), (.int c0), (.int c1), (.int c2)] (Q_cex00 Z c0 c1 c2 cs h0) := by
  refine enter (plainFor_of_name pn2) ?_
  intro pp ee ss mm below meth cc s₁ hx hby hml hZ hown hnm hret hlk X0 e0 hs0
  replace hown : ss.vm.findClass xS5 = some mm.cls := hown
  refine Go.cast (congrArg s₁.setTop (ef_cex00 mm c0 c1 c2)) ?_
  have N0 := Fr.nil Z.heap.size
  have KP := Keep.refl h0 []
  show Go pp ee below _ (s₁.setTop (mkF mm 0 #[.val (.int 0), .val (.int 0), .val (.int c0), .val (.int c1), .val (.int c2)] []))
  refine Go.iloadN X0 hx (hb hby d5_0) rfl (q := 1) rfl ?_
  refine Go.ifYes X0 hx (hb hby d5_1) (by decide) (q := 297) (by decide) (by decide) ?_
  refine Go.iloadN X0 hx (hb hby d5_297) rfl (q := 298) rfl ?_
  refine Go.ifNo X0 hx (hb hby d5_298) (by decide) (q := 301) rfl ?_
  refine Go.newO X0 hx hZ hown (wd4 hw) (wd5 hw) (wd6 hw) e0 (hb hby d5_301) (by decide) (by decide) (q := 304) rfl ?_
  intro b101 T101 h101 X101 e101 q101 E101 A101 D101 U101
  have g_b101 : Z.heap.size ≤ b101 := Nat.le_trans O0.1 (Nat.le_of_eq q101)
  have z_b101 : h0.size ≤ b101 := Nat.le_trans KP.1 (Nat.le_of_eq q101)
  have OE101 := ext_trans O0 E101
  replace KP := KP.ext E101
  have F101_value : Fld Z h101 b101 xS0 "value" "[B" .null := D101 (Or.inr (wd20 hw)) (ty := (.array .byte)) (by decide)
  have F101_coder : Fld Z h101 b101 xS0 "coder" "B" (.int 0) := D101 (Or.inr (wd21 hw)) (ty := .byte) (by decide)
  clear D101
  refine Go.dup X101 hx (hb hby d5_304) rfl (q := 305) rfl ?_
  refine Go.bipush X101 hx (hb hby d5_305) (r := (20 : Int32)) rfl (q := 307) rfl ?_
  refine Go.newP X101 hx hZ (hb hby d5_307) (wd7 hw) e101 (by decide) (cap := 20) (by decide) (by decide) (by decide) (by decide) (ad := "[C") rfl (q := 309) rfl ?_
  intro b102 T102 h102 k102 X102 e102 q102 E102 V102 B102
  have ne_b101_b102 : b101 ≠ b102 := ne_new A101.lt (Nat.le_of_eq q102)
  have g_b102 : Z.heap.size ≤ b102 := Nat.le_trans OE101.1 (Nat.le_of_eq q102)
  have z_b102 : h0.size ≤ b102 := Nat.le_trans KP.1 (Nat.le_of_eq q102)
  replace A101 := A101.ext E102
  replace F101_value := F101_value.ext E102
  replace F101_coder := F101_coder.ext E102
  have OE102 := ext_trans OE101 E102
  replace KP := KP.ext E102
  replace V102 : Arv Z h102 b102 k102 .char (20 : Int32) [(.int 0), (.int 0), (.int 0), (.int 0), (.int 0), (.int 0), (.int 0), (.int 0), (.int 0), (.int 0), (.int 0), (.int 0), (.int 0), (.int 0), (.int 0), (.int 0), (.int 0), (.int 0), (.int 0), (.int 0)] (.int 0) := V102.pad (pad_rep [] (.int 0) 20)
  refine Go.dup X102 hx (hb hby d5_309) rfl (q := 310) rfl ?_
  refine Go.iconst X102 hx (hb hby d5_310) (r := (0 : Int32)) rfl (q := 311) rfl ?_
  refine Go.bipush X102 hx (hb hby d5_311) (r := (117 : Int32)) rfl (q := 313) rfl ?_
  refine Go.cst X102 hx hZ e102 V102 ⟨by decide, by decide⟩ (i := 0) rfl (Nat.le_of_ble_eq_true rfl) (hb hby d5_313) ?_
  intro T103 h103 X103 e103 W103 V103
  replace V103 : Arv Z h103 b102 k102 .char (20 : Int32) [(.int 117), (.int 0), (.int 0), (.int 0), (.int 0), (.int 0), (.int 0), (.int 0), (.int 0), (.int 0), (.int 0), (.int 0), (.int 0), (.int 0), (.int 0), (.int 0), (.int 0), (.int 0), (.int 0), (.int 0)] (.int 0) := V103
  have N103 := Fr.snoc X103 N0 g_b102
  replace A101 := A101.wr W103
  replace F101_value := F101_value.other W103 (Or.inl ne_b101_b102)
  replace F101_coder := F101_coder.other W103 (Or.inl ne_b101_b102)
  replace B102 := B102.wr W103
  have OW103 := ext_wr OE102 W103 g_b102
  replace KP := KP.wr W103 (Or.inr z_b102)
  refine Go.dup X103 hx (hb hby d5_314) rfl (q := 315) rfl ?_
  refine Go.iconst X103 hx (hb hby d5_315) (r := (1 : Int32)) rfl (q := 316) rfl ?_
  refine Go.bipush X103 hx (hb hby d5_316) (r := (110 : Int32)) rfl (q := 318) rfl ?_
  refine Go.cst X103 hx hZ e103 V103 ⟨by decide, by decide⟩ (i := 1) rfl (Nat.le_of_ble_eq_true rfl) (hb hby d5_318) ?_
  intro T104 h104 X104 e104 W104 V104
  replace V104 : Arv Z h104 b102 k102 .char (20 : Int32) [(.int 117), (.int 110), (.int 0), (.int 0), (.int 0), (.int 0), (.int 0), (.int 0), (.int 0), (.int 0), (.int 0), (.int 0), (.int 0), (.int 0), (.int 0), (.int 0), (.int 0), (.int 0), (.int 0), (.int 0)] (.int 0) := V104
  have N104 := Fr.snoc X104 N103 g_b102
  replace A101 := A101.wr W104
  replace F101_value := F101_value.other W104 (Or.inl ne_b101_b102)
  replace F101_coder := F101_coder.other W104 (Or.inl ne_b101_b102)
  replace B102 := B102.wr W104
  have OW104 := ext_wr OW103 W104 g_b102
  replace KP := KP.wr W104 (Or.inr z_b102)
  refine Go.dup X104 hx (hb hby d5_319) rfl (q := 320) rfl ?_
  refine Go.iconst X104 hx (hb hby d5_320) (r := (2 : Int32)) rfl (q := 321) rfl ?_
  refine Go.bipush X104 hx (hb hby d5_321) (r := (101 : Int32)) rfl (q := 323) rfl ?_
  refine Go.cst X104 hx hZ e104 V104 ⟨by decide, by decide⟩ (i := 2) rfl (Nat.le_of_ble_eq_true rfl) (hb hby d5_323) ?_
  intro T105 h105 X105 e105 W105 V105
  replace V105 : Arv Z h105 b102 k102 .char (20 : Int32) [(.int 117), (.int 110), (.int 101), (.int 0), (.int 0), (.int 0), (.int 0), (.int 0), (.int 0), (.int 0), (.int 0), (.int 0), (.int 0), (.int 0), (.int 0), (.int 0), (.int 0), (.int 0), (.int 0), (.int 0)] (.int 0) := V105
  have N105 := Fr.snoc X105 N104 g_b102
  replace A101 := A101.wr W105
  replace F101_value := F101_value.other W105 (Or.inl ne_b101_b102)
  replace F101_coder := F101_coder.other W105 (Or.inl ne_b101_b102)
  replace B102 := B102.wr W105
  have OW105 := ext_wr OW104 W105 g_b102
  replace KP := KP.wr W105 (Or.inr z_b102)
  refine Go.dup X105 hx (hb hby d5_324) rfl (q := 325) rfl ?_
  refine Go.iconst X105 hx (hb hby d5_325) (r := (3 : Int32)) rfl (q := 326) rfl ?_
  refine Go.bipush X105 hx (hb hby d5_326) (r := (120 : Int32)) rfl (q := 328) rfl ?_
  refine Go.cst X105 hx hZ e105 V105 ⟨by decide, by decide⟩ (i := 3) rfl (Nat.le_of_ble_eq_true rfl) (hb hby d5_328) ?_
  intro T106 h106 X106 e106 W106 V106
  replace V106 : Arv Z h106 b102 k102 .char (20 : Int32) [(.int 117), (.int 110), (.int 101), (.int 120), (.int 0), (.int 0), (.int 0), (.int 0), (.int 0), (.int 0), (.int 0), (.int 0), (.int 0), (.int 0), (.int 0), (.int 0), (.int 0), (.int 0), (.int 0), (.int 0)] (.int 0) := V106
  have N106 := Fr.snoc X106 N105 g_b102
  replace A101 := A101.wr W106
  replace F101_value := F101_value.other W106 (Or.inl ne_b101_b102)
  replace F101_coder := F101_coder.other W106 (Or.inl ne_b101_b102)
  replace B102 := B102.wr W106
  have OW106 := ext_wr OW105 W106 g_b102
  replace KP := KP.wr W106 (Or.inr z_b102)
  refine Go.dup X106 hx (hb hby d5_329) rfl (q := 330) rfl ?_
  refine Go.iconst X106 hx (hb hby d5_330) (r := (4 : Int32)) rfl (q := 331) rfl ?_
  refine Go.bipush X106 hx (hb hby d5_331) (r := (112 : Int32)) rfl (q := 333) rfl ?_
  refine Go.cst X106 hx hZ e106 V106 ⟨by decide, by decide⟩ (i := 4) rfl (Nat.le_of_ble_eq_true rfl) (hb hby d5_333) ?_
  intro T107 h107 X107 e107 W107 V107
  replace V107 : Arv Z h107 b102 k102 .char (20 : Int32) [(.int 117), (.int 110), (.int 101), (.int 120), (.int 112), (.int 0), (.int 0), (.int 0), (.int 0), (.int 0), (.int 0), (.int 0), (.int 0), (.int 0), (.int 0), (.int 0), (.int 0), (.int 0), (.int 0), (.int 0)] (.int 0) := V107
  have N107 := Fr.snoc X107 N106 g_b102
  replace A101 := A101.wr W107
  replace F101_value := F101_value.other W107 (Or.inl ne_b101_b102)
  replace F101_coder := F101_coder.other W107 (Or.inl ne_b101_b102)
  replace B102 := B102.wr W107
  have OW107 := ext_wr OW106 W107 g_b102
  replace KP := KP.wr W107 (Or.inr z_b102)
  refine Go.dup X107 hx (hb hby d5_334) rfl (q := 335) rfl ?_
  refine Go.iconst X107 hx (hb hby d5_335) (r := (5 : Int32)) rfl (q := 336) rfl ?_
  refine Go.bipush X107 hx (hb hby d5_336) (r := (101 : Int32)) rfl (q := 338) rfl ?_
  refine Go.cst X107 hx hZ e107 V107 ⟨by decide, by decide⟩ (i := 5) rfl (Nat.le_of_ble_eq_true rfl) (hb hby d5_338) ?_
  intro T108 h108 X108 e108 W108 V108
  replace V108 : Arv Z h108 b102 k102 .char (20 : Int32) [(.int 117), (.int 110), (.int 101), (.int 120), (.int 112), (.int 101), (.int 0), (.int 0), (.int 0), (.int 0), (.int 0), (.int 0), (.int 0), (.int 0), (.int 0), (.int 0), (.int 0), (.int 0), (.int 0), (.int 0)] (.int 0) := V108
  have N108 := Fr.snoc X108 N107 g_b102
  replace A101 := A101.wr W108
  replace F101_value := F101_value.other W108 (Or.inl ne_b101_b102)
  replace F101_coder := F101_coder.other W108 (Or.inl ne_b101_b102)
  replace B102 := B102.wr W108
  have OW108 := ext_wr OW107 W108 g_b102
  replace KP := KP.wr W108 (Or.inr z_b102)
  refine Go.dup X108 hx (hb hby d5_339) rfl (q := 340) rfl ?_
  refine Go.bipush X108 hx (hb hby d5_340) (r := (6 : Int32)) rfl (q := 342) rfl ?_
  refine Go.bipush X108 hx (hb hby d5_342) (r := (99 : Int32)) rfl (q := 344) rfl ?_
  refine Go.cst X108 hx hZ e108 V108 ⟨by decide, by decide⟩ (i := 6) rfl (Nat.le_of_ble_eq_true rfl) (hb hby d5_344) ?_
  intro T109 h109 X109 e109 W109 V109
  replace V109 : Arv Z h109 b102 k102 .char (20 : Int32) [(.int 117), (.int 110), (.int 101), (.int 120), (.int 112), (.int 101), (.int 99), (.int 0), (.int 0), (.int 0), (.int 0), (.int 0), (.int 0), (.int 0), (.int 0), (.int 0), (.int 0), (.int 0), (.int 0), (.int 0)] (.int 0) := V109
  have N109 := Fr.snoc X109 N108 g_b102
  replace A101 := A101.wr W109
  replace F101_value := F101_value.other W109 (Or.inl ne_b101_b102)
  replace F101_coder := F101_coder.other W109 (Or.inl ne_b101_b102)
  replace B102 := B102.wr W109
  have OW109 := ext_wr OW108 W109 g_b102
  replace KP := KP.wr W109 (Or.inr z_b102)
  refine Go.dup X109 hx (hb hby d5_345) rfl (q := 346) rfl ?_
  refine Go.bipush X109 hx (hb hby d5_346) (r := (7 : Int32)) rfl (q := 348) rfl ?_
  refine Go.bipush X109 hx (hb hby d5_348) (r := (116 : Int32)) rfl (q := 350) rfl ?_
  refine Go.cst X109 hx hZ e109 V109 ⟨by decide, by decide⟩ (i := 7) rfl (Nat.le_of_ble_eq_true rfl) (hb hby d5_350) ?_
  intro T110 h110 X110 e110 W110 V110
  replace V110 : Arv Z h110 b102 k102 .char (20 : Int32) [(.int 117), (.int 110), (.int 101), (.int 120), (.int 112), (.int 101), (.int 99), (.int 116), (.int 0), (.int 0), (.int 0), (.int 0), (.int 0), (.int 0), (.int 0), (.int 0), (.int 0), (.int 0), (.int 0), (.int 0)] (.int 0) := V110
  have N110 := Fr.snoc X110 N109 g_b102
  replace A101 := A101.wr W110
  replace F101_value := F101_value.other W110 (Or.inl ne_b101_b102)
  replace F101_coder := F101_coder.other W110 (Or.inl ne_b101_b102)
  replace B102 := B102.wr W110
  have OW110 := ext_wr OW109 W110 g_b102
  replace KP := KP.wr W110 (Or.inr z_b102)
  refine Go.dup X110 hx (hb hby d5_351) rfl (q := 352) rfl ?_
  refine Go.bipush X110 hx (hb hby d5_352) (r := (8 : Int32)) rfl (q := 354) rfl ?_
  refine Go.bipush X110 hx (hb hby d5_354) (r := (101 : Int32)) rfl (q := 356) rfl ?_
  refine Go.cst X110 hx hZ e110 V110 ⟨by decide, by decide⟩ (i := 8) rfl (Nat.le_of_ble_eq_true rfl) (hb hby d5_356) ?_
  intro T111 h111 X111 e111 W111 V111
  replace V111 : Arv Z h111 b102 k102 .char (20 : Int32) [(.int 117), (.int 110), (.int 101), (.int 120), (.int 112), (.int 101), (.int 99), (.int 116), (.int 101), (.int 0), (.int 0), (.int 0), (.int 0), (.int 0), (.int 0), (.int 0), (.int 0), (.int 0), (.int 0), (.int 0)] (.int 0) := V111
  have N111 := Fr.snoc X111 N110 g_b102
  replace A101 := A101.wr W111
  replace F101_value := F101_value.other W111 (Or.inl ne_b101_b102)
  replace F101_coder := F101_coder.other W111 (Or.inl ne_b101_b102)
  replace B102 := B102.wr W111
  have OW111 := ext_wr OW110 W111 g_b102
  replace KP := KP.wr W111 (Or.inr z_b102)
  refine Go.dup X111 hx (hb hby d5_357) rfl (q := 358) rfl ?_
  refine Go.bipush X111 hx (hb hby d5_358) (r := (9 : Int32)) rfl (q := 360) rfl ?_
  refine Go.bipush X111 hx (hb hby d5_360) (r := (100 : Int32)) rfl (q := 362) rfl ?_
  refine Go.cst X111 hx hZ e111 V111 ⟨by decide, by decide⟩ (i := 9) rfl (Nat.le_of_ble_eq_true rfl) (hb hby d5_362) ?_
  intro T112 h112 X112 e112 W112 V112
  replace V112 : Arv Z h112 b102 k102 .char (20 : Int32) [(.int 117), (.int 110), (.int 101), (.int 120), (.int 112), (.int 101), (.int 99), (.int 116), (.int 101), (.int 100), (.int 0), (.int 0), (.int 0), (.int 0), (.int 0), (.int 0), (.int 0), (.int 0), (.int 0), (.int 0)] (.int 0) := V112
  have N112 := Fr.snoc X112 N111 g_b102
  replace A101 := A101.wr W112
  replace F101_value := F101_value.other W112 (Or.inl ne_b101_b102)
  replace F101_coder := F101_coder.other W112 (Or.inl ne_b101_b102)
  replace B102 := B102.wr W112
  have OW112 := ext_wr OW111 W112 g_b102
  replace KP := KP.wr W112 (Or.inr z_b102)
  refine Go.dup X112 hx (hb hby d5_363) rfl (q := 364) rfl ?_
  refine Go.bipush X112 hx (hb hby d5_364) (r := (10 : Int32)) rfl (q := 366) rfl ?_
  refine Go.bipush X112 hx (hb hby d5_366) (r := (32 : Int32)) rfl (q := 368) rfl ?_
  refine Go.cst X112 hx hZ e112 V112 ⟨by decide, by decide⟩ (i := 10) rfl (Nat.le_of_ble_eq_true rfl) (hb hby d5_368) ?_
  intro T113 h113 X113 e113 W113 V113
  replace V113 : Arv Z h113 b102 k102 .char (20 : Int32) [(.int 117), (.int 110), (.int 101), (.int 120), (.int 112), (.int 101), (.int 99), (.int 116), (.int 101), (.int 100), (.int 32), (.int 0), (.int 0), (.int 0), (.int 0), (.int 0), (.int 0), (.int 0), (.int 0), (.int 0)] (.int 0) := V113
  have N113 := Fr.snoc X113 N112 g_b102
  replace A101 := A101.wr W113
  replace F101_value := F101_value.other W113 (Or.inl ne_b101_b102)
  replace F101_coder := F101_coder.other W113 (Or.inl ne_b101_b102)
  replace B102 := B102.wr W113
  have OW113 := ext_wr OW112 W113 g_b102
  replace KP := KP.wr W113 (Or.inr z_b102)
  refine Go.dup X113 hx (hb hby d5_369) rfl (q := 370) rfl ?_
  refine Go.bipush X113 hx (hb hby d5_370) (r := (11 : Int32)) rfl (q := 372) rfl ?_
  refine Go.bipush X113 hx (hb hby d5_372) (r := (97 : Int32)) rfl (q := 374) rfl ?_
  refine Go.cst X113 hx hZ e113 V113 ⟨by decide, by decide⟩ (i := 11) rfl (Nat.le_of_ble_eq_true rfl) (hb hby d5_374) ?_
  intro T114 h114 X114 e114 W114 V114
  replace V114 : Arv Z h114 b102 k102 .char (20 : Int32) [(.int 117), (.int 110), (.int 101), (.int 120), (.int 112), (.int 101), (.int 99), (.int 116), (.int 101), (.int 100), (.int 32), (.int 97), (.int 0), (.int 0), (.int 0), (.int 0), (.int 0), (.int 0), (.int 0), (.int 0)] (.int 0) := V114
  have N114 := Fr.snoc X114 N113 g_b102
  replace A101 := A101.wr W114
  replace F101_value := F101_value.other W114 (Or.inl ne_b101_b102)
  replace F101_coder := F101_coder.other W114 (Or.inl ne_b101_b102)
  replace B102 := B102.wr W114
  have OW114 := ext_wr OW113 W114 g_b102
  replace KP := KP.wr W114 (Or.inr z_b102)
  refine Go.dup X114 hx (hb hby d5_375) rfl (q := 376) rfl ?_
  refine Go.bipush X114 hx (hb hby d5_376) (r := (12 : Int32)) rfl (q := 378) rfl ?_
  refine Go.bipush X114 hx (hb hby d5_378) (r := (114 : Int32)) rfl (q := 380) rfl ?_
  refine Go.cst X114 hx hZ e114 V114 ⟨by decide, by decide⟩ (i := 12) rfl (Nat.le_of_ble_eq_true rfl) (hb hby d5_380) ?_
  intro T115 h115 X115 e115 W115 V115
  replace V115 : Arv Z h115 b102 k102 .char (20 : Int32) [(.int 117), (.int 110), (.int 101), (.int 120), (.int 112), (.int 101), (.int 99), (.int 116), (.int 101), (.int 100), (.int 32), (.int 97), (.int 114), (.int 0), (.int 0), (.int 0), (.int 0), (.int 0), (.int 0), (.int 0)] (.int 0) := V115
  have N115 := Fr.snoc X115 N114 g_b102
  replace A101 := A101.wr W115
  replace F101_value := F101_value.other W115 (Or.inl ne_b101_b102)
  replace F101_coder := F101_coder.other W115 (Or.inl ne_b101_b102)
  replace B102 := B102.wr W115
  have OW115 := ext_wr OW114 W115 g_b102
  replace KP := KP.wr W115 (Or.inr z_b102)
  refine Go.dup X115 hx (hb hby d5_381) rfl (q := 382) rfl ?_
  refine Go.bipush X115 hx (hb hby d5_382) (r := (13 : Int32)) rfl (q := 384) rfl ?_
  refine Go.bipush X115 hx (hb hby d5_384) (r := (103 : Int32)) rfl (q := 386) rfl ?_
  refine Go.cst X115 hx hZ e115 V115 ⟨by decide, by decide⟩ (i := 13) rfl (Nat.le_of_ble_eq_true rfl) (hb hby d5_386) ?_
  intro T116 h116 X116 e116 W116 V116
  replace V116 : Arv Z h116 b102 k102 .char (20 : Int32) [(.int 117), (.int 110), (.int 101), (.int 120), (.int 112), (.int 101), (.int 99), (.int 116), (.int 101), (.int 100), (.int 32), (.int 97), (.int 114), (.int 103), (.int 0), (.int 0), (.int 0), (.int 0), (.int 0), (.int 0)] (.int 0) := V116
  have N116 := Fr.snoc X116 N115 g_b102
  replace A101 := A101.wr W116
  replace F101_value := F101_value.other W116 (Or.inl ne_b101_b102)
  replace F101_coder := F101_coder.other W116 (Or.inl ne_b101_b102)
  replace B102 := B102.wr W116
  have OW116 := ext_wr OW115 W116 g_b102
  replace KP := KP.wr W116 (Or.inr z_b102)
  refine Go.dup X116 hx (hb hby d5_387) rfl (q := 388) rfl ?_
  refine Go.bipush X116 hx (hb hby d5_388) (r := (14 : Int32)) rfl (q := 390) rfl ?_
  refine Go.bipush X116 hx (hb hby d5_390) (r := (117 : Int32)) rfl (q := 392) rfl ?_
  refine Go.cst X116 hx hZ e116 V116 ⟨by decide, by decide⟩ (i := 14) rfl (Nat.le_of_ble_eq_true rfl) (hb hby d5_392) ?_
  intro T117 h117 X117 e117 W117 V117
  replace V117 : Arv Z h117 b102 k102 .char (20 : Int32) [(.int 117), (.int 110), (.int 101), (.int 120), (.int 112), (.int 101), (.int 99), (.int 116), (.int 101), (.int 100), (.int 32), (.int 97), (.int 114), (.int 103), (.int 117), (.int 0), (.int 0), (.int 0), (.int 0), (.int 0)] (.int 0) := V117
  have N117 := Fr.snoc X117 N116 g_b102
  replace A101 := A101.wr W117
  replace F101_value := F101_value.other W117 (Or.inl ne_b101_b102)
  replace F101_coder := F101_coder.other W117 (Or.inl ne_b101_b102)
  replace B102 := B102.wr W117
  have OW117 := ext_wr OW116 W117 g_b102
  replace KP := KP.wr W117 (Or.inr z_b102)
  refine Go.dup X117 hx (hb hby d5_393) rfl (q := 394) rfl ?_
  refine Go.bipush X117 hx (hb hby d5_394) (r := (15 : Int32)) rfl (q := 396) rfl ?_
  refine Go.bipush X117 hx (hb hby d5_396) (r := (109 : Int32)) rfl (q := 398) rfl ?_
  refine Go.cst X117 hx hZ e117 V117 ⟨by decide, by decide⟩ (i := 15) rfl (Nat.le_of_ble_eq_true rfl) (hb hby d5_398) ?_
  intro T118 h118 X118 e118 W118 V118
  replace V118 : Arv Z h118 b102 k102 .char (20 : Int32) [(.int 117), (.int 110), (.int 101), (.int 120), (.int 112), (.int 101), (.int 99), (.int 116), (.int 101), (.int 100), (.int 32), (.int 97), (.int 114), (.int 103), (.int 117), (.int 109), (.int 0), (.int 0), (.int 0), (.int 0)] (.int 0) := V118
  have N118 := Fr.snoc X118 N117 g_b102
  replace A101 := A101.wr W118
  replace F101_value := F101_value.other W118 (Or.inl ne_b101_b102)
  replace F101_coder := F101_coder.other W118 (Or.inl ne_b101_b102)
  replace B102 := B102.wr W118
  have OW118 := ext_wr OW117 W118 g_b102
  replace KP := KP.wr W118 (Or.inr z_b102)
  refine Go.dup X118 hx (hb hby d5_399) rfl (q := 400) rfl ?_
  refine Go.bipush X118 hx (hb hby d5_400) (r := (16 : Int32)) rfl (q := 402) rfl ?_
  refine Go.bipush X118 hx (hb hby d5_402) (r := (101 : Int32)) rfl (q := 404) rfl ?_
  refine Go.cst X118 hx hZ e118 V118 ⟨by decide, by decide⟩ (i := 16) rfl (Nat.le_of_ble_eq_true rfl) (hb hby d5_404) ?_
  intro T119 h119 X119 e119 W119 V119
  replace V119 : Arv Z h119 b102 k102 .char (20 : Int32) [(.int 117), (.int 110), (.int 101), (.int 120), (.int 112), (.int 101), (.int 99), (.int 116), (.int 101), (.int 100), (.int 32), (.int 97), (.int 114), (.int 103), (.int 117), (.int 109), (.int 101), (.int 0), (.int 0), (.int 0)] (.int 0) := V119
  have N119 := Fr.snoc X119 N118 g_b102
  replace A101 := A101.wr W119
  replace F101_value := F101_value.other W119 (Or.inl ne_b101_b102)
  replace F101_coder := F101_coder.other W119 (Or.inl ne_b101_b102)
  replace B102 := B102.wr W119
  have OW119 := ext_wr OW118 W119 g_b102
  replace KP := KP.wr W119 (Or.inr z_b102)
  refine Go.dup X119 hx (hb hby d5_405) rfl (q := 406) rfl ?_
  refine Go.bipush X119 hx (hb hby d5_406) (r := (17 : Int32)) rfl (q := 408) rfl ?_
  refine Go.bipush X119 hx (hb hby d5_408) (r := (110 : Int32)) rfl (q := 410) rfl ?_
  refine Go.cst X119 hx hZ e119 V119 ⟨by decide, by decide⟩ (i := 17) rfl (Nat.le_of_ble_eq_true rfl) (hb hby d5_410) ?_
  intro T120 h120 X120 e120 W120 V120
  replace V120 : Arv Z h120 b102 k102 .char (20 : Int32) [(.int 117), (.int 110), (.int 101), (.int 120), (.int 112), (.int 101), (.int 99), (.int 116), (.int 101), (.int 100), (.int 32), (.int 97), (.int 114), (.int 103), (.int 117), (.int 109), (.int 101), (.int 110), (.int 0), (.int 0)] (.int 0) := V120
  have N120 := Fr.snoc X120 N119 g_b102
  replace A101 := A101.wr W120
  replace F101_value := F101_value.other W120 (Or.inl ne_b101_b102)
  replace F101_coder := F101_coder.other W120 (Or.inl ne_b101_b102)
  replace B102 := B102.wr W120
  have OW120 := ext_wr OW119 W120 g_b102
  replace KP := KP.wr W120 (Or.inr z_b102)
  refine Go.dup X120 hx (hb hby d5_411) rfl (q := 412) rfl ?_
  refine Go.bipush X120 hx (hb hby d5_412) (r := (18 : Int32)) rfl (q := 414) rfl ?_
  refine Go.bipush X120 hx (hb hby d5_414) (r := (116 : Int32)) rfl (q := 416) rfl ?_
  refine Go.cst X120 hx hZ e120 V120 ⟨by decide, by decide⟩ (i := 18) rfl (Nat.le_of_ble_eq_true rfl) (hb hby d5_416) ?_
  intro T121 h121 X121 e121 W121 V121
  replace V121 : Arv Z h121 b102 k102 .char (20 : Int32) [(.int 117), (.int 110), (.int 101), (.int 120), (.int 112), (.int 101), (.int 99), (.int 116), (.int 101), (.int 100), (.int 32), (.int 97), (.int 114), (.int 103), (.int 117), (.int 109), (.int 101), (.int 110), (.int 116), (.int 0)] (.int 0) := V121
  have N121 := Fr.snoc X121 N120 g_b102
  replace A101 := A101.wr W121
  replace F101_value := F101_value.other W121 (Or.inl ne_b101_b102)
  replace F101_coder := F101_coder.other W121 (Or.inl ne_b101_b102)
  replace B102 := B102.wr W121
  have OW121 := ext_wr OW120 W121 g_b102
  replace KP := KP.wr W121 (Or.inr z_b102)
  refine Go.dup X121 hx (hb hby d5_417) rfl (q := 418) rfl ?_
  refine Go.bipush X121 hx (hb hby d5_418) (r := (19 : Int32)) rfl (q := 420) rfl ?_
  refine Go.bipush X121 hx (hb hby d5_420) (r := (32 : Int32)) rfl (q := 422) rfl ?_
  refine Go.cst X121 hx hZ e121 V121 ⟨by decide, by decide⟩ (i := 19) rfl (Nat.le_of_ble_eq_true rfl) (hb hby d5_422) ?_
  intro T122 h122 X122 e122 W122 V122
  replace V122 : Arv Z h122 b102 k102 .char (20 : Int32) [(.int 117), (.int 110), (.int 101), (.int 120), (.int 112), (.int 101), (.int 99), (.int 116), (.int 101), (.int 100), (.int 32), (.int 97), (.int 114), (.int 103), (.int 117), (.int 109), (.int 101), (.int 110), (.int 116), (.int 32)] (.int 0) := V122
  have N122 := Fr.snoc X122 N121 g_b102
  replace A101 := A101.wr W122
  replace F101_value := F101_value.other W122 (Or.inl ne_b101_b102)
  replace F101_coder := F101_coder.other W122 (Or.inl ne_b101_b102)
  replace B102 := B102.wr W122
  have OW122 := ext_wr OW121 W122 g_b102
  replace KP := KP.wr W122 (Or.inr z_b102)
  refine Go.init X122 hx hZ hown rfl (wd8 hw) (wd9 hw) (wd6 hw) (wd10 hw) (by decide) (csj l Z a0 hw b101 b102 ((20 : Int32)) (k102) cs ([(.int 117), (.int 110), (.int 101), (.int 120), (.int 112), (.int 101), (.int 99), (.int 116), (.int 101), (.int 100), (.int 32), (.int 97), (.int 114), (.int 103), (.int 117), (.int 109), (.int 101), (.int 110), (.int 116), (.int 32)]) ([(.int 117), (.int 110), (.int 101), (.int 120), (.int 112), (.int 101), (.int 99), (.int 116), (.int 101), (.int 100), (.int 32), (.int 97), (.int 114), (.int 103), (.int 117), (.int 109), (.int 101), (.int 110), (.int 116), (.int 32)]) h122 OW122 A101 F101_value F101_coder g_b101 V122 SCS hcs ⟨by decide, by decide, rfl, (own_ua own_an)⟩) e122 (by rw [hml]; rfl) (hb hby d5_423) (argsL := [(.ref b102)]) (rest := [(.ref b101)]) (lenOf pd5 rfl) rfl rfl (W := 1) (Nat.le_refl _) (by decide) ?_
  intro v123 T123 L123 X123 hQ123
  obtain ⟨h123, e123⟩ : ∃ z, T123.heap = z := ⟨_, rfl⟩
  rw [e123] at hQ123
  obtain ⟨b_123, kb_123, rfl, N123q, K123, fr123_b, P123_0, P123_1, P123_2⟩ := hQ123
  have N123 := Fr.app N122 N123q
  have ne_b101_b_123 : b101 ≠ b_123 := ne_new A101.lt fr123_b
  have ne_b102_b_123 : b102 ≠ b_123 := ne_new B102.lt fr123_b
  have g_b_123 : Z.heap.size ≤ b_123 := Nat.le_trans OW122.1 fr123_b
  have z_b_123 : h0.size ≤ b_123 := Nat.le_trans KP.1 fr123_b
  replace A101 := A101.keep K123
  replace B102 := B102.keep K123
  replace V122 := V122.keep K123 (ninS (Ne.symm ne_b101_b102) nin0)
  have OK123 := ext_keep OW122 K123 (allS g_b101 all0)
  replace KP := KP.trans K123 (allS (Or.inr z_b101) all0)
  exact Go.retA X123 hx hret hlk rfl rfl (hb hby d5_426) e123 (by decide) (by decide) ⟨b101, b_123, kb_123, rfl, N123, KP, z_b101, z_b_123, A101, P123_1, P123_0, P123_2⟩
def Q_cex01 (Z : State) (c0 c1 c2 cs : Int32) (h0 : Heap) (vR : Option Value) (hR : Heap) (LR : List Loc) : Prop := ∃ s : Addr, ∃ b : Addr, ∃ kb : ClassId, vR = some (.ref s) ∧ Fr Z.heap.size LR ∧ Keep h0 hR [] ∧ h0.size ≤ s ∧ h0.size ≤ b ∧ Exa Z hR s xS0 ∧ Fld Z hR s xS0 "coder" "B" (.int 0) ∧ Fld Z hR s xS0 "value" "[B" (.ref b) ∧ Arv Z hR b kb .byte (21 : Int32) [(.int 117), (.int 110), (.int 101), (.int 120), (.int 112), (.int 101), (.int 99), (.int 116), (.int 101), (.int 100), (.int 32), (.int 97), (.int 114), (.int 103), (.int 117), (.int 109), (.int 101), (.int 110), (.int 116), (.int 32), (.int (c0.toInt8.toInt32))] (.int 0)
theorem cex01 (l : Launch) (Z : State) (a0 : Array Value) (hw : ∀ d ∈ tables_1, d.before a0 Z = true) (c0 c1 c2 cs : Int32) (h0 : Heap) (O0 : Ext Z.heap h0) (SCS : Sta Z Z.heap xS0 xS3 "Z" (.int cs)) (hcs : ¬ (cs = (0 : Int32))) (hn0 : nar .char c0 = c0) (hc0 : ¬ ((255 : Int32) < c0)) :
    Ctr l Z h0 (⟨xS5, "expected", "(ZICCC)Ljava/lang/String;"⟩ : MethodName) k5 5 (some (.object xS0)) [] ({ frames := 4, cells := 3, slots := 48, locals := 66 } : Room) #[(.int 0), (.int 1), (.int c0), (.int c1), (.int c2)] (Q_cex01 Z c0 c1 c2 cs h0) := by
  refine enter (plainFor_of_name pn2) ?_
  intro pp ee ss mm below meth cc s₁ hx hby hml hZ hown hnm hret hlk X0 e0 hs0
  replace hown : ss.vm.findClass xS5 = some mm.cls := hown
  refine Go.cast (congrArg s₁.setTop (ef_cex01 mm c0 c1 c2)) ?_
  have N0 := Fr.nil Z.heap.size
  have KP := Keep.refl h0 []
  show Go pp ee below _ (s₁.setTop (mkF mm 0 #[.val (.int 0), .val (.int 1), .val (.int c0), .val (.int c1), .val (.int c2)] []))
  refine Go.iloadN X0 hx (hb hby d5_0) rfl (q := 1) rfl ?_
  refine Go.ifYes X0 hx (hb hby d5_1) (by decide) (q := 297) (by decide) (by decide) ?_
  refine Go.iloadN X0 hx (hb hby d5_297) rfl (q := 298) rfl ?_
  refine Go.ifYes X0 hx (hb hby d5_298) (by decide) (q := 427) (by decide) (by decide) ?_
  refine Go.iloadN X0 hx (hb hby d5_427) rfl (q := 428) rfl ?_
  refine Go.iconst X0 hx (hb hby d5_428) (r := (1 : Int32)) rfl (q := 429) rfl ?_
  refine Go.icmpNo X0 hx (hb hby d5_429) (by decide) (q := 432) rfl ?_
  refine Go.newO X0 hx hZ hown (wd4 hw) (wd5 hw) (wd6 hw) e0 (hb hby d5_432) (by decide) (by decide) (q := 435) rfl ?_
  intro b101 T101 h101 X101 e101 q101 E101 A101 D101 U101
  have g_b101 : Z.heap.size ≤ b101 := Nat.le_trans O0.1 (Nat.le_of_eq q101)
  have z_b101 : h0.size ≤ b101 := Nat.le_trans KP.1 (Nat.le_of_eq q101)
  have OE101 := ext_trans O0 E101
  replace KP := KP.ext E101
  have F101_value : Fld Z h101 b101 xS0 "value" "[B" .null := D101 (Or.inr (wd20 hw)) (ty := (.array .byte)) (by decide)
  have F101_coder : Fld Z h101 b101 xS0 "coder" "B" (.int 0) := D101 (Or.inr (wd21 hw)) (ty := .byte) (by decide)
  clear D101
  refine Go.dup X101 hx (hb hby d5_435) rfl (q := 436) rfl ?_
  refine Go.bipush X101 hx (hb hby d5_436) (r := (21 : Int32)) rfl (q := 438) rfl ?_
  refine Go.newP X101 hx hZ (hb hby d5_438) (wd7 hw) e101 (by decide) (cap := 21) (by decide) (by decide) (by decide) (by decide) (ad := "[C") rfl (q := 440) rfl ?_
  intro b102 T102 h102 k102 X102 e102 q102 E102 V102 B102
  have ne_b101_b102 : b101 ≠ b102 := ne_new A101.lt (Nat.le_of_eq q102)
  have g_b102 : Z.heap.size ≤ b102 := Nat.le_trans OE101.1 (Nat.le_of_eq q102)
  have z_b102 : h0.size ≤ b102 := Nat.le_trans KP.1 (Nat.le_of_eq q102)
  replace A101 := A101.ext E102
  replace F101_value := F101_value.ext E102
  replace F101_coder := F101_coder.ext E102
  have OE102 := ext_trans OE101 E102
  replace KP := KP.ext E102
  replace V102 : Arv Z h102 b102 k102 .char (21 : Int32) [(.int 0), (.int 0), (.int 0), (.int 0), (.int 0), (.int 0), (.int 0), (.int 0), (.int 0), (.int 0), (.int 0), (.int 0), (.int 0), (.int 0), (.int 0), (.int 0), (.int 0), (.int 0), (.int 0), (.int 0), (.int 0)] (.int 0) := V102.pad (pad_rep [] (.int 0) 21)
  refine Go.dup X102 hx (hb hby d5_440) rfl (q := 441) rfl ?_
  refine Go.iconst X102 hx (hb hby d5_441) (r := (0 : Int32)) rfl (q := 442) rfl ?_
  refine Go.bipush X102 hx (hb hby d5_442) (r := (117 : Int32)) rfl (q := 444) rfl ?_
  refine Go.cst X102 hx hZ e102 V102 ⟨by decide, by decide⟩ (i := 0) rfl (Nat.le_of_ble_eq_true rfl) (hb hby d5_444) ?_
  intro T103 h103 X103 e103 W103 V103
  replace V103 : Arv Z h103 b102 k102 .char (21 : Int32) [(.int 117), (.int 0), (.int 0), (.int 0), (.int 0), (.int 0), (.int 0), (.int 0), (.int 0), (.int 0), (.int 0), (.int 0), (.int 0), (.int 0), (.int 0), (.int 0), (.int 0), (.int 0), (.int 0), (.int 0), (.int 0)] (.int 0) := V103
  have N103 := Fr.snoc X103 N0 g_b102
  replace A101 := A101.wr W103
  replace F101_value := F101_value.other W103 (Or.inl ne_b101_b102)
  replace F101_coder := F101_coder.other W103 (Or.inl ne_b101_b102)
  replace B102 := B102.wr W103
  have OW103 := ext_wr OE102 W103 g_b102
  replace KP := KP.wr W103 (Or.inr z_b102)
  refine Go.dup X103 hx (hb hby d5_445) rfl (q := 446) rfl ?_
  refine Go.iconst X103 hx (hb hby d5_446) (r := (1 : Int32)) rfl (q := 447) rfl ?_
  refine Go.bipush X103 hx (hb hby d5_447) (r := (110 : Int32)) rfl (q := 449) rfl ?_
  refine Go.cst X103 hx hZ e103 V103 ⟨by decide, by decide⟩ (i := 1) rfl (Nat.le_of_ble_eq_true rfl) (hb hby d5_449) ?_
  intro T104 h104 X104 e104 W104 V104
  replace V104 : Arv Z h104 b102 k102 .char (21 : Int32) [(.int 117), (.int 110), (.int 0), (.int 0), (.int 0), (.int 0), (.int 0), (.int 0), (.int 0), (.int 0), (.int 0), (.int 0), (.int 0), (.int 0), (.int 0), (.int 0), (.int 0), (.int 0), (.int 0), (.int 0), (.int 0)] (.int 0) := V104
  have N104 := Fr.snoc X104 N103 g_b102
  replace A101 := A101.wr W104
  replace F101_value := F101_value.other W104 (Or.inl ne_b101_b102)
  replace F101_coder := F101_coder.other W104 (Or.inl ne_b101_b102)
  replace B102 := B102.wr W104
  have OW104 := ext_wr OW103 W104 g_b102
  replace KP := KP.wr W104 (Or.inr z_b102)
  refine Go.dup X104 hx (hb hby d5_450) rfl (q := 451) rfl ?_
  refine Go.iconst X104 hx (hb hby d5_451) (r := (2 : Int32)) rfl (q := 452) rfl ?_
  refine Go.bipush X104 hx (hb hby d5_452) (r := (101 : Int32)) rfl (q := 454) rfl ?_
  refine Go.cst X104 hx hZ e104 V104 ⟨by decide, by decide⟩ (i := 2) rfl (Nat.le_of_ble_eq_true rfl) (hb hby d5_454) ?_
  intro T105 h105 X105 e105 W105 V105
  replace V105 : Arv Z h105 b102 k102 .char (21 : Int32) [(.int 117), (.int 110), (.int 101), (.int 0), (.int 0), (.int 0), (.int 0), (.int 0), (.int 0), (.int 0), (.int 0), (.int 0), (.int 0), (.int 0), (.int 0), (.int 0), (.int 0), (.int 0), (.int 0), (.int 0), (.int 0)] (.int 0) := V105
  have N105 := Fr.snoc X105 N104 g_b102
  replace A101 := A101.wr W105
  replace F101_value := F101_value.other W105 (Or.inl ne_b101_b102)
  replace F101_coder := F101_coder.other W105 (Or.inl ne_b101_b102)
  replace B102 := B102.wr W105
  have OW105 := ext_wr OW104 W105 g_b102
  replace KP := KP.wr W105 (Or.inr z_b102)
  refine Go.dup X105 hx (hb hby d5_455) rfl (q := 456) rfl ?_
  refine Go.iconst X105 hx (hb hby d5_456) (r := (3 : Int32)) rfl (q := 457) rfl ?_
  refine Go.bipush X105 hx (hb hby d5_457) (r := (120 : Int32)) rfl (q := 459) rfl ?_
  refine Go.cst X105 hx hZ e105 V105 ⟨by decide, by decide⟩ (i := 3) rfl (Nat.le_of_ble_eq_true rfl) (hb hby d5_459) ?_
  intro T106 h106 X106 e106 W106 V106
  replace V106 : Arv Z h106 b102 k102 .char (21 : Int32) [(.int 117), (.int 110), (.int 101), (.int 120), (.int 0), (.int 0), (.int 0), (.int 0), (.int 0), (.int 0), (.int 0), (.int 0), (.int 0), (.int 0), (.int 0), (.int 0), (.int 0), (.int 0), (.int 0), (.int 0), (.int 0)] (.int 0) := V106
  have N106 := Fr.snoc X106 N105 g_b102
  replace A101 := A101.wr W106
  replace F101_value := F101_value.other W106 (Or.inl ne_b101_b102)
  replace F101_coder := F101_coder.other W106 (Or.inl ne_b101_b102)
  replace B102 := B102.wr W106
  have OW106 := ext_wr OW105 W106 g_b102
  replace KP := KP.wr W106 (Or.inr z_b102)
  refine Go.dup X106 hx (hb hby d5_460) rfl (q := 461) rfl ?_
  refine Go.iconst X106 hx (hb hby d5_461) (r := (4 : Int32)) rfl (q := 462) rfl ?_
  refine Go.bipush X106 hx (hb hby d5_462) (r := (112 : Int32)) rfl (q := 464) rfl ?_
  refine Go.cst X106 hx hZ e106 V106 ⟨by decide, by decide⟩ (i := 4) rfl (Nat.le_of_ble_eq_true rfl) (hb hby d5_464) ?_
  intro T107 h107 X107 e107 W107 V107
  replace V107 : Arv Z h107 b102 k102 .char (21 : Int32) [(.int 117), (.int 110), (.int 101), (.int 120), (.int 112), (.int 0), (.int 0), (.int 0), (.int 0), (.int 0), (.int 0), (.int 0), (.int 0), (.int 0), (.int 0), (.int 0), (.int 0), (.int 0), (.int 0), (.int 0), (.int 0)] (.int 0) := V107
  have N107 := Fr.snoc X107 N106 g_b102
  replace A101 := A101.wr W107
  replace F101_value := F101_value.other W107 (Or.inl ne_b101_b102)
  replace F101_coder := F101_coder.other W107 (Or.inl ne_b101_b102)
  replace B102 := B102.wr W107
  have OW107 := ext_wr OW106 W107 g_b102
  replace KP := KP.wr W107 (Or.inr z_b102)
  refine Go.dup X107 hx (hb hby d5_465) rfl (q := 466) rfl ?_
  refine Go.iconst X107 hx (hb hby d5_466) (r := (5 : Int32)) rfl (q := 467) rfl ?_
  refine Go.bipush X107 hx (hb hby d5_467) (r := (101 : Int32)) rfl (q := 469) rfl ?_
  refine Go.cst X107 hx hZ e107 V107 ⟨by decide, by decide⟩ (i := 5) rfl (Nat.le_of_ble_eq_true rfl) (hb hby d5_469) ?_
  intro T108 h108 X108 e108 W108 V108
  replace V108 : Arv Z h108 b102 k102 .char (21 : Int32) [(.int 117), (.int 110), (.int 101), (.int 120), (.int 112), (.int 101), (.int 0), (.int 0), (.int 0), (.int 0), (.int 0), (.int 0), (.int 0), (.int 0), (.int 0), (.int 0), (.int 0), (.int 0), (.int 0), (.int 0), (.int 0)] (.int 0) := V108
  have N108 := Fr.snoc X108 N107 g_b102
  replace A101 := A101.wr W108
  replace F101_value := F101_value.other W108 (Or.inl ne_b101_b102)
  replace F101_coder := F101_coder.other W108 (Or.inl ne_b101_b102)
  replace B102 := B102.wr W108
  have OW108 := ext_wr OW107 W108 g_b102
  replace KP := KP.wr W108 (Or.inr z_b102)
  refine Go.dup X108 hx (hb hby d5_470) rfl (q := 471) rfl ?_
  refine Go.bipush X108 hx (hb hby d5_471) (r := (6 : Int32)) rfl (q := 473) rfl ?_
  refine Go.bipush X108 hx (hb hby d5_473) (r := (99 : Int32)) rfl (q := 475) rfl ?_
  refine Go.cst X108 hx hZ e108 V108 ⟨by decide, by decide⟩ (i := 6) rfl (Nat.le_of_ble_eq_true rfl) (hb hby d5_475) ?_
  intro T109 h109 X109 e109 W109 V109
  replace V109 : Arv Z h109 b102 k102 .char (21 : Int32) [(.int 117), (.int 110), (.int 101), (.int 120), (.int 112), (.int 101), (.int 99), (.int 0), (.int 0), (.int 0), (.int 0), (.int 0), (.int 0), (.int 0), (.int 0), (.int 0), (.int 0), (.int 0), (.int 0), (.int 0), (.int 0)] (.int 0) := V109
  have N109 := Fr.snoc X109 N108 g_b102
  replace A101 := A101.wr W109
  replace F101_value := F101_value.other W109 (Or.inl ne_b101_b102)
  replace F101_coder := F101_coder.other W109 (Or.inl ne_b101_b102)
  replace B102 := B102.wr W109
  have OW109 := ext_wr OW108 W109 g_b102
  replace KP := KP.wr W109 (Or.inr z_b102)
  refine Go.dup X109 hx (hb hby d5_476) rfl (q := 477) rfl ?_
  refine Go.bipush X109 hx (hb hby d5_477) (r := (7 : Int32)) rfl (q := 479) rfl ?_
  refine Go.bipush X109 hx (hb hby d5_479) (r := (116 : Int32)) rfl (q := 481) rfl ?_
  refine Go.cst X109 hx hZ e109 V109 ⟨by decide, by decide⟩ (i := 7) rfl (Nat.le_of_ble_eq_true rfl) (hb hby d5_481) ?_
  intro T110 h110 X110 e110 W110 V110
  replace V110 : Arv Z h110 b102 k102 .char (21 : Int32) [(.int 117), (.int 110), (.int 101), (.int 120), (.int 112), (.int 101), (.int 99), (.int 116), (.int 0), (.int 0), (.int 0), (.int 0), (.int 0), (.int 0), (.int 0), (.int 0), (.int 0), (.int 0), (.int 0), (.int 0), (.int 0)] (.int 0) := V110
  have N110 := Fr.snoc X110 N109 g_b102
  replace A101 := A101.wr W110
  replace F101_value := F101_value.other W110 (Or.inl ne_b101_b102)
  replace F101_coder := F101_coder.other W110 (Or.inl ne_b101_b102)
  replace B102 := B102.wr W110
  have OW110 := ext_wr OW109 W110 g_b102
  replace KP := KP.wr W110 (Or.inr z_b102)
  refine Go.dup X110 hx (hb hby d5_482) rfl (q := 483) rfl ?_
  refine Go.bipush X110 hx (hb hby d5_483) (r := (8 : Int32)) rfl (q := 485) rfl ?_
  refine Go.bipush X110 hx (hb hby d5_485) (r := (101 : Int32)) rfl (q := 487) rfl ?_
  refine Go.cst X110 hx hZ e110 V110 ⟨by decide, by decide⟩ (i := 8) rfl (Nat.le_of_ble_eq_true rfl) (hb hby d5_487) ?_
  intro T111 h111 X111 e111 W111 V111
  replace V111 : Arv Z h111 b102 k102 .char (21 : Int32) [(.int 117), (.int 110), (.int 101), (.int 120), (.int 112), (.int 101), (.int 99), (.int 116), (.int 101), (.int 0), (.int 0), (.int 0), (.int 0), (.int 0), (.int 0), (.int 0), (.int 0), (.int 0), (.int 0), (.int 0), (.int 0)] (.int 0) := V111
  have N111 := Fr.snoc X111 N110 g_b102
  replace A101 := A101.wr W111
  replace F101_value := F101_value.other W111 (Or.inl ne_b101_b102)
  replace F101_coder := F101_coder.other W111 (Or.inl ne_b101_b102)
  replace B102 := B102.wr W111
  have OW111 := ext_wr OW110 W111 g_b102
  replace KP := KP.wr W111 (Or.inr z_b102)
  refine Go.dup X111 hx (hb hby d5_488) rfl (q := 489) rfl ?_
  refine Go.bipush X111 hx (hb hby d5_489) (r := (9 : Int32)) rfl (q := 491) rfl ?_
  refine Go.bipush X111 hx (hb hby d5_491) (r := (100 : Int32)) rfl (q := 493) rfl ?_
  refine Go.cst X111 hx hZ e111 V111 ⟨by decide, by decide⟩ (i := 9) rfl (Nat.le_of_ble_eq_true rfl) (hb hby d5_493) ?_
  intro T112 h112 X112 e112 W112 V112
  replace V112 : Arv Z h112 b102 k102 .char (21 : Int32) [(.int 117), (.int 110), (.int 101), (.int 120), (.int 112), (.int 101), (.int 99), (.int 116), (.int 101), (.int 100), (.int 0), (.int 0), (.int 0), (.int 0), (.int 0), (.int 0), (.int 0), (.int 0), (.int 0), (.int 0), (.int 0)] (.int 0) := V112
  have N112 := Fr.snoc X112 N111 g_b102
  replace A101 := A101.wr W112
  replace F101_value := F101_value.other W112 (Or.inl ne_b101_b102)
  replace F101_coder := F101_coder.other W112 (Or.inl ne_b101_b102)
  replace B102 := B102.wr W112
  have OW112 := ext_wr OW111 W112 g_b102
  replace KP := KP.wr W112 (Or.inr z_b102)
  refine Go.dup X112 hx (hb hby d5_494) rfl (q := 495) rfl ?_
  refine Go.bipush X112 hx (hb hby d5_495) (r := (10 : Int32)) rfl (q := 497) rfl ?_
  refine Go.bipush X112 hx (hb hby d5_497) (r := (32 : Int32)) rfl (q := 499) rfl ?_
  refine Go.cst X112 hx hZ e112 V112 ⟨by decide, by decide⟩ (i := 10) rfl (Nat.le_of_ble_eq_true rfl) (hb hby d5_499) ?_
  intro T113 h113 X113 e113 W113 V113
  replace V113 : Arv Z h113 b102 k102 .char (21 : Int32) [(.int 117), (.int 110), (.int 101), (.int 120), (.int 112), (.int 101), (.int 99), (.int 116), (.int 101), (.int 100), (.int 32), (.int 0), (.int 0), (.int 0), (.int 0), (.int 0), (.int 0), (.int 0), (.int 0), (.int 0), (.int 0)] (.int 0) := V113
  have N113 := Fr.snoc X113 N112 g_b102
  replace A101 := A101.wr W113
  replace F101_value := F101_value.other W113 (Or.inl ne_b101_b102)
  replace F101_coder := F101_coder.other W113 (Or.inl ne_b101_b102)
  replace B102 := B102.wr W113
  have OW113 := ext_wr OW112 W113 g_b102
  replace KP := KP.wr W113 (Or.inr z_b102)
  refine Go.dup X113 hx (hb hby d5_500) rfl (q := 501) rfl ?_
  refine Go.bipush X113 hx (hb hby d5_501) (r := (11 : Int32)) rfl (q := 503) rfl ?_
  refine Go.bipush X113 hx (hb hby d5_503) (r := (97 : Int32)) rfl (q := 505) rfl ?_
  refine Go.cst X113 hx hZ e113 V113 ⟨by decide, by decide⟩ (i := 11) rfl (Nat.le_of_ble_eq_true rfl) (hb hby d5_505) ?_
  intro T114 h114 X114 e114 W114 V114
  replace V114 : Arv Z h114 b102 k102 .char (21 : Int32) [(.int 117), (.int 110), (.int 101), (.int 120), (.int 112), (.int 101), (.int 99), (.int 116), (.int 101), (.int 100), (.int 32), (.int 97), (.int 0), (.int 0), (.int 0), (.int 0), (.int 0), (.int 0), (.int 0), (.int 0), (.int 0)] (.int 0) := V114
  have N114 := Fr.snoc X114 N113 g_b102
  replace A101 := A101.wr W114
  replace F101_value := F101_value.other W114 (Or.inl ne_b101_b102)
  replace F101_coder := F101_coder.other W114 (Or.inl ne_b101_b102)
  replace B102 := B102.wr W114
  have OW114 := ext_wr OW113 W114 g_b102
  replace KP := KP.wr W114 (Or.inr z_b102)
  refine Go.dup X114 hx (hb hby d5_506) rfl (q := 507) rfl ?_
  refine Go.bipush X114 hx (hb hby d5_507) (r := (12 : Int32)) rfl (q := 509) rfl ?_
  refine Go.bipush X114 hx (hb hby d5_509) (r := (114 : Int32)) rfl (q := 511) rfl ?_
  refine Go.cst X114 hx hZ e114 V114 ⟨by decide, by decide⟩ (i := 12) rfl (Nat.le_of_ble_eq_true rfl) (hb hby d5_511) ?_
  intro T115 h115 X115 e115 W115 V115
  replace V115 : Arv Z h115 b102 k102 .char (21 : Int32) [(.int 117), (.int 110), (.int 101), (.int 120), (.int 112), (.int 101), (.int 99), (.int 116), (.int 101), (.int 100), (.int 32), (.int 97), (.int 114), (.int 0), (.int 0), (.int 0), (.int 0), (.int 0), (.int 0), (.int 0), (.int 0)] (.int 0) := V115
  have N115 := Fr.snoc X115 N114 g_b102
  replace A101 := A101.wr W115
  replace F101_value := F101_value.other W115 (Or.inl ne_b101_b102)
  replace F101_coder := F101_coder.other W115 (Or.inl ne_b101_b102)
  replace B102 := B102.wr W115
  have OW115 := ext_wr OW114 W115 g_b102
  replace KP := KP.wr W115 (Or.inr z_b102)
  refine Go.dup X115 hx (hb hby d5_512) rfl (q := 513) rfl ?_
  refine Go.bipush X115 hx (hb hby d5_513) (r := (13 : Int32)) rfl (q := 515) rfl ?_
  refine Go.bipush X115 hx (hb hby d5_515) (r := (103 : Int32)) rfl (q := 517) rfl ?_
  refine Go.cst X115 hx hZ e115 V115 ⟨by decide, by decide⟩ (i := 13) rfl (Nat.le_of_ble_eq_true rfl) (hb hby d5_517) ?_
  intro T116 h116 X116 e116 W116 V116
  replace V116 : Arv Z h116 b102 k102 .char (21 : Int32) [(.int 117), (.int 110), (.int 101), (.int 120), (.int 112), (.int 101), (.int 99), (.int 116), (.int 101), (.int 100), (.int 32), (.int 97), (.int 114), (.int 103), (.int 0), (.int 0), (.int 0), (.int 0), (.int 0), (.int 0), (.int 0)] (.int 0) := V116
  have N116 := Fr.snoc X116 N115 g_b102
  replace A101 := A101.wr W116
  replace F101_value := F101_value.other W116 (Or.inl ne_b101_b102)
  replace F101_coder := F101_coder.other W116 (Or.inl ne_b101_b102)
  replace B102 := B102.wr W116
  have OW116 := ext_wr OW115 W116 g_b102
  replace KP := KP.wr W116 (Or.inr z_b102)
  refine Go.dup X116 hx (hb hby d5_518) rfl (q := 519) rfl ?_
  refine Go.bipush X116 hx (hb hby d5_519) (r := (14 : Int32)) rfl (q := 521) rfl ?_
  refine Go.bipush X116 hx (hb hby d5_521) (r := (117 : Int32)) rfl (q := 523) rfl ?_
  refine Go.cst X116 hx hZ e116 V116 ⟨by decide, by decide⟩ (i := 14) rfl (Nat.le_of_ble_eq_true rfl) (hb hby d5_523) ?_
  intro T117 h117 X117 e117 W117 V117
  replace V117 : Arv Z h117 b102 k102 .char (21 : Int32) [(.int 117), (.int 110), (.int 101), (.int 120), (.int 112), (.int 101), (.int 99), (.int 116), (.int 101), (.int 100), (.int 32), (.int 97), (.int 114), (.int 103), (.int 117), (.int 0), (.int 0), (.int 0), (.int 0), (.int 0), (.int 0)] (.int 0) := V117
  have N117 := Fr.snoc X117 N116 g_b102
  replace A101 := A101.wr W117
  replace F101_value := F101_value.other W117 (Or.inl ne_b101_b102)
  replace F101_coder := F101_coder.other W117 (Or.inl ne_b101_b102)
  replace B102 := B102.wr W117
  have OW117 := ext_wr OW116 W117 g_b102
  replace KP := KP.wr W117 (Or.inr z_b102)
  refine Go.dup X117 hx (hb hby d5_524) rfl (q := 525) rfl ?_
  refine Go.bipush X117 hx (hb hby d5_525) (r := (15 : Int32)) rfl (q := 527) rfl ?_
  refine Go.bipush X117 hx (hb hby d5_527) (r := (109 : Int32)) rfl (q := 529) rfl ?_
  refine Go.cst X117 hx hZ e117 V117 ⟨by decide, by decide⟩ (i := 15) rfl (Nat.le_of_ble_eq_true rfl) (hb hby d5_529) ?_
  intro T118 h118 X118 e118 W118 V118
  replace V118 : Arv Z h118 b102 k102 .char (21 : Int32) [(.int 117), (.int 110), (.int 101), (.int 120), (.int 112), (.int 101), (.int 99), (.int 116), (.int 101), (.int 100), (.int 32), (.int 97), (.int 114), (.int 103), (.int 117), (.int 109), (.int 0), (.int 0), (.int 0), (.int 0), (.int 0)] (.int 0) := V118
  have N118 := Fr.snoc X118 N117 g_b102
  replace A101 := A101.wr W118
  replace F101_value := F101_value.other W118 (Or.inl ne_b101_b102)
  replace F101_coder := F101_coder.other W118 (Or.inl ne_b101_b102)
  replace B102 := B102.wr W118
  have OW118 := ext_wr OW117 W118 g_b102
  replace KP := KP.wr W118 (Or.inr z_b102)
  refine Go.dup X118 hx (hb hby d5_530) rfl (q := 531) rfl ?_
  refine Go.bipush X118 hx (hb hby d5_531) (r := (16 : Int32)) rfl (q := 533) rfl ?_
  refine Go.bipush X118 hx (hb hby d5_533) (r := (101 : Int32)) rfl (q := 535) rfl ?_
  refine Go.cst X118 hx hZ e118 V118 ⟨by decide, by decide⟩ (i := 16) rfl (Nat.le_of_ble_eq_true rfl) (hb hby d5_535) ?_
  intro T119 h119 X119 e119 W119 V119
  replace V119 : Arv Z h119 b102 k102 .char (21 : Int32) [(.int 117), (.int 110), (.int 101), (.int 120), (.int 112), (.int 101), (.int 99), (.int 116), (.int 101), (.int 100), (.int 32), (.int 97), (.int 114), (.int 103), (.int 117), (.int 109), (.int 101), (.int 0), (.int 0), (.int 0), (.int 0)] (.int 0) := V119
  have N119 := Fr.snoc X119 N118 g_b102
  replace A101 := A101.wr W119
  replace F101_value := F101_value.other W119 (Or.inl ne_b101_b102)
  replace F101_coder := F101_coder.other W119 (Or.inl ne_b101_b102)
  replace B102 := B102.wr W119
  have OW119 := ext_wr OW118 W119 g_b102
  replace KP := KP.wr W119 (Or.inr z_b102)
  refine Go.dup X119 hx (hb hby d5_536) rfl (q := 537) rfl ?_
  refine Go.bipush X119 hx (hb hby d5_537) (r := (17 : Int32)) rfl (q := 539) rfl ?_
  refine Go.bipush X119 hx (hb hby d5_539) (r := (110 : Int32)) rfl (q := 541) rfl ?_
  refine Go.cst X119 hx hZ e119 V119 ⟨by decide, by decide⟩ (i := 17) rfl (Nat.le_of_ble_eq_true rfl) (hb hby d5_541) ?_
  intro T120 h120 X120 e120 W120 V120
  replace V120 : Arv Z h120 b102 k102 .char (21 : Int32) [(.int 117), (.int 110), (.int 101), (.int 120), (.int 112), (.int 101), (.int 99), (.int 116), (.int 101), (.int 100), (.int 32), (.int 97), (.int 114), (.int 103), (.int 117), (.int 109), (.int 101), (.int 110), (.int 0), (.int 0), (.int 0)] (.int 0) := V120
  have N120 := Fr.snoc X120 N119 g_b102
  replace A101 := A101.wr W120
  replace F101_value := F101_value.other W120 (Or.inl ne_b101_b102)
  replace F101_coder := F101_coder.other W120 (Or.inl ne_b101_b102)
  replace B102 := B102.wr W120
  have OW120 := ext_wr OW119 W120 g_b102
  replace KP := KP.wr W120 (Or.inr z_b102)
  refine Go.dup X120 hx (hb hby d5_542) rfl (q := 543) rfl ?_
  refine Go.bipush X120 hx (hb hby d5_543) (r := (18 : Int32)) rfl (q := 545) rfl ?_
  refine Go.bipush X120 hx (hb hby d5_545) (r := (116 : Int32)) rfl (q := 547) rfl ?_
  refine Go.cst X120 hx hZ e120 V120 ⟨by decide, by decide⟩ (i := 18) rfl (Nat.le_of_ble_eq_true rfl) (hb hby d5_547) ?_
  intro T121 h121 X121 e121 W121 V121
  replace V121 : Arv Z h121 b102 k102 .char (21 : Int32) [(.int 117), (.int 110), (.int 101), (.int 120), (.int 112), (.int 101), (.int 99), (.int 116), (.int 101), (.int 100), (.int 32), (.int 97), (.int 114), (.int 103), (.int 117), (.int 109), (.int 101), (.int 110), (.int 116), (.int 0), (.int 0)] (.int 0) := V121
  have N121 := Fr.snoc X121 N120 g_b102
  replace A101 := A101.wr W121
  replace F101_value := F101_value.other W121 (Or.inl ne_b101_b102)
  replace F101_coder := F101_coder.other W121 (Or.inl ne_b101_b102)
  replace B102 := B102.wr W121
  have OW121 := ext_wr OW120 W121 g_b102
  replace KP := KP.wr W121 (Or.inr z_b102)
  refine Go.dup X121 hx (hb hby d5_548) rfl (q := 549) rfl ?_
  refine Go.bipush X121 hx (hb hby d5_549) (r := (19 : Int32)) rfl (q := 551) rfl ?_
  refine Go.bipush X121 hx (hb hby d5_551) (r := (32 : Int32)) rfl (q := 553) rfl ?_
  refine Go.cst X121 hx hZ e121 V121 ⟨by decide, by decide⟩ (i := 19) rfl (Nat.le_of_ble_eq_true rfl) (hb hby d5_553) ?_
  intro T122 h122 X122 e122 W122 V122
  replace V122 : Arv Z h122 b102 k102 .char (21 : Int32) [(.int 117), (.int 110), (.int 101), (.int 120), (.int 112), (.int 101), (.int 99), (.int 116), (.int 101), (.int 100), (.int 32), (.int 97), (.int 114), (.int 103), (.int 117), (.int 109), (.int 101), (.int 110), (.int 116), (.int 32), (.int 0)] (.int 0) := V122
  have N122 := Fr.snoc X122 N121 g_b102
  replace A101 := A101.wr W122
  replace F101_value := F101_value.other W122 (Or.inl ne_b101_b102)
  replace F101_coder := F101_coder.other W122 (Or.inl ne_b101_b102)
  replace B102 := B102.wr W122
  have OW122 := ext_wr OW121 W122 g_b102
  replace KP := KP.wr W122 (Or.inr z_b102)
  refine Go.dup X122 hx (hb hby d5_554) rfl (q := 555) rfl ?_
  refine Go.bipush X122 hx (hb hby d5_555) (r := (20 : Int32)) rfl (q := 557) rfl ?_
  refine Go.iloadN X122 hx (hb hby d5_557) rfl (q := 558) rfl ?_
  refine Go.cst X122 hx hZ e122 V122 ⟨by decide, by decide⟩ (i := 20) rfl (Nat.le_of_ble_eq_true rfl) (hb hby d5_558) ?_
  intro T123 h123 X123 e123 W123 V123
  rw [hn0] at V123
  replace V123 : Arv Z h123 b102 k102 .char (21 : Int32) [(.int 117), (.int 110), (.int 101), (.int 120), (.int 112), (.int 101), (.int 99), (.int 116), (.int 101), (.int 100), (.int 32), (.int 97), (.int 114), (.int 103), (.int 117), (.int 109), (.int 101), (.int 110), (.int 116), (.int 32), (.int c0)] (.int 0) := V123
  have N123 := Fr.snoc X123 N122 g_b102
  replace A101 := A101.wr W123
  replace F101_value := F101_value.other W123 (Or.inl ne_b101_b102)
  replace F101_coder := F101_coder.other W123 (Or.inl ne_b101_b102)
  replace B102 := B102.wr W123
  have OW123 := ext_wr OW122 W123 g_b102
  replace KP := KP.wr W123 (Or.inr z_b102)
  refine Go.init X123 hx hZ hown rfl (wd8 hw) (wd9 hw) (wd6 hw) (wd10 hw) (by decide) (csj l Z a0 hw b101 b102 ((21 : Int32)) (k102) cs ([(.int 117), (.int 110), (.int 101), (.int 120), (.int 112), (.int 101), (.int 99), (.int 116), (.int 101), (.int 100), (.int 32), (.int 97), (.int 114), (.int 103), (.int 117), (.int 109), (.int 101), (.int 110), (.int 116), (.int 32), (.int c0)]) ([(.int 117), (.int 110), (.int 101), (.int 120), (.int 112), (.int 101), (.int 99), (.int 116), (.int 101), (.int 100), (.int 32), (.int 97), (.int 114), (.int 103), (.int 117), (.int 109), (.int 101), (.int 110), (.int 116), (.int 32), (.int (c0.toInt8.toInt32))]) h123 OW123 A101 F101_value F101_coder g_b101 V123 SCS hcs ⟨by decide, by decide, rfl, (own_ua (own_ac hc0 own_an))⟩) e123 (by rw [hml]; rfl) (hb hby d5_559) (argsL := [(.ref b102)]) (rest := [(.ref b101)]) (lenOf pd5 rfl) rfl rfl (W := 1) (Nat.le_refl _) (by decide) ?_
  intro v124 T124 L124 X124 hQ124
  obtain ⟨h124, e124⟩ : ∃ z, T124.heap = z := ⟨_, rfl⟩
  rw [e124] at hQ124
  obtain ⟨b_124, kb_124, rfl, N124q, K124, fr124_b, P124_0, P124_1, P124_2⟩ := hQ124
  have N124 := Fr.app N123 N124q
  have ne_b101_b_124 : b101 ≠ b_124 := ne_new A101.lt fr124_b
  have ne_b102_b_124 : b102 ≠ b_124 := ne_new B102.lt fr124_b
  have g_b_124 : Z.heap.size ≤ b_124 := Nat.le_trans OW123.1 fr124_b
  have z_b_124 : h0.size ≤ b_124 := Nat.le_trans KP.1 fr124_b
  replace A101 := A101.keep K124
  replace B102 := B102.keep K124
  replace V123 := V123.keep K124 (ninS (Ne.symm ne_b101_b102) nin0)
  have OK124 := ext_keep OW123 K124 (allS g_b101 all0)
  replace KP := KP.trans K124 (allS (Or.inr z_b101) all0)
  exact Go.retA X124 hx hret hlk rfl rfl (hb hby d5_562) e124 (by decide) (by decide) ⟨b101, b_124, kb_124, rfl, N124, KP, z_b101, z_b_124, A101, P124_1, P124_0, P124_2⟩
def Q_cex02 (Z : State) (c0 c1 c2 cs : Int32) (h0 : Heap) (vR : Option Value) (hR : Heap) (LR : List Loc) : Prop := ∃ s : Addr, ∃ b : Addr, ∃ kb : ClassId, vR = some (.ref s) ∧ Fr Z.heap.size LR ∧ Keep h0 hR [] ∧ h0.size ≤ s ∧ h0.size ≤ b ∧ Exa Z hR s xS0 ∧ Fld Z hR s xS0 "coder" "B" (.int 0) ∧ Fld Z hR s xS0 "value" "[B" (.ref b) ∧ Arv Z hR b kb .byte (22 : Int32) [(.int 117), (.int 110), (.int 101), (.int 120), (.int 112), (.int 101), (.int 99), (.int 116), (.int 101), (.int 100), (.int 32), (.int 97), (.int 114), (.int 103), (.int 117), (.int 109), (.int 101), (.int 110), (.int 116), (.int 32), (.int (c0.toInt8.toInt32)), (.int (c1.toInt8.toInt32))] (.int 0)
theorem cex02 (l : Launch) (Z : State) (a0 : Array Value) (hw : ∀ d ∈ tables_1, d.before a0 Z = true) (c0 c1 c2 cs : Int32) (h0 : Heap) (O0 : Ext Z.heap h0) (SCS : Sta Z Z.heap xS0 xS3 "Z" (.int cs)) (hcs : ¬ (cs = (0 : Int32))) (hn0 : nar .char c0 = c0) (hn1 : nar .char c1 = c1) (hc0 : ¬ ((255 : Int32) < c0)) (hc1 : ¬ ((255 : Int32) < c1)) :
    Ctr l Z h0 (⟨xS5, "expected", "(ZICCC)Ljava/lang/String;"⟩ : MethodName) k5 5 (some (.object xS0)) [] ({ frames := 4, cells := 3, slots := 49, locals := 66 } : Room) #[(.int 0), (.int 2), (.int c0), (.int c1), (.int c2)] (Q_cex02 Z c0 c1 c2 cs h0) := by
  refine enter (plainFor_of_name pn2) ?_
  intro pp ee ss mm below meth cc s₁ hx hby hml hZ hown hnm hret hlk X0 e0 hs0
  replace hown : ss.vm.findClass xS5 = some mm.cls := hown
  refine Go.cast (congrArg s₁.setTop (ef_cex02 mm c0 c1 c2)) ?_
  have N0 := Fr.nil Z.heap.size
  have KP := Keep.refl h0 []
  show Go pp ee below _ (s₁.setTop (mkF mm 0 #[.val (.int 0), .val (.int 2), .val (.int c0), .val (.int c1), .val (.int c2)] []))
  refine Go.iloadN X0 hx (hb hby d5_0) rfl (q := 1) rfl ?_
  refine Go.ifYes X0 hx (hb hby d5_1) (by decide) (q := 297) (by decide) (by decide) ?_
  refine Go.iloadN X0 hx (hb hby d5_297) rfl (q := 298) rfl ?_
  refine Go.ifYes X0 hx (hb hby d5_298) (by decide) (q := 427) (by decide) (by decide) ?_
  refine Go.iloadN X0 hx (hb hby d5_427) rfl (q := 428) rfl ?_
  refine Go.iconst X0 hx (hb hby d5_428) (r := (1 : Int32)) rfl (q := 429) rfl ?_
  refine Go.icmpYes X0 hx (hb hby d5_429) (by decide) (q := 563) (by decide) (by decide) ?_
  refine Go.iloadN X0 hx (hb hby d5_563) rfl (q := 564) rfl ?_
  refine Go.iconst X0 hx (hb hby d5_564) (r := (2 : Int32)) rfl (q := 565) rfl ?_
  refine Go.icmpNo X0 hx (hb hby d5_565) (by decide) (q := 568) rfl ?_
  refine Go.newO X0 hx hZ hown (wd4 hw) (wd5 hw) (wd6 hw) e0 (hb hby d5_568) (by decide) (by decide) (q := 571) rfl ?_
  intro b101 T101 h101 X101 e101 q101 E101 A101 D101 U101
  have g_b101 : Z.heap.size ≤ b101 := Nat.le_trans O0.1 (Nat.le_of_eq q101)
  have z_b101 : h0.size ≤ b101 := Nat.le_trans KP.1 (Nat.le_of_eq q101)
  have OE101 := ext_trans O0 E101
  replace KP := KP.ext E101
  have F101_value : Fld Z h101 b101 xS0 "value" "[B" .null := D101 (Or.inr (wd20 hw)) (ty := (.array .byte)) (by decide)
  have F101_coder : Fld Z h101 b101 xS0 "coder" "B" (.int 0) := D101 (Or.inr (wd21 hw)) (ty := .byte) (by decide)
  clear D101
  refine Go.dup X101 hx (hb hby d5_571) rfl (q := 572) rfl ?_
  refine Go.bipush X101 hx (hb hby d5_572) (r := (22 : Int32)) rfl (q := 574) rfl ?_
  refine Go.newP X101 hx hZ (hb hby d5_574) (wd7 hw) e101 (by decide) (cap := 22) (by decide) (by decide) (by decide) (by decide) (ad := "[C") rfl (q := 576) rfl ?_
  intro b102 T102 h102 k102 X102 e102 q102 E102 V102 B102
  have ne_b101_b102 : b101 ≠ b102 := ne_new A101.lt (Nat.le_of_eq q102)
  have g_b102 : Z.heap.size ≤ b102 := Nat.le_trans OE101.1 (Nat.le_of_eq q102)
  have z_b102 : h0.size ≤ b102 := Nat.le_trans KP.1 (Nat.le_of_eq q102)
  replace A101 := A101.ext E102
  replace F101_value := F101_value.ext E102
  replace F101_coder := F101_coder.ext E102
  have OE102 := ext_trans OE101 E102
  replace KP := KP.ext E102
  replace V102 : Arv Z h102 b102 k102 .char (22 : Int32) [(.int 0), (.int 0), (.int 0), (.int 0), (.int 0), (.int 0), (.int 0), (.int 0), (.int 0), (.int 0), (.int 0), (.int 0), (.int 0), (.int 0), (.int 0), (.int 0), (.int 0), (.int 0), (.int 0), (.int 0), (.int 0), (.int 0)] (.int 0) := V102.pad (pad_rep [] (.int 0) 22)
  refine Go.dup X102 hx (hb hby d5_576) rfl (q := 577) rfl ?_
  refine Go.iconst X102 hx (hb hby d5_577) (r := (0 : Int32)) rfl (q := 578) rfl ?_
  refine Go.bipush X102 hx (hb hby d5_578) (r := (117 : Int32)) rfl (q := 580) rfl ?_
  refine Go.cst X102 hx hZ e102 V102 ⟨by decide, by decide⟩ (i := 0) rfl (Nat.le_of_ble_eq_true rfl) (hb hby d5_580) ?_
  intro T103 h103 X103 e103 W103 V103
  replace V103 : Arv Z h103 b102 k102 .char (22 : Int32) [(.int 117), (.int 0), (.int 0), (.int 0), (.int 0), (.int 0), (.int 0), (.int 0), (.int 0), (.int 0), (.int 0), (.int 0), (.int 0), (.int 0), (.int 0), (.int 0), (.int 0), (.int 0), (.int 0), (.int 0), (.int 0), (.int 0)] (.int 0) := V103
  have N103 := Fr.snoc X103 N0 g_b102
  replace A101 := A101.wr W103
  replace F101_value := F101_value.other W103 (Or.inl ne_b101_b102)
  replace F101_coder := F101_coder.other W103 (Or.inl ne_b101_b102)
  replace B102 := B102.wr W103
  have OW103 := ext_wr OE102 W103 g_b102
  replace KP := KP.wr W103 (Or.inr z_b102)
  refine Go.dup X103 hx (hb hby d5_581) rfl (q := 582) rfl ?_
  refine Go.iconst X103 hx (hb hby d5_582) (r := (1 : Int32)) rfl (q := 583) rfl ?_
  refine Go.bipush X103 hx (hb hby d5_583) (r := (110 : Int32)) rfl (q := 585) rfl ?_
  refine Go.cst X103 hx hZ e103 V103 ⟨by decide, by decide⟩ (i := 1) rfl (Nat.le_of_ble_eq_true rfl) (hb hby d5_585) ?_
  intro T104 h104 X104 e104 W104 V104
  replace V104 : Arv Z h104 b102 k102 .char (22 : Int32) [(.int 117), (.int 110), (.int 0), (.int 0), (.int 0), (.int 0), (.int 0), (.int 0), (.int 0), (.int 0), (.int 0), (.int 0), (.int 0), (.int 0), (.int 0), (.int 0), (.int 0), (.int 0), (.int 0), (.int 0), (.int 0), (.int 0)] (.int 0) := V104
  have N104 := Fr.snoc X104 N103 g_b102
  replace A101 := A101.wr W104
  replace F101_value := F101_value.other W104 (Or.inl ne_b101_b102)
  replace F101_coder := F101_coder.other W104 (Or.inl ne_b101_b102)
  replace B102 := B102.wr W104
  have OW104 := ext_wr OW103 W104 g_b102
  replace KP := KP.wr W104 (Or.inr z_b102)
  refine Go.dup X104 hx (hb hby d5_586) rfl (q := 587) rfl ?_
  refine Go.iconst X104 hx (hb hby d5_587) (r := (2 : Int32)) rfl (q := 588) rfl ?_
  refine Go.bipush X104 hx (hb hby d5_588) (r := (101 : Int32)) rfl (q := 590) rfl ?_
  refine Go.cst X104 hx hZ e104 V104 ⟨by decide, by decide⟩ (i := 2) rfl (Nat.le_of_ble_eq_true rfl) (hb hby d5_590) ?_
  intro T105 h105 X105 e105 W105 V105
  replace V105 : Arv Z h105 b102 k102 .char (22 : Int32) [(.int 117), (.int 110), (.int 101), (.int 0), (.int 0), (.int 0), (.int 0), (.int 0), (.int 0), (.int 0), (.int 0), (.int 0), (.int 0), (.int 0), (.int 0), (.int 0), (.int 0), (.int 0), (.int 0), (.int 0), (.int 0), (.int 0)] (.int 0) := V105
  have N105 := Fr.snoc X105 N104 g_b102
  replace A101 := A101.wr W105
  replace F101_value := F101_value.other W105 (Or.inl ne_b101_b102)
  replace F101_coder := F101_coder.other W105 (Or.inl ne_b101_b102)
  replace B102 := B102.wr W105
  have OW105 := ext_wr OW104 W105 g_b102
  replace KP := KP.wr W105 (Or.inr z_b102)
  refine Go.dup X105 hx (hb hby d5_591) rfl (q := 592) rfl ?_
  refine Go.iconst X105 hx (hb hby d5_592) (r := (3 : Int32)) rfl (q := 593) rfl ?_
  refine Go.bipush X105 hx (hb hby d5_593) (r := (120 : Int32)) rfl (q := 595) rfl ?_
  refine Go.cst X105 hx hZ e105 V105 ⟨by decide, by decide⟩ (i := 3) rfl (Nat.le_of_ble_eq_true rfl) (hb hby d5_595) ?_
  intro T106 h106 X106 e106 W106 V106
  replace V106 : Arv Z h106 b102 k102 .char (22 : Int32) [(.int 117), (.int 110), (.int 101), (.int 120), (.int 0), (.int 0), (.int 0), (.int 0), (.int 0), (.int 0), (.int 0), (.int 0), (.int 0), (.int 0), (.int 0), (.int 0), (.int 0), (.int 0), (.int 0), (.int 0), (.int 0), (.int 0)] (.int 0) := V106
  have N106 := Fr.snoc X106 N105 g_b102
  replace A101 := A101.wr W106
  replace F101_value := F101_value.other W106 (Or.inl ne_b101_b102)
  replace F101_coder := F101_coder.other W106 (Or.inl ne_b101_b102)
  replace B102 := B102.wr W106
  have OW106 := ext_wr OW105 W106 g_b102
  replace KP := KP.wr W106 (Or.inr z_b102)
  refine Go.dup X106 hx (hb hby d5_596) rfl (q := 597) rfl ?_
  refine Go.iconst X106 hx (hb hby d5_597) (r := (4 : Int32)) rfl (q := 598) rfl ?_
  refine Go.bipush X106 hx (hb hby d5_598) (r := (112 : Int32)) rfl (q := 600) rfl ?_
  refine Go.cst X106 hx hZ e106 V106 ⟨by decide, by decide⟩ (i := 4) rfl (Nat.le_of_ble_eq_true rfl) (hb hby d5_600) ?_
  intro T107 h107 X107 e107 W107 V107
  replace V107 : Arv Z h107 b102 k102 .char (22 : Int32) [(.int 117), (.int 110), (.int 101), (.int 120), (.int 112), (.int 0), (.int 0), (.int 0), (.int 0), (.int 0), (.int 0), (.int 0), (.int 0), (.int 0), (.int 0), (.int 0), (.int 0), (.int 0), (.int 0), (.int 0), (.int 0), (.int 0)] (.int 0) := V107
  have N107 := Fr.snoc X107 N106 g_b102
  replace A101 := A101.wr W107
  replace F101_value := F101_value.other W107 (Or.inl ne_b101_b102)
  replace F101_coder := F101_coder.other W107 (Or.inl ne_b101_b102)
  replace B102 := B102.wr W107
  have OW107 := ext_wr OW106 W107 g_b102
  replace KP := KP.wr W107 (Or.inr z_b102)
  refine Go.dup X107 hx (hb hby d5_601) rfl (q := 602) rfl ?_
  refine Go.iconst X107 hx (hb hby d5_602) (r := (5 : Int32)) rfl (q := 603) rfl ?_
  refine Go.bipush X107 hx (hb hby d5_603) (r := (101 : Int32)) rfl (q := 605) rfl ?_
  refine Go.cst X107 hx hZ e107 V107 ⟨by decide, by decide⟩ (i := 5) rfl (Nat.le_of_ble_eq_true rfl) (hb hby d5_605) ?_
  intro T108 h108 X108 e108 W108 V108
  replace V108 : Arv Z h108 b102 k102 .char (22 : Int32) [(.int 117), (.int 110), (.int 101), (.int 120), (.int 112), (.int 101), (.int 0), (.int 0), (.int 0), (.int 0), (.int 0), (.int 0), (.int 0), (.int 0), (.int 0), (.int 0), (.int 0), (.int 0), (.int 0), (.int 0), (.int 0), (.int 0)] (.int 0) := V108
  have N108 := Fr.snoc X108 N107 g_b102
  replace A101 := A101.wr W108
  replace F101_value := F101_value.other W108 (Or.inl ne_b101_b102)
  replace F101_coder := F101_coder.other W108 (Or.inl ne_b101_b102)
  replace B102 := B102.wr W108
  have OW108 := ext_wr OW107 W108 g_b102
  replace KP := KP.wr W108 (Or.inr z_b102)
  refine Go.dup X108 hx (hb hby d5_606) rfl (q := 607) rfl ?_
  refine Go.bipush X108 hx (hb hby d5_607) (r := (6 : Int32)) rfl (q := 609) rfl ?_
  refine Go.bipush X108 hx (hb hby d5_609) (r := (99 : Int32)) rfl (q := 611) rfl ?_
  refine Go.cst X108 hx hZ e108 V108 ⟨by decide, by decide⟩ (i := 6) rfl (Nat.le_of_ble_eq_true rfl) (hb hby d5_611) ?_
  intro T109 h109 X109 e109 W109 V109
  replace V109 : Arv Z h109 b102 k102 .char (22 : Int32) [(.int 117), (.int 110), (.int 101), (.int 120), (.int 112), (.int 101), (.int 99), (.int 0), (.int 0), (.int 0), (.int 0), (.int 0), (.int 0), (.int 0), (.int 0), (.int 0), (.int 0), (.int 0), (.int 0), (.int 0), (.int 0), (.int 0)] (.int 0) := V109
  have N109 := Fr.snoc X109 N108 g_b102
  replace A101 := A101.wr W109
  replace F101_value := F101_value.other W109 (Or.inl ne_b101_b102)
  replace F101_coder := F101_coder.other W109 (Or.inl ne_b101_b102)
  replace B102 := B102.wr W109
  have OW109 := ext_wr OW108 W109 g_b102
  replace KP := KP.wr W109 (Or.inr z_b102)
  refine Go.dup X109 hx (hb hby d5_612) rfl (q := 613) rfl ?_
  refine Go.bipush X109 hx (hb hby d5_613) (r := (7 : Int32)) rfl (q := 615) rfl ?_
  refine Go.bipush X109 hx (hb hby d5_615) (r := (116 : Int32)) rfl (q := 617) rfl ?_
  refine Go.cst X109 hx hZ e109 V109 ⟨by decide, by decide⟩ (i := 7) rfl (Nat.le_of_ble_eq_true rfl) (hb hby d5_617) ?_
  intro T110 h110 X110 e110 W110 V110
  replace V110 : Arv Z h110 b102 k102 .char (22 : Int32) [(.int 117), (.int 110), (.int 101), (.int 120), (.int 112), (.int 101), (.int 99), (.int 116), (.int 0), (.int 0), (.int 0), (.int 0), (.int 0), (.int 0), (.int 0), (.int 0), (.int 0), (.int 0), (.int 0), (.int 0), (.int 0), (.int 0)] (.int 0) := V110
  have N110 := Fr.snoc X110 N109 g_b102
  replace A101 := A101.wr W110
  replace F101_value := F101_value.other W110 (Or.inl ne_b101_b102)
  replace F101_coder := F101_coder.other W110 (Or.inl ne_b101_b102)
  replace B102 := B102.wr W110
  have OW110 := ext_wr OW109 W110 g_b102
  replace KP := KP.wr W110 (Or.inr z_b102)
  refine Go.dup X110 hx (hb hby d5_618) rfl (q := 619) rfl ?_
  refine Go.bipush X110 hx (hb hby d5_619) (r := (8 : Int32)) rfl (q := 621) rfl ?_
  refine Go.bipush X110 hx (hb hby d5_621) (r := (101 : Int32)) rfl (q := 623) rfl ?_
  refine Go.cst X110 hx hZ e110 V110 ⟨by decide, by decide⟩ (i := 8) rfl (Nat.le_of_ble_eq_true rfl) (hb hby d5_623) ?_
  intro T111 h111 X111 e111 W111 V111
  replace V111 : Arv Z h111 b102 k102 .char (22 : Int32) [(.int 117), (.int 110), (.int 101), (.int 120), (.int 112), (.int 101), (.int 99), (.int 116), (.int 101), (.int 0), (.int 0), (.int 0), (.int 0), (.int 0), (.int 0), (.int 0), (.int 0), (.int 0), (.int 0), (.int 0), (.int 0), (.int 0)] (.int 0) := V111
  have N111 := Fr.snoc X111 N110 g_b102
  replace A101 := A101.wr W111
  replace F101_value := F101_value.other W111 (Or.inl ne_b101_b102)
  replace F101_coder := F101_coder.other W111 (Or.inl ne_b101_b102)
  replace B102 := B102.wr W111
  have OW111 := ext_wr OW110 W111 g_b102
  replace KP := KP.wr W111 (Or.inr z_b102)
  refine Go.dup X111 hx (hb hby d5_624) rfl (q := 625) rfl ?_
  refine Go.bipush X111 hx (hb hby d5_625) (r := (9 : Int32)) rfl (q := 627) rfl ?_
  refine Go.bipush X111 hx (hb hby d5_627) (r := (100 : Int32)) rfl (q := 629) rfl ?_
  refine Go.cst X111 hx hZ e111 V111 ⟨by decide, by decide⟩ (i := 9) rfl (Nat.le_of_ble_eq_true rfl) (hb hby d5_629) ?_
  intro T112 h112 X112 e112 W112 V112
  replace V112 : Arv Z h112 b102 k102 .char (22 : Int32) [(.int 117), (.int 110), (.int 101), (.int 120), (.int 112), (.int 101), (.int 99), (.int 116), (.int 101), (.int 100), (.int 0), (.int 0), (.int 0), (.int 0), (.int 0), (.int 0), (.int 0), (.int 0), (.int 0), (.int 0), (.int 0), (.int 0)] (.int 0) := V112
  have N112 := Fr.snoc X112 N111 g_b102
  replace A101 := A101.wr W112
  replace F101_value := F101_value.other W112 (Or.inl ne_b101_b102)
  replace F101_coder := F101_coder.other W112 (Or.inl ne_b101_b102)
  replace B102 := B102.wr W112
  have OW112 := ext_wr OW111 W112 g_b102
  replace KP := KP.wr W112 (Or.inr z_b102)
  refine Go.dup X112 hx (hb hby d5_630) rfl (q := 631) rfl ?_
  refine Go.bipush X112 hx (hb hby d5_631) (r := (10 : Int32)) rfl (q := 633) rfl ?_
  refine Go.bipush X112 hx (hb hby d5_633) (r := (32 : Int32)) rfl (q := 635) rfl ?_
  refine Go.cst X112 hx hZ e112 V112 ⟨by decide, by decide⟩ (i := 10) rfl (Nat.le_of_ble_eq_true rfl) (hb hby d5_635) ?_
  intro T113 h113 X113 e113 W113 V113
  replace V113 : Arv Z h113 b102 k102 .char (22 : Int32) [(.int 117), (.int 110), (.int 101), (.int 120), (.int 112), (.int 101), (.int 99), (.int 116), (.int 101), (.int 100), (.int 32), (.int 0), (.int 0), (.int 0), (.int 0), (.int 0), (.int 0), (.int 0), (.int 0), (.int 0), (.int 0), (.int 0)] (.int 0) := V113
  have N113 := Fr.snoc X113 N112 g_b102
  replace A101 := A101.wr W113
  replace F101_value := F101_value.other W113 (Or.inl ne_b101_b102)
  replace F101_coder := F101_coder.other W113 (Or.inl ne_b101_b102)
  replace B102 := B102.wr W113
  have OW113 := ext_wr OW112 W113 g_b102
  replace KP := KP.wr W113 (Or.inr z_b102)
  refine Go.dup X113 hx (hb hby d5_636) rfl (q := 637) rfl ?_
  refine Go.bipush X113 hx (hb hby d5_637) (r := (11 : Int32)) rfl (q := 639) rfl ?_
  refine Go.bipush X113 hx (hb hby d5_639) (r := (97 : Int32)) rfl (q := 641) rfl ?_
  refine Go.cst X113 hx hZ e113 V113 ⟨by decide, by decide⟩ (i := 11) rfl (Nat.le_of_ble_eq_true rfl) (hb hby d5_641) ?_
  intro T114 h114 X114 e114 W114 V114
  replace V114 : Arv Z h114 b102 k102 .char (22 : Int32) [(.int 117), (.int 110), (.int 101), (.int 120), (.int 112), (.int 101), (.int 99), (.int 116), (.int 101), (.int 100), (.int 32), (.int 97), (.int 0), (.int 0), (.int 0), (.int 0), (.int 0), (.int 0), (.int 0), (.int 0), (.int 0), (.int 0)] (.int 0) := V114
  have N114 := Fr.snoc X114 N113 g_b102
  replace A101 := A101.wr W114
  replace F101_value := F101_value.other W114 (Or.inl ne_b101_b102)
  replace F101_coder := F101_coder.other W114 (Or.inl ne_b101_b102)
  replace B102 := B102.wr W114
  have OW114 := ext_wr OW113 W114 g_b102
  replace KP := KP.wr W114 (Or.inr z_b102)
  refine Go.dup X114 hx (hb hby d5_642) rfl (q := 643) rfl ?_
  refine Go.bipush X114 hx (hb hby d5_643) (r := (12 : Int32)) rfl (q := 645) rfl ?_
  refine Go.bipush X114 hx (hb hby d5_645) (r := (114 : Int32)) rfl (q := 647) rfl ?_
  refine Go.cst X114 hx hZ e114 V114 ⟨by decide, by decide⟩ (i := 12) rfl (Nat.le_of_ble_eq_true rfl) (hb hby d5_647) ?_
  intro T115 h115 X115 e115 W115 V115
  replace V115 : Arv Z h115 b102 k102 .char (22 : Int32) [(.int 117), (.int 110), (.int 101), (.int 120), (.int 112), (.int 101), (.int 99), (.int 116), (.int 101), (.int 100), (.int 32), (.int 97), (.int 114), (.int 0), (.int 0), (.int 0), (.int 0), (.int 0), (.int 0), (.int 0), (.int 0), (.int 0)] (.int 0) := V115
  have N115 := Fr.snoc X115 N114 g_b102
  replace A101 := A101.wr W115
  replace F101_value := F101_value.other W115 (Or.inl ne_b101_b102)
  replace F101_coder := F101_coder.other W115 (Or.inl ne_b101_b102)
  replace B102 := B102.wr W115
  have OW115 := ext_wr OW114 W115 g_b102
  replace KP := KP.wr W115 (Or.inr z_b102)
  refine Go.dup X115 hx (hb hby d5_648) rfl (q := 649) rfl ?_
  refine Go.bipush X115 hx (hb hby d5_649) (r := (13 : Int32)) rfl (q := 651) rfl ?_
  refine Go.bipush X115 hx (hb hby d5_651) (r := (103 : Int32)) rfl (q := 653) rfl ?_
  refine Go.cst X115 hx hZ e115 V115 ⟨by decide, by decide⟩ (i := 13) rfl (Nat.le_of_ble_eq_true rfl) (hb hby d5_653) ?_
  intro T116 h116 X116 e116 W116 V116
  replace V116 : Arv Z h116 b102 k102 .char (22 : Int32) [(.int 117), (.int 110), (.int 101), (.int 120), (.int 112), (.int 101), (.int 99), (.int 116), (.int 101), (.int 100), (.int 32), (.int 97), (.int 114), (.int 103), (.int 0), (.int 0), (.int 0), (.int 0), (.int 0), (.int 0), (.int 0), (.int 0)] (.int 0) := V116
  have N116 := Fr.snoc X116 N115 g_b102
  replace A101 := A101.wr W116
  replace F101_value := F101_value.other W116 (Or.inl ne_b101_b102)
  replace F101_coder := F101_coder.other W116 (Or.inl ne_b101_b102)
  replace B102 := B102.wr W116
  have OW116 := ext_wr OW115 W116 g_b102
  replace KP := KP.wr W116 (Or.inr z_b102)
  refine Go.dup X116 hx (hb hby d5_654) rfl (q := 655) rfl ?_
  refine Go.bipush X116 hx (hb hby d5_655) (r := (14 : Int32)) rfl (q := 657) rfl ?_
  refine Go.bipush X116 hx (hb hby d5_657) (r := (117 : Int32)) rfl (q := 659) rfl ?_
  refine Go.cst X116 hx hZ e116 V116 ⟨by decide, by decide⟩ (i := 14) rfl (Nat.le_of_ble_eq_true rfl) (hb hby d5_659) ?_
  intro T117 h117 X117 e117 W117 V117
  replace V117 : Arv Z h117 b102 k102 .char (22 : Int32) [(.int 117), (.int 110), (.int 101), (.int 120), (.int 112), (.int 101), (.int 99), (.int 116), (.int 101), (.int 100), (.int 32), (.int 97), (.int 114), (.int 103), (.int 117), (.int 0), (.int 0), (.int 0), (.int 0), (.int 0), (.int 0), (.int 0)] (.int 0) := V117
  have N117 := Fr.snoc X117 N116 g_b102
  replace A101 := A101.wr W117
  replace F101_value := F101_value.other W117 (Or.inl ne_b101_b102)
  replace F101_coder := F101_coder.other W117 (Or.inl ne_b101_b102)
  replace B102 := B102.wr W117
  have OW117 := ext_wr OW116 W117 g_b102
  replace KP := KP.wr W117 (Or.inr z_b102)
  refine Go.dup X117 hx (hb hby d5_660) rfl (q := 661) rfl ?_
  refine Go.bipush X117 hx (hb hby d5_661) (r := (15 : Int32)) rfl (q := 663) rfl ?_
  refine Go.bipush X117 hx (hb hby d5_663) (r := (109 : Int32)) rfl (q := 665) rfl ?_
  refine Go.cst X117 hx hZ e117 V117 ⟨by decide, by decide⟩ (i := 15) rfl (Nat.le_of_ble_eq_true rfl) (hb hby d5_665) ?_
  intro T118 h118 X118 e118 W118 V118
  replace V118 : Arv Z h118 b102 k102 .char (22 : Int32) [(.int 117), (.int 110), (.int 101), (.int 120), (.int 112), (.int 101), (.int 99), (.int 116), (.int 101), (.int 100), (.int 32), (.int 97), (.int 114), (.int 103), (.int 117), (.int 109), (.int 0), (.int 0), (.int 0), (.int 0), (.int 0), (.int 0)] (.int 0) := V118
  have N118 := Fr.snoc X118 N117 g_b102
  replace A101 := A101.wr W118
  replace F101_value := F101_value.other W118 (Or.inl ne_b101_b102)
  replace F101_coder := F101_coder.other W118 (Or.inl ne_b101_b102)
  replace B102 := B102.wr W118
  have OW118 := ext_wr OW117 W118 g_b102
  replace KP := KP.wr W118 (Or.inr z_b102)
  refine Go.dup X118 hx (hb hby d5_666) rfl (q := 667) rfl ?_
  refine Go.bipush X118 hx (hb hby d5_667) (r := (16 : Int32)) rfl (q := 669) rfl ?_
  refine Go.bipush X118 hx (hb hby d5_669) (r := (101 : Int32)) rfl (q := 671) rfl ?_
  refine Go.cst X118 hx hZ e118 V118 ⟨by decide, by decide⟩ (i := 16) rfl (Nat.le_of_ble_eq_true rfl) (hb hby d5_671) ?_
  intro T119 h119 X119 e119 W119 V119
  replace V119 : Arv Z h119 b102 k102 .char (22 : Int32) [(.int 117), (.int 110), (.int 101), (.int 120), (.int 112), (.int 101), (.int 99), (.int 116), (.int 101), (.int 100), (.int 32), (.int 97), (.int 114), (.int 103), (.int 117), (.int 109), (.int 101), (.int 0), (.int 0), (.int 0), (.int 0), (.int 0)] (.int 0) := V119
  have N119 := Fr.snoc X119 N118 g_b102
  replace A101 := A101.wr W119
  replace F101_value := F101_value.other W119 (Or.inl ne_b101_b102)
  replace F101_coder := F101_coder.other W119 (Or.inl ne_b101_b102)
  replace B102 := B102.wr W119
  have OW119 := ext_wr OW118 W119 g_b102
  replace KP := KP.wr W119 (Or.inr z_b102)
  refine Go.dup X119 hx (hb hby d5_672) rfl (q := 673) rfl ?_
  refine Go.bipush X119 hx (hb hby d5_673) (r := (17 : Int32)) rfl (q := 675) rfl ?_
  refine Go.bipush X119 hx (hb hby d5_675) (r := (110 : Int32)) rfl (q := 677) rfl ?_
  refine Go.cst X119 hx hZ e119 V119 ⟨by decide, by decide⟩ (i := 17) rfl (Nat.le_of_ble_eq_true rfl) (hb hby d5_677) ?_
  intro T120 h120 X120 e120 W120 V120
  replace V120 : Arv Z h120 b102 k102 .char (22 : Int32) [(.int 117), (.int 110), (.int 101), (.int 120), (.int 112), (.int 101), (.int 99), (.int 116), (.int 101), (.int 100), (.int 32), (.int 97), (.int 114), (.int 103), (.int 117), (.int 109), (.int 101), (.int 110), (.int 0), (.int 0), (.int 0), (.int 0)] (.int 0) := V120
  have N120 := Fr.snoc X120 N119 g_b102
  replace A101 := A101.wr W120
  replace F101_value := F101_value.other W120 (Or.inl ne_b101_b102)
  replace F101_coder := F101_coder.other W120 (Or.inl ne_b101_b102)
  replace B102 := B102.wr W120
  have OW120 := ext_wr OW119 W120 g_b102
  replace KP := KP.wr W120 (Or.inr z_b102)
  refine Go.dup X120 hx (hb hby d5_678) rfl (q := 679) rfl ?_
  refine Go.bipush X120 hx (hb hby d5_679) (r := (18 : Int32)) rfl (q := 681) rfl ?_
  refine Go.bipush X120 hx (hb hby d5_681) (r := (116 : Int32)) rfl (q := 683) rfl ?_
  refine Go.cst X120 hx hZ e120 V120 ⟨by decide, by decide⟩ (i := 18) rfl (Nat.le_of_ble_eq_true rfl) (hb hby d5_683) ?_
  intro T121 h121 X121 e121 W121 V121
  replace V121 : Arv Z h121 b102 k102 .char (22 : Int32) [(.int 117), (.int 110), (.int 101), (.int 120), (.int 112), (.int 101), (.int 99), (.int 116), (.int 101), (.int 100), (.int 32), (.int 97), (.int 114), (.int 103), (.int 117), (.int 109), (.int 101), (.int 110), (.int 116), (.int 0), (.int 0), (.int 0)] (.int 0) := V121
  have N121 := Fr.snoc X121 N120 g_b102
  replace A101 := A101.wr W121
  replace F101_value := F101_value.other W121 (Or.inl ne_b101_b102)
  replace F101_coder := F101_coder.other W121 (Or.inl ne_b101_b102)
  replace B102 := B102.wr W121
  have OW121 := ext_wr OW120 W121 g_b102
  replace KP := KP.wr W121 (Or.inr z_b102)
  refine Go.dup X121 hx (hb hby d5_684) rfl (q := 685) rfl ?_
  refine Go.bipush X121 hx (hb hby d5_685) (r := (19 : Int32)) rfl (q := 687) rfl ?_
  refine Go.bipush X121 hx (hb hby d5_687) (r := (32 : Int32)) rfl (q := 689) rfl ?_
  refine Go.cst X121 hx hZ e121 V121 ⟨by decide, by decide⟩ (i := 19) rfl (Nat.le_of_ble_eq_true rfl) (hb hby d5_689) ?_
  intro T122 h122 X122 e122 W122 V122
  replace V122 : Arv Z h122 b102 k102 .char (22 : Int32) [(.int 117), (.int 110), (.int 101), (.int 120), (.int 112), (.int 101), (.int 99), (.int 116), (.int 101), (.int 100), (.int 32), (.int 97), (.int 114), (.int 103), (.int 117), (.int 109), (.int 101), (.int 110), (.int 116), (.int 32), (.int 0), (.int 0)] (.int 0) := V122
  have N122 := Fr.snoc X122 N121 g_b102
  replace A101 := A101.wr W122
  replace F101_value := F101_value.other W122 (Or.inl ne_b101_b102)
  replace F101_coder := F101_coder.other W122 (Or.inl ne_b101_b102)
  replace B102 := B102.wr W122
  have OW122 := ext_wr OW121 W122 g_b102
  replace KP := KP.wr W122 (Or.inr z_b102)
  refine Go.dup X122 hx (hb hby d5_690) rfl (q := 691) rfl ?_
  refine Go.bipush X122 hx (hb hby d5_691) (r := (20 : Int32)) rfl (q := 693) rfl ?_
  refine Go.iloadN X122 hx (hb hby d5_693) rfl (q := 694) rfl ?_
  refine Go.cst X122 hx hZ e122 V122 ⟨by decide, by decide⟩ (i := 20) rfl (Nat.le_of_ble_eq_true rfl) (hb hby d5_694) ?_
  intro T123 h123 X123 e123 W123 V123
  rw [hn0] at V123
  replace V123 : Arv Z h123 b102 k102 .char (22 : Int32) [(.int 117), (.int 110), (.int 101), (.int 120), (.int 112), (.int 101), (.int 99), (.int 116), (.int 101), (.int 100), (.int 32), (.int 97), (.int 114), (.int 103), (.int 117), (.int 109), (.int 101), (.int 110), (.int 116), (.int 32), (.int c0), (.int 0)] (.int 0) := V123
  have N123 := Fr.snoc X123 N122 g_b102
  replace A101 := A101.wr W123
  replace F101_value := F101_value.other W123 (Or.inl ne_b101_b102)
  replace F101_coder := F101_coder.other W123 (Or.inl ne_b101_b102)
  replace B102 := B102.wr W123
  have OW123 := ext_wr OW122 W123 g_b102
  replace KP := KP.wr W123 (Or.inr z_b102)
  refine Go.dup X123 hx (hb hby d5_695) rfl (q := 696) rfl ?_
  refine Go.bipush X123 hx (hb hby d5_696) (r := (21 : Int32)) rfl (q := 698) rfl ?_
  refine Go.iloadN X123 hx (hb hby d5_698) rfl (q := 699) rfl ?_
  refine Go.cst X123 hx hZ e123 V123 ⟨by decide, by decide⟩ (i := 21) rfl (Nat.le_of_ble_eq_true rfl) (hb hby d5_699) ?_
  intro T124 h124 X124 e124 W124 V124
  rw [hn1] at V124
  replace V124 : Arv Z h124 b102 k102 .char (22 : Int32) [(.int 117), (.int 110), (.int 101), (.int 120), (.int 112), (.int 101), (.int 99), (.int 116), (.int 101), (.int 100), (.int 32), (.int 97), (.int 114), (.int 103), (.int 117), (.int 109), (.int 101), (.int 110), (.int 116), (.int 32), (.int c0), (.int c1)] (.int 0) := V124
  have N124 := Fr.snoc X124 N123 g_b102
  replace A101 := A101.wr W124
  replace F101_value := F101_value.other W124 (Or.inl ne_b101_b102)
  replace F101_coder := F101_coder.other W124 (Or.inl ne_b101_b102)
  replace B102 := B102.wr W124
  have OW124 := ext_wr OW123 W124 g_b102
  replace KP := KP.wr W124 (Or.inr z_b102)
  refine Go.init X124 hx hZ hown rfl (wd8 hw) (wd9 hw) (wd6 hw) (wd10 hw) (by decide) (csj l Z a0 hw b101 b102 ((22 : Int32)) (k102) cs ([(.int 117), (.int 110), (.int 101), (.int 120), (.int 112), (.int 101), (.int 99), (.int 116), (.int 101), (.int 100), (.int 32), (.int 97), (.int 114), (.int 103), (.int 117), (.int 109), (.int 101), (.int 110), (.int 116), (.int 32), (.int c0), (.int c1)]) ([(.int 117), (.int 110), (.int 101), (.int 120), (.int 112), (.int 101), (.int 99), (.int 116), (.int 101), (.int 100), (.int 32), (.int 97), (.int 114), (.int 103), (.int 117), (.int 109), (.int 101), (.int 110), (.int 116), (.int 32), (.int (c0.toInt8.toInt32)), (.int (c1.toInt8.toInt32))]) h124 OW124 A101 F101_value F101_coder g_b101 V124 SCS hcs ⟨by decide, by decide, rfl, (own_ua (own_ac hc0 (own_ac hc1 own_an)))⟩) e124 (by rw [hml]; rfl) (hb hby d5_700) (argsL := [(.ref b102)]) (rest := [(.ref b101)]) (lenOf pd5 rfl) rfl rfl (W := 1) (Nat.le_refl _) (by decide) ?_
  intro v125 T125 L125 X125 hQ125
  obtain ⟨h125, e125⟩ : ∃ z, T125.heap = z := ⟨_, rfl⟩
  rw [e125] at hQ125
  obtain ⟨b_125, kb_125, rfl, N125q, K125, fr125_b, P125_0, P125_1, P125_2⟩ := hQ125
  have N125 := Fr.app N124 N125q
  have ne_b101_b_125 : b101 ≠ b_125 := ne_new A101.lt fr125_b
  have ne_b102_b_125 : b102 ≠ b_125 := ne_new B102.lt fr125_b
  have g_b_125 : Z.heap.size ≤ b_125 := Nat.le_trans OW124.1 fr125_b
  have z_b_125 : h0.size ≤ b_125 := Nat.le_trans KP.1 fr125_b
  replace A101 := A101.keep K125
  replace B102 := B102.keep K125
  replace V124 := V124.keep K125 (ninS (Ne.symm ne_b101_b102) nin0)
  have OK125 := ext_keep OW124 K125 (allS g_b101 all0)
  replace KP := KP.trans K125 (allS (Or.inr z_b101) all0)
  exact Go.retA X125 hx hret hlk rfl rfl (hb hby d5_703) e125 (by decide) (by decide) ⟨b101, b_125, kb_125, rfl, N125, KP, z_b101, z_b_125, A101, P125_1, P125_0, P125_2⟩
def Q_cex03 (Z : State) (c0 c1 c2 cs : Int32) (h0 : Heap) (vR : Option Value) (hR : Heap) (LR : List Loc) : Prop := ∃ s : Addr, ∃ b : Addr, ∃ kb : ClassId, vR = some (.ref s) ∧ Fr Z.heap.size LR ∧ Keep h0 hR [] ∧ h0.size ≤ s ∧ h0.size ≤ b ∧ Exa Z hR s xS0 ∧ Fld Z hR s xS0 "coder" "B" (.int 0) ∧ Fld Z hR s xS0 "value" "[B" (.ref b) ∧ Arv Z hR b kb .byte (23 : Int32) [(.int 117), (.int 110), (.int 101), (.int 120), (.int 112), (.int 101), (.int 99), (.int 116), (.int 101), (.int 100), (.int 32), (.int 97), (.int 114), (.int 103), (.int 117), (.int 109), (.int 101), (.int 110), (.int 116), (.int 32), (.int (c0.toInt8.toInt32)), (.int (c1.toInt8.toInt32)), (.int (c2.toInt8.toInt32))] (.int 0)
theorem cex03 (l : Launch) (Z : State) (a0 : Array Value) (hw : ∀ d ∈ tables_1, d.before a0 Z = true) (c0 c1 c2 cs : Int32) (h0 : Heap) (O0 : Ext Z.heap h0) (SCS : Sta Z Z.heap xS0 xS3 "Z" (.int cs)) (hcs : ¬ (cs = (0 : Int32))) (hn0 : nar .char c0 = c0) (hn1 : nar .char c1 = c1) (hn2 : nar .char c2 = c2) (hc0 : ¬ ((255 : Int32) < c0)) (hc1 : ¬ ((255 : Int32) < c1)) (hc2 : ¬ ((255 : Int32) < c2)) :
    Ctr l Z h0 (⟨xS5, "expected", "(ZICCC)Ljava/lang/String;"⟩ : MethodName) k5 5 (some (.object xS0)) [] ({ frames := 4, cells := 3, slots := 50, locals := 66 } : Room) #[(.int 0), (.int 3), (.int c0), (.int c1), (.int c2)] (Q_cex03 Z c0 c1 c2 cs h0) := by
  refine enter (plainFor_of_name pn2) ?_
  intro pp ee ss mm below meth cc s₁ hx hby hml hZ hown hnm hret hlk X0 e0 hs0
  replace hown : ss.vm.findClass xS5 = some mm.cls := hown
  refine Go.cast (congrArg s₁.setTop (ef_cex03 mm c0 c1 c2)) ?_
  have N0 := Fr.nil Z.heap.size
  have KP := Keep.refl h0 []
  show Go pp ee below _ (s₁.setTop (mkF mm 0 #[.val (.int 0), .val (.int 3), .val (.int c0), .val (.int c1), .val (.int c2)] []))
  refine Go.iloadN X0 hx (hb hby d5_0) rfl (q := 1) rfl ?_
  refine Go.ifYes X0 hx (hb hby d5_1) (by decide) (q := 297) (by decide) (by decide) ?_
  refine Go.iloadN X0 hx (hb hby d5_297) rfl (q := 298) rfl ?_
  refine Go.ifYes X0 hx (hb hby d5_298) (by decide) (q := 427) (by decide) (by decide) ?_
  refine Go.iloadN X0 hx (hb hby d5_427) rfl (q := 428) rfl ?_
  refine Go.iconst X0 hx (hb hby d5_428) (r := (1 : Int32)) rfl (q := 429) rfl ?_
  refine Go.icmpYes X0 hx (hb hby d5_429) (by decide) (q := 563) (by decide) (by decide) ?_
  refine Go.iloadN X0 hx (hb hby d5_563) rfl (q := 564) rfl ?_
  refine Go.iconst X0 hx (hb hby d5_564) (r := (2 : Int32)) rfl (q := 565) rfl ?_
  refine Go.icmpYes X0 hx (hb hby d5_565) (by decide) (q := 704) (by decide) (by decide) ?_
  refine Go.newO X0 hx hZ hown (wd4 hw) (wd5 hw) (wd6 hw) e0 (hb hby d5_704) (by decide) (by decide) (q := 707) rfl ?_
  intro b101 T101 h101 X101 e101 q101 E101 A101 D101 U101
  have g_b101 : Z.heap.size ≤ b101 := Nat.le_trans O0.1 (Nat.le_of_eq q101)
  have z_b101 : h0.size ≤ b101 := Nat.le_trans KP.1 (Nat.le_of_eq q101)
  have OE101 := ext_trans O0 E101
  replace KP := KP.ext E101
  have F101_value : Fld Z h101 b101 xS0 "value" "[B" .null := D101 (Or.inr (wd20 hw)) (ty := (.array .byte)) (by decide)
  have F101_coder : Fld Z h101 b101 xS0 "coder" "B" (.int 0) := D101 (Or.inr (wd21 hw)) (ty := .byte) (by decide)
  clear D101
  refine Go.dup X101 hx (hb hby d5_707) rfl (q := 708) rfl ?_
  refine Go.bipush X101 hx (hb hby d5_708) (r := (23 : Int32)) rfl (q := 710) rfl ?_
  refine Go.newP X101 hx hZ (hb hby d5_710) (wd7 hw) e101 (by decide) (cap := 23) (by decide) (by decide) (by decide) (by decide) (ad := "[C") rfl (q := 712) rfl ?_
  intro b102 T102 h102 k102 X102 e102 q102 E102 V102 B102
  have ne_b101_b102 : b101 ≠ b102 := ne_new A101.lt (Nat.le_of_eq q102)
  have g_b102 : Z.heap.size ≤ b102 := Nat.le_trans OE101.1 (Nat.le_of_eq q102)
  have z_b102 : h0.size ≤ b102 := Nat.le_trans KP.1 (Nat.le_of_eq q102)
  replace A101 := A101.ext E102
  replace F101_value := F101_value.ext E102
  replace F101_coder := F101_coder.ext E102
  have OE102 := ext_trans OE101 E102
  replace KP := KP.ext E102
  replace V102 : Arv Z h102 b102 k102 .char (23 : Int32) [(.int 0), (.int 0), (.int 0), (.int 0), (.int 0), (.int 0), (.int 0), (.int 0), (.int 0), (.int 0), (.int 0), (.int 0), (.int 0), (.int 0), (.int 0), (.int 0), (.int 0), (.int 0), (.int 0), (.int 0), (.int 0), (.int 0), (.int 0)] (.int 0) := V102.pad (pad_rep [] (.int 0) 23)
  refine Go.dup X102 hx (hb hby d5_712) rfl (q := 713) rfl ?_
  refine Go.iconst X102 hx (hb hby d5_713) (r := (0 : Int32)) rfl (q := 714) rfl ?_
  refine Go.bipush X102 hx (hb hby d5_714) (r := (117 : Int32)) rfl (q := 716) rfl ?_
  refine Go.cst X102 hx hZ e102 V102 ⟨by decide, by decide⟩ (i := 0) rfl (Nat.le_of_ble_eq_true rfl) (hb hby d5_716) ?_
  intro T103 h103 X103 e103 W103 V103
  replace V103 : Arv Z h103 b102 k102 .char (23 : Int32) [(.int 117), (.int 0), (.int 0), (.int 0), (.int 0), (.int 0), (.int 0), (.int 0), (.int 0), (.int 0), (.int 0), (.int 0), (.int 0), (.int 0), (.int 0), (.int 0), (.int 0), (.int 0), (.int 0), (.int 0), (.int 0), (.int 0), (.int 0)] (.int 0) := V103
  have N103 := Fr.snoc X103 N0 g_b102
  replace A101 := A101.wr W103
  replace F101_value := F101_value.other W103 (Or.inl ne_b101_b102)
  replace F101_coder := F101_coder.other W103 (Or.inl ne_b101_b102)
  replace B102 := B102.wr W103
  have OW103 := ext_wr OE102 W103 g_b102
  replace KP := KP.wr W103 (Or.inr z_b102)
  refine Go.dup X103 hx (hb hby d5_717) rfl (q := 718) rfl ?_
  refine Go.iconst X103 hx (hb hby d5_718) (r := (1 : Int32)) rfl (q := 719) rfl ?_
  refine Go.bipush X103 hx (hb hby d5_719) (r := (110 : Int32)) rfl (q := 721) rfl ?_
  refine Go.cst X103 hx hZ e103 V103 ⟨by decide, by decide⟩ (i := 1) rfl (Nat.le_of_ble_eq_true rfl) (hb hby d5_721) ?_
  intro T104 h104 X104 e104 W104 V104
  replace V104 : Arv Z h104 b102 k102 .char (23 : Int32) [(.int 117), (.int 110), (.int 0), (.int 0), (.int 0), (.int 0), (.int 0), (.int 0), (.int 0), (.int 0), (.int 0), (.int 0), (.int 0), (.int 0), (.int 0), (.int 0), (.int 0), (.int 0), (.int 0), (.int 0), (.int 0), (.int 0), (.int 0)] (.int 0) := V104
  have N104 := Fr.snoc X104 N103 g_b102
  replace A101 := A101.wr W104
  replace F101_value := F101_value.other W104 (Or.inl ne_b101_b102)
  replace F101_coder := F101_coder.other W104 (Or.inl ne_b101_b102)
  replace B102 := B102.wr W104
  have OW104 := ext_wr OW103 W104 g_b102
  replace KP := KP.wr W104 (Or.inr z_b102)
  refine Go.dup X104 hx (hb hby d5_722) rfl (q := 723) rfl ?_
  refine Go.iconst X104 hx (hb hby d5_723) (r := (2 : Int32)) rfl (q := 724) rfl ?_
  refine Go.bipush X104 hx (hb hby d5_724) (r := (101 : Int32)) rfl (q := 726) rfl ?_
  refine Go.cst X104 hx hZ e104 V104 ⟨by decide, by decide⟩ (i := 2) rfl (Nat.le_of_ble_eq_true rfl) (hb hby d5_726) ?_
  intro T105 h105 X105 e105 W105 V105
  replace V105 : Arv Z h105 b102 k102 .char (23 : Int32) [(.int 117), (.int 110), (.int 101), (.int 0), (.int 0), (.int 0), (.int 0), (.int 0), (.int 0), (.int 0), (.int 0), (.int 0), (.int 0), (.int 0), (.int 0), (.int 0), (.int 0), (.int 0), (.int 0), (.int 0), (.int 0), (.int 0), (.int 0)] (.int 0) := V105
  have N105 := Fr.snoc X105 N104 g_b102
  replace A101 := A101.wr W105
  replace F101_value := F101_value.other W105 (Or.inl ne_b101_b102)
  replace F101_coder := F101_coder.other W105 (Or.inl ne_b101_b102)
  replace B102 := B102.wr W105
  have OW105 := ext_wr OW104 W105 g_b102
  replace KP := KP.wr W105 (Or.inr z_b102)
  refine Go.dup X105 hx (hb hby d5_727) rfl (q := 728) rfl ?_
  refine Go.iconst X105 hx (hb hby d5_728) (r := (3 : Int32)) rfl (q := 729) rfl ?_
  refine Go.bipush X105 hx (hb hby d5_729) (r := (120 : Int32)) rfl (q := 731) rfl ?_
  refine Go.cst X105 hx hZ e105 V105 ⟨by decide, by decide⟩ (i := 3) rfl (Nat.le_of_ble_eq_true rfl) (hb hby d5_731) ?_
  intro T106 h106 X106 e106 W106 V106
  replace V106 : Arv Z h106 b102 k102 .char (23 : Int32) [(.int 117), (.int 110), (.int 101), (.int 120), (.int 0), (.int 0), (.int 0), (.int 0), (.int 0), (.int 0), (.int 0), (.int 0), (.int 0), (.int 0), (.int 0), (.int 0), (.int 0), (.int 0), (.int 0), (.int 0), (.int 0), (.int 0), (.int 0)] (.int 0) := V106
  have N106 := Fr.snoc X106 N105 g_b102
  replace A101 := A101.wr W106
  replace F101_value := F101_value.other W106 (Or.inl ne_b101_b102)
  replace F101_coder := F101_coder.other W106 (Or.inl ne_b101_b102)
  replace B102 := B102.wr W106
  have OW106 := ext_wr OW105 W106 g_b102
  replace KP := KP.wr W106 (Or.inr z_b102)
  refine Go.dup X106 hx (hb hby d5_732) rfl (q := 733) rfl ?_
  refine Go.iconst X106 hx (hb hby d5_733) (r := (4 : Int32)) rfl (q := 734) rfl ?_
  refine Go.bipush X106 hx (hb hby d5_734) (r := (112 : Int32)) rfl (q := 736) rfl ?_
  refine Go.cst X106 hx hZ e106 V106 ⟨by decide, by decide⟩ (i := 4) rfl (Nat.le_of_ble_eq_true rfl) (hb hby d5_736) ?_
  intro T107 h107 X107 e107 W107 V107
  replace V107 : Arv Z h107 b102 k102 .char (23 : Int32) [(.int 117), (.int 110), (.int 101), (.int 120), (.int 112), (.int 0), (.int 0), (.int 0), (.int 0), (.int 0), (.int 0), (.int 0), (.int 0), (.int 0), (.int 0), (.int 0), (.int 0), (.int 0), (.int 0), (.int 0), (.int 0), (.int 0), (.int 0)] (.int 0) := V107
  have N107 := Fr.snoc X107 N106 g_b102
  replace A101 := A101.wr W107
  replace F101_value := F101_value.other W107 (Or.inl ne_b101_b102)
  replace F101_coder := F101_coder.other W107 (Or.inl ne_b101_b102)
  replace B102 := B102.wr W107
  have OW107 := ext_wr OW106 W107 g_b102
  replace KP := KP.wr W107 (Or.inr z_b102)
  refine Go.dup X107 hx (hb hby d5_737) rfl (q := 738) rfl ?_
  refine Go.iconst X107 hx (hb hby d5_738) (r := (5 : Int32)) rfl (q := 739) rfl ?_
  refine Go.bipush X107 hx (hb hby d5_739) (r := (101 : Int32)) rfl (q := 741) rfl ?_
  refine Go.cst X107 hx hZ e107 V107 ⟨by decide, by decide⟩ (i := 5) rfl (Nat.le_of_ble_eq_true rfl) (hb hby d5_741) ?_
  intro T108 h108 X108 e108 W108 V108
  replace V108 : Arv Z h108 b102 k102 .char (23 : Int32) [(.int 117), (.int 110), (.int 101), (.int 120), (.int 112), (.int 101), (.int 0), (.int 0), (.int 0), (.int 0), (.int 0), (.int 0), (.int 0), (.int 0), (.int 0), (.int 0), (.int 0), (.int 0), (.int 0), (.int 0), (.int 0), (.int 0), (.int 0)] (.int 0) := V108
  have N108 := Fr.snoc X108 N107 g_b102
  replace A101 := A101.wr W108
  replace F101_value := F101_value.other W108 (Or.inl ne_b101_b102)
  replace F101_coder := F101_coder.other W108 (Or.inl ne_b101_b102)
  replace B102 := B102.wr W108
  have OW108 := ext_wr OW107 W108 g_b102
  replace KP := KP.wr W108 (Or.inr z_b102)
  refine Go.dup X108 hx (hb hby d5_742) rfl (q := 743) rfl ?_
  refine Go.bipush X108 hx (hb hby d5_743) (r := (6 : Int32)) rfl (q := 745) rfl ?_
  refine Go.bipush X108 hx (hb hby d5_745) (r := (99 : Int32)) rfl (q := 747) rfl ?_
  refine Go.cst X108 hx hZ e108 V108 ⟨by decide, by decide⟩ (i := 6) rfl (Nat.le_of_ble_eq_true rfl) (hb hby d5_747) ?_
  intro T109 h109 X109 e109 W109 V109
  replace V109 : Arv Z h109 b102 k102 .char (23 : Int32) [(.int 117), (.int 110), (.int 101), (.int 120), (.int 112), (.int 101), (.int 99), (.int 0), (.int 0), (.int 0), (.int 0), (.int 0), (.int 0), (.int 0), (.int 0), (.int 0), (.int 0), (.int 0), (.int 0), (.int 0), (.int 0), (.int 0), (.int 0)] (.int 0) := V109
  have N109 := Fr.snoc X109 N108 g_b102
  replace A101 := A101.wr W109
  replace F101_value := F101_value.other W109 (Or.inl ne_b101_b102)
  replace F101_coder := F101_coder.other W109 (Or.inl ne_b101_b102)
  replace B102 := B102.wr W109
  have OW109 := ext_wr OW108 W109 g_b102
  replace KP := KP.wr W109 (Or.inr z_b102)
  refine Go.dup X109 hx (hb hby d5_748) rfl (q := 749) rfl ?_
  refine Go.bipush X109 hx (hb hby d5_749) (r := (7 : Int32)) rfl (q := 751) rfl ?_
  refine Go.bipush X109 hx (hb hby d5_751) (r := (116 : Int32)) rfl (q := 753) rfl ?_
  refine Go.cst X109 hx hZ e109 V109 ⟨by decide, by decide⟩ (i := 7) rfl (Nat.le_of_ble_eq_true rfl) (hb hby d5_753) ?_
  intro T110 h110 X110 e110 W110 V110
  replace V110 : Arv Z h110 b102 k102 .char (23 : Int32) [(.int 117), (.int 110), (.int 101), (.int 120), (.int 112), (.int 101), (.int 99), (.int 116), (.int 0), (.int 0), (.int 0), (.int 0), (.int 0), (.int 0), (.int 0), (.int 0), (.int 0), (.int 0), (.int 0), (.int 0), (.int 0), (.int 0), (.int 0)] (.int 0) := V110
  have N110 := Fr.snoc X110 N109 g_b102
  replace A101 := A101.wr W110
  replace F101_value := F101_value.other W110 (Or.inl ne_b101_b102)
  replace F101_coder := F101_coder.other W110 (Or.inl ne_b101_b102)
  replace B102 := B102.wr W110
  have OW110 := ext_wr OW109 W110 g_b102
  replace KP := KP.wr W110 (Or.inr z_b102)
  refine Go.dup X110 hx (hb hby d5_754) rfl (q := 755) rfl ?_
  refine Go.bipush X110 hx (hb hby d5_755) (r := (8 : Int32)) rfl (q := 757) rfl ?_
  refine Go.bipush X110 hx (hb hby d5_757) (r := (101 : Int32)) rfl (q := 759) rfl ?_
  refine Go.cst X110 hx hZ e110 V110 ⟨by decide, by decide⟩ (i := 8) rfl (Nat.le_of_ble_eq_true rfl) (hb hby d5_759) ?_
  intro T111 h111 X111 e111 W111 V111
  replace V111 : Arv Z h111 b102 k102 .char (23 : Int32) [(.int 117), (.int 110), (.int 101), (.int 120), (.int 112), (.int 101), (.int 99), (.int 116), (.int 101), (.int 0), (.int 0), (.int 0), (.int 0), (.int 0), (.int 0), (.int 0), (.int 0), (.int 0), (.int 0), (.int 0), (.int 0), (.int 0), (.int 0)] (.int 0) := V111
  have N111 := Fr.snoc X111 N110 g_b102
  replace A101 := A101.wr W111
  replace F101_value := F101_value.other W111 (Or.inl ne_b101_b102)
  replace F101_coder := F101_coder.other W111 (Or.inl ne_b101_b102)
  replace B102 := B102.wr W111
  have OW111 := ext_wr OW110 W111 g_b102
  replace KP := KP.wr W111 (Or.inr z_b102)
  refine Go.dup X111 hx (hb hby d5_760) rfl (q := 761) rfl ?_
  refine Go.bipush X111 hx (hb hby d5_761) (r := (9 : Int32)) rfl (q := 763) rfl ?_
  refine Go.bipush X111 hx (hb hby d5_763) (r := (100 : Int32)) rfl (q := 765) rfl ?_
  refine Go.cst X111 hx hZ e111 V111 ⟨by decide, by decide⟩ (i := 9) rfl (Nat.le_of_ble_eq_true rfl) (hb hby d5_765) ?_
  intro T112 h112 X112 e112 W112 V112
  replace V112 : Arv Z h112 b102 k102 .char (23 : Int32) [(.int 117), (.int 110), (.int 101), (.int 120), (.int 112), (.int 101), (.int 99), (.int 116), (.int 101), (.int 100), (.int 0), (.int 0), (.int 0), (.int 0), (.int 0), (.int 0), (.int 0), (.int 0), (.int 0), (.int 0), (.int 0), (.int 0), (.int 0)] (.int 0) := V112
  have N112 := Fr.snoc X112 N111 g_b102
  replace A101 := A101.wr W112
  replace F101_value := F101_value.other W112 (Or.inl ne_b101_b102)
  replace F101_coder := F101_coder.other W112 (Or.inl ne_b101_b102)
  replace B102 := B102.wr W112
  have OW112 := ext_wr OW111 W112 g_b102
  replace KP := KP.wr W112 (Or.inr z_b102)
  refine Go.dup X112 hx (hb hby d5_766) rfl (q := 767) rfl ?_
  refine Go.bipush X112 hx (hb hby d5_767) (r := (10 : Int32)) rfl (q := 769) rfl ?_
  refine Go.bipush X112 hx (hb hby d5_769) (r := (32 : Int32)) rfl (q := 771) rfl ?_
  refine Go.cst X112 hx hZ e112 V112 ⟨by decide, by decide⟩ (i := 10) rfl (Nat.le_of_ble_eq_true rfl) (hb hby d5_771) ?_
  intro T113 h113 X113 e113 W113 V113
  replace V113 : Arv Z h113 b102 k102 .char (23 : Int32) [(.int 117), (.int 110), (.int 101), (.int 120), (.int 112), (.int 101), (.int 99), (.int 116), (.int 101), (.int 100), (.int 32), (.int 0), (.int 0), (.int 0), (.int 0), (.int 0), (.int 0), (.int 0), (.int 0), (.int 0), (.int 0), (.int 0), (.int 0)] (.int 0) := V113
  have N113 := Fr.snoc X113 N112 g_b102
  replace A101 := A101.wr W113
  replace F101_value := F101_value.other W113 (Or.inl ne_b101_b102)
  replace F101_coder := F101_coder.other W113 (Or.inl ne_b101_b102)
  replace B102 := B102.wr W113
  have OW113 := ext_wr OW112 W113 g_b102
  replace KP := KP.wr W113 (Or.inr z_b102)
  refine Go.dup X113 hx (hb hby d5_772) rfl (q := 773) rfl ?_
  refine Go.bipush X113 hx (hb hby d5_773) (r := (11 : Int32)) rfl (q := 775) rfl ?_
  refine Go.bipush X113 hx (hb hby d5_775) (r := (97 : Int32)) rfl (q := 777) rfl ?_
  refine Go.cst X113 hx hZ e113 V113 ⟨by decide, by decide⟩ (i := 11) rfl (Nat.le_of_ble_eq_true rfl) (hb hby d5_777) ?_
  intro T114 h114 X114 e114 W114 V114
  replace V114 : Arv Z h114 b102 k102 .char (23 : Int32) [(.int 117), (.int 110), (.int 101), (.int 120), (.int 112), (.int 101), (.int 99), (.int 116), (.int 101), (.int 100), (.int 32), (.int 97), (.int 0), (.int 0), (.int 0), (.int 0), (.int 0), (.int 0), (.int 0), (.int 0), (.int 0), (.int 0), (.int 0)] (.int 0) := V114
  have N114 := Fr.snoc X114 N113 g_b102
  replace A101 := A101.wr W114
  replace F101_value := F101_value.other W114 (Or.inl ne_b101_b102)
  replace F101_coder := F101_coder.other W114 (Or.inl ne_b101_b102)
  replace B102 := B102.wr W114
  have OW114 := ext_wr OW113 W114 g_b102
  replace KP := KP.wr W114 (Or.inr z_b102)
  refine Go.dup X114 hx (hb hby d5_778) rfl (q := 779) rfl ?_
  refine Go.bipush X114 hx (hb hby d5_779) (r := (12 : Int32)) rfl (q := 781) rfl ?_
  refine Go.bipush X114 hx (hb hby d5_781) (r := (114 : Int32)) rfl (q := 783) rfl ?_
  refine Go.cst X114 hx hZ e114 V114 ⟨by decide, by decide⟩ (i := 12) rfl (Nat.le_of_ble_eq_true rfl) (hb hby d5_783) ?_
  intro T115 h115 X115 e115 W115 V115
  replace V115 : Arv Z h115 b102 k102 .char (23 : Int32) [(.int 117), (.int 110), (.int 101), (.int 120), (.int 112), (.int 101), (.int 99), (.int 116), (.int 101), (.int 100), (.int 32), (.int 97), (.int 114), (.int 0), (.int 0), (.int 0), (.int 0), (.int 0), (.int 0), (.int 0), (.int 0), (.int 0), (.int 0)] (.int 0) := V115
  have N115 := Fr.snoc X115 N114 g_b102
  replace A101 := A101.wr W115
  replace F101_value := F101_value.other W115 (Or.inl ne_b101_b102)
  replace F101_coder := F101_coder.other W115 (Or.inl ne_b101_b102)
  replace B102 := B102.wr W115
  have OW115 := ext_wr OW114 W115 g_b102
  replace KP := KP.wr W115 (Or.inr z_b102)
  refine Go.dup X115 hx (hb hby d5_784) rfl (q := 785) rfl ?_
  refine Go.bipush X115 hx (hb hby d5_785) (r := (13 : Int32)) rfl (q := 787) rfl ?_
  refine Go.bipush X115 hx (hb hby d5_787) (r := (103 : Int32)) rfl (q := 789) rfl ?_
  refine Go.cst X115 hx hZ e115 V115 ⟨by decide, by decide⟩ (i := 13) rfl (Nat.le_of_ble_eq_true rfl) (hb hby d5_789) ?_
  intro T116 h116 X116 e116 W116 V116
  replace V116 : Arv Z h116 b102 k102 .char (23 : Int32) [(.int 117), (.int 110), (.int 101), (.int 120), (.int 112), (.int 101), (.int 99), (.int 116), (.int 101), (.int 100), (.int 32), (.int 97), (.int 114), (.int 103), (.int 0), (.int 0), (.int 0), (.int 0), (.int 0), (.int 0), (.int 0), (.int 0), (.int 0)] (.int 0) := V116
  have N116 := Fr.snoc X116 N115 g_b102
  replace A101 := A101.wr W116
  replace F101_value := F101_value.other W116 (Or.inl ne_b101_b102)
  replace F101_coder := F101_coder.other W116 (Or.inl ne_b101_b102)
  replace B102 := B102.wr W116
  have OW116 := ext_wr OW115 W116 g_b102
  replace KP := KP.wr W116 (Or.inr z_b102)
  refine Go.dup X116 hx (hb hby d5_790) rfl (q := 791) rfl ?_
  refine Go.bipush X116 hx (hb hby d5_791) (r := (14 : Int32)) rfl (q := 793) rfl ?_
  refine Go.bipush X116 hx (hb hby d5_793) (r := (117 : Int32)) rfl (q := 795) rfl ?_
  refine Go.cst X116 hx hZ e116 V116 ⟨by decide, by decide⟩ (i := 14) rfl (Nat.le_of_ble_eq_true rfl) (hb hby d5_795) ?_
  intro T117 h117 X117 e117 W117 V117
  replace V117 : Arv Z h117 b102 k102 .char (23 : Int32) [(.int 117), (.int 110), (.int 101), (.int 120), (.int 112), (.int 101), (.int 99), (.int 116), (.int 101), (.int 100), (.int 32), (.int 97), (.int 114), (.int 103), (.int 117), (.int 0), (.int 0), (.int 0), (.int 0), (.int 0), (.int 0), (.int 0), (.int 0)] (.int 0) := V117
  have N117 := Fr.snoc X117 N116 g_b102
  replace A101 := A101.wr W117
  replace F101_value := F101_value.other W117 (Or.inl ne_b101_b102)
  replace F101_coder := F101_coder.other W117 (Or.inl ne_b101_b102)
  replace B102 := B102.wr W117
  have OW117 := ext_wr OW116 W117 g_b102
  replace KP := KP.wr W117 (Or.inr z_b102)
  refine Go.dup X117 hx (hb hby d5_796) rfl (q := 797) rfl ?_
  refine Go.bipush X117 hx (hb hby d5_797) (r := (15 : Int32)) rfl (q := 799) rfl ?_
  refine Go.bipush X117 hx (hb hby d5_799) (r := (109 : Int32)) rfl (q := 801) rfl ?_
  refine Go.cst X117 hx hZ e117 V117 ⟨by decide, by decide⟩ (i := 15) rfl (Nat.le_of_ble_eq_true rfl) (hb hby d5_801) ?_
  intro T118 h118 X118 e118 W118 V118
  replace V118 : Arv Z h118 b102 k102 .char (23 : Int32) [(.int 117), (.int 110), (.int 101), (.int 120), (.int 112), (.int 101), (.int 99), (.int 116), (.int 101), (.int 100), (.int 32), (.int 97), (.int 114), (.int 103), (.int 117), (.int 109), (.int 0), (.int 0), (.int 0), (.int 0), (.int 0), (.int 0), (.int 0)] (.int 0) := V118
  have N118 := Fr.snoc X118 N117 g_b102
  replace A101 := A101.wr W118
  replace F101_value := F101_value.other W118 (Or.inl ne_b101_b102)
  replace F101_coder := F101_coder.other W118 (Or.inl ne_b101_b102)
  replace B102 := B102.wr W118
  have OW118 := ext_wr OW117 W118 g_b102
  replace KP := KP.wr W118 (Or.inr z_b102)
  refine Go.dup X118 hx (hb hby d5_802) rfl (q := 803) rfl ?_
  refine Go.bipush X118 hx (hb hby d5_803) (r := (16 : Int32)) rfl (q := 805) rfl ?_
  refine Go.bipush X118 hx (hb hby d5_805) (r := (101 : Int32)) rfl (q := 807) rfl ?_
  refine Go.cst X118 hx hZ e118 V118 ⟨by decide, by decide⟩ (i := 16) rfl (Nat.le_of_ble_eq_true rfl) (hb hby d5_807) ?_
  intro T119 h119 X119 e119 W119 V119
  replace V119 : Arv Z h119 b102 k102 .char (23 : Int32) [(.int 117), (.int 110), (.int 101), (.int 120), (.int 112), (.int 101), (.int 99), (.int 116), (.int 101), (.int 100), (.int 32), (.int 97), (.int 114), (.int 103), (.int 117), (.int 109), (.int 101), (.int 0), (.int 0), (.int 0), (.int 0), (.int 0), (.int 0)] (.int 0) := V119
  have N119 := Fr.snoc X119 N118 g_b102
  replace A101 := A101.wr W119
  replace F101_value := F101_value.other W119 (Or.inl ne_b101_b102)
  replace F101_coder := F101_coder.other W119 (Or.inl ne_b101_b102)
  replace B102 := B102.wr W119
  have OW119 := ext_wr OW118 W119 g_b102
  replace KP := KP.wr W119 (Or.inr z_b102)
  refine Go.dup X119 hx (hb hby d5_808) rfl (q := 809) rfl ?_
  refine Go.bipush X119 hx (hb hby d5_809) (r := (17 : Int32)) rfl (q := 811) rfl ?_
  refine Go.bipush X119 hx (hb hby d5_811) (r := (110 : Int32)) rfl (q := 813) rfl ?_
  refine Go.cst X119 hx hZ e119 V119 ⟨by decide, by decide⟩ (i := 17) rfl (Nat.le_of_ble_eq_true rfl) (hb hby d5_813) ?_
  intro T120 h120 X120 e120 W120 V120
  replace V120 : Arv Z h120 b102 k102 .char (23 : Int32) [(.int 117), (.int 110), (.int 101), (.int 120), (.int 112), (.int 101), (.int 99), (.int 116), (.int 101), (.int 100), (.int 32), (.int 97), (.int 114), (.int 103), (.int 117), (.int 109), (.int 101), (.int 110), (.int 0), (.int 0), (.int 0), (.int 0), (.int 0)] (.int 0) := V120
  have N120 := Fr.snoc X120 N119 g_b102
  replace A101 := A101.wr W120
  replace F101_value := F101_value.other W120 (Or.inl ne_b101_b102)
  replace F101_coder := F101_coder.other W120 (Or.inl ne_b101_b102)
  replace B102 := B102.wr W120
  have OW120 := ext_wr OW119 W120 g_b102
  replace KP := KP.wr W120 (Or.inr z_b102)
  refine Go.dup X120 hx (hb hby d5_814) rfl (q := 815) rfl ?_
  refine Go.bipush X120 hx (hb hby d5_815) (r := (18 : Int32)) rfl (q := 817) rfl ?_
  refine Go.bipush X120 hx (hb hby d5_817) (r := (116 : Int32)) rfl (q := 819) rfl ?_
  refine Go.cst X120 hx hZ e120 V120 ⟨by decide, by decide⟩ (i := 18) rfl (Nat.le_of_ble_eq_true rfl) (hb hby d5_819) ?_
  intro T121 h121 X121 e121 W121 V121
  replace V121 : Arv Z h121 b102 k102 .char (23 : Int32) [(.int 117), (.int 110), (.int 101), (.int 120), (.int 112), (.int 101), (.int 99), (.int 116), (.int 101), (.int 100), (.int 32), (.int 97), (.int 114), (.int 103), (.int 117), (.int 109), (.int 101), (.int 110), (.int 116), (.int 0), (.int 0), (.int 0), (.int 0)] (.int 0) := V121
  have N121 := Fr.snoc X121 N120 g_b102
  replace A101 := A101.wr W121
  replace F101_value := F101_value.other W121 (Or.inl ne_b101_b102)
  replace F101_coder := F101_coder.other W121 (Or.inl ne_b101_b102)
  replace B102 := B102.wr W121
  have OW121 := ext_wr OW120 W121 g_b102
  replace KP := KP.wr W121 (Or.inr z_b102)
  refine Go.dup X121 hx (hb hby d5_820) rfl (q := 821) rfl ?_
  refine Go.bipush X121 hx (hb hby d5_821) (r := (19 : Int32)) rfl (q := 823) rfl ?_
  refine Go.bipush X121 hx (hb hby d5_823) (r := (32 : Int32)) rfl (q := 825) rfl ?_
  refine Go.cst X121 hx hZ e121 V121 ⟨by decide, by decide⟩ (i := 19) rfl (Nat.le_of_ble_eq_true rfl) (hb hby d5_825) ?_
  intro T122 h122 X122 e122 W122 V122
  replace V122 : Arv Z h122 b102 k102 .char (23 : Int32) [(.int 117), (.int 110), (.int 101), (.int 120), (.int 112), (.int 101), (.int 99), (.int 116), (.int 101), (.int 100), (.int 32), (.int 97), (.int 114), (.int 103), (.int 117), (.int 109), (.int 101), (.int 110), (.int 116), (.int 32), (.int 0), (.int 0), (.int 0)] (.int 0) := V122
  have N122 := Fr.snoc X122 N121 g_b102
  replace A101 := A101.wr W122
  replace F101_value := F101_value.other W122 (Or.inl ne_b101_b102)
  replace F101_coder := F101_coder.other W122 (Or.inl ne_b101_b102)
  replace B102 := B102.wr W122
  have OW122 := ext_wr OW121 W122 g_b102
  replace KP := KP.wr W122 (Or.inr z_b102)
  refine Go.dup X122 hx (hb hby d5_826) rfl (q := 827) rfl ?_
  refine Go.bipush X122 hx (hb hby d5_827) (r := (20 : Int32)) rfl (q := 829) rfl ?_
  refine Go.iloadN X122 hx (hb hby d5_829) rfl (q := 830) rfl ?_
  refine Go.cst X122 hx hZ e122 V122 ⟨by decide, by decide⟩ (i := 20) rfl (Nat.le_of_ble_eq_true rfl) (hb hby d5_830) ?_
  intro T123 h123 X123 e123 W123 V123
  rw [hn0] at V123
  replace V123 : Arv Z h123 b102 k102 .char (23 : Int32) [(.int 117), (.int 110), (.int 101), (.int 120), (.int 112), (.int 101), (.int 99), (.int 116), (.int 101), (.int 100), (.int 32), (.int 97), (.int 114), (.int 103), (.int 117), (.int 109), (.int 101), (.int 110), (.int 116), (.int 32), (.int c0), (.int 0), (.int 0)] (.int 0) := V123
  have N123 := Fr.snoc X123 N122 g_b102
  replace A101 := A101.wr W123
  replace F101_value := F101_value.other W123 (Or.inl ne_b101_b102)
  replace F101_coder := F101_coder.other W123 (Or.inl ne_b101_b102)
  replace B102 := B102.wr W123
  have OW123 := ext_wr OW122 W123 g_b102
  replace KP := KP.wr W123 (Or.inr z_b102)
  refine Go.dup X123 hx (hb hby d5_831) rfl (q := 832) rfl ?_
  refine Go.bipush X123 hx (hb hby d5_832) (r := (21 : Int32)) rfl (q := 834) rfl ?_
  refine Go.iloadN X123 hx (hb hby d5_834) rfl (q := 835) rfl ?_
  refine Go.cst X123 hx hZ e123 V123 ⟨by decide, by decide⟩ (i := 21) rfl (Nat.le_of_ble_eq_true rfl) (hb hby d5_835) ?_
  intro T124 h124 X124 e124 W124 V124
  rw [hn1] at V124
  replace V124 : Arv Z h124 b102 k102 .char (23 : Int32) [(.int 117), (.int 110), (.int 101), (.int 120), (.int 112), (.int 101), (.int 99), (.int 116), (.int 101), (.int 100), (.int 32), (.int 97), (.int 114), (.int 103), (.int 117), (.int 109), (.int 101), (.int 110), (.int 116), (.int 32), (.int c0), (.int c1), (.int 0)] (.int 0) := V124
  have N124 := Fr.snoc X124 N123 g_b102
  replace A101 := A101.wr W124
  replace F101_value := F101_value.other W124 (Or.inl ne_b101_b102)
  replace F101_coder := F101_coder.other W124 (Or.inl ne_b101_b102)
  replace B102 := B102.wr W124
  have OW124 := ext_wr OW123 W124 g_b102
  replace KP := KP.wr W124 (Or.inr z_b102)
  refine Go.dup X124 hx (hb hby d5_836) rfl (q := 837) rfl ?_
  refine Go.bipush X124 hx (hb hby d5_837) (r := (22 : Int32)) rfl (q := 839) rfl ?_
  refine Go.iload X124 hx (hb hby d5_839) rfl (q := 841) rfl ?_
  refine Go.cst X124 hx hZ e124 V124 ⟨by decide, by decide⟩ (i := 22) rfl (Nat.le_of_ble_eq_true rfl) (hb hby d5_841) ?_
  intro T125 h125 X125 e125 W125 V125
  rw [hn2] at V125
  replace V125 : Arv Z h125 b102 k102 .char (23 : Int32) [(.int 117), (.int 110), (.int 101), (.int 120), (.int 112), (.int 101), (.int 99), (.int 116), (.int 101), (.int 100), (.int 32), (.int 97), (.int 114), (.int 103), (.int 117), (.int 109), (.int 101), (.int 110), (.int 116), (.int 32), (.int c0), (.int c1), (.int c2)] (.int 0) := V125
  have N125 := Fr.snoc X125 N124 g_b102
  replace A101 := A101.wr W125
  replace F101_value := F101_value.other W125 (Or.inl ne_b101_b102)
  replace F101_coder := F101_coder.other W125 (Or.inl ne_b101_b102)
  replace B102 := B102.wr W125
  have OW125 := ext_wr OW124 W125 g_b102
  replace KP := KP.wr W125 (Or.inr z_b102)
  refine Go.init X125 hx hZ hown rfl (wd8 hw) (wd9 hw) (wd6 hw) (wd10 hw) (by decide) (csj l Z a0 hw b101 b102 ((23 : Int32)) (k102) cs ([(.int 117), (.int 110), (.int 101), (.int 120), (.int 112), (.int 101), (.int 99), (.int 116), (.int 101), (.int 100), (.int 32), (.int 97), (.int 114), (.int 103), (.int 117), (.int 109), (.int 101), (.int 110), (.int 116), (.int 32), (.int c0), (.int c1), (.int c2)]) ([(.int 117), (.int 110), (.int 101), (.int 120), (.int 112), (.int 101), (.int 99), (.int 116), (.int 101), (.int 100), (.int 32), (.int 97), (.int 114), (.int 103), (.int 117), (.int 109), (.int 101), (.int 110), (.int 116), (.int 32), (.int (c0.toInt8.toInt32)), (.int (c1.toInt8.toInt32)), (.int (c2.toInt8.toInt32))]) h125 OW125 A101 F101_value F101_coder g_b101 V125 SCS hcs ⟨by decide, by decide, rfl, (own_ua (own_ac hc0 (own_ac hc1 (own_ac hc2 own_an))))⟩) e125 (by rw [hml]; rfl) (hb hby d5_842) (argsL := [(.ref b102)]) (rest := [(.ref b101)]) (lenOf pd5 rfl) rfl rfl (W := 1) (Nat.le_refl _) (by decide) ?_
  intro v126 T126 L126 X126 hQ126
  obtain ⟨h126, e126⟩ : ∃ z, T126.heap = z := ⟨_, rfl⟩
  rw [e126] at hQ126
  obtain ⟨b_126, kb_126, rfl, N126q, K126, fr126_b, P126_0, P126_1, P126_2⟩ := hQ126
  have N126 := Fr.app N125 N126q
  have ne_b101_b_126 : b101 ≠ b_126 := ne_new A101.lt fr126_b
  have ne_b102_b_126 : b102 ≠ b_126 := ne_new B102.lt fr126_b
  have g_b_126 : Z.heap.size ≤ b_126 := Nat.le_trans OW125.1 fr126_b
  have z_b_126 : h0.size ≤ b_126 := Nat.le_trans KP.1 fr126_b
  replace A101 := A101.keep K126
  replace B102 := B102.keep K126
  replace V125 := V125.keep K126 (ninS (Ne.symm ne_b101_b102) nin0)
  have OK126 := ext_keep OW125 K126 (allS g_b101 all0)
  replace KP := KP.trans K126 (allS (Or.inr z_b101) all0)
  exact Go.retA X126 hx hret hlk rfl rfl (hb hby d5_845) e126 (by decide) (by decide) ⟨b101, b_126, kb_126, rfl, N126, KP, z_b101, z_b_126, A101, P126_1, P126_0, P126_2⟩
def Q_cmisy (Z : State) (v1 v2 : Addr) (k1 k2 : ClassId) (n y0 : Int32) (vs : List Value) (h0 : Heap) (vR : Option Value) (hR : Heap) (LR : List Loc) : Prop := vR = some (.int (-1)) ∧ Fr Z.heap.size LR ∧ hR = h0
theorem cmisy (l : Launch) (Z : State) (a0 : Array Value) (hw : ∀ d ∈ tables_1, d.before a0 Z = true) (v1 v2 : Addr) (k1 k2 : ClassId) (n y0 : Int32) (vs : List Value) (h0 : Heap) (O0 : Ext Z.heap h0) (Va : Arv Z h0 v1 k1 .byte n vs (.int 0)) (Vb : Arv Z h0 v2 k2 .byte (1 : Int32) [(.int 45)] (.int 0)) (hn : (0 : Int32) < n) (hg : vs.getD ((0 : Int32)).toNatClampNeg (.int (0 : Int32)) = (.int y0)) (he : y0 = (45 : Int32)) :
    Ctr l Z h0 (⟨"jdk/internal/util/ArraysSupport", "mismatch", "([BI[BII)I"⟩ : MethodName) k45 8 (some .int) [] ({ frames := 0, cells := 0, slots := 0, locals := 0 } : Room) #[(.ref v1), (.int 0), (.ref v2), (.int 0), (.int 1)] (Q_cmisy Z v1 v2 k1 k2 n y0 vs h0) := by
  refine enter (plainFor_of_name pn3) ?_
  intro pp ee ss mm below meth cc s₁ hx hby hml hZ hown hnm hret hlk X0 e0 hs0
  replace hown : ss.vm.findClass "jdk/internal/util/ArraysSupport" = some mm.cls := hown
  refine Go.cast (congrArg s₁.setTop (ef_cmisy mm v1 v2)) ?_
  have N0 := Fr.nil Z.heap.size
  show Go pp ee below _ (s₁.setTop (mkF mm 0 #[.val (.ref v1), .val (.int 0), .val (.ref v2), .val (.int 0), .val (.int 1), .unset, .unset, .unset] []))
  refine Go.iconst X0 hx (hb hby d45_0) (r := (0 : Int32)) rfl (q := 1) rfl ?_
  refine Go.istore X0 hx (hb hby d45_1) (l' := #[.val (.ref v1), .val (.int 0), .val (.ref v2), .val (.int 0), .val (.int 1), .val (.int 0), .unset, .unset]) rfl (q := 3) rfl ?_
  refine Go.iload X0 hx (hb hby d45_3) rfl (q := 5) rfl ?_
  refine Go.bipush X0 hx (hb hby d45_5) (r := (7 : Int32)) rfl (q := 7) rfl ?_
  refine Go.icmpYes X0 hx (hb hby d45_7) (by decide) (q := 70) (by decide) (by decide) ?_
  refine Go.iload X0 hx (hb hby d45_70) rfl (q := 72) rfl ?_
  refine Go.iload X0 hx (hb hby d45_72) rfl (q := 74) rfl ?_
  refine Go.icmpNo X0 hx (hb hby d45_74) (by decide) (q := 77) rfl ?_
  refine Go.aloadN X0 hx (hb hby d45_77) rfl rfl (q := 78) rfl ?_
  refine Go.iloadN X0 hx (hb hby d45_78) rfl (q := 79) rfl ?_
  refine Go.iload X0 hx (hb hby d45_79) rfl (q := 81) rfl ?_
  refine Go.iadd X0 hx (hb hby d45_81) (r := (0 : Int32)) rfl (q := 82) rfl ?_
  refine Go.bal X0 hx hZ e0 Va ⟨by decide, hn⟩ (v := (.int y0)) hg (hb hby d45_82) ?_
  refine Go.aloadN X0 hx (hb hby d45_83) rfl rfl (q := 84) rfl ?_
  refine Go.iloadN X0 hx (hb hby d45_84) rfl (q := 85) rfl ?_
  refine Go.iload X0 hx (hb hby d45_85) rfl (q := 87) rfl ?_
  refine Go.iadd X0 hx (hb hby d45_87) (r := (0 : Int32)) rfl (q := 88) rfl ?_
  refine Go.bal X0 hx hZ e0 Vb ⟨by decide, by decide⟩ (v := (.int 45)) rfl (hb hby d45_88) ?_
  refine Go.icmpYes X0 hx (hb hby d45_89) (Jvm.Free.XT.ii_eq_t he) (q := 95) (by decide) (by decide) ?_
  refine Go.iinc X0 hx (hb hby d45_95) rfl (r := (1 : Int32)) rfl (l' := #[.val (.ref v1), .val (.int 0), .val (.ref v2), .val (.int 0), .val (.int 1), .val (.int 1), .unset, .unset]) rfl (q := 98) rfl ?_
  refine Go.goto X0 hx (hb hby d45_98) (q := 70) (by decide) (by decide) ?_
  refine Go.iload X0 hx (hb hby d45_70) rfl (q := 72) rfl ?_
  refine Go.iload X0 hx (hb hby d45_72) rfl (q := 74) rfl ?_
  refine Go.icmpYes X0 hx (hb hby d45_74) (by decide) (q := 101) (by decide) (by decide) ?_
  refine Go.iconst X0 hx (hb hby d45_101) (r := (-1 : Int32)) rfl (q := 102) rfl ?_
  exact Go.retI X0 hx hret hlk (Or.inl rfl) rfl (hb hby d45_102) e0 (by decide) (by decide) ⟨rfl, N0, rfl⟩
def Q_csvy (Z : State) (t1 t2 : Addr) (cs : Int32) (v1 v2 : Addr) (k1 k2 : ClassId) (n y0 : Int32) (vs : List Value) (h0 : Heap) (vR : Option Value) (hR : Heap) (LR : List Loc) : Prop := vR = some (.int 1) ∧ Fr Z.heap.size LR ∧ hR = h0
theorem csvy (l : Launch) (Z : State) (a0 : Array Value) (hw : ∀ d ∈ tables_1, d.before a0 Z = true) (t1 t2 : Addr) (cs : Int32) (v1 v2 : Addr) (k1 k2 : ClassId) (n y0 : Int32) (vs : List Value) (h0 : Heap) (O0 : Ext Z.heap h0) (E1 : Exa Z h0 t1 xS0) (E2 : Exa Z h0 t2 xS0) (C1 : Fld Z h0 t1 xS0 "coder" "B" (.int 0)) (C2 : Fld Z h0 t2 xS0 "coder" "B" (.int 0)) (F1 : Fld Z h0 t1 xS0 "value" "[B" (.ref v1)) (F2 : Fld Z h0 t2 xS0 "value" "[B" (.ref v2)) (Va : Arv Z h0 v1 k1 .byte n vs (.int 0)) (Vb : Arv Z h0 v2 k2 .byte (1 : Int32) [(.int 45)] (.int 0)) (SCS : Sta Z Z.heap xS0 xS3 "Z" (.int cs)) (hcs : ¬ (cs = (0 : Int32))) (hn : (0 : Int32) < n) (hg : vs.getD ((0 : Int32)).toNatClampNeg (.int (0 : Int32)) = (.int y0)) (hl : ¬ ((n - (1 : Int32)) < (0 : Int32))) (he : y0 = (45 : Int32)) :
    Ctr l Z h0 (⟨xS0, "startsWith", "(Ljava/lang/String;I)Z"⟩ : MethodName) k11 8 (some .boolean) [] ({ frames := 2, cells := 0, slots := 0, locals := 27 } : Room) #[(.ref t1), (.ref t2), (.int 0)] (Q_csvy Z t1 t2 cs v1 v2 k1 k2 n y0 vs h0) := by
  refine enter (plainFor_of_name pn0) ?_
  intro pp ee ss mm below meth cc s₁ hx hby hml hZ hown hnm hret hlk X0 e0 hs0
  replace hown : ss.vm.findClass xS0 = some mm.cls := hown
  refine Go.cast (congrArg s₁.setTop (ef_csvy mm t1 t2)) ?_
  have N0 := Fr.nil Z.heap.size
  show Go pp ee below _ (s₁.setTop (mkF mm 0 #[.val (.ref t1), .val (.ref t2), .val (.int 0), .unset, .unset, .unset, .unset, .unset] []))
  refine Go.iloadN X0 hx (hb hby d11_0) rfl (q := 1) rfl ?_
  refine Go.ifNo X0 hx (hb hby d11_1) (by decide) (q := 4) rfl ?_
  refine Go.iloadN X0 hx (hb hby d11_4) rfl (q := 5) rfl ?_
  refine Go.aloadN X0 hx (hb hby d11_5) rfl rfl (q := 6) rfl ?_
  refine Go.virt X0 hx hZ hown (wd58 hw) (wd59 hw) (notFace_of_selects (args := #[]) (mvT hZ (wd61 hw))) (wd61 hw) (wd60 hw) (wd6 hw) (wd62 hw) (by decide) (clen l Z a0 hw t1 cs v1 (k1) n (vs) h0 O0 E1 C1 F1 Va SCS hcs) e0 E1 (by rw [hml]; rfl) (hb hby d11_6) (argsL := []) (rest := [(.int 0)]) (lenOf pd6 rfl) rfl rfl (W := 1) (Nat.le_refl _) (by decide) ?_
  intro v101 T101 L101 X101 hQ101
  obtain ⟨rfl, N101q, e101⟩ := hQ101
  have N101 := Fr.app N0 N101q
  refine Go.aloadN X101 hx (hb hby d11_9) rfl rfl (q := 10) rfl ?_
  refine Go.virt X101 hx hZ hown (wd58 hw) (wd59 hw) (notFace_of_selects (args := #[]) (mvT hZ (wd61 hw))) (wd61 hw) (wd60 hw) (wd6 hw) (wd62 hw) (by decide) (clen l Z a0 hw t2 cs v2 (k2) ((1 : Int32)) ([(.int 45)]) h0 O0 E2 C2 F2 Vb SCS hcs) e101 E2 (by rw [hml]; rfl) (hb hby d11_10) (argsL := []) (rest := [(.int n), (.int 0)]) (lenOf pd6 rfl) rfl rfl (W := 2) (Nat.le_refl _) (by decide) ?_
  intro v102 T102 L102 X102 hQ102
  obtain ⟨rfl, N102q, e102⟩ := hQ102
  have N102 := Fr.app N101 N102q
  refine Go.isub X102 hx (hb hby d11_13) rfl (q := 14) rfl ?_
  refine Go.icmpYes X102 hx (hb hby d11_14) (Jvm.Free.XT.ii_le_t hl) (q := 19) (by decide) (by decide) ?_
  refine Go.aloadN X102 hx (hb hby d11_19) rfl rfl (q := 20) rfl ?_
  refine Go.getF X102 hx hZ hown (host := "") (Or.inl (wd24 hw)) Via.refl e102 F1 (hb hby d11_20) (q := 23) rfl ?_
  intro T103 X103 e103
  refine Go.astoreN X103 hx (hb hby d11_23) rfl (l' := #[.val (.ref t1), .val (.ref t2), .val (.int 0), .val (.ref v1), .unset, .unset, .unset, .unset]) rfl (q := 24) rfl ?_
  refine Go.aloadN X103 hx (hb hby d11_24) rfl rfl (q := 25) rfl ?_
  refine Go.getF X103 hx hZ hown (host := "") (Or.inl (wd24 hw)) Via.refl e103 F2 (hb hby d11_25) (q := 28) rfl ?_
  intro T104 X104 e104
  refine Go.astore X104 hx (hb hby d11_28) rfl (l' := #[.val (.ref t1), .val (.ref t2), .val (.int 0), .val (.ref v1), .val (.ref v2), .unset, .unset, .unset]) rfl (q := 30) rfl ?_
  refine Go.iconst X104 hx (hb hby d11_30) (r := (0 : Int32)) rfl (q := 31) rfl ?_
  refine Go.istore X104 hx (hb hby d11_31) (l' := #[.val (.ref t1), .val (.ref t2), .val (.int 0), .val (.ref v1), .val (.ref v2), .val (.int 0), .unset, .unset]) rfl (q := 33) rfl ?_
  refine Go.aload X104 hx (hb hby d11_33) rfl rfl (q := 35) rfl ?_
  refine Go.alen X104 hx hZ e104 Vb (hb hby d11_35) ?_
  refine Go.istore X104 hx (hb hby d11_36) (l' := #[.val (.ref t1), .val (.ref t2), .val (.int 0), .val (.ref v1), .val (.ref v2), .val (.int 0), .val (.int 1), .unset]) rfl (q := 38) rfl ?_
  refine Go.aloadN X104 hx (hb hby d11_38) rfl rfl (q := 39) rfl ?_
  refine Go.virt X104 hx hZ hown (wd63 hw) (wd64 hw) (notFace_of_selects (args := #[]) (mvT hZ (wd66 hw))) (wd66 hw) (wd65 hw) (wd6 hw) (wd67 hw) (by decide) (ccoder l Z a0 hw t1 cs h0 O0 C1 SCS hcs) e104 E1 (by rw [hml]; rfl) (hb hby d11_39) (argsL := []) (rest := []) (lenOf pd4 rfl) rfl rfl (W := 0) (Nat.le_refl _) (by decide) ?_
  intro v105 T105 L105 X105 hQ105
  obtain ⟨rfl, N105q, e105⟩ := hQ105
  have N105 := Fr.app N102 N105q
  refine Go.istore X105 hx (hb hby d11_42) (l' := #[.val (.ref t1), .val (.ref t2), .val (.int 0), .val (.ref v1), .val (.ref v2), .val (.int 0), .val (.int 1), .val (.int 0)]) rfl (q := 44) rfl ?_
  refine Go.iload X105 hx (hb hby d11_44) rfl (q := 46) rfl ?_
  refine Go.aloadN X105 hx (hb hby d11_46) rfl rfl (q := 47) rfl ?_
  refine Go.virt X105 hx hZ hown (wd63 hw) (wd64 hw) (notFace_of_selects (args := #[]) (mvT hZ (wd66 hw))) (wd66 hw) (wd65 hw) (wd6 hw) (wd67 hw) (by decide) (ccoder l Z a0 hw t2 cs h0 O0 C2 SCS hcs) e105 E2 (by rw [hml]; rfl) (hb hby d11_47) (argsL := []) (rest := [(.int 0)]) (lenOf pd4 rfl) rfl rfl (W := 1) (Nat.le_refl _) (by decide) ?_
  intro v106 T106 L106 X106 hQ106
  obtain ⟨rfl, N106q, e106⟩ := hQ106
  have N106 := Fr.app N105 N106q
  refine Go.icmpNo X106 hx (hb hby d11_50) (by decide) (q := 53) rfl ?_
  refine Go.iload X106 hx (hb hby d11_53) rfl (q := 55) rfl ?_
  refine Go.iconst X106 hx (hb hby d11_55) (r := (1 : Int32)) rfl (q := 56) rfl ?_
  refine Go.icmpYes X106 hx (hb hby d11_56) (by decide) (q := 63) (by decide) (by decide) ?_
  refine Go.aloadN X106 hx (hb hby d11_63) rfl rfl (q := 64) rfl ?_
  refine Go.iloadN X106 hx (hb hby d11_64) rfl (q := 65) rfl ?_
  refine Go.aload X106 hx (hb hby d11_65) rfl rfl (q := 67) rfl ?_
  refine Go.iconst X106 hx (hb hby d11_67) (r := (0 : Int32)) rfl (q := 68) rfl ?_
  refine Go.iload X106 hx (hb hby d11_68) rfl (q := 70) rfl ?_
  refine Go.callS X106 hx hZ hown (wd254 hw) (wd255 hw) (wd112 hw) (wd256 hw) (by decide) (cmisy l Z a0 hw v1 v2 (k1) (k2) n y0 (vs) h0 O0 Va Vb hn hg he) e106 (by rw [hml]; rfl) (hb hby d11_70) (argsL := [(.ref v1), (.int 0), (.ref v2), (.int 0), (.int 1)]) (rest := []) (lenOf pd7 rfl) rfl rfl (W := 0) (Nat.le_refl _) (by decide) ?_
  intro v107 T107 L107 X107 hQ107
  obtain ⟨rfl, N107q, e107⟩ := hQ107
  have N107 := Fr.app N106 N107q
  refine Go.ifNo X107 hx (hb hby d11_73) (by decide) (q := 76) rfl ?_
  refine Go.iconst X107 hx (hb hby d11_76) (r := (1 : Int32)) rfl (q := 77) rfl ?_
  refine Go.goto X107 hx (hb hby d11_77) (q := 81) (by decide) (by decide) ?_
  exact Go.retI X107 hx hret hlk (by simp) rfl (hb hby d11_81) e107 (by decide) (by decide) ⟨rfl, N107, rfl⟩
def Q_cswy (Z : State) (t1 t2 : Addr) (cs : Int32) (v1 v2 : Addr) (k1 k2 : ClassId) (n y0 : Int32) (vs : List Value) (h0 : Heap) (vR : Option Value) (hR : Heap) (LR : List Loc) : Prop := vR = some (.int 1) ∧ Fr Z.heap.size LR ∧ hR = h0
theorem cswy (l : Launch) (Z : State) (a0 : Array Value) (hw : ∀ d ∈ tables_1, d.before a0 Z = true) (t1 t2 : Addr) (cs : Int32) (v1 v2 : Addr) (k1 k2 : ClassId) (n y0 : Int32) (vs : List Value) (h0 : Heap) (O0 : Ext Z.heap h0) (E1 : Exa Z h0 t1 xS0) (E2 : Exa Z h0 t2 xS0) (C1 : Fld Z h0 t1 xS0 "coder" "B" (.int 0)) (C2 : Fld Z h0 t2 xS0 "coder" "B" (.int 0)) (F1 : Fld Z h0 t1 xS0 "value" "[B" (.ref v1)) (F2 : Fld Z h0 t2 xS0 "value" "[B" (.ref v2)) (Va : Arv Z h0 v1 k1 .byte n vs (.int 0)) (Vb : Arv Z h0 v2 k2 .byte (1 : Int32) [(.int 45)] (.int 0)) (SCS : Sta Z Z.heap xS0 xS3 "Z" (.int cs)) (hcs : ¬ (cs = (0 : Int32))) (hn : (0 : Int32) < n) (hg : vs.getD ((0 : Int32)).toNatClampNeg (.int (0 : Int32)) = (.int y0)) (hl : ¬ ((n - (1 : Int32)) < (0 : Int32))) (he : y0 = (45 : Int32)) :
    Ctr l Z h0 (⟨xS0, "startsWith", "(Ljava/lang/String;)Z"⟩ : MethodName) k10 2 (some .boolean) [] ({ frames := 3, cells := 0, slots := 0, locals := 46 } : Room) #[(.ref t1), (.ref t2)] (Q_cswy Z t1 t2 cs v1 v2 k1 k2 n y0 vs h0) := by
  refine enter (plainFor_of_name pn0) ?_
  intro pp ee ss mm below meth cc s₁ hx hby hml hZ hown hnm hret hlk X0 e0 hs0
  replace hown : ss.vm.findClass xS0 = some mm.cls := hown
  refine Go.cast (congrArg s₁.setTop (ef_cswy mm t1 t2)) ?_
  have N0 := Fr.nil Z.heap.size
  show Go pp ee below _ (s₁.setTop (mkF mm 0 #[.val (.ref t1), .val (.ref t2)] []))
  refine Go.aloadN X0 hx (hb hby d10_0) rfl rfl (q := 1) rfl ?_
  refine Go.aloadN X0 hx (hb hby d10_1) rfl rfl (q := 2) rfl ?_
  refine Go.iconst X0 hx (hb hby d10_2) (r := (0 : Int32)) rfl (q := 3) rfl ?_
  refine Go.virt X0 hx hZ hown (wd53 hw) (wd54 hw) (notFace_of_selects (args := #[]) (mvT hZ (wd56 hw))) (wd56 hw) (wd55 hw) (wd6 hw) (wd57 hw) (by decide) (csvy l Z a0 hw t1 t2 cs v1 v2 (k1) (k2) n y0 (vs) h0 O0 E1 E2 C1 C2 F1 F2 Va Vb SCS hcs hn hg hl he) e0 E1 (by rw [hml]; rfl) (hb hby d10_3) (argsL := [(.ref t2), (.int 0)]) (rest := []) (lenOf pd8 rfl) rfl rfl (W := 0) (Nat.le_refl _) (by decide) ?_
  intro v101 T101 L101 X101 hQ101
  obtain ⟨rfl, N101q, e101⟩ := hQ101
  have N101 := Fr.app N0 N101q
  exact Go.retI X101 hx hret hlk (by simp) rfl (hb hby d10_6) e101 (by decide) (by decide) ⟨rfl, N101, rfl⟩
def Q_cmisn (Z : State) (v1 v2 : Addr) (k1 k2 : ClassId) (n y0 : Int32) (vs : List Value) (h0 : Heap) (vR : Option Value) (hR : Heap) (LR : List Loc) : Prop := vR = some (.int 0) ∧ Fr Z.heap.size LR ∧ hR = h0
theorem cmisn (l : Launch) (Z : State) (a0 : Array Value) (hw : ∀ d ∈ tables_1, d.before a0 Z = true) (v1 v2 : Addr) (k1 k2 : ClassId) (n y0 : Int32) (vs : List Value) (h0 : Heap) (O0 : Ext Z.heap h0) (Va : Arv Z h0 v1 k1 .byte n vs (.int 0)) (Vb : Arv Z h0 v2 k2 .byte (1 : Int32) [(.int 45)] (.int 0)) (hn : (0 : Int32) < n) (hg : vs.getD ((0 : Int32)).toNatClampNeg (.int (0 : Int32)) = (.int y0)) (he : ¬ (y0 = (45 : Int32))) :
    Ctr l Z h0 (⟨"jdk/internal/util/ArraysSupport", "mismatch", "([BI[BII)I"⟩ : MethodName) k45 8 (some .int) [] ({ frames := 0, cells := 0, slots := 0, locals := 0 } : Room) #[(.ref v1), (.int 0), (.ref v2), (.int 0), (.int 1)] (Q_cmisn Z v1 v2 k1 k2 n y0 vs h0) := by
  refine enter (plainFor_of_name pn3) ?_
  intro pp ee ss mm below meth cc s₁ hx hby hml hZ hown hnm hret hlk X0 e0 hs0
  replace hown : ss.vm.findClass "jdk/internal/util/ArraysSupport" = some mm.cls := hown
  refine Go.cast (congrArg s₁.setTop (ef_cmisn mm v1 v2)) ?_
  have N0 := Fr.nil Z.heap.size
  show Go pp ee below _ (s₁.setTop (mkF mm 0 #[.val (.ref v1), .val (.int 0), .val (.ref v2), .val (.int 0), .val (.int 1), .unset, .unset, .unset] []))
  refine Go.iconst X0 hx (hb hby d45_0) (r := (0 : Int32)) rfl (q := 1) rfl ?_
  refine Go.istore X0 hx (hb hby d45_1) (l' := #[.val (.ref v1), .val (.int 0), .val (.ref v2), .val (.int 0), .val (.int 1), .val (.int 0), .unset, .unset]) rfl (q := 3) rfl ?_
  refine Go.iload X0 hx (hb hby d45_3) rfl (q := 5) rfl ?_
  refine Go.bipush X0 hx (hb hby d45_5) (r := (7 : Int32)) rfl (q := 7) rfl ?_
  refine Go.icmpYes X0 hx (hb hby d45_7) (by decide) (q := 70) (by decide) (by decide) ?_
  refine Go.iload X0 hx (hb hby d45_70) rfl (q := 72) rfl ?_
  refine Go.iload X0 hx (hb hby d45_72) rfl (q := 74) rfl ?_
  refine Go.icmpNo X0 hx (hb hby d45_74) (by decide) (q := 77) rfl ?_
  refine Go.aloadN X0 hx (hb hby d45_77) rfl rfl (q := 78) rfl ?_
  refine Go.iloadN X0 hx (hb hby d45_78) rfl (q := 79) rfl ?_
  refine Go.iload X0 hx (hb hby d45_79) rfl (q := 81) rfl ?_
  refine Go.iadd X0 hx (hb hby d45_81) (r := (0 : Int32)) rfl (q := 82) rfl ?_
  refine Go.bal X0 hx hZ e0 Va ⟨by decide, hn⟩ (v := (.int y0)) hg (hb hby d45_82) ?_
  refine Go.aloadN X0 hx (hb hby d45_83) rfl rfl (q := 84) rfl ?_
  refine Go.iloadN X0 hx (hb hby d45_84) rfl (q := 85) rfl ?_
  refine Go.iload X0 hx (hb hby d45_85) rfl (q := 87) rfl ?_
  refine Go.iadd X0 hx (hb hby d45_87) (r := (0 : Int32)) rfl (q := 88) rfl ?_
  refine Go.bal X0 hx hZ e0 Vb ⟨by decide, by decide⟩ (v := (.int 45)) rfl (hb hby d45_88) ?_
  refine Go.icmpNo X0 hx (hb hby d45_89) (Jvm.Free.XT.ii_eq_f he) (q := 92) rfl ?_
  refine Go.iload X0 hx (hb hby d45_92) rfl (q := 94) rfl ?_
  exact Go.retI X0 hx hret hlk (Or.inl rfl) rfl (hb hby d45_94) e0 (by decide) (by decide) ⟨rfl, N0, rfl⟩
def Q_csvn (Z : State) (t1 t2 : Addr) (cs : Int32) (v1 v2 : Addr) (k1 k2 : ClassId) (n y0 : Int32) (vs : List Value) (h0 : Heap) (vR : Option Value) (hR : Heap) (LR : List Loc) : Prop := vR = some (.int 0) ∧ Fr Z.heap.size LR ∧ hR = h0
theorem csvn (l : Launch) (Z : State) (a0 : Array Value) (hw : ∀ d ∈ tables_1, d.before a0 Z = true) (t1 t2 : Addr) (cs : Int32) (v1 v2 : Addr) (k1 k2 : ClassId) (n y0 : Int32) (vs : List Value) (h0 : Heap) (O0 : Ext Z.heap h0) (E1 : Exa Z h0 t1 xS0) (E2 : Exa Z h0 t2 xS0) (C1 : Fld Z h0 t1 xS0 "coder" "B" (.int 0)) (C2 : Fld Z h0 t2 xS0 "coder" "B" (.int 0)) (F1 : Fld Z h0 t1 xS0 "value" "[B" (.ref v1)) (F2 : Fld Z h0 t2 xS0 "value" "[B" (.ref v2)) (Va : Arv Z h0 v1 k1 .byte n vs (.int 0)) (Vb : Arv Z h0 v2 k2 .byte (1 : Int32) [(.int 45)] (.int 0)) (SCS : Sta Z Z.heap xS0 xS3 "Z" (.int cs)) (hcs : ¬ (cs = (0 : Int32))) (hn : (0 : Int32) < n) (hg : vs.getD ((0 : Int32)).toNatClampNeg (.int (0 : Int32)) = (.int y0)) (hl : ¬ ((n - (1 : Int32)) < (0 : Int32))) (he : ¬ (y0 = (45 : Int32))) :
    Ctr l Z h0 (⟨xS0, "startsWith", "(Ljava/lang/String;I)Z"⟩ : MethodName) k11 8 (some .boolean) [] ({ frames := 2, cells := 0, slots := 0, locals := 27 } : Room) #[(.ref t1), (.ref t2), (.int 0)] (Q_csvn Z t1 t2 cs v1 v2 k1 k2 n y0 vs h0) := by
  refine enter (plainFor_of_name pn0) ?_
  intro pp ee ss mm below meth cc s₁ hx hby hml hZ hown hnm hret hlk X0 e0 hs0
  replace hown : ss.vm.findClass xS0 = some mm.cls := hown
  refine Go.cast (congrArg s₁.setTop (ef_csvn mm t1 t2)) ?_
  have N0 := Fr.nil Z.heap.size
  show Go pp ee below _ (s₁.setTop (mkF mm 0 #[.val (.ref t1), .val (.ref t2), .val (.int 0), .unset, .unset, .unset, .unset, .unset] []))
  refine Go.iloadN X0 hx (hb hby d11_0) rfl (q := 1) rfl ?_
  refine Go.ifNo X0 hx (hb hby d11_1) (by decide) (q := 4) rfl ?_
  refine Go.iloadN X0 hx (hb hby d11_4) rfl (q := 5) rfl ?_
  refine Go.aloadN X0 hx (hb hby d11_5) rfl rfl (q := 6) rfl ?_
  refine Go.virt X0 hx hZ hown (wd58 hw) (wd59 hw) (notFace_of_selects (args := #[]) (mvT hZ (wd61 hw))) (wd61 hw) (wd60 hw) (wd6 hw) (wd62 hw) (by decide) (clen l Z a0 hw t1 cs v1 (k1) n (vs) h0 O0 E1 C1 F1 Va SCS hcs) e0 E1 (by rw [hml]; rfl) (hb hby d11_6) (argsL := []) (rest := [(.int 0)]) (lenOf pd6 rfl) rfl rfl (W := 1) (Nat.le_refl _) (by decide) ?_
  intro v101 T101 L101 X101 hQ101
  obtain ⟨rfl, N101q, e101⟩ := hQ101
  have N101 := Fr.app N0 N101q
  refine Go.aloadN X101 hx (hb hby d11_9) rfl rfl (q := 10) rfl ?_
  refine Go.virt X101 hx hZ hown (wd58 hw) (wd59 hw) (notFace_of_selects (args := #[]) (mvT hZ (wd61 hw))) (wd61 hw) (wd60 hw) (wd6 hw) (wd62 hw) (by decide) (clen l Z a0 hw t2 cs v2 (k2) ((1 : Int32)) ([(.int 45)]) h0 O0 E2 C2 F2 Vb SCS hcs) e101 E2 (by rw [hml]; rfl) (hb hby d11_10) (argsL := []) (rest := [(.int n), (.int 0)]) (lenOf pd6 rfl) rfl rfl (W := 2) (Nat.le_refl _) (by decide) ?_
  intro v102 T102 L102 X102 hQ102
  obtain ⟨rfl, N102q, e102⟩ := hQ102
  have N102 := Fr.app N101 N102q
  refine Go.isub X102 hx (hb hby d11_13) rfl (q := 14) rfl ?_
  refine Go.icmpYes X102 hx (hb hby d11_14) (Jvm.Free.XT.ii_le_t hl) (q := 19) (by decide) (by decide) ?_
  refine Go.aloadN X102 hx (hb hby d11_19) rfl rfl (q := 20) rfl ?_
  refine Go.getF X102 hx hZ hown (host := "") (Or.inl (wd24 hw)) Via.refl e102 F1 (hb hby d11_20) (q := 23) rfl ?_
  intro T103 X103 e103
  refine Go.astoreN X103 hx (hb hby d11_23) rfl (l' := #[.val (.ref t1), .val (.ref t2), .val (.int 0), .val (.ref v1), .unset, .unset, .unset, .unset]) rfl (q := 24) rfl ?_
  refine Go.aloadN X103 hx (hb hby d11_24) rfl rfl (q := 25) rfl ?_
  refine Go.getF X103 hx hZ hown (host := "") (Or.inl (wd24 hw)) Via.refl e103 F2 (hb hby d11_25) (q := 28) rfl ?_
  intro T104 X104 e104
  refine Go.astore X104 hx (hb hby d11_28) rfl (l' := #[.val (.ref t1), .val (.ref t2), .val (.int 0), .val (.ref v1), .val (.ref v2), .unset, .unset, .unset]) rfl (q := 30) rfl ?_
  refine Go.iconst X104 hx (hb hby d11_30) (r := (0 : Int32)) rfl (q := 31) rfl ?_
  refine Go.istore X104 hx (hb hby d11_31) (l' := #[.val (.ref t1), .val (.ref t2), .val (.int 0), .val (.ref v1), .val (.ref v2), .val (.int 0), .unset, .unset]) rfl (q := 33) rfl ?_
  refine Go.aload X104 hx (hb hby d11_33) rfl rfl (q := 35) rfl ?_
  refine Go.alen X104 hx hZ e104 Vb (hb hby d11_35) ?_
  refine Go.istore X104 hx (hb hby d11_36) (l' := #[.val (.ref t1), .val (.ref t2), .val (.int 0), .val (.ref v1), .val (.ref v2), .val (.int 0), .val (.int 1), .unset]) rfl (q := 38) rfl ?_
  refine Go.aloadN X104 hx (hb hby d11_38) rfl rfl (q := 39) rfl ?_
  refine Go.virt X104 hx hZ hown (wd63 hw) (wd64 hw) (notFace_of_selects (args := #[]) (mvT hZ (wd66 hw))) (wd66 hw) (wd65 hw) (wd6 hw) (wd67 hw) (by decide) (ccoder l Z a0 hw t1 cs h0 O0 C1 SCS hcs) e104 E1 (by rw [hml]; rfl) (hb hby d11_39) (argsL := []) (rest := []) (lenOf pd4 rfl) rfl rfl (W := 0) (Nat.le_refl _) (by decide) ?_
  intro v105 T105 L105 X105 hQ105
  obtain ⟨rfl, N105q, e105⟩ := hQ105
  have N105 := Fr.app N102 N105q
  refine Go.istore X105 hx (hb hby d11_42) (l' := #[.val (.ref t1), .val (.ref t2), .val (.int 0), .val (.ref v1), .val (.ref v2), .val (.int 0), .val (.int 1), .val (.int 0)]) rfl (q := 44) rfl ?_
  refine Go.iload X105 hx (hb hby d11_44) rfl (q := 46) rfl ?_
  refine Go.aloadN X105 hx (hb hby d11_46) rfl rfl (q := 47) rfl ?_
  refine Go.virt X105 hx hZ hown (wd63 hw) (wd64 hw) (notFace_of_selects (args := #[]) (mvT hZ (wd66 hw))) (wd66 hw) (wd65 hw) (wd6 hw) (wd67 hw) (by decide) (ccoder l Z a0 hw t2 cs h0 O0 C2 SCS hcs) e105 E2 (by rw [hml]; rfl) (hb hby d11_47) (argsL := []) (rest := [(.int 0)]) (lenOf pd4 rfl) rfl rfl (W := 1) (Nat.le_refl _) (by decide) ?_
  intro v106 T106 L106 X106 hQ106
  obtain ⟨rfl, N106q, e106⟩ := hQ106
  have N106 := Fr.app N105 N106q
  refine Go.icmpNo X106 hx (hb hby d11_50) (by decide) (q := 53) rfl ?_
  refine Go.iload X106 hx (hb hby d11_53) rfl (q := 55) rfl ?_
  refine Go.iconst X106 hx (hb hby d11_55) (r := (1 : Int32)) rfl (q := 56) rfl ?_
  refine Go.icmpYes X106 hx (hb hby d11_56) (by decide) (q := 63) (by decide) (by decide) ?_
  refine Go.aloadN X106 hx (hb hby d11_63) rfl rfl (q := 64) rfl ?_
  refine Go.iloadN X106 hx (hb hby d11_64) rfl (q := 65) rfl ?_
  refine Go.aload X106 hx (hb hby d11_65) rfl rfl (q := 67) rfl ?_
  refine Go.iconst X106 hx (hb hby d11_67) (r := (0 : Int32)) rfl (q := 68) rfl ?_
  refine Go.iload X106 hx (hb hby d11_68) rfl (q := 70) rfl ?_
  refine Go.callS X106 hx hZ hown (wd254 hw) (wd255 hw) (wd112 hw) (wd256 hw) (by decide) (cmisn l Z a0 hw v1 v2 (k1) (k2) n y0 (vs) h0 O0 Va Vb hn hg he) e106 (by rw [hml]; rfl) (hb hby d11_70) (argsL := [(.ref v1), (.int 0), (.ref v2), (.int 0), (.int 1)]) (rest := []) (lenOf pd7 rfl) rfl rfl (W := 0) (Nat.le_refl _) (by decide) ?_
  intro v107 T107 L107 X107 hQ107
  obtain ⟨rfl, N107q, e107⟩ := hQ107
  have N107 := Fr.app N106 N107q
  refine Go.ifYes X107 hx (hb hby d11_73) (by decide) (q := 80) (by decide) (by decide) ?_
  refine Go.iconst X107 hx (hb hby d11_80) (r := (0 : Int32)) rfl (q := 81) rfl ?_
  exact Go.retI X107 hx hret hlk (by simp) rfl (hb hby d11_81) e107 (by decide) (by decide) ⟨rfl, N107, rfl⟩
def Q_cswn (Z : State) (t1 t2 : Addr) (cs : Int32) (v1 v2 : Addr) (k1 k2 : ClassId) (n y0 : Int32) (vs : List Value) (h0 : Heap) (vR : Option Value) (hR : Heap) (LR : List Loc) : Prop := vR = some (.int 0) ∧ Fr Z.heap.size LR ∧ hR = h0
theorem cswn (l : Launch) (Z : State) (a0 : Array Value) (hw : ∀ d ∈ tables_1, d.before a0 Z = true) (t1 t2 : Addr) (cs : Int32) (v1 v2 : Addr) (k1 k2 : ClassId) (n y0 : Int32) (vs : List Value) (h0 : Heap) (O0 : Ext Z.heap h0) (E1 : Exa Z h0 t1 xS0) (E2 : Exa Z h0 t2 xS0) (C1 : Fld Z h0 t1 xS0 "coder" "B" (.int 0)) (C2 : Fld Z h0 t2 xS0 "coder" "B" (.int 0)) (F1 : Fld Z h0 t1 xS0 "value" "[B" (.ref v1)) (F2 : Fld Z h0 t2 xS0 "value" "[B" (.ref v2)) (Va : Arv Z h0 v1 k1 .byte n vs (.int 0)) (Vb : Arv Z h0 v2 k2 .byte (1 : Int32) [(.int 45)] (.int 0)) (SCS : Sta Z Z.heap xS0 xS3 "Z" (.int cs)) (hcs : ¬ (cs = (0 : Int32))) (hn : (0 : Int32) < n) (hg : vs.getD ((0 : Int32)).toNatClampNeg (.int (0 : Int32)) = (.int y0)) (hl : ¬ ((n - (1 : Int32)) < (0 : Int32))) (he : ¬ (y0 = (45 : Int32))) :
    Ctr l Z h0 (⟨xS0, "startsWith", "(Ljava/lang/String;)Z"⟩ : MethodName) k10 2 (some .boolean) [] ({ frames := 3, cells := 0, slots := 0, locals := 46 } : Room) #[(.ref t1), (.ref t2)] (Q_cswn Z t1 t2 cs v1 v2 k1 k2 n y0 vs h0) := by
  refine enter (plainFor_of_name pn0) ?_
  intro pp ee ss mm below meth cc s₁ hx hby hml hZ hown hnm hret hlk X0 e0 hs0
  replace hown : ss.vm.findClass xS0 = some mm.cls := hown
  refine Go.cast (congrArg s₁.setTop (ef_cswn mm t1 t2)) ?_
  have N0 := Fr.nil Z.heap.size
  show Go pp ee below _ (s₁.setTop (mkF mm 0 #[.val (.ref t1), .val (.ref t2)] []))
  refine Go.aloadN X0 hx (hb hby d10_0) rfl rfl (q := 1) rfl ?_
  refine Go.aloadN X0 hx (hb hby d10_1) rfl rfl (q := 2) rfl ?_
  refine Go.iconst X0 hx (hb hby d10_2) (r := (0 : Int32)) rfl (q := 3) rfl ?_
  refine Go.virt X0 hx hZ hown (wd53 hw) (wd54 hw) (notFace_of_selects (args := #[]) (mvT hZ (wd56 hw))) (wd56 hw) (wd55 hw) (wd6 hw) (wd57 hw) (by decide) (csvn l Z a0 hw t1 t2 cs v1 v2 (k1) (k2) n y0 (vs) h0 O0 E1 E2 C1 C2 F1 F2 Va Vb SCS hcs hn hg hl he) e0 E1 (by rw [hml]; rfl) (hb hby d10_3) (argsL := [(.ref t2), (.int 0)]) (rest := []) (lenOf pd8 rfl) rfl rfl (W := 0) (Nat.le_refl _) (by decide) ?_
  intro v101 T101 L101 X101 hQ101
  obtain ⟨rfl, N101q, e101⟩ := hQ101
  have N101 := Fr.app N0 N101q
  exact Go.retI X101 hx hret hlk (by simp) rfl (hb hby d10_6) e101 (by decide) (by decide) ⟨rfl, N101, rfl⟩
def Q_csv0 (Z : State) (t1 t2 : Addr) (cs : Int32) (v1 v2 : Addr) (k1 k2 : ClassId) (h0 : Heap) (vR : Option Value) (hR : Heap) (LR : List Loc) : Prop := vR = some (.int 0) ∧ Fr Z.heap.size LR ∧ hR = h0
theorem csv0 (l : Launch) (Z : State) (a0 : Array Value) (hw : ∀ d ∈ tables_1, d.before a0 Z = true) (t1 t2 : Addr) (cs : Int32) (v1 v2 : Addr) (k1 k2 : ClassId) (h0 : Heap) (O0 : Ext Z.heap h0) (E1 : Exa Z h0 t1 xS0) (E2 : Exa Z h0 t2 xS0) (C1 : Fld Z h0 t1 xS0 "coder" "B" (.int 0)) (C2 : Fld Z h0 t2 xS0 "coder" "B" (.int 0)) (F1 : Fld Z h0 t1 xS0 "value" "[B" (.ref v1)) (F2 : Fld Z h0 t2 xS0 "value" "[B" (.ref v2)) (Va : Arv Z h0 v1 k1 .byte (0 : Int32) [] (.int 0)) (Vb : Arv Z h0 v2 k2 .byte (1 : Int32) [(.int 45)] (.int 0)) (SCS : Sta Z Z.heap xS0 xS3 "Z" (.int cs)) (hcs : ¬ (cs = (0 : Int32))) :
    Ctr l Z h0 (⟨xS0, "startsWith", "(Ljava/lang/String;I)Z"⟩ : MethodName) k11 8 (some .boolean) [] ({ frames := 2, cells := 0, slots := 0, locals := 27 } : Room) #[(.ref t1), (.ref t2), (.int 0)] (Q_csv0 Z t1 t2 cs v1 v2 k1 k2 h0) := by
  refine enter (plainFor_of_name pn0) ?_
  intro pp ee ss mm below meth cc s₁ hx hby hml hZ hown hnm hret hlk X0 e0 hs0
  replace hown : ss.vm.findClass xS0 = some mm.cls := hown
  refine Go.cast (congrArg s₁.setTop (ef_csv0 mm t1 t2)) ?_
  have N0 := Fr.nil Z.heap.size
  show Go pp ee below _ (s₁.setTop (mkF mm 0 #[.val (.ref t1), .val (.ref t2), .val (.int 0), .unset, .unset, .unset, .unset, .unset] []))
  refine Go.iloadN X0 hx (hb hby d11_0) rfl (q := 1) rfl ?_
  refine Go.ifNo X0 hx (hb hby d11_1) (by decide) (q := 4) rfl ?_
  refine Go.iloadN X0 hx (hb hby d11_4) rfl (q := 5) rfl ?_
  refine Go.aloadN X0 hx (hb hby d11_5) rfl rfl (q := 6) rfl ?_
  refine Go.virt X0 hx hZ hown (wd58 hw) (wd59 hw) (notFace_of_selects (args := #[]) (mvT hZ (wd61 hw))) (wd61 hw) (wd60 hw) (wd6 hw) (wd62 hw) (by decide) (clen l Z a0 hw t1 cs v1 (k1) ((0 : Int32)) ([]) h0 O0 E1 C1 F1 Va SCS hcs) e0 E1 (by rw [hml]; rfl) (hb hby d11_6) (argsL := []) (rest := [(.int 0)]) (lenOf pd6 rfl) rfl rfl (W := 1) (Nat.le_refl _) (by decide) ?_
  intro v101 T101 L101 X101 hQ101
  obtain ⟨rfl, N101q, e101⟩ := hQ101
  have N101 := Fr.app N0 N101q
  refine Go.aloadN X101 hx (hb hby d11_9) rfl rfl (q := 10) rfl ?_
  refine Go.virt X101 hx hZ hown (wd58 hw) (wd59 hw) (notFace_of_selects (args := #[]) (mvT hZ (wd61 hw))) (wd61 hw) (wd60 hw) (wd6 hw) (wd62 hw) (by decide) (clen l Z a0 hw t2 cs v2 (k2) ((1 : Int32)) ([(.int 45)]) h0 O0 E2 C2 F2 Vb SCS hcs) e101 E2 (by rw [hml]; rfl) (hb hby d11_10) (argsL := []) (rest := [(.int 0), (.int 0)]) (lenOf pd6 rfl) rfl rfl (W := 2) (Nat.le_refl _) (by decide) ?_
  intro v102 T102 L102 X102 hQ102
  obtain ⟨rfl, N102q, e102⟩ := hQ102
  have N102 := Fr.app N101 N102q
  refine Go.isub X102 hx (hb hby d11_13) (r := (-1 : Int32)) rfl (q := 14) rfl ?_
  refine Go.icmpNo X102 hx (hb hby d11_14) (by decide) (q := 17) rfl ?_
  refine Go.iconst X102 hx (hb hby d11_17) (r := (0 : Int32)) rfl (q := 18) rfl ?_
  exact Go.retI X102 hx hret hlk (by simp) rfl (hb hby d11_18) e102 (by decide) (by decide) ⟨rfl, N102, rfl⟩
def Q_csw0 (Z : State) (t1 t2 : Addr) (cs : Int32) (v1 v2 : Addr) (k1 k2 : ClassId) (h0 : Heap) (vR : Option Value) (hR : Heap) (LR : List Loc) : Prop := vR = some (.int 0) ∧ Fr Z.heap.size LR ∧ hR = h0
theorem csw0 (l : Launch) (Z : State) (a0 : Array Value) (hw : ∀ d ∈ tables_1, d.before a0 Z = true) (t1 t2 : Addr) (cs : Int32) (v1 v2 : Addr) (k1 k2 : ClassId) (h0 : Heap) (O0 : Ext Z.heap h0) (E1 : Exa Z h0 t1 xS0) (E2 : Exa Z h0 t2 xS0) (C1 : Fld Z h0 t1 xS0 "coder" "B" (.int 0)) (C2 : Fld Z h0 t2 xS0 "coder" "B" (.int 0)) (F1 : Fld Z h0 t1 xS0 "value" "[B" (.ref v1)) (F2 : Fld Z h0 t2 xS0 "value" "[B" (.ref v2)) (Va : Arv Z h0 v1 k1 .byte (0 : Int32) [] (.int 0)) (Vb : Arv Z h0 v2 k2 .byte (1 : Int32) [(.int 45)] (.int 0)) (SCS : Sta Z Z.heap xS0 xS3 "Z" (.int cs)) (hcs : ¬ (cs = (0 : Int32))) :
    Ctr l Z h0 (⟨xS0, "startsWith", "(Ljava/lang/String;)Z"⟩ : MethodName) k10 2 (some .boolean) [] ({ frames := 3, cells := 0, slots := 0, locals := 46 } : Room) #[(.ref t1), (.ref t2)] (Q_csw0 Z t1 t2 cs v1 v2 k1 k2 h0) := by
  refine enter (plainFor_of_name pn0) ?_
  intro pp ee ss mm below meth cc s₁ hx hby hml hZ hown hnm hret hlk X0 e0 hs0
  replace hown : ss.vm.findClass xS0 = some mm.cls := hown
  refine Go.cast (congrArg s₁.setTop (ef_csw0 mm t1 t2)) ?_
  have N0 := Fr.nil Z.heap.size
  show Go pp ee below _ (s₁.setTop (mkF mm 0 #[.val (.ref t1), .val (.ref t2)] []))
  refine Go.aloadN X0 hx (hb hby d10_0) rfl rfl (q := 1) rfl ?_
  refine Go.aloadN X0 hx (hb hby d10_1) rfl rfl (q := 2) rfl ?_
  refine Go.iconst X0 hx (hb hby d10_2) (r := (0 : Int32)) rfl (q := 3) rfl ?_
  refine Go.virt X0 hx hZ hown (wd53 hw) (wd54 hw) (notFace_of_selects (args := #[]) (mvT hZ (wd56 hw))) (wd56 hw) (wd55 hw) (wd6 hw) (wd57 hw) (by decide) (csv0 l Z a0 hw t1 t2 cs v1 v2 (k1) (k2) h0 O0 E1 E2 C1 C2 F1 F2 Va Vb SCS hcs) e0 E1 (by rw [hml]; rfl) (hb hby d10_3) (argsL := [(.ref t2), (.int 0)]) (rest := []) (lenOf pd8 rfl) rfl rfl (W := 0) (Nat.le_refl _) (by decide) ?_
  intro v101 T101 L101 X101 hQ101
  obtain ⟨rfl, N101q, e101⟩ := hQ101
  have N101 := Fr.app N0 N101q
  exact Go.retI X101 hx hret hlk (by simp) rfl (hb hby d10_6) e101 (by decide) (by decide) ⟨rfl, N101, rfl⟩
def Q_casb (Z : State) (o : Addr) (cs : Int32) (h0 : Heap) (vR : Option Value) (hR : Heap) (LR : List Loc) : Prop := ∃ v : Addr, ∃ kv : ClassId, vR = none ∧ Fr Z.heap.size LR ∧ Keep h0 hR [o] ∧ h0.size ≤ v ∧ Fld Z hR o xS1 "value" "[B" (.ref v) ∧ Fld Z hR o xS1 "coder" "B" (.int 0) ∧ Fld Z hR o xS1 "count" "I" (.int 0) ∧ Exa Z hR v "[B" ∧ Arv Z hR v kv .byte (16 : Int32) [(.int 0), (.int 0), (.int 0), (.int 0), (.int 0), (.int 0), (.int 0), (.int 0), (.int 0), (.int 0), (.int 0), (.int 0), (.int 0), (.int 0), (.int 0), (.int 0)] (.int 0)
theorem casb (l : Launch) (Z : State) (a0 : Array Value) (hw : ∀ d ∈ tables_1, d.before a0 Z = true) (o : Addr) (cs : Int32) (h0 : Heap) (O0 : Ext Z.heap h0) (Eo : Exa Z h0 o xS4) (g_o : Z.heap.size ≤ o) (F0 : Fld Z h0 o xS1 "value" "[B" .null) (F1 : Fld Z h0 o xS1 "coder" "B" (.int 0)) (F2 : Fld Z h0 o xS1 "count" "I" (.int 0)) (SCS : Sta Z Z.heap xS0 xS3 "Z" (.int cs)) (hcs : ¬ (cs = (0 : Int32))) :
    Ctr l Z h0 (⟨xS1, "<init>", "(I)V"⟩ : MethodName) k15 2 none [] ({ frames := 1, cells := 1, slots := 16, locals := 12 } : Room) #[(.ref o), (.int 16)] (Q_casb Z o cs h0) := by
  refine enter (plainFor_of_name pn4) ?_
  intro pp ee ss mm below meth cc s₁ hx hby hml hZ hown hnm hret hlk X0 e0 hs0
  replace hown : ss.vm.findClass xS1 = some mm.cls := hown
  refine Go.cast (congrArg s₁.setTop (ef_casb mm o)) ?_
  have N0 := Fr.nil Z.heap.size
  have KP := Keep.refl h0 [o]
  show Go pp ee below _ (s₁.setTop (mkF mm 0 #[.val (.ref o), .val (.int 16)] []))
  refine Go.aloadN X0 hx (hb hby d15_0) rfl rfl (q := 1) rfl ?_
  refine Go.initO X0 hx hZ hown (wd80 hw) (wd16 hw) (wd17 hw) e0 (by rw [hml]; rfl) (hb hby d15_1) (by decide) (W := 0) (by exact Nat.le_refl _) (by decide) (q := 4) rfl ?_
  intro T101 X101 e101
  refine Go.getS X101 hx hZ hown (host := "") (Or.inl (wd81 hw)) Via.refl e101 (SCS.ext O0) (hb hby d15_4) (q := 7) rfl ?_
  intro T102 X102 e102
  refine Go.ifNo X102 hx (hb hby d15_7) (Jvm.Free.XT.i0_eq_f hcs) (q := 10) rfl ?_
  refine Go.aloadN X102 hx (hb hby d15_10) rfl rfl (q := 11) rfl ?_
  refine Go.iloadN X102 hx (hb hby d15_11) rfl (q := 12) rfl ?_
  refine Go.newP X102 hx hZ (hb hby d15_12) (wd19 hw) e102 (by decide) (cap := 16) (by decide) (by decide) (by decide) (by decide) (ad := "[B") rfl (q := 14) rfl ?_
  intro b103 T103 h103 k103 X103 e103 q103 E103 V103 B103
  have ne_o_b103 : o ≠ b103 := ne_new Eo.lt (Nat.le_of_eq q103)
  have g_b103 : Z.heap.size ≤ b103 := Nat.le_trans O0.1 (Nat.le_of_eq q103)
  have z_b103 : h0.size ≤ b103 := Nat.le_trans KP.1 (Nat.le_of_eq q103)
  replace Eo := Eo.ext E103
  replace F0 := F0.ext E103
  replace F1 := F1.ext E103
  replace F2 := F2.ext E103
  have OE103 := ext_trans O0 E103
  replace KP := KP.ext E103
  replace V103 : Arv Z h103 b103 k103 .byte (16 : Int32) [(.int 0), (.int 0), (.int 0), (.int 0), (.int 0), (.int 0), (.int 0), (.int 0), (.int 0), (.int 0), (.int 0), (.int 0), (.int 0), (.int 0), (.int 0), (.int 0)] (.int 0) := V103.pad (pad_rep [] (.int 0) 16)
  refine Go.putF X103 hx hZ hown (host := "") (Or.inl (wd82 hw)) Via.refl e103 F0 Eo (Or.inl (wd83 hw)) (wd69 hw) (ty := (.array .byte)) (by decide) rfl rfl (hb hby d15_14) (q := 17) rfl ?_
  intro T104 h104 X104 e104 W104 F104
  have N104 := Fr.snoc X104 N0 g_o
  replace Eo := Eo.wr W104
  replace F1 := F1.other W104 (Or.inr (slot_ne (Or.inl (wd85 hw)) (Or.inl (wd83 hw)) (by decide) (t := .byte) (t' := (.array .byte)) (by decide) (by decide)))
  replace F2 := F2.other W104 (Or.inr (slot_ne (Or.inl (wd99 hw)) (Or.inl (wd83 hw)) (by decide) (t := .int) (t' := (.array .byte)) (by decide) (by decide)))
  replace B103 := B103.wr W104
  replace V103 := V103.other W104 (Ne.symm ne_o_b103)
  have OW104 := ext_wr OE103 W104 g_o
  replace KP := KP.wr W104 (Or.inl (List.mem_of_getElem? (i := 0) rfl))
  refine Go.aloadN X104 hx (hb hby d15_17) rfl rfl (q := 18) rfl ?_
  refine Go.iconst X104 hx (hb hby d15_18) (r := (0 : Int32)) rfl (q := 19) rfl ?_
  refine Go.putF X104 hx hZ hown (host := "") (Or.inl (wd84 hw)) Via.refl e104 F1 Eo (Or.inl (wd85 hw)) (wd69 hw) (ty := .byte) (by decide) rfl rfl (hb hby d15_19) (q := 22) rfl ?_
  intro T105 h105 X105 e105 W105 F105
  have N105 := Fr.snoc X105 N104 g_o
  replace Eo := Eo.wr W105
  replace F2 := F2.other W105 (Or.inr (slot_ne (Or.inl (wd99 hw)) (Or.inl (wd85 hw)) (by decide) (t := .int) (t' := .byte) (by decide) (by decide)))
  replace B103 := B103.wr W105
  replace V103 := V103.other W105 (Ne.symm ne_o_b103)
  replace F104 := F104.other W105 (Or.inr (slot_ne (Or.inl (wd83 hw)) (Or.inl (wd85 hw)) (by decide) (t := (.array .byte)) (t' := .byte) (by decide) (by decide)))
  have OW105 := ext_wr OW104 W105 g_o
  replace KP := KP.wr W105 (Or.inl (List.mem_of_getElem? (i := 0) rfl))
  refine Go.goto X105 hx (hb hby d15_22) (q := 38) (by decide) (by decide) ?_
  exact Go.retV X105 hx hret hlk (hb hby d15_38) e105 (by decide) (by decide) ⟨b103, k103, rfl, N105, KP, z_b103, F104, F105, F2, B103, V103⟩
def Q_csb (Z : State) (o : Addr) (cs : Int32) (h0 : Heap) (vR : Option Value) (hR : Heap) (LR : List Loc) : Prop := ∃ v : Addr, ∃ kv : ClassId, vR = none ∧ Fr Z.heap.size LR ∧ Keep h0 hR [o] ∧ h0.size ≤ v ∧ Fld Z hR o xS1 "value" "[B" (.ref v) ∧ Fld Z hR o xS1 "coder" "B" (.int 0) ∧ Fld Z hR o xS1 "count" "I" (.int 0) ∧ Exa Z hR v "[B" ∧ Arv Z hR v kv .byte (16 : Int32) [(.int 0), (.int 0), (.int 0), (.int 0), (.int 0), (.int 0), (.int 0), (.int 0), (.int 0), (.int 0), (.int 0), (.int 0), (.int 0), (.int 0), (.int 0), (.int 0)] (.int 0)
theorem csb (l : Launch) (Z : State) (a0 : Array Value) (hw : ∀ d ∈ tables_1, d.before a0 Z = true) (o : Addr) (cs : Int32) (h0 : Heap) (O0 : Ext Z.heap h0) (Eo : Exa Z h0 o xS4) (g_o : Z.heap.size ≤ o) (F0 : Fld Z h0 o xS1 "value" "[B" .null) (F1 : Fld Z h0 o xS1 "coder" "B" (.int 0)) (F2 : Fld Z h0 o xS1 "count" "I" (.int 0)) (SCS : Sta Z Z.heap xS0 xS3 "Z" (.int cs)) (hcs : ¬ (cs = (0 : Int32))) :
    Ctr l Z h0 (⟨xS4, "<init>", "()V"⟩ : MethodName) k14 1 none [] ({ frames := 2, cells := 1, slots := 16, locals := 25 } : Room) #[(.ref o)] (Q_csb Z o cs h0) := by
  refine enter (plainFor_of_name pn5) ?_
  intro pp ee ss mm below meth cc s₁ hx hby hml hZ hown hnm hret hlk X0 e0 hs0
  replace hown : ss.vm.findClass xS4 = some mm.cls := hown
  refine Go.cast (congrArg s₁.setTop (ef_csb mm o)) ?_
  have N0 := Fr.nil Z.heap.size
  have KP := Keep.refl h0 [o]
  show Go pp ee below _ (s₁.setTop (mkF mm 0 #[.val (.ref o)] []))
  refine Go.aloadN X0 hx (hb hby d14_0) rfl rfl (q := 1) rfl ?_
  refine Go.bipush X0 hx (hb hby d14_1) (r := (16 : Int32)) rfl (q := 3) rfl ?_
  refine Go.init X0 hx hZ hown rfl (wd74 hw) (wd75 hw) (wd78 hw) (wd79 hw) (by decide) (casb l Z a0 hw o cs h0 O0 Eo g_o F0 F1 F2 SCS hcs) e0 (by rw [hml]; rfl) (hb hby d14_3) (argsL := [(.int 16)]) (rest := []) (lenOf pd9 rfl) rfl rfl (W := 0) (Nat.le_refl _) (by decide) ?_
  intro v101 T101 L101 X101 hQ101
  obtain ⟨h101, e101⟩ : ∃ z, T101.heap = z := ⟨_, rfl⟩
  rw [e101] at hQ101
  obtain ⟨v_101, kv_101, rfl, N101q, K101, fr101_v, P101_0, P101_1, P101_2, P101_3, P101_4⟩ := hQ101
  have N101 := Fr.app N0 N101q
  have ne_o_v_101 : o ≠ v_101 := ne_new Eo.lt fr101_v
  have g_v_101 : Z.heap.size ≤ v_101 := Nat.le_trans O0.1 fr101_v
  have z_v_101 : h0.size ≤ v_101 := Nat.le_trans KP.1 fr101_v
  replace Eo := Eo.keep K101
  have OK101 := ext_keep O0 K101 (allS g_o all0)
  replace KP := KP.trans K101 (allS (Or.inl (List.mem_of_getElem? (i := 0) rfl)) all0)
  exact Go.retV X101 hx hret hlk (hb hby d14_6) e101 (by decide) (by decide) ⟨v_101, kv_101, rfl, N101, KP, z_v_101, P101_0, P101_1, P101_2, P101_3, P101_4⟩
def Q_cens (Z : State) (o : Addr) (mn cp : Int32) (v : Addr) (kv : ClassId) (vs : List Value) (h0 : Heap) (vR : Option Value) (hR : Heap) (LR : List Loc) : Prop := vR = none ∧ Fr Z.heap.size LR ∧ hR = h0
theorem cens (l : Launch) (Z : State) (a0 : Array Value) (hw : ∀ d ∈ tables_1, d.before a0 Z = true) (o : Addr) (mn cp : Int32) (v : Addr) (kv : ClassId) (vs : List Value) (h0 : Heap) (O0 : Ext Z.heap h0) (Fv : Fld Z h0 o xS1 "value" "[B" (.ref v)) (Fc : Fld Z h0 o xS1 "coder" "B" (.int 0)) (Va : Arv Z h0 v kv .byte cp vs (.int 0)) (hmn : ¬ ((0 : Int32) < (mn - cp))) :
    Ctr l Z h0 (⟨xS1, xS6, "(I)V"⟩ : MethodName) k18 3 none [] ({ frames := 0, cells := 0, slots := 0, locals := 0 } : Room) #[(.ref o), (.int mn)] (Q_cens Z o mn cp v kv vs h0) := by
  refine enter (plainFor_of_name pn4) ?_
  intro pp ee ss mm below meth cc s₁ hx hby hml hZ hown hnm hret hlk X0 e0 hs0
  replace hown : ss.vm.findClass xS1 = some mm.cls := hown
  refine Go.cast (congrArg s₁.setTop (ef_cens mm o mn)) ?_
  have N0 := Fr.nil Z.heap.size
  show Go pp ee below _ (s₁.setTop (mkF mm 0 #[.val (.ref o), .val (.int mn), .unset] []))
  refine Go.aloadN X0 hx (hb hby d18_0) rfl rfl (q := 1) rfl ?_
  refine Go.getF X0 hx hZ hown (host := "") (Or.inl (wd82 hw)) Via.refl e0 Fv (hb hby d18_1) (q := 4) rfl ?_
  intro T101 X101 e101
  refine Go.alen X101 hx hZ e101 Va (hb hby d18_4) ?_
  refine Go.aloadN X101 hx (hb hby d18_5) rfl rfl (q := 6) rfl ?_
  refine Go.getF X101 hx hZ hown (host := "") (Or.inl (wd84 hw)) Via.refl e101 Fc (hb hby d18_6) (q := 9) rfl ?_
  intro T102 X102 e102
  refine Go.ishr X102 hx (hb hby d18_9) rfl (q := 10) rfl ?_
  rw [own_shr0 cp]
  show Go pp ee below _ (T102.setTop (mkF mm 10 #[.val (.ref o), .val (.int mn), .unset] [(.int cp)]))
  refine Go.istoreN X102 hx (hb hby d18_10) (l' := #[.val (.ref o), .val (.int mn), .val (.int cp)]) rfl (q := 11) rfl ?_
  refine Go.iloadN X102 hx (hb hby d18_11) rfl (q := 12) rfl ?_
  refine Go.iloadN X102 hx (hb hby d18_12) rfl (q := 13) rfl ?_
  refine Go.isub X102 hx (hb hby d18_13) rfl (q := 14) rfl ?_
  refine Go.ifYes X102 hx (hb hby d18_14) (Jvm.Free.XT.i0_le_t hmn) (q := 38) (by decide) (by decide) ?_
  exact Go.retV X102 hx hret hlk (hb hby d18_38) e102 (by decide) (by decide) ⟨rfl, N0, rfl⟩
def Q_cinf (Z : State) (o t : Addr) (cs : Int32) (h0 : Heap) (vR : Option Value) (hR : Heap) (LR : List Loc) : Prop := vR = none ∧ Fr Z.heap.size LR ∧ hR = h0
theorem cinf (l : Launch) (Z : State) (a0 : Array Value) (hw : ∀ d ∈ tables_1, d.before a0 Z = true) (o t : Addr) (cs : Int32) (h0 : Heap) (O0 : Ext Z.heap h0) (Fc : Fld Z h0 o xS1 "coder" "B" (.int 0)) (Et : Exa Z h0 t xS0) (Ft : Fld Z h0 t xS0 "coder" "B" (.int 0)) (SCS : Sta Z Z.heap xS0 xS3 "Z" (.int cs)) (hcs : ¬ (cs = (0 : Int32))) :
    Ctr l Z h0 (⟨xS1, "inflateIfNeededFor", "(Ljava/lang/String;)V"⟩ : MethodName) k25 2 none [] ({ frames := 1, cells := 0, slots := 0, locals := 13 } : Room) #[(.ref o), (.ref t)] (Q_cinf Z o t cs h0) := by
  refine enter (plainFor_of_name pn4) ?_
  intro pp ee ss mm below meth cc s₁ hx hby hml hZ hown hnm hret hlk X0 e0 hs0
  replace hown : ss.vm.findClass xS1 = some mm.cls := hown
  refine Go.cast (congrArg s₁.setTop (ef_cinf mm o t)) ?_
  have N0 := Fr.nil Z.heap.size
  show Go pp ee below _ (s₁.setTop (mkF mm 0 #[.val (.ref o), .val (.ref t)] []))
  refine Go.getS X0 hx hZ hown (host := "") (Or.inl (wd81 hw)) Via.refl e0 (SCS.ext O0) (hb hby d25_0) (q := 3) rfl ?_
  intro T101 X101 e101
  refine Go.ifNo X101 hx (hb hby d25_3) (Jvm.Free.XT.i0_eq_f hcs) (q := 6) rfl ?_
  refine Go.aloadN X101 hx (hb hby d25_6) rfl rfl (q := 7) rfl ?_
  refine Go.getF X101 hx hZ hown (host := "") (Or.inl (wd84 hw)) Via.refl e101 Fc (hb hby d25_7) (q := 10) rfl ?_
  intro T102 X102 e102
  refine Go.aloadN X102 hx (hb hby d25_10) rfl rfl (q := 11) rfl ?_
  refine Go.virt X102 hx hZ hown (wd141 hw) (wd64 hw) (notFace_of_selects (args := #[]) (mvT hZ (wd66 hw))) (wd66 hw) (wd65 hw) (wd6 hw) (wd67 hw) (by decide) (ccoder l Z a0 hw t cs h0 O0 Ft SCS hcs) e102 Et (by rw [hml]; rfl) (hb hby d25_11) (argsL := []) (rest := [(.int 0)]) (lenOf pd4 rfl) rfl rfl (W := 1) (Nat.le_refl _) (by decide) ?_
  intro v103 T103 L103 X103 hQ103
  obtain ⟨rfl, N103q, e103⟩ := hQ103
  have N103 := Fr.app N0 N103q
  refine Go.icmpYes X103 hx (hb hby d25_14) (by decide) (q := 21) (by decide) (by decide) ?_
  exact Go.retV X103 hx hret hlk (hb hby d25_21) e103 (by decide) (by decide) ⟨rfl, N103, rfl⟩
def Q_csbl (Z : State) (o : Addr) (cs : Int32) (h0 : Heap) (vR : Option Value) (hR : Heap) (LR : List Loc) : Prop := vR = some (.int 1) ∧ Fr Z.heap.size LR ∧ hR = h0
theorem csbl (l : Launch) (Z : State) (a0 : Array Value) (hw : ∀ d ∈ tables_1, d.before a0 Z = true) (o : Addr) (cs : Int32) (h0 : Heap) (O0 : Ext Z.heap h0) (Fc : Fld Z h0 o xS1 "coder" "B" (.int 0)) (SCS : Sta Z Z.heap xS0 xS3 "Z" (.int cs)) (hcs : ¬ (cs = (0 : Int32))) :
    Ctr l Z h0 (⟨xS1, "isLatin1", "()Z"⟩ : MethodName) k33 1 (some .boolean) [] ({ frames := 0, cells := 0, slots := 0, locals := 0 } : Room) #[(.ref o)] (Q_csbl Z o cs h0) := by
  refine enter (plainFor_of_name pn4) ?_
  intro pp ee ss mm below meth cc s₁ hx hby hml hZ hown hnm hret hlk X0 e0 hs0
  replace hown : ss.vm.findClass xS1 = some mm.cls := hown
  refine Go.cast (congrArg s₁.setTop (ef_csbl mm o)) ?_
  have N0 := Fr.nil Z.heap.size
  show Go pp ee below _ (s₁.setTop (mkF mm 0 #[.val (.ref o)] []))
  refine Go.getS X0 hx hZ hown (host := "") (Or.inl (wd81 hw)) Via.refl e0 (SCS.ext O0) (hb hby d33_0) (q := 3) rfl ?_
  intro T101 X101 e101
  refine Go.ifNo X101 hx (hb hby d33_3) (Jvm.Free.XT.i0_eq_f hcs) (q := 6) rfl ?_
  refine Go.aloadN X101 hx (hb hby d33_6) rfl rfl (q := 7) rfl ?_
  refine Go.getF X101 hx hZ hown (host := "") (Or.inl (wd84 hw)) Via.refl e101 Fc (hb hby d33_7) (q := 10) rfl ?_
  intro T102 X102 e102
  refine Go.ifNo X102 hx (hb hby d33_10) (by decide) (q := 13) rfl ?_
  refine Go.iconst X102 hx (hb hby d33_13) (r := (1 : Int32)) rfl (q := 14) rfl ?_
  refine Go.goto X102 hx (hb hby d33_14) (q := 18) (by decide) (by decide) ?_
  exact Go.retI X102 hx hret hlk (by simp) rfl (hb hby d33_18) e102 (by decide) (by decide) ⟨rfl, N0, rfl⟩
def Q_cgva (Z : State) (o v : Addr) (h0 : Heap) (vR : Option Value) (hR : Heap) (LR : List Loc) : Prop := vR = some (.ref v) ∧ Fr Z.heap.size LR ∧ hR = h0
theorem cgva (l : Launch) (Z : State) (a0 : Array Value) (hw : ∀ d ∈ tables_1, d.before a0 Z = true) (o v : Addr) (h0 : Heap) (O0 : Ext Z.heap h0) (Fv : Fld Z h0 o xS1 "value" "[B" (.ref v)) :
    Ctr l Z h0 (⟨xS1, "getValue", "()[B"⟩ : MethodName) k30 1 (some (.array .byte)) [] ({ frames := 0, cells := 0, slots := 0, locals := 0 } : Room) #[(.ref o)] (Q_cgva Z o v h0) := by
  refine enter (plainFor_of_name pn4) ?_
  intro pp ee ss mm below meth cc s₁ hx hby hml hZ hown hnm hret hlk X0 e0 hs0
  replace hown : ss.vm.findClass xS1 = some mm.cls := hown
  refine Go.cast (congrArg s₁.setTop (ef_cgva mm o)) ?_
  have N0 := Fr.nil Z.heap.size
  show Go pp ee below _ (s₁.setTop (mkF mm 0 #[.val (.ref o)] []))
  refine Go.aloadN X0 hx (hb hby d30_0) rfl rfl (q := 1) rfl ?_
  refine Go.getF X0 hx hZ hown (host := "") (Or.inl (wd82 hw)) Via.refl e0 Fv (hb hby d30_1) (q := 4) rfl ?_
  intro T101 X101 e101
  exact Go.retA X101 hx hret hlk rfl rfl (hb hby d30_4) e101 (by decide) (by decide) ⟨rfl, N0, rfl⟩
def Q_clna (Z : State) (o : Addr) (cn : Int32) (h0 : Heap) (vR : Option Value) (hR : Heap) (LR : List Loc) : Prop := vR = some (.int cn) ∧ Fr Z.heap.size LR ∧ hR = h0
theorem clna (l : Launch) (Z : State) (a0 : Array Value) (hw : ∀ d ∈ tables_1, d.before a0 Z = true) (o : Addr) (cn : Int32) (h0 : Heap) (O0 : Ext Z.heap h0) (Fn : Fld Z h0 o xS1 "count" "I" (.int cn)) :
    Ctr l Z h0 (⟨xS1, "length", "()I"⟩ : MethodName) k32 1 (some .int) [] ({ frames := 0, cells := 0, slots := 0, locals := 0 } : Room) #[(.ref o)] (Q_clna Z o cn h0) := by
  refine enter (plainFor_of_name pn4) ?_
  intro pp ee ss mm below meth cc s₁ hx hby hml hZ hown hnm hret hlk X0 e0 hs0
  replace hown : ss.vm.findClass xS1 = some mm.cls := hown
  refine Go.cast (congrArg s₁.setTop (ef_clna mm o)) ?_
  have N0 := Fr.nil Z.heap.size
  show Go pp ee below _ (s₁.setTop (mkF mm 0 #[.val (.ref o)] []))
  refine Go.aloadN X0 hx (hb hby d32_0) rfl rfl (q := 1) rfl ?_
  refine Go.getF X0 hx hZ hown (host := "") (Or.inl (wd98 hw)) Via.refl e0 Fn (hb hby d32_1) (q := 4) rfl ?_
  intro T101 X101 e101
  exact Go.retI X101 hx hret hlk (Or.inl rfl) rfl (hb hby d32_4) e101 (by decide) (by decide) ⟨rfl, N0, rfl⟩
def Q_clnb (Z : State) (o : Addr) (cn : Int32) (h0 : Heap) (vR : Option Value) (hR : Heap) (LR : List Loc) : Prop := vR = some (.int cn) ∧ Fr Z.heap.size LR ∧ hR = h0
theorem clnb (l : Launch) (Z : State) (a0 : Array Value) (hw : ∀ d ∈ tables_1, d.before a0 Z = true) (o : Addr) (cn : Int32) (h0 : Heap) (O0 : Ext Z.heap h0) (Eo : Exa Z h0 o xS4) (Fn : Fld Z h0 o xS1 "count" "I" (.int cn)) :
    Ctr l Z h0 (⟨xS4, "length", "()I"⟩ : MethodName) k31 1 (some .int) [] ({ frames := 1, cells := 0, slots := 0, locals := 12 } : Room) #[(.ref o)] (Q_clnb Z o cn h0) := by
  refine enter (plainFor_of_name pn5) ?_
  intro pp ee ss mm below meth cc s₁ hx hby hml hZ hown hnm hret hlk X0 e0 hs0
  replace hown : ss.vm.findClass xS4 = some mm.cls := hown
  refine Go.cast (congrArg s₁.setTop (ef_clnb mm o)) ?_
  have N0 := Fr.nil Z.heap.size
  show Go pp ee below _ (s₁.setTop (mkF mm 0 #[.val (.ref o)] []))
  refine Go.aloadN X0 hx (hb hby d31_0) rfl rfl (q := 1) rfl ?_
  refine Go.sup X0 hx hZ hown (wd171 hw) (own_sameM (x' := (⟨xS1, xS6, "(I)V"⟩ : MethodName)) (z' := (⟨xS1, xS6, "(I)V"⟩ : MethodName)) (y := (⟨xS1, "length", "()I"⟩ : MethodName)) (wd103 hw) rfl (wd167 hw) (by decide)) (wd167 hw) (wd94 hw) (by decide) (wd78 hw) (wd172 hw) (clna l Z a0 hw o cn h0 O0 Fn) e0 Eo (by rw [hml]; rfl) (hb hby d31_1) (argsL := []) (rest := []) (lenOf pd6 rfl) rfl rfl (W := 0) (Nat.le_refl _) (by decide) ?_
  intro v101 T101 L101 X101 hQ101
  obtain ⟨rfl, N101q, e101⟩ := hQ101
  have N101 := Fr.app N0 N101q
  exact Go.retI X101 hx hret hlk (Or.inl rfl) rfl (hb hby d31_4) e101 (by decide) (by decide) ⟨rfl, N101, rfl⟩
def Q_cchl (Z : State) (pa pb : Int32) (h0 : Heap) (vR : Option Value) (hR : Heap) (LR : List Loc) : Prop := vR = none ∧ Fr Z.heap.size LR ∧ hR = h0
theorem cchl (l : Launch) (Z : State) (a0 : Array Value) (hw : ∀ d ∈ tables_1, d.before a0 Z = true) (pa pb : Int32) (h0 : Heap) (O0 : Ext Z.heap h0) (h : ¬ (pb < pa)) :
    Ctr l Z h0 (⟨"java/util/Arrays", "checkLength", "(II)V"⟩ : MethodName) k36 2 none [] ({ frames := 0, cells := 0, slots := 0, locals := 0 } : Room) #[(.int pa), (.int pb)] (Q_cchl Z pa pb h0) := by
  refine enter (plainFor_of_name pn6) ?_
  intro pp ee ss mm below meth cc s₁ hx hby hml hZ hown hnm hret hlk X0 e0 hs0
  replace hown : ss.vm.findClass "java/util/Arrays" = some mm.cls := hown
  refine Go.cast (congrArg s₁.setTop (ef_cchl mm pa pb)) ?_
  have N0 := Fr.nil Z.heap.size
  show Go pp ee below _ (s₁.setTop (mkF mm 0 #[.val (.int pa), .val (.int pb)] []))
  refine Go.iloadN X0 hx (hb hby d36_0) rfl (q := 1) rfl ?_
  refine Go.iloadN X0 hx (hb hby d36_1) rfl (q := 2) rfl ?_
  refine Go.icmpYes X0 hx (hb hby d36_2) (Jvm.Free.XT.ii_ge_t h) (q := 37) (by decide) (by decide) ?_
  exact Go.retV X0 hx hret hlk (hb hby d36_37) e0 (by decide) (by decide) ⟨rfl, N0, rfl⟩
def Q_cmin1 (Z : State) (pa pb : Int32) (h0 : Heap) (vR : Option Value) (hR : Heap) (LR : List Loc) : Prop := vR = some (.int pa) ∧ Fr Z.heap.size LR ∧ hR = h0
theorem cmin1 (l : Launch) (Z : State) (a0 : Array Value) (hw : ∀ d ∈ tables_1, d.before a0 Z = true) (pa pb : Int32) (h0 : Heap) (O0 : Ext Z.heap h0) (h : ¬ (pb < pa)) :
    Ctr l Z h0 (⟨"java/lang/Math", "min", "(II)I"⟩ : MethodName) k23 2 (some .int) [] ({ frames := 0, cells := 0, slots := 0, locals := 0 } : Room) #[(.int pa), (.int pb)] (Q_cmin1 Z pa pb h0) := by
  refine enter (Jvm.Free.JP.mathPlain rfl (by decide +kernel)) ?_
  intro pp ee ss mm below meth cc s₁ hx hby hml hZ hown hnm hret hlk X0 e0 hs0
  replace hown : ss.vm.findClass "java/lang/Math" = some mm.cls := hown
  refine Go.cast (congrArg s₁.setTop (ef_cmin1 mm pa pb)) ?_
  have N0 := Fr.nil Z.heap.size
  show Go pp ee below _ (s₁.setTop (mkF mm 0 #[.val (.int pa), .val (.int pb)] []))
  refine Go.iloadN X0 hx (hb hby d23_0) rfl (q := 1) rfl ?_
  refine Go.iloadN X0 hx (hb hby d23_1) rfl (q := 2) rfl ?_
  refine Go.icmpNo X0 hx (hb hby d23_2) (Jvm.Free.XT.ii_gt_f h) (q := 5) rfl ?_
  refine Go.iloadN X0 hx (hb hby d23_5) rfl (q := 6) rfl ?_
  refine Go.goto X0 hx (hb hby d23_6) (q := 10) (by decide) (by decide) ?_
  exact Go.retI X0 hx hret hlk (Or.inl rfl) rfl (hb hby d23_10) e0 (by decide) (by decide) ⟨rfl, N0, rfl⟩
def Q_cmin2 (Z : State) (pa pb : Int32) (h0 : Heap) (vR : Option Value) (hR : Heap) (LR : List Loc) : Prop := vR = some (.int pb) ∧ Fr Z.heap.size LR ∧ hR = h0
theorem cmin2 (l : Launch) (Z : State) (a0 : Array Value) (hw : ∀ d ∈ tables_1, d.before a0 Z = true) (pa pb : Int32) (h0 : Heap) (O0 : Ext Z.heap h0) (h : pb < pa) :
    Ctr l Z h0 (⟨"java/lang/Math", "min", "(II)I"⟩ : MethodName) k23 2 (some .int) [] ({ frames := 0, cells := 0, slots := 0, locals := 0 } : Room) #[(.int pa), (.int pb)] (Q_cmin2 Z pa pb h0) := by
  refine enter (Jvm.Free.JP.mathPlain rfl (by decide +kernel)) ?_
  intro pp ee ss mm below meth cc s₁ hx hby hml hZ hown hnm hret hlk X0 e0 hs0
  replace hown : ss.vm.findClass "java/lang/Math" = some mm.cls := hown
  refine Go.cast (congrArg s₁.setTop (ef_cmin2 mm pa pb)) ?_
  have N0 := Fr.nil Z.heap.size
  show Go pp ee below _ (s₁.setTop (mkF mm 0 #[.val (.int pa), .val (.int pb)] []))
  refine Go.iloadN X0 hx (hb hby d23_0) rfl (q := 1) rfl ?_
  refine Go.iloadN X0 hx (hb hby d23_1) rfl (q := 2) rfl ?_
  refine Go.icmpYes X0 hx (hb hby d23_2) (Jvm.Free.XT.ii_gt_t h) (q := 9) (by decide) (by decide) ?_
  refine Go.iloadN X0 hx (hb hby d23_9) rfl (q := 10) rfl ?_
  exact Go.retI X0 hx hret hlk (Or.inl rfl) rfl (hb hby d23_10) e0 (by decide) (by decide) ⟨rfl, N0, rfl⟩
def Q_cgb (Z : State) (t u v : Addr) (cs cp : Int32) (kv ku : ClassId) (ct ln : Int32) (us ds ot : List Value) (h0 : Heap) (vR : Option Value) (hR : Heap) (LR : List Loc) : Prop := vR = none ∧ Fr Z.heap.size LR ∧ Keep h0 hR [v] ∧ Arv Z hR v kv .byte cp ot (.int 0)
theorem cgb (l : Launch) (Z : State) (a0 : Array Value) (hw : ∀ d ∈ tables_1, d.before a0 Z = true) (t u v : Addr) (cs cp : Int32) (kv ku : ClassId) (ct ln : Int32) (us ds ot : List Value) (h0 : Heap) (O0 : Ext Z.heap h0) (Et : Exa Z h0 t xS0) (Ct : Fld Z h0 t xS0 "coder" "B" (.int 0)) (Ft : Fld Z h0 t xS0 "value" "[B" (.ref u)) (Vu : Arv Z h0 u ku .byte ln us (.int 0)) (Vv : Arv Z h0 v kv .byte cp ds (.int 0)) (g_v : Z.heap.size ≤ v) (SCS : Sta Z Z.heap xS0 xS3 "Z" (.int cs)) (hcs : ¬ (cs = (0 : Int32))) (hcp : Cpy (0 : Int32) ct ln ln cp us ds us ot) :
    Ctr l Z h0 (⟨xS0, "getBytes", "([BIB)V"⟩ : MethodName) k26 4 none [] ({ frames := 1, cells := 0, slots := 0, locals := 18 } : Room) #[(.ref t), (.ref v), (.int ct), (.int 0)] (Q_cgb Z t u v cs cp kv ku ct ln us ds ot h0) := by
  refine enter (plainFor_of_name pn0) ?_
  intro pp ee ss mm below meth cc s₁ hx hby hml hZ hown hnm hret hlk X0 e0 hs0
  replace hown : ss.vm.findClass xS0 = some mm.cls := hown
  refine Go.cast (congrArg s₁.setTop (ef_cgb mm t v ct)) ?_
  have N0 := Fr.nil Z.heap.size
  have KP := Keep.refl h0 [v]
  show Go pp ee below _ (s₁.setTop (mkF mm 0 #[.val (.ref t), .val (.ref v), .val (.int ct), .val (.int 0)] []))
  refine Go.aloadN X0 hx (hb hby d26_0) rfl rfl (q := 1) rfl ?_
  refine Go.virt X0 hx hZ hown (wd63 hw) (wd64 hw) (notFace_of_selects (args := #[]) (mvT hZ (wd66 hw))) (wd66 hw) (wd65 hw) (wd6 hw) (wd67 hw) (by decide) (ccoder l Z a0 hw t cs h0 O0 Ct SCS hcs) e0 Et (by rw [hml]; rfl) (hb hby d26_1) (argsL := []) (rest := []) (lenOf pd4 rfl) rfl rfl (W := 0) (Nat.le_refl _) (by decide) ?_
  intro v101 T101 L101 X101 hQ101
  obtain ⟨rfl, N101q, e101⟩ := hQ101
  have N101 := Fr.app N0 N101q
  refine Go.iloadN X101 hx (hb hby d26_4) rfl (q := 5) rfl ?_
  refine Go.icmpNo X101 hx (hb hby d26_5) (by decide) (q := 8) rfl ?_
  refine Go.aloadN X101 hx (hb hby d26_8) rfl rfl (q := 9) rfl ?_
  refine Go.getF X101 hx hZ hown (host := "") (Or.inl (wd24 hw)) Via.refl e101 Ft (hb hby d26_9) (q := 12) rfl ?_
  intro T102 X102 e102
  refine Go.iconst X102 hx (hb hby d26_12) (r := (0 : Int32)) rfl (q := 13) rfl ?_
  refine Go.aloadN X102 hx (hb hby d26_13) rfl rfl (q := 14) rfl ?_
  refine Go.iloadN X102 hx (hb hby d26_14) rfl (q := 15) rfl ?_
  refine Go.iloadN X102 hx (hb hby d26_15) rfl (q := 16) rfl ?_
  refine Go.ishl X102 hx (hb hby d26_16) rfl (q := 17) rfl ?_
  rw [own_shl0 ct]
  show Go pp ee below _ (T102.setTop (mkF mm 17 #[.val (.ref t), .val (.ref v), .val (.int ct), .val (.int 0)] [(.int ct), (.ref v), (.int 0), (.ref u)]))
  refine Go.aloadN X102 hx (hb hby d26_17) rfl rfl (q := 18) rfl ?_
  refine Go.getF X102 hx hZ hown (host := "") (Or.inl (wd24 hw)) Via.refl e102 Ft (hb hby d26_18) (q := 21) rfl ?_
  intro T103 X103 e103
  refine Go.alen X103 hx hZ e103 Vu (hb hby d26_21) ?_
  obtain ⟨T104, h104, L104, X104, e104, N104, K104, V104, st104⟩ := cpA X103 hx hZ hown (wd147 hw) (wd130 hw) (wd128 hw) (wd129 hw) e103 Vu Vv (us := us) (sp := (0 : Int32)) (dp := ct) (nn := ln) (Or.inl ⟨rfl, rfl⟩) hcp.1.1 hcp.1.2.1 hcp.1.2.2 hcp.2.1 hcp.2.2.1 hcp.2.2.2.1 hcp.2.2.2.2.1 N101 g_v (g := (mkF mm 22 #[.val (.ref t), .val (.ref v), .val (.int ct), .val (.int 0)] [(.int ln), (.int ct), (.ref v), (.int 0), (.ref u)])) rfl (by rw [hml]; rfl) rfl (hb hby d26_22) (by decide) (W := 0) (by show 2 * 0 + _ ≤ _; exact Nat.le_of_eq rfl) (by decide)
  refine Go.by st104 ?_
  replace Et := Et.keep K104
  have OK104 := ext_keep O0 K104 (allS g_v all0)
  replace KP := KP.trans K104 (allS (Or.inl (List.mem_of_getElem? (i := 0) rfl)) all0)
  rw [hcp.2.2.2.2.2] at V104
  show Go pp ee below _ (T104.setTop (mkF mm 25 #[.val (.ref t), .val (.ref v), .val (.int ct), .val (.int 0)] []))
  refine Go.goto X104 hx (hb hby d26_25) (q := 43) (by decide) (by decide) ?_
  exact Go.retV X104 hx hret hlk (hb hby d26_43) e104 (by decide) (by decide) ⟨rfl, N104, KP, V104⟩
def Q_cps (Z : State) (o t u v : Addr) (cs cp : Int32) (kv ku : ClassId) (ct ln : Int32) (us ds ot : List Value) (h0 : Heap) (vR : Option Value) (hR : Heap) (LR : List Loc) : Prop := vR = none ∧ Fr Z.heap.size LR ∧ Keep h0 hR [v] ∧ Arv Z hR v kv .byte cp ot (.int 0)
theorem cps (l : Launch) (Z : State) (a0 : Array Value) (hw : ∀ d ∈ tables_1, d.before a0 Z = true) (o t u v : Addr) (cs cp : Int32) (kv ku : ClassId) (ct ln : Int32) (us ds ot : List Value) (h0 : Heap) (O0 : Ext Z.heap h0) (Eo : Exa Z h0 o xS4) (F0 : Fld Z h0 o xS1 "value" "[B" (.ref v)) (F1 : Fld Z h0 o xS1 "coder" "B" (.int 0)) (F2 : Fld Z h0 o xS1 "count" "I" (.int ct)) (Vv : Arv Z h0 v kv .byte cp ds (.int 0)) (g_v : Z.heap.size ≤ v) (g_o : Z.heap.size ≤ o) (nov : o ≠ v) (Et : Exa Z h0 t xS0) (Ct : Fld Z h0 t xS0 "coder" "B" (.int 0)) (Ft : Fld Z h0 t xS0 "value" "[B" (.ref u)) (Vu : Arv Z h0 u ku .byte ln us (.int 0)) (SCS : Sta Z Z.heap xS0 xS3 "Z" (.int cs)) (hcs : ¬ (cs = (0 : Int32))) (hcp : Cpy (0 : Int32) ct ln ln cp us ds us ot) :
    Ctr l Z h0 (⟨xS1, "putStringAt", "(ILjava/lang/String;)V"⟩ : MethodName) k24 3 none [] ({ frames := 2, cells := 0, slots := 0, locals := 33 } : Room) #[(.ref o), (.int ct), (.ref t)] (Q_cps Z o t u v cs cp kv ku ct ln us ds ot h0) := by
  refine enter (plainFor_of_name pn4) ?_
  intro pp ee ss mm below meth cc s₁ hx hby hml hZ hown hnm hret hlk X0 e0 hs0
  replace hown : ss.vm.findClass xS1 = some mm.cls := hown
  refine Go.cast (congrArg s₁.setTop (ef_cps mm o ct t)) ?_
  have N0 := Fr.nil Z.heap.size
  have KP := Keep.refl h0 [v]
  show Go pp ee below _ (s₁.setTop (mkF mm 0 #[.val (.ref o), .val (.int ct), .val (.ref t)] []))
  refine Go.aloadN X0 hx (hb hby d24_0) rfl rfl (q := 1) rfl ?_
  refine Go.aloadN X0 hx (hb hby d24_1) rfl rfl (q := 2) rfl ?_
  refine Go.priv X0 hx hZ hown (wd136 hw) (wd137 hw) (own_selp (x' := (⟨xS1, xS6, "(I)V"⟩ : MethodName)) (y' := (⟨xS1, xS6, "(I)V"⟩ : MethodName)) (y := (⟨xS1, "inflateIfNeededFor", "(Ljava/lang/String;)V"⟩ : MethodName)) (wd103 hw) rfl (wd137 hw) (wd138 hw) (by decide)) (wd138 hw) (wd78 hw) (wd140 hw) (by decide) (cinf l Z a0 hw o t cs h0 O0 F1 Et Ct SCS hcs) e0 Eo (by rw [hml]; rfl) (hb hby d24_2) (argsL := [(.ref t)]) (rest := []) (lenOf pd10 rfl) rfl rfl (W := 0) (Nat.le_refl _) (by decide) ?_
  intro v101 T101 L101 X101 hQ101
  obtain ⟨rfl, N101q, e101⟩ := hQ101
  have N101 := Fr.app N0 N101q
  refine Go.aloadN X101 hx (hb hby d24_5) rfl rfl (q := 6) rfl ?_
  refine Go.aloadN X101 hx (hb hby d24_6) rfl rfl (q := 7) rfl ?_
  refine Go.getF X101 hx hZ hown (host := "") (Or.inl (wd82 hw)) Via.refl e101 F0 (hb hby d24_7) (q := 10) rfl ?_
  intro T102 X102 e102
  refine Go.iloadN X102 hx (hb hby d24_10) rfl (q := 11) rfl ?_
  refine Go.aloadN X102 hx (hb hby d24_11) rfl rfl (q := 12) rfl ?_
  refine Go.getF X102 hx hZ hown (host := "") (Or.inl (wd84 hw)) Via.refl e102 F1 (hb hby d24_12) (q := 15) rfl ?_
  intro T103 X103 e103
  refine Go.virt X103 hx hZ hown (wd142 hw) (wd143 hw) (notFace_of_selects (args := #[]) (mvT hZ (wd145 hw))) (wd145 hw) (wd144 hw) (wd6 hw) (wd146 hw) (by decide) (cgb l Z a0 hw t u v cs cp (kv) (ku) ct ln (us) (ds) (ot) h0 O0 Et Ct Ft Vu Vv g_v SCS hcs hcp) e103 Et (by rw [hml]; rfl) (hb hby d24_15) (argsL := [(.ref v), (.int ct), (.int 0)]) (rest := []) (lenOf pd11 rfl) rfl rfl (W := 0) (Nat.le_refl _) (by decide) ?_
  intro v104 T104 L104 X104 hQ104
  obtain ⟨h104, e104⟩ : ∃ z, T104.heap = z := ⟨_, rfl⟩
  rw [e104] at hQ104
  obtain ⟨rfl, N104q, K104, P104_0⟩ := hQ104
  have N104 := Fr.app N101 N104q
  replace Eo := Eo.keep K104
  replace F0 := F0.keep K104 (ninS nov nin0)
  replace F1 := F1.keep K104 (ninS nov nin0)
  replace F2 := F2.keep K104 (ninS nov nin0)
  replace Et := Et.keep K104
  have OK104 := ext_keep O0 K104 (allS g_v all0)
  replace KP := KP.trans K104 (allS (Or.inl (List.mem_of_getElem? (i := 0) rfl)) all0)
  exact Go.retV X104 hx hret hlk (hb hby d24_18) e104 (by decide) (by decide) ⟨rfl, N104, KP, P104_0⟩
def Q_caa (Z : State) (o t u v : Addr) (cs cp : Int32) (kv ku : ClassId) (ct ln : Int32) (us ds ot : List Value) (h0 : Heap) (vR : Option Value) (hR : Heap) (LR : List Loc) : Prop := vR = some (.ref o) ∧ Fr Z.heap.size LR ∧ Keep h0 hR [o, v] ∧ Fld Z hR o xS1 "value" "[B" (.ref v) ∧ Fld Z hR o xS1 "coder" "B" (.int 0) ∧ Fld Z hR o xS1 "count" "I" (.int (ct + ln)) ∧ Arv Z hR v kv .byte cp ot (.int 0)
theorem caa (l : Launch) (Z : State) (a0 : Array Value) (hw : ∀ d ∈ tables_1, d.before a0 Z = true) (o t u v : Addr) (cs cp : Int32) (kv ku : ClassId) (ct ln : Int32) (us ds ot : List Value) (h0 : Heap) (O0 : Ext Z.heap h0) (Eo : Exa Z h0 o xS4) (F0 : Fld Z h0 o xS1 "value" "[B" (.ref v)) (F1 : Fld Z h0 o xS1 "coder" "B" (.int 0)) (F2 : Fld Z h0 o xS1 "count" "I" (.int ct)) (Vv : Arv Z h0 v kv .byte cp ds (.int 0)) (g_v : Z.heap.size ≤ v) (g_o : Z.heap.size ≤ o) (nov : o ≠ v) (Et : Exa Z h0 t xS0) (Ct : Fld Z h0 t xS0 "coder" "B" (.int 0)) (Ft : Fld Z h0 t xS0 "value" "[B" (.ref u)) (Vu : Arv Z h0 u ku .byte ln us (.int 0)) (SCS : Sta Z Z.heap xS0 xS3 "Z" (.int cs)) (hcs : ¬ (cs = (0 : Int32))) (hcp : Cpy (0 : Int32) ct ln ln cp us ds us ot) (hcap : ¬ ((0 : Int32) < ((ct + ln) - cp))) :
    Ctr l Z h0 (⟨xS1, "append", "(Ljava/lang/String;)Ljava/lang/AbstractStringBuilder;"⟩ : MethodName) k17 3 (some (.object xS1)) [] ({ frames := 3, cells := 0, slots := 0, locals := 47 } : Room) #[(.ref o), (.ref t)] (Q_caa Z o t u v cs cp kv ku ct ln us ds ot h0) := by
  refine enter (plainFor_of_name pn4) ?_
  intro pp ee ss mm below meth cc s₁ hx hby hml hZ hown hnm hret hlk X0 e0 hs0
  replace hown : ss.vm.findClass xS1 = some mm.cls := hown
  refine Go.cast (congrArg s₁.setTop (ef_caa mm o t)) ?_
  have N0 := Fr.nil Z.heap.size
  have KP := Keep.refl h0 [o, v]
  show Go pp ee below _ (s₁.setTop (mkF mm 0 #[.val (.ref o), .val (.ref t), .unset] []))
  refine Go.aloadN X0 hx (hb hby d17_0) rfl rfl (q := 1) rfl ?_
  refine Go.ifnonnullYes X0 hx (hb hby d17_1) (q := 9) (by decide) (by decide) ?_
  refine Go.aloadN X0 hx (hb hby d17_9) rfl rfl (q := 10) rfl ?_
  refine Go.virt X0 hx hZ hown (wd97 hw) (wd59 hw) (notFace_of_selects (args := #[]) (mvT hZ (wd61 hw))) (wd61 hw) (wd60 hw) (wd6 hw) (wd62 hw) (by decide) (clen l Z a0 hw t cs u (ku) ln (us) h0 O0 Et Ct Ft Vu SCS hcs) e0 Et (by rw [hml]; rfl) (hb hby d17_10) (argsL := []) (rest := []) (lenOf pd6 rfl) rfl rfl (W := 0) (Nat.le_refl _) (by decide) ?_
  intro v101 T101 L101 X101 hQ101
  obtain ⟨rfl, N101q, e101⟩ := hQ101
  have N101 := Fr.app N0 N101q
  refine Go.istoreN X101 hx (hb hby d17_13) (l' := #[.val (.ref o), .val (.ref t), .val (.int ln)]) rfl (q := 14) rfl ?_
  refine Go.aloadN X101 hx (hb hby d17_14) rfl rfl (q := 15) rfl ?_
  refine Go.aloadN X101 hx (hb hby d17_15) rfl rfl (q := 16) rfl ?_
  refine Go.getF X101 hx hZ hown (host := "") (Or.inl (wd98 hw)) Via.refl e101 F2 (hb hby d17_16) (q := 19) rfl ?_
  intro T102 X102 e102
  refine Go.iloadN X102 hx (hb hby d17_19) rfl (q := 20) rfl ?_
  refine Go.iadd X102 hx (hb hby d17_20) rfl (q := 21) rfl ?_
  refine Go.priv X102 hx hZ hown (wd100 hw) (wd101 hw) (own_selp (x' := (⟨xS1, xS6, "(I)V"⟩ : MethodName)) (y' := (⟨xS1, xS6, "(I)V"⟩ : MethodName)) (y := (⟨xS1, xS6, "(I)V"⟩ : MethodName)) (wd103 hw) rfl (wd101 hw) (wd102 hw) (by decide)) (wd102 hw) (wd78 hw) (wd104 hw) (by decide) (cens l Z a0 hw o ((ct + ln)) cp v (kv) (ds) h0 O0 F0 F1 Vv hcap) e102 Eo (by rw [hml]; rfl) (hb hby d17_21) (argsL := [(.int (ct + ln))]) (rest := []) (lenOf pd9 rfl) rfl rfl (W := 0) (Nat.le_refl _) (by decide) ?_
  intro v103 T103 L103 X103 hQ103
  obtain ⟨rfl, N103q, e103⟩ := hQ103
  have N103 := Fr.app N101 N103q
  refine Go.aloadN X103 hx (hb hby d17_24) rfl rfl (q := 25) rfl ?_
  refine Go.aloadN X103 hx (hb hby d17_25) rfl rfl (q := 26) rfl ?_
  refine Go.getF X103 hx hZ hown (host := "") (Or.inl (wd98 hw)) Via.refl e103 F2 (hb hby d17_26) (q := 29) rfl ?_
  intro T104 X104 e104
  refine Go.aloadN X104 hx (hb hby d17_29) rfl rfl (q := 30) rfl ?_
  refine Go.priv X104 hx hZ hown (wd131 hw) (wd132 hw) (own_selp (x' := (⟨xS1, xS6, "(I)V"⟩ : MethodName)) (y' := (⟨xS1, xS6, "(I)V"⟩ : MethodName)) (y := (⟨xS1, "putStringAt", "(ILjava/lang/String;)V"⟩ : MethodName)) (wd103 hw) rfl (wd132 hw) (wd133 hw) (by decide)) (wd133 hw) (wd78 hw) (wd135 hw) (by decide) (cps l Z a0 hw o t u v cs cp (kv) (ku) ct ln (us) (ds) (ot) h0 O0 Eo F0 F1 F2 Vv g_v g_o nov Et Ct Ft Vu SCS hcs hcp) e104 Eo (by rw [hml]; rfl) (hb hby d17_30) (argsL := [(.int ct), (.ref t)]) (rest := []) (lenOf pd12 rfl) rfl rfl (W := 0) (Nat.le_refl _) (by decide) ?_
  intro v105 T105 L105 X105 hQ105
  obtain ⟨h105, e105⟩ : ∃ z, T105.heap = z := ⟨_, rfl⟩
  rw [e105] at hQ105
  obtain ⟨rfl, N105q, K105, P105_0⟩ := hQ105
  have N105 := Fr.app N103 N105q
  replace Eo := Eo.keep K105
  replace F0 := F0.keep K105 (ninS nov nin0)
  replace F1 := F1.keep K105 (ninS nov nin0)
  replace F2 := F2.keep K105 (ninS nov nin0)
  replace Et := Et.keep K105
  have OK105 := ext_keep O0 K105 (allS g_v all0)
  replace KP := KP.trans K105 (allS (Or.inl (List.mem_of_getElem? (i := 1) rfl)) all0)
  refine Go.aloadN X105 hx (hb hby d17_33) rfl rfl (q := 34) rfl ?_
  refine Go.dup X105 hx (hb hby d17_34) rfl (q := 35) rfl ?_
  refine Go.getF X105 hx hZ hown (host := "") (Or.inl (wd98 hw)) Via.refl e105 F2 (hb hby d17_35) (q := 38) rfl ?_
  intro T106 X106 e106
  refine Go.iloadN X106 hx (hb hby d17_38) rfl (q := 39) rfl ?_
  refine Go.iadd X106 hx (hb hby d17_39) rfl (q := 40) rfl ?_
  refine Go.putF X106 hx hZ hown (host := "") (Or.inl (wd98 hw)) Via.refl e106 F2 Eo (Or.inl (wd99 hw)) (wd69 hw) (ty := .int) (by decide) rfl rfl (hb hby d17_40) (q := 43) rfl ?_
  intro T107 h107 X107 e107 W107 F107
  have N107 := Fr.snoc X107 N105 g_o
  replace Eo := Eo.wr W107
  replace F0 := F0.other W107 (Or.inr (slot_ne (Or.inl (wd83 hw)) (Or.inl (wd99 hw)) (by decide) (t := (.array .byte)) (t' := .int) (by decide) (by decide)))
  replace F1 := F1.other W107 (Or.inr (slot_ne (Or.inl (wd85 hw)) (Or.inl (wd99 hw)) (by decide) (t := .byte) (t' := .int) (by decide) (by decide)))
  replace Et := Et.wr W107
  replace P105_0 := P105_0.other W107 (Ne.symm nov)
  have OW107 := ext_wr OK105 W107 g_o
  replace KP := KP.wr W107 (Or.inl (List.mem_of_getElem? (i := 0) rfl))
  refine Go.aloadN X107 hx (hb hby d17_43) rfl rfl (q := 44) rfl ?_
  exact Go.retA X107 hx hret hlk rfl rfl (hb hby d17_44) e107 (by decide) (by decide) ⟨rfl, N107, KP, F0, F1, F107, P105_0⟩
def Q_cab (Z : State) (o t u v : Addr) (cs cp : Int32) (kv ku : ClassId) (ct ln : Int32) (us ds ot : List Value) (h0 : Heap) (vR : Option Value) (hR : Heap) (LR : List Loc) : Prop := vR = some (.ref o) ∧ Fr Z.heap.size LR ∧ Keep h0 hR [o, v] ∧ Fld Z hR o xS1 "value" "[B" (.ref v) ∧ Fld Z hR o xS1 "coder" "B" (.int 0) ∧ Fld Z hR o xS1 "count" "I" (.int (ct + ln)) ∧ Arv Z hR v kv .byte cp ot (.int 0)
theorem cab (l : Launch) (Z : State) (a0 : Array Value) (hw : ∀ d ∈ tables_1, d.before a0 Z = true) (o t u v : Addr) (cs cp : Int32) (kv ku : ClassId) (ct ln : Int32) (us ds ot : List Value) (h0 : Heap) (O0 : Ext Z.heap h0) (Eo : Exa Z h0 o xS4) (F0 : Fld Z h0 o xS1 "value" "[B" (.ref v)) (F1 : Fld Z h0 o xS1 "coder" "B" (.int 0)) (F2 : Fld Z h0 o xS1 "count" "I" (.int ct)) (Vv : Arv Z h0 v kv .byte cp ds (.int 0)) (g_v : Z.heap.size ≤ v) (g_o : Z.heap.size ≤ o) (nov : o ≠ v) (Et : Exa Z h0 t xS0) (Ct : Fld Z h0 t xS0 "coder" "B" (.int 0)) (Ft : Fld Z h0 t xS0 "value" "[B" (.ref u)) (Vu : Arv Z h0 u ku .byte ln us (.int 0)) (SCS : Sta Z Z.heap xS0 xS3 "Z" (.int cs)) (hcs : ¬ (cs = (0 : Int32))) (hcp : Cpy (0 : Int32) ct ln ln cp us ds us ot) (hcap : ¬ ((0 : Int32) < ((ct + ln) - cp))) :
    Ctr l Z h0 (⟨xS4, "append", "(Ljava/lang/String;)Ljava/lang/StringBuilder;"⟩ : MethodName) k16 2 (some (.object xS4)) [] ({ frames := 4, cells := 0, slots := 0, locals := 61 } : Room) #[(.ref o), (.ref t)] (Q_cab Z o t u v cs cp kv ku ct ln us ds ot h0) := by
  refine enter (plainFor_of_name pn5) ?_
  intro pp ee ss mm below meth cc s₁ hx hby hml hZ hown hnm hret hlk X0 e0 hs0
  replace hown : ss.vm.findClass xS4 = some mm.cls := hown
  refine Go.cast (congrArg s₁.setTop (ef_cab mm o t)) ?_
  have N0 := Fr.nil Z.heap.size
  have KP := Keep.refl h0 [o, v]
  show Go pp ee below _ (s₁.setTop (mkF mm 0 #[.val (.ref o), .val (.ref t)] []))
  refine Go.aloadN X0 hx (hb hby d16_0) rfl rfl (q := 1) rfl ?_
  refine Go.aloadN X0 hx (hb hby d16_1) rfl rfl (q := 2) rfl ?_
  refine Go.sup X0 hx hZ hown (wd92 hw) (own_sameM (x' := (⟨xS1, xS6, "(I)V"⟩ : MethodName)) (z' := (⟨xS1, xS6, "(I)V"⟩ : MethodName)) (y := (⟨xS1, "append", "(Ljava/lang/String;)Ljava/lang/AbstractStringBuilder;"⟩ : MethodName)) (wd103 hw) rfl (wd93 hw) (by decide)) (wd93 hw) (wd94 hw) (by decide) (wd78 hw) (wd96 hw) (caa l Z a0 hw o t u v cs cp (kv) (ku) ct ln (us) (ds) (ot) h0 O0 Eo F0 F1 F2 Vv g_v g_o nov Et Ct Ft Vu SCS hcs hcp hcap) e0 Eo (by rw [hml]; rfl) (hb hby d16_2) (argsL := [(.ref t)]) (rest := []) (lenOf pd13 rfl) rfl rfl (W := 0) (Nat.le_refl _) (by decide) ?_
  intro v101 T101 L101 X101 hQ101
  obtain ⟨h101, e101⟩ : ∃ z, T101.heap = z := ⟨_, rfl⟩
  rw [e101] at hQ101
  obtain ⟨rfl, N101q, K101, P101_0, P101_1, P101_2, P101_3⟩ := hQ101
  have N101 := Fr.app N0 N101q
  replace Eo := Eo.keep K101
  replace Et := Et.keep K101
  have OK101 := ext_keep O0 K101 (allS g_o (allS g_v all0))
  replace KP := KP.trans K101 (allS (Or.inl (List.mem_of_getElem? (i := 0) rfl)) (allS (Or.inl (List.mem_of_getElem? (i := 1) rfl)) all0))
  refine Go.pop X101 hx (hb hby d16_5) rfl (q := 6) rfl ?_
  refine Go.aloadN X101 hx (hb hby d16_6) rfl rfl (q := 7) rfl ?_
  exact Go.retA X101 hx hret hlk rfl rfl (hb hby d16_7) e101 (by decide) (by decide) ⟨rfl, N101, KP, P101_0, P101_1, P101_2, P101_3⟩
def Q_ccqb (Z : State) (v : Addr) (cp : Int32) (kv : ClassId) (ct : Int32) (ds us : List Value) (h0 : Heap) (vR : Option Value) (hR : Heap) (LR : List Loc) : Prop := ∃ u : Addr, ∃ ku : ClassId, vR = some (.ref u) ∧ Fr Z.heap.size LR ∧ Keep h0 hR [] ∧ h0.size ≤ u ∧ Arv Z hR u ku .byte ct us (.int 0)
theorem ccqb (l : Launch) (Z : State) (a0 : Array Value) (hw : ∀ d ∈ tables_1, d.before a0 Z = true) (v : Addr) (cp : Int32) (kv : ClassId) (ct : Int32) (ds us : List Value) (h0 : Heap) (O0 : Ext Z.heap h0) (Vv : Arv Z h0 v kv .byte cp ds (.int 0)) (hct : Cut ct cp ds us) :
    Ctr l Z h0 (⟨"java/util/Arrays", "copyOfRangeByte", "([BII)[B"⟩ : MethodName) k35 5 (some (.array .byte)) [] ({ frames := 1, cells := 1, slots := 24, locals := 18 } : Room) #[(.ref v), (.int 0), (.int ct)] (Q_ccqb Z v cp kv ct ds us h0) := by
  refine enter (plainFor_of_name pn6) ?_
  intro pp ee ss mm below meth cc s₁ hx hby hml hZ hown hnm hret hlk X0 e0 hs0
  replace hown : ss.vm.findClass "java/util/Arrays" = some mm.cls := hown
  refine Go.cast (congrArg s₁.setTop (ef_ccqb mm v ct)) ?_
  have N0 := Fr.nil Z.heap.size
  have KP := Keep.refl h0 []
  show Go pp ee below _ (s₁.setTop (mkF mm 0 #[.val (.ref v), .val (.int 0), .val (.int ct), .unset, .unset] []))
  refine Go.iloadN X0 hx (hb hby d35_0) rfl (q := 1) rfl ?_
  refine Go.iloadN X0 hx (hb hby d35_1) rfl (q := 2) rfl ?_
  refine Go.callS X0 hx hZ hown (wd184 hw) (wd185 hw) (wd122 hw) (wd186 hw) (by decide) (cchl l Z a0 hw ((0 : Int32)) ct h0 O0 hct.1.1) e0 (by rw [hml]; rfl) (hb hby d35_2) (argsL := [(.int 0), (.int ct)]) (rest := []) (lenOf pd14 rfl) rfl rfl (W := 0) (Nat.le_refl _) (by decide) ?_
  intro v101 T101 L101 X101 hQ101
  obtain ⟨rfl, N101q, e101⟩ := hQ101
  have N101 := Fr.app N0 N101q
  refine Go.iloadN X101 hx (hb hby d35_5) rfl (q := 6) rfl ?_
  refine Go.iloadN X101 hx (hb hby d35_6) rfl (q := 7) rfl ?_
  refine Go.isub X101 hx (hb hby d35_7) rfl (q := 8) rfl ?_
  rw [own_sub0 ct]
  show Go pp ee below _ (T101.setTop (mkF mm 8 #[.val (.ref v), .val (.int 0), .val (.int ct), .unset, .unset] [(.int ct)]))
  refine Go.istoreN X101 hx (hb hby d35_8) (l' := #[.val (.ref v), .val (.int 0), .val (.int ct), .val (.int ct), .unset]) rfl (q := 9) rfl ?_
  refine Go.iloadN X101 hx (hb hby d35_9) rfl (q := 10) rfl ?_
  refine Go.newP X101 hx hZ (hb hby d35_10) (wd19 hw) e101 hct.1.1 (cap := 24) hct.2.1 (by decide) (by decide) (by decide) (ad := "[B") rfl (q := 12) rfl ?_
  intro b102 T102 h102 k102 X102 e102 q102 E102 V102 B102
  have ne_v_b102 : v ≠ b102 := ne_new Vv.lt (Nat.le_of_eq q102)
  have g_b102 : Z.heap.size ≤ b102 := Nat.le_trans O0.1 (Nat.le_of_eq q102)
  have z_b102 : h0.size ≤ b102 := Nat.le_trans KP.1 (Nat.le_of_eq q102)
  replace Vv := Vv.ext E102
  have OE102 := ext_trans O0 E102
  replace KP := KP.ext E102
  replace V102 : Arv Z h102 b102 k102 .byte ct [(.int 0), (.int 0), (.int 0), (.int 0), (.int 0), (.int 0), (.int 0), (.int 0), (.int 0), (.int 0), (.int 0), (.int 0), (.int 0), (.int 0), (.int 0), (.int 0), (.int 0), (.int 0), (.int 0), (.int 0), (.int 0), (.int 0), (.int 0), (.int 0)] (.int 0) := V102.pad (pad_rep [] (.int 0) 24)
  refine Go.astore X102 hx (hb hby d35_12) rfl (l' := #[.val (.ref v), .val (.int 0), .val (.int ct), .val (.int ct), .val (.ref b102)]) rfl (q := 14) rfl ?_
  refine Go.aloadN X102 hx (hb hby d35_14) rfl rfl (q := 15) rfl ?_
  refine Go.iloadN X102 hx (hb hby d35_15) rfl (q := 16) rfl ?_
  refine Go.aload X102 hx (hb hby d35_16) rfl rfl (q := 18) rfl ?_
  refine Go.iconst X102 hx (hb hby d35_18) (r := (0 : Int32)) rfl (q := 19) rfl ?_
  refine Go.aloadN X102 hx (hb hby d35_19) rfl rfl (q := 20) rfl ?_
  refine Go.alen X102 hx hZ e102 Vv (hb hby d35_20) ?_
  refine Go.iloadN X102 hx (hb hby d35_21) rfl (q := 22) rfl ?_
  refine Go.isub X102 hx (hb hby d35_22) rfl (q := 23) rfl ?_
  rw [own_sub0 cp]
  show Go pp ee below _ (T102.setTop (mkF mm 23 #[.val (.ref v), .val (.int 0), .val (.int ct), .val (.int ct), .val (.ref b102)] [(.int cp), (.int 0), (.ref b102), (.int 0), (.ref v)]))
  refine Go.iloadN X102 hx (hb hby d35_23) rfl (q := 24) rfl ?_
  refine Go.callS X102 hx hZ hown (wd124 hw) (wd125 hw) (wd116 hw) (wd126 hw) (by decide) (cmin2 l Z a0 hw cp ct h102 OE102 hct.1.2) e102 (by rw [hml]; rfl) (hb hby d35_24) (argsL := [(.int cp), (.int ct)]) (rest := [(.int 0), (.ref b102), (.int 0), (.ref v)]) (lenOf pd15 rfl) rfl rfl (W := 4) (Nat.le_refl _) (by decide) ?_
  intro v103 T103 L103 X103 hQ103
  obtain ⟨rfl, N103q, e103⟩ := hQ103
  have N103 := Fr.app N101 N103q
  obtain ⟨T104, h104, L104, X104, e104, N104, K104, V104, st104⟩ := cpA X103 hx hZ hown (wd127 hw) (wd130 hw) (wd128 hw) (wd129 hw) e103 Vv V102 (us := us) (sp := (0 : Int32)) (dp := (0 : Int32)) (nn := ct) (Or.inl ⟨rfl, rfl⟩) (by decide) (by decide) hct.1.1 (own_cutA hct) (own_cutL _) hct.2.2 (own_cutB hct) N103 g_b102 (g := (mkF mm 27 #[.val (.ref v), .val (.int 0), .val (.int ct), .val (.int ct), .val (.ref b102)] [(.int ct), (.int 0), (.ref b102), (.int 0), (.ref v)])) rfl (by rw [hml]; rfl) rfl (hb hby d35_27) (by decide) (W := 0) (by show 2 * 0 + _ ≤ _; exact Nat.le_of_eq rfl) (by decide)
  refine Go.by st104 ?_
  replace Vv := Vv.keep K104 (ninS ne_v_b102 nin0)
  replace B102 := B102.keep K104
  have OK104 := ext_keep OE102 K104 (allS g_b102 all0)
  replace KP := KP.trans K104 (allS (Or.inr z_b102) all0)
  replace V104 : Arv Z h104 b102 k102 .byte ct us (.int 0) := own_cut V104
  show Go pp ee below _ (T104.setTop (mkF mm 30 #[.val (.ref v), .val (.int 0), .val (.int ct), .val (.int ct), .val (.ref b102)] []))
  refine Go.aload X104 hx (hb hby d35_30) rfl rfl (q := 32) rfl ?_
  exact Go.retA X104 hx hret hlk rfl rfl (hb hby d35_32) e104 (by decide) (by decide) ⟨b102, k102, rfl, N104, KP, z_b102, V104⟩
def Q_ccq (Z : State) (v : Addr) (cp : Int32) (kv : ClassId) (ct : Int32) (ds us : List Value) (h0 : Heap) (vR : Option Value) (hR : Heap) (LR : List Loc) : Prop := ∃ u : Addr, ∃ ku : ClassId, vR = some (.ref u) ∧ Fr Z.heap.size LR ∧ Keep h0 hR [] ∧ h0.size ≤ u ∧ Arv Z hR u ku .byte ct us (.int 0)
theorem ccq (l : Launch) (Z : State) (a0 : Array Value) (hw : ∀ d ∈ tables_1, d.before a0 Z = true) (v : Addr) (cp : Int32) (kv : ClassId) (ct : Int32) (ds us : List Value) (h0 : Heap) (O0 : Ext Z.heap h0) (Vv : Arv Z h0 v kv .byte cp ds (.int 0)) (hct : Cut ct cp ds us) :
    Ctr l Z h0 (⟨"java/util/Arrays", "copyOfRange", "([BII)[B"⟩ : MethodName) k34 3 (some (.array .byte)) [] ({ frames := 2, cells := 1, slots := 24, locals := 34 } : Room) #[(.ref v), (.int 0), (.int ct)] (Q_ccq Z v cp kv ct ds us h0) := by
  refine enter (plainFor_of_name pn6) ?_
  intro pp ee ss mm below meth cc s₁ hx hby hml hZ hown hnm hret hlk X0 e0 hs0
  replace hown : ss.vm.findClass "java/util/Arrays" = some mm.cls := hown
  refine Go.cast (congrArg s₁.setTop (ef_ccq mm v ct)) ?_
  have N0 := Fr.nil Z.heap.size
  have KP := Keep.refl h0 []
  show Go pp ee below _ (s₁.setTop (mkF mm 0 #[.val (.ref v), .val (.int 0), .val (.int ct)] []))
  refine Go.iloadN X0 hx (hb hby d34_0) rfl (q := 1) rfl ?_
  refine Go.ifNo X0 hx (hb hby d34_1) (by decide) (q := 4) rfl ?_
  refine Go.iloadN X0 hx (hb hby d34_4) rfl (q := 5) rfl ?_
  refine Go.aloadN X0 hx (hb hby d34_5) rfl rfl (q := 6) rfl ?_
  refine Go.alen X0 hx hZ e0 Vv (hb hby d34_6) ?_
  refine Go.icmpNo X0 hx (hb hby d34_7) (Jvm.Free.XT.ii_eq_f (own_cutN hct)) (q := 10) rfl ?_
  refine Go.aloadN X0 hx (hb hby d34_10) rfl rfl (q := 11) rfl ?_
  refine Go.iloadN X0 hx (hb hby d34_11) rfl (q := 12) rfl ?_
  refine Go.iloadN X0 hx (hb hby d34_12) rfl (q := 13) rfl ?_
  refine Go.callS X0 hx hZ hown (wd181 hw) (wd182 hw) (wd122 hw) (wd183 hw) (by decide) (ccqb l Z a0 hw v cp (kv) ct (ds) (us) h0 O0 Vv hct) e0 (by rw [hml]; rfl) (hb hby d34_13) (argsL := [(.ref v), (.int 0), (.int ct)]) (rest := []) (lenOf pd16 rfl) rfl rfl (W := 0) (Nat.le_refl _) (by decide) ?_
  intro v101 T101 L101 X101 hQ101
  obtain ⟨h101, e101⟩ : ∃ z, T101.heap = z := ⟨_, rfl⟩
  rw [e101] at hQ101
  obtain ⟨u_101, ku_101, rfl, N101q, K101, fr101_u, P101_0⟩ := hQ101
  have N101 := Fr.app N0 N101q
  have ne_v_u_101 : v ≠ u_101 := ne_new Vv.lt fr101_u
  have g_u_101 : Z.heap.size ≤ u_101 := Nat.le_trans O0.1 fr101_u
  have z_u_101 : h0.size ≤ u_101 := Nat.le_trans KP.1 fr101_u
  replace Vv := Vv.keep K101 nin0
  have OK101 := ext_keep O0 K101 all0
  replace KP := KP.trans K101 all0
  exact Go.retA X101 hx hret hlk rfl rfl (hb hby d34_16) e101 (by decide) (by decide) ⟨u_101, ku_101, rfl, N101, KP, z_u_101, P101_0⟩
def Q_cia (Z : State) (t o v : Addr) (cs cp : Int32) (kv : ClassId) (ct : Int32) (ds us : List Value) (h0 : Heap) (vR : Option Value) (hR : Heap) (LR : List Loc) : Prop := ∃ u : Addr, ∃ ku : ClassId, vR = none ∧ Fr Z.heap.size LR ∧ Keep h0 hR [t] ∧ h0.size ≤ u ∧ Fld Z hR t xS0 "value" "[B" (.ref u) ∧ Fld Z hR t xS0 "coder" "B" (.int 0) ∧ Arv Z hR u ku .byte ct us (.int 0)
theorem cia (l : Launch) (Z : State) (a0 : Array Value) (hw : ∀ d ∈ tables_1, d.before a0 Z = true) (t o v : Addr) (cs cp : Int32) (kv : ClassId) (ct : Int32) (ds us : List Value) (h0 : Heap) (O0 : Ext Z.heap h0) (Es : Exa Z h0 t xS0) (Fs : Fld Z h0 t xS0 "value" "[B" .null) (Cs : Fld Z h0 t xS0 "coder" "B" (.int 0)) (g_t : Z.heap.size ≤ t) (nto : t ≠ o) (Eo : Exa Z h0 o xS4) (F0 : Fld Z h0 o xS1 "value" "[B" (.ref v)) (F1 : Fld Z h0 o xS1 "coder" "B" (.int 0)) (F2 : Fld Z h0 o xS1 "count" "I" (.int ct)) (Vv : Arv Z h0 v kv .byte cp ds (.int 0)) (ntv : t ≠ v) (SCS : Sta Z Z.heap xS0 xS3 "Z" (.int cs)) (hcs : ¬ (cs = (0 : Int32))) (hct : Cut ct cp ds us) :
    Ctr l Z h0 (⟨xS0, "<init>", "(Ljava/lang/AbstractStringBuilder;Ljava/lang/Void;)V"⟩ : MethodName) k29 5 none [] ({ frames := 3, cells := 1, slots := 24, locals := 49 } : Room) #[(.ref t), (.ref o), .null] (Q_cia Z t o v cs cp kv ct ds us h0) := by
  refine enter (plainFor_of_name pn0) ?_
  intro pp ee ss mm below meth cc s₁ hx hby hml hZ hown hnm hret hlk X0 e0 hs0
  replace hown : ss.vm.findClass xS0 = some mm.cls := hown
  refine Go.cast (congrArg s₁.setTop (ef_cia mm t o)) ?_
  have N0 := Fr.nil Z.heap.size
  have KP := Keep.refl h0 [t]
  show Go pp ee below _ (s₁.setTop (mkF mm 0 #[.val (.ref t), .val (.ref o), .val .null, .unset, .unset] []))
  refine Go.aloadN X0 hx (hb hby d29_0) rfl rfl (q := 1) rfl ?_
  refine Go.initO X0 hx hZ hown (wd15 hw) (wd16 hw) (wd17 hw) e0 (by rw [hml]; rfl) (hb hby d29_1) (by decide) (W := 0) (by exact Nat.le_refl _) (by decide) (q := 4) rfl ?_
  intro T101 X101 e101
  refine Go.aloadN X101 hx (hb hby d29_4) rfl rfl (q := 5) rfl ?_
  refine Go.virt X101 hx hZ hown (wd160 hw) (wd161 hw) (notFace_of_selects (args := #[]) (mvT hZ (wd163 hw))) (wd163 hw) (wd162 hw) (wd78 hw) (wd164 hw) (by decide) (cgva l Z a0 hw o v h0 O0 F0) e101 Eo (by rw [hml]; rfl) (hb hby d29_5) (argsL := []) (rest := []) (lenOf pd17 rfl) rfl rfl (W := 0) (Nat.le_refl _) (by decide) ?_
  intro v102 T102 L102 X102 hQ102
  obtain ⟨rfl, N102q, e102⟩ := hQ102
  have N102 := Fr.app N0 N102q
  refine Go.astoreN X102 hx (hb hby d29_8) rfl (l' := #[.val (.ref t), .val (.ref o), .val .null, .val (.ref v), .unset]) rfl (q := 9) rfl ?_
  refine Go.aloadN X102 hx (hb hby d29_9) rfl rfl (q := 10) rfl ?_
  refine Go.virt X102 hx hZ hown (wd165 hw) (wd166 hw) (own_nf (args := #[]) (mvT hZ (wd103 hw)) rfl) (wd168 hw) (wd169 hw) (wd70 hw) (wd170 hw) (by decide) (clnb l Z a0 hw o ct h0 O0 Eo F2) e102 Eo (by rw [hml]; rfl) (hb hby d29_10) (argsL := []) (rest := []) (lenOf pd6 rfl) rfl rfl (W := 0) (Nat.le_refl _) (by decide) ?_
  intro v103 T103 L103 X103 hQ103
  obtain ⟨rfl, N103q, e103⟩ := hQ103
  have N103 := Fr.app N102 N103q
  refine Go.istore X103 hx (hb hby d29_13) (l' := #[.val (.ref t), .val (.ref o), .val .null, .val (.ref v), .val (.int ct)]) rfl (q := 15) rfl ?_
  refine Go.aloadN X103 hx (hb hby d29_15) rfl rfl (q := 16) rfl ?_
  refine Go.virt X103 hx hZ hown (wd173 hw) (wd174 hw) (notFace_of_selects (args := #[]) (mvT hZ (wd176 hw))) (wd176 hw) (wd175 hw) (wd78 hw) (wd177 hw) (by decide) (csbl l Z a0 hw o cs h0 O0 F1 SCS hcs) e103 Eo (by rw [hml]; rfl) (hb hby d29_16) (argsL := []) (rest := []) (lenOf pd18 rfl) rfl rfl (W := 0) (Nat.le_refl _) (by decide) ?_
  intro v104 T104 L104 X104 hQ104
  obtain ⟨rfl, N104q, e104⟩ := hQ104
  have N104 := Fr.app N103 N104q
  refine Go.ifNo X104 hx (hb hby d29_19) (by decide) (q := 22) rfl ?_
  refine Go.aloadN X104 hx (hb hby d29_22) rfl rfl (q := 23) rfl ?_
  refine Go.iconst X104 hx (hb hby d29_23) (r := (0 : Int32)) rfl (q := 24) rfl ?_
  refine Go.putF X104 hx hZ hown (host := "") (Or.inl (wd25 hw)) Via.refl e104 Cs Es (Or.inr ⟨(wd21 hw), rfl, hnm⟩) (wd5 hw) (ty := .byte) (by decide) rfl rfl (hb hby d29_24) (q := 27) rfl ?_
  intro T105 h105 X105 e105 W105 F105
  have N105 := Fr.snoc X105 N104 g_t
  replace Es := Es.wr W105
  replace Fs := Fs.other W105 (Or.inr (slot_ne (Or.inr (wd20 hw)) (Or.inr (wd21 hw)) (by decide) (t := (.array .byte)) (t' := .byte) (by decide) (by decide)))
  replace Eo := Eo.wr W105
  replace F0 := F0.other W105 (Or.inl (Ne.symm nto))
  replace F1 := F1.other W105 (Or.inl (Ne.symm nto))
  replace F2 := F2.other W105 (Or.inl (Ne.symm nto))
  replace Vv := Vv.other W105 (Ne.symm ntv)
  have OW105 := ext_wr O0 W105 g_t
  replace KP := KP.wr W105 (Or.inl (List.mem_of_getElem? (i := 0) rfl))
  refine Go.aloadN X105 hx (hb hby d29_27) rfl rfl (q := 28) rfl ?_
  refine Go.aloadN X105 hx (hb hby d29_28) rfl rfl (q := 29) rfl ?_
  refine Go.iconst X105 hx (hb hby d29_29) (r := (0 : Int32)) rfl (q := 30) rfl ?_
  refine Go.iload X105 hx (hb hby d29_30) rfl (q := 32) rfl ?_
  refine Go.callS X105 hx hZ hown (wd178 hw) (wd179 hw) (wd122 hw) (wd180 hw) (by decide) (ccq l Z a0 hw v cp (kv) ct (ds) (us) h105 OW105 Vv hct) e105 (by rw [hml]; rfl) (hb hby d29_32) (argsL := [(.ref v), (.int 0), (.int ct)]) (rest := [(.ref t)]) (lenOf pd16 rfl) rfl rfl (W := 1) (Nat.le_refl _) (by decide) ?_
  intro v106 T106 L106 X106 hQ106
  obtain ⟨h106, e106⟩ : ∃ z, T106.heap = z := ⟨_, rfl⟩
  rw [e106] at hQ106
  obtain ⟨u_106, ku_106, rfl, N106q, K106, fr106_u, P106_0⟩ := hQ106
  have N106 := Fr.app N105 N106q
  have ne_t_u_106 : t ≠ u_106 := ne_new Es.lt fr106_u
  have ne_o_u_106 : o ≠ u_106 := ne_new Eo.lt fr106_u
  have ne_v_u_106 : v ≠ u_106 := ne_new Vv.lt fr106_u
  have g_u_106 : Z.heap.size ≤ u_106 := Nat.le_trans OW105.1 fr106_u
  have z_u_106 : h0.size ≤ u_106 := Nat.le_trans KP.1 fr106_u
  replace Es := Es.keep K106
  replace Fs := Fs.keep K106 nin0
  replace Eo := Eo.keep K106
  replace F0 := F0.keep K106 nin0
  replace F1 := F1.keep K106 nin0
  replace F2 := F2.keep K106 nin0
  replace Vv := Vv.keep K106 nin0
  replace F105 := F105.keep K106 nin0
  have OK106 := ext_keep OW105 K106 all0
  replace KP := KP.trans K106 all0
  refine Go.putF X106 hx hZ hown (host := "") (Or.inl (wd24 hw)) Via.refl e106 Fs Es (Or.inr ⟨(wd20 hw), rfl, hnm⟩) (wd5 hw) (ty := (.array .byte)) (by decide) rfl rfl (hb hby d29_35) (q := 38) rfl ?_
  intro T107 h107 X107 e107 W107 F107
  have N107 := Fr.snoc X107 N106 g_t
  replace Es := Es.wr W107
  replace Eo := Eo.wr W107
  replace F0 := F0.other W107 (Or.inl (Ne.symm nto))
  replace F1 := F1.other W107 (Or.inl (Ne.symm nto))
  replace F2 := F2.other W107 (Or.inl (Ne.symm nto))
  replace Vv := Vv.other W107 (Ne.symm ntv)
  replace F105 := F105.other W107 (Or.inr (slot_ne (Or.inr (wd21 hw)) (Or.inr (wd20 hw)) (by decide) (t := .byte) (t' := (.array .byte)) (by decide) (by decide)))
  replace P106_0 := P106_0.other W107 (Ne.symm ne_t_u_106)
  have OW107 := ext_wr OK106 W107 g_t
  replace KP := KP.wr W107 (Or.inl (List.mem_of_getElem? (i := 0) rfl))
  refine Go.goto X107 hx (hb hby d29_38) (q := 97) (by decide) (by decide) ?_
  exact Go.retV X107 hx hret hlk (hb hby d29_97) e107 (by decide) (by decide) ⟨u_106, ku_106, rfl, N107, KP, z_u_106, F107, F105, P106_0⟩
def Q_cib (Z : State) (t o v : Addr) (cs cp : Int32) (kv : ClassId) (ct : Int32) (ds us : List Value) (h0 : Heap) (vR : Option Value) (hR : Heap) (LR : List Loc) : Prop := ∃ u : Addr, ∃ ku : ClassId, vR = none ∧ Fr Z.heap.size LR ∧ Keep h0 hR [t] ∧ h0.size ≤ u ∧ Fld Z hR t xS0 "value" "[B" (.ref u) ∧ Fld Z hR t xS0 "coder" "B" (.int 0) ∧ Arv Z hR u ku .byte ct us (.int 0)
theorem cib (l : Launch) (Z : State) (a0 : Array Value) (hw : ∀ d ∈ tables_1, d.before a0 Z = true) (t o v : Addr) (cs cp : Int32) (kv : ClassId) (ct : Int32) (ds us : List Value) (h0 : Heap) (O0 : Ext Z.heap h0) (Es : Exa Z h0 t xS0) (Fs : Fld Z h0 t xS0 "value" "[B" .null) (Cs : Fld Z h0 t xS0 "coder" "B" (.int 0)) (g_t : Z.heap.size ≤ t) (nto : t ≠ o) (Eo : Exa Z h0 o xS4) (F0 : Fld Z h0 o xS1 "value" "[B" (.ref v)) (F1 : Fld Z h0 o xS1 "coder" "B" (.int 0)) (F2 : Fld Z h0 o xS1 "count" "I" (.int ct)) (Vv : Arv Z h0 v kv .byte cp ds (.int 0)) (ntv : t ≠ v) (SCS : Sta Z Z.heap xS0 xS3 "Z" (.int cs)) (hcs : ¬ (cs = (0 : Int32))) (hct : Cut ct cp ds us) :
    Ctr l Z h0 (⟨xS0, "<init>", "(Ljava/lang/StringBuilder;)V"⟩ : MethodName) k28 2 none [] ({ frames := 4, cells := 1, slots := 24, locals := 65 } : Room) #[(.ref t), (.ref o)] (Q_cib Z t o v cs cp kv ct ds us h0) := by
  refine enter (plainFor_of_name pn0) ?_
  intro pp ee ss mm below meth cc s₁ hx hby hml hZ hown hnm hret hlk X0 e0 hs0
  replace hown : ss.vm.findClass xS0 = some mm.cls := hown
  refine Go.cast (congrArg s₁.setTop (ef_cib mm t o)) ?_
  have N0 := Fr.nil Z.heap.size
  have KP := Keep.refl h0 [t]
  show Go pp ee below _ (s₁.setTop (mkF mm 0 #[.val (.ref t), .val (.ref o)] []))
  refine Go.aloadN X0 hx (hb hby d28_0) rfl rfl (q := 1) rfl ?_
  refine Go.aloadN X0 hx (hb hby d28_1) rfl rfl (q := 2) rfl ?_
  refine Go.aconst_null X0 hx (hb hby d28_2) (q := 3) rfl ?_
  refine Go.init X0 hx hZ hown rfl (wd157 hw) (wd158 hw) (wd6 hw) (wd159 hw) (by decide) (cia l Z a0 hw t o v cs cp (kv) ct (ds) (us) h0 O0 Es Fs Cs g_t nto Eo F0 F1 F2 Vv ntv SCS hcs hct) e0 (by rw [hml]; rfl) (hb hby d28_3) (argsL := [(.ref o), .null]) (rest := []) (lenOf pd19 rfl) rfl rfl (W := 0) (Nat.le_refl _) (by decide) ?_
  intro v101 T101 L101 X101 hQ101
  obtain ⟨h101, e101⟩ : ∃ z, T101.heap = z := ⟨_, rfl⟩
  rw [e101] at hQ101
  obtain ⟨u_101, ku_101, rfl, N101q, K101, fr101_u, P101_0, P101_1, P101_2⟩ := hQ101
  have N101 := Fr.app N0 N101q
  have ne_t_u_101 : t ≠ u_101 := ne_new Es.lt fr101_u
  have ne_o_u_101 : o ≠ u_101 := ne_new Eo.lt fr101_u
  have ne_v_u_101 : v ≠ u_101 := ne_new Vv.lt fr101_u
  have g_u_101 : Z.heap.size ≤ u_101 := Nat.le_trans O0.1 fr101_u
  have z_u_101 : h0.size ≤ u_101 := Nat.le_trans KP.1 fr101_u
  replace Es := Es.keep K101
  replace Eo := Eo.keep K101
  replace F0 := F0.keep K101 (ninS (Ne.symm nto) nin0)
  replace F1 := F1.keep K101 (ninS (Ne.symm nto) nin0)
  replace F2 := F2.keep K101 (ninS (Ne.symm nto) nin0)
  replace Vv := Vv.keep K101 (ninS (Ne.symm ntv) nin0)
  have OK101 := ext_keep O0 K101 (allS g_t all0)
  replace KP := KP.trans K101 (allS (Or.inl (List.mem_of_getElem? (i := 0) rfl)) all0)
  exact Go.retV X101 hx hret hlk (hb hby d28_6) e101 (by decide) (by decide) ⟨u_101, ku_101, rfl, N101, KP, z_u_101, P101_0, P101_1, P101_2⟩
def Q_cts (Z : State) (o v : Addr) (cs cp : Int32) (kv : ClassId) (ct : Int32) (ds us : List Value) (h0 : Heap) (vR : Option Value) (hR : Heap) (LR : List Loc) : Prop := ∃ t : Addr, ∃ u : Addr, ∃ ku : ClassId, vR = some (.ref t) ∧ Fr Z.heap.size LR ∧ Keep h0 hR [] ∧ h0.size ≤ t ∧ h0.size ≤ u ∧ Exa Z hR t xS0 ∧ Fld Z hR t xS0 "value" "[B" (.ref u) ∧ Fld Z hR t xS0 "coder" "B" (.int 0) ∧ Arv Z hR u ku .byte ct us (.int 0)
theorem cts (l : Launch) (Z : State) (a0 : Array Value) (hw : ∀ d ∈ tables_1, d.before a0 Z = true) (o v : Addr) (cs cp : Int32) (kv : ClassId) (ct : Int32) (ds us : List Value) (h0 : Heap) (O0 : Ext Z.heap h0) (Eo : Exa Z h0 o xS4) (F0 : Fld Z h0 o xS1 "value" "[B" (.ref v)) (F1 : Fld Z h0 o xS1 "coder" "B" (.int 0)) (F2 : Fld Z h0 o xS1 "count" "I" (.int ct)) (Vv : Arv Z h0 v kv .byte cp ds (.int 0)) (SCS : Sta Z Z.heap xS0 xS3 "Z" (.int cs)) (hcs : ¬ (cs = (0 : Int32))) (hct : Cut ct cp ds us) :
    Ctr l Z h0 (⟨xS4, "toString", "()Ljava/lang/String;"⟩ : MethodName) k27 1 (some (.object xS0)) [] ({ frames := 5, cells := 2, slots := 28, locals := 79 } : Room) #[(.ref o)] (Q_cts Z o v cs cp kv ct ds us h0) := by
  refine enter (plainFor_of_name pn5) ?_
  intro pp ee ss mm below meth cc s₁ hx hby hml hZ hown hnm hret hlk X0 e0 hs0
  replace hown : ss.vm.findClass xS4 = some mm.cls := hown
  refine Go.cast (congrArg s₁.setTop (ef_cts mm o)) ?_
  have N0 := Fr.nil Z.heap.size
  have KP := Keep.refl h0 []
  show Go pp ee below _ (s₁.setTop (mkF mm 0 #[.val (.ref o)] []))
  refine Go.newO X0 hx hZ hown (wd153 hw) (wd5 hw) (wd6 hw) e0 (hb hby d27_0) (by decide) (by decide) (q := 3) rfl ?_
  intro b101 T101 h101 X101 e101 q101 E101 A101 D101 U101
  have ne_o_b101 : o ≠ b101 := ne_new Eo.lt (Nat.le_of_eq q101)
  have ne_v_b101 : v ≠ b101 := ne_new Vv.lt (Nat.le_of_eq q101)
  have g_b101 : Z.heap.size ≤ b101 := Nat.le_trans O0.1 (Nat.le_of_eq q101)
  have z_b101 : h0.size ≤ b101 := Nat.le_trans KP.1 (Nat.le_of_eq q101)
  replace Eo := Eo.ext E101
  replace F0 := F0.ext E101
  replace F1 := F1.ext E101
  replace F2 := F2.ext E101
  replace Vv := Vv.ext E101
  have OE101 := ext_trans O0 E101
  replace KP := KP.ext E101
  have F101_value : Fld Z h101 b101 xS0 "value" "[B" .null := D101 (Or.inr (wd20 hw)) (ty := (.array .byte)) (by decide)
  have F101_coder : Fld Z h101 b101 xS0 "coder" "B" (.int 0) := D101 (Or.inr (wd21 hw)) (ty := .byte) (by decide)
  clear D101
  refine Go.dup X101 hx (hb hby d27_3) rfl (q := 4) rfl ?_
  refine Go.aloadN X101 hx (hb hby d27_4) rfl rfl (q := 5) rfl ?_
  refine Go.init X101 hx hZ hown rfl (wd154 hw) (wd155 hw) (wd6 hw) (wd156 hw) (by decide) (cib l Z a0 hw b101 o v cs cp (kv) ct (ds) (us) h101 OE101 A101 F101_value F101_coder g_b101 (Ne.symm ne_o_b101) Eo F0 F1 F2 Vv (Ne.symm ne_v_b101) SCS hcs hct) e101 (by rw [hml]; rfl) (hb hby d27_5) (argsL := [(.ref o)]) (rest := [(.ref b101)]) (lenOf pd20 rfl) rfl rfl (W := 1) (Nat.le_refl _) (by decide) ?_
  intro v102 T102 L102 X102 hQ102
  obtain ⟨h102, e102⟩ : ∃ z, T102.heap = z := ⟨_, rfl⟩
  rw [e102] at hQ102
  obtain ⟨u_102, ku_102, rfl, N102q, K102, fr102_u, P102_0, P102_1, P102_2⟩ := hQ102
  have N102 := Fr.app N0 N102q
  have ne_o_u_102 : o ≠ u_102 := ne_new Eo.lt fr102_u
  have ne_v_u_102 : v ≠ u_102 := ne_new Vv.lt fr102_u
  have ne_b101_u_102 : b101 ≠ u_102 := ne_new A101.lt fr102_u
  have g_u_102 : Z.heap.size ≤ u_102 := Nat.le_trans OE101.1 fr102_u
  have z_u_102 : h0.size ≤ u_102 := Nat.le_trans KP.1 fr102_u
  replace Eo := Eo.keep K102
  replace F0 := F0.keep K102 (ninS ne_o_b101 nin0)
  replace F1 := F1.keep K102 (ninS ne_o_b101 nin0)
  replace F2 := F2.keep K102 (ninS ne_o_b101 nin0)
  replace Vv := Vv.keep K102 (ninS ne_v_b101 nin0)
  replace A101 := A101.keep K102
  have OK102 := ext_keep OE101 K102 (allS g_b101 all0)
  replace KP := KP.trans K102 (allS (Or.inr z_b101) all0)
  exact Go.retA X102 hx hret hlk rfl rfl (hb hby d27_8) e102 (by decide) (by decide) ⟨b101, u_102, ku_102, rfl, N102, KP, z_b101, z_u_102, A101, P102_0, P102_1, P102_2⟩
def Q_cmax (Z : State) (pa pb : Int32) (h0 : Heap) (vR : Option Value) (hR : Heap) (LR : List Loc) : Prop := vR = some (.int pb) ∧ Fr Z.heap.size LR ∧ hR = h0
theorem cmax (l : Launch) (Z : State) (a0 : Array Value) (hw : ∀ d ∈ tables_1, d.before a0 Z = true) (pa pb : Int32) (h0 : Heap) (O0 : Ext Z.heap h0) (h : pa < pb) :
    Ctr l Z h0 (⟨"java/lang/Math", "max", "(II)I"⟩ : MethodName) k21 2 (some .int) [] ({ frames := 0, cells := 0, slots := 0, locals := 0 } : Room) #[(.int pa), (.int pb)] (Q_cmax Z pa pb h0) := by
  refine enter (Jvm.Free.JP.mathPlain rfl (by decide +kernel)) ?_
  intro pp ee ss mm below meth cc s₁ hx hby hml hZ hown hnm hret hlk X0 e0 hs0
  replace hown : ss.vm.findClass "java/lang/Math" = some mm.cls := hown
  refine Go.cast (congrArg s₁.setTop (ef_cmax mm pa pb)) ?_
  have N0 := Fr.nil Z.heap.size
  show Go pp ee below _ (s₁.setTop (mkF mm 0 #[.val (.int pa), .val (.int pb)] []))
  refine Go.iloadN X0 hx (hb hby d21_0) rfl (q := 1) rfl ?_
  refine Go.iloadN X0 hx (hb hby d21_1) rfl (q := 2) rfl ?_
  refine Go.icmpYes X0 hx (hb hby d21_2) (Jvm.Free.XT.ii_lt_t h) (q := 9) (by decide) (by decide) ?_
  refine Go.iloadN X0 hx (hb hby d21_9) rfl (q := 10) rfl ?_
  exact Go.retI X0 hx hret hlk (Or.inl rfl) rfl (hb hby d21_10) e0 (by decide) (by decide) ⟨rfl, N0, rfl⟩
def Q_cnlen (Z : State) (h0 : Heap) (vR : Option Value) (hR : Heap) (LR : List Loc) : Prop := vR = some (.int 34) ∧ Fr Z.heap.size LR ∧ hR = h0
theorem cnlen (l : Launch) (Z : State) (a0 : Array Value) (hw : ∀ d ∈ tables_1, d.before a0 Z = true) (h0 : Heap) (O0 : Ext Z.heap h0) :
    Ctr l Z h0 (⟨"jdk/internal/util/ArraysSupport", "newLength", "(III)I"⟩ : MethodName) k20 4 (some .int) [] ({ frames := 1, cells := 0, slots := 0, locals := 14 } : Room) #[(.int 16), (.int 4), (.int 18)] (Q_cnlen Z h0) := by
  refine enter (plainFor_of_name pn3) ?_
  intro pp ee ss mm below meth cc s₁ hx hby hml hZ hown hnm hret hlk X0 e0 hs0
  replace hown : ss.vm.findClass "jdk/internal/util/ArraysSupport" = some mm.cls := hown
  refine Go.cast (congrArg s₁.setTop (ef_cnlen mm)) ?_
  have N0 := Fr.nil Z.heap.size
  show Go pp ee below _ (s₁.setTop (mkF mm 0 #[.val (.int 16), .val (.int 4), .val (.int 18), .unset] []))
  refine Go.iloadN X0 hx (hb hby d20_0) rfl (q := 1) rfl ?_
  refine Go.iloadN X0 hx (hb hby d20_1) rfl (q := 2) rfl ?_
  refine Go.iloadN X0 hx (hb hby d20_2) rfl (q := 3) rfl ?_
  refine Go.callS X0 hx hZ hown (wd114 hw) (wd115 hw) (wd116 hw) (wd117 hw) (by decide) (cmax l Z a0 hw ((4 : Int32)) ((18 : Int32)) h0 O0 (by decide)) e0 (by rw [hml]; rfl) (hb hby d20_3) (argsL := [(.int 4), (.int 18)]) (rest := [(.int 16)]) (lenOf pd15 rfl) rfl rfl (W := 1) (Nat.le_refl _) (by decide) ?_
  intro v101 T101 L101 X101 hQ101
  obtain ⟨rfl, N101q, e101⟩ := hQ101
  have N101 := Fr.app N0 N101q
  refine Go.iadd X101 hx (hb hby d20_6) (r := (34 : Int32)) rfl (q := 7) rfl ?_
  refine Go.istoreN X101 hx (hb hby d20_7) (l' := #[.val (.int 16), .val (.int 4), .val (.int 18), .val (.int 34)]) rfl (q := 8) rfl ?_
  refine Go.iconst X101 hx (hb hby d20_8) (r := (0 : Int32)) rfl (q := 9) rfl ?_
  refine Go.iloadN X101 hx (hb hby d20_9) rfl (q := 10) rfl ?_
  refine Go.icmpNo X101 hx (hb hby d20_10) (by decide) (q := 13) rfl ?_
  refine Go.iloadN X101 hx (hb hby d20_13) rfl (q := 14) rfl ?_
  refine Go.ldcI X101 hx hZ hown (wd118 hw) (hb hby d20_14) (q := 16) rfl ?_
  refine Go.icmpNo X101 hx (hb hby d20_16) (by decide) (q := 19) rfl ?_
  refine Go.iloadN X101 hx (hb hby d20_19) rfl (q := 20) rfl ?_
  exact Go.retI X101 hx hret hlk (Or.inl rfl) rfl (hb hby d20_20) e101 (by decide) (by decide) ⟨rfl, N101, rfl⟩
def Q_cncap (Z : State) (o v : Addr) (kv : ClassId) (h0 : Heap) (vR : Option Value) (hR : Heap) (LR : List Loc) : Prop := vR = some (.int 34) ∧ Fr Z.heap.size LR ∧ hR = h0
theorem cncap (l : Launch) (Z : State) (a0 : Array Value) (hw : ∀ d ∈ tables_1, d.before a0 Z = true) (o v : Addr) (kv : ClassId) (h0 : Heap) (O0 : Ext Z.heap h0) (F0 : Fld Z h0 o xS1 "value" "[B" (.ref v)) (F1 : Fld Z h0 o xS1 "coder" "B" (.int 0)) (F2 : Fld Z h0 o xS1 "count" "I" (.int 0)) (Vv : Arv Z h0 v kv .byte (16 : Int32) [(.int 0), (.int 0), (.int 0), (.int 0), (.int 0), (.int 0), (.int 0), (.int 0), (.int 0), (.int 0), (.int 0), (.int 0), (.int 0), (.int 0), (.int 0), (.int 0)] (.int 0)) :
    Ctr l Z h0 (⟨xS1, "newCapacity", "(I)I"⟩ : MethodName) k19 6 (some .int) [] ({ frames := 2, cells := 0, slots := 0, locals := 29 } : Room) #[(.ref o), (.int 20)] (Q_cncap Z o v kv h0) := by
  refine enter (plainFor_of_name pn4) ?_
  intro pp ee ss mm below meth cc s₁ hx hby hml hZ hown hnm hret hlk X0 e0 hs0
  replace hown : ss.vm.findClass xS1 = some mm.cls := hown
  refine Go.cast (congrArg s₁.setTop (ef_cncap mm o)) ?_
  have N0 := Fr.nil Z.heap.size
  show Go pp ee below _ (s₁.setTop (mkF mm 0 #[.val (.ref o), .val (.int 20), .unset, .unset, .unset, .unset] []))
  refine Go.aloadN X0 hx (hb hby d19_0) rfl rfl (q := 1) rfl ?_
  refine Go.getF X0 hx hZ hown (host := "") (Or.inl (wd82 hw)) Via.refl e0 F0 (hb hby d19_1) (q := 4) rfl ?_
  intro T101 X101 e101
  refine Go.alen X101 hx hZ e101 Vv (hb hby d19_4) ?_
  refine Go.istoreN X101 hx (hb hby d19_5) (l' := #[.val (.ref o), .val (.int 20), .val (.int 16), .unset, .unset, .unset]) rfl (q := 6) rfl ?_
  refine Go.iloadN X101 hx (hb hby d19_6) rfl (q := 7) rfl ?_
  refine Go.aloadN X101 hx (hb hby d19_7) rfl rfl (q := 8) rfl ?_
  refine Go.getF X101 hx hZ hown (host := "") (Or.inl (wd84 hw)) Via.refl e101 F1 (hb hby d19_8) (q := 11) rfl ?_
  intro T102 X102 e102
  refine Go.ishl X102 hx (hb hby d19_11) (r := (20 : Int32)) rfl (q := 12) rfl ?_
  refine Go.istoreN X102 hx (hb hby d19_12) (l' := #[.val (.ref o), .val (.int 20), .val (.int 16), .val (.int 20), .unset, .unset]) rfl (q := 13) rfl ?_
  refine Go.iloadN X102 hx (hb hby d19_13) rfl (q := 14) rfl ?_
  refine Go.iloadN X102 hx (hb hby d19_14) rfl (q := 15) rfl ?_
  refine Go.isub X102 hx (hb hby d19_15) (r := (4 : Int32)) rfl (q := 16) rfl ?_
  refine Go.istore X102 hx (hb hby d19_16) (l' := #[.val (.ref o), .val (.int 20), .val (.int 16), .val (.int 20), .val (.int 4), .unset]) rfl (q := 18) rfl ?_
  refine Go.iloadN X102 hx (hb hby d19_18) rfl (q := 19) rfl ?_
  refine Go.iload X102 hx (hb hby d19_19) rfl (q := 21) rfl ?_
  refine Go.iloadN X102 hx (hb hby d19_21) rfl (q := 22) rfl ?_
  refine Go.iconst X102 hx (hb hby d19_22) (r := (2 : Int32)) rfl (q := 23) rfl ?_
  refine Go.aloadN X102 hx (hb hby d19_23) rfl rfl (q := 24) rfl ?_
  refine Go.getF X102 hx hZ hown (host := "") (Or.inl (wd84 hw)) Via.refl e102 F1 (hb hby d19_24) (q := 27) rfl ?_
  intro T103 X103 e103
  refine Go.ishl X103 hx (hb hby d19_27) (r := (2 : Int32)) rfl (q := 28) rfl ?_
  refine Go.iadd X103 hx (hb hby d19_28) (r := (18 : Int32)) rfl (q := 29) rfl ?_
  refine Go.callS X103 hx hZ hown (wd110 hw) (wd111 hw) (wd112 hw) (wd113 hw) (by decide) (cnlen l Z a0 hw h0 O0) e103 (by rw [hml]; rfl) (hb hby d19_29) (argsL := [(.int 16), (.int 4), (.int 18)]) (rest := []) (lenOf pd21 rfl) rfl rfl (W := 0) (Nat.le_refl _) (by decide) ?_
  intro v104 T104 L104 X104 hQ104
  obtain ⟨rfl, N104q, e104⟩ := hQ104
  have N104 := Fr.app N0 N104q
  refine Go.istore X104 hx (hb hby d19_32) (l' := #[.val (.ref o), .val (.int 20), .val (.int 16), .val (.int 20), .val (.int 4), .val (.int 34)]) rfl (q := 34) rfl ?_
  refine Go.iload X104 hx (hb hby d19_34) rfl (q := 36) rfl ?_
  refine Go.ldcI X104 hx hZ hown (wd119 hw) (hb hby d19_36) (q := 38) rfl ?_
  refine Go.icmpYes X104 hx (hb hby d19_38) (by decide) (q := 51) (by decide) (by decide) ?_
  refine Go.iload X104 hx (hb hby d19_51) rfl (q := 53) rfl ?_
  refine Go.aloadN X104 hx (hb hby d19_53) rfl rfl (q := 54) rfl ?_
  refine Go.getF X104 hx hZ hown (host := "") (Or.inl (wd84 hw)) Via.refl e104 F1 (hb hby d19_54) (q := 57) rfl ?_
  intro T105 X105 e105
  refine Go.ishr X105 hx (hb hby d19_57) (r := (34 : Int32)) rfl (q := 58) rfl ?_
  exact Go.retI X105 hx hret hlk (Or.inl rfl) rfl (hb hby d19_58) e105 (by decide) (by decide) ⟨rfl, N104, rfl⟩
def Q_ccpo (Z : State) (v : Addr) (kv : ClassId) (h0 : Heap) (vR : Option Value) (hR : Heap) (LR : List Loc) : Prop := ∃ u : Addr, ∃ ku : ClassId, vR = some (.ref u) ∧ Fr Z.heap.size LR ∧ Keep h0 hR [] ∧ h0.size ≤ u ∧ Arv Z hR u ku .byte (34 : Int32) [(.int 0), (.int 0), (.int 0), (.int 0), (.int 0), (.int 0), (.int 0), (.int 0), (.int 0), (.int 0), (.int 0), (.int 0), (.int 0), (.int 0), (.int 0), (.int 0), (.int 0), (.int 0), (.int 0), (.int 0), (.int 0), (.int 0), (.int 0)] (.int 0)
theorem ccpo (l : Launch) (Z : State) (a0 : Array Value) (hw : ∀ d ∈ tables_1, d.before a0 Z = true) (v : Addr) (kv : ClassId) (h0 : Heap) (O0 : Ext Z.heap h0) (Vv : Arv Z h0 v kv .byte (16 : Int32) [(.int 0), (.int 0), (.int 0), (.int 0), (.int 0), (.int 0), (.int 0), (.int 0), (.int 0), (.int 0), (.int 0), (.int 0), (.int 0), (.int 0), (.int 0), (.int 0)] (.int 0)) :
    Ctr l Z h0 (⟨"java/util/Arrays", "copyOf", "([BI)[B"⟩ : MethodName) k22 3 (some (.array .byte)) [] ({ frames := 1, cells := 1, slots := 34, locals := 18 } : Room) #[(.ref v), (.int 34)] (Q_ccpo Z v kv h0) := by
  refine enter (plainFor_of_name pn6) ?_
  intro pp ee ss mm below meth cc s₁ hx hby hml hZ hown hnm hret hlk X0 e0 hs0
  replace hown : ss.vm.findClass "java/util/Arrays" = some mm.cls := hown
  refine Go.cast (congrArg s₁.setTop (ef_ccpo mm v)) ?_
  have N0 := Fr.nil Z.heap.size
  have KP := Keep.refl h0 []
  show Go pp ee below _ (s₁.setTop (mkF mm 0 #[.val (.ref v), .val (.int 34), .unset] []))
  refine Go.iloadN X0 hx (hb hby d22_0) rfl (q := 1) rfl ?_
  refine Go.aloadN X0 hx (hb hby d22_1) rfl rfl (q := 2) rfl ?_
  refine Go.alen X0 hx hZ e0 Vv (hb hby d22_2) ?_
  refine Go.icmpYes X0 hx (hb hby d22_3) (by decide) (q := 14) (by decide) (by decide) ?_
  refine Go.iloadN X0 hx (hb hby d22_14) rfl (q := 15) rfl ?_
  refine Go.newP X0 hx hZ (hb hby d22_15) (wd19 hw) e0 (by decide) (cap := 34) (by decide) (by decide) (by decide) (by decide) (ad := "[B") rfl (q := 17) rfl ?_
  intro b101 T101 h101 k101 X101 e101 q101 E101 V101 B101
  have ne_v_b101 : v ≠ b101 := ne_new Vv.lt (Nat.le_of_eq q101)
  have g_b101 : Z.heap.size ≤ b101 := Nat.le_trans O0.1 (Nat.le_of_eq q101)
  have z_b101 : h0.size ≤ b101 := Nat.le_trans KP.1 (Nat.le_of_eq q101)
  replace Vv := Vv.ext E101
  have OE101 := ext_trans O0 E101
  replace KP := KP.ext E101
  replace V101 : Arv Z h101 b101 k101 .byte (34 : Int32) [(.int 0), (.int 0), (.int 0), (.int 0), (.int 0), (.int 0), (.int 0), (.int 0), (.int 0), (.int 0), (.int 0), (.int 0), (.int 0), (.int 0), (.int 0), (.int 0), (.int 0), (.int 0), (.int 0), (.int 0), (.int 0), (.int 0), (.int 0)] (.int 0) := V101.pad (pad_rep [] (.int 0) 23)
  refine Go.astoreN X101 hx (hb hby d22_17) rfl (l' := #[.val (.ref v), .val (.int 34), .val (.ref b101)]) rfl (q := 18) rfl ?_
  refine Go.aloadN X101 hx (hb hby d22_18) rfl rfl (q := 19) rfl ?_
  refine Go.iconst X101 hx (hb hby d22_19) (r := (0 : Int32)) rfl (q := 20) rfl ?_
  refine Go.aloadN X101 hx (hb hby d22_20) rfl rfl (q := 21) rfl ?_
  refine Go.iconst X101 hx (hb hby d22_21) (r := (0 : Int32)) rfl (q := 22) rfl ?_
  refine Go.aloadN X101 hx (hb hby d22_22) rfl rfl (q := 23) rfl ?_
  refine Go.alen X101 hx hZ e101 Vv (hb hby d22_23) ?_
  refine Go.iloadN X101 hx (hb hby d22_24) rfl (q := 25) rfl ?_
  refine Go.callS X101 hx hZ hown (wd124 hw) (wd125 hw) (wd116 hw) (wd126 hw) (by decide) (cmin1 l Z a0 hw ((16 : Int32)) ((34 : Int32)) h101 OE101 (by decide)) e101 (by rw [hml]; rfl) (hb hby d22_25) (argsL := [(.int 16), (.int 34)]) (rest := [(.int 0), (.ref b101), (.int 0), (.ref v)]) (lenOf pd15 rfl) rfl rfl (W := 4) (Nat.le_refl _) (by decide) ?_
  intro v102 T102 L102 X102 hQ102
  obtain ⟨rfl, N102q, e102⟩ := hQ102
  have N102 := Fr.app N0 N102q
  obtain ⟨T103, h103, L103, X103, e103, N103, K103, V103, st103⟩ := cpA X102 hx hZ hown (wd127 hw) (wd130 hw) (wd128 hw) (wd129 hw) e102 Vv V101 (us := [(.int 0), (.int 0), (.int 0), (.int 0), (.int 0), (.int 0), (.int 0), (.int 0), (.int 0), (.int 0), (.int 0), (.int 0), (.int 0), (.int 0), (.int 0), (.int 0)]) (sp := (0 : Int32)) (dp := (0 : Int32)) (nn := (16 : Int32)) (Or.inl ⟨rfl, rfl⟩) (by decide) (by decide) (by decide) (by decide) (by decide) rfl (Nat.le_of_ble_eq_true rfl) N102 g_b101 (g := (mkF mm 28 #[.val (.ref v), .val (.int 34), .val (.ref b101)] [(.int 16), (.int 0), (.ref b101), (.int 0), (.ref v)])) rfl (by rw [hml]; rfl) rfl (hb hby d22_28) (by decide) (W := 0) (by show 2 * 0 + _ ≤ _; exact Nat.le_of_eq rfl) (by decide)
  refine Go.by st103 ?_
  replace Vv := Vv.keep K103 (ninS ne_v_b101 nin0)
  replace B101 := B101.keep K103
  have OK103 := ext_keep OE101 K103 (allS g_b101 all0)
  replace KP := KP.trans K103 (allS (Or.inr z_b101) all0)
  replace V103 : Arv Z h103 b101 k101 .byte (34 : Int32) [(.int 0), (.int 0), (.int 0), (.int 0), (.int 0), (.int 0), (.int 0), (.int 0), (.int 0), (.int 0), (.int 0), (.int 0), (.int 0), (.int 0), (.int 0), (.int 0), (.int 0), (.int 0), (.int 0), (.int 0), (.int 0), (.int 0), (.int 0)] (.int 0) := V103
  show Go pp ee below _ (T103.setTop (mkF mm 31 #[.val (.ref v), .val (.int 34), .val (.ref b101)] []))
  refine Go.aloadN X103 hx (hb hby d22_31) rfl rfl (q := 32) rfl ?_
  exact Go.retA X103 hx hret hlk rfl rfl (hb hby d22_32) e103 (by decide) (by decide) ⟨b101, k101, rfl, N103, KP, z_b101, V103⟩
def Q_censG (Z : State) (o v : Addr) (kv : ClassId) (h0 : Heap) (vR : Option Value) (hR : Heap) (LR : List Loc) : Prop := ∃ u : Addr, ∃ ku : ClassId, vR = none ∧ Fr Z.heap.size LR ∧ Keep h0 hR [o] ∧ h0.size ≤ u ∧ Fld Z hR o xS1 "value" "[B" (.ref u) ∧ Fld Z hR o xS1 "coder" "B" (.int 0) ∧ Fld Z hR o xS1 "count" "I" (.int 0) ∧ Arv Z hR u ku .byte (34 : Int32) [(.int 0), (.int 0), (.int 0), (.int 0), (.int 0), (.int 0), (.int 0), (.int 0), (.int 0), (.int 0), (.int 0), (.int 0), (.int 0), (.int 0), (.int 0), (.int 0), (.int 0), (.int 0), (.int 0), (.int 0), (.int 0), (.int 0), (.int 0)] (.int 0)
theorem censG (l : Launch) (Z : State) (a0 : Array Value) (hw : ∀ d ∈ tables_1, d.before a0 Z = true) (o v : Addr) (kv : ClassId) (h0 : Heap) (O0 : Ext Z.heap h0) (Eo : Exa Z h0 o xS4) (g_o : Z.heap.size ≤ o) (F0 : Fld Z h0 o xS1 "value" "[B" (.ref v)) (F1 : Fld Z h0 o xS1 "coder" "B" (.int 0)) (F2 : Fld Z h0 o xS1 "count" "I" (.int 0)) (Vv : Arv Z h0 v kv .byte (16 : Int32) [(.int 0), (.int 0), (.int 0), (.int 0), (.int 0), (.int 0), (.int 0), (.int 0), (.int 0), (.int 0), (.int 0), (.int 0), (.int 0), (.int 0), (.int 0), (.int 0)] (.int 0)) :
    Ctr l Z h0 (⟨xS1, xS6, "(I)V"⟩ : MethodName) k18 3 none [] ({ frames := 3, cells := 1, slots := 34, locals := 48 } : Room) #[(.ref o), (.int 20)] (Q_censG Z o v kv h0) := by
  refine enter (plainFor_of_name pn4) ?_
  intro pp ee ss mm below meth cc s₁ hx hby hml hZ hown hnm hret hlk X0 e0 hs0
  replace hown : ss.vm.findClass xS1 = some mm.cls := hown
  refine Go.cast (congrArg s₁.setTop (ef_censG mm o)) ?_
  have N0 := Fr.nil Z.heap.size
  have KP := Keep.refl h0 [o]
  show Go pp ee below _ (s₁.setTop (mkF mm 0 #[.val (.ref o), .val (.int 20), .unset] []))
  refine Go.aloadN X0 hx (hb hby d18_0) rfl rfl (q := 1) rfl ?_
  refine Go.getF X0 hx hZ hown (host := "") (Or.inl (wd82 hw)) Via.refl e0 F0 (hb hby d18_1) (q := 4) rfl ?_
  intro T101 X101 e101
  refine Go.alen X101 hx hZ e101 Vv (hb hby d18_4) ?_
  refine Go.aloadN X101 hx (hb hby d18_5) rfl rfl (q := 6) rfl ?_
  refine Go.getF X101 hx hZ hown (host := "") (Or.inl (wd84 hw)) Via.refl e101 F1 (hb hby d18_6) (q := 9) rfl ?_
  intro T102 X102 e102
  refine Go.ishr X102 hx (hb hby d18_9) (r := (16 : Int32)) rfl (q := 10) rfl ?_
  refine Go.istoreN X102 hx (hb hby d18_10) (l' := #[.val (.ref o), .val (.int 20), .val (.int 16)]) rfl (q := 11) rfl ?_
  refine Go.iloadN X102 hx (hb hby d18_11) rfl (q := 12) rfl ?_
  refine Go.iloadN X102 hx (hb hby d18_12) rfl (q := 13) rfl ?_
  refine Go.isub X102 hx (hb hby d18_13) (r := (4 : Int32)) rfl (q := 14) rfl ?_
  refine Go.ifNo X102 hx (hb hby d18_14) (by decide) (q := 17) rfl ?_
  refine Go.aloadN X102 hx (hb hby d18_17) rfl rfl (q := 18) rfl ?_
  refine Go.aloadN X102 hx (hb hby d18_18) rfl rfl (q := 19) rfl ?_
  refine Go.getF X102 hx hZ hown (host := "") (Or.inl (wd82 hw)) Via.refl e102 F0 (hb hby d18_19) (q := 22) rfl ?_
  intro T103 X103 e103
  refine Go.aloadN X103 hx (hb hby d18_22) rfl rfl (q := 23) rfl ?_
  refine Go.iloadN X103 hx (hb hby d18_23) rfl (q := 24) rfl ?_
  refine Go.priv X103 hx hZ hown (wd105 hw) (wd106 hw) (own_selp (x' := (⟨xS1, xS6, "(I)V"⟩ : MethodName)) (y' := (⟨xS1, xS6, "(I)V"⟩ : MethodName)) (y := (⟨xS1, "newCapacity", "(I)I"⟩ : MethodName)) (wd103 hw) rfl (wd106 hw) (wd107 hw) (by decide)) (wd107 hw) (wd78 hw) (wd109 hw) (by decide) (cncap l Z a0 hw o v (kv) h0 O0 F0 F1 F2 Vv) e103 Eo (by rw [hml]; rfl) (hb hby d18_24) (argsL := [(.int 20)]) (rest := [(.ref v), (.ref o)]) (lenOf pd22 rfl) rfl rfl (W := 2) (Nat.le_refl _) (by decide) ?_
  intro v104 T104 L104 X104 hQ104
  obtain ⟨rfl, N104q, e104⟩ := hQ104
  have N104 := Fr.app N0 N104q
  refine Go.aloadN X104 hx (hb hby d18_27) rfl rfl (q := 28) rfl ?_
  refine Go.getF X104 hx hZ hown (host := "") (Or.inl (wd84 hw)) Via.refl e104 F1 (hb hby d18_28) (q := 31) rfl ?_
  intro T105 X105 e105
  refine Go.ishl X105 hx (hb hby d18_31) (r := (34 : Int32)) rfl (q := 32) rfl ?_
  refine Go.callS X105 hx hZ hown (wd120 hw) (wd121 hw) (wd122 hw) (wd123 hw) (by decide) (ccpo l Z a0 hw v (kv) h0 O0 Vv) e105 (by rw [hml]; rfl) (hb hby d18_32) (argsL := [(.ref v), (.int 34)]) (rest := [(.ref o)]) (lenOf pd23 rfl) rfl rfl (W := 1) (Nat.le_refl _) (by decide) ?_
  intro v106 T106 L106 X106 hQ106
  obtain ⟨h106, e106⟩ : ∃ z, T106.heap = z := ⟨_, rfl⟩
  rw [e106] at hQ106
  obtain ⟨u_106, ku_106, rfl, N106q, K106, fr106_u, P106_0⟩ := hQ106
  have N106 := Fr.app N104 N106q
  have ne_o_u_106 : o ≠ u_106 := ne_new Eo.lt fr106_u
  have ne_v_u_106 : v ≠ u_106 := ne_new Vv.lt fr106_u
  have g_u_106 : Z.heap.size ≤ u_106 := Nat.le_trans O0.1 fr106_u
  have z_u_106 : h0.size ≤ u_106 := Nat.le_trans KP.1 fr106_u
  replace Eo := Eo.keep K106
  replace F0 := F0.keep K106 nin0
  replace F1 := F1.keep K106 nin0
  replace F2 := F2.keep K106 nin0
  replace Vv := Vv.keep K106 nin0
  have OK106 := ext_keep O0 K106 all0
  replace KP := KP.trans K106 all0
  refine Go.putF X106 hx hZ hown (host := "") (Or.inl (wd82 hw)) Via.refl e106 F0 Eo (Or.inl (wd83 hw)) (wd69 hw) (ty := (.array .byte)) (by decide) rfl rfl (hb hby d18_35) (q := 38) rfl ?_
  intro T107 h107 X107 e107 W107 F107
  have N107 := Fr.snoc X107 N106 g_o
  replace Eo := Eo.wr W107
  replace F1 := F1.other W107 (Or.inr (slot_ne (Or.inl (wd85 hw)) (Or.inl (wd83 hw)) (by decide) (t := .byte) (t' := (.array .byte)) (by decide) (by decide)))
  replace F2 := F2.other W107 (Or.inr (slot_ne (Or.inl (wd99 hw)) (Or.inl (wd83 hw)) (by decide) (t := .int) (t' := (.array .byte)) (by decide) (by decide)))
  replace P106_0 := P106_0.other W107 (Ne.symm ne_o_u_106)
  have OW107 := ext_wr OK106 W107 g_o
  replace KP := KP.wr W107 (Or.inl (List.mem_of_getElem? (i := 0) rfl))
  exact Go.retV X107 hx hret hlk (hb hby d18_38) e107 (by decide) (by decide) ⟨u_106, ku_106, rfl, N107, KP, z_u_106, F107, F1, F2, P106_0⟩
def Q_caaG (Z : State) (o v : Addr) (kv : ClassId) (t r : Addr) (kr : ClassId) (cs : Int32) (h0 : Heap) (vR : Option Value) (hR : Heap) (LR : List Loc) : Prop := ∃ u : Addr, ∃ ku : ClassId, vR = some (.ref o) ∧ Fr Z.heap.size LR ∧ Keep h0 hR [o] ∧ h0.size ≤ u ∧ Fld Z hR o xS1 "value" "[B" (.ref u) ∧ Fld Z hR o xS1 "coder" "B" (.int 0) ∧ Fld Z hR o xS1 "count" "I" (.int 20) ∧ Arv Z hR u ku .byte (34 : Int32) [(.int 117), (.int 110), (.int 101), (.int 120), (.int 112), (.int 101), (.int 99), (.int 116), (.int 101), (.int 100), (.int 32), (.int 97), (.int 114), (.int 103), (.int 117), (.int 109), (.int 101), (.int 110), (.int 116), (.int 32), (.int 0), (.int 0), (.int 0)] (.int 0)
theorem caaG (l : Launch) (Z : State) (a0 : Array Value) (hw : ∀ d ∈ tables_1, d.before a0 Z = true) (o v : Addr) (kv : ClassId) (t r : Addr) (kr : ClassId) (cs : Int32) (h0 : Heap) (O0 : Ext Z.heap h0) (Eo : Exa Z h0 o xS4) (g_o : Z.heap.size ≤ o) (F0 : Fld Z h0 o xS1 "value" "[B" (.ref v)) (F1 : Fld Z h0 o xS1 "coder" "B" (.int 0)) (F2 : Fld Z h0 o xS1 "count" "I" (.int 0)) (Vv : Arv Z h0 v kv .byte (16 : Int32) [(.int 0), (.int 0), (.int 0), (.int 0), (.int 0), (.int 0), (.int 0), (.int 0), (.int 0), (.int 0), (.int 0), (.int 0), (.int 0), (.int 0), (.int 0), (.int 0)] (.int 0)) (Et : Exa Z h0 t xS0) (Ct : Fld Z h0 t xS0 "coder" "B" (.int 0)) (Ft : Fld Z h0 t xS0 "value" "[B" (.ref r)) (Vr : Arv Z h0 r kr .byte (20 : Int32) [(.int 117), (.int 110), (.int 101), (.int 120), (.int 112), (.int 101), (.int 99), (.int 116), (.int 101), (.int 100), (.int 32), (.int 97), (.int 114), (.int 103), (.int 117), (.int 109), (.int 101), (.int 110), (.int 116), (.int 32)] (.int 0)) (not : o ≠ t) (nor : o ≠ r) (SCS : Sta Z Z.heap xS0 xS3 "Z" (.int cs)) (hcs : ¬ (cs = (0 : Int32))) :
    Ctr l Z h0 (⟨xS1, "append", "(Ljava/lang/String;)Ljava/lang/AbstractStringBuilder;"⟩ : MethodName) k17 3 (some (.object xS1)) [] ({ frames := 4, cells := 1, slots := 34, locals := 62 } : Room) #[(.ref o), (.ref t)] (Q_caaG Z o v kv t r kr cs h0) := by
  refine enter (plainFor_of_name pn4) ?_
  intro pp ee ss mm below meth cc s₁ hx hby hml hZ hown hnm hret hlk X0 e0 hs0
  replace hown : ss.vm.findClass xS1 = some mm.cls := hown
  refine Go.cast (congrArg s₁.setTop (ef_caaG mm o t)) ?_
  have N0 := Fr.nil Z.heap.size
  have KP := Keep.refl h0 [o]
  show Go pp ee below _ (s₁.setTop (mkF mm 0 #[.val (.ref o), .val (.ref t), .unset] []))
  refine Go.aloadN X0 hx (hb hby d17_0) rfl rfl (q := 1) rfl ?_
  refine Go.ifnonnullYes X0 hx (hb hby d17_1) (q := 9) (by decide) (by decide) ?_
  refine Go.aloadN X0 hx (hb hby d17_9) rfl rfl (q := 10) rfl ?_
  refine Go.virt X0 hx hZ hown (wd97 hw) (wd59 hw) (notFace_of_selects (args := #[]) (mvT hZ (wd61 hw))) (wd61 hw) (wd60 hw) (wd6 hw) (wd62 hw) (by decide) (clen l Z a0 hw t cs r (kr) ((20 : Int32)) ([(.int 117), (.int 110), (.int 101), (.int 120), (.int 112), (.int 101), (.int 99), (.int 116), (.int 101), (.int 100), (.int 32), (.int 97), (.int 114), (.int 103), (.int 117), (.int 109), (.int 101), (.int 110), (.int 116), (.int 32)]) h0 O0 Et Ct Ft Vr SCS hcs) e0 Et (by rw [hml]; rfl) (hb hby d17_10) (argsL := []) (rest := []) (lenOf pd6 rfl) rfl rfl (W := 0) (Nat.le_refl _) (by decide) ?_
  intro v101 T101 L101 X101 hQ101
  obtain ⟨rfl, N101q, e101⟩ := hQ101
  have N101 := Fr.app N0 N101q
  refine Go.istoreN X101 hx (hb hby d17_13) (l' := #[.val (.ref o), .val (.ref t), .val (.int 20)]) rfl (q := 14) rfl ?_
  refine Go.aloadN X101 hx (hb hby d17_14) rfl rfl (q := 15) rfl ?_
  refine Go.aloadN X101 hx (hb hby d17_15) rfl rfl (q := 16) rfl ?_
  refine Go.getF X101 hx hZ hown (host := "") (Or.inl (wd98 hw)) Via.refl e101 F2 (hb hby d17_16) (q := 19) rfl ?_
  intro T102 X102 e102
  refine Go.iloadN X102 hx (hb hby d17_19) rfl (q := 20) rfl ?_
  refine Go.iadd X102 hx (hb hby d17_20) (r := (20 : Int32)) rfl (q := 21) rfl ?_
  refine Go.priv X102 hx hZ hown (wd100 hw) (wd101 hw) (own_selp (x' := (⟨xS1, xS6, "(I)V"⟩ : MethodName)) (y' := (⟨xS1, xS6, "(I)V"⟩ : MethodName)) (y := (⟨xS1, xS6, "(I)V"⟩ : MethodName)) (wd103 hw) rfl (wd101 hw) (wd102 hw) (by decide)) (wd102 hw) (wd78 hw) (wd104 hw) (by decide) (censG l Z a0 hw o v (kv) h0 O0 Eo g_o F0 F1 F2 Vv) e102 Eo (by rw [hml]; rfl) (hb hby d17_21) (argsL := [(.int 20)]) (rest := []) (lenOf pd9 rfl) rfl rfl (W := 0) (Nat.le_refl _) (by decide) ?_
  intro v103 T103 L103 X103 hQ103
  obtain ⟨h103, e103⟩ : ∃ z, T103.heap = z := ⟨_, rfl⟩
  rw [e103] at hQ103
  obtain ⟨u_103, ku_103, rfl, N103q, K103, fr103_u, P103_0, P103_1, P103_2, P103_3⟩ := hQ103
  have N103 := Fr.app N101 N103q
  have ne_o_u_103 : o ≠ u_103 := ne_new Eo.lt fr103_u
  have ne_v_u_103 : v ≠ u_103 := ne_new Vv.lt fr103_u
  have ne_t_u_103 : t ≠ u_103 := ne_new Et.lt fr103_u
  have ne_r_u_103 : r ≠ u_103 := ne_new Vr.lt fr103_u
  have g_u_103 : Z.heap.size ≤ u_103 := Nat.le_trans O0.1 fr103_u
  have z_u_103 : h0.size ≤ u_103 := Nat.le_trans KP.1 fr103_u
  replace Eo := Eo.keep K103
  replace Et := Et.keep K103
  replace Ct := Ct.keep K103 (ninS (Ne.symm not) nin0)
  replace Ft := Ft.keep K103 (ninS (Ne.symm not) nin0)
  replace Vr := Vr.keep K103 (ninS (Ne.symm nor) nin0)
  have OK103 := ext_keep O0 K103 (allS g_o all0)
  replace KP := KP.trans K103 (allS (Or.inl (List.mem_of_getElem? (i := 0) rfl)) all0)
  refine Go.aloadN X103 hx (hb hby d17_24) rfl rfl (q := 25) rfl ?_
  refine Go.aloadN X103 hx (hb hby d17_25) rfl rfl (q := 26) rfl ?_
  refine Go.getF X103 hx hZ hown (host := "") (Or.inl (wd98 hw)) Via.refl e103 P103_2 (hb hby d17_26) (q := 29) rfl ?_
  intro T104 X104 e104
  refine Go.aloadN X104 hx (hb hby d17_29) rfl rfl (q := 30) rfl ?_
  refine Go.priv X104 hx hZ hown (wd131 hw) (wd132 hw) (own_selp (x' := (⟨xS1, xS6, "(I)V"⟩ : MethodName)) (y' := (⟨xS1, xS6, "(I)V"⟩ : MethodName)) (y := (⟨xS1, "putStringAt", "(ILjava/lang/String;)V"⟩ : MethodName)) (wd103 hw) rfl (wd132 hw) (wd133 hw) (by decide)) (wd133 hw) (wd78 hw) (wd135 hw) (by decide) (cps l Z a0 hw o t r u_103 cs ((34 : Int32)) (ku_103) (kr) ((0 : Int32)) ((20 : Int32)) ([(.int 117), (.int 110), (.int 101), (.int 120), (.int 112), (.int 101), (.int 99), (.int 116), (.int 101), (.int 100), (.int 32), (.int 97), (.int 114), (.int 103), (.int 117), (.int 109), (.int 101), (.int 110), (.int 116), (.int 32)]) ([(.int 0), (.int 0), (.int 0), (.int 0), (.int 0), (.int 0), (.int 0), (.int 0), (.int 0), (.int 0), (.int 0), (.int 0), (.int 0), (.int 0), (.int 0), (.int 0), (.int 0), (.int 0), (.int 0), (.int 0), (.int 0), (.int 0), (.int 0)]) ([(.int 117), (.int 110), (.int 101), (.int 120), (.int 112), (.int 101), (.int 99), (.int 116), (.int 101), (.int 100), (.int 32), (.int 97), (.int 114), (.int 103), (.int 117), (.int 109), (.int 101), (.int 110), (.int 116), (.int 32), (.int 0), (.int 0), (.int 0)]) h103 OK103 Eo P103_0 P103_1 P103_2 P103_3 g_u_103 g_o ne_o_u_103 Et Ct Ft Vr SCS hcs ⟨⟨by decide, by decide, by decide⟩, by decide, by decide, rfl, Nat.le_of_ble_eq_true rfl, rfl⟩) e104 Eo (by rw [hml]; rfl) (hb hby d17_30) (argsL := [(.int 0), (.ref t)]) (rest := []) (lenOf pd12 rfl) rfl rfl (W := 0) (Nat.le_refl _) (by decide) ?_
  intro v105 T105 L105 X105 hQ105
  obtain ⟨h105, e105⟩ : ∃ z, T105.heap = z := ⟨_, rfl⟩
  rw [e105] at hQ105
  obtain ⟨rfl, N105q, K105, P105_0⟩ := hQ105
  have N105 := Fr.app N103 N105q
  replace Eo := Eo.keep K105
  replace Et := Et.keep K105
  replace Ct := Ct.keep K105 (ninS ne_t_u_103 nin0)
  replace Ft := Ft.keep K105 (ninS ne_t_u_103 nin0)
  replace Vr := Vr.keep K105 (ninS ne_r_u_103 nin0)
  replace P103_0 := P103_0.keep K105 (ninS ne_o_u_103 nin0)
  replace P103_1 := P103_1.keep K105 (ninS ne_o_u_103 nin0)
  replace P103_2 := P103_2.keep K105 (ninS ne_o_u_103 nin0)
  have OK105 := ext_keep OK103 K105 (allS g_u_103 all0)
  replace KP := KP.trans K105 (allS (Or.inr z_u_103) all0)
  refine Go.aloadN X105 hx (hb hby d17_33) rfl rfl (q := 34) rfl ?_
  refine Go.dup X105 hx (hb hby d17_34) rfl (q := 35) rfl ?_
  refine Go.getF X105 hx hZ hown (host := "") (Or.inl (wd98 hw)) Via.refl e105 P103_2 (hb hby d17_35) (q := 38) rfl ?_
  intro T106 X106 e106
  refine Go.iloadN X106 hx (hb hby d17_38) rfl (q := 39) rfl ?_
  refine Go.iadd X106 hx (hb hby d17_39) (r := (20 : Int32)) rfl (q := 40) rfl ?_
  refine Go.putF X106 hx hZ hown (host := "") (Or.inl (wd98 hw)) Via.refl e106 P103_2 Eo (Or.inl (wd99 hw)) (wd69 hw) (ty := .int) (by decide) rfl rfl (hb hby d17_40) (q := 43) rfl ?_
  intro T107 h107 X107 e107 W107 F107
  have N107 := Fr.snoc X107 N105 g_o
  replace Eo := Eo.wr W107
  replace Et := Et.wr W107
  replace Ct := Ct.other W107 (Or.inl (Ne.symm not))
  replace Ft := Ft.other W107 (Or.inl (Ne.symm not))
  replace Vr := Vr.other W107 (Ne.symm nor)
  replace P103_0 := P103_0.other W107 (Or.inr (slot_ne (Or.inl (wd83 hw)) (Or.inl (wd99 hw)) (by decide) (t := (.array .byte)) (t' := .int) (by decide) (by decide)))
  replace P103_1 := P103_1.other W107 (Or.inr (slot_ne (Or.inl (wd85 hw)) (Or.inl (wd99 hw)) (by decide) (t := .byte) (t' := .int) (by decide) (by decide)))
  replace P105_0 := P105_0.other W107 (Ne.symm ne_o_u_103)
  have OW107 := ext_wr OK105 W107 g_o
  replace KP := KP.wr W107 (Or.inl (List.mem_of_getElem? (i := 0) rfl))
  refine Go.aloadN X107 hx (hb hby d17_43) rfl rfl (q := 44) rfl ?_
  exact Go.retA X107 hx hret hlk rfl rfl (hb hby d17_44) e107 (by decide) (by decide) ⟨u_103, ku_103, rfl, N107, KP, z_u_103, P103_0, P103_1, F107, P105_0⟩
def Q_cabG (Z : State) (o v : Addr) (kv : ClassId) (t r : Addr) (kr : ClassId) (cs : Int32) (h0 : Heap) (vR : Option Value) (hR : Heap) (LR : List Loc) : Prop := ∃ u : Addr, ∃ ku : ClassId, vR = some (.ref o) ∧ Fr Z.heap.size LR ∧ Keep h0 hR [o] ∧ h0.size ≤ u ∧ Fld Z hR o xS1 "value" "[B" (.ref u) ∧ Fld Z hR o xS1 "coder" "B" (.int 0) ∧ Fld Z hR o xS1 "count" "I" (.int 20) ∧ Arv Z hR u ku .byte (34 : Int32) [(.int 117), (.int 110), (.int 101), (.int 120), (.int 112), (.int 101), (.int 99), (.int 116), (.int 101), (.int 100), (.int 32), (.int 97), (.int 114), (.int 103), (.int 117), (.int 109), (.int 101), (.int 110), (.int 116), (.int 32), (.int 0), (.int 0), (.int 0)] (.int 0)
theorem cabG (l : Launch) (Z : State) (a0 : Array Value) (hw : ∀ d ∈ tables_1, d.before a0 Z = true) (o v : Addr) (kv : ClassId) (t r : Addr) (kr : ClassId) (cs : Int32) (h0 : Heap) (O0 : Ext Z.heap h0) (Eo : Exa Z h0 o xS4) (g_o : Z.heap.size ≤ o) (F0 : Fld Z h0 o xS1 "value" "[B" (.ref v)) (F1 : Fld Z h0 o xS1 "coder" "B" (.int 0)) (F2 : Fld Z h0 o xS1 "count" "I" (.int 0)) (Vv : Arv Z h0 v kv .byte (16 : Int32) [(.int 0), (.int 0), (.int 0), (.int 0), (.int 0), (.int 0), (.int 0), (.int 0), (.int 0), (.int 0), (.int 0), (.int 0), (.int 0), (.int 0), (.int 0), (.int 0)] (.int 0)) (Et : Exa Z h0 t xS0) (Ct : Fld Z h0 t xS0 "coder" "B" (.int 0)) (Ft : Fld Z h0 t xS0 "value" "[B" (.ref r)) (Vr : Arv Z h0 r kr .byte (20 : Int32) [(.int 117), (.int 110), (.int 101), (.int 120), (.int 112), (.int 101), (.int 99), (.int 116), (.int 101), (.int 100), (.int 32), (.int 97), (.int 114), (.int 103), (.int 117), (.int 109), (.int 101), (.int 110), (.int 116), (.int 32)] (.int 0)) (not : o ≠ t) (nor : o ≠ r) (SCS : Sta Z Z.heap xS0 xS3 "Z" (.int cs)) (hcs : ¬ (cs = (0 : Int32))) :
    Ctr l Z h0 (⟨xS4, "append", "(Ljava/lang/String;)Ljava/lang/StringBuilder;"⟩ : MethodName) k16 2 (some (.object xS4)) [] ({ frames := 5, cells := 1, slots := 34, locals := 76 } : Room) #[(.ref o), (.ref t)] (Q_cabG Z o v kv t r kr cs h0) := by
  refine enter (plainFor_of_name pn5) ?_
  intro pp ee ss mm below meth cc s₁ hx hby hml hZ hown hnm hret hlk X0 e0 hs0
  replace hown : ss.vm.findClass xS4 = some mm.cls := hown
  refine Go.cast (congrArg s₁.setTop (ef_cabG mm o t)) ?_
  have N0 := Fr.nil Z.heap.size
  have KP := Keep.refl h0 [o]
  show Go pp ee below _ (s₁.setTop (mkF mm 0 #[.val (.ref o), .val (.ref t)] []))
  refine Go.aloadN X0 hx (hb hby d16_0) rfl rfl (q := 1) rfl ?_
  refine Go.aloadN X0 hx (hb hby d16_1) rfl rfl (q := 2) rfl ?_
  refine Go.sup X0 hx hZ hown (wd92 hw) (own_sameM (x' := (⟨xS1, xS6, "(I)V"⟩ : MethodName)) (z' := (⟨xS1, xS6, "(I)V"⟩ : MethodName)) (y := (⟨xS1, "append", "(Ljava/lang/String;)Ljava/lang/AbstractStringBuilder;"⟩ : MethodName)) (wd103 hw) rfl (wd93 hw) (by decide)) (wd93 hw) (wd94 hw) (by decide) (wd78 hw) (wd96 hw) (caaG l Z a0 hw o v (kv) t r (kr) cs h0 O0 Eo g_o F0 F1 F2 Vv Et Ct Ft Vr not nor SCS hcs) e0 Eo (by rw [hml]; rfl) (hb hby d16_2) (argsL := [(.ref t)]) (rest := []) (lenOf pd13 rfl) rfl rfl (W := 0) (Nat.le_refl _) (by decide) ?_
  intro v101 T101 L101 X101 hQ101
  obtain ⟨h101, e101⟩ : ∃ z, T101.heap = z := ⟨_, rfl⟩
  rw [e101] at hQ101
  obtain ⟨u_101, ku_101, rfl, N101q, K101, fr101_u, P101_0, P101_1, P101_2, P101_3⟩ := hQ101
  have N101 := Fr.app N0 N101q
  have ne_o_u_101 : o ≠ u_101 := ne_new Eo.lt fr101_u
  have ne_v_u_101 : v ≠ u_101 := ne_new Vv.lt fr101_u
  have ne_t_u_101 : t ≠ u_101 := ne_new Et.lt fr101_u
  have ne_r_u_101 : r ≠ u_101 := ne_new Vr.lt fr101_u
  have g_u_101 : Z.heap.size ≤ u_101 := Nat.le_trans O0.1 fr101_u
  have z_u_101 : h0.size ≤ u_101 := Nat.le_trans KP.1 fr101_u
  replace Eo := Eo.keep K101
  replace Et := Et.keep K101
  replace Ct := Ct.keep K101 (ninS (Ne.symm not) nin0)
  replace Ft := Ft.keep K101 (ninS (Ne.symm not) nin0)
  replace Vr := Vr.keep K101 (ninS (Ne.symm nor) nin0)
  have OK101 := ext_keep O0 K101 (allS g_o all0)
  replace KP := KP.trans K101 (allS (Or.inl (List.mem_of_getElem? (i := 0) rfl)) all0)
  refine Go.pop X101 hx (hb hby d16_5) rfl (q := 6) rfl ?_
  refine Go.aloadN X101 hx (hb hby d16_6) rfl rfl (q := 7) rfl ?_
  exact Go.retA X101 hx hret hlk rfl rfl (hb hby d16_7) e101 (by decide) (by decide) ⟨u_101, ku_101, rfl, N101, KP, z_u_101, P101_0, P101_1, P101_2, P101_3⟩
def Q_ccqF (Z : State) (v : Addr) (kv : ClassId) (ds : List Value) (h0 : Heap) (vR : Option Value) (hR : Heap) (LR : List Loc) : Prop := ∃ u : Addr, ∃ ku : ClassId, vR = some (.ref u) ∧ Fr Z.heap.size LR ∧ Keep h0 hR [] ∧ h0.size ≤ u ∧ Arv Z hR u ku .byte (16 : Int32) ds (.int 0)
theorem ccqF (l : Launch) (Z : State) (a0 : Array Value) (hw : ∀ d ∈ tables_1, d.before a0 Z = true) (v : Addr) (kv : ClassId) (ds : List Value) (h0 : Heap) (O0 : Ext Z.heap h0) (Ev : Exa Z h0 v "[B") (Vv : Arv Z h0 v kv .byte (16 : Int32) ds (.int 0)) :
    Ctr l Z h0 (⟨"java/util/Arrays", "copyOfRange", "([BII)[B"⟩ : MethodName) k34 3 (some (.array .byte)) [] ({ frames := 1, cells := 1, slots := 16, locals := 14 } : Room) #[(.ref v), (.int 0), (.int 16)] (Q_ccqF Z v kv ds h0) := by
  refine enter (plainFor_of_name pn6) ?_
  intro pp ee ss mm below meth cc s₁ hx hby hml hZ hown hnm hret hlk X0 e0 hs0
  replace hown : ss.vm.findClass "java/util/Arrays" = some mm.cls := hown
  refine Go.cast (congrArg s₁.setTop (ef_ccqF mm v)) ?_
  have N0 := Fr.nil Z.heap.size
  have KP := Keep.refl h0 []
  show Go pp ee below _ (s₁.setTop (mkF mm 0 #[.val (.ref v), .val (.int 0), .val (.int 16)] []))
  refine Go.iloadN X0 hx (hb hby d34_0) rfl (q := 1) rfl ?_
  refine Go.ifNo X0 hx (hb hby d34_1) (by decide) (q := 4) rfl ?_
  refine Go.iloadN X0 hx (hb hby d34_4) rfl (q := 5) rfl ?_
  refine Go.aloadN X0 hx (hb hby d34_5) rfl rfl (q := 6) rfl ?_
  refine Go.alen X0 hx hZ e0 Vv (hb hby d34_6) ?_
  refine Go.icmpYes X0 hx (hb hby d34_7) (by decide) (q := 17) (by decide) (by decide) ?_
  refine Go.aloadN X0 hx (hb hby d34_17) rfl rfl (q := 18) rfl ?_
  obtain ⟨T101, h101, X101, e101, E101, V101, B101, st101⟩ := cloneH X0 hx hZ hown (wd258 hw) (wd259 hw) (wd263 hw) (wd261 hw) (wd262 hw) (wd264 hw) e0 Vv.arh Ev (g := (mkF mm 18 #[.val (.ref v), .val (.int 0), .val (.int 16)] [(.ref v)])) rfl (by rw [hml]; rfl) rfl (hb hby d34_18) (by decide) (W := 0) (cap := 16) (by show 2 * 0 + _ ≤ _; exact Nat.le_of_eq rfl) (by decide) (by decide) (by decide) (by decide)
  obtain ⟨b101, q101⟩ : ∃ z, z = h0.size := ⟨_, rfl⟩
  rw [← q101] at V101 B101 st101
  refine Go.by st101 ?_
  have ne_v_b101 : v ≠ b101 := ne_new Ev.lt (Nat.le_of_eq q101.symm)
  have g_b101 : Z.heap.size ≤ b101 := Nat.le_trans O0.1 (Nat.le_of_eq q101.symm)
  have z_b101 : h0.size ≤ b101 := Nat.le_trans KP.1 (Nat.le_of_eq q101.symm)
  replace Ev := Ev.ext E101
  replace Vv := Vv.ext E101
  have OE101 := ext_trans O0 E101
  replace KP := KP.ext E101
  replace V101 : Arv Z h101 b101 kv .byte (16 : Int32) ds (.int 0) := V101
  show Go pp ee below _ (T101.setTop (mkF mm 21 #[.val (.ref v), .val (.int 0), .val (.int 16)] [(.ref b101)]))
  refine Go.castY X101 hx hZ hown (wd265 hw) e101 (Ins.self B101) (hb hby d34_21) (q := 24) rfl ?_
  intro T102 X102 e102
  exact Go.retA X102 hx hret hlk rfl rfl (hb hby d34_24) e102 (by decide) (by decide) ⟨b101, kv, rfl, N0, KP, z_b101, V101⟩
def Q_ciaF (Z : State) (t o : Addr) (cs : Int32) (v : Addr) (kv : ClassId) (ds : List Value) (h0 : Heap) (vR : Option Value) (hR : Heap) (LR : List Loc) : Prop := ∃ u : Addr, ∃ ku : ClassId, vR = none ∧ Fr Z.heap.size LR ∧ Keep h0 hR [t] ∧ h0.size ≤ u ∧ Fld Z hR t xS0 "value" "[B" (.ref u) ∧ Fld Z hR t xS0 "coder" "B" (.int 0) ∧ Arv Z hR u ku .byte (16 : Int32) ds (.int 0)
theorem ciaF (l : Launch) (Z : State) (a0 : Array Value) (hw : ∀ d ∈ tables_1, d.before a0 Z = true) (t o : Addr) (cs : Int32) (v : Addr) (kv : ClassId) (ds : List Value) (h0 : Heap) (O0 : Ext Z.heap h0) (Es : Exa Z h0 t xS0) (Fs : Fld Z h0 t xS0 "value" "[B" .null) (Cs : Fld Z h0 t xS0 "coder" "B" (.int 0)) (g_t : Z.heap.size ≤ t) (nto : t ≠ o) (Eo : Exa Z h0 o xS4) (F0 : Fld Z h0 o xS1 "value" "[B" (.ref v)) (F1 : Fld Z h0 o xS1 "coder" "B" (.int 0)) (F2 : Fld Z h0 o xS1 "count" "I" (.int 16)) (Ev : Exa Z h0 v "[B") (Vv : Arv Z h0 v kv .byte (16 : Int32) ds (.int 0)) (ntv : t ≠ v) (SCS : Sta Z Z.heap xS0 xS3 "Z" (.int cs)) (hcs : ¬ (cs = (0 : Int32))) :
    Ctr l Z h0 (⟨xS0, "<init>", "(Ljava/lang/AbstractStringBuilder;Ljava/lang/Void;)V"⟩ : MethodName) k29 5 none [] ({ frames := 2, cells := 1, slots := 16, locals := 29 } : Room) #[(.ref t), (.ref o), .null] (Q_ciaF Z t o cs v kv ds h0) := by
  refine enter (plainFor_of_name pn0) ?_
  intro pp ee ss mm below meth cc s₁ hx hby hml hZ hown hnm hret hlk X0 e0 hs0
  replace hown : ss.vm.findClass xS0 = some mm.cls := hown
  refine Go.cast (congrArg s₁.setTop (ef_ciaF mm t o)) ?_
  have N0 := Fr.nil Z.heap.size
  have KP := Keep.refl h0 [t]
  show Go pp ee below _ (s₁.setTop (mkF mm 0 #[.val (.ref t), .val (.ref o), .val .null, .unset, .unset] []))
  refine Go.aloadN X0 hx (hb hby d29_0) rfl rfl (q := 1) rfl ?_
  refine Go.initO X0 hx hZ hown (wd15 hw) (wd16 hw) (wd17 hw) e0 (by rw [hml]; rfl) (hb hby d29_1) (by decide) (W := 0) (by exact Nat.le_refl _) (by decide) (q := 4) rfl ?_
  intro T101 X101 e101
  refine Go.aloadN X101 hx (hb hby d29_4) rfl rfl (q := 5) rfl ?_
  refine Go.virt X101 hx hZ hown (wd160 hw) (wd161 hw) (notFace_of_selects (args := #[]) (mvT hZ (wd163 hw))) (wd163 hw) (wd162 hw) (wd78 hw) (wd164 hw) (by decide) (cgva l Z a0 hw o v h0 O0 F0) e101 Eo (by rw [hml]; rfl) (hb hby d29_5) (argsL := []) (rest := []) (lenOf pd17 rfl) rfl rfl (W := 0) (Nat.le_refl _) (by decide) ?_
  intro v102 T102 L102 X102 hQ102
  obtain ⟨rfl, N102q, e102⟩ := hQ102
  have N102 := Fr.app N0 N102q
  refine Go.astoreN X102 hx (hb hby d29_8) rfl (l' := #[.val (.ref t), .val (.ref o), .val .null, .val (.ref v), .unset]) rfl (q := 9) rfl ?_
  refine Go.aloadN X102 hx (hb hby d29_9) rfl rfl (q := 10) rfl ?_
  refine Go.virt X102 hx hZ hown (wd165 hw) (wd166 hw) (own_nf (args := #[]) (mvT hZ (wd103 hw)) rfl) (wd168 hw) (wd169 hw) (wd70 hw) (wd170 hw) (by decide) (clnb l Z a0 hw o ((16 : Int32)) h0 O0 Eo F2) e102 Eo (by rw [hml]; rfl) (hb hby d29_10) (argsL := []) (rest := []) (lenOf pd6 rfl) rfl rfl (W := 0) (Nat.le_refl _) (by decide) ?_
  intro v103 T103 L103 X103 hQ103
  obtain ⟨rfl, N103q, e103⟩ := hQ103
  have N103 := Fr.app N102 N103q
  refine Go.istore X103 hx (hb hby d29_13) (l' := #[.val (.ref t), .val (.ref o), .val .null, .val (.ref v), .val (.int 16)]) rfl (q := 15) rfl ?_
  refine Go.aloadN X103 hx (hb hby d29_15) rfl rfl (q := 16) rfl ?_
  refine Go.virt X103 hx hZ hown (wd173 hw) (wd174 hw) (notFace_of_selects (args := #[]) (mvT hZ (wd176 hw))) (wd176 hw) (wd175 hw) (wd78 hw) (wd177 hw) (by decide) (csbl l Z a0 hw o cs h0 O0 F1 SCS hcs) e103 Eo (by rw [hml]; rfl) (hb hby d29_16) (argsL := []) (rest := []) (lenOf pd18 rfl) rfl rfl (W := 0) (Nat.le_refl _) (by decide) ?_
  intro v104 T104 L104 X104 hQ104
  obtain ⟨rfl, N104q, e104⟩ := hQ104
  have N104 := Fr.app N103 N104q
  refine Go.ifNo X104 hx (hb hby d29_19) (by decide) (q := 22) rfl ?_
  refine Go.aloadN X104 hx (hb hby d29_22) rfl rfl (q := 23) rfl ?_
  refine Go.iconst X104 hx (hb hby d29_23) (r := (0 : Int32)) rfl (q := 24) rfl ?_
  refine Go.putF X104 hx hZ hown (host := "") (Or.inl (wd25 hw)) Via.refl e104 Cs Es (Or.inr ⟨(wd21 hw), rfl, hnm⟩) (wd5 hw) (ty := .byte) (by decide) rfl rfl (hb hby d29_24) (q := 27) rfl ?_
  intro T105 h105 X105 e105 W105 F105
  have N105 := Fr.snoc X105 N104 g_t
  replace Es := Es.wr W105
  replace Fs := Fs.other W105 (Or.inr (slot_ne (Or.inr (wd20 hw)) (Or.inr (wd21 hw)) (by decide) (t := (.array .byte)) (t' := .byte) (by decide) (by decide)))
  replace Eo := Eo.wr W105
  replace F0 := F0.other W105 (Or.inl (Ne.symm nto))
  replace F1 := F1.other W105 (Or.inl (Ne.symm nto))
  replace F2 := F2.other W105 (Or.inl (Ne.symm nto))
  replace Ev := Ev.wr W105
  replace Vv := Vv.other W105 (Ne.symm ntv)
  have OW105 := ext_wr O0 W105 g_t
  replace KP := KP.wr W105 (Or.inl (List.mem_of_getElem? (i := 0) rfl))
  refine Go.aloadN X105 hx (hb hby d29_27) rfl rfl (q := 28) rfl ?_
  refine Go.aloadN X105 hx (hb hby d29_28) rfl rfl (q := 29) rfl ?_
  refine Go.iconst X105 hx (hb hby d29_29) (r := (0 : Int32)) rfl (q := 30) rfl ?_
  refine Go.iload X105 hx (hb hby d29_30) rfl (q := 32) rfl ?_
  refine Go.callS X105 hx hZ hown (wd178 hw) (wd179 hw) (wd122 hw) (wd180 hw) (by decide) (ccqF l Z a0 hw v (kv) (ds) h105 OW105 Ev Vv) e105 (by rw [hml]; rfl) (hb hby d29_32) (argsL := [(.ref v), (.int 0), (.int 16)]) (rest := [(.ref t)]) (lenOf pd16 rfl) rfl rfl (W := 1) (Nat.le_refl _) (by decide) ?_
  intro v106 T106 L106 X106 hQ106
  obtain ⟨h106, e106⟩ : ∃ z, T106.heap = z := ⟨_, rfl⟩
  rw [e106] at hQ106
  obtain ⟨u_106, ku_106, rfl, N106q, K106, fr106_u, P106_0⟩ := hQ106
  have N106 := Fr.app N105 N106q
  have ne_t_u_106 : t ≠ u_106 := ne_new Es.lt fr106_u
  have ne_o_u_106 : o ≠ u_106 := ne_new Eo.lt fr106_u
  have ne_v_u_106 : v ≠ u_106 := ne_new Ev.lt fr106_u
  have g_u_106 : Z.heap.size ≤ u_106 := Nat.le_trans OW105.1 fr106_u
  have z_u_106 : h0.size ≤ u_106 := Nat.le_trans KP.1 fr106_u
  replace Es := Es.keep K106
  replace Fs := Fs.keep K106 nin0
  replace Eo := Eo.keep K106
  replace F0 := F0.keep K106 nin0
  replace F1 := F1.keep K106 nin0
  replace F2 := F2.keep K106 nin0
  replace Ev := Ev.keep K106
  replace Vv := Vv.keep K106 nin0
  replace F105 := F105.keep K106 nin0
  have OK106 := ext_keep OW105 K106 all0
  replace KP := KP.trans K106 all0
  refine Go.putF X106 hx hZ hown (host := "") (Or.inl (wd24 hw)) Via.refl e106 Fs Es (Or.inr ⟨(wd20 hw), rfl, hnm⟩) (wd5 hw) (ty := (.array .byte)) (by decide) rfl rfl (hb hby d29_35) (q := 38) rfl ?_
  intro T107 h107 X107 e107 W107 F107
  have N107 := Fr.snoc X107 N106 g_t
  replace Es := Es.wr W107
  replace Eo := Eo.wr W107
  replace F0 := F0.other W107 (Or.inl (Ne.symm nto))
  replace F1 := F1.other W107 (Or.inl (Ne.symm nto))
  replace F2 := F2.other W107 (Or.inl (Ne.symm nto))
  replace Ev := Ev.wr W107
  replace Vv := Vv.other W107 (Ne.symm ntv)
  replace F105 := F105.other W107 (Or.inr (slot_ne (Or.inr (wd21 hw)) (Or.inr (wd20 hw)) (by decide) (t := .byte) (t' := (.array .byte)) (by decide) (by decide)))
  replace P106_0 := P106_0.other W107 (Ne.symm ne_t_u_106)
  have OW107 := ext_wr OK106 W107 g_t
  replace KP := KP.wr W107 (Or.inl (List.mem_of_getElem? (i := 0) rfl))
  refine Go.goto X107 hx (hb hby d29_38) (q := 97) (by decide) (by decide) ?_
  exact Go.retV X107 hx hret hlk (hb hby d29_97) e107 (by decide) (by decide) ⟨u_106, ku_106, rfl, N107, KP, z_u_106, F107, F105, P106_0⟩
def Q_cibF (Z : State) (t o : Addr) (cs : Int32) (v : Addr) (kv : ClassId) (ds : List Value) (h0 : Heap) (vR : Option Value) (hR : Heap) (LR : List Loc) : Prop := ∃ u : Addr, ∃ ku : ClassId, vR = none ∧ Fr Z.heap.size LR ∧ Keep h0 hR [t] ∧ h0.size ≤ u ∧ Fld Z hR t xS0 "value" "[B" (.ref u) ∧ Fld Z hR t xS0 "coder" "B" (.int 0) ∧ Arv Z hR u ku .byte (16 : Int32) ds (.int 0)
theorem cibF (l : Launch) (Z : State) (a0 : Array Value) (hw : ∀ d ∈ tables_1, d.before a0 Z = true) (t o : Addr) (cs : Int32) (v : Addr) (kv : ClassId) (ds : List Value) (h0 : Heap) (O0 : Ext Z.heap h0) (Es : Exa Z h0 t xS0) (Fs : Fld Z h0 t xS0 "value" "[B" .null) (Cs : Fld Z h0 t xS0 "coder" "B" (.int 0)) (g_t : Z.heap.size ≤ t) (nto : t ≠ o) (Eo : Exa Z h0 o xS4) (F0 : Fld Z h0 o xS1 "value" "[B" (.ref v)) (F1 : Fld Z h0 o xS1 "coder" "B" (.int 0)) (F2 : Fld Z h0 o xS1 "count" "I" (.int 16)) (Ev : Exa Z h0 v "[B") (Vv : Arv Z h0 v kv .byte (16 : Int32) ds (.int 0)) (ntv : t ≠ v) (SCS : Sta Z Z.heap xS0 xS3 "Z" (.int cs)) (hcs : ¬ (cs = (0 : Int32))) :
    Ctr l Z h0 (⟨xS0, "<init>", "(Ljava/lang/StringBuilder;)V"⟩ : MethodName) k28 2 none [] ({ frames := 3, cells := 1, slots := 16, locals := 45 } : Room) #[(.ref t), (.ref o)] (Q_cibF Z t o cs v kv ds h0) := by
  refine enter (plainFor_of_name pn0) ?_
  intro pp ee ss mm below meth cc s₁ hx hby hml hZ hown hnm hret hlk X0 e0 hs0
  replace hown : ss.vm.findClass xS0 = some mm.cls := hown
  refine Go.cast (congrArg s₁.setTop (ef_cibF mm t o)) ?_
  have N0 := Fr.nil Z.heap.size
  have KP := Keep.refl h0 [t]
  show Go pp ee below _ (s₁.setTop (mkF mm 0 #[.val (.ref t), .val (.ref o)] []))
  refine Go.aloadN X0 hx (hb hby d28_0) rfl rfl (q := 1) rfl ?_
  refine Go.aloadN X0 hx (hb hby d28_1) rfl rfl (q := 2) rfl ?_
  refine Go.aconst_null X0 hx (hb hby d28_2) (q := 3) rfl ?_
  refine Go.init X0 hx hZ hown rfl (wd157 hw) (wd158 hw) (wd6 hw) (wd159 hw) (by decide) (ciaF l Z a0 hw t o cs v (kv) (ds) h0 O0 Es Fs Cs g_t nto Eo F0 F1 F2 Ev Vv ntv SCS hcs) e0 (by rw [hml]; rfl) (hb hby d28_3) (argsL := [(.ref o), .null]) (rest := []) (lenOf pd19 rfl) rfl rfl (W := 0) (Nat.le_refl _) (by decide) ?_
  intro v101 T101 L101 X101 hQ101
  obtain ⟨h101, e101⟩ : ∃ z, T101.heap = z := ⟨_, rfl⟩
  rw [e101] at hQ101
  obtain ⟨u_101, ku_101, rfl, N101q, K101, fr101_u, P101_0, P101_1, P101_2⟩ := hQ101
  have N101 := Fr.app N0 N101q
  have ne_t_u_101 : t ≠ u_101 := ne_new Es.lt fr101_u
  have ne_o_u_101 : o ≠ u_101 := ne_new Eo.lt fr101_u
  have ne_v_u_101 : v ≠ u_101 := ne_new Ev.lt fr101_u
  have g_u_101 : Z.heap.size ≤ u_101 := Nat.le_trans O0.1 fr101_u
  have z_u_101 : h0.size ≤ u_101 := Nat.le_trans KP.1 fr101_u
  replace Es := Es.keep K101
  replace Eo := Eo.keep K101
  replace F0 := F0.keep K101 (ninS (Ne.symm nto) nin0)
  replace F1 := F1.keep K101 (ninS (Ne.symm nto) nin0)
  replace F2 := F2.keep K101 (ninS (Ne.symm nto) nin0)
  replace Ev := Ev.keep K101
  replace Vv := Vv.keep K101 (ninS (Ne.symm ntv) nin0)
  have OK101 := ext_keep O0 K101 (allS g_t all0)
  replace KP := KP.trans K101 (allS (Or.inl (List.mem_of_getElem? (i := 0) rfl)) all0)
  exact Go.retV X101 hx hret hlk (hb hby d28_6) e101 (by decide) (by decide) ⟨u_101, ku_101, rfl, N101, KP, z_u_101, P101_0, P101_1, P101_2⟩
def Q_ctsF (Z : State) (o : Addr) (cs : Int32) (v : Addr) (kv : ClassId) (ds : List Value) (h0 : Heap) (vR : Option Value) (hR : Heap) (LR : List Loc) : Prop := ∃ t : Addr, ∃ u : Addr, ∃ ku : ClassId, vR = some (.ref t) ∧ Fr Z.heap.size LR ∧ Keep h0 hR [] ∧ h0.size ≤ t ∧ h0.size ≤ u ∧ Exa Z hR t xS0 ∧ Fld Z hR t xS0 "value" "[B" (.ref u) ∧ Fld Z hR t xS0 "coder" "B" (.int 0) ∧ Arv Z hR u ku .byte (16 : Int32) ds (.int 0)
theorem ctsF (l : Launch) (Z : State) (a0 : Array Value) (hw : ∀ d ∈ tables_1, d.before a0 Z = true) (o : Addr) (cs : Int32) (v : Addr) (kv : ClassId) (ds : List Value) (h0 : Heap) (O0 : Ext Z.heap h0) (Eo : Exa Z h0 o xS4) (F0 : Fld Z h0 o xS1 "value" "[B" (.ref v)) (F1 : Fld Z h0 o xS1 "coder" "B" (.int 0)) (F2 : Fld Z h0 o xS1 "count" "I" (.int 16)) (Ev : Exa Z h0 v "[B") (Vv : Arv Z h0 v kv .byte (16 : Int32) ds (.int 0)) (SCS : Sta Z Z.heap xS0 xS3 "Z" (.int cs)) (hcs : ¬ (cs = (0 : Int32))) :
    Ctr l Z h0 (⟨xS4, "toString", "()Ljava/lang/String;"⟩ : MethodName) k27 1 (some (.object xS0)) [] ({ frames := 4, cells := 2, slots := 20, locals := 59 } : Room) #[(.ref o)] (Q_ctsF Z o cs v kv ds h0) := by
  refine enter (plainFor_of_name pn5) ?_
  intro pp ee ss mm below meth cc s₁ hx hby hml hZ hown hnm hret hlk X0 e0 hs0
  replace hown : ss.vm.findClass xS4 = some mm.cls := hown
  refine Go.cast (congrArg s₁.setTop (ef_ctsF mm o)) ?_
  have N0 := Fr.nil Z.heap.size
  have KP := Keep.refl h0 []
  show Go pp ee below _ (s₁.setTop (mkF mm 0 #[.val (.ref o)] []))
  refine Go.newO X0 hx hZ hown (wd153 hw) (wd5 hw) (wd6 hw) e0 (hb hby d27_0) (by decide) (by decide) (q := 3) rfl ?_
  intro b101 T101 h101 X101 e101 q101 E101 A101 D101 U101
  have ne_o_b101 : o ≠ b101 := ne_new Eo.lt (Nat.le_of_eq q101)
  have ne_v_b101 : v ≠ b101 := ne_new Ev.lt (Nat.le_of_eq q101)
  have g_b101 : Z.heap.size ≤ b101 := Nat.le_trans O0.1 (Nat.le_of_eq q101)
  have z_b101 : h0.size ≤ b101 := Nat.le_trans KP.1 (Nat.le_of_eq q101)
  replace Eo := Eo.ext E101
  replace F0 := F0.ext E101
  replace F1 := F1.ext E101
  replace F2 := F2.ext E101
  replace Ev := Ev.ext E101
  replace Vv := Vv.ext E101
  have OE101 := ext_trans O0 E101
  replace KP := KP.ext E101
  have F101_value : Fld Z h101 b101 xS0 "value" "[B" .null := D101 (Or.inr (wd20 hw)) (ty := (.array .byte)) (by decide)
  have F101_coder : Fld Z h101 b101 xS0 "coder" "B" (.int 0) := D101 (Or.inr (wd21 hw)) (ty := .byte) (by decide)
  clear D101
  refine Go.dup X101 hx (hb hby d27_3) rfl (q := 4) rfl ?_
  refine Go.aloadN X101 hx (hb hby d27_4) rfl rfl (q := 5) rfl ?_
  refine Go.init X101 hx hZ hown rfl (wd154 hw) (wd155 hw) (wd6 hw) (wd156 hw) (by decide) (cibF l Z a0 hw b101 o cs v (kv) (ds) h101 OE101 A101 F101_value F101_coder g_b101 (Ne.symm ne_o_b101) Eo F0 F1 F2 Ev Vv (Ne.symm ne_v_b101) SCS hcs) e101 (by rw [hml]; rfl) (hb hby d27_5) (argsL := [(.ref o)]) (rest := [(.ref b101)]) (lenOf pd20 rfl) rfl rfl (W := 1) (Nat.le_refl _) (by decide) ?_
  intro v102 T102 L102 X102 hQ102
  obtain ⟨h102, e102⟩ : ∃ z, T102.heap = z := ⟨_, rfl⟩
  rw [e102] at hQ102
  obtain ⟨u_102, ku_102, rfl, N102q, K102, fr102_u, P102_0, P102_1, P102_2⟩ := hQ102
  have N102 := Fr.app N0 N102q
  have ne_o_u_102 : o ≠ u_102 := ne_new Eo.lt fr102_u
  have ne_v_u_102 : v ≠ u_102 := ne_new Ev.lt fr102_u
  have ne_b101_u_102 : b101 ≠ u_102 := ne_new A101.lt fr102_u
  have g_u_102 : Z.heap.size ≤ u_102 := Nat.le_trans OE101.1 fr102_u
  have z_u_102 : h0.size ≤ u_102 := Nat.le_trans KP.1 fr102_u
  replace Eo := Eo.keep K102
  replace F0 := F0.keep K102 (ninS ne_o_b101 nin0)
  replace F1 := F1.keep K102 (ninS ne_o_b101 nin0)
  replace F2 := F2.keep K102 (ninS ne_o_b101 nin0)
  replace Ev := Ev.keep K102
  replace Vv := Vv.keep K102 (ninS ne_v_b101 nin0)
  replace A101 := A101.keep K102
  have OK102 := ext_keep OE101 K102 (allS g_b101 all0)
  replace KP := KP.trans K102 (allS (Or.inr z_b101) all0)
  exact Go.retA X102 hx hret hlk rfl rfl (hb hby d27_8) e102 (by decide) (by decide) ⟨b101, u_102, ku_102, rfl, N102, KP, z_b101, z_u_102, A101, P102_0, P102_1, P102_2⟩
def Q_cth1 (Z : State) (x w au an : Addr) (h0 : Heap) (vR : Option Value) (hR : Heap) (LR : List Loc) : Prop := vR = none ∧ Fr Z.heap.size LR ∧ Keep h0 hR [x] ∧ Fld Z hR x xS2 "detailMessage" "Ljava/lang/String;" (.ref w)
theorem cth1 (l : Launch) (Z : State) (a0 : Array Value) (hw : ∀ d ∈ tables_1, d.before a0 Z = true) (x w au an : Addr) (h0 : Heap) (O0 : Ext Z.heap h0) (Ex : Exa Z h0 x xS8) (Ux : Unt h0 x) (g_x : Z.heap.size ≤ x) (FC : Fld Z h0 x xS2 "cause" "Ljava/lang/Throwable;" .null) (FS : Fld Z h0 x xS2 "stackTrace" xS7 .null) (FP : Fld Z h0 x xS2 "suppressedExceptions" "Ljava/util/List;" .null) (FB : Fld Z h0 x xS2 "backtrace" "Ljava/lang/Object;" .null) (FM : Fld Z h0 x xS2 "detailMessage" "Ljava/lang/String;" .null) (SU : Sta Z Z.heap xS2 "UNASSIGNED_STACK" xS7 (.ref au)) (SN : Sta Z Z.heap xS2 "SUPPRESSED_SENTINEL" "Ljava/util/List;" (.ref an)) (hlt : l.stackTraces = true) :
    CtrK l Z consts_1 h0 (⟨xS2, "<init>", "(Ljava/lang/String;)V"⟩ : MethodName) k39 2 none [] ({ frames := 3, cells := 1, slots := 2752, locals := 42 } : Room) #[(.ref x), (.ref w)] (Q_cth1 Z x w au an h0) := by
  refine enterK (plainFor_of_name pn7) ?_
  intro pp ee ss mm below meth cc s₁ hx hby hml hZ hown hnm hret hlk X0 e0 hs0 hS hC hKn
  replace hown : (ss.setVm ss.vm).vm.findClass xS2 = some mm.cls := hown
  have hKd := Nat.zero_le h0.size
  refine Go.cast (congrArg s₁.setTop (ef_cth1 mm x w)) ?_
  have N0 := Fr.nil Z.heap.size
  have KP := Keep.refl h0 [x]
  show Go pp ee below _ (s₁.setTop (mkF mm 0 #[.val (.ref x), .val (.ref w)] []))
  refine Go.aloadN X0 hx (hb hby d39_0) rfl rfl (q := 1) rfl ?_
  refine Go.initO X0 hx hZ hown (wd201 hw) (wd16 hw) (wd17 hw) e0 (by rw [hml]; rfl) (hb hby d39_1) (by decide) (W := 0) (by exact Nat.le_refl _) (by decide) (q := 4) rfl ?_
  intro T101 X101 e101
  refine Go.aloadN X101 hx (hb hby d39_4) rfl rfl (q := 5) rfl ?_
  refine Go.aloadN X101 hx (hb hby d39_5) rfl rfl (q := 6) rfl ?_
  refine Go.putF X101 hx hZ hown (host := "") (Or.inl (wd202 hw)) Via.refl e101 FC Ex (Or.inl (wd203 hw)) (wd45 hw) (ty := (.object xS2)) (by decide) rfl rfl (hb hby d39_6) (q := 9) rfl ?_
  intro T102 h102 X102 e102 W102 F102
  have N102 := Fr.snoc X102 N0 g_x
  replace hC := hC.trans (CHr.wr W102 (Safe.exa hZ.alike Ex (by decide) (by decide)) hC.1)
  replace Ex := Ex.wr W102
  replace Ux := Unt.wr W102 Ux
  replace FS := FS.other W102 (Or.inr (slot_ne (Or.inl (wd206 hw)) (Or.inl (wd203 hw)) (by decide) (t := (.array (.object "java/lang/StackTraceElement"))) (t' := (.object xS2)) (by decide) (by decide)))
  replace FP := FP.other W102 (Or.inr (slot_ne (Or.inl (wd209 hw)) (Or.inl (wd203 hw)) (by decide) (t := (.object "java/util/List")) (t' := (.object xS2)) (by decide) (by decide)))
  replace FB := FB.other W102 (Or.inr (slot_ne (Or.inl (wd234 hw)) (Or.inl (wd203 hw)) (by decide) (t := (.object "java/lang/Object")) (t' := (.object xS2)) (by decide) (by decide)))
  replace FM := FM.other W102 (Or.inr (slot_ne (Or.inl (wd233 hw)) (Or.inl (wd203 hw)) (by decide) (t := (.object xS0)) (t' := (.object xS2)) (by decide) (by decide)))
  have OW102 := ext_wr O0 W102 g_x
  replace hKd := Nat.le_trans hKd (Keep.of_wr W102).1
  replace KP := KP.wr W102 (Or.inl (List.mem_of_getElem? (i := 0) rfl))
  refine Go.aloadN X102 hx (hb hby d39_9) rfl rfl (q := 10) rfl ?_
  refine Go.getS X102 hx hZ hown (host := "") (Or.inl (wd204 hw)) Via.refl e102 (SU.ext OW102) (hb hby d39_10) (q := 13) rfl ?_
  intro T103 X103 e103
  refine Go.putF X103 hx hZ hown (host := "") (Or.inl (wd205 hw)) Via.refl e103 FS Ex (Or.inl (wd206 hw)) (wd45 hw) (ty := (.array (.object "java/lang/StackTraceElement"))) (by decide) rfl rfl (hb hby d39_13) (q := 16) rfl ?_
  intro T104 h104 X104 e104 W104 F104
  have N104 := Fr.snoc X104 N102 g_x
  replace hC := hC.trans (CHr.wr W104 (Safe.exa hZ.alike Ex (by decide) (by decide)) hC.1)
  replace Ex := Ex.wr W104
  replace Ux := Unt.wr W104 Ux
  replace FP := FP.other W104 (Or.inr (slot_ne (Or.inl (wd209 hw)) (Or.inl (wd206 hw)) (by decide) (t := (.object "java/util/List")) (t' := (.array (.object "java/lang/StackTraceElement"))) (by decide) (by decide)))
  replace FB := FB.other W104 (Or.inr (slot_ne (Or.inl (wd234 hw)) (Or.inl (wd206 hw)) (by decide) (t := (.object "java/lang/Object")) (t' := (.array (.object "java/lang/StackTraceElement"))) (by decide) (by decide)))
  replace FM := FM.other W104 (Or.inr (slot_ne (Or.inl (wd233 hw)) (Or.inl (wd206 hw)) (by decide) (t := (.object xS0)) (t' := (.array (.object "java/lang/StackTraceElement"))) (by decide) (by decide)))
  replace F102 := F102.other W104 (Or.inr (slot_ne (Or.inl (wd203 hw)) (Or.inl (wd206 hw)) (by decide) (t := (.object xS2)) (t' := (.array (.object "java/lang/StackTraceElement"))) (by decide) (by decide)))
  have OW104 := ext_wr OW102 W104 g_x
  replace hKd := Nat.le_trans hKd (Keep.of_wr W104).1
  replace KP := KP.wr W104 (Or.inl (List.mem_of_getElem? (i := 0) rfl))
  refine Go.aloadN X104 hx (hb hby d39_16) rfl rfl (q := 17) rfl ?_
  refine Go.getS X104 hx hZ hown (host := "") (Or.inl (wd207 hw)) Via.refl e104 (SN.ext OW104) (hb hby d39_17) (q := 20) rfl ?_
  intro T105 X105 e105
  refine Go.putF X105 hx hZ hown (host := "") (Or.inl (wd208 hw)) Via.refl e105 FP Ex (Or.inl (wd209 hw)) (wd45 hw) (ty := (.object "java/util/List")) (by decide) rfl rfl (hb hby d39_20) (q := 23) rfl ?_
  intro T106 h106 X106 e106 W106 F106
  have N106 := Fr.snoc X106 N104 g_x
  replace hC := hC.trans (CHr.wr W106 (Safe.exa hZ.alike Ex (by decide) (by decide)) hC.1)
  replace Ex := Ex.wr W106
  replace Ux := Unt.wr W106 Ux
  replace FB := FB.other W106 (Or.inr (slot_ne (Or.inl (wd234 hw)) (Or.inl (wd209 hw)) (by decide) (t := (.object "java/lang/Object")) (t' := (.object "java/util/List")) (by decide) (by decide)))
  replace FM := FM.other W106 (Or.inr (slot_ne (Or.inl (wd233 hw)) (Or.inl (wd209 hw)) (by decide) (t := (.object xS0)) (t' := (.object "java/util/List")) (by decide) (by decide)))
  replace F102 := F102.other W106 (Or.inr (slot_ne (Or.inl (wd203 hw)) (Or.inl (wd209 hw)) (by decide) (t := (.object xS2)) (t' := (.object "java/util/List")) (by decide) (by decide)))
  replace F104 := F104.other W106 (Or.inr (slot_ne (Or.inl (wd206 hw)) (Or.inl (wd209 hw)) (by decide) (t := (.array (.object "java/lang/StackTraceElement"))) (t' := (.object "java/util/List")) (by decide) (by decide)))
  have OW106 := ext_wr OW104 W106 g_x
  replace hKd := Nat.le_trans hKd (Keep.of_wr W106).1
  replace KP := KP.wr W106 (Or.inl (List.mem_of_getElem? (i := 0) rfl))
  refine Go.aloadN X106 hx (hb hby d39_23) rfl rfl (q := 24) rfl ?_
  have hz : h106.size = h0.size := by rw [own_wrsz W106, own_wrsz W104, own_wrsz W102]
  refine Go.fill X106 hx hlt hZ hown hS hKn (own_fa hw) (wd45 hw) hs0 O0 OW106 e106 KP hz (by simp) Ex Ux FB F104 SU (by rw [hml]; rfl) (hb hby d39_24) (by decide) (W0 := 0) (by exact Nat.le_refl _) (by decide) (by decide) (by decide) (q := 27) rfl ?_
  intro T107 h107 L107 v107 X107 e107 lb107 K107 F107
  have N107 := Fr.app N106 (fun y z => (lb107 y z).symm ▸ g_x)
  replace hKd := Nat.le_trans hKd K107.1
  have hSk : ∀ xq ∈ [x], Safe Z consts_1 ss.vm h106 xq := (allS (Safe.exa hZ.alike Ex (by decide) (by decide)) all0)
  replace hC := hC.trans (CHr.keep K107 hSk hC.1)
  replace Ex := Ex.keep K107
  have OK107 := ext_keep OW106 K107 (allS g_x all0)
  replace KP := KP.trans K107 (allS (Or.inl (List.mem_of_getElem? (i := 0) rfl)) all0)
  refine Go.pop X107 hx (hb hby d39_27) rfl (q := 28) rfl ?_
  refine Go.aloadN X107 hx (hb hby d39_28) rfl rfl (q := 29) rfl ?_
  refine Go.aloadN X107 hx (hb hby d39_29) rfl rfl (q := 30) rfl ?_
  refine Go.putF X107 hx hZ hown (host := "") (Or.inl (wd237 hw)) Via.refl e107 F107 Ex (Or.inl (wd233 hw)) (wd45 hw) (ty := (.object xS0)) (by decide) rfl rfl (hb hby d39_30) (q := 33) rfl ?_
  intro T108 h108 X108 e108 W108 F108
  have N108 := Fr.snoc X108 N107 g_x
  replace hC := hC.trans (CHr.wr W108 (Safe.exa hZ.alike Ex (by decide) (by decide)) hC.1)
  replace Ex := Ex.wr W108
  have OW108 := ext_wr OK107 W108 g_x
  replace hKd := Nat.le_trans hKd (Keep.of_wr W108).1
  replace KP := KP.wr W108 (Or.inl (List.mem_of_getElem? (i := 0) rfl))
  exact Go.retVH X108 hx hS hKd hs0 hZ (own_EW hw) hC hret hlk (hb hby d39_33) e108 (by decide) (by decide) ⟨rfl, N108, KP, F108⟩
def Q_cxc1 (Z : State) (x w au an : Addr) (h0 : Heap) (vR : Option Value) (hR : Heap) (LR : List Loc) : Prop := vR = none ∧ Fr Z.heap.size LR ∧ Keep h0 hR [x] ∧ Fld Z hR x xS2 "detailMessage" "Ljava/lang/String;" (.ref w)
theorem cxc1 (l : Launch) (Z : State) (a0 : Array Value) (hw : ∀ d ∈ tables_1, d.before a0 Z = true) (x w au an : Addr) (h0 : Heap) (O0 : Ext Z.heap h0) (Ex : Exa Z h0 x xS8) (Ux : Unt h0 x) (g_x : Z.heap.size ≤ x) (FC : Fld Z h0 x xS2 "cause" "Ljava/lang/Throwable;" .null) (FS : Fld Z h0 x xS2 "stackTrace" xS7 .null) (FP : Fld Z h0 x xS2 "suppressedExceptions" "Ljava/util/List;" .null) (FB : Fld Z h0 x xS2 "backtrace" "Ljava/lang/Object;" .null) (FM : Fld Z h0 x xS2 "detailMessage" "Ljava/lang/String;" .null) (SU : Sta Z Z.heap xS2 "UNASSIGNED_STACK" xS7 (.ref au)) (SN : Sta Z Z.heap xS2 "SUPPRESSED_SENTINEL" "Ljava/util/List;" (.ref an)) (hlt : l.stackTraces = true) :
    CtrK l Z consts_1 h0 (⟨"java/lang/Exception", "<init>", "(Ljava/lang/String;)V"⟩ : MethodName) k38 2 none [] ({ frames := 4, cells := 1, slots := 2752, locals := 55 } : Room) #[(.ref x), (.ref w)] (Q_cxc1 Z x w au an h0) := by
  refine enterK (plainFor_of_name pn8) ?_
  intro pp ee ss mm below meth cc s₁ hx hby hml hZ hown hnm hret hlk X0 e0 hs0 hS hC hKn
  replace hown : (ss.setVm ss.vm).vm.findClass "java/lang/Exception" = some mm.cls := hown
  have hKd := Nat.zero_le h0.size
  refine Go.cast (congrArg s₁.setTop (ef_cxc1 mm x w)) ?_
  have N0 := Fr.nil Z.heap.size
  have KP := Keep.refl h0 [x]
  show Go pp ee below _ (s₁.setTop (mkF mm 0 #[.val (.ref x), .val (.ref w)] []))
  refine Go.aloadN X0 hx (hb hby d38_0) rfl rfl (q := 1) rfl ?_
  refine Go.aloadN X0 hx (hb hby d38_1) rfl rfl (q := 2) rfl ?_
  refine Go.initK X0 hx hZ hown hS hKd (own_EW hw) hC hKn rfl (wd195 hw) (wd196 hw) (wd199 hw) (wd200 hw) (by decide) (cth1 l Z a0 hw x w au an h0 O0 Ex Ux g_x FC FS FP FB FM SU SN hlt) e0 (by rw [hml]; rfl) (hb hby d38_2) (argsL := [(.ref w)]) (rest := []) (lenOf pd10 rfl) rfl rfl (W := 0) (Nat.le_refl _) (by decide) ?_
  intro v101 T101 L101 k101 X101 hS hKd hZ hown hR101 hQ101
  obtain ⟨h101, e101⟩ : ∃ z, T101.heap = z := ⟨_, rfl⟩
  rw [e101] at hQ101 hKd hR101
  obtain ⟨rfl, N101q, K101, P101_0⟩ := hQ101
  have N101 := Fr.app N0 N101q
  replace hC := hC.trans hR101
  replace Ex := Ex.keep K101
  have OK101 := ext_keep O0 K101 (allS g_x all0)
  replace KP := KP.trans K101 (allS (Or.inl (List.mem_of_getElem? (i := 0) rfl)) all0)
  exact Go.retVH X101 hx hS hKd hs0 hZ (own_EW hw) hC hret hlk (hb hby d38_5) e101 (by decide) (by decide) ⟨rfl, N101, KP, P101_0⟩
def Q_cux1 (Z : State) (x w au an : Addr) (h0 : Heap) (vR : Option Value) (hR : Heap) (LR : List Loc) : Prop := vR = none ∧ Fr Z.heap.size LR ∧ Keep h0 hR [x] ∧ Fld Z hR x xS2 "detailMessage" "Ljava/lang/String;" (.ref w)
theorem cux1 (l : Launch) (Z : State) (a0 : Array Value) (hw : ∀ d ∈ tables_1, d.before a0 Z = true) (x w au an : Addr) (h0 : Heap) (O0 : Ext Z.heap h0) (Ex : Exa Z h0 x xS8) (Ux : Unt h0 x) (g_x : Z.heap.size ≤ x) (FC : Fld Z h0 x xS2 "cause" "Ljava/lang/Throwable;" .null) (FS : Fld Z h0 x xS2 "stackTrace" xS7 .null) (FP : Fld Z h0 x xS2 "suppressedExceptions" "Ljava/util/List;" .null) (FB : Fld Z h0 x xS2 "backtrace" "Ljava/lang/Object;" .null) (FM : Fld Z h0 x xS2 "detailMessage" "Ljava/lang/String;" .null) (SU : Sta Z Z.heap xS2 "UNASSIGNED_STACK" xS7 (.ref au)) (SN : Sta Z Z.heap xS2 "SUPPRESSED_SENTINEL" "Ljava/util/List;" (.ref an)) (hlt : l.stackTraces = true) :
    CtrK l Z consts_1 h0 (⟨xS8, "<init>", "(Ljava/lang/String;)V"⟩ : MethodName) k37 2 none [] ({ frames := 5, cells := 1, slots := 2752, locals := 68 } : Room) #[(.ref x), (.ref w)] (Q_cux1 Z x w au an h0) := by
  refine enterK (plainFor_of_name pn9) ?_
  intro pp ee ss mm below meth cc s₁ hx hby hml hZ hown hnm hret hlk X0 e0 hs0 hS hC hKn
  replace hown : (ss.setVm ss.vm).vm.findClass xS8 = some mm.cls := hown
  have hKd := Nat.zero_le h0.size
  refine Go.cast (congrArg s₁.setTop (ef_cux1 mm x w)) ?_
  have N0 := Fr.nil Z.heap.size
  have KP := Keep.refl h0 [x]
  show Go pp ee below _ (s₁.setTop (mkF mm 0 #[.val (.ref x), .val (.ref w)] []))
  refine Go.aloadN X0 hx (hb hby d37_0) rfl rfl (q := 1) rfl ?_
  refine Go.aloadN X0 hx (hb hby d37_1) rfl rfl (q := 2) rfl ?_
  refine Go.initK X0 hx hZ hown hS hKd (own_EW hw) hC hKn rfl (wd190 hw) (wd191 hw) (wd193 hw) (wd194 hw) (by decide) (cxc1 l Z a0 hw x w au an h0 O0 Ex Ux g_x FC FS FP FB FM SU SN hlt) e0 (by rw [hml]; rfl) (hb hby d37_2) (argsL := [(.ref w)]) (rest := []) (lenOf pd10 rfl) rfl rfl (W := 0) (Nat.le_refl _) (by decide) ?_
  intro v101 T101 L101 k101 X101 hS hKd hZ hown hR101 hQ101
  obtain ⟨h101, e101⟩ : ∃ z, T101.heap = z := ⟨_, rfl⟩
  rw [e101] at hQ101 hKd hR101
  obtain ⟨rfl, N101q, K101, P101_0⟩ := hQ101
  have N101 := Fr.app N0 N101q
  replace hC := hC.trans hR101
  replace Ex := Ex.keep K101
  have OK101 := ext_keep O0 K101 (allS g_x all0)
  replace KP := KP.trans K101 (allS (Or.inl (List.mem_of_getElem? (i := 0) rfl)) all0)
  exact Go.retVH X101 hx hS hKd hs0 hZ (own_EW hw) hC hret hlk (hb hby d37_5) e101 (by decide) (by decide) ⟨rfl, N101, KP, P101_0⟩
def Q_cunF (Z : State) (s v : Addr) (kv : ClassId) (cs : Int32) (au an : Addr) (y0 : Int32) (us oa : List Value) (h0 : Heap) (vR : Option Value) (hR : Heap) (LR : List Loc) : Prop := ∃ x : Addr, ∃ w : Addr, ∃ u : Addr, ∃ ku : ClassId, vR = some (.ref x) ∧ Fr Z.heap.size LR ∧ Keep h0 hR [] ∧ h0.size ≤ w ∧ h0.size ≤ u ∧ Exa Z hR x xS8 ∧ Fld Z hR x xS2 "detailMessage" "Ljava/lang/String;" (.ref w) ∧ Exa Z hR w xS0 ∧ Fld Z hR w xS0 "coder" "B" (.int 0) ∧ Fld Z hR w xS0 "value" "[B" (.ref u) ∧ Arv Z hR u ku .byte (16 : Int32) oa (.int 0)
theorem cunF (l : Launch) (Z : State) (a0 : Array Value) (hw : ∀ d ∈ tables_1, d.before a0 Z = true) (s v : Addr) (kv : ClassId) (cs : Int32) (au an : Addr) (y0 : Int32) (us oa : List Value) (h0 : Heap) (O0 : Ext Z.heap h0) (Es : Exa Z h0 s xS0) (Cs : Fld Z h0 s xS0 "coder" "B" (.int 0)) (Fs : Fld Z h0 s xS0 "value" "[B" (.ref v)) (Vs : Arv Z h0 v kv .byte (3 : Int32) us (.int 0)) (SCS : Sta Z Z.heap xS0 xS3 "Z" (.int cs)) (SU : Sta Z Z.heap xS2 "UNASSIGNED_STACK" xS7 (.ref au)) (SN : Sta Z Z.heap xS2 "SUPPRESSED_SENTINEL" "Ljava/util/List;" (.ref an)) (hcs : ¬ (cs = (0 : Int32))) (hlt : l.stackTraces = true) (hn : (0 : Int32) < (3 : Int32)) (hl : ¬ (((3 : Int32) - (1 : Int32)) < (0 : Int32))) (hg : us.getD ((0 : Int32)).toNatClampNeg (.int (0 : Int32)) = (.int y0)) (he : y0 = (45 : Int32)) (hcp : Cpy (0 : Int32) (13 : Int32) (3 : Int32) (3 : Int32) (16 : Int32) us [(.int 117), (.int 110), (.int 107), (.int 110), (.int 111), (.int 119), (.int 110), (.int 32), (.int 102), (.int 108), (.int 97), (.int 103), (.int 32), (.int 0), (.int 0), (.int 0)] us oa) (hcap : ¬ ((0 : Int32) < (((13 : Int32) + (3 : Int32)) - (16 : Int32)))) :
    CtrK l Z consts_1 h0 (⟨"com/example/loopd/loopd/Flags", "unexpected", "(Ljava/lang/String;)Lcom/example/loopd/loopd/UsageException;"⟩ : MethodName) k9 1 (some (.object xS8)) [] ({ frames := 6, cells := 10, slots := 2862, locals := 82 } : Room) #[(.ref s)] (Q_cunF Z s v kv cs au an y0 us oa h0) := by
  refine enterK (plainFor_of_name pn10) ?_
  intro pp ee ss mm below meth cc s₁ hx hby hml hZ hown hnm hret hlk X0 e0 hs0 hS hC hKn
  replace hown : (ss.setVm ss.vm).vm.findClass "com/example/loopd/loopd/Flags" = some mm.cls := hown
  have hKd := Nat.zero_le h0.size
  refine Go.cast (congrArg s₁.setTop (ef_cunF mm s)) ?_
  have N0 := Fr.nil Z.heap.size
  have KP := Keep.refl h0 []
  show Go pp ee below _ (s₁.setTop (mkF mm 0 #[.val (.ref s)] []))
  refine Go.newO X0 hx hZ hown (wd44 hw) (wd45 hw) (wd46 hw) e0 (hb hby d9_0) (by decide) (by decide) (q := 3) rfl ?_
  intro b101 T101 h101 X101 e101 q101 E101 A101 D101 U101
  have ne_s_b101 : s ≠ b101 := ne_new Es.lt (Nat.le_of_eq q101)
  have ne_v_b101 : v ≠ b101 := ne_new Vs.lt (Nat.le_of_eq q101)
  have g_b101 : Z.heap.size ≤ b101 := Nat.le_trans O0.1 (Nat.le_of_eq q101)
  have sf_b101 : Safe Z consts_1 ss.vm h0 b101 := Safe.new (Nat.le_of_eq q101)
  have z_b101 : h0.size ≤ b101 := Nat.le_trans KP.1 (Nat.le_of_eq q101)
  replace sf_b101 := sf_b101.ext E101 hC.1
  replace hC := hC.trans (CHr.ext E101 hC.1)
  replace Es := Es.ext E101
  replace Cs := Cs.ext E101
  replace Fs := Fs.ext E101
  replace Vs := Vs.ext E101
  have OE101 := ext_trans O0 E101
  replace hKd := Nat.le_trans hKd E101.1
  replace KP := KP.ext E101
  have F101_cause : Fld Z h101 b101 xS2 "cause" "Ljava/lang/Throwable;" .null := D101 (Or.inl (wd203 hw)) (ty := (.object xS2)) (by decide)
  have F101_stackTrace : Fld Z h101 b101 xS2 "stackTrace" xS7 .null := D101 (Or.inl (wd206 hw)) (ty := (.array (.object "java/lang/StackTraceElement"))) (by decide)
  have F101_suppressedExceptions : Fld Z h101 b101 xS2 "suppressedExceptions" "Ljava/util/List;" .null := D101 (Or.inl (wd209 hw)) (ty := (.object "java/util/List")) (by decide)
  have F101_detailMessage : Fld Z h101 b101 xS2 "detailMessage" "Ljava/lang/String;" .null := D101 (Or.inl (wd233 hw)) (ty := (.object xS0)) (by decide)
  have F101_backtrace : Fld Z h101 b101 xS2 "backtrace" "Ljava/lang/Object;" .null := D101 (Or.inl (wd234 hw)) (ty := (.object "java/lang/Object")) (by decide)
  have F101_depth : Fld Z h101 b101 xS2 "depth" "I" (.int 0) := D101 (Or.inl (wd235 hw)) (ty := .int) (by decide)
  clear D101
  refine Go.dup X101 hx (hb hby d9_3) rfl (q := 4) rfl ?_
  refine Go.aloadN X101 hx (hb hby d9_4) rfl rfl (q := 5) rfl ?_
  refine Go.ldcH X101 hx hZ hown (wd47 hw) (own_wS hw) e101 hS hKd (own_EW hw) (List.mem_of_getElem? (i := 0) rfl) hC (vs := [(.int 45)]) (z := (1 : Int32)) ⟨by decide, rfl⟩ (by decide) rfl (hb hby d9_5) (nn := 4) (by decide) (by decide) (by decide) (by decide) (q := 7) rfl ?_
  intro b102 u102 kc102 T102 h102 k102 X102 e102 E102 hS hKd hZ hown B102 C102 F102 V102 hR102
  replace sf_b101 := hR102.safe A101.lt sf_b101
  replace hC := hC.trans hR102
  replace Es := Es.ext E102
  replace Cs := Cs.ext E102
  replace Fs := Fs.ext E102
  replace Vs := Vs.ext E102
  replace A101 := A101.ext E102
  replace U101 := U101.ext E102
  replace F101_cause := F101_cause.ext E102
  replace F101_stackTrace := F101_stackTrace.ext E102
  replace F101_suppressedExceptions := F101_suppressedExceptions.ext E102
  replace F101_detailMessage := F101_detailMessage.ext E102
  replace F101_backtrace := F101_backtrace.ext E102
  replace F101_depth := F101_depth.ext E102
  have OE102 := ext_trans OE101 E102
  replace KP := KP.ext E102
  have ne_s_u102 := Exa.neArv Es V102 (wd5 hw)
  have ne_b102_b101 := Exa.ne B102 A101 (by decide)
  have ne_b101_u102 := Exa.neArv A101 V102 (wd45 hw)
  refine Go.virt X102 hx hZ hown (wd48 hw) (wd49 hw) (notFace_of_selects (args := #[]) (mvT hZ (wd51 hw))) (wd51 hw) (wd50 hw) (wd6 hw) (wd52 hw) (by decide) (cswy l Z a0 hw s b102 cs v u102 (kv) (kc102) ((3 : Int32)) y0 (us) h102 OE102 Es B102 Cs C102 Fs F102 Vs V102 SCS hcs hn hg hl he) e102 Es (by rw [hml]; rfl) (hb hby d9_7) (argsL := [(.ref b102)]) (rest := [(.ref b101), (.ref b101)]) (lenOf pd24 rfl) rfl rfl (W := 2) (Nat.le_refl _) (by decide) ?_
  intro v103 T103 L103 X103 hQ103
  obtain ⟨rfl, N103q, e103⟩ := hQ103
  have N103 := Fr.app N0 N103q
  refine Go.ifNo X103 hx (hb hby d9_10) (by decide) (q := 13) rfl ?_
  refine Go.newO X103 hx hZ hown (wd68 hw) (wd69 hw) (wd70 hw) e103 (hb hby d9_13) (by decide) (by decide) (q := 16) rfl ?_
  intro b104 T104 h104 X104 e104 q104 E104 A104 D104 U104
  have ne_s_b104 : s ≠ b104 := ne_new Es.lt (Nat.le_of_eq q104)
  have ne_v_b104 : v ≠ b104 := ne_new Vs.lt (Nat.le_of_eq q104)
  have ne_b101_b104 : b101 ≠ b104 := ne_new A101.lt (Nat.le_of_eq q104)
  have ne_b102_b104 : b102 ≠ b104 := ne_new B102.lt (Nat.le_of_eq q104)
  have ne_u102_b104 : u102 ≠ b104 := ne_new V102.lt (Nat.le_of_eq q104)
  have g_b104 : Z.heap.size ≤ b104 := Nat.le_trans OE102.1 (Nat.le_of_eq q104)
  have sf_b104 : Safe Z consts_1 T102.vm h102 b104 := Safe.new (Nat.le_of_eq q104)
  have z_b104 : h0.size ≤ b104 := Nat.le_trans KP.1 (Nat.le_of_eq q104)
  replace sf_b101 := sf_b101.ext E104 hC.1
  replace sf_b104 := sf_b104.ext E104 hC.1
  replace hC := hC.trans (CHr.ext E104 hC.1)
  replace Es := Es.ext E104
  replace Cs := Cs.ext E104
  replace Fs := Fs.ext E104
  replace Vs := Vs.ext E104
  replace A101 := A101.ext E104
  replace U101 := U101.ext E104
  replace F101_cause := F101_cause.ext E104
  replace F101_stackTrace := F101_stackTrace.ext E104
  replace F101_suppressedExceptions := F101_suppressedExceptions.ext E104
  replace F101_detailMessage := F101_detailMessage.ext E104
  replace F101_backtrace := F101_backtrace.ext E104
  replace F101_depth := F101_depth.ext E104
  replace B102 := B102.ext E104
  replace C102 := C102.ext E104
  replace F102 := F102.ext E104
  replace V102 := V102.ext E104
  have OE104 := ext_trans OE102 E104
  replace hKd := Nat.le_trans hKd E104.1
  replace KP := KP.ext E104
  have F104_value : Fld Z h104 b104 xS1 "value" "[B" .null := D104 (Or.inl (wd83 hw)) (ty := (.array .byte)) (by decide)
  have F104_coder : Fld Z h104 b104 xS1 "coder" "B" (.int 0) := D104 (Or.inl (wd85 hw)) (ty := .byte) (by decide)
  have F104_count : Fld Z h104 b104 xS1 "count" "I" (.int 0) := D104 (Or.inl (wd99 hw)) (ty := .int) (by decide)
  clear D104
  refine Go.dup X104 hx (hb hby d9_16) rfl (q := 17) rfl ?_
  refine Go.init X104 hx hZ hown rfl (wd71 hw) (wd72 hw) (wd70 hw) (wd73 hw) (by decide) (csb l Z a0 hw b104 cs h104 OE104 A104 g_b104 F104_value F104_coder F104_count SCS hcs) e104 (by rw [hml]; rfl) (hb hby d9_17) (argsL := []) (rest := [(.ref b104), (.ref b101), (.ref b101)]) (lenOf pd25 rfl) rfl rfl (W := 3) (Nat.le_refl _) (by decide) ?_
  intro v105 T105 L105 X105 hQ105
  obtain ⟨h105, e105⟩ : ∃ z, T105.heap = z := ⟨_, rfl⟩
  rw [e105] at hQ105
  obtain ⟨v_105, kv_105, rfl, N105q, K105, fr105_v, P105_0, P105_1, P105_2, P105_3, P105_4⟩ := hQ105
  have N105 := Fr.app N103 N105q
  have ne_s_v_105 : s ≠ v_105 := ne_new Es.lt fr105_v
  have ne_v_v_105 : v ≠ v_105 := ne_new Vs.lt fr105_v
  have ne_b101_v_105 : b101 ≠ v_105 := ne_new A101.lt fr105_v
  have ne_b102_v_105 : b102 ≠ v_105 := ne_new B102.lt fr105_v
  have ne_u102_v_105 : u102 ≠ v_105 := ne_new V102.lt fr105_v
  have ne_b104_v_105 : b104 ≠ v_105 := ne_new A104.lt fr105_v
  have g_v_105 : Z.heap.size ≤ v_105 := Nat.le_trans OE104.1 fr105_v
  have sf_v_105 : Safe Z consts_1 T102.vm h104 v_105 := Safe.new fr105_v
  have z_v_105 : h0.size ≤ v_105 := Nat.le_trans KP.1 fr105_v
  replace hKd := Nat.le_trans hKd K105.1
  have hSk : ∀ xq ∈ [b104], Safe Z consts_1 T102.vm h104 xq := (allS sf_b104 all0)
  replace sf_b101 := Safe.keep K105 hSk hC.1 sf_b101
  replace sf_b104 := Safe.keep K105 hSk hC.1 sf_b104
  replace sf_v_105 := Safe.keep K105 hSk hC.1 sf_v_105
  replace hC := hC.trans (CHr.keep K105 hSk hC.1)
  replace Es := Es.keep K105
  replace Cs := Cs.keep K105 (ninS ne_s_b104 nin0)
  replace Fs := Fs.keep K105 (ninS ne_s_b104 nin0)
  replace Vs := Vs.keep K105 (ninS ne_v_b104 nin0)
  replace A101 := A101.keep K105
  replace U101 := Unt.keep K105 (ninS ne_b101_b104 nin0) U101
  replace F101_cause := F101_cause.keep K105 (ninS ne_b101_b104 nin0)
  replace F101_stackTrace := F101_stackTrace.keep K105 (ninS ne_b101_b104 nin0)
  replace F101_suppressedExceptions := F101_suppressedExceptions.keep K105 (ninS ne_b101_b104 nin0)
  replace F101_detailMessage := F101_detailMessage.keep K105 (ninS ne_b101_b104 nin0)
  replace F101_backtrace := F101_backtrace.keep K105 (ninS ne_b101_b104 nin0)
  replace F101_depth := F101_depth.keep K105 (ninS ne_b101_b104 nin0)
  replace B102 := B102.keep K105
  replace C102 := C102.keep K105 (ninS ne_b102_b104 nin0)
  replace F102 := F102.keep K105 (ninS ne_b102_b104 nin0)
  replace V102 := V102.keep K105 (ninS ne_u102_b104 nin0)
  replace A104 := A104.keep K105
  have OK105 := ext_keep OE104 K105 (allS g_b104 all0)
  replace KP := KP.trans K105 (allS (Or.inr z_b104) all0)
  refine Go.ldcH X105 hx hZ hown (wd257 hw) (own_wS hw) e105 hS hKd (own_EW hw) (List.mem_of_getElem? (i := 1) rfl) hC (vs := [(.int 117), (.int 110), (.int 107), (.int 110), (.int 111), (.int 119), (.int 110), (.int 32), (.int 102), (.int 108), (.int 97), (.int 103), (.int 32)]) (z := (13 : Int32)) ⟨by decide, rfl⟩ (by decide) rfl (hb hby d9_20) (nn := 52) (by decide) (by decide) (by decide) (by decide) (q := 22) rfl ?_
  intro b106 u106 kc106 T106 h106 k106 X106 e106 E106 hS hKd hZ hown B106 C106 F106 V106 hR106
  replace sf_b101 := hR106.safe A101.lt sf_b101
  replace sf_b104 := hR106.safe A104.lt sf_b104
  replace sf_v_105 := hR106.safe P105_3.lt sf_v_105
  replace hC := hC.trans hR106
  replace Es := Es.ext E106
  replace Cs := Cs.ext E106
  replace Fs := Fs.ext E106
  replace Vs := Vs.ext E106
  replace A101 := A101.ext E106
  replace U101 := U101.ext E106
  replace F101_cause := F101_cause.ext E106
  replace F101_stackTrace := F101_stackTrace.ext E106
  replace F101_suppressedExceptions := F101_suppressedExceptions.ext E106
  replace F101_detailMessage := F101_detailMessage.ext E106
  replace F101_backtrace := F101_backtrace.ext E106
  replace F101_depth := F101_depth.ext E106
  replace B102 := B102.ext E106
  replace C102 := C102.ext E106
  replace F102 := F102.ext E106
  replace V102 := V102.ext E106
  replace A104 := A104.ext E106
  replace P105_0 := P105_0.ext E106
  replace P105_1 := P105_1.ext E106
  replace P105_2 := P105_2.ext E106
  replace P105_3 := P105_3.ext E106
  replace P105_4 := P105_4.ext E106
  have OE106 := ext_trans OK105 E106
  replace KP := KP.ext E106
  have ne_s_u106 := Exa.neArv Es V106 (wd5 hw)
  have ne_b106_b101 := Exa.ne B106 A101 (by decide)
  have ne_b101_u106 := Exa.neArv A101 V106 (wd45 hw)
  have ne_b102_u106 := Exa.neArv B102 V106 (wd5 hw)
  have ne_b106_b104 := Exa.ne B106 A104 (by decide)
  have ne_b104_u106 := Exa.neArv A104 V106 (wd69 hw)
  have ne_b106_v_105 := Exa.ne B106 P105_3 (by decide)
  refine Go.virt X106 hx hZ hown (wd87 hw) (wd88 hw) (notFace_of_selects (args := #[]) (mvT hZ (wd90 hw))) (wd90 hw) (wd89 hw) (wd70 hw) (wd91 hw) (by decide) (cab l Z a0 hw b104 b106 u106 v_105 cs ((16 : Int32)) (kv_105) (kc106) ((0 : Int32)) ((13 : Int32)) ([(.int 117), (.int 110), (.int 107), (.int 110), (.int 111), (.int 119), (.int 110), (.int 32), (.int 102), (.int 108), (.int 97), (.int 103), (.int 32)]) ([(.int 0), (.int 0), (.int 0), (.int 0), (.int 0), (.int 0), (.int 0), (.int 0), (.int 0), (.int 0), (.int 0), (.int 0), (.int 0), (.int 0), (.int 0), (.int 0)]) ([(.int 117), (.int 110), (.int 107), (.int 110), (.int 111), (.int 119), (.int 110), (.int 32), (.int 102), (.int 108), (.int 97), (.int 103), (.int 32), (.int 0), (.int 0), (.int 0)]) h106 OE106 A104 P105_0 P105_1 P105_2 P105_4 g_v_105 g_b104 ne_b104_v_105 B106 C106 F106 V106 SCS hcs ⟨⟨by decide, by decide, by decide⟩, by decide, by decide, rfl, Nat.le_of_ble_eq_true rfl, rfl⟩ (by decide)) e106 A104 (by rw [hml]; rfl) (hb hby d9_22) (argsL := [(.ref b106)]) (rest := [(.ref b101), (.ref b101)]) (lenOf pd26 rfl) rfl rfl (W := 2) (Nat.le_refl _) (by decide) ?_
  intro v107 T107 L107 X107 hQ107
  obtain ⟨h107, e107⟩ : ∃ z, T107.heap = z := ⟨_, rfl⟩
  rw [e107] at hQ107
  obtain ⟨rfl, N107q, K107, P107_0, P107_1, P107_2, P107_3⟩ := hQ107
  have N107 := Fr.app N105 N107q
  replace hKd := Nat.le_trans hKd K107.1
  have hSk : ∀ xq ∈ [b104, v_105], Safe Z consts_1 T106.vm h106 xq := (allS sf_b104 (allS sf_v_105 all0))
  replace sf_b101 := Safe.keep K107 hSk hC.1 sf_b101
  replace sf_b104 := Safe.keep K107 hSk hC.1 sf_b104
  replace sf_v_105 := Safe.keep K107 hSk hC.1 sf_v_105
  replace hC := hC.trans (CHr.keep K107 hSk hC.1)
  replace Es := Es.keep K107
  replace Cs := Cs.keep K107 (ninS ne_s_b104 (ninS ne_s_v_105 nin0))
  replace Fs := Fs.keep K107 (ninS ne_s_b104 (ninS ne_s_v_105 nin0))
  replace Vs := Vs.keep K107 (ninS ne_v_b104 (ninS ne_v_v_105 nin0))
  replace A101 := A101.keep K107
  replace U101 := Unt.keep K107 (ninS ne_b101_b104 (ninS ne_b101_v_105 nin0)) U101
  replace F101_cause := F101_cause.keep K107 (ninS ne_b101_b104 (ninS ne_b101_v_105 nin0))
  replace F101_stackTrace := F101_stackTrace.keep K107 (ninS ne_b101_b104 (ninS ne_b101_v_105 nin0))
  replace F101_suppressedExceptions := F101_suppressedExceptions.keep K107 (ninS ne_b101_b104 (ninS ne_b101_v_105 nin0))
  replace F101_detailMessage := F101_detailMessage.keep K107 (ninS ne_b101_b104 (ninS ne_b101_v_105 nin0))
  replace F101_backtrace := F101_backtrace.keep K107 (ninS ne_b101_b104 (ninS ne_b101_v_105 nin0))
  replace F101_depth := F101_depth.keep K107 (ninS ne_b101_b104 (ninS ne_b101_v_105 nin0))
  replace B102 := B102.keep K107
  replace C102 := C102.keep K107 (ninS ne_b102_b104 (ninS ne_b102_v_105 nin0))
  replace F102 := F102.keep K107 (ninS ne_b102_b104 (ninS ne_b102_v_105 nin0))
  replace V102 := V102.keep K107 (ninS ne_u102_b104 (ninS ne_u102_v_105 nin0))
  replace A104 := A104.keep K107
  replace P105_3 := P105_3.keep K107
  replace B106 := B106.keep K107
  replace C106 := C106.keep K107 (ninS ne_b106_b104 (ninS ne_b106_v_105 nin0))
  replace F106 := F106.keep K107 (ninS ne_b106_b104 (ninS ne_b106_v_105 nin0))
  have OK107 := ext_keep OE106 K107 (allS g_b104 (allS g_v_105 all0))
  replace KP := KP.trans K107 (allS (Or.inr z_b104) (allS (Or.inr z_v_105) all0))
  refine Go.aloadN X107 hx (hb hby d9_25) rfl rfl (q := 26) rfl ?_
  refine Go.virt X107 hx hZ hown (wd87 hw) (wd88 hw) (notFace_of_selects (args := #[]) (mvT hZ (wd90 hw))) (wd90 hw) (wd89 hw) (wd70 hw) (wd91 hw) (by decide) (cab l Z a0 hw b104 s v v_105 cs ((16 : Int32)) (kv_105) (kv) ((13 : Int32)) ((3 : Int32)) (us) ([(.int 117), (.int 110), (.int 107), (.int 110), (.int 111), (.int 119), (.int 110), (.int 32), (.int 102), (.int 108), (.int 97), (.int 103), (.int 32), (.int 0), (.int 0), (.int 0)]) (oa) h107 OK107 A104 P107_0 P107_1 P107_2 P107_3 g_v_105 g_b104 ne_b104_v_105 Es Cs Fs Vs SCS hcs hcp hcap) e107 A104 (by rw [hml]; rfl) (hb hby d9_26) (argsL := [(.ref s)]) (rest := [(.ref b101), (.ref b101)]) (lenOf pd26 rfl) rfl rfl (W := 2) (Nat.le_refl _) (by decide) ?_
  intro v108 T108 L108 X108 hQ108
  obtain ⟨h108, e108⟩ : ∃ z, T108.heap = z := ⟨_, rfl⟩
  rw [e108] at hQ108
  obtain ⟨rfl, N108q, K108, P108_0, P108_1, P108_2, P108_3⟩ := hQ108
  have N108 := Fr.app N107 N108q
  replace hKd := Nat.le_trans hKd K108.1
  have hSk : ∀ xq ∈ [b104, v_105], Safe Z consts_1 T106.vm h107 xq := (allS sf_b104 (allS sf_v_105 all0))
  replace sf_b101 := Safe.keep K108 hSk hC.1 sf_b101
  replace sf_b104 := Safe.keep K108 hSk hC.1 sf_b104
  replace sf_v_105 := Safe.keep K108 hSk hC.1 sf_v_105
  replace hC := hC.trans (CHr.keep K108 hSk hC.1)
  replace Es := Es.keep K108
  replace Cs := Cs.keep K108 (ninS ne_s_b104 (ninS ne_s_v_105 nin0))
  replace Fs := Fs.keep K108 (ninS ne_s_b104 (ninS ne_s_v_105 nin0))
  replace Vs := Vs.keep K108 (ninS ne_v_b104 (ninS ne_v_v_105 nin0))
  replace A101 := A101.keep K108
  replace U101 := Unt.keep K108 (ninS ne_b101_b104 (ninS ne_b101_v_105 nin0)) U101
  replace F101_cause := F101_cause.keep K108 (ninS ne_b101_b104 (ninS ne_b101_v_105 nin0))
  replace F101_stackTrace := F101_stackTrace.keep K108 (ninS ne_b101_b104 (ninS ne_b101_v_105 nin0))
  replace F101_suppressedExceptions := F101_suppressedExceptions.keep K108 (ninS ne_b101_b104 (ninS ne_b101_v_105 nin0))
  replace F101_detailMessage := F101_detailMessage.keep K108 (ninS ne_b101_b104 (ninS ne_b101_v_105 nin0))
  replace F101_backtrace := F101_backtrace.keep K108 (ninS ne_b101_b104 (ninS ne_b101_v_105 nin0))
  replace F101_depth := F101_depth.keep K108 (ninS ne_b101_b104 (ninS ne_b101_v_105 nin0))
  replace B102 := B102.keep K108
  replace C102 := C102.keep K108 (ninS ne_b102_b104 (ninS ne_b102_v_105 nin0))
  replace F102 := F102.keep K108 (ninS ne_b102_b104 (ninS ne_b102_v_105 nin0))
  replace V102 := V102.keep K108 (ninS ne_u102_b104 (ninS ne_u102_v_105 nin0))
  replace A104 := A104.keep K108
  replace P105_3 := P105_3.keep K108
  replace B106 := B106.keep K108
  replace C106 := C106.keep K108 (ninS ne_b106_b104 (ninS ne_b106_v_105 nin0))
  replace F106 := F106.keep K108 (ninS ne_b106_b104 (ninS ne_b106_v_105 nin0))
  have OK108 := ext_keep OK107 K108 (allS g_b104 (allS g_v_105 all0))
  replace KP := KP.trans K108 (allS (Or.inr z_b104) (allS (Or.inr z_v_105) all0))
  refine Go.virt X108 hx hZ hown (wd148 hw) (wd149 hw) (notFace_of_selects (args := #[]) (mvT hZ (wd151 hw))) (wd151 hw) (wd150 hw) (wd70 hw) (wd152 hw) (by decide) (ctsF l Z a0 hw b104 cs v_105 (kv_105) (oa) h108 OK108 A104 P108_0 P108_1 P108_2 P105_3 P108_3 SCS hcs) e108 A104 (by rw [hml]; rfl) (hb hby d9_29) (argsL := []) (rest := [(.ref b101), (.ref b101)]) (lenOf pd27 rfl) rfl rfl (W := 2) (Nat.le_refl _) (by decide) ?_
  intro v109 T109 L109 X109 hQ109
  obtain ⟨h109, e109⟩ : ∃ z, T109.heap = z := ⟨_, rfl⟩
  rw [e109] at hQ109
  obtain ⟨t_109, u_109, ku_109, rfl, N109q, K109, fr109_t, fr109_u, P109_0, P109_1, P109_2, P109_3⟩ := hQ109
  have N109 := Fr.app N108 N109q
  have ne_s_t_109 : s ≠ t_109 := ne_new Es.lt fr109_t
  have ne_v_t_109 : v ≠ t_109 := ne_new Vs.lt fr109_t
  have ne_b101_t_109 : b101 ≠ t_109 := ne_new A101.lt fr109_t
  have ne_b102_t_109 : b102 ≠ t_109 := ne_new B102.lt fr109_t
  have ne_u102_t_109 : u102 ≠ t_109 := ne_new V102.lt fr109_t
  have ne_b104_t_109 : b104 ≠ t_109 := ne_new A104.lt fr109_t
  have ne_v_105_t_109 : v_105 ≠ t_109 := ne_new P105_3.lt fr109_t
  have ne_b106_t_109 : b106 ≠ t_109 := ne_new B106.lt fr109_t
  have g_t_109 : Z.heap.size ≤ t_109 := Nat.le_trans OK108.1 fr109_t
  have sf_t_109 : Safe Z consts_1 T106.vm h108 t_109 := Safe.new fr109_t
  have z_t_109 : h0.size ≤ t_109 := Nat.le_trans KP.1 fr109_t
  have ne_s_u_109 : s ≠ u_109 := ne_new Es.lt fr109_u
  have ne_v_u_109 : v ≠ u_109 := ne_new Vs.lt fr109_u
  have ne_b101_u_109 : b101 ≠ u_109 := ne_new A101.lt fr109_u
  have ne_b102_u_109 : b102 ≠ u_109 := ne_new B102.lt fr109_u
  have ne_u102_u_109 : u102 ≠ u_109 := ne_new V102.lt fr109_u
  have ne_b104_u_109 : b104 ≠ u_109 := ne_new A104.lt fr109_u
  have ne_v_105_u_109 : v_105 ≠ u_109 := ne_new P105_3.lt fr109_u
  have ne_b106_u_109 : b106 ≠ u_109 := ne_new B106.lt fr109_u
  have g_u_109 : Z.heap.size ≤ u_109 := Nat.le_trans OK108.1 fr109_u
  have sf_u_109 : Safe Z consts_1 T106.vm h108 u_109 := Safe.new fr109_u
  have z_u_109 : h0.size ≤ u_109 := Nat.le_trans KP.1 fr109_u
  replace hKd := Nat.le_trans hKd K109.1
  have hSk : ∀ xq ∈ ([] : List Addr), Safe Z consts_1 T106.vm h108 xq := all0
  replace sf_b101 := Safe.keep K109 hSk hC.1 sf_b101
  replace sf_b104 := Safe.keep K109 hSk hC.1 sf_b104
  replace sf_v_105 := Safe.keep K109 hSk hC.1 sf_v_105
  replace sf_t_109 := Safe.keep K109 hSk hC.1 sf_t_109
  replace sf_u_109 := Safe.keep K109 hSk hC.1 sf_u_109
  replace hC := hC.trans (CHr.keep K109 hSk hC.1)
  replace Es := Es.keep K109
  replace Cs := Cs.keep K109 nin0
  replace Fs := Fs.keep K109 nin0
  replace Vs := Vs.keep K109 nin0
  replace A101 := A101.keep K109
  replace U101 := Unt.keep K109 nin0 U101
  replace F101_cause := F101_cause.keep K109 nin0
  replace F101_stackTrace := F101_stackTrace.keep K109 nin0
  replace F101_suppressedExceptions := F101_suppressedExceptions.keep K109 nin0
  replace F101_detailMessage := F101_detailMessage.keep K109 nin0
  replace F101_backtrace := F101_backtrace.keep K109 nin0
  replace F101_depth := F101_depth.keep K109 nin0
  replace B102 := B102.keep K109
  replace C102 := C102.keep K109 nin0
  replace F102 := F102.keep K109 nin0
  replace V102 := V102.keep K109 nin0
  replace A104 := A104.keep K109
  replace P105_3 := P105_3.keep K109
  replace B106 := B106.keep K109
  replace C106 := C106.keep K109 nin0
  replace F106 := F106.keep K109 nin0
  replace P108_0 := P108_0.keep K109 nin0
  replace P108_1 := P108_1.keep K109 nin0
  replace P108_2 := P108_2.keep K109 nin0
  replace P108_3 := P108_3.keep K109 nin0
  have OK109 := ext_keep OK108 K109 all0
  replace KP := KP.trans K109 all0
  refine Go.goto X109 hx (hb hby d9_32) (q := 54) (by decide) (by decide) ?_
  refine Go.initK X109 hx hZ hown hS hKd (own_EW hw) hC hKn rfl (wd187 hw) (wd188 hw) (wd46 hw) (wd189 hw) (by decide) (cux1 l Z a0 hw b101 t_109 au an h109 OK109 A101 U101 g_b101 F101_cause F101_stackTrace F101_suppressedExceptions F101_backtrace F101_detailMessage SU SN hlt) e109 (by rw [hml]; rfl) (hb hby d9_54) (argsL := [(.ref t_109)]) (rest := [(.ref b101)]) (lenOf pd10 rfl) rfl rfl (W := 1) (Nat.le_refl _) (by decide) ?_
  intro v110 T110 L110 k110 X110 hS hKd hZ hown hR110 hQ110
  obtain ⟨h110, e110⟩ : ∃ z, T110.heap = z := ⟨_, rfl⟩
  rw [e110] at hQ110 hKd hR110
  obtain ⟨rfl, N110q, K110, P110_0⟩ := hQ110
  have N110 := Fr.app N109 N110q
  replace sf_b101 := hR110.safe A101.lt sf_b101
  replace sf_b104 := hR110.safe A104.lt sf_b104
  replace sf_v_105 := hR110.safe P105_3.lt sf_v_105
  replace sf_t_109 := hR110.safe P109_0.lt sf_t_109
  replace sf_u_109 := hR110.safe P109_3.lt sf_u_109
  replace hC := hC.trans hR110
  replace Es := Es.keep K110
  replace Cs := Cs.keep K110 (ninS ne_s_b101 nin0)
  replace Fs := Fs.keep K110 (ninS ne_s_b101 nin0)
  replace Vs := Vs.keep K110 (ninS ne_v_b101 nin0)
  replace A101 := A101.keep K110
  replace B102 := B102.keep K110
  replace C102 := C102.keep K110 (ninS ne_b102_b101 nin0)
  replace F102 := F102.keep K110 (ninS ne_b102_b101 nin0)
  replace V102 := V102.keep K110 (ninS (Ne.symm ne_b101_u102) nin0)
  replace A104 := A104.keep K110
  replace P105_3 := P105_3.keep K110
  replace B106 := B106.keep K110
  replace C106 := C106.keep K110 (ninS ne_b106_b101 nin0)
  replace F106 := F106.keep K110 (ninS ne_b106_b101 nin0)
  replace P108_0 := P108_0.keep K110 (ninS (Ne.symm ne_b101_b104) nin0)
  replace P108_1 := P108_1.keep K110 (ninS (Ne.symm ne_b101_b104) nin0)
  replace P108_2 := P108_2.keep K110 (ninS (Ne.symm ne_b101_b104) nin0)
  replace P108_3 := P108_3.keep K110 (ninS (Ne.symm ne_b101_v_105) nin0)
  replace P109_0 := P109_0.keep K110
  replace P109_1 := P109_1.keep K110 (ninS (Ne.symm ne_b101_t_109) nin0)
  replace P109_2 := P109_2.keep K110 (ninS (Ne.symm ne_b101_t_109) nin0)
  replace P109_3 := P109_3.keep K110 (ninS (Ne.symm ne_b101_u_109) nin0)
  have OK110 := ext_keep OK109 K110 (allS g_b101 all0)
  replace KP := KP.trans K110 (allS (Or.inr z_b101) all0)
  exact Go.retAH X110 hx hS hKd hs0 hZ (own_EW hw) hC hret hlk rfl rfl (hb hby d9_57) e110 (by decide) (by decide) ⟨b101, t_109, u_109, ku_109, rfl, N110, KP, z_t_109, z_u_109, A101, P110_0, P109_0, P109_2, P109_1, P109_3⟩
def Q_cunf (Z : State) (s v : Addr) (kv : ClassId) (cs : Int32) (au an : Addr) (ln y0 : Int32) (us oa oc : List Value) (h0 : Heap) (vR : Option Value) (hR : Heap) (LR : List Loc) : Prop := ∃ x : Addr, ∃ w : Addr, ∃ u : Addr, ∃ ku : ClassId, vR = some (.ref x) ∧ Fr Z.heap.size LR ∧ Keep h0 hR [] ∧ h0.size ≤ w ∧ h0.size ≤ u ∧ Exa Z hR x xS8 ∧ Fld Z hR x xS2 "detailMessage" "Ljava/lang/String;" (.ref w) ∧ Exa Z hR w xS0 ∧ Fld Z hR w xS0 "coder" "B" (.int 0) ∧ Fld Z hR w xS0 "value" "[B" (.ref u) ∧ Arv Z hR u ku .byte ((13 : Int32) + ln) oc (.int 0)
theorem cunf (l : Launch) (Z : State) (a0 : Array Value) (hw : ∀ d ∈ tables_1, d.before a0 Z = true) (s v : Addr) (kv : ClassId) (cs : Int32) (au an : Addr) (ln y0 : Int32) (us oa oc : List Value) (h0 : Heap) (O0 : Ext Z.heap h0) (Es : Exa Z h0 s xS0) (Cs : Fld Z h0 s xS0 "coder" "B" (.int 0)) (Fs : Fld Z h0 s xS0 "value" "[B" (.ref v)) (Vs : Arv Z h0 v kv .byte ln us (.int 0)) (SCS : Sta Z Z.heap xS0 xS3 "Z" (.int cs)) (SU : Sta Z Z.heap xS2 "UNASSIGNED_STACK" xS7 (.ref au)) (SN : Sta Z Z.heap xS2 "SUPPRESSED_SENTINEL" "Ljava/util/List;" (.ref an)) (hcs : ¬ (cs = (0 : Int32))) (hlt : l.stackTraces = true) (hn : (0 : Int32) < ln) (hl : ¬ ((ln - (1 : Int32)) < (0 : Int32))) (hg : us.getD ((0 : Int32)).toNatClampNeg (.int (0 : Int32)) = (.int y0)) (he : y0 = (45 : Int32)) (hcp : Cpy (0 : Int32) (13 : Int32) ln ln (16 : Int32) us [(.int 117), (.int 110), (.int 107), (.int 110), (.int 111), (.int 119), (.int 110), (.int 32), (.int 102), (.int 108), (.int 97), (.int 103), (.int 32), (.int 0), (.int 0), (.int 0)] us oa) (hcap : ¬ ((0 : Int32) < (((13 : Int32) + ln) - (16 : Int32)))) (hct : Cut ((13 : Int32) + ln) (16 : Int32) oa oc) :
    CtrK l Z consts_1 h0 (⟨"com/example/loopd/loopd/Flags", "unexpected", "(Ljava/lang/String;)Lcom/example/loopd/loopd/UsageException;"⟩ : MethodName) k9 1 (some (.object xS8)) [] ({ frames := 6, cells := 10, slots := 2870, locals := 93 } : Room) #[(.ref s)] (Q_cunf Z s v kv cs au an ln y0 us oa oc h0) := by
  refine enterK (plainFor_of_name pn10) ?_
  intro pp ee ss mm below meth cc s₁ hx hby hml hZ hown hnm hret hlk X0 e0 hs0 hS hC hKn
  replace hown : (ss.setVm ss.vm).vm.findClass "com/example/loopd/loopd/Flags" = some mm.cls := hown
  have hKd := Nat.zero_le h0.size
  refine Go.cast (congrArg s₁.setTop (ef_cunf mm s)) ?_
  have N0 := Fr.nil Z.heap.size
  have KP := Keep.refl h0 []
  show Go pp ee below _ (s₁.setTop (mkF mm 0 #[.val (.ref s)] []))
  refine Go.newO X0 hx hZ hown (wd44 hw) (wd45 hw) (wd46 hw) e0 (hb hby d9_0) (by decide) (by decide) (q := 3) rfl ?_
  intro b101 T101 h101 X101 e101 q101 E101 A101 D101 U101
  have ne_s_b101 : s ≠ b101 := ne_new Es.lt (Nat.le_of_eq q101)
  have ne_v_b101 : v ≠ b101 := ne_new Vs.lt (Nat.le_of_eq q101)
  have g_b101 : Z.heap.size ≤ b101 := Nat.le_trans O0.1 (Nat.le_of_eq q101)
  have sf_b101 : Safe Z consts_1 ss.vm h0 b101 := Safe.new (Nat.le_of_eq q101)
  have z_b101 : h0.size ≤ b101 := Nat.le_trans KP.1 (Nat.le_of_eq q101)
  replace sf_b101 := sf_b101.ext E101 hC.1
  replace hC := hC.trans (CHr.ext E101 hC.1)
  replace Es := Es.ext E101
  replace Cs := Cs.ext E101
  replace Fs := Fs.ext E101
  replace Vs := Vs.ext E101
  have OE101 := ext_trans O0 E101
  replace hKd := Nat.le_trans hKd E101.1
  replace KP := KP.ext E101
  have F101_cause : Fld Z h101 b101 xS2 "cause" "Ljava/lang/Throwable;" .null := D101 (Or.inl (wd203 hw)) (ty := (.object xS2)) (by decide)
  have F101_stackTrace : Fld Z h101 b101 xS2 "stackTrace" xS7 .null := D101 (Or.inl (wd206 hw)) (ty := (.array (.object "java/lang/StackTraceElement"))) (by decide)
  have F101_suppressedExceptions : Fld Z h101 b101 xS2 "suppressedExceptions" "Ljava/util/List;" .null := D101 (Or.inl (wd209 hw)) (ty := (.object "java/util/List")) (by decide)
  have F101_detailMessage : Fld Z h101 b101 xS2 "detailMessage" "Ljava/lang/String;" .null := D101 (Or.inl (wd233 hw)) (ty := (.object xS0)) (by decide)
  have F101_backtrace : Fld Z h101 b101 xS2 "backtrace" "Ljava/lang/Object;" .null := D101 (Or.inl (wd234 hw)) (ty := (.object "java/lang/Object")) (by decide)
  have F101_depth : Fld Z h101 b101 xS2 "depth" "I" (.int 0) := D101 (Or.inl (wd235 hw)) (ty := .int) (by decide)
  clear D101
  refine Go.dup X101 hx (hb hby d9_3) rfl (q := 4) rfl ?_
  refine Go.aloadN X101 hx (hb hby d9_4) rfl rfl (q := 5) rfl ?_
  refine Go.ldcH X101 hx hZ hown (wd47 hw) (own_wS hw) e101 hS hKd (own_EW hw) (List.mem_of_getElem? (i := 0) rfl) hC (vs := [(.int 45)]) (z := (1 : Int32)) ⟨by decide, rfl⟩ (by decide) rfl (hb hby d9_5) (nn := 4) (by decide) (by decide) (by decide) (by decide) (q := 7) rfl ?_
  intro b102 u102 kc102 T102 h102 k102 X102 e102 E102 hS hKd hZ hown B102 C102 F102 V102 hR102
  replace sf_b101 := hR102.safe A101.lt sf_b101
  replace hC := hC.trans hR102
  replace Es := Es.ext E102
  replace Cs := Cs.ext E102
  replace Fs := Fs.ext E102
  replace Vs := Vs.ext E102
  replace A101 := A101.ext E102
  replace U101 := U101.ext E102
  replace F101_cause := F101_cause.ext E102
  replace F101_stackTrace := F101_stackTrace.ext E102
  replace F101_suppressedExceptions := F101_suppressedExceptions.ext E102
  replace F101_detailMessage := F101_detailMessage.ext E102
  replace F101_backtrace := F101_backtrace.ext E102
  replace F101_depth := F101_depth.ext E102
  have OE102 := ext_trans OE101 E102
  replace KP := KP.ext E102
  have ne_s_u102 := Exa.neArv Es V102 (wd5 hw)
  have ne_b102_b101 := Exa.ne B102 A101 (by decide)
  have ne_b101_u102 := Exa.neArv A101 V102 (wd45 hw)
  refine Go.virt X102 hx hZ hown (wd48 hw) (wd49 hw) (notFace_of_selects (args := #[]) (mvT hZ (wd51 hw))) (wd51 hw) (wd50 hw) (wd6 hw) (wd52 hw) (by decide) (cswy l Z a0 hw s b102 cs v u102 (kv) (kc102) ln y0 (us) h102 OE102 Es B102 Cs C102 Fs F102 Vs V102 SCS hcs hn hg hl he) e102 Es (by rw [hml]; rfl) (hb hby d9_7) (argsL := [(.ref b102)]) (rest := [(.ref b101), (.ref b101)]) (lenOf pd24 rfl) rfl rfl (W := 2) (Nat.le_refl _) (by decide) ?_
  intro v103 T103 L103 X103 hQ103
  obtain ⟨rfl, N103q, e103⟩ := hQ103
  have N103 := Fr.app N0 N103q
  refine Go.ifNo X103 hx (hb hby d9_10) (by decide) (q := 13) rfl ?_
  refine Go.newO X103 hx hZ hown (wd68 hw) (wd69 hw) (wd70 hw) e103 (hb hby d9_13) (by decide) (by decide) (q := 16) rfl ?_
  intro b104 T104 h104 X104 e104 q104 E104 A104 D104 U104
  have ne_s_b104 : s ≠ b104 := ne_new Es.lt (Nat.le_of_eq q104)
  have ne_v_b104 : v ≠ b104 := ne_new Vs.lt (Nat.le_of_eq q104)
  have ne_b101_b104 : b101 ≠ b104 := ne_new A101.lt (Nat.le_of_eq q104)
  have ne_b102_b104 : b102 ≠ b104 := ne_new B102.lt (Nat.le_of_eq q104)
  have ne_u102_b104 : u102 ≠ b104 := ne_new V102.lt (Nat.le_of_eq q104)
  have g_b104 : Z.heap.size ≤ b104 := Nat.le_trans OE102.1 (Nat.le_of_eq q104)
  have sf_b104 : Safe Z consts_1 T102.vm h102 b104 := Safe.new (Nat.le_of_eq q104)
  have z_b104 : h0.size ≤ b104 := Nat.le_trans KP.1 (Nat.le_of_eq q104)
  replace sf_b101 := sf_b101.ext E104 hC.1
  replace sf_b104 := sf_b104.ext E104 hC.1
  replace hC := hC.trans (CHr.ext E104 hC.1)
  replace Es := Es.ext E104
  replace Cs := Cs.ext E104
  replace Fs := Fs.ext E104
  replace Vs := Vs.ext E104
  replace A101 := A101.ext E104
  replace U101 := U101.ext E104
  replace F101_cause := F101_cause.ext E104
  replace F101_stackTrace := F101_stackTrace.ext E104
  replace F101_suppressedExceptions := F101_suppressedExceptions.ext E104
  replace F101_detailMessage := F101_detailMessage.ext E104
  replace F101_backtrace := F101_backtrace.ext E104
  replace F101_depth := F101_depth.ext E104
  replace B102 := B102.ext E104
  replace C102 := C102.ext E104
  replace F102 := F102.ext E104
  replace V102 := V102.ext E104
  have OE104 := ext_trans OE102 E104
  replace hKd := Nat.le_trans hKd E104.1
  replace KP := KP.ext E104
  have F104_value : Fld Z h104 b104 xS1 "value" "[B" .null := D104 (Or.inl (wd83 hw)) (ty := (.array .byte)) (by decide)
  have F104_coder : Fld Z h104 b104 xS1 "coder" "B" (.int 0) := D104 (Or.inl (wd85 hw)) (ty := .byte) (by decide)
  have F104_count : Fld Z h104 b104 xS1 "count" "I" (.int 0) := D104 (Or.inl (wd99 hw)) (ty := .int) (by decide)
  clear D104
  refine Go.dup X104 hx (hb hby d9_16) rfl (q := 17) rfl ?_
  refine Go.init X104 hx hZ hown rfl (wd71 hw) (wd72 hw) (wd70 hw) (wd73 hw) (by decide) (csb l Z a0 hw b104 cs h104 OE104 A104 g_b104 F104_value F104_coder F104_count SCS hcs) e104 (by rw [hml]; rfl) (hb hby d9_17) (argsL := []) (rest := [(.ref b104), (.ref b101), (.ref b101)]) (lenOf pd25 rfl) rfl rfl (W := 3) (Nat.le_refl _) (by decide) ?_
  intro v105 T105 L105 X105 hQ105
  obtain ⟨h105, e105⟩ : ∃ z, T105.heap = z := ⟨_, rfl⟩
  rw [e105] at hQ105
  obtain ⟨v_105, kv_105, rfl, N105q, K105, fr105_v, P105_0, P105_1, P105_2, P105_3, P105_4⟩ := hQ105
  have N105 := Fr.app N103 N105q
  have ne_s_v_105 : s ≠ v_105 := ne_new Es.lt fr105_v
  have ne_v_v_105 : v ≠ v_105 := ne_new Vs.lt fr105_v
  have ne_b101_v_105 : b101 ≠ v_105 := ne_new A101.lt fr105_v
  have ne_b102_v_105 : b102 ≠ v_105 := ne_new B102.lt fr105_v
  have ne_u102_v_105 : u102 ≠ v_105 := ne_new V102.lt fr105_v
  have ne_b104_v_105 : b104 ≠ v_105 := ne_new A104.lt fr105_v
  have g_v_105 : Z.heap.size ≤ v_105 := Nat.le_trans OE104.1 fr105_v
  have sf_v_105 : Safe Z consts_1 T102.vm h104 v_105 := Safe.new fr105_v
  have z_v_105 : h0.size ≤ v_105 := Nat.le_trans KP.1 fr105_v
  replace hKd := Nat.le_trans hKd K105.1
  have hSk : ∀ xq ∈ [b104], Safe Z consts_1 T102.vm h104 xq := (allS sf_b104 all0)
  replace sf_b101 := Safe.keep K105 hSk hC.1 sf_b101
  replace sf_b104 := Safe.keep K105 hSk hC.1 sf_b104
  replace sf_v_105 := Safe.keep K105 hSk hC.1 sf_v_105
  replace hC := hC.trans (CHr.keep K105 hSk hC.1)
  replace Es := Es.keep K105
  replace Cs := Cs.keep K105 (ninS ne_s_b104 nin0)
  replace Fs := Fs.keep K105 (ninS ne_s_b104 nin0)
  replace Vs := Vs.keep K105 (ninS ne_v_b104 nin0)
  replace A101 := A101.keep K105
  replace U101 := Unt.keep K105 (ninS ne_b101_b104 nin0) U101
  replace F101_cause := F101_cause.keep K105 (ninS ne_b101_b104 nin0)
  replace F101_stackTrace := F101_stackTrace.keep K105 (ninS ne_b101_b104 nin0)
  replace F101_suppressedExceptions := F101_suppressedExceptions.keep K105 (ninS ne_b101_b104 nin0)
  replace F101_detailMessage := F101_detailMessage.keep K105 (ninS ne_b101_b104 nin0)
  replace F101_backtrace := F101_backtrace.keep K105 (ninS ne_b101_b104 nin0)
  replace F101_depth := F101_depth.keep K105 (ninS ne_b101_b104 nin0)
  replace B102 := B102.keep K105
  replace C102 := C102.keep K105 (ninS ne_b102_b104 nin0)
  replace F102 := F102.keep K105 (ninS ne_b102_b104 nin0)
  replace V102 := V102.keep K105 (ninS ne_u102_b104 nin0)
  replace A104 := A104.keep K105
  have OK105 := ext_keep OE104 K105 (allS g_b104 all0)
  replace KP := KP.trans K105 (allS (Or.inr z_b104) all0)
  refine Go.ldcH X105 hx hZ hown (wd257 hw) (own_wS hw) e105 hS hKd (own_EW hw) (List.mem_of_getElem? (i := 1) rfl) hC (vs := [(.int 117), (.int 110), (.int 107), (.int 110), (.int 111), (.int 119), (.int 110), (.int 32), (.int 102), (.int 108), (.int 97), (.int 103), (.int 32)]) (z := (13 : Int32)) ⟨by decide, rfl⟩ (by decide) rfl (hb hby d9_20) (nn := 52) (by decide) (by decide) (by decide) (by decide) (q := 22) rfl ?_
  intro b106 u106 kc106 T106 h106 k106 X106 e106 E106 hS hKd hZ hown B106 C106 F106 V106 hR106
  replace sf_b101 := hR106.safe A101.lt sf_b101
  replace sf_b104 := hR106.safe A104.lt sf_b104
  replace sf_v_105 := hR106.safe P105_3.lt sf_v_105
  replace hC := hC.trans hR106
  replace Es := Es.ext E106
  replace Cs := Cs.ext E106
  replace Fs := Fs.ext E106
  replace Vs := Vs.ext E106
  replace A101 := A101.ext E106
  replace U101 := U101.ext E106
  replace F101_cause := F101_cause.ext E106
  replace F101_stackTrace := F101_stackTrace.ext E106
  replace F101_suppressedExceptions := F101_suppressedExceptions.ext E106
  replace F101_detailMessage := F101_detailMessage.ext E106
  replace F101_backtrace := F101_backtrace.ext E106
  replace F101_depth := F101_depth.ext E106
  replace B102 := B102.ext E106
  replace C102 := C102.ext E106
  replace F102 := F102.ext E106
  replace V102 := V102.ext E106
  replace A104 := A104.ext E106
  replace P105_0 := P105_0.ext E106
  replace P105_1 := P105_1.ext E106
  replace P105_2 := P105_2.ext E106
  replace P105_3 := P105_3.ext E106
  replace P105_4 := P105_4.ext E106
  have OE106 := ext_trans OK105 E106
  replace KP := KP.ext E106
  have ne_s_u106 := Exa.neArv Es V106 (wd5 hw)
  have ne_b106_b101 := Exa.ne B106 A101 (by decide)
  have ne_b101_u106 := Exa.neArv A101 V106 (wd45 hw)
  have ne_b102_u106 := Exa.neArv B102 V106 (wd5 hw)
  have ne_b106_b104 := Exa.ne B106 A104 (by decide)
  have ne_b104_u106 := Exa.neArv A104 V106 (wd69 hw)
  have ne_b106_v_105 := Exa.ne B106 P105_3 (by decide)
  refine Go.virt X106 hx hZ hown (wd87 hw) (wd88 hw) (notFace_of_selects (args := #[]) (mvT hZ (wd90 hw))) (wd90 hw) (wd89 hw) (wd70 hw) (wd91 hw) (by decide) (cab l Z a0 hw b104 b106 u106 v_105 cs ((16 : Int32)) (kv_105) (kc106) ((0 : Int32)) ((13 : Int32)) ([(.int 117), (.int 110), (.int 107), (.int 110), (.int 111), (.int 119), (.int 110), (.int 32), (.int 102), (.int 108), (.int 97), (.int 103), (.int 32)]) ([(.int 0), (.int 0), (.int 0), (.int 0), (.int 0), (.int 0), (.int 0), (.int 0), (.int 0), (.int 0), (.int 0), (.int 0), (.int 0), (.int 0), (.int 0), (.int 0)]) ([(.int 117), (.int 110), (.int 107), (.int 110), (.int 111), (.int 119), (.int 110), (.int 32), (.int 102), (.int 108), (.int 97), (.int 103), (.int 32), (.int 0), (.int 0), (.int 0)]) h106 OE106 A104 P105_0 P105_1 P105_2 P105_4 g_v_105 g_b104 ne_b104_v_105 B106 C106 F106 V106 SCS hcs ⟨⟨by decide, by decide, by decide⟩, by decide, by decide, rfl, Nat.le_of_ble_eq_true rfl, rfl⟩ (by decide)) e106 A104 (by rw [hml]; rfl) (hb hby d9_22) (argsL := [(.ref b106)]) (rest := [(.ref b101), (.ref b101)]) (lenOf pd26 rfl) rfl rfl (W := 2) (Nat.le_refl _) (by decide) ?_
  intro v107 T107 L107 X107 hQ107
  obtain ⟨h107, e107⟩ : ∃ z, T107.heap = z := ⟨_, rfl⟩
  rw [e107] at hQ107
  obtain ⟨rfl, N107q, K107, P107_0, P107_1, P107_2, P107_3⟩ := hQ107
  have N107 := Fr.app N105 N107q
  replace hKd := Nat.le_trans hKd K107.1
  have hSk : ∀ xq ∈ [b104, v_105], Safe Z consts_1 T106.vm h106 xq := (allS sf_b104 (allS sf_v_105 all0))
  replace sf_b101 := Safe.keep K107 hSk hC.1 sf_b101
  replace sf_b104 := Safe.keep K107 hSk hC.1 sf_b104
  replace sf_v_105 := Safe.keep K107 hSk hC.1 sf_v_105
  replace hC := hC.trans (CHr.keep K107 hSk hC.1)
  replace Es := Es.keep K107
  replace Cs := Cs.keep K107 (ninS ne_s_b104 (ninS ne_s_v_105 nin0))
  replace Fs := Fs.keep K107 (ninS ne_s_b104 (ninS ne_s_v_105 nin0))
  replace Vs := Vs.keep K107 (ninS ne_v_b104 (ninS ne_v_v_105 nin0))
  replace A101 := A101.keep K107
  replace U101 := Unt.keep K107 (ninS ne_b101_b104 (ninS ne_b101_v_105 nin0)) U101
  replace F101_cause := F101_cause.keep K107 (ninS ne_b101_b104 (ninS ne_b101_v_105 nin0))
  replace F101_stackTrace := F101_stackTrace.keep K107 (ninS ne_b101_b104 (ninS ne_b101_v_105 nin0))
  replace F101_suppressedExceptions := F101_suppressedExceptions.keep K107 (ninS ne_b101_b104 (ninS ne_b101_v_105 nin0))
  replace F101_detailMessage := F101_detailMessage.keep K107 (ninS ne_b101_b104 (ninS ne_b101_v_105 nin0))
  replace F101_backtrace := F101_backtrace.keep K107 (ninS ne_b101_b104 (ninS ne_b101_v_105 nin0))
  replace F101_depth := F101_depth.keep K107 (ninS ne_b101_b104 (ninS ne_b101_v_105 nin0))
  replace B102 := B102.keep K107
  replace C102 := C102.keep K107 (ninS ne_b102_b104 (ninS ne_b102_v_105 nin0))
  replace F102 := F102.keep K107 (ninS ne_b102_b104 (ninS ne_b102_v_105 nin0))
  replace V102 := V102.keep K107 (ninS ne_u102_b104 (ninS ne_u102_v_105 nin0))
  replace A104 := A104.keep K107
  replace P105_3 := P105_3.keep K107
  replace B106 := B106.keep K107
  replace C106 := C106.keep K107 (ninS ne_b106_b104 (ninS ne_b106_v_105 nin0))
  replace F106 := F106.keep K107 (ninS ne_b106_b104 (ninS ne_b106_v_105 nin0))
  have OK107 := ext_keep OE106 K107 (allS g_b104 (allS g_v_105 all0))
  replace KP := KP.trans K107 (allS (Or.inr z_b104) (allS (Or.inr z_v_105) all0))
  refine Go.aloadN X107 hx (hb hby d9_25) rfl rfl (q := 26) rfl ?_
  refine Go.virt X107 hx hZ hown (wd87 hw) (wd88 hw) (notFace_of_selects (args := #[]) (mvT hZ (wd90 hw))) (wd90 hw) (wd89 hw) (wd70 hw) (wd91 hw) (by decide) (cab l Z a0 hw b104 s v v_105 cs ((16 : Int32)) (kv_105) (kv) ((13 : Int32)) ln (us) ([(.int 117), (.int 110), (.int 107), (.int 110), (.int 111), (.int 119), (.int 110), (.int 32), (.int 102), (.int 108), (.int 97), (.int 103), (.int 32), (.int 0), (.int 0), (.int 0)]) (oa) h107 OK107 A104 P107_0 P107_1 P107_2 P107_3 g_v_105 g_b104 ne_b104_v_105 Es Cs Fs Vs SCS hcs hcp hcap) e107 A104 (by rw [hml]; rfl) (hb hby d9_26) (argsL := [(.ref s)]) (rest := [(.ref b101), (.ref b101)]) (lenOf pd26 rfl) rfl rfl (W := 2) (Nat.le_refl _) (by decide) ?_
  intro v108 T108 L108 X108 hQ108
  obtain ⟨h108, e108⟩ : ∃ z, T108.heap = z := ⟨_, rfl⟩
  rw [e108] at hQ108
  obtain ⟨rfl, N108q, K108, P108_0, P108_1, P108_2, P108_3⟩ := hQ108
  have N108 := Fr.app N107 N108q
  replace hKd := Nat.le_trans hKd K108.1
  have hSk : ∀ xq ∈ [b104, v_105], Safe Z consts_1 T106.vm h107 xq := (allS sf_b104 (allS sf_v_105 all0))
  replace sf_b101 := Safe.keep K108 hSk hC.1 sf_b101
  replace sf_b104 := Safe.keep K108 hSk hC.1 sf_b104
  replace sf_v_105 := Safe.keep K108 hSk hC.1 sf_v_105
  replace hC := hC.trans (CHr.keep K108 hSk hC.1)
  replace Es := Es.keep K108
  replace Cs := Cs.keep K108 (ninS ne_s_b104 (ninS ne_s_v_105 nin0))
  replace Fs := Fs.keep K108 (ninS ne_s_b104 (ninS ne_s_v_105 nin0))
  replace Vs := Vs.keep K108 (ninS ne_v_b104 (ninS ne_v_v_105 nin0))
  replace A101 := A101.keep K108
  replace U101 := Unt.keep K108 (ninS ne_b101_b104 (ninS ne_b101_v_105 nin0)) U101
  replace F101_cause := F101_cause.keep K108 (ninS ne_b101_b104 (ninS ne_b101_v_105 nin0))
  replace F101_stackTrace := F101_stackTrace.keep K108 (ninS ne_b101_b104 (ninS ne_b101_v_105 nin0))
  replace F101_suppressedExceptions := F101_suppressedExceptions.keep K108 (ninS ne_b101_b104 (ninS ne_b101_v_105 nin0))
  replace F101_detailMessage := F101_detailMessage.keep K108 (ninS ne_b101_b104 (ninS ne_b101_v_105 nin0))
  replace F101_backtrace := F101_backtrace.keep K108 (ninS ne_b101_b104 (ninS ne_b101_v_105 nin0))
  replace F101_depth := F101_depth.keep K108 (ninS ne_b101_b104 (ninS ne_b101_v_105 nin0))
  replace B102 := B102.keep K108
  replace C102 := C102.keep K108 (ninS ne_b102_b104 (ninS ne_b102_v_105 nin0))
  replace F102 := F102.keep K108 (ninS ne_b102_b104 (ninS ne_b102_v_105 nin0))
  replace V102 := V102.keep K108 (ninS ne_u102_b104 (ninS ne_u102_v_105 nin0))
  replace A104 := A104.keep K108
  replace P105_3 := P105_3.keep K108
  replace B106 := B106.keep K108
  replace C106 := C106.keep K108 (ninS ne_b106_b104 (ninS ne_b106_v_105 nin0))
  replace F106 := F106.keep K108 (ninS ne_b106_b104 (ninS ne_b106_v_105 nin0))
  have OK108 := ext_keep OK107 K108 (allS g_b104 (allS g_v_105 all0))
  replace KP := KP.trans K108 (allS (Or.inr z_b104) (allS (Or.inr z_v_105) all0))
  refine Go.virt X108 hx hZ hown (wd148 hw) (wd149 hw) (notFace_of_selects (args := #[]) (mvT hZ (wd151 hw))) (wd151 hw) (wd150 hw) (wd70 hw) (wd152 hw) (by decide) (cts l Z a0 hw b104 v_105 cs ((16 : Int32)) (kv_105) (((13 : Int32) + ln)) (oa) (oc) h108 OK108 A104 P108_0 P108_1 P108_2 P108_3 SCS hcs hct) e108 A104 (by rw [hml]; rfl) (hb hby d9_29) (argsL := []) (rest := [(.ref b101), (.ref b101)]) (lenOf pd27 rfl) rfl rfl (W := 2) (Nat.le_refl _) (by decide) ?_
  intro v109 T109 L109 X109 hQ109
  obtain ⟨h109, e109⟩ : ∃ z, T109.heap = z := ⟨_, rfl⟩
  rw [e109] at hQ109
  obtain ⟨t_109, u_109, ku_109, rfl, N109q, K109, fr109_t, fr109_u, P109_0, P109_1, P109_2, P109_3⟩ := hQ109
  have N109 := Fr.app N108 N109q
  have ne_s_t_109 : s ≠ t_109 := ne_new Es.lt fr109_t
  have ne_v_t_109 : v ≠ t_109 := ne_new Vs.lt fr109_t
  have ne_b101_t_109 : b101 ≠ t_109 := ne_new A101.lt fr109_t
  have ne_b102_t_109 : b102 ≠ t_109 := ne_new B102.lt fr109_t
  have ne_u102_t_109 : u102 ≠ t_109 := ne_new V102.lt fr109_t
  have ne_b104_t_109 : b104 ≠ t_109 := ne_new A104.lt fr109_t
  have ne_v_105_t_109 : v_105 ≠ t_109 := ne_new P105_3.lt fr109_t
  have ne_b106_t_109 : b106 ≠ t_109 := ne_new B106.lt fr109_t
  have g_t_109 : Z.heap.size ≤ t_109 := Nat.le_trans OK108.1 fr109_t
  have sf_t_109 : Safe Z consts_1 T106.vm h108 t_109 := Safe.new fr109_t
  have z_t_109 : h0.size ≤ t_109 := Nat.le_trans KP.1 fr109_t
  have ne_s_u_109 : s ≠ u_109 := ne_new Es.lt fr109_u
  have ne_v_u_109 : v ≠ u_109 := ne_new Vs.lt fr109_u
  have ne_b101_u_109 : b101 ≠ u_109 := ne_new A101.lt fr109_u
  have ne_b102_u_109 : b102 ≠ u_109 := ne_new B102.lt fr109_u
  have ne_u102_u_109 : u102 ≠ u_109 := ne_new V102.lt fr109_u
  have ne_b104_u_109 : b104 ≠ u_109 := ne_new A104.lt fr109_u
  have ne_v_105_u_109 : v_105 ≠ u_109 := ne_new P105_3.lt fr109_u
  have ne_b106_u_109 : b106 ≠ u_109 := ne_new B106.lt fr109_u
  have g_u_109 : Z.heap.size ≤ u_109 := Nat.le_trans OK108.1 fr109_u
  have sf_u_109 : Safe Z consts_1 T106.vm h108 u_109 := Safe.new fr109_u
  have z_u_109 : h0.size ≤ u_109 := Nat.le_trans KP.1 fr109_u
  replace hKd := Nat.le_trans hKd K109.1
  have hSk : ∀ xq ∈ ([] : List Addr), Safe Z consts_1 T106.vm h108 xq := all0
  replace sf_b101 := Safe.keep K109 hSk hC.1 sf_b101
  replace sf_b104 := Safe.keep K109 hSk hC.1 sf_b104
  replace sf_v_105 := Safe.keep K109 hSk hC.1 sf_v_105
  replace sf_t_109 := Safe.keep K109 hSk hC.1 sf_t_109
  replace sf_u_109 := Safe.keep K109 hSk hC.1 sf_u_109
  replace hC := hC.trans (CHr.keep K109 hSk hC.1)
  replace Es := Es.keep K109
  replace Cs := Cs.keep K109 nin0
  replace Fs := Fs.keep K109 nin0
  replace Vs := Vs.keep K109 nin0
  replace A101 := A101.keep K109
  replace U101 := Unt.keep K109 nin0 U101
  replace F101_cause := F101_cause.keep K109 nin0
  replace F101_stackTrace := F101_stackTrace.keep K109 nin0
  replace F101_suppressedExceptions := F101_suppressedExceptions.keep K109 nin0
  replace F101_detailMessage := F101_detailMessage.keep K109 nin0
  replace F101_backtrace := F101_backtrace.keep K109 nin0
  replace F101_depth := F101_depth.keep K109 nin0
  replace B102 := B102.keep K109
  replace C102 := C102.keep K109 nin0
  replace F102 := F102.keep K109 nin0
  replace V102 := V102.keep K109 nin0
  replace A104 := A104.keep K109
  replace P105_3 := P105_3.keep K109
  replace B106 := B106.keep K109
  replace C106 := C106.keep K109 nin0
  replace F106 := F106.keep K109 nin0
  replace P108_0 := P108_0.keep K109 nin0
  replace P108_1 := P108_1.keep K109 nin0
  replace P108_2 := P108_2.keep K109 nin0
  replace P108_3 := P108_3.keep K109 nin0
  have OK109 := ext_keep OK108 K109 all0
  replace KP := KP.trans K109 all0
  refine Go.goto X109 hx (hb hby d9_32) (q := 54) (by decide) (by decide) ?_
  refine Go.initK X109 hx hZ hown hS hKd (own_EW hw) hC hKn rfl (wd187 hw) (wd188 hw) (wd46 hw) (wd189 hw) (by decide) (cux1 l Z a0 hw b101 t_109 au an h109 OK109 A101 U101 g_b101 F101_cause F101_stackTrace F101_suppressedExceptions F101_backtrace F101_detailMessage SU SN hlt) e109 (by rw [hml]; rfl) (hb hby d9_54) (argsL := [(.ref t_109)]) (rest := [(.ref b101)]) (lenOf pd10 rfl) rfl rfl (W := 1) (Nat.le_refl _) (by decide) ?_
  intro v110 T110 L110 k110 X110 hS hKd hZ hown hR110 hQ110
  obtain ⟨h110, e110⟩ : ∃ z, T110.heap = z := ⟨_, rfl⟩
  rw [e110] at hQ110 hKd hR110
  obtain ⟨rfl, N110q, K110, P110_0⟩ := hQ110
  have N110 := Fr.app N109 N110q
  replace sf_b101 := hR110.safe A101.lt sf_b101
  replace sf_b104 := hR110.safe A104.lt sf_b104
  replace sf_v_105 := hR110.safe P105_3.lt sf_v_105
  replace sf_t_109 := hR110.safe P109_0.lt sf_t_109
  replace sf_u_109 := hR110.safe P109_3.lt sf_u_109
  replace hC := hC.trans hR110
  replace Es := Es.keep K110
  replace Cs := Cs.keep K110 (ninS ne_s_b101 nin0)
  replace Fs := Fs.keep K110 (ninS ne_s_b101 nin0)
  replace Vs := Vs.keep K110 (ninS ne_v_b101 nin0)
  replace A101 := A101.keep K110
  replace B102 := B102.keep K110
  replace C102 := C102.keep K110 (ninS ne_b102_b101 nin0)
  replace F102 := F102.keep K110 (ninS ne_b102_b101 nin0)
  replace V102 := V102.keep K110 (ninS (Ne.symm ne_b101_u102) nin0)
  replace A104 := A104.keep K110
  replace P105_3 := P105_3.keep K110
  replace B106 := B106.keep K110
  replace C106 := C106.keep K110 (ninS ne_b106_b101 nin0)
  replace F106 := F106.keep K110 (ninS ne_b106_b101 nin0)
  replace P108_0 := P108_0.keep K110 (ninS (Ne.symm ne_b101_b104) nin0)
  replace P108_1 := P108_1.keep K110 (ninS (Ne.symm ne_b101_b104) nin0)
  replace P108_2 := P108_2.keep K110 (ninS (Ne.symm ne_b101_b104) nin0)
  replace P108_3 := P108_3.keep K110 (ninS (Ne.symm ne_b101_v_105) nin0)
  replace P109_0 := P109_0.keep K110
  replace P109_1 := P109_1.keep K110 (ninS (Ne.symm ne_b101_t_109) nin0)
  replace P109_2 := P109_2.keep K110 (ninS (Ne.symm ne_b101_t_109) nin0)
  replace P109_3 := P109_3.keep K110 (ninS (Ne.symm ne_b101_u_109) nin0)
  have OK110 := ext_keep OK109 K110 (allS g_b101 all0)
  replace KP := KP.trans K110 (allS (Or.inr z_b101) all0)
  exact Go.retAH X110 hx hS hKd hs0 hZ (own_EW hw) hC hret hlk rfl rfl (hb hby d9_57) e110 (by decide) (by decide) ⟨b101, t_109, u_109, ku_109, rfl, N110, KP, z_t_109, z_u_109, A101, P110_0, P109_0, P109_2, P109_1, P109_3⟩
def Q_cun0 (Z : State) (s v : Addr) (kv : ClassId) (cs : Int32) (au an : Addr) (h0 : Heap) (vR : Option Value) (hR : Heap) (LR : List Loc) : Prop := ∃ x : Addr, ∃ w : Addr, ∃ u : Addr, ∃ ku : ClassId, vR = some (.ref x) ∧ Fr Z.heap.size LR ∧ Keep h0 hR [] ∧ h0.size ≤ w ∧ h0.size ≤ u ∧ Exa Z hR x xS8 ∧ Fld Z hR x xS2 "detailMessage" "Ljava/lang/String;" (.ref w) ∧ Exa Z hR w xS0 ∧ Fld Z hR w xS0 "coder" "B" (.int 0) ∧ Fld Z hR w xS0 "value" "[B" (.ref u) ∧ Arv Z hR u ku .byte (20 : Int32) [(.int 117), (.int 110), (.int 101), (.int 120), (.int 112), (.int 101), (.int 99), (.int 116), (.int 101), (.int 100), (.int 32), (.int 97), (.int 114), (.int 103), (.int 117), (.int 109), (.int 101), (.int 110), (.int 116), (.int 32)] (.int 0)
theorem cun0 (l : Launch) (Z : State) (a0 : Array Value) (hw : ∀ d ∈ tables_1, d.before a0 Z = true) (s v : Addr) (kv : ClassId) (cs : Int32) (au an : Addr) (h0 : Heap) (O0 : Ext Z.heap h0) (Es : Exa Z h0 s xS0) (Cs : Fld Z h0 s xS0 "coder" "B" (.int 0)) (Fs : Fld Z h0 s xS0 "value" "[B" (.ref v)) (Vs : Arv Z h0 v kv .byte (0 : Int32) [] (.int 0)) (SCS : Sta Z Z.heap xS0 xS3 "Z" (.int cs)) (SU : Sta Z Z.heap xS2 "UNASSIGNED_STACK" xS7 (.ref au)) (SN : Sta Z Z.heap xS2 "SUPPRESSED_SENTINEL" "Ljava/util/List;" (.ref an)) (hcs : ¬ (cs = (0 : Int32))) (hlt : l.stackTraces = true) :
    CtrK l Z consts_1 h0 (⟨"com/example/loopd/loopd/Flags", "unexpected", "(Ljava/lang/String;)Lcom/example/loopd/loopd/UsageException;"⟩ : MethodName) k9 1 (some (.object xS8)) [] ({ frames := 6, cells := 11, slots := 2932, locals := 93 } : Room) #[(.ref s)] (Q_cun0 Z s v kv cs au an h0) := by
  refine enterK (plainFor_of_name pn10) ?_
  intro pp ee ss mm below meth cc s₁ hx hby hml hZ hown hnm hret hlk X0 e0 hs0 hS hC hKn
  replace hown : (ss.setVm ss.vm).vm.findClass "com/example/loopd/loopd/Flags" = some mm.cls := hown
  have hKd := Nat.zero_le h0.size
  refine Go.cast (congrArg s₁.setTop (ef_cun0 mm s)) ?_
  have N0 := Fr.nil Z.heap.size
  have KP := Keep.refl h0 []
  show Go pp ee below _ (s₁.setTop (mkF mm 0 #[.val (.ref s)] []))
  refine Go.newO X0 hx hZ hown (wd44 hw) (wd45 hw) (wd46 hw) e0 (hb hby d9_0) (by decide) (by decide) (q := 3) rfl ?_
  intro b101 T101 h101 X101 e101 q101 E101 A101 D101 U101
  have ne_s_b101 : s ≠ b101 := ne_new Es.lt (Nat.le_of_eq q101)
  have ne_v_b101 : v ≠ b101 := ne_new Vs.lt (Nat.le_of_eq q101)
  have g_b101 : Z.heap.size ≤ b101 := Nat.le_trans O0.1 (Nat.le_of_eq q101)
  have sf_b101 : Safe Z consts_1 ss.vm h0 b101 := Safe.new (Nat.le_of_eq q101)
  have z_b101 : h0.size ≤ b101 := Nat.le_trans KP.1 (Nat.le_of_eq q101)
  replace sf_b101 := sf_b101.ext E101 hC.1
  replace hC := hC.trans (CHr.ext E101 hC.1)
  replace Es := Es.ext E101
  replace Cs := Cs.ext E101
  replace Fs := Fs.ext E101
  replace Vs := Vs.ext E101
  have OE101 := ext_trans O0 E101
  replace hKd := Nat.le_trans hKd E101.1
  replace KP := KP.ext E101
  have F101_cause : Fld Z h101 b101 xS2 "cause" "Ljava/lang/Throwable;" .null := D101 (Or.inl (wd203 hw)) (ty := (.object xS2)) (by decide)
  have F101_stackTrace : Fld Z h101 b101 xS2 "stackTrace" xS7 .null := D101 (Or.inl (wd206 hw)) (ty := (.array (.object "java/lang/StackTraceElement"))) (by decide)
  have F101_suppressedExceptions : Fld Z h101 b101 xS2 "suppressedExceptions" "Ljava/util/List;" .null := D101 (Or.inl (wd209 hw)) (ty := (.object "java/util/List")) (by decide)
  have F101_detailMessage : Fld Z h101 b101 xS2 "detailMessage" "Ljava/lang/String;" .null := D101 (Or.inl (wd233 hw)) (ty := (.object xS0)) (by decide)
  have F101_backtrace : Fld Z h101 b101 xS2 "backtrace" "Ljava/lang/Object;" .null := D101 (Or.inl (wd234 hw)) (ty := (.object "java/lang/Object")) (by decide)
  have F101_depth : Fld Z h101 b101 xS2 "depth" "I" (.int 0) := D101 (Or.inl (wd235 hw)) (ty := .int) (by decide)
  clear D101
  refine Go.dup X101 hx (hb hby d9_3) rfl (q := 4) rfl ?_
  refine Go.aloadN X101 hx (hb hby d9_4) rfl rfl (q := 5) rfl ?_
  refine Go.ldcH X101 hx hZ hown (wd47 hw) (own_wS hw) e101 hS hKd (own_EW hw) (List.mem_of_getElem? (i := 0) rfl) hC (vs := [(.int 45)]) (z := (1 : Int32)) ⟨by decide, rfl⟩ (by decide) rfl (hb hby d9_5) (nn := 4) (by decide) (by decide) (by decide) (by decide) (q := 7) rfl ?_
  intro b102 u102 kc102 T102 h102 k102 X102 e102 E102 hS hKd hZ hown B102 C102 F102 V102 hR102
  replace sf_b101 := hR102.safe A101.lt sf_b101
  replace hC := hC.trans hR102
  replace Es := Es.ext E102
  replace Cs := Cs.ext E102
  replace Fs := Fs.ext E102
  replace Vs := Vs.ext E102
  replace A101 := A101.ext E102
  replace U101 := U101.ext E102
  replace F101_cause := F101_cause.ext E102
  replace F101_stackTrace := F101_stackTrace.ext E102
  replace F101_suppressedExceptions := F101_suppressedExceptions.ext E102
  replace F101_detailMessage := F101_detailMessage.ext E102
  replace F101_backtrace := F101_backtrace.ext E102
  replace F101_depth := F101_depth.ext E102
  have OE102 := ext_trans OE101 E102
  replace KP := KP.ext E102
  have ne_s_u102 := Exa.neArv Es V102 (wd5 hw)
  have ne_b102_b101 := Exa.ne B102 A101 (by decide)
  have ne_b101_u102 := Exa.neArv A101 V102 (wd45 hw)
  refine Go.virt X102 hx hZ hown (wd48 hw) (wd49 hw) (notFace_of_selects (args := #[]) (mvT hZ (wd51 hw))) (wd51 hw) (wd50 hw) (wd6 hw) (wd52 hw) (by decide) (csw0 l Z a0 hw s b102 cs v u102 (kv) (kc102) h102 OE102 Es B102 Cs C102 Fs F102 Vs V102 SCS hcs) e102 Es (by rw [hml]; rfl) (hb hby d9_7) (argsL := [(.ref b102)]) (rest := [(.ref b101), (.ref b101)]) (lenOf pd24 rfl) rfl rfl (W := 2) (Nat.le_refl _) (by decide) ?_
  intro v103 T103 L103 X103 hQ103
  obtain ⟨rfl, N103q, e103⟩ := hQ103
  have N103 := Fr.app N0 N103q
  refine Go.ifYes X103 hx (hb hby d9_10) (by decide) (q := 35) (by decide) (by decide) ?_
  refine Go.newO X103 hx hZ hown (wd68 hw) (wd69 hw) (wd70 hw) e103 (hb hby d9_35) (by decide) (by decide) (q := 38) rfl ?_
  intro b104 T104 h104 X104 e104 q104 E104 A104 D104 U104
  have ne_s_b104 : s ≠ b104 := ne_new Es.lt (Nat.le_of_eq q104)
  have ne_v_b104 : v ≠ b104 := ne_new Vs.lt (Nat.le_of_eq q104)
  have ne_b101_b104 : b101 ≠ b104 := ne_new A101.lt (Nat.le_of_eq q104)
  have ne_b102_b104 : b102 ≠ b104 := ne_new B102.lt (Nat.le_of_eq q104)
  have ne_u102_b104 : u102 ≠ b104 := ne_new V102.lt (Nat.le_of_eq q104)
  have g_b104 : Z.heap.size ≤ b104 := Nat.le_trans OE102.1 (Nat.le_of_eq q104)
  have sf_b104 : Safe Z consts_1 T102.vm h102 b104 := Safe.new (Nat.le_of_eq q104)
  have z_b104 : h0.size ≤ b104 := Nat.le_trans KP.1 (Nat.le_of_eq q104)
  replace sf_b101 := sf_b101.ext E104 hC.1
  replace sf_b104 := sf_b104.ext E104 hC.1
  replace hC := hC.trans (CHr.ext E104 hC.1)
  replace Es := Es.ext E104
  replace Cs := Cs.ext E104
  replace Fs := Fs.ext E104
  replace Vs := Vs.ext E104
  replace A101 := A101.ext E104
  replace U101 := U101.ext E104
  replace F101_cause := F101_cause.ext E104
  replace F101_stackTrace := F101_stackTrace.ext E104
  replace F101_suppressedExceptions := F101_suppressedExceptions.ext E104
  replace F101_detailMessage := F101_detailMessage.ext E104
  replace F101_backtrace := F101_backtrace.ext E104
  replace F101_depth := F101_depth.ext E104
  replace B102 := B102.ext E104
  replace C102 := C102.ext E104
  replace F102 := F102.ext E104
  replace V102 := V102.ext E104
  have OE104 := ext_trans OE102 E104
  replace hKd := Nat.le_trans hKd E104.1
  replace KP := KP.ext E104
  have F104_value : Fld Z h104 b104 xS1 "value" "[B" .null := D104 (Or.inl (wd83 hw)) (ty := (.array .byte)) (by decide)
  have F104_coder : Fld Z h104 b104 xS1 "coder" "B" (.int 0) := D104 (Or.inl (wd85 hw)) (ty := .byte) (by decide)
  have F104_count : Fld Z h104 b104 xS1 "count" "I" (.int 0) := D104 (Or.inl (wd99 hw)) (ty := .int) (by decide)
  clear D104
  refine Go.dup X104 hx (hb hby d9_38) rfl (q := 39) rfl ?_
  refine Go.init X104 hx hZ hown rfl (wd71 hw) (wd72 hw) (wd70 hw) (wd73 hw) (by decide) (csb l Z a0 hw b104 cs h104 OE104 A104 g_b104 F104_value F104_coder F104_count SCS hcs) e104 (by rw [hml]; rfl) (hb hby d9_39) (argsL := []) (rest := [(.ref b104), (.ref b101), (.ref b101)]) (lenOf pd25 rfl) rfl rfl (W := 3) (Nat.le_refl _) (by decide) ?_
  intro v105 T105 L105 X105 hQ105
  obtain ⟨h105, e105⟩ : ∃ z, T105.heap = z := ⟨_, rfl⟩
  rw [e105] at hQ105
  obtain ⟨v_105, kv_105, rfl, N105q, K105, fr105_v, P105_0, P105_1, P105_2, P105_3, P105_4⟩ := hQ105
  have N105 := Fr.app N103 N105q
  have ne_s_v_105 : s ≠ v_105 := ne_new Es.lt fr105_v
  have ne_v_v_105 : v ≠ v_105 := ne_new Vs.lt fr105_v
  have ne_b101_v_105 : b101 ≠ v_105 := ne_new A101.lt fr105_v
  have ne_b102_v_105 : b102 ≠ v_105 := ne_new B102.lt fr105_v
  have ne_u102_v_105 : u102 ≠ v_105 := ne_new V102.lt fr105_v
  have ne_b104_v_105 : b104 ≠ v_105 := ne_new A104.lt fr105_v
  have g_v_105 : Z.heap.size ≤ v_105 := Nat.le_trans OE104.1 fr105_v
  have sf_v_105 : Safe Z consts_1 T102.vm h104 v_105 := Safe.new fr105_v
  have z_v_105 : h0.size ≤ v_105 := Nat.le_trans KP.1 fr105_v
  replace hKd := Nat.le_trans hKd K105.1
  have hSk : ∀ xq ∈ [b104], Safe Z consts_1 T102.vm h104 xq := (allS sf_b104 all0)
  replace sf_b101 := Safe.keep K105 hSk hC.1 sf_b101
  replace sf_b104 := Safe.keep K105 hSk hC.1 sf_b104
  replace sf_v_105 := Safe.keep K105 hSk hC.1 sf_v_105
  replace hC := hC.trans (CHr.keep K105 hSk hC.1)
  replace Es := Es.keep K105
  replace Cs := Cs.keep K105 (ninS ne_s_b104 nin0)
  replace Fs := Fs.keep K105 (ninS ne_s_b104 nin0)
  replace Vs := Vs.keep K105 (ninS ne_v_b104 nin0)
  replace A101 := A101.keep K105
  replace U101 := Unt.keep K105 (ninS ne_b101_b104 nin0) U101
  replace F101_cause := F101_cause.keep K105 (ninS ne_b101_b104 nin0)
  replace F101_stackTrace := F101_stackTrace.keep K105 (ninS ne_b101_b104 nin0)
  replace F101_suppressedExceptions := F101_suppressedExceptions.keep K105 (ninS ne_b101_b104 nin0)
  replace F101_detailMessage := F101_detailMessage.keep K105 (ninS ne_b101_b104 nin0)
  replace F101_backtrace := F101_backtrace.keep K105 (ninS ne_b101_b104 nin0)
  replace F101_depth := F101_depth.keep K105 (ninS ne_b101_b104 nin0)
  replace B102 := B102.keep K105
  replace C102 := C102.keep K105 (ninS ne_b102_b104 nin0)
  replace F102 := F102.keep K105 (ninS ne_b102_b104 nin0)
  replace V102 := V102.keep K105 (ninS ne_u102_b104 nin0)
  replace A104 := A104.keep K105
  have OK105 := ext_keep OE104 K105 (allS g_b104 all0)
  replace KP := KP.trans K105 (allS (Or.inr z_b104) all0)
  refine Go.ldcH X105 hx hZ hown (wd86 hw) (own_wS hw) e105 hS hKd (own_EW hw) (List.mem_of_getElem? (i := 2) rfl) hC (vs := [(.int 117), (.int 110), (.int 101), (.int 120), (.int 112), (.int 101), (.int 99), (.int 116), (.int 101), (.int 100), (.int 32), (.int 97), (.int 114), (.int 103), (.int 117), (.int 109), (.int 101), (.int 110), (.int 116), (.int 32)]) (z := (20 : Int32)) ⟨by decide, rfl⟩ (by decide) rfl (hb hby d9_42) (nn := 80) (by decide) (by decide) (by decide) (by decide) (q := 44) rfl ?_
  intro b106 u106 kc106 T106 h106 k106 X106 e106 E106 hS hKd hZ hown B106 C106 F106 V106 hR106
  replace sf_b101 := hR106.safe A101.lt sf_b101
  replace sf_b104 := hR106.safe A104.lt sf_b104
  replace sf_v_105 := hR106.safe P105_3.lt sf_v_105
  replace hC := hC.trans hR106
  replace Es := Es.ext E106
  replace Cs := Cs.ext E106
  replace Fs := Fs.ext E106
  replace Vs := Vs.ext E106
  replace A101 := A101.ext E106
  replace U101 := U101.ext E106
  replace F101_cause := F101_cause.ext E106
  replace F101_stackTrace := F101_stackTrace.ext E106
  replace F101_suppressedExceptions := F101_suppressedExceptions.ext E106
  replace F101_detailMessage := F101_detailMessage.ext E106
  replace F101_backtrace := F101_backtrace.ext E106
  replace F101_depth := F101_depth.ext E106
  replace B102 := B102.ext E106
  replace C102 := C102.ext E106
  replace F102 := F102.ext E106
  replace V102 := V102.ext E106
  replace A104 := A104.ext E106
  replace P105_0 := P105_0.ext E106
  replace P105_1 := P105_1.ext E106
  replace P105_2 := P105_2.ext E106
  replace P105_3 := P105_3.ext E106
  replace P105_4 := P105_4.ext E106
  have OE106 := ext_trans OK105 E106
  replace KP := KP.ext E106
  have ne_s_u106 := Exa.neArv Es V106 (wd5 hw)
  have ne_b106_b101 := Exa.ne B106 A101 (by decide)
  have ne_b101_u106 := Exa.neArv A101 V106 (wd45 hw)
  have ne_b102_u106 := Exa.neArv B102 V106 (wd5 hw)
  have ne_b106_b104 := Exa.ne B106 A104 (by decide)
  have ne_b104_u106 := Exa.neArv A104 V106 (wd69 hw)
  have ne_b106_v_105 := Exa.ne B106 P105_3 (by decide)
  refine Go.virt X106 hx hZ hown (wd87 hw) (wd88 hw) (notFace_of_selects (args := #[]) (mvT hZ (wd90 hw))) (wd90 hw) (wd89 hw) (wd70 hw) (wd91 hw) (by decide) (cabG l Z a0 hw b104 v_105 (kv_105) b106 u106 (kc106) cs h106 OE106 A104 g_b104 P105_0 P105_1 P105_2 P105_4 B106 C106 F106 V106 (Ne.symm ne_b106_b104) ne_b104_u106 SCS hcs) e106 A104 (by rw [hml]; rfl) (hb hby d9_44) (argsL := [(.ref b106)]) (rest := [(.ref b101), (.ref b101)]) (lenOf pd26 rfl) rfl rfl (W := 2) (Nat.le_refl _) (by decide) ?_
  intro v107 T107 L107 X107 hQ107
  obtain ⟨h107, e107⟩ : ∃ z, T107.heap = z := ⟨_, rfl⟩
  rw [e107] at hQ107
  obtain ⟨u_107, ku_107, rfl, N107q, K107, fr107_u, P107_0, P107_1, P107_2, P107_3⟩ := hQ107
  have N107 := Fr.app N105 N107q
  have ne_s_u_107 : s ≠ u_107 := ne_new Es.lt fr107_u
  have ne_v_u_107 : v ≠ u_107 := ne_new Vs.lt fr107_u
  have ne_b101_u_107 : b101 ≠ u_107 := ne_new A101.lt fr107_u
  have ne_b102_u_107 : b102 ≠ u_107 := ne_new B102.lt fr107_u
  have ne_u102_u_107 : u102 ≠ u_107 := ne_new V102.lt fr107_u
  have ne_b104_u_107 : b104 ≠ u_107 := ne_new A104.lt fr107_u
  have ne_v_105_u_107 : v_105 ≠ u_107 := ne_new P105_3.lt fr107_u
  have ne_b106_u_107 : b106 ≠ u_107 := ne_new B106.lt fr107_u
  have ne_u106_u_107 : u106 ≠ u_107 := ne_new V106.lt fr107_u
  have g_u_107 : Z.heap.size ≤ u_107 := Nat.le_trans OE106.1 fr107_u
  have sf_u_107 : Safe Z consts_1 T106.vm h106 u_107 := Safe.new fr107_u
  have z_u_107 : h0.size ≤ u_107 := Nat.le_trans KP.1 fr107_u
  replace hKd := Nat.le_trans hKd K107.1
  have hSk : ∀ xq ∈ [b104], Safe Z consts_1 T106.vm h106 xq := (allS sf_b104 all0)
  replace sf_b101 := Safe.keep K107 hSk hC.1 sf_b101
  replace sf_b104 := Safe.keep K107 hSk hC.1 sf_b104
  replace sf_v_105 := Safe.keep K107 hSk hC.1 sf_v_105
  replace sf_u_107 := Safe.keep K107 hSk hC.1 sf_u_107
  replace hC := hC.trans (CHr.keep K107 hSk hC.1)
  replace Es := Es.keep K107
  replace Cs := Cs.keep K107 (ninS ne_s_b104 nin0)
  replace Fs := Fs.keep K107 (ninS ne_s_b104 nin0)
  replace Vs := Vs.keep K107 (ninS ne_v_b104 nin0)
  replace A101 := A101.keep K107
  replace U101 := Unt.keep K107 (ninS ne_b101_b104 nin0) U101
  replace F101_cause := F101_cause.keep K107 (ninS ne_b101_b104 nin0)
  replace F101_stackTrace := F101_stackTrace.keep K107 (ninS ne_b101_b104 nin0)
  replace F101_suppressedExceptions := F101_suppressedExceptions.keep K107 (ninS ne_b101_b104 nin0)
  replace F101_detailMessage := F101_detailMessage.keep K107 (ninS ne_b101_b104 nin0)
  replace F101_backtrace := F101_backtrace.keep K107 (ninS ne_b101_b104 nin0)
  replace F101_depth := F101_depth.keep K107 (ninS ne_b101_b104 nin0)
  replace B102 := B102.keep K107
  replace C102 := C102.keep K107 (ninS ne_b102_b104 nin0)
  replace F102 := F102.keep K107 (ninS ne_b102_b104 nin0)
  replace V102 := V102.keep K107 (ninS ne_u102_b104 nin0)
  replace A104 := A104.keep K107
  replace P105_3 := P105_3.keep K107
  replace P105_4 := P105_4.keep K107 (ninS (Ne.symm ne_b104_v_105) nin0)
  replace B106 := B106.keep K107
  replace C106 := C106.keep K107 (ninS ne_b106_b104 nin0)
  replace F106 := F106.keep K107 (ninS ne_b106_b104 nin0)
  replace V106 := V106.keep K107 (ninS (Ne.symm ne_b104_u106) nin0)
  have OK107 := ext_keep OE106 K107 (allS g_b104 all0)
  replace KP := KP.trans K107 (allS (Or.inr z_b104) all0)
  refine Go.aloadN X107 hx (hb hby d9_47) rfl rfl (q := 48) rfl ?_
  refine Go.virt X107 hx hZ hown (wd87 hw) (wd88 hw) (notFace_of_selects (args := #[]) (mvT hZ (wd90 hw))) (wd90 hw) (wd89 hw) (wd70 hw) (wd91 hw) (by decide) (cab l Z a0 hw b104 s v u_107 cs ((34 : Int32)) (ku_107) (kv) ((20 : Int32)) ((0 : Int32)) ([]) ([(.int 117), (.int 110), (.int 101), (.int 120), (.int 112), (.int 101), (.int 99), (.int 116), (.int 101), (.int 100), (.int 32), (.int 97), (.int 114), (.int 103), (.int 117), (.int 109), (.int 101), (.int 110), (.int 116), (.int 32), (.int 0), (.int 0), (.int 0)]) ([(.int 117), (.int 110), (.int 101), (.int 120), (.int 112), (.int 101), (.int 99), (.int 116), (.int 101), (.int 100), (.int 32), (.int 97), (.int 114), (.int 103), (.int 117), (.int 109), (.int 101), (.int 110), (.int 116), (.int 32), (.int 0), (.int 0), (.int 0)]) h107 OK107 A104 P107_0 P107_1 P107_2 P107_3 g_u_107 g_b104 ne_b104_u_107 Es Cs Fs Vs SCS hcs ⟨⟨by decide, by decide, by decide⟩, by decide, by decide, rfl, Nat.le_of_ble_eq_true rfl, rfl⟩ (by decide)) e107 A104 (by rw [hml]; rfl) (hb hby d9_48) (argsL := [(.ref s)]) (rest := [(.ref b101), (.ref b101)]) (lenOf pd26 rfl) rfl rfl (W := 2) (Nat.le_refl _) (by decide) ?_
  intro v108 T108 L108 X108 hQ108
  obtain ⟨h108, e108⟩ : ∃ z, T108.heap = z := ⟨_, rfl⟩
  rw [e108] at hQ108
  obtain ⟨rfl, N108q, K108, P108_0, P108_1, P108_2, P108_3⟩ := hQ108
  have N108 := Fr.app N107 N108q
  replace hKd := Nat.le_trans hKd K108.1
  have hSk : ∀ xq ∈ [b104, u_107], Safe Z consts_1 T106.vm h107 xq := (allS sf_b104 (allS sf_u_107 all0))
  replace sf_b101 := Safe.keep K108 hSk hC.1 sf_b101
  replace sf_b104 := Safe.keep K108 hSk hC.1 sf_b104
  replace sf_v_105 := Safe.keep K108 hSk hC.1 sf_v_105
  replace sf_u_107 := Safe.keep K108 hSk hC.1 sf_u_107
  replace hC := hC.trans (CHr.keep K108 hSk hC.1)
  replace Es := Es.keep K108
  replace Cs := Cs.keep K108 (ninS ne_s_b104 (ninS ne_s_u_107 nin0))
  replace Fs := Fs.keep K108 (ninS ne_s_b104 (ninS ne_s_u_107 nin0))
  replace Vs := Vs.keep K108 (ninS ne_v_b104 (ninS ne_v_u_107 nin0))
  replace A101 := A101.keep K108
  replace U101 := Unt.keep K108 (ninS ne_b101_b104 (ninS ne_b101_u_107 nin0)) U101
  replace F101_cause := F101_cause.keep K108 (ninS ne_b101_b104 (ninS ne_b101_u_107 nin0))
  replace F101_stackTrace := F101_stackTrace.keep K108 (ninS ne_b101_b104 (ninS ne_b101_u_107 nin0))
  replace F101_suppressedExceptions := F101_suppressedExceptions.keep K108 (ninS ne_b101_b104 (ninS ne_b101_u_107 nin0))
  replace F101_detailMessage := F101_detailMessage.keep K108 (ninS ne_b101_b104 (ninS ne_b101_u_107 nin0))
  replace F101_backtrace := F101_backtrace.keep K108 (ninS ne_b101_b104 (ninS ne_b101_u_107 nin0))
  replace F101_depth := F101_depth.keep K108 (ninS ne_b101_b104 (ninS ne_b101_u_107 nin0))
  replace B102 := B102.keep K108
  replace C102 := C102.keep K108 (ninS ne_b102_b104 (ninS ne_b102_u_107 nin0))
  replace F102 := F102.keep K108 (ninS ne_b102_b104 (ninS ne_b102_u_107 nin0))
  replace V102 := V102.keep K108 (ninS ne_u102_b104 (ninS ne_u102_u_107 nin0))
  replace A104 := A104.keep K108
  replace P105_3 := P105_3.keep K108
  replace P105_4 := P105_4.keep K108 (ninS (Ne.symm ne_b104_v_105) (ninS ne_v_105_u_107 nin0))
  replace B106 := B106.keep K108
  replace C106 := C106.keep K108 (ninS ne_b106_b104 (ninS ne_b106_u_107 nin0))
  replace F106 := F106.keep K108 (ninS ne_b106_b104 (ninS ne_b106_u_107 nin0))
  replace V106 := V106.keep K108 (ninS (Ne.symm ne_b104_u106) (ninS ne_u106_u_107 nin0))
  have OK108 := ext_keep OK107 K108 (allS g_b104 (allS g_u_107 all0))
  replace KP := KP.trans K108 (allS (Or.inr z_b104) (allS (Or.inr z_u_107) all0))
  refine Go.virt X108 hx hZ hown (wd148 hw) (wd149 hw) (notFace_of_selects (args := #[]) (mvT hZ (wd151 hw))) (wd151 hw) (wd150 hw) (wd70 hw) (wd152 hw) (by decide) (cts l Z a0 hw b104 u_107 cs ((34 : Int32)) (ku_107) ((20 : Int32)) ([(.int 117), (.int 110), (.int 101), (.int 120), (.int 112), (.int 101), (.int 99), (.int 116), (.int 101), (.int 100), (.int 32), (.int 97), (.int 114), (.int 103), (.int 117), (.int 109), (.int 101), (.int 110), (.int 116), (.int 32), (.int 0), (.int 0), (.int 0)]) ([(.int 117), (.int 110), (.int 101), (.int 120), (.int 112), (.int 101), (.int 99), (.int 116), (.int 101), (.int 100), (.int 32), (.int 97), (.int 114), (.int 103), (.int 117), (.int 109), (.int 101), (.int 110), (.int 116), (.int 32)]) h108 OK108 A104 P108_0 P108_1 P108_2 P108_3 SCS hcs ⟨⟨by decide, by decide⟩, by decide, rfl⟩) e108 A104 (by rw [hml]; rfl) (hb hby d9_51) (argsL := []) (rest := [(.ref b101), (.ref b101)]) (lenOf pd27 rfl) rfl rfl (W := 2) (Nat.le_refl _) (by decide) ?_
  intro v109 T109 L109 X109 hQ109
  obtain ⟨h109, e109⟩ : ∃ z, T109.heap = z := ⟨_, rfl⟩
  rw [e109] at hQ109
  obtain ⟨t_109, u_109, ku_109, rfl, N109q, K109, fr109_t, fr109_u, P109_0, P109_1, P109_2, P109_3⟩ := hQ109
  have N109 := Fr.app N108 N109q
  have ne_s_t_109 : s ≠ t_109 := ne_new Es.lt fr109_t
  have ne_v_t_109 : v ≠ t_109 := ne_new Vs.lt fr109_t
  have ne_b101_t_109 : b101 ≠ t_109 := ne_new A101.lt fr109_t
  have ne_b102_t_109 : b102 ≠ t_109 := ne_new B102.lt fr109_t
  have ne_u102_t_109 : u102 ≠ t_109 := ne_new V102.lt fr109_t
  have ne_b104_t_109 : b104 ≠ t_109 := ne_new A104.lt fr109_t
  have ne_v_105_t_109 : v_105 ≠ t_109 := ne_new P105_3.lt fr109_t
  have ne_b106_t_109 : b106 ≠ t_109 := ne_new B106.lt fr109_t
  have ne_u106_t_109 : u106 ≠ t_109 := ne_new V106.lt fr109_t
  have ne_u_107_t_109 : u_107 ≠ t_109 := ne_new P108_3.lt fr109_t
  have g_t_109 : Z.heap.size ≤ t_109 := Nat.le_trans OK108.1 fr109_t
  have sf_t_109 : Safe Z consts_1 T106.vm h108 t_109 := Safe.new fr109_t
  have z_t_109 : h0.size ≤ t_109 := Nat.le_trans KP.1 fr109_t
  have ne_s_u_109 : s ≠ u_109 := ne_new Es.lt fr109_u
  have ne_v_u_109 : v ≠ u_109 := ne_new Vs.lt fr109_u
  have ne_b101_u_109 : b101 ≠ u_109 := ne_new A101.lt fr109_u
  have ne_b102_u_109 : b102 ≠ u_109 := ne_new B102.lt fr109_u
  have ne_u102_u_109 : u102 ≠ u_109 := ne_new V102.lt fr109_u
  have ne_b104_u_109 : b104 ≠ u_109 := ne_new A104.lt fr109_u
  have ne_v_105_u_109 : v_105 ≠ u_109 := ne_new P105_3.lt fr109_u
  have ne_b106_u_109 : b106 ≠ u_109 := ne_new B106.lt fr109_u
  have ne_u106_u_109 : u106 ≠ u_109 := ne_new V106.lt fr109_u
  have ne_u_107_u_109 : u_107 ≠ u_109 := ne_new P108_3.lt fr109_u
  have g_u_109 : Z.heap.size ≤ u_109 := Nat.le_trans OK108.1 fr109_u
  have sf_u_109 : Safe Z consts_1 T106.vm h108 u_109 := Safe.new fr109_u
  have z_u_109 : h0.size ≤ u_109 := Nat.le_trans KP.1 fr109_u
  replace hKd := Nat.le_trans hKd K109.1
  have hSk : ∀ xq ∈ ([] : List Addr), Safe Z consts_1 T106.vm h108 xq := all0
  replace sf_b101 := Safe.keep K109 hSk hC.1 sf_b101
  replace sf_b104 := Safe.keep K109 hSk hC.1 sf_b104
  replace sf_v_105 := Safe.keep K109 hSk hC.1 sf_v_105
  replace sf_u_107 := Safe.keep K109 hSk hC.1 sf_u_107
  replace sf_t_109 := Safe.keep K109 hSk hC.1 sf_t_109
  replace sf_u_109 := Safe.keep K109 hSk hC.1 sf_u_109
  replace hC := hC.trans (CHr.keep K109 hSk hC.1)
  replace Es := Es.keep K109
  replace Cs := Cs.keep K109 nin0
  replace Fs := Fs.keep K109 nin0
  replace Vs := Vs.keep K109 nin0
  replace A101 := A101.keep K109
  replace U101 := Unt.keep K109 nin0 U101
  replace F101_cause := F101_cause.keep K109 nin0
  replace F101_stackTrace := F101_stackTrace.keep K109 nin0
  replace F101_suppressedExceptions := F101_suppressedExceptions.keep K109 nin0
  replace F101_detailMessage := F101_detailMessage.keep K109 nin0
  replace F101_backtrace := F101_backtrace.keep K109 nin0
  replace F101_depth := F101_depth.keep K109 nin0
  replace B102 := B102.keep K109
  replace C102 := C102.keep K109 nin0
  replace F102 := F102.keep K109 nin0
  replace V102 := V102.keep K109 nin0
  replace A104 := A104.keep K109
  replace P105_3 := P105_3.keep K109
  replace P105_4 := P105_4.keep K109 nin0
  replace B106 := B106.keep K109
  replace C106 := C106.keep K109 nin0
  replace F106 := F106.keep K109 nin0
  replace V106 := V106.keep K109 nin0
  replace P108_0 := P108_0.keep K109 nin0
  replace P108_1 := P108_1.keep K109 nin0
  replace P108_2 := P108_2.keep K109 nin0
  replace P108_3 := P108_3.keep K109 nin0
  have OK109 := ext_keep OK108 K109 all0
  replace KP := KP.trans K109 all0
  refine Go.initK X109 hx hZ hown hS hKd (own_EW hw) hC hKn rfl (wd187 hw) (wd188 hw) (wd46 hw) (wd189 hw) (by decide) (cux1 l Z a0 hw b101 t_109 au an h109 OK109 A101 U101 g_b101 F101_cause F101_stackTrace F101_suppressedExceptions F101_backtrace F101_detailMessage SU SN hlt) e109 (by rw [hml]; rfl) (hb hby d9_54) (argsL := [(.ref t_109)]) (rest := [(.ref b101)]) (lenOf pd10 rfl) rfl rfl (W := 1) (Nat.le_refl _) (by decide) ?_
  intro v110 T110 L110 k110 X110 hS hKd hZ hown hR110 hQ110
  obtain ⟨h110, e110⟩ : ∃ z, T110.heap = z := ⟨_, rfl⟩
  rw [e110] at hQ110 hKd hR110
  obtain ⟨rfl, N110q, K110, P110_0⟩ := hQ110
  have N110 := Fr.app N109 N110q
  replace sf_b101 := hR110.safe A101.lt sf_b101
  replace sf_b104 := hR110.safe A104.lt sf_b104
  replace sf_v_105 := hR110.safe P105_3.lt sf_v_105
  replace sf_u_107 := hR110.safe P108_3.lt sf_u_107
  replace sf_t_109 := hR110.safe P109_0.lt sf_t_109
  replace sf_u_109 := hR110.safe P109_3.lt sf_u_109
  replace hC := hC.trans hR110
  replace Es := Es.keep K110
  replace Cs := Cs.keep K110 (ninS ne_s_b101 nin0)
  replace Fs := Fs.keep K110 (ninS ne_s_b101 nin0)
  replace Vs := Vs.keep K110 (ninS ne_v_b101 nin0)
  replace A101 := A101.keep K110
  replace B102 := B102.keep K110
  replace C102 := C102.keep K110 (ninS ne_b102_b101 nin0)
  replace F102 := F102.keep K110 (ninS ne_b102_b101 nin0)
  replace V102 := V102.keep K110 (ninS (Ne.symm ne_b101_u102) nin0)
  replace A104 := A104.keep K110
  replace P105_3 := P105_3.keep K110
  replace P105_4 := P105_4.keep K110 (ninS (Ne.symm ne_b101_v_105) nin0)
  replace B106 := B106.keep K110
  replace C106 := C106.keep K110 (ninS ne_b106_b101 nin0)
  replace F106 := F106.keep K110 (ninS ne_b106_b101 nin0)
  replace V106 := V106.keep K110 (ninS (Ne.symm ne_b101_u106) nin0)
  replace P108_0 := P108_0.keep K110 (ninS (Ne.symm ne_b101_b104) nin0)
  replace P108_1 := P108_1.keep K110 (ninS (Ne.symm ne_b101_b104) nin0)
  replace P108_2 := P108_2.keep K110 (ninS (Ne.symm ne_b101_b104) nin0)
  replace P108_3 := P108_3.keep K110 (ninS (Ne.symm ne_b101_u_107) nin0)
  replace P109_0 := P109_0.keep K110
  replace P109_1 := P109_1.keep K110 (ninS (Ne.symm ne_b101_t_109) nin0)
  replace P109_2 := P109_2.keep K110 (ninS (Ne.symm ne_b101_t_109) nin0)
  replace P109_3 := P109_3.keep K110 (ninS (Ne.symm ne_b101_u_109) nin0)
  have OK110 := ext_keep OK109 K110 (allS g_b101 all0)
  replace KP := KP.trans K110 (allS (Or.inr z_b101) all0)
  exact Go.retAH X110 hx hS hKd hs0 hZ (own_EW hw) hC hret hlk rfl rfl (hb hby d9_57) e110 (by decide) (by decide) ⟨b101, t_109, u_109, ku_109, rfl, N110, KP, z_t_109, z_u_109, A101, P110_0, P109_0, P109_2, P109_1, P109_3⟩
def Q_cung (Z : State) (s v : Addr) (kv : ClassId) (cs : Int32) (au an : Addr) (ln y0 : Int32) (us oa oc : List Value) (h0 : Heap) (vR : Option Value) (hR : Heap) (LR : List Loc) : Prop := ∃ x : Addr, ∃ w : Addr, ∃ u : Addr, ∃ ku : ClassId, vR = some (.ref x) ∧ Fr Z.heap.size LR ∧ Keep h0 hR [] ∧ h0.size ≤ w ∧ h0.size ≤ u ∧ Exa Z hR x xS8 ∧ Fld Z hR x xS2 "detailMessage" "Ljava/lang/String;" (.ref w) ∧ Exa Z hR w xS0 ∧ Fld Z hR w xS0 "coder" "B" (.int 0) ∧ Fld Z hR w xS0 "value" "[B" (.ref u) ∧ Arv Z hR u ku .byte ((20 : Int32) + ln) oc (.int 0)
theorem cung (l : Launch) (Z : State) (a0 : Array Value) (hw : ∀ d ∈ tables_1, d.before a0 Z = true) (s v : Addr) (kv : ClassId) (cs : Int32) (au an : Addr) (ln y0 : Int32) (us oa oc : List Value) (h0 : Heap) (O0 : Ext Z.heap h0) (Es : Exa Z h0 s xS0) (Cs : Fld Z h0 s xS0 "coder" "B" (.int 0)) (Fs : Fld Z h0 s xS0 "value" "[B" (.ref v)) (Vs : Arv Z h0 v kv .byte ln us (.int 0)) (SCS : Sta Z Z.heap xS0 xS3 "Z" (.int cs)) (SU : Sta Z Z.heap xS2 "UNASSIGNED_STACK" xS7 (.ref au)) (SN : Sta Z Z.heap xS2 "SUPPRESSED_SENTINEL" "Ljava/util/List;" (.ref an)) (hcs : ¬ (cs = (0 : Int32))) (hlt : l.stackTraces = true) (hn : (0 : Int32) < ln) (hl : ¬ ((ln - (1 : Int32)) < (0 : Int32))) (hg : us.getD ((0 : Int32)).toNatClampNeg (.int (0 : Int32)) = (.int y0)) (he : ¬ (y0 = (45 : Int32))) (hcp : Cpy (0 : Int32) (20 : Int32) ln ln (34 : Int32) us [(.int 117), (.int 110), (.int 101), (.int 120), (.int 112), (.int 101), (.int 99), (.int 116), (.int 101), (.int 100), (.int 32), (.int 97), (.int 114), (.int 103), (.int 117), (.int 109), (.int 101), (.int 110), (.int 116), (.int 32), (.int 0), (.int 0), (.int 0)] us oa) (hcap : ¬ ((0 : Int32) < (((20 : Int32) + ln) - (34 : Int32)))) (hct : Cut ((20 : Int32) + ln) (34 : Int32) oa oc) :
    CtrK l Z consts_1 h0 (⟨"com/example/loopd/loopd/Flags", "unexpected", "(Ljava/lang/String;)Lcom/example/loopd/loopd/UsageException;"⟩ : MethodName) k9 1 (some (.object xS8)) [] ({ frames := 6, cells := 11, slots := 2932, locals := 93 } : Room) #[(.ref s)] (Q_cung Z s v kv cs au an ln y0 us oa oc h0) := by
  refine enterK (plainFor_of_name pn10) ?_
  intro pp ee ss mm below meth cc s₁ hx hby hml hZ hown hnm hret hlk X0 e0 hs0 hS hC hKn
  replace hown : (ss.setVm ss.vm).vm.findClass "com/example/loopd/loopd/Flags" = some mm.cls := hown
  have hKd := Nat.zero_le h0.size
  refine Go.cast (congrArg s₁.setTop (ef_cung mm s)) ?_
  have N0 := Fr.nil Z.heap.size
  have KP := Keep.refl h0 []
  show Go pp ee below _ (s₁.setTop (mkF mm 0 #[.val (.ref s)] []))
  refine Go.newO X0 hx hZ hown (wd44 hw) (wd45 hw) (wd46 hw) e0 (hb hby d9_0) (by decide) (by decide) (q := 3) rfl ?_
  intro b101 T101 h101 X101 e101 q101 E101 A101 D101 U101
  have ne_s_b101 : s ≠ b101 := ne_new Es.lt (Nat.le_of_eq q101)
  have ne_v_b101 : v ≠ b101 := ne_new Vs.lt (Nat.le_of_eq q101)
  have g_b101 : Z.heap.size ≤ b101 := Nat.le_trans O0.1 (Nat.le_of_eq q101)
  have sf_b101 : Safe Z consts_1 ss.vm h0 b101 := Safe.new (Nat.le_of_eq q101)
  have z_b101 : h0.size ≤ b101 := Nat.le_trans KP.1 (Nat.le_of_eq q101)
  replace sf_b101 := sf_b101.ext E101 hC.1
  replace hC := hC.trans (CHr.ext E101 hC.1)
  replace Es := Es.ext E101
  replace Cs := Cs.ext E101
  replace Fs := Fs.ext E101
  replace Vs := Vs.ext E101
  have OE101 := ext_trans O0 E101
  replace hKd := Nat.le_trans hKd E101.1
  replace KP := KP.ext E101
  have F101_cause : Fld Z h101 b101 xS2 "cause" "Ljava/lang/Throwable;" .null := D101 (Or.inl (wd203 hw)) (ty := (.object xS2)) (by decide)
  have F101_stackTrace : Fld Z h101 b101 xS2 "stackTrace" xS7 .null := D101 (Or.inl (wd206 hw)) (ty := (.array (.object "java/lang/StackTraceElement"))) (by decide)
  have F101_suppressedExceptions : Fld Z h101 b101 xS2 "suppressedExceptions" "Ljava/util/List;" .null := D101 (Or.inl (wd209 hw)) (ty := (.object "java/util/List")) (by decide)
  have F101_detailMessage : Fld Z h101 b101 xS2 "detailMessage" "Ljava/lang/String;" .null := D101 (Or.inl (wd233 hw)) (ty := (.object xS0)) (by decide)
  have F101_backtrace : Fld Z h101 b101 xS2 "backtrace" "Ljava/lang/Object;" .null := D101 (Or.inl (wd234 hw)) (ty := (.object "java/lang/Object")) (by decide)
  have F101_depth : Fld Z h101 b101 xS2 "depth" "I" (.int 0) := D101 (Or.inl (wd235 hw)) (ty := .int) (by decide)
  clear D101
  refine Go.dup X101 hx (hb hby d9_3) rfl (q := 4) rfl ?_
  refine Go.aloadN X101 hx (hb hby d9_4) rfl rfl (q := 5) rfl ?_
  refine Go.ldcH X101 hx hZ hown (wd47 hw) (own_wS hw) e101 hS hKd (own_EW hw) (List.mem_of_getElem? (i := 0) rfl) hC (vs := [(.int 45)]) (z := (1 : Int32)) ⟨by decide, rfl⟩ (by decide) rfl (hb hby d9_5) (nn := 4) (by decide) (by decide) (by decide) (by decide) (q := 7) rfl ?_
  intro b102 u102 kc102 T102 h102 k102 X102 e102 E102 hS hKd hZ hown B102 C102 F102 V102 hR102
  replace sf_b101 := hR102.safe A101.lt sf_b101
  replace hC := hC.trans hR102
  replace Es := Es.ext E102
  replace Cs := Cs.ext E102
  replace Fs := Fs.ext E102
  replace Vs := Vs.ext E102
  replace A101 := A101.ext E102
  replace U101 := U101.ext E102
  replace F101_cause := F101_cause.ext E102
  replace F101_stackTrace := F101_stackTrace.ext E102
  replace F101_suppressedExceptions := F101_suppressedExceptions.ext E102
  replace F101_detailMessage := F101_detailMessage.ext E102
  replace F101_backtrace := F101_backtrace.ext E102
  replace F101_depth := F101_depth.ext E102
  have OE102 := ext_trans OE101 E102
  replace KP := KP.ext E102
  have ne_s_u102 := Exa.neArv Es V102 (wd5 hw)
  have ne_b102_b101 := Exa.ne B102 A101 (by decide)
  have ne_b101_u102 := Exa.neArv A101 V102 (wd45 hw)
  refine Go.virt X102 hx hZ hown (wd48 hw) (wd49 hw) (notFace_of_selects (args := #[]) (mvT hZ (wd51 hw))) (wd51 hw) (wd50 hw) (wd6 hw) (wd52 hw) (by decide) (cswn l Z a0 hw s b102 cs v u102 (kv) (kc102) ln y0 (us) h102 OE102 Es B102 Cs C102 Fs F102 Vs V102 SCS hcs hn hg hl he) e102 Es (by rw [hml]; rfl) (hb hby d9_7) (argsL := [(.ref b102)]) (rest := [(.ref b101), (.ref b101)]) (lenOf pd24 rfl) rfl rfl (W := 2) (Nat.le_refl _) (by decide) ?_
  intro v103 T103 L103 X103 hQ103
  obtain ⟨rfl, N103q, e103⟩ := hQ103
  have N103 := Fr.app N0 N103q
  refine Go.ifYes X103 hx (hb hby d9_10) (by decide) (q := 35) (by decide) (by decide) ?_
  refine Go.newO X103 hx hZ hown (wd68 hw) (wd69 hw) (wd70 hw) e103 (hb hby d9_35) (by decide) (by decide) (q := 38) rfl ?_
  intro b104 T104 h104 X104 e104 q104 E104 A104 D104 U104
  have ne_s_b104 : s ≠ b104 := ne_new Es.lt (Nat.le_of_eq q104)
  have ne_v_b104 : v ≠ b104 := ne_new Vs.lt (Nat.le_of_eq q104)
  have ne_b101_b104 : b101 ≠ b104 := ne_new A101.lt (Nat.le_of_eq q104)
  have ne_b102_b104 : b102 ≠ b104 := ne_new B102.lt (Nat.le_of_eq q104)
  have ne_u102_b104 : u102 ≠ b104 := ne_new V102.lt (Nat.le_of_eq q104)
  have g_b104 : Z.heap.size ≤ b104 := Nat.le_trans OE102.1 (Nat.le_of_eq q104)
  have sf_b104 : Safe Z consts_1 T102.vm h102 b104 := Safe.new (Nat.le_of_eq q104)
  have z_b104 : h0.size ≤ b104 := Nat.le_trans KP.1 (Nat.le_of_eq q104)
  replace sf_b101 := sf_b101.ext E104 hC.1
  replace sf_b104 := sf_b104.ext E104 hC.1
  replace hC := hC.trans (CHr.ext E104 hC.1)
  replace Es := Es.ext E104
  replace Cs := Cs.ext E104
  replace Fs := Fs.ext E104
  replace Vs := Vs.ext E104
  replace A101 := A101.ext E104
  replace U101 := U101.ext E104
  replace F101_cause := F101_cause.ext E104
  replace F101_stackTrace := F101_stackTrace.ext E104
  replace F101_suppressedExceptions := F101_suppressedExceptions.ext E104
  replace F101_detailMessage := F101_detailMessage.ext E104
  replace F101_backtrace := F101_backtrace.ext E104
  replace F101_depth := F101_depth.ext E104
  replace B102 := B102.ext E104
  replace C102 := C102.ext E104
  replace F102 := F102.ext E104
  replace V102 := V102.ext E104
  have OE104 := ext_trans OE102 E104
  replace hKd := Nat.le_trans hKd E104.1
  replace KP := KP.ext E104
  have F104_value : Fld Z h104 b104 xS1 "value" "[B" .null := D104 (Or.inl (wd83 hw)) (ty := (.array .byte)) (by decide)
  have F104_coder : Fld Z h104 b104 xS1 "coder" "B" (.int 0) := D104 (Or.inl (wd85 hw)) (ty := .byte) (by decide)
  have F104_count : Fld Z h104 b104 xS1 "count" "I" (.int 0) := D104 (Or.inl (wd99 hw)) (ty := .int) (by decide)
  clear D104
  refine Go.dup X104 hx (hb hby d9_38) rfl (q := 39) rfl ?_
  refine Go.init X104 hx hZ hown rfl (wd71 hw) (wd72 hw) (wd70 hw) (wd73 hw) (by decide) (csb l Z a0 hw b104 cs h104 OE104 A104 g_b104 F104_value F104_coder F104_count SCS hcs) e104 (by rw [hml]; rfl) (hb hby d9_39) (argsL := []) (rest := [(.ref b104), (.ref b101), (.ref b101)]) (lenOf pd25 rfl) rfl rfl (W := 3) (Nat.le_refl _) (by decide) ?_
  intro v105 T105 L105 X105 hQ105
  obtain ⟨h105, e105⟩ : ∃ z, T105.heap = z := ⟨_, rfl⟩
  rw [e105] at hQ105
  obtain ⟨v_105, kv_105, rfl, N105q, K105, fr105_v, P105_0, P105_1, P105_2, P105_3, P105_4⟩ := hQ105
  have N105 := Fr.app N103 N105q
  have ne_s_v_105 : s ≠ v_105 := ne_new Es.lt fr105_v
  have ne_v_v_105 : v ≠ v_105 := ne_new Vs.lt fr105_v
  have ne_b101_v_105 : b101 ≠ v_105 := ne_new A101.lt fr105_v
  have ne_b102_v_105 : b102 ≠ v_105 := ne_new B102.lt fr105_v
  have ne_u102_v_105 : u102 ≠ v_105 := ne_new V102.lt fr105_v
  have ne_b104_v_105 : b104 ≠ v_105 := ne_new A104.lt fr105_v
  have g_v_105 : Z.heap.size ≤ v_105 := Nat.le_trans OE104.1 fr105_v
  have sf_v_105 : Safe Z consts_1 T102.vm h104 v_105 := Safe.new fr105_v
  have z_v_105 : h0.size ≤ v_105 := Nat.le_trans KP.1 fr105_v
  replace hKd := Nat.le_trans hKd K105.1
  have hSk : ∀ xq ∈ [b104], Safe Z consts_1 T102.vm h104 xq := (allS sf_b104 all0)
  replace sf_b101 := Safe.keep K105 hSk hC.1 sf_b101
  replace sf_b104 := Safe.keep K105 hSk hC.1 sf_b104
  replace sf_v_105 := Safe.keep K105 hSk hC.1 sf_v_105
  replace hC := hC.trans (CHr.keep K105 hSk hC.1)
  replace Es := Es.keep K105
  replace Cs := Cs.keep K105 (ninS ne_s_b104 nin0)
  replace Fs := Fs.keep K105 (ninS ne_s_b104 nin0)
  replace Vs := Vs.keep K105 (ninS ne_v_b104 nin0)
  replace A101 := A101.keep K105
  replace U101 := Unt.keep K105 (ninS ne_b101_b104 nin0) U101
  replace F101_cause := F101_cause.keep K105 (ninS ne_b101_b104 nin0)
  replace F101_stackTrace := F101_stackTrace.keep K105 (ninS ne_b101_b104 nin0)
  replace F101_suppressedExceptions := F101_suppressedExceptions.keep K105 (ninS ne_b101_b104 nin0)
  replace F101_detailMessage := F101_detailMessage.keep K105 (ninS ne_b101_b104 nin0)
  replace F101_backtrace := F101_backtrace.keep K105 (ninS ne_b101_b104 nin0)
  replace F101_depth := F101_depth.keep K105 (ninS ne_b101_b104 nin0)
  replace B102 := B102.keep K105
  replace C102 := C102.keep K105 (ninS ne_b102_b104 nin0)
  replace F102 := F102.keep K105 (ninS ne_b102_b104 nin0)
  replace V102 := V102.keep K105 (ninS ne_u102_b104 nin0)
  replace A104 := A104.keep K105
  have OK105 := ext_keep OE104 K105 (allS g_b104 all0)
  replace KP := KP.trans K105 (allS (Or.inr z_b104) all0)
  refine Go.ldcH X105 hx hZ hown (wd86 hw) (own_wS hw) e105 hS hKd (own_EW hw) (List.mem_of_getElem? (i := 2) rfl) hC (vs := [(.int 117), (.int 110), (.int 101), (.int 120), (.int 112), (.int 101), (.int 99), (.int 116), (.int 101), (.int 100), (.int 32), (.int 97), (.int 114), (.int 103), (.int 117), (.int 109), (.int 101), (.int 110), (.int 116), (.int 32)]) (z := (20 : Int32)) ⟨by decide, rfl⟩ (by decide) rfl (hb hby d9_42) (nn := 80) (by decide) (by decide) (by decide) (by decide) (q := 44) rfl ?_
  intro b106 u106 kc106 T106 h106 k106 X106 e106 E106 hS hKd hZ hown B106 C106 F106 V106 hR106
  replace sf_b101 := hR106.safe A101.lt sf_b101
  replace sf_b104 := hR106.safe A104.lt sf_b104
  replace sf_v_105 := hR106.safe P105_3.lt sf_v_105
  replace hC := hC.trans hR106
  replace Es := Es.ext E106
  replace Cs := Cs.ext E106
  replace Fs := Fs.ext E106
  replace Vs := Vs.ext E106
  replace A101 := A101.ext E106
  replace U101 := U101.ext E106
  replace F101_cause := F101_cause.ext E106
  replace F101_stackTrace := F101_stackTrace.ext E106
  replace F101_suppressedExceptions := F101_suppressedExceptions.ext E106
  replace F101_detailMessage := F101_detailMessage.ext E106
  replace F101_backtrace := F101_backtrace.ext E106
  replace F101_depth := F101_depth.ext E106
  replace B102 := B102.ext E106
  replace C102 := C102.ext E106
  replace F102 := F102.ext E106
  replace V102 := V102.ext E106
  replace A104 := A104.ext E106
  replace P105_0 := P105_0.ext E106
  replace P105_1 := P105_1.ext E106
  replace P105_2 := P105_2.ext E106
  replace P105_3 := P105_3.ext E106
  replace P105_4 := P105_4.ext E106
  have OE106 := ext_trans OK105 E106
  replace KP := KP.ext E106
  have ne_s_u106 := Exa.neArv Es V106 (wd5 hw)
  have ne_b106_b101 := Exa.ne B106 A101 (by decide)
  have ne_b101_u106 := Exa.neArv A101 V106 (wd45 hw)
  have ne_b102_u106 := Exa.neArv B102 V106 (wd5 hw)
  have ne_b106_b104 := Exa.ne B106 A104 (by decide)
  have ne_b104_u106 := Exa.neArv A104 V106 (wd69 hw)
  have ne_b106_v_105 := Exa.ne B106 P105_3 (by decide)
  refine Go.virt X106 hx hZ hown (wd87 hw) (wd88 hw) (notFace_of_selects (args := #[]) (mvT hZ (wd90 hw))) (wd90 hw) (wd89 hw) (wd70 hw) (wd91 hw) (by decide) (cabG l Z a0 hw b104 v_105 (kv_105) b106 u106 (kc106) cs h106 OE106 A104 g_b104 P105_0 P105_1 P105_2 P105_4 B106 C106 F106 V106 (Ne.symm ne_b106_b104) ne_b104_u106 SCS hcs) e106 A104 (by rw [hml]; rfl) (hb hby d9_44) (argsL := [(.ref b106)]) (rest := [(.ref b101), (.ref b101)]) (lenOf pd26 rfl) rfl rfl (W := 2) (Nat.le_refl _) (by decide) ?_
  intro v107 T107 L107 X107 hQ107
  obtain ⟨h107, e107⟩ : ∃ z, T107.heap = z := ⟨_, rfl⟩
  rw [e107] at hQ107
  obtain ⟨u_107, ku_107, rfl, N107q, K107, fr107_u, P107_0, P107_1, P107_2, P107_3⟩ := hQ107
  have N107 := Fr.app N105 N107q
  have ne_s_u_107 : s ≠ u_107 := ne_new Es.lt fr107_u
  have ne_v_u_107 : v ≠ u_107 := ne_new Vs.lt fr107_u
  have ne_b101_u_107 : b101 ≠ u_107 := ne_new A101.lt fr107_u
  have ne_b102_u_107 : b102 ≠ u_107 := ne_new B102.lt fr107_u
  have ne_u102_u_107 : u102 ≠ u_107 := ne_new V102.lt fr107_u
  have ne_b104_u_107 : b104 ≠ u_107 := ne_new A104.lt fr107_u
  have ne_v_105_u_107 : v_105 ≠ u_107 := ne_new P105_3.lt fr107_u
  have ne_b106_u_107 : b106 ≠ u_107 := ne_new B106.lt fr107_u
  have ne_u106_u_107 : u106 ≠ u_107 := ne_new V106.lt fr107_u
  have g_u_107 : Z.heap.size ≤ u_107 := Nat.le_trans OE106.1 fr107_u
  have sf_u_107 : Safe Z consts_1 T106.vm h106 u_107 := Safe.new fr107_u
  have z_u_107 : h0.size ≤ u_107 := Nat.le_trans KP.1 fr107_u
  replace hKd := Nat.le_trans hKd K107.1
  have hSk : ∀ xq ∈ [b104], Safe Z consts_1 T106.vm h106 xq := (allS sf_b104 all0)
  replace sf_b101 := Safe.keep K107 hSk hC.1 sf_b101
  replace sf_b104 := Safe.keep K107 hSk hC.1 sf_b104
  replace sf_v_105 := Safe.keep K107 hSk hC.1 sf_v_105
  replace sf_u_107 := Safe.keep K107 hSk hC.1 sf_u_107
  replace hC := hC.trans (CHr.keep K107 hSk hC.1)
  replace Es := Es.keep K107
  replace Cs := Cs.keep K107 (ninS ne_s_b104 nin0)
  replace Fs := Fs.keep K107 (ninS ne_s_b104 nin0)
  replace Vs := Vs.keep K107 (ninS ne_v_b104 nin0)
  replace A101 := A101.keep K107
  replace U101 := Unt.keep K107 (ninS ne_b101_b104 nin0) U101
  replace F101_cause := F101_cause.keep K107 (ninS ne_b101_b104 nin0)
  replace F101_stackTrace := F101_stackTrace.keep K107 (ninS ne_b101_b104 nin0)
  replace F101_suppressedExceptions := F101_suppressedExceptions.keep K107 (ninS ne_b101_b104 nin0)
  replace F101_detailMessage := F101_detailMessage.keep K107 (ninS ne_b101_b104 nin0)
  replace F101_backtrace := F101_backtrace.keep K107 (ninS ne_b101_b104 nin0)
  replace F101_depth := F101_depth.keep K107 (ninS ne_b101_b104 nin0)
  replace B102 := B102.keep K107
  replace C102 := C102.keep K107 (ninS ne_b102_b104 nin0)
  replace F102 := F102.keep K107 (ninS ne_b102_b104 nin0)
  replace V102 := V102.keep K107 (ninS ne_u102_b104 nin0)
  replace A104 := A104.keep K107
  replace P105_3 := P105_3.keep K107
  replace P105_4 := P105_4.keep K107 (ninS (Ne.symm ne_b104_v_105) nin0)
  replace B106 := B106.keep K107
  replace C106 := C106.keep K107 (ninS ne_b106_b104 nin0)
  replace F106 := F106.keep K107 (ninS ne_b106_b104 nin0)
  replace V106 := V106.keep K107 (ninS (Ne.symm ne_b104_u106) nin0)
  have OK107 := ext_keep OE106 K107 (allS g_b104 all0)
  replace KP := KP.trans K107 (allS (Or.inr z_b104) all0)
  refine Go.aloadN X107 hx (hb hby d9_47) rfl rfl (q := 48) rfl ?_
  refine Go.virt X107 hx hZ hown (wd87 hw) (wd88 hw) (notFace_of_selects (args := #[]) (mvT hZ (wd90 hw))) (wd90 hw) (wd89 hw) (wd70 hw) (wd91 hw) (by decide) (cab l Z a0 hw b104 s v u_107 cs ((34 : Int32)) (ku_107) (kv) ((20 : Int32)) ln (us) ([(.int 117), (.int 110), (.int 101), (.int 120), (.int 112), (.int 101), (.int 99), (.int 116), (.int 101), (.int 100), (.int 32), (.int 97), (.int 114), (.int 103), (.int 117), (.int 109), (.int 101), (.int 110), (.int 116), (.int 32), (.int 0), (.int 0), (.int 0)]) (oa) h107 OK107 A104 P107_0 P107_1 P107_2 P107_3 g_u_107 g_b104 ne_b104_u_107 Es Cs Fs Vs SCS hcs hcp hcap) e107 A104 (by rw [hml]; rfl) (hb hby d9_48) (argsL := [(.ref s)]) (rest := [(.ref b101), (.ref b101)]) (lenOf pd26 rfl) rfl rfl (W := 2) (Nat.le_refl _) (by decide) ?_
  intro v108 T108 L108 X108 hQ108
  obtain ⟨h108, e108⟩ : ∃ z, T108.heap = z := ⟨_, rfl⟩
  rw [e108] at hQ108
  obtain ⟨rfl, N108q, K108, P108_0, P108_1, P108_2, P108_3⟩ := hQ108
  have N108 := Fr.app N107 N108q
  replace hKd := Nat.le_trans hKd K108.1
  have hSk : ∀ xq ∈ [b104, u_107], Safe Z consts_1 T106.vm h107 xq := (allS sf_b104 (allS sf_u_107 all0))
  replace sf_b101 := Safe.keep K108 hSk hC.1 sf_b101
  replace sf_b104 := Safe.keep K108 hSk hC.1 sf_b104
  replace sf_v_105 := Safe.keep K108 hSk hC.1 sf_v_105
  replace sf_u_107 := Safe.keep K108 hSk hC.1 sf_u_107
  replace hC := hC.trans (CHr.keep K108 hSk hC.1)
  replace Es := Es.keep K108
  replace Cs := Cs.keep K108 (ninS ne_s_b104 (ninS ne_s_u_107 nin0))
  replace Fs := Fs.keep K108 (ninS ne_s_b104 (ninS ne_s_u_107 nin0))
  replace Vs := Vs.keep K108 (ninS ne_v_b104 (ninS ne_v_u_107 nin0))
  replace A101 := A101.keep K108
  replace U101 := Unt.keep K108 (ninS ne_b101_b104 (ninS ne_b101_u_107 nin0)) U101
  replace F101_cause := F101_cause.keep K108 (ninS ne_b101_b104 (ninS ne_b101_u_107 nin0))
  replace F101_stackTrace := F101_stackTrace.keep K108 (ninS ne_b101_b104 (ninS ne_b101_u_107 nin0))
  replace F101_suppressedExceptions := F101_suppressedExceptions.keep K108 (ninS ne_b101_b104 (ninS ne_b101_u_107 nin0))
  replace F101_detailMessage := F101_detailMessage.keep K108 (ninS ne_b101_b104 (ninS ne_b101_u_107 nin0))
  replace F101_backtrace := F101_backtrace.keep K108 (ninS ne_b101_b104 (ninS ne_b101_u_107 nin0))
  replace F101_depth := F101_depth.keep K108 (ninS ne_b101_b104 (ninS ne_b101_u_107 nin0))
  replace B102 := B102.keep K108
  replace C102 := C102.keep K108 (ninS ne_b102_b104 (ninS ne_b102_u_107 nin0))
  replace F102 := F102.keep K108 (ninS ne_b102_b104 (ninS ne_b102_u_107 nin0))
  replace V102 := V102.keep K108 (ninS ne_u102_b104 (ninS ne_u102_u_107 nin0))
  replace A104 := A104.keep K108
  replace P105_3 := P105_3.keep K108
  replace P105_4 := P105_4.keep K108 (ninS (Ne.symm ne_b104_v_105) (ninS ne_v_105_u_107 nin0))
  replace B106 := B106.keep K108
  replace C106 := C106.keep K108 (ninS ne_b106_b104 (ninS ne_b106_u_107 nin0))
  replace F106 := F106.keep K108 (ninS ne_b106_b104 (ninS ne_b106_u_107 nin0))
  replace V106 := V106.keep K108 (ninS (Ne.symm ne_b104_u106) (ninS ne_u106_u_107 nin0))
  have OK108 := ext_keep OK107 K108 (allS g_b104 (allS g_u_107 all0))
  replace KP := KP.trans K108 (allS (Or.inr z_b104) (allS (Or.inr z_u_107) all0))
  refine Go.virt X108 hx hZ hown (wd148 hw) (wd149 hw) (notFace_of_selects (args := #[]) (mvT hZ (wd151 hw))) (wd151 hw) (wd150 hw) (wd70 hw) (wd152 hw) (by decide) (cts l Z a0 hw b104 u_107 cs ((34 : Int32)) (ku_107) (((20 : Int32) + ln)) (oa) (oc) h108 OK108 A104 P108_0 P108_1 P108_2 P108_3 SCS hcs hct) e108 A104 (by rw [hml]; rfl) (hb hby d9_51) (argsL := []) (rest := [(.ref b101), (.ref b101)]) (lenOf pd27 rfl) rfl rfl (W := 2) (Nat.le_refl _) (by decide) ?_
  intro v109 T109 L109 X109 hQ109
  obtain ⟨h109, e109⟩ : ∃ z, T109.heap = z := ⟨_, rfl⟩
  rw [e109] at hQ109
  obtain ⟨t_109, u_109, ku_109, rfl, N109q, K109, fr109_t, fr109_u, P109_0, P109_1, P109_2, P109_3⟩ := hQ109
  have N109 := Fr.app N108 N109q
  have ne_s_t_109 : s ≠ t_109 := ne_new Es.lt fr109_t
  have ne_v_t_109 : v ≠ t_109 := ne_new Vs.lt fr109_t
  have ne_b101_t_109 : b101 ≠ t_109 := ne_new A101.lt fr109_t
  have ne_b102_t_109 : b102 ≠ t_109 := ne_new B102.lt fr109_t
  have ne_u102_t_109 : u102 ≠ t_109 := ne_new V102.lt fr109_t
  have ne_b104_t_109 : b104 ≠ t_109 := ne_new A104.lt fr109_t
  have ne_v_105_t_109 : v_105 ≠ t_109 := ne_new P105_3.lt fr109_t
  have ne_b106_t_109 : b106 ≠ t_109 := ne_new B106.lt fr109_t
  have ne_u106_t_109 : u106 ≠ t_109 := ne_new V106.lt fr109_t
  have ne_u_107_t_109 : u_107 ≠ t_109 := ne_new P108_3.lt fr109_t
  have g_t_109 : Z.heap.size ≤ t_109 := Nat.le_trans OK108.1 fr109_t
  have sf_t_109 : Safe Z consts_1 T106.vm h108 t_109 := Safe.new fr109_t
  have z_t_109 : h0.size ≤ t_109 := Nat.le_trans KP.1 fr109_t
  have ne_s_u_109 : s ≠ u_109 := ne_new Es.lt fr109_u
  have ne_v_u_109 : v ≠ u_109 := ne_new Vs.lt fr109_u
  have ne_b101_u_109 : b101 ≠ u_109 := ne_new A101.lt fr109_u
  have ne_b102_u_109 : b102 ≠ u_109 := ne_new B102.lt fr109_u
  have ne_u102_u_109 : u102 ≠ u_109 := ne_new V102.lt fr109_u
  have ne_b104_u_109 : b104 ≠ u_109 := ne_new A104.lt fr109_u
  have ne_v_105_u_109 : v_105 ≠ u_109 := ne_new P105_3.lt fr109_u
  have ne_b106_u_109 : b106 ≠ u_109 := ne_new B106.lt fr109_u
  have ne_u106_u_109 : u106 ≠ u_109 := ne_new V106.lt fr109_u
  have ne_u_107_u_109 : u_107 ≠ u_109 := ne_new P108_3.lt fr109_u
  have g_u_109 : Z.heap.size ≤ u_109 := Nat.le_trans OK108.1 fr109_u
  have sf_u_109 : Safe Z consts_1 T106.vm h108 u_109 := Safe.new fr109_u
  have z_u_109 : h0.size ≤ u_109 := Nat.le_trans KP.1 fr109_u
  replace hKd := Nat.le_trans hKd K109.1
  have hSk : ∀ xq ∈ ([] : List Addr), Safe Z consts_1 T106.vm h108 xq := all0
  replace sf_b101 := Safe.keep K109 hSk hC.1 sf_b101
  replace sf_b104 := Safe.keep K109 hSk hC.1 sf_b104
  replace sf_v_105 := Safe.keep K109 hSk hC.1 sf_v_105
  replace sf_u_107 := Safe.keep K109 hSk hC.1 sf_u_107
  replace sf_t_109 := Safe.keep K109 hSk hC.1 sf_t_109
  replace sf_u_109 := Safe.keep K109 hSk hC.1 sf_u_109
  replace hC := hC.trans (CHr.keep K109 hSk hC.1)
  replace Es := Es.keep K109
  replace Cs := Cs.keep K109 nin0
  replace Fs := Fs.keep K109 nin0
  replace Vs := Vs.keep K109 nin0
  replace A101 := A101.keep K109
  replace U101 := Unt.keep K109 nin0 U101
  replace F101_cause := F101_cause.keep K109 nin0
  replace F101_stackTrace := F101_stackTrace.keep K109 nin0
  replace F101_suppressedExceptions := F101_suppressedExceptions.keep K109 nin0
  replace F101_detailMessage := F101_detailMessage.keep K109 nin0
  replace F101_backtrace := F101_backtrace.keep K109 nin0
  replace F101_depth := F101_depth.keep K109 nin0
  replace B102 := B102.keep K109
  replace C102 := C102.keep K109 nin0
  replace F102 := F102.keep K109 nin0
  replace V102 := V102.keep K109 nin0
  replace A104 := A104.keep K109
  replace P105_3 := P105_3.keep K109
  replace P105_4 := P105_4.keep K109 nin0
  replace B106 := B106.keep K109
  replace C106 := C106.keep K109 nin0
  replace F106 := F106.keep K109 nin0
  replace V106 := V106.keep K109 nin0
  replace P108_0 := P108_0.keep K109 nin0
  replace P108_1 := P108_1.keep K109 nin0
  replace P108_2 := P108_2.keep K109 nin0
  replace P108_3 := P108_3.keep K109 nin0
  have OK109 := ext_keep OK108 K109 all0
  replace KP := KP.trans K109 all0
  refine Go.initK X109 hx hZ hown hS hKd (own_EW hw) hC hKn rfl (wd187 hw) (wd188 hw) (wd46 hw) (wd189 hw) (by decide) (cux1 l Z a0 hw b101 t_109 au an h109 OK109 A101 U101 g_b101 F101_cause F101_stackTrace F101_suppressedExceptions F101_backtrace F101_detailMessage SU SN hlt) e109 (by rw [hml]; rfl) (hb hby d9_54) (argsL := [(.ref t_109)]) (rest := [(.ref b101)]) (lenOf pd10 rfl) rfl rfl (W := 1) (Nat.le_refl _) (by decide) ?_
  intro v110 T110 L110 k110 X110 hS hKd hZ hown hR110 hQ110
  obtain ⟨h110, e110⟩ : ∃ z, T110.heap = z := ⟨_, rfl⟩
  rw [e110] at hQ110 hKd hR110
  obtain ⟨rfl, N110q, K110, P110_0⟩ := hQ110
  have N110 := Fr.app N109 N110q
  replace sf_b101 := hR110.safe A101.lt sf_b101
  replace sf_b104 := hR110.safe A104.lt sf_b104
  replace sf_v_105 := hR110.safe P105_3.lt sf_v_105
  replace sf_u_107 := hR110.safe P108_3.lt sf_u_107
  replace sf_t_109 := hR110.safe P109_0.lt sf_t_109
  replace sf_u_109 := hR110.safe P109_3.lt sf_u_109
  replace hC := hC.trans hR110
  replace Es := Es.keep K110
  replace Cs := Cs.keep K110 (ninS ne_s_b101 nin0)
  replace Fs := Fs.keep K110 (ninS ne_s_b101 nin0)
  replace Vs := Vs.keep K110 (ninS ne_v_b101 nin0)
  replace A101 := A101.keep K110
  replace B102 := B102.keep K110
  replace C102 := C102.keep K110 (ninS ne_b102_b101 nin0)
  replace F102 := F102.keep K110 (ninS ne_b102_b101 nin0)
  replace V102 := V102.keep K110 (ninS (Ne.symm ne_b101_u102) nin0)
  replace A104 := A104.keep K110
  replace P105_3 := P105_3.keep K110
  replace P105_4 := P105_4.keep K110 (ninS (Ne.symm ne_b101_v_105) nin0)
  replace B106 := B106.keep K110
  replace C106 := C106.keep K110 (ninS ne_b106_b101 nin0)
  replace F106 := F106.keep K110 (ninS ne_b106_b101 nin0)
  replace V106 := V106.keep K110 (ninS (Ne.symm ne_b101_u106) nin0)
  replace P108_0 := P108_0.keep K110 (ninS (Ne.symm ne_b101_b104) nin0)
  replace P108_1 := P108_1.keep K110 (ninS (Ne.symm ne_b101_b104) nin0)
  replace P108_2 := P108_2.keep K110 (ninS (Ne.symm ne_b101_b104) nin0)
  replace P108_3 := P108_3.keep K110 (ninS (Ne.symm ne_b101_u_107) nin0)
  replace P109_0 := P109_0.keep K110
  replace P109_1 := P109_1.keep K110 (ninS (Ne.symm ne_b101_t_109) nin0)
  replace P109_2 := P109_2.keep K110 (ninS (Ne.symm ne_b101_t_109) nin0)
  replace P109_3 := P109_3.keep K110 (ninS (Ne.symm ne_b101_u_109) nin0)
  have OK110 := ext_keep OK109 K110 (allS g_b101 all0)
  replace KP := KP.trans K110 (allS (Or.inr z_b101) all0)
  exact Go.retAH X110 hx hS hKd hs0 hZ (own_EW hw) hC hret hlk rfl rfl (hb hby d9_57) e110 (by decide) (by decide) ⟨b101, t_109, u_109, ku_109, rfl, N110, KP, z_t_109, z_u_109, A101, P110_0, P109_0, P109_2, P109_1, P109_3⟩
def Q_cgm (Z : State) (x w : Addr) (h0 : Heap) (vR : Option Value) (hR : Heap) (LR : List Loc) : Prop := vR = some (.ref w) ∧ Fr Z.heap.size LR ∧ hR = h0
theorem cgm (l : Launch) (Z : State) (a0 : Array Value) (hw : ∀ d ∈ tables_1, d.before a0 Z = true) (x w : Addr) (h0 : Heap) (O0 : Ext Z.heap h0) (F : Fld Z h0 x xS2 "detailMessage" "Ljava/lang/String;" (.ref w)) :
    Ctr l Z h0 (⟨xS2, "getMessage", "()Ljava/lang/String;"⟩ : MethodName) k42 1 (some (.object xS0)) [] ({ frames := 0, cells := 0, slots := 0, locals := 0 } : Room) #[(.ref x)] (Q_cgm Z x w h0) := by
  refine enter (plainFor_of_name pn7) ?_
  intro pp ee ss mm below meth cc s₁ hx hby hml hZ hown hnm hret hlk X0 e0 hs0
  replace hown : ss.vm.findClass xS2 = some mm.cls := hown
  refine Go.cast (congrArg s₁.setTop (ef_cgm mm x)) ?_
  have N0 := Fr.nil Z.heap.size
  show Go pp ee below _ (s₁.setTop (mkF mm 0 #[.val (.ref x)] []))
  refine Go.aloadN X0 hx (hb hby d42_0) rfl rfl (q := 1) rfl ?_
  refine Go.getF X0 hx hZ hown (host := "") (Or.inl (wd237 hw)) Via.refl e0 F (hb hby d42_1) (q := 4) rfl ?_
  intro T101 X101 e101
  exact Go.retA X101 hx hret hlk rfl rfl (hb hby d42_4) e101 (by decide) (by decide) ⟨rfl, N0, rfl⟩
def Q_cle (Z : State) (v1 v2 : Addr) (k1 k2 : ClassId) (n : Int32) (vs : List Value) (h0 : Heap) (vR : Option Value) (hR : Heap) (LR : List Loc) : Prop := vR = some (.int 1) ∧ Fr Z.heap.size LR ∧ hR = h0
theorem cle (l : Launch) (Z : State) (a0 : Array Value) (hw : ∀ d ∈ tables_1, d.before a0 Z = true) (v1 v2 : Addr) (k1 k2 : ClassId) (n : Int32) (vs : List Value) (h0 : Heap) (O0 : Ext Z.heap h0) (V1 : Arv Z h0 v1 k1 .byte n vs (.int 0)) (V2 : Arv Z h0 v2 k2 .byte n vs (.int 0)) (hv : NV n vs) :
    Ctr l Z h0 (⟨"java/lang/StringLatin1", "equals", "([B[B)Z"⟩ : MethodName) k44 3 (some .boolean) [] ({ frames := 0, cells := 0, slots := 0, locals := 0 } : Room) #[(.ref v1), (.ref v2)] (Q_cle Z v1 v2 k1 k2 n vs h0) := by
  refine enter (plainFor_of_name pn11) ?_
  intro pp ee ss mm below meth cc s₁ hx hby hml hZ hown hnm hret hlk X0 e0 hs0
  replace hown : ss.vm.findClass "java/lang/StringLatin1" = some mm.cls := hown
  refine Go.cast (congrArg s₁.setTop (ef_cle mm v1 v2)) ?_
  have N0 := Fr.nil Z.heap.size
  show Go pp ee below _ (s₁.setTop (mkF mm 0 #[.val (.ref v1), .val (.ref v2), .unset] []))
  refine Go.aloadN X0 hx (hb hby d44_0) rfl rfl (q := 1) rfl ?_
  refine Go.alen X0 hx hZ e0 V1 (hb hby d44_1) ?_
  refine Go.aloadN X0 hx (hb hby d44_2) rfl rfl (q := 3) rfl ?_
  refine Go.alen X0 hx hZ e0 V2 (hb hby d44_3) ?_
  refine Go.icmpNo X0 hx (hb hby d44_4) (Jvm.Free.XT.ii_ne_f rfl) (q := 7) rfl ?_
  refine Go.iconst X0 hx (hb hby d44_7) (r := (0 : Int32)) rfl (q := 8) rfl ?_
  refine Go.istoreN X0 hx (hb hby d44_8) (l' := #[.val (.ref v1), .val (.ref v2), .val (.int 0)]) rfl (q := 9) rfl ?_
  have JL : ∀ (r : Nat) (kk : Int32) (TJ : State) (LJ : List Loc), Stand pp l ee ({ frames := 0, cells := 0, slots := 0, locals := 0 } : Room) ss mm #[(.ref v1), (.ref v2)] below meth cc TJ LJ 0 0 → TJ.heap = h0 → Fr Z.heap.size LJ → (r : Int) = n.toInt - kk.toInt → 0 ≤ kk.toInt → Go pp ee below (KK ss (Q_cle Z v1 v2 k1 k2 n vs h0) ({ frames := 0, cells := 0, slots := 0, locals := 0 } : Room).cells ({ frames := 0, cells := 0, slots := 0, locals := 0 } : Room).slots) (TJ.setTop (mkF mm 9 #[.val (.ref v1), .val (.ref v2), .val (.int kk)] [])) := by
    intro r
    induction r with
    | zero =>
      intro kk TJ LJ XJ eJ NJ hr hk0
      refine Go.iloadN XJ hx (hb hby d44_9) rfl (q := 10) rfl ?_
      refine Go.aloadN XJ hx (hb hby d44_10) rfl rfl (q := 11) rfl ?_
      refine Go.alen XJ hx hZ eJ V1 (hb hby d44_11) ?_
      refine Go.icmpYes XJ hx (hb hby d44_12) (Jvm.Free.XT.ii_ge_t (own_rz hr)) (q := 32) (by decide) (by decide) ?_
      refine Go.iconst XJ hx (hb hby d44_32) (r := (1 : Int32)) rfl (q := 33) rfl ?_
      exact Go.retI XJ hx hret hlk (by simp) rfl (hb hby d44_33) eJ (by decide) (by decide) ⟨rfl, NJ, rfl⟩
    | succ r ih =>
      intro kk TJ LJ XJ eJ NJ hr hk0
      obtain ⟨c, hcc⟩ := own_it hv.2.2.2 kk.toNatClampNeg (hv.2.2.1 ▸ own_rl hk0 hr)
      refine Go.iloadN XJ hx (hb hby d44_9) rfl (q := 10) rfl ?_
      refine Go.aloadN XJ hx (hb hby d44_10) rfl rfl (q := 11) rfl ?_
      refine Go.alen XJ hx hZ eJ V1 (hb hby d44_11) ?_
      refine Go.icmpNo XJ hx (hb hby d44_12) (Jvm.Free.XT.ii_ge_f (own_rs hr)) (q := 15) rfl ?_
      refine Go.aloadN XJ hx (hb hby d44_15) rfl rfl (q := 16) rfl ?_
      refine Go.iloadN XJ hx (hb hby d44_16) rfl (q := 17) rfl ?_
      refine Go.bal XJ hx hZ eJ V1 (own_rin hk0 hr) (v := (.int c)) hcc (hb hby d44_17) ?_
      refine Go.aloadN XJ hx (hb hby d44_18) rfl rfl (q := 19) rfl ?_
      refine Go.iloadN XJ hx (hb hby d44_19) rfl (q := 20) rfl ?_
      refine Go.bal XJ hx hZ eJ V2 (own_rin hk0 hr) (v := (.int c)) hcc (hb hby d44_20) ?_
      refine Go.icmpYes XJ hx (hb hby d44_21) (Jvm.Free.XT.ii_eq_t rfl) (q := 26) (by decide) (by decide) ?_
      refine Go.iinc XJ hx (hb hby d44_26) rfl (r := (kk + (1 : Int32))) rfl (l' := #[.val (.ref v1), .val (.ref v2), .val (.int (kk + (1 : Int32)))]) rfl (q := 29) rfl ?_
      refine Go.goto XJ hx (hb hby d44_29) (q := 9) (by decide) (by decide) ?_
      exact ih _ _ _ XJ eJ NJ (own_r1 hk0 hr hv.2.1) (own_k1 hk0 hr hv.2.1)
  exact JL n.toInt.toNat (0 : Int32) _ _ X0 e0 N0 (own_r0 hv.1) (by decide)
def Q_cse (Z : State) (t1 t2 : Addr) (cs : Int32) (v1 v2 : Addr) (k1 k2 : ClassId) (n : Int32) (vs : List Value) (h0 : Heap) (vR : Option Value) (hR : Heap) (LR : List Loc) : Prop := vR = some (.int 1) ∧ Fr Z.heap.size LR ∧ hR = h0
theorem cse (l : Launch) (Z : State) (a0 : Array Value) (hw : ∀ d ∈ tables_1, d.before a0 Z = true) (t1 t2 : Addr) (cs : Int32) (v1 v2 : Addr) (k1 k2 : ClassId) (n : Int32) (vs : List Value) (h0 : Heap) (O0 : Ext Z.heap h0) (E1 : Exa Z h0 t1 xS0) (E2 : Exa Z h0 t2 xS0) (C1 : Fld Z h0 t1 xS0 "coder" "B" (.int 0)) (C2 : Fld Z h0 t2 xS0 "coder" "B" (.int 0)) (F1 : Fld Z h0 t1 xS0 "value" "[B" (.ref v1)) (F2 : Fld Z h0 t2 xS0 "value" "[B" (.ref v2)) (V1 : Arv Z h0 v1 k1 .byte n vs (.int 0)) (V2 : Arv Z h0 v2 k2 .byte n vs (.int 0)) (n12 : t1 ≠ t2) (SCS : Sta Z Z.heap xS0 xS3 "Z" (.int cs)) (hcs : ¬ (cs = (0 : Int32))) (hv : NV n vs) :
    Ctr l Z h0 (⟨xS0, "equals", "(Ljava/lang/Object;)Z"⟩ : MethodName) k43 3 (some .boolean) [] ({ frames := 1, cells := 0, slots := 0, locals := 14 } : Room) #[(.ref t1), (.ref t2)] (Q_cse Z t1 t2 cs v1 v2 k1 k2 n vs h0) := by
  refine enter (plainFor_of_name pn0) ?_
  intro pp ee ss mm below meth cc s₁ hx hby hml hZ hown hnm hret hlk X0 e0 hs0
  replace hown : ss.vm.findClass xS0 = some mm.cls := hown
  refine Go.cast (congrArg s₁.setTop (ef_cse mm t1 t2)) ?_
  have N0 := Fr.nil Z.heap.size
  show Go pp ee below _ (s₁.setTop (mkF mm 0 #[.val (.ref t1), .val (.ref t2), .unset] []))
  refine Go.aloadN X0 hx (hb hby d43_0) rfl rfl (q := 1) rfl ?_
  refine Go.aloadN X0 hx (hb hby d43_1) rfl rfl (q := 2) rfl ?_
  refine Go.acmp X0 hx rfl rfl (hb hby d43_2) (same := false) (decide_eq_false fun q => n12 (Value.ref.inj q)) (q := 7) (by decide) (by decide) ?_
  refine Go.aloadN X0 hx (hb hby d43_7) rfl rfl (q := 8) rfl ?_
  refine Go.instY X0 hx hZ hown (wd249 hw) e0 (Ins.self E2) (hb hby d43_8) (q := 11) rfl ?_
  intro T101 X101 e101
  refine Go.ifNo X101 hx (hb hby d43_11) (by decide) (q := 14) rfl ?_
  refine Go.aloadN X101 hx (hb hby d43_14) rfl rfl (q := 15) rfl ?_
  refine Go.castY X101 hx hZ hown (wd249 hw) e101 (Ins.self E2) (hb hby d43_15) (q := 18) rfl ?_
  intro T102 X102 e102
  refine Go.astoreN X102 hx (hb hby d43_18) rfl (l' := #[.val (.ref t1), .val (.ref t2), .val (.ref t2)]) rfl (q := 19) rfl ?_
  refine Go.getS X102 hx hZ hown (host := "") (Or.inl (wd29 hw)) Via.refl e102 (SCS.ext O0) (hb hby d43_19) (q := 22) rfl ?_
  intro T103 X103 e103
  refine Go.ifNo X103 hx (hb hby d43_22) (Jvm.Free.XT.i0_eq_f hcs) (q := 25) rfl ?_
  refine Go.aloadN X103 hx (hb hby d43_25) rfl rfl (q := 26) rfl ?_
  refine Go.getF X103 hx hZ hown (host := "") (Or.inl (wd25 hw)) Via.refl e103 C1 (hb hby d43_26) (q := 29) rfl ?_
  intro T104 X104 e104
  refine Go.aloadN X104 hx (hb hby d43_29) rfl rfl (q := 30) rfl ?_
  refine Go.getF X104 hx hZ hown (host := "") (Or.inl (wd25 hw)) Via.refl e104 C2 (hb hby d43_30) (q := 33) rfl ?_
  intro T105 X105 e105
  refine Go.icmpNo X105 hx (hb hby d43_33) (by decide) (q := 36) rfl ?_
  refine Go.aloadN X105 hx (hb hby d43_36) rfl rfl (q := 37) rfl ?_
  refine Go.getF X105 hx hZ hown (host := "") (Or.inl (wd24 hw)) Via.refl e105 F1 (hb hby d43_37) (q := 40) rfl ?_
  intro T106 X106 e106
  refine Go.aloadN X106 hx (hb hby d43_40) rfl rfl (q := 41) rfl ?_
  refine Go.getF X106 hx hZ hown (host := "") (Or.inl (wd24 hw)) Via.refl e106 F2 (hb hby d43_41) (q := 44) rfl ?_
  intro T107 X107 e107
  refine Go.callS X107 hx hZ hown (wd250 hw) (wd251 hw) (wd252 hw) (wd253 hw) (by decide) (cle l Z a0 hw v1 v2 (k1) (k2) n (vs) h0 O0 V1 V2 hv) e107 (by rw [hml]; rfl) (hb hby d43_44) (argsL := [(.ref v1), (.ref v2)]) (rest := []) (lenOf pd28 rfl) rfl rfl (W := 0) (Nat.le_refl _) (by decide) ?_
  intro v108 T108 L108 X108 hQ108
  obtain ⟨rfl, N108q, e108⟩ := hQ108
  have N108 := Fr.app N0 N108q
  refine Go.ifNo X108 hx (hb hby d43_47) (by decide) (q := 50) rfl ?_
  refine Go.iconst X108 hx (hb hby d43_50) (r := (1 : Int32)) rfl (q := 51) rfl ?_
  refine Go.goto X108 hx (hb hby d43_51) (q := 55) (by decide) (by decide) ?_
  exact Go.retI X108 hx hret hlk (by simp) rfl (hb hby d43_55) e108 (by decide) (by decide) ⟨rfl, N108, rfl⟩
def Q_law0 (Z : State) (pn pa pb pd pf cs : Int32) (au an : Addr) (h0 : Heap) (vR : Option Value) (hR : Heap) (LR : List Loc) : Prop := vR = some (.int 1) ∧ Fr Z.heap.size LR
theorem law0 (l : Launch) (Z : State) (a0 : Array Value) (hw : ∀ d ∈ tables_1, d.before a0 Z = true) (pn pa pb pd pf cs : Int32) (au an : Addr) (h0 : Heap) (O0 : Ext Z.heap h0) (SCS : Sta Z Z.heap xS0 xS3 "Z" (.int cs)) (SU : Sta Z Z.heap xS2 "UNASSIGNED_STACK" xS7 (.ref au)) (SN : Sta Z Z.heap xS2 "SUPPRESSED_SENTINEL" "Ljava/util/List;" (.ref an)) (hcs : ¬ (cs = (0 : Int32))) (hlt : l.stackTraces = true) :
    CtrK0 l Z consts_1 h0 x code maxLocals ret tables_1 room_1 #[(.int pn), (.int pa), (.int pb), (.int pd), (.int pf)] (Q_law0 Z pn pa pb pd pf cs au an h0) := by
  refine enterK0 (plainFor_of_name pn2) ?_
  intro pp ee ss mm below meth cc s₁ hx hby hml hZ hown hnm hret hlk X0 e0 hs0 hS hC hKn
  replace hown : (ss.setVm ss.vm).vm.findClass xS5 = some mm.cls := hown
  have hKd := Nat.zero_le h0.size
  refine Go.cast (congrArg s₁.setTop (ef_law0 mm pn pa pb pd pf)) ?_
  have N0 := Fr.nil Z.heap.size
  show Go pp ee below _ (s₁.setTop (mkF mm 0 #[.val (.int pn), .val (.int pa), .val (.int pb), .val (.int pd), .val (.int pf), .unset, .unset, .unset, .unset, .unset, .unset, .unset, .unset, .unset] []))
  refine Go.iloadN X0 hx (hb hby at_0) rfl (q := 1) rfl ?_
  refine Go.iconst X0 hx (hb hby at_1) (r := (3 : Int32)) rfl (q := 2) rfl ?_
  refine Go.iand X0 hx (hb hby at_2) rfl (q := 3) rfl ?_
  have hk := own_and3 pn
  generalize (pn &&& (3 : Int32)) = k at hk ⊢
  rcases hk with rfl | rfl | rfl | rfl
  · show Go pp ee below _ (s₁.setTop (mkF mm 3 #[.val (.int pn), .val (.int pa), .val (.int pb), .val (.int pd), .val (.int pf), .unset, .unset, .unset, .unset, .unset, .unset, .unset, .unset, .unset] [(.int 0)]))
    refine Go.istore X0 hx (hb hby at_3) (l' := #[.val (.int pn), .val (.int pa), .val (.int pb), .val (.int pd), .val (.int pf), .val (.int 0), .unset, .unset, .unset, .unset, .unset, .unset, .unset, .unset]) rfl (q := 5) rfl ?_
    refine Go.iloadN X0 hx (hb hby at_5) rfl (q := 6) rfl ?_
    refine Go.sipush X0 hx (hb hby at_6) (r := (255 : Int32)) rfl (q := 9) rfl ?_
    refine Go.iand X0 hx (hb hby at_9) rfl (q := 10) rfl ?_
    refine Go.i2c X0 hx (hb hby at_10) rfl (q := 11) rfl ?_
    have h_ca := own_b8 pa
    generalize ((pa &&& (255 : Int32)).toUInt32.toUInt16.toUInt32.toInt32) = ca at h_ca ⊢
    have hk101 : nar .char ca = ca := own_b8n h_ca
    have hk102 : ¬ ((255 : Int32) < ca) := own_b8x h_ca
    show Go pp ee below _ (s₁.setTop (mkF mm 11 #[.val (.int pn), .val (.int pa), .val (.int pb), .val (.int pd), .val (.int pf), .val (.int 0), .unset, .unset, .unset, .unset, .unset, .unset, .unset, .unset] [(.int ca)]))
    refine Go.istore X0 hx (hb hby at_11) (l' := #[.val (.int pn), .val (.int pa), .val (.int pb), .val (.int pd), .val (.int pf), .val (.int 0), .val (.int ca), .unset, .unset, .unset, .unset, .unset, .unset, .unset]) rfl (q := 13) rfl ?_
    have J24_103 : ∀ (cz : Int32), B8 cz → Go pp ee below (KKH Z consts_1 ss (Q_law0 Z pn pa pb pd pf cs au an h0) room_1.cells room_1.slots) (s₁.setTop (mkF mm 24 #[.val (.int pn), .val (.int pa), .val (.int pb), .val (.int pd), .val (.int pf), .val (.int 0), .val (.int cz), .unset, .unset, .unset, .unset, .unset, .unset, .unset] [])) := by
      intro cz h_cz
      refine Go.iloadN X0 hx (hb hby at_24) rfl (q := 25) rfl ?_
      refine Go.sipush X0 hx (hb hby at_25) (r := (255 : Int32)) rfl (q := 28) rfl ?_
      refine Go.iand X0 hx (hb hby at_28) rfl (q := 29) rfl ?_
      refine Go.i2c X0 hx (hb hby at_29) rfl (q := 30) rfl ?_
      have h_cb := own_b8 pb
      generalize ((pb &&& (255 : Int32)).toUInt32.toUInt16.toUInt32.toInt32) = cb at h_cb ⊢
      have hk104 : nar .char cb = cb := own_b8n h_cb
      have hk105 : ¬ ((255 : Int32) < cb) := own_b8x h_cb
      show Go pp ee below _ (s₁.setTop (mkF mm 30 #[.val (.int pn), .val (.int pa), .val (.int pb), .val (.int pd), .val (.int pf), .val (.int 0), .val (.int cz), .unset, .unset, .unset, .unset, .unset, .unset, .unset] [(.int cb)]))
      refine Go.istore X0 hx (hb hby at_30) (l' := #[.val (.int pn), .val (.int pa), .val (.int pb), .val (.int pd), .val (.int pf), .val (.int 0), .val (.int cz), .val (.int cb), .unset, .unset, .unset, .unset, .unset, .unset]) rfl (q := 32) rfl ?_
      refine Go.iloadN X0 hx (hb hby at_32) rfl (q := 33) rfl ?_
      refine Go.sipush X0 hx (hb hby at_33) (r := (255 : Int32)) rfl (q := 36) rfl ?_
      refine Go.iand X0 hx (hb hby at_36) rfl (q := 37) rfl ?_
      refine Go.i2c X0 hx (hb hby at_37) rfl (q := 38) rfl ?_
      have h_cd := own_b8 pd
      generalize ((pd &&& (255 : Int32)).toUInt32.toUInt16.toUInt32.toInt32) = cd at h_cd ⊢
      have hk106 : nar .char cd = cd := own_b8n h_cd
      have hk107 : ¬ ((255 : Int32) < cd) := own_b8x h_cd
      show Go pp ee below _ (s₁.setTop (mkF mm 38 #[.val (.int pn), .val (.int pa), .val (.int pb), .val (.int pd), .val (.int pf), .val (.int 0), .val (.int cz), .val (.int cb), .unset, .unset, .unset, .unset, .unset, .unset] [(.int cd)]))
      refine Go.istore X0 hx (hb hby at_38) (l' := #[.val (.int pn), .val (.int pa), .val (.int pb), .val (.int pd), .val (.int pf), .val (.int 0), .val (.int cz), .val (.int cb), .val (.int cd), .unset, .unset, .unset, .unset, .unset]) rfl (q := 40) rfl ?_
      refine Go.iload X0 hx (hb hby at_40) rfl (q := 42) rfl ?_
      refine Go.iload X0 hx (hb hby at_42) rfl (q := 44) rfl ?_
      refine Go.iload X0 hx (hb hby at_44) rfl (q := 46) rfl ?_
      refine Go.iload X0 hx (hb hby at_46) rfl (q := 48) rfl ?_
      refine Go.callSH X0 hx hZ hown hS hKd (own_EW hw) hC (wd0 hw) (wd1 hw) (wd2 hw) (wd3 hw) (by decide) (cmw0 l Z a0 hw cz cb cd h0 O0) e0 (by rw [hml]; rfl) (hb hby at_48) (argsL := [(.int 0), (.int cz), (.int cb), (.int cd)]) (rest := []) (lenOf pd29 rfl) rfl rfl (W := 0) (Nat.le_refl _) (by decide) ?_
      intro v108 T108 L108 k108 X108 hS hKd hZ hown hR108 hQ108
      obtain ⟨h108, e108⟩ : ∃ z, T108.heap = z := ⟨_, rfl⟩
      rw [e108] at hQ108 hKd hR108
      obtain ⟨s_108, b_108, kb_108, rfl, N108q, K108, fr108_s, P108_0, P108_1, P108_2, P108_3⟩ := hQ108
      have N108 := Fr.app N0 N108q
      replace hC := hC.trans hR108
      have g_s_108 : Z.heap.size ≤ s_108 := Nat.le_trans O0.1 fr108_s
      have OK108 := ext_keep O0 K108 all0
      refine Go.astore X108 hx (hb hby at_51) rfl (l' := #[.val (.int pn), .val (.int pa), .val (.int pb), .val (.int pd), .val (.int pf), .val (.int 0), .val (.int cz), .val (.int cb), .val (.int cd), .val (.ref s_108), .unset, .unset, .unset, .unset]) rfl (q := 53) rfl ?_
      refine Go.iload X108 hx (hb hby at_53) rfl (q := 55) rfl ?_
      refine Go.ifYes X108 hx (hb hby at_55) (by decide) (q := 69) (by decide) (by decide) ?_
      refine Go.iconst X108 hx (hb hby at_69) (r := (0 : Int32)) rfl (q := 70) rfl ?_
      refine Go.istore X108 hx (hb hby at_70) (l' := #[.val (.int pn), .val (.int pa), .val (.int pb), .val (.int pd), .val (.int pf), .val (.int 0), .val (.int cz), .val (.int cb), .val (.int cd), .val (.ref s_108), .val (.int 0), .unset, .unset, .unset]) rfl (q := 72) rfl ?_
      refine Go.iload X108 hx (hb hby at_72) rfl (q := 74) rfl ?_
      refine Go.iload X108 hx (hb hby at_74) rfl (q := 76) rfl ?_
      refine Go.iload X108 hx (hb hby at_76) rfl (q := 78) rfl ?_
      refine Go.iload X108 hx (hb hby at_78) rfl (q := 80) rfl ?_
      refine Go.iload X108 hx (hb hby at_80) rfl (q := 82) rfl ?_
      refine Go.callS X108 hx hZ hown (wd26 hw) (wd27 hw) (wd2 hw) (wd28 hw) (by decide) (cex00 l Z a0 hw cz cb cd cs h108 OK108 SCS hcs) e108 (by rw [hml]; rfl) (hb hby at_82) (argsL := [(.int 0), (.int 0), (.int cz), (.int cb), (.int cd)]) (rest := []) (lenOf pd30 rfl) rfl rfl (W := 0) (Nat.le_refl _) (by decide) ?_
      intro v109 T109 L109 X109 hQ109
      obtain ⟨h109, e109⟩ : ∃ z, T109.heap = z := ⟨_, rfl⟩
      rw [e109] at hQ109
      obtain ⟨s_109, b_109, kb_109, rfl, N109q, K109, fr109_s, fr109_b, P109_0, P109_1, P109_2, P109_3⟩ := hQ109
      have N109 := Fr.app N108 N109q
      have ne_s_108_s_109 : s_108 ≠ s_109 := ne_new P108_0.lt fr109_s
      have ne_b_108_s_109 : b_108 ≠ s_109 := ne_new P108_3.lt fr109_s
      have g_s_109 : Z.heap.size ≤ s_109 := Nat.le_trans OK108.1 fr109_s
      have ne_s_108_b_109 : s_108 ≠ b_109 := ne_new P108_0.lt fr109_b
      have ne_b_108_b_109 : b_108 ≠ b_109 := ne_new P108_3.lt fr109_b
      have g_b_109 : Z.heap.size ≤ b_109 := Nat.le_trans OK108.1 fr109_b
      replace hKd := Nat.le_trans hKd K109.1
      have hSk : ∀ xq ∈ ([] : List Addr), Safe Z consts_1 T108.vm h108 xq := all0
      replace hC := hC.trans (CHr.keep K109 hSk hC.1)
      replace P108_0 := P108_0.keep K109
      replace P108_1 := P108_1.keep K109 nin0
      replace P108_2 := P108_2.keep K109 nin0
      replace P108_3 := P108_3.keep K109 nin0
      have OK109 := ext_keep OK108 K109 all0
      refine Go.astore X109 hx (hb hby at_85) rfl (l' := #[.val (.int pn), .val (.int pa), .val (.int pb), .val (.int pd), .val (.int pf), .val (.int 0), .val (.int cz), .val (.int cb), .val (.int cd), .val (.ref s_108), .val (.int 0), .val (.ref s_109), .unset, .unset]) rfl (q := 87) rfl ?_
      refine Go.aload X109 hx (hb hby at_87) rfl rfl (q := 89) rfl ?_
      refine Go.callSK X109 hx hZ hown hS hKd (own_EW hw) hC hKn (wd40 hw) (wd41 hw) (wd42 hw) (wd43 hw) (by decide) (cun0 l Z a0 hw s_108 b_108 (kb_108) cs au an h109 OK109 P108_0 P108_1 P108_2 P108_3 SCS SU SN hcs hlt) e109 (by rw [hml]; rfl) (hb hby at_89) (argsL := [(.ref s_108)]) (rest := []) (lenOf pd31 rfl) rfl rfl (W := 0) (Nat.le_refl _) (by decide) ?_
      intro v110 T110 L110 k110 X110 hS hKd hZ hown hR110 hQ110
      obtain ⟨h110, e110⟩ : ∃ z, T110.heap = z := ⟨_, rfl⟩
      rw [e110] at hQ110 hKd hR110
      obtain ⟨x_110, w_110, u_110, ku_110, rfl, N110q, K110, fr110_w, fr110_u, P110_0, P110_1, P110_2, P110_3, P110_4, P110_5⟩ := hQ110
      have N110 := Fr.app N109 N110q
      replace hC := hC.trans hR110
      have ne_s_108_w_110 : s_108 ≠ w_110 := ne_new P108_0.lt fr110_w
      have ne_b_108_w_110 : b_108 ≠ w_110 := ne_new P108_3.lt fr110_w
      have ne_s_109_w_110 : s_109 ≠ w_110 := ne_new P109_0.lt fr110_w
      have ne_b_109_w_110 : b_109 ≠ w_110 := ne_new P109_3.lt fr110_w
      have g_w_110 : Z.heap.size ≤ w_110 := Nat.le_trans OK109.1 fr110_w
      have ne_s_108_u_110 : s_108 ≠ u_110 := ne_new P108_0.lt fr110_u
      have ne_b_108_u_110 : b_108 ≠ u_110 := ne_new P108_3.lt fr110_u
      have ne_s_109_u_110 : s_109 ≠ u_110 := ne_new P109_0.lt fr110_u
      have ne_b_109_u_110 : b_109 ≠ u_110 := ne_new P109_3.lt fr110_u
      have g_u_110 : Z.heap.size ≤ u_110 := Nat.le_trans OK109.1 fr110_u
      replace P108_0 := P108_0.keep K110
      replace P108_1 := P108_1.keep K110 nin0
      replace P108_2 := P108_2.keep K110 nin0
      replace P108_3 := P108_3.keep K110 nin0
      replace P109_0 := P109_0.keep K110
      replace P109_1 := P109_1.keep K110 nin0
      replace P109_2 := P109_2.keep K110 nin0
      replace P109_3 := P109_3.keep K110 nin0
      have OK110 := ext_keep OK109 K110 all0
      refine Go.astore X110 hx (hb hby at_92) rfl (l' := #[.val (.int pn), .val (.int pa), .val (.int pb), .val (.int pd), .val (.int pf), .val (.int 0), .val (.int cz), .val (.int cb), .val (.int cd), .val (.ref s_108), .val (.int 0), .val (.ref s_109), .val (.ref x_110), .unset]) rfl (q := 94) rfl ?_
      refine Go.aload X110 hx (hb hby at_94) rfl rfl (q := 96) rfl ?_
      refine Go.ifnonnullYes X110 hx (hb hby at_96) (q := 101) (by decide) (by decide) ?_
      refine Go.aload X110 hx (hb hby at_101) rfl rfl (q := 103) rfl ?_
      refine Go.virtUp X110 hx hZ hown (wd238 hw) (wd239 hw) (wd240 hw) (wd242 hw) (wd241 hw) (wd199 hw) (wd243 hw) (by decide) (cgm l Z a0 hw x_110 w_110 h110 OK110 P110_1) e110 P110_0 (by rw [hml]; rfl) (hb hby at_103) (argsL := []) (rest := []) (lenOf pd27 rfl) rfl rfl (W := 0) (Nat.le_refl _) (by decide) ?_
      intro v111 T111 L111 X111 hQ111
      obtain ⟨rfl, N111q, e111⟩ := hQ111
      have N111 := Fr.app N110 N111q
      refine Go.astore X111 hx (hb hby at_106) rfl (l' := #[.val (.int pn), .val (.int pa), .val (.int pb), .val (.int pd), .val (.int pf), .val (.int 0), .val (.int cz), .val (.int cb), .val (.int cd), .val (.ref s_108), .val (.int 0), .val (.ref s_109), .val (.ref x_110), .val (.ref w_110)]) rfl (q := 108) rfl ?_
      refine Go.aload X111 hx (hb hby at_108) rfl rfl (q := 110) rfl ?_
      refine Go.ifnonnullYes X111 hx (hb hby at_110) (q := 115) (by decide) (by decide) ?_
      refine Go.aload X111 hx (hb hby at_115) rfl rfl (q := 117) rfl ?_
      refine Go.aload X111 hx (hb hby at_117) rfl rfl (q := 119) rfl ?_
      refine Go.virt X111 hx hZ hown (wd244 hw) (wd245 hw) (notFace_of_selects (args := #[]) (mvT hZ (wd247 hw))) (wd247 hw) (wd246 hw) (wd6 hw) (wd248 hw) (by decide) (cse l Z a0 hw w_110 s_109 cs u_110 b_109 (ku_110) (kb_109) ((20 : Int32)) ([(.int 117), (.int 110), (.int 101), (.int 120), (.int 112), (.int 101), (.int 99), (.int 116), (.int 101), (.int 100), (.int 32), (.int 97), (.int 114), (.int 103), (.int 117), (.int 109), (.int 101), (.int 110), (.int 116), (.int 32)]) h110 OK110 P110_2 P109_0 P110_3 P109_1 P110_4 P109_2 P110_5 P109_3 (Ne.symm ne_s_109_w_110) SCS hcs ⟨by decide, by decide, rfl, (own_ja own_in)⟩) e111 P110_2 (by rw [hml]; rfl) (hb hby at_119) (argsL := [(.ref s_109)]) (rest := []) (lenOf pd32 rfl) rfl rfl (W := 0) (Nat.le_refl _) (by decide) ?_
      intro v112 T112 L112 X112 hQ112
      obtain ⟨rfl, N112q, e112⟩ := hQ112
      have N112 := Fr.app N111 N112q
      exact Go.retIH X112 hx hS hKd hs0 hZ (own_EW hw) hC hret hlk (by simp) rfl (hb hby at_122) e112 (by decide) (by decide) ⟨rfl, N112⟩
    refine Go.iload X0 hx (hb hby at_13) rfl (q := 15) rfl ?_
    refine Go.iconst X0 hx (hb hby at_15) (r := (1 : Int32)) rfl (q := 16) rfl ?_
    refine Go.iand X0 hx (hb hby at_16) rfl (q := 17) rfl ?_
    by_cases hc113 : (pf &&& (1 : Int32)) = (0 : Int32)
    · refine Go.ifYes X0 hx (hb hby at_17) (Jvm.Free.XT.i0_eq_t hc113) (q := 24) (by decide) (by decide) ?_
      exact J24_103 _ h_ca
    · refine Go.ifNo X0 hx (hb hby at_17) (Jvm.Free.XT.i0_eq_f hc113) (q := 20) rfl ?_
      refine Go.bipush X0 hx (hb hby at_20) (r := (45 : Int32)) rfl (q := 22) rfl ?_
      refine Go.istore X0 hx (hb hby at_22) (l' := #[.val (.int pn), .val (.int pa), .val (.int pb), .val (.int pd), .val (.int pf), .val (.int 0), .val (.int 45), .unset, .unset, .unset, .unset, .unset, .unset, .unset]) rfl (q := 24) rfl ?_
      exact J24_103 _ own_b845
  · show Go pp ee below _ (s₁.setTop (mkF mm 3 #[.val (.int pn), .val (.int pa), .val (.int pb), .val (.int pd), .val (.int pf), .unset, .unset, .unset, .unset, .unset, .unset, .unset, .unset, .unset] [(.int 1)]))
    refine Go.istore X0 hx (hb hby at_3) (l' := #[.val (.int pn), .val (.int pa), .val (.int pb), .val (.int pd), .val (.int pf), .val (.int 1), .unset, .unset, .unset, .unset, .unset, .unset, .unset, .unset]) rfl (q := 5) rfl ?_
    refine Go.iloadN X0 hx (hb hby at_5) rfl (q := 6) rfl ?_
    refine Go.sipush X0 hx (hb hby at_6) (r := (255 : Int32)) rfl (q := 9) rfl ?_
    refine Go.iand X0 hx (hb hby at_9) rfl (q := 10) rfl ?_
    refine Go.i2c X0 hx (hb hby at_10) rfl (q := 11) rfl ?_
    have h_ca := own_b8 pa
    generalize ((pa &&& (255 : Int32)).toUInt32.toUInt16.toUInt32.toInt32) = ca at h_ca ⊢
    have hk114 : nar .char ca = ca := own_b8n h_ca
    have hk115 : ¬ ((255 : Int32) < ca) := own_b8x h_ca
    show Go pp ee below _ (s₁.setTop (mkF mm 11 #[.val (.int pn), .val (.int pa), .val (.int pb), .val (.int pd), .val (.int pf), .val (.int 1), .unset, .unset, .unset, .unset, .unset, .unset, .unset, .unset] [(.int ca)]))
    refine Go.istore X0 hx (hb hby at_11) (l' := #[.val (.int pn), .val (.int pa), .val (.int pb), .val (.int pd), .val (.int pf), .val (.int 1), .val (.int ca), .unset, .unset, .unset, .unset, .unset, .unset, .unset]) rfl (q := 13) rfl ?_
    have J24_116 : ∀ (cz : Int32), B8 cz → Go pp ee below (KKH Z consts_1 ss (Q_law0 Z pn pa pb pd pf cs au an h0) room_1.cells room_1.slots) (s₁.setTop (mkF mm 24 #[.val (.int pn), .val (.int pa), .val (.int pb), .val (.int pd), .val (.int pf), .val (.int 1), .val (.int cz), .unset, .unset, .unset, .unset, .unset, .unset, .unset] [])) := by
      intro cz h_cz
      refine Go.iloadN X0 hx (hb hby at_24) rfl (q := 25) rfl ?_
      refine Go.sipush X0 hx (hb hby at_25) (r := (255 : Int32)) rfl (q := 28) rfl ?_
      refine Go.iand X0 hx (hb hby at_28) rfl (q := 29) rfl ?_
      refine Go.i2c X0 hx (hb hby at_29) rfl (q := 30) rfl ?_
      have h_cb := own_b8 pb
      generalize ((pb &&& (255 : Int32)).toUInt32.toUInt16.toUInt32.toInt32) = cb at h_cb ⊢
      have hk117 : nar .char cb = cb := own_b8n h_cb
      have hk118 : ¬ ((255 : Int32) < cb) := own_b8x h_cb
      show Go pp ee below _ (s₁.setTop (mkF mm 30 #[.val (.int pn), .val (.int pa), .val (.int pb), .val (.int pd), .val (.int pf), .val (.int 1), .val (.int cz), .unset, .unset, .unset, .unset, .unset, .unset, .unset] [(.int cb)]))
      refine Go.istore X0 hx (hb hby at_30) (l' := #[.val (.int pn), .val (.int pa), .val (.int pb), .val (.int pd), .val (.int pf), .val (.int 1), .val (.int cz), .val (.int cb), .unset, .unset, .unset, .unset, .unset, .unset]) rfl (q := 32) rfl ?_
      refine Go.iloadN X0 hx (hb hby at_32) rfl (q := 33) rfl ?_
      refine Go.sipush X0 hx (hb hby at_33) (r := (255 : Int32)) rfl (q := 36) rfl ?_
      refine Go.iand X0 hx (hb hby at_36) rfl (q := 37) rfl ?_
      refine Go.i2c X0 hx (hb hby at_37) rfl (q := 38) rfl ?_
      have h_cd := own_b8 pd
      generalize ((pd &&& (255 : Int32)).toUInt32.toUInt16.toUInt32.toInt32) = cd at h_cd ⊢
      have hk119 : nar .char cd = cd := own_b8n h_cd
      have hk120 : ¬ ((255 : Int32) < cd) := own_b8x h_cd
      show Go pp ee below _ (s₁.setTop (mkF mm 38 #[.val (.int pn), .val (.int pa), .val (.int pb), .val (.int pd), .val (.int pf), .val (.int 1), .val (.int cz), .val (.int cb), .unset, .unset, .unset, .unset, .unset, .unset] [(.int cd)]))
      refine Go.istore X0 hx (hb hby at_38) (l' := #[.val (.int pn), .val (.int pa), .val (.int pb), .val (.int pd), .val (.int pf), .val (.int 1), .val (.int cz), .val (.int cb), .val (.int cd), .unset, .unset, .unset, .unset, .unset]) rfl (q := 40) rfl ?_
      refine Go.iload X0 hx (hb hby at_40) rfl (q := 42) rfl ?_
      refine Go.iload X0 hx (hb hby at_42) rfl (q := 44) rfl ?_
      refine Go.iload X0 hx (hb hby at_44) rfl (q := 46) rfl ?_
      refine Go.iload X0 hx (hb hby at_46) rfl (q := 48) rfl ?_
      refine Go.callS X0 hx hZ hown (wd0 hw) (wd1 hw) (wd2 hw) (wd3 hw) (by decide) (cmw1 l Z a0 hw cz cb cd cs h0 O0 SCS hcs (own_b8n h_cz) (own_b8x h_cz)) e0 (by rw [hml]; rfl) (hb hby at_48) (argsL := [(.int 1), (.int cz), (.int cb), (.int cd)]) (rest := []) (lenOf pd29 rfl) rfl rfl (W := 0) (Nat.le_refl _) (by decide) ?_
      intro v121 T121 L121 X121 hQ121
      obtain ⟨h121, e121⟩ : ∃ z, T121.heap = z := ⟨_, rfl⟩
      rw [e121] at hQ121
      obtain ⟨s_121, b_121, kb_121, rfl, N121q, K121, fr121_s, fr121_b, P121_0, P121_1, P121_2, P121_3⟩ := hQ121
      have N121 := Fr.app N0 N121q
      have g_s_121 : Z.heap.size ≤ s_121 := Nat.le_trans O0.1 fr121_s
      have g_b_121 : Z.heap.size ≤ b_121 := Nat.le_trans O0.1 fr121_b
      replace hKd := Nat.le_trans hKd K121.1
      have hSk : ∀ xq ∈ ([] : List Addr), Safe Z consts_1 ss.vm h0 xq := all0
      replace hC := hC.trans (CHr.keep K121 hSk hC.1)
      have OK121 := ext_keep O0 K121 all0
      refine Go.astore X121 hx (hb hby at_51) rfl (l' := #[.val (.int pn), .val (.int pa), .val (.int pb), .val (.int pd), .val (.int pf), .val (.int 1), .val (.int cz), .val (.int cb), .val (.int cd), .val (.ref s_121), .unset, .unset, .unset, .unset]) rfl (q := 53) rfl ?_
      refine Go.iload X121 hx (hb hby at_53) rfl (q := 55) rfl ?_
      refine Go.ifNo X121 hx (hb hby at_55) (by decide) (q := 58) rfl ?_
      refine Go.iload X121 hx (hb hby at_58) rfl (q := 60) rfl ?_
      refine Go.bipush X121 hx (hb hby at_60) (r := (45 : Int32)) rfl (q := 62) rfl ?_
      by_cases hc122 : cz = (45 : Int32)
      · subst hc122
        refine Go.icmpNo X121 hx (hb hby at_62) (by decide) (q := 65) rfl ?_
        refine Go.iconst X121 hx (hb hby at_65) (r := (1 : Int32)) rfl (q := 66) rfl ?_
        refine Go.goto X121 hx (hb hby at_66) (q := 70) (by decide) (by decide) ?_
        refine Go.istore X121 hx (hb hby at_70) (l' := #[.val (.int pn), .val (.int pa), .val (.int pb), .val (.int pd), .val (.int pf), .val (.int 1), .val (.int 45), .val (.int cb), .val (.int cd), .val (.ref s_121), .val (.int 1), .unset, .unset, .unset]) rfl (q := 72) rfl ?_
        refine Go.iload X121 hx (hb hby at_72) rfl (q := 74) rfl ?_
        refine Go.iload X121 hx (hb hby at_74) rfl (q := 76) rfl ?_
        refine Go.iload X121 hx (hb hby at_76) rfl (q := 78) rfl ?_
        refine Go.iload X121 hx (hb hby at_78) rfl (q := 80) rfl ?_
        refine Go.iload X121 hx (hb hby at_80) rfl (q := 82) rfl ?_
        refine Go.callS X121 hx hZ hown (wd26 hw) (wd27 hw) (wd2 hw) (wd28 hw) (by decide) (cex11 l Z a0 hw ((45 : Int32)) cb cd cs h121 OK121 SCS hcs (own_b8n h_cz) (own_b8x h_cz)) e121 (by rw [hml]; rfl) (hb hby at_82) (argsL := [(.int 1), (.int 1), (.int 45), (.int cb), (.int cd)]) (rest := []) (lenOf pd30 rfl) rfl rfl (W := 0) (Nat.le_refl _) (by decide) ?_
        intro v123 T123 L123 X123 hQ123
        obtain ⟨h123, e123⟩ : ∃ z, T123.heap = z := ⟨_, rfl⟩
        rw [e123] at hQ123
        obtain ⟨s_123, b_123, kb_123, rfl, N123q, K123, fr123_s, fr123_b, P123_0, P123_1, P123_2, P123_3⟩ := hQ123
        have N123 := Fr.app N121 N123q
        have ne_s_121_s_123 : s_121 ≠ s_123 := ne_new P121_0.lt fr123_s
        have ne_b_121_s_123 : b_121 ≠ s_123 := ne_new P121_3.lt fr123_s
        have g_s_123 : Z.heap.size ≤ s_123 := Nat.le_trans OK121.1 fr123_s
        have ne_s_121_b_123 : s_121 ≠ b_123 := ne_new P121_0.lt fr123_b
        have ne_b_121_b_123 : b_121 ≠ b_123 := ne_new P121_3.lt fr123_b
        have g_b_123 : Z.heap.size ≤ b_123 := Nat.le_trans OK121.1 fr123_b
        replace hKd := Nat.le_trans hKd K123.1
        have hSk : ∀ xq ∈ ([] : List Addr), Safe Z consts_1 ss.vm h121 xq := all0
        replace hC := hC.trans (CHr.keep K123 hSk hC.1)
        replace P121_0 := P121_0.keep K123
        replace P121_1 := P121_1.keep K123 nin0
        replace P121_2 := P121_2.keep K123 nin0
        replace P121_3 := P121_3.keep K123 nin0
        have OK123 := ext_keep OK121 K123 all0
        refine Go.astore X123 hx (hb hby at_85) rfl (l' := #[.val (.int pn), .val (.int pa), .val (.int pb), .val (.int pd), .val (.int pf), .val (.int 1), .val (.int 45), .val (.int cb), .val (.int cd), .val (.ref s_121), .val (.int 1), .val (.ref s_123), .unset, .unset]) rfl (q := 87) rfl ?_
        refine Go.aload X123 hx (hb hby at_87) rfl rfl (q := 89) rfl ?_
        refine Go.callSK X123 hx hZ hown hS hKd (own_EW hw) hC hKn (wd40 hw) (wd41 hw) (wd42 hw) (wd43 hw) (by decide) (cunf l Z a0 hw s_121 b_121 (kb_121) cs au an ((1 : Int32)) ((45 : Int32)) ([(.int 45)]) ([(.int 117), (.int 110), (.int 107), (.int 110), (.int 111), (.int 119), (.int 110), (.int 32), (.int 102), (.int 108), (.int 97), (.int 103), (.int 32), (.int 45), (.int 0), (.int 0)]) ([(.int 117), (.int 110), (.int 107), (.int 110), (.int 111), (.int 119), (.int 110), (.int 32), (.int 102), (.int 108), (.int 97), (.int 103), (.int 32), (.int 45)]) h123 OK123 P121_0 P121_1 P121_2 P121_3 SCS SU SN hcs hlt (by decide) (by decide) rfl rfl ⟨⟨by decide, by decide, by decide⟩, by decide, by decide, rfl, Nat.le_of_ble_eq_true rfl, rfl⟩ (by decide) ⟨⟨by decide, by decide⟩, by decide, rfl⟩) e123 (by rw [hml]; rfl) (hb hby at_89) (argsL := [(.ref s_121)]) (rest := []) (lenOf pd31 rfl) rfl rfl (W := 0) (Nat.le_refl _) (by decide) ?_
        intro v124 T124 L124 k124 X124 hS hKd hZ hown hR124 hQ124
        obtain ⟨h124, e124⟩ : ∃ z, T124.heap = z := ⟨_, rfl⟩
        rw [e124] at hQ124 hKd hR124
        obtain ⟨x_124, w_124, u_124, ku_124, rfl, N124q, K124, fr124_w, fr124_u, P124_0, P124_1, P124_2, P124_3, P124_4, P124_5⟩ := hQ124
        have N124 := Fr.app N123 N124q
        replace hC := hC.trans hR124
        have ne_s_121_w_124 : s_121 ≠ w_124 := ne_new P121_0.lt fr124_w
        have ne_b_121_w_124 : b_121 ≠ w_124 := ne_new P121_3.lt fr124_w
        have ne_s_123_w_124 : s_123 ≠ w_124 := ne_new P123_0.lt fr124_w
        have ne_b_123_w_124 : b_123 ≠ w_124 := ne_new P123_3.lt fr124_w
        have g_w_124 : Z.heap.size ≤ w_124 := Nat.le_trans OK123.1 fr124_w
        have ne_s_121_u_124 : s_121 ≠ u_124 := ne_new P121_0.lt fr124_u
        have ne_b_121_u_124 : b_121 ≠ u_124 := ne_new P121_3.lt fr124_u
        have ne_s_123_u_124 : s_123 ≠ u_124 := ne_new P123_0.lt fr124_u
        have ne_b_123_u_124 : b_123 ≠ u_124 := ne_new P123_3.lt fr124_u
        have g_u_124 : Z.heap.size ≤ u_124 := Nat.le_trans OK123.1 fr124_u
        replace P121_0 := P121_0.keep K124
        replace P121_1 := P121_1.keep K124 nin0
        replace P121_2 := P121_2.keep K124 nin0
        replace P121_3 := P121_3.keep K124 nin0
        replace P123_0 := P123_0.keep K124
        replace P123_1 := P123_1.keep K124 nin0
        replace P123_2 := P123_2.keep K124 nin0
        replace P123_3 := P123_3.keep K124 nin0
        have OK124 := ext_keep OK123 K124 all0
        refine Go.astore X124 hx (hb hby at_92) rfl (l' := #[.val (.int pn), .val (.int pa), .val (.int pb), .val (.int pd), .val (.int pf), .val (.int 1), .val (.int 45), .val (.int cb), .val (.int cd), .val (.ref s_121), .val (.int 1), .val (.ref s_123), .val (.ref x_124), .unset]) rfl (q := 94) rfl ?_
        refine Go.aload X124 hx (hb hby at_94) rfl rfl (q := 96) rfl ?_
        refine Go.ifnonnullYes X124 hx (hb hby at_96) (q := 101) (by decide) (by decide) ?_
        refine Go.aload X124 hx (hb hby at_101) rfl rfl (q := 103) rfl ?_
        refine Go.virtUp X124 hx hZ hown (wd238 hw) (wd239 hw) (wd240 hw) (wd242 hw) (wd241 hw) (wd199 hw) (wd243 hw) (by decide) (cgm l Z a0 hw x_124 w_124 h124 OK124 P124_1) e124 P124_0 (by rw [hml]; rfl) (hb hby at_103) (argsL := []) (rest := []) (lenOf pd27 rfl) rfl rfl (W := 0) (Nat.le_refl _) (by decide) ?_
        intro v125 T125 L125 X125 hQ125
        obtain ⟨rfl, N125q, e125⟩ := hQ125
        have N125 := Fr.app N124 N125q
        refine Go.astore X125 hx (hb hby at_106) rfl (l' := #[.val (.int pn), .val (.int pa), .val (.int pb), .val (.int pd), .val (.int pf), .val (.int 1), .val (.int 45), .val (.int cb), .val (.int cd), .val (.ref s_121), .val (.int 1), .val (.ref s_123), .val (.ref x_124), .val (.ref w_124)]) rfl (q := 108) rfl ?_
        refine Go.aload X125 hx (hb hby at_108) rfl rfl (q := 110) rfl ?_
        refine Go.ifnonnullYes X125 hx (hb hby at_110) (q := 115) (by decide) (by decide) ?_
        refine Go.aload X125 hx (hb hby at_115) rfl rfl (q := 117) rfl ?_
        refine Go.aload X125 hx (hb hby at_117) rfl rfl (q := 119) rfl ?_
        refine Go.virt X125 hx hZ hown (wd244 hw) (wd245 hw) (notFace_of_selects (args := #[]) (mvT hZ (wd247 hw))) (wd247 hw) (wd246 hw) (wd6 hw) (wd248 hw) (by decide) (cse l Z a0 hw w_124 s_123 cs u_124 b_123 (ku_124) (kb_123) ((14 : Int32)) ([(.int 117), (.int 110), (.int 107), (.int 110), (.int 111), (.int 119), (.int 110), (.int 32), (.int 102), (.int 108), (.int 97), (.int 103), (.int 32), (.int 45)]) h124 OK124 P124_2 P123_0 P124_3 P123_1 P124_4 P123_2 P124_5 P123_3 (Ne.symm ne_s_123_w_124) SCS hcs ⟨by decide, by decide, rfl, (own_jf (own_ic own_in))⟩) e125 P124_2 (by rw [hml]; rfl) (hb hby at_119) (argsL := [(.ref s_123)]) (rest := []) (lenOf pd32 rfl) rfl rfl (W := 0) (Nat.le_refl _) (by decide) ?_
        intro v126 T126 L126 X126 hQ126
        obtain ⟨rfl, N126q, e126⟩ := hQ126
        have N126 := Fr.app N125 N126q
        exact Go.retIH X126 hx hS hKd hs0 hZ (own_EW hw) hC hret hlk (by simp) rfl (hb hby at_122) e126 (by decide) (by decide) ⟨rfl, N126⟩
      · refine Go.icmpYes X121 hx (hb hby at_62) (Jvm.Free.XT.ii_ne_t hc122) (q := 69) (by decide) (by decide) ?_
        refine Go.iconst X121 hx (hb hby at_69) (r := (0 : Int32)) rfl (q := 70) rfl ?_
        refine Go.istore X121 hx (hb hby at_70) (l' := #[.val (.int pn), .val (.int pa), .val (.int pb), .val (.int pd), .val (.int pf), .val (.int 1), .val (.int cz), .val (.int cb), .val (.int cd), .val (.ref s_121), .val (.int 0), .unset, .unset, .unset]) rfl (q := 72) rfl ?_
        refine Go.iload X121 hx (hb hby at_72) rfl (q := 74) rfl ?_
        refine Go.iload X121 hx (hb hby at_74) rfl (q := 76) rfl ?_
        refine Go.iload X121 hx (hb hby at_76) rfl (q := 78) rfl ?_
        refine Go.iload X121 hx (hb hby at_78) rfl (q := 80) rfl ?_
        refine Go.iload X121 hx (hb hby at_80) rfl (q := 82) rfl ?_
        refine Go.callS X121 hx hZ hown (wd26 hw) (wd27 hw) (wd2 hw) (wd28 hw) (by decide) (cex01 l Z a0 hw cz cb cd cs h121 OK121 SCS hcs (own_b8n h_cz) (own_b8x h_cz)) e121 (by rw [hml]; rfl) (hb hby at_82) (argsL := [(.int 0), (.int 1), (.int cz), (.int cb), (.int cd)]) (rest := []) (lenOf pd30 rfl) rfl rfl (W := 0) (Nat.le_refl _) (by decide) ?_
        intro v127 T127 L127 X127 hQ127
        obtain ⟨h127, e127⟩ : ∃ z, T127.heap = z := ⟨_, rfl⟩
        rw [e127] at hQ127
        obtain ⟨s_127, b_127, kb_127, rfl, N127q, K127, fr127_s, fr127_b, P127_0, P127_1, P127_2, P127_3⟩ := hQ127
        have N127 := Fr.app N121 N127q
        have ne_s_121_s_127 : s_121 ≠ s_127 := ne_new P121_0.lt fr127_s
        have ne_b_121_s_127 : b_121 ≠ s_127 := ne_new P121_3.lt fr127_s
        have g_s_127 : Z.heap.size ≤ s_127 := Nat.le_trans OK121.1 fr127_s
        have ne_s_121_b_127 : s_121 ≠ b_127 := ne_new P121_0.lt fr127_b
        have ne_b_121_b_127 : b_121 ≠ b_127 := ne_new P121_3.lt fr127_b
        have g_b_127 : Z.heap.size ≤ b_127 := Nat.le_trans OK121.1 fr127_b
        replace hKd := Nat.le_trans hKd K127.1
        have hSk : ∀ xq ∈ ([] : List Addr), Safe Z consts_1 ss.vm h121 xq := all0
        replace hC := hC.trans (CHr.keep K127 hSk hC.1)
        replace P121_0 := P121_0.keep K127
        replace P121_1 := P121_1.keep K127 nin0
        replace P121_2 := P121_2.keep K127 nin0
        replace P121_3 := P121_3.keep K127 nin0
        have OK127 := ext_keep OK121 K127 all0
        refine Go.astore X127 hx (hb hby at_85) rfl (l' := #[.val (.int pn), .val (.int pa), .val (.int pb), .val (.int pd), .val (.int pf), .val (.int 1), .val (.int cz), .val (.int cb), .val (.int cd), .val (.ref s_121), .val (.int 0), .val (.ref s_127), .unset, .unset]) rfl (q := 87) rfl ?_
        refine Go.aload X127 hx (hb hby at_87) rfl rfl (q := 89) rfl ?_
        have hk128 : ¬ ((cz.toInt8.toInt32) = (45 : Int32)) := own_b8q h_cz hc122
        refine Go.callSK X127 hx hZ hown hS hKd (own_EW hw) hC hKn (wd40 hw) (wd41 hw) (wd42 hw) (wd43 hw) (by decide) (cung l Z a0 hw s_121 b_121 (kb_121) cs au an ((1 : Int32)) ((cz.toInt8.toInt32)) ([(.int (cz.toInt8.toInt32))]) ([(.int 117), (.int 110), (.int 101), (.int 120), (.int 112), (.int 101), (.int 99), (.int 116), (.int 101), (.int 100), (.int 32), (.int 97), (.int 114), (.int 103), (.int 117), (.int 109), (.int 101), (.int 110), (.int 116), (.int 32), (.int (cz.toInt8.toInt32)), (.int 0), (.int 0)]) ([(.int 117), (.int 110), (.int 101), (.int 120), (.int 112), (.int 101), (.int 99), (.int 116), (.int 101), (.int 100), (.int 32), (.int 97), (.int 114), (.int 103), (.int 117), (.int 109), (.int 101), (.int 110), (.int 116), (.int 32), (.int (cz.toInt8.toInt32))]) h127 OK127 P121_0 P121_1 P121_2 P121_3 SCS SU SN hcs hlt (by decide) (by decide) rfl hk128 ⟨⟨by decide, by decide, by decide⟩, by decide, by decide, rfl, Nat.le_of_ble_eq_true rfl, rfl⟩ (by decide) ⟨⟨by decide, by decide⟩, by decide, rfl⟩) e127 (by rw [hml]; rfl) (hb hby at_89) (argsL := [(.ref s_121)]) (rest := []) (lenOf pd31 rfl) rfl rfl (W := 0) (Nat.le_refl _) (by decide) ?_
        intro v129 T129 L129 k129 X129 hS hKd hZ hown hR129 hQ129
        obtain ⟨h129, e129⟩ : ∃ z, T129.heap = z := ⟨_, rfl⟩
        rw [e129] at hQ129 hKd hR129
        obtain ⟨x_129, w_129, u_129, ku_129, rfl, N129q, K129, fr129_w, fr129_u, P129_0, P129_1, P129_2, P129_3, P129_4, P129_5⟩ := hQ129
        have N129 := Fr.app N127 N129q
        replace hC := hC.trans hR129
        have ne_s_121_w_129 : s_121 ≠ w_129 := ne_new P121_0.lt fr129_w
        have ne_b_121_w_129 : b_121 ≠ w_129 := ne_new P121_3.lt fr129_w
        have ne_s_127_w_129 : s_127 ≠ w_129 := ne_new P127_0.lt fr129_w
        have ne_b_127_w_129 : b_127 ≠ w_129 := ne_new P127_3.lt fr129_w
        have g_w_129 : Z.heap.size ≤ w_129 := Nat.le_trans OK127.1 fr129_w
        have ne_s_121_u_129 : s_121 ≠ u_129 := ne_new P121_0.lt fr129_u
        have ne_b_121_u_129 : b_121 ≠ u_129 := ne_new P121_3.lt fr129_u
        have ne_s_127_u_129 : s_127 ≠ u_129 := ne_new P127_0.lt fr129_u
        have ne_b_127_u_129 : b_127 ≠ u_129 := ne_new P127_3.lt fr129_u
        have g_u_129 : Z.heap.size ≤ u_129 := Nat.le_trans OK127.1 fr129_u
        replace P121_0 := P121_0.keep K129
        replace P121_1 := P121_1.keep K129 nin0
        replace P121_2 := P121_2.keep K129 nin0
        replace P121_3 := P121_3.keep K129 nin0
        replace P127_0 := P127_0.keep K129
        replace P127_1 := P127_1.keep K129 nin0
        replace P127_2 := P127_2.keep K129 nin0
        replace P127_3 := P127_3.keep K129 nin0
        have OK129 := ext_keep OK127 K129 all0
        refine Go.astore X129 hx (hb hby at_92) rfl (l' := #[.val (.int pn), .val (.int pa), .val (.int pb), .val (.int pd), .val (.int pf), .val (.int 1), .val (.int cz), .val (.int cb), .val (.int cd), .val (.ref s_121), .val (.int 0), .val (.ref s_127), .val (.ref x_129), .unset]) rfl (q := 94) rfl ?_
        refine Go.aload X129 hx (hb hby at_94) rfl rfl (q := 96) rfl ?_
        refine Go.ifnonnullYes X129 hx (hb hby at_96) (q := 101) (by decide) (by decide) ?_
        refine Go.aload X129 hx (hb hby at_101) rfl rfl (q := 103) rfl ?_
        refine Go.virtUp X129 hx hZ hown (wd238 hw) (wd239 hw) (wd240 hw) (wd242 hw) (wd241 hw) (wd199 hw) (wd243 hw) (by decide) (cgm l Z a0 hw x_129 w_129 h129 OK129 P129_1) e129 P129_0 (by rw [hml]; rfl) (hb hby at_103) (argsL := []) (rest := []) (lenOf pd27 rfl) rfl rfl (W := 0) (Nat.le_refl _) (by decide) ?_
        intro v130 T130 L130 X130 hQ130
        obtain ⟨rfl, N130q, e130⟩ := hQ130
        have N130 := Fr.app N129 N130q
        refine Go.astore X130 hx (hb hby at_106) rfl (l' := #[.val (.int pn), .val (.int pa), .val (.int pb), .val (.int pd), .val (.int pf), .val (.int 1), .val (.int cz), .val (.int cb), .val (.int cd), .val (.ref s_121), .val (.int 0), .val (.ref s_127), .val (.ref x_129), .val (.ref w_129)]) rfl (q := 108) rfl ?_
        refine Go.aload X130 hx (hb hby at_108) rfl rfl (q := 110) rfl ?_
        refine Go.ifnonnullYes X130 hx (hb hby at_110) (q := 115) (by decide) (by decide) ?_
        refine Go.aload X130 hx (hb hby at_115) rfl rfl (q := 117) rfl ?_
        refine Go.aload X130 hx (hb hby at_117) rfl rfl (q := 119) rfl ?_
        refine Go.virt X130 hx hZ hown (wd244 hw) (wd245 hw) (notFace_of_selects (args := #[]) (mvT hZ (wd247 hw))) (wd247 hw) (wd246 hw) (wd6 hw) (wd248 hw) (by decide) (cse l Z a0 hw w_129 s_127 cs u_129 b_127 (ku_129) (kb_127) ((21 : Int32)) ([(.int 117), (.int 110), (.int 101), (.int 120), (.int 112), (.int 101), (.int 99), (.int 116), (.int 101), (.int 100), (.int 32), (.int 97), (.int 114), (.int 103), (.int 117), (.int 109), (.int 101), (.int 110), (.int 116), (.int 32), (.int (cz.toInt8.toInt32))]) h129 OK129 P129_2 P127_0 P129_3 P127_1 P129_4 P127_2 P129_5 P127_3 (Ne.symm ne_s_127_w_129) SCS hcs ⟨by decide, by decide, rfl, (own_ja (own_ic own_in))⟩) e130 P129_2 (by rw [hml]; rfl) (hb hby at_119) (argsL := [(.ref s_127)]) (rest := []) (lenOf pd32 rfl) rfl rfl (W := 0) (Nat.le_refl _) (by decide) ?_
        intro v131 T131 L131 X131 hQ131
        obtain ⟨rfl, N131q, e131⟩ := hQ131
        have N131 := Fr.app N130 N131q
        exact Go.retIH X131 hx hS hKd hs0 hZ (own_EW hw) hC hret hlk (by simp) rfl (hb hby at_122) e131 (by decide) (by decide) ⟨rfl, N131⟩
    refine Go.iload X0 hx (hb hby at_13) rfl (q := 15) rfl ?_
    refine Go.iconst X0 hx (hb hby at_15) (r := (1 : Int32)) rfl (q := 16) rfl ?_
    refine Go.iand X0 hx (hb hby at_16) rfl (q := 17) rfl ?_
    by_cases hc132 : (pf &&& (1 : Int32)) = (0 : Int32)
    · refine Go.ifYes X0 hx (hb hby at_17) (Jvm.Free.XT.i0_eq_t hc132) (q := 24) (by decide) (by decide) ?_
      exact J24_116 _ h_ca
    · refine Go.ifNo X0 hx (hb hby at_17) (Jvm.Free.XT.i0_eq_f hc132) (q := 20) rfl ?_
      refine Go.bipush X0 hx (hb hby at_20) (r := (45 : Int32)) rfl (q := 22) rfl ?_
      refine Go.istore X0 hx (hb hby at_22) (l' := #[.val (.int pn), .val (.int pa), .val (.int pb), .val (.int pd), .val (.int pf), .val (.int 1), .val (.int 45), .unset, .unset, .unset, .unset, .unset, .unset, .unset]) rfl (q := 24) rfl ?_
      exact J24_116 _ own_b845
  · show Go pp ee below _ (s₁.setTop (mkF mm 3 #[.val (.int pn), .val (.int pa), .val (.int pb), .val (.int pd), .val (.int pf), .unset, .unset, .unset, .unset, .unset, .unset, .unset, .unset, .unset] [(.int 2)]))
    refine Go.istore X0 hx (hb hby at_3) (l' := #[.val (.int pn), .val (.int pa), .val (.int pb), .val (.int pd), .val (.int pf), .val (.int 2), .unset, .unset, .unset, .unset, .unset, .unset, .unset, .unset]) rfl (q := 5) rfl ?_
    refine Go.iloadN X0 hx (hb hby at_5) rfl (q := 6) rfl ?_
    refine Go.sipush X0 hx (hb hby at_6) (r := (255 : Int32)) rfl (q := 9) rfl ?_
    refine Go.iand X0 hx (hb hby at_9) rfl (q := 10) rfl ?_
    refine Go.i2c X0 hx (hb hby at_10) rfl (q := 11) rfl ?_
    have h_ca := own_b8 pa
    generalize ((pa &&& (255 : Int32)).toUInt32.toUInt16.toUInt32.toInt32) = ca at h_ca ⊢
    have hk133 : nar .char ca = ca := own_b8n h_ca
    have hk134 : ¬ ((255 : Int32) < ca) := own_b8x h_ca
    show Go pp ee below _ (s₁.setTop (mkF mm 11 #[.val (.int pn), .val (.int pa), .val (.int pb), .val (.int pd), .val (.int pf), .val (.int 2), .unset, .unset, .unset, .unset, .unset, .unset, .unset, .unset] [(.int ca)]))
    refine Go.istore X0 hx (hb hby at_11) (l' := #[.val (.int pn), .val (.int pa), .val (.int pb), .val (.int pd), .val (.int pf), .val (.int 2), .val (.int ca), .unset, .unset, .unset, .unset, .unset, .unset, .unset]) rfl (q := 13) rfl ?_
    have J24_135 : ∀ (cz : Int32), B8 cz → Go pp ee below (KKH Z consts_1 ss (Q_law0 Z pn pa pb pd pf cs au an h0) room_1.cells room_1.slots) (s₁.setTop (mkF mm 24 #[.val (.int pn), .val (.int pa), .val (.int pb), .val (.int pd), .val (.int pf), .val (.int 2), .val (.int cz), .unset, .unset, .unset, .unset, .unset, .unset, .unset] [])) := by
      intro cz h_cz
      refine Go.iloadN X0 hx (hb hby at_24) rfl (q := 25) rfl ?_
      refine Go.sipush X0 hx (hb hby at_25) (r := (255 : Int32)) rfl (q := 28) rfl ?_
      refine Go.iand X0 hx (hb hby at_28) rfl (q := 29) rfl ?_
      refine Go.i2c X0 hx (hb hby at_29) rfl (q := 30) rfl ?_
      have h_cb := own_b8 pb
      generalize ((pb &&& (255 : Int32)).toUInt32.toUInt16.toUInt32.toInt32) = cb at h_cb ⊢
      have hk136 : nar .char cb = cb := own_b8n h_cb
      have hk137 : ¬ ((255 : Int32) < cb) := own_b8x h_cb
      show Go pp ee below _ (s₁.setTop (mkF mm 30 #[.val (.int pn), .val (.int pa), .val (.int pb), .val (.int pd), .val (.int pf), .val (.int 2), .val (.int cz), .unset, .unset, .unset, .unset, .unset, .unset, .unset] [(.int cb)]))
      refine Go.istore X0 hx (hb hby at_30) (l' := #[.val (.int pn), .val (.int pa), .val (.int pb), .val (.int pd), .val (.int pf), .val (.int 2), .val (.int cz), .val (.int cb), .unset, .unset, .unset, .unset, .unset, .unset]) rfl (q := 32) rfl ?_
      refine Go.iloadN X0 hx (hb hby at_32) rfl (q := 33) rfl ?_
      refine Go.sipush X0 hx (hb hby at_33) (r := (255 : Int32)) rfl (q := 36) rfl ?_
      refine Go.iand X0 hx (hb hby at_36) rfl (q := 37) rfl ?_
      refine Go.i2c X0 hx (hb hby at_37) rfl (q := 38) rfl ?_
      have h_cd := own_b8 pd
      generalize ((pd &&& (255 : Int32)).toUInt32.toUInt16.toUInt32.toInt32) = cd at h_cd ⊢
      have hk138 : nar .char cd = cd := own_b8n h_cd
      have hk139 : ¬ ((255 : Int32) < cd) := own_b8x h_cd
      show Go pp ee below _ (s₁.setTop (mkF mm 38 #[.val (.int pn), .val (.int pa), .val (.int pb), .val (.int pd), .val (.int pf), .val (.int 2), .val (.int cz), .val (.int cb), .unset, .unset, .unset, .unset, .unset, .unset] [(.int cd)]))
      refine Go.istore X0 hx (hb hby at_38) (l' := #[.val (.int pn), .val (.int pa), .val (.int pb), .val (.int pd), .val (.int pf), .val (.int 2), .val (.int cz), .val (.int cb), .val (.int cd), .unset, .unset, .unset, .unset, .unset]) rfl (q := 40) rfl ?_
      refine Go.iload X0 hx (hb hby at_40) rfl (q := 42) rfl ?_
      refine Go.iload X0 hx (hb hby at_42) rfl (q := 44) rfl ?_
      refine Go.iload X0 hx (hb hby at_44) rfl (q := 46) rfl ?_
      refine Go.iload X0 hx (hb hby at_46) rfl (q := 48) rfl ?_
      refine Go.callS X0 hx hZ hown (wd0 hw) (wd1 hw) (wd2 hw) (wd3 hw) (by decide) (cmw2 l Z a0 hw cz cb cd cs h0 O0 SCS hcs (own_b8n h_cz) hk136 (own_b8x h_cz) hk137) e0 (by rw [hml]; rfl) (hb hby at_48) (argsL := [(.int 2), (.int cz), (.int cb), (.int cd)]) (rest := []) (lenOf pd29 rfl) rfl rfl (W := 0) (Nat.le_refl _) (by decide) ?_
      intro v140 T140 L140 X140 hQ140
      obtain ⟨h140, e140⟩ : ∃ z, T140.heap = z := ⟨_, rfl⟩
      rw [e140] at hQ140
      obtain ⟨s_140, b_140, kb_140, rfl, N140q, K140, fr140_s, fr140_b, P140_0, P140_1, P140_2, P140_3⟩ := hQ140
      have N140 := Fr.app N0 N140q
      have g_s_140 : Z.heap.size ≤ s_140 := Nat.le_trans O0.1 fr140_s
      have g_b_140 : Z.heap.size ≤ b_140 := Nat.le_trans O0.1 fr140_b
      replace hKd := Nat.le_trans hKd K140.1
      have hSk : ∀ xq ∈ ([] : List Addr), Safe Z consts_1 ss.vm h0 xq := all0
      replace hC := hC.trans (CHr.keep K140 hSk hC.1)
      have OK140 := ext_keep O0 K140 all0
      refine Go.astore X140 hx (hb hby at_51) rfl (l' := #[.val (.int pn), .val (.int pa), .val (.int pb), .val (.int pd), .val (.int pf), .val (.int 2), .val (.int cz), .val (.int cb), .val (.int cd), .val (.ref s_140), .unset, .unset, .unset, .unset]) rfl (q := 53) rfl ?_
      refine Go.iload X140 hx (hb hby at_53) rfl (q := 55) rfl ?_
      refine Go.ifNo X140 hx (hb hby at_55) (by decide) (q := 58) rfl ?_
      refine Go.iload X140 hx (hb hby at_58) rfl (q := 60) rfl ?_
      refine Go.bipush X140 hx (hb hby at_60) (r := (45 : Int32)) rfl (q := 62) rfl ?_
      by_cases hc141 : cz = (45 : Int32)
      · subst hc141
        refine Go.icmpNo X140 hx (hb hby at_62) (by decide) (q := 65) rfl ?_
        refine Go.iconst X140 hx (hb hby at_65) (r := (1 : Int32)) rfl (q := 66) rfl ?_
        refine Go.goto X140 hx (hb hby at_66) (q := 70) (by decide) (by decide) ?_
        refine Go.istore X140 hx (hb hby at_70) (l' := #[.val (.int pn), .val (.int pa), .val (.int pb), .val (.int pd), .val (.int pf), .val (.int 2), .val (.int 45), .val (.int cb), .val (.int cd), .val (.ref s_140), .val (.int 1), .unset, .unset, .unset]) rfl (q := 72) rfl ?_
        refine Go.iload X140 hx (hb hby at_72) rfl (q := 74) rfl ?_
        refine Go.iload X140 hx (hb hby at_74) rfl (q := 76) rfl ?_
        refine Go.iload X140 hx (hb hby at_76) rfl (q := 78) rfl ?_
        refine Go.iload X140 hx (hb hby at_78) rfl (q := 80) rfl ?_
        refine Go.iload X140 hx (hb hby at_80) rfl (q := 82) rfl ?_
        refine Go.callS X140 hx hZ hown (wd26 hw) (wd27 hw) (wd2 hw) (wd28 hw) (by decide) (cex12 l Z a0 hw ((45 : Int32)) cb cd cs h140 OK140 SCS hcs (own_b8n h_cz) hk136 (own_b8x h_cz) hk137) e140 (by rw [hml]; rfl) (hb hby at_82) (argsL := [(.int 1), (.int 2), (.int 45), (.int cb), (.int cd)]) (rest := []) (lenOf pd30 rfl) rfl rfl (W := 0) (Nat.le_refl _) (by decide) ?_
        intro v142 T142 L142 X142 hQ142
        obtain ⟨h142, e142⟩ : ∃ z, T142.heap = z := ⟨_, rfl⟩
        rw [e142] at hQ142
        obtain ⟨s_142, b_142, kb_142, rfl, N142q, K142, fr142_s, fr142_b, P142_0, P142_1, P142_2, P142_3⟩ := hQ142
        have N142 := Fr.app N140 N142q
        have ne_s_140_s_142 : s_140 ≠ s_142 := ne_new P140_0.lt fr142_s
        have ne_b_140_s_142 : b_140 ≠ s_142 := ne_new P140_3.lt fr142_s
        have g_s_142 : Z.heap.size ≤ s_142 := Nat.le_trans OK140.1 fr142_s
        have ne_s_140_b_142 : s_140 ≠ b_142 := ne_new P140_0.lt fr142_b
        have ne_b_140_b_142 : b_140 ≠ b_142 := ne_new P140_3.lt fr142_b
        have g_b_142 : Z.heap.size ≤ b_142 := Nat.le_trans OK140.1 fr142_b
        replace hKd := Nat.le_trans hKd K142.1
        have hSk : ∀ xq ∈ ([] : List Addr), Safe Z consts_1 ss.vm h140 xq := all0
        replace hC := hC.trans (CHr.keep K142 hSk hC.1)
        replace P140_0 := P140_0.keep K142
        replace P140_1 := P140_1.keep K142 nin0
        replace P140_2 := P140_2.keep K142 nin0
        replace P140_3 := P140_3.keep K142 nin0
        have OK142 := ext_keep OK140 K142 all0
        refine Go.astore X142 hx (hb hby at_85) rfl (l' := #[.val (.int pn), .val (.int pa), .val (.int pb), .val (.int pd), .val (.int pf), .val (.int 2), .val (.int 45), .val (.int cb), .val (.int cd), .val (.ref s_140), .val (.int 1), .val (.ref s_142), .unset, .unset]) rfl (q := 87) rfl ?_
        refine Go.aload X142 hx (hb hby at_87) rfl rfl (q := 89) rfl ?_
        refine Go.callSK X142 hx hZ hown hS hKd (own_EW hw) hC hKn (wd40 hw) (wd41 hw) (wd42 hw) (wd43 hw) (by decide) (cunf l Z a0 hw s_140 b_140 (kb_140) cs au an ((2 : Int32)) ((45 : Int32)) ([(.int 45), (.int (cb.toInt8.toInt32))]) ([(.int 117), (.int 110), (.int 107), (.int 110), (.int 111), (.int 119), (.int 110), (.int 32), (.int 102), (.int 108), (.int 97), (.int 103), (.int 32), (.int 45), (.int (cb.toInt8.toInt32)), (.int 0)]) ([(.int 117), (.int 110), (.int 107), (.int 110), (.int 111), (.int 119), (.int 110), (.int 32), (.int 102), (.int 108), (.int 97), (.int 103), (.int 32), (.int 45), (.int (cb.toInt8.toInt32))]) h142 OK142 P140_0 P140_1 P140_2 P140_3 SCS SU SN hcs hlt (by decide) (by decide) rfl rfl ⟨⟨by decide, by decide, by decide⟩, by decide, by decide, rfl, Nat.le_of_ble_eq_true rfl, rfl⟩ (by decide) ⟨⟨by decide, by decide⟩, by decide, rfl⟩) e142 (by rw [hml]; rfl) (hb hby at_89) (argsL := [(.ref s_140)]) (rest := []) (lenOf pd31 rfl) rfl rfl (W := 0) (Nat.le_refl _) (by decide) ?_
        intro v143 T143 L143 k143 X143 hS hKd hZ hown hR143 hQ143
        obtain ⟨h143, e143⟩ : ∃ z, T143.heap = z := ⟨_, rfl⟩
        rw [e143] at hQ143 hKd hR143
        obtain ⟨x_143, w_143, u_143, ku_143, rfl, N143q, K143, fr143_w, fr143_u, P143_0, P143_1, P143_2, P143_3, P143_4, P143_5⟩ := hQ143
        have N143 := Fr.app N142 N143q
        replace hC := hC.trans hR143
        have ne_s_140_w_143 : s_140 ≠ w_143 := ne_new P140_0.lt fr143_w
        have ne_b_140_w_143 : b_140 ≠ w_143 := ne_new P140_3.lt fr143_w
        have ne_s_142_w_143 : s_142 ≠ w_143 := ne_new P142_0.lt fr143_w
        have ne_b_142_w_143 : b_142 ≠ w_143 := ne_new P142_3.lt fr143_w
        have g_w_143 : Z.heap.size ≤ w_143 := Nat.le_trans OK142.1 fr143_w
        have ne_s_140_u_143 : s_140 ≠ u_143 := ne_new P140_0.lt fr143_u
        have ne_b_140_u_143 : b_140 ≠ u_143 := ne_new P140_3.lt fr143_u
        have ne_s_142_u_143 : s_142 ≠ u_143 := ne_new P142_0.lt fr143_u
        have ne_b_142_u_143 : b_142 ≠ u_143 := ne_new P142_3.lt fr143_u
        have g_u_143 : Z.heap.size ≤ u_143 := Nat.le_trans OK142.1 fr143_u
        replace P140_0 := P140_0.keep K143
        replace P140_1 := P140_1.keep K143 nin0
        replace P140_2 := P140_2.keep K143 nin0
        replace P140_3 := P140_3.keep K143 nin0
        replace P142_0 := P142_0.keep K143
        replace P142_1 := P142_1.keep K143 nin0
        replace P142_2 := P142_2.keep K143 nin0
        replace P142_3 := P142_3.keep K143 nin0
        have OK143 := ext_keep OK142 K143 all0
        refine Go.astore X143 hx (hb hby at_92) rfl (l' := #[.val (.int pn), .val (.int pa), .val (.int pb), .val (.int pd), .val (.int pf), .val (.int 2), .val (.int 45), .val (.int cb), .val (.int cd), .val (.ref s_140), .val (.int 1), .val (.ref s_142), .val (.ref x_143), .unset]) rfl (q := 94) rfl ?_
        refine Go.aload X143 hx (hb hby at_94) rfl rfl (q := 96) rfl ?_
        refine Go.ifnonnullYes X143 hx (hb hby at_96) (q := 101) (by decide) (by decide) ?_
        refine Go.aload X143 hx (hb hby at_101) rfl rfl (q := 103) rfl ?_
        refine Go.virtUp X143 hx hZ hown (wd238 hw) (wd239 hw) (wd240 hw) (wd242 hw) (wd241 hw) (wd199 hw) (wd243 hw) (by decide) (cgm l Z a0 hw x_143 w_143 h143 OK143 P143_1) e143 P143_0 (by rw [hml]; rfl) (hb hby at_103) (argsL := []) (rest := []) (lenOf pd27 rfl) rfl rfl (W := 0) (Nat.le_refl _) (by decide) ?_
        intro v144 T144 L144 X144 hQ144
        obtain ⟨rfl, N144q, e144⟩ := hQ144
        have N144 := Fr.app N143 N144q
        refine Go.astore X144 hx (hb hby at_106) rfl (l' := #[.val (.int pn), .val (.int pa), .val (.int pb), .val (.int pd), .val (.int pf), .val (.int 2), .val (.int 45), .val (.int cb), .val (.int cd), .val (.ref s_140), .val (.int 1), .val (.ref s_142), .val (.ref x_143), .val (.ref w_143)]) rfl (q := 108) rfl ?_
        refine Go.aload X144 hx (hb hby at_108) rfl rfl (q := 110) rfl ?_
        refine Go.ifnonnullYes X144 hx (hb hby at_110) (q := 115) (by decide) (by decide) ?_
        refine Go.aload X144 hx (hb hby at_115) rfl rfl (q := 117) rfl ?_
        refine Go.aload X144 hx (hb hby at_117) rfl rfl (q := 119) rfl ?_
        refine Go.virt X144 hx hZ hown (wd244 hw) (wd245 hw) (notFace_of_selects (args := #[]) (mvT hZ (wd247 hw))) (wd247 hw) (wd246 hw) (wd6 hw) (wd248 hw) (by decide) (cse l Z a0 hw w_143 s_142 cs u_143 b_142 (ku_143) (kb_142) ((15 : Int32)) ([(.int 117), (.int 110), (.int 107), (.int 110), (.int 111), (.int 119), (.int 110), (.int 32), (.int 102), (.int 108), (.int 97), (.int 103), (.int 32), (.int 45), (.int (cb.toInt8.toInt32))]) h143 OK143 P143_2 P142_0 P143_3 P142_1 P143_4 P142_2 P143_5 P142_3 (Ne.symm ne_s_142_w_143) SCS hcs ⟨by decide, by decide, rfl, (own_jf (own_ic (own_ic own_in)))⟩) e144 P143_2 (by rw [hml]; rfl) (hb hby at_119) (argsL := [(.ref s_142)]) (rest := []) (lenOf pd32 rfl) rfl rfl (W := 0) (Nat.le_refl _) (by decide) ?_
        intro v145 T145 L145 X145 hQ145
        obtain ⟨rfl, N145q, e145⟩ := hQ145
        have N145 := Fr.app N144 N145q
        exact Go.retIH X145 hx hS hKd hs0 hZ (own_EW hw) hC hret hlk (by simp) rfl (hb hby at_122) e145 (by decide) (by decide) ⟨rfl, N145⟩
      · refine Go.icmpYes X140 hx (hb hby at_62) (Jvm.Free.XT.ii_ne_t hc141) (q := 69) (by decide) (by decide) ?_
        refine Go.iconst X140 hx (hb hby at_69) (r := (0 : Int32)) rfl (q := 70) rfl ?_
        refine Go.istore X140 hx (hb hby at_70) (l' := #[.val (.int pn), .val (.int pa), .val (.int pb), .val (.int pd), .val (.int pf), .val (.int 2), .val (.int cz), .val (.int cb), .val (.int cd), .val (.ref s_140), .val (.int 0), .unset, .unset, .unset]) rfl (q := 72) rfl ?_
        refine Go.iload X140 hx (hb hby at_72) rfl (q := 74) rfl ?_
        refine Go.iload X140 hx (hb hby at_74) rfl (q := 76) rfl ?_
        refine Go.iload X140 hx (hb hby at_76) rfl (q := 78) rfl ?_
        refine Go.iload X140 hx (hb hby at_78) rfl (q := 80) rfl ?_
        refine Go.iload X140 hx (hb hby at_80) rfl (q := 82) rfl ?_
        refine Go.callS X140 hx hZ hown (wd26 hw) (wd27 hw) (wd2 hw) (wd28 hw) (by decide) (cex02 l Z a0 hw cz cb cd cs h140 OK140 SCS hcs (own_b8n h_cz) hk136 (own_b8x h_cz) hk137) e140 (by rw [hml]; rfl) (hb hby at_82) (argsL := [(.int 0), (.int 2), (.int cz), (.int cb), (.int cd)]) (rest := []) (lenOf pd30 rfl) rfl rfl (W := 0) (Nat.le_refl _) (by decide) ?_
        intro v146 T146 L146 X146 hQ146
        obtain ⟨h146, e146⟩ : ∃ z, T146.heap = z := ⟨_, rfl⟩
        rw [e146] at hQ146
        obtain ⟨s_146, b_146, kb_146, rfl, N146q, K146, fr146_s, fr146_b, P146_0, P146_1, P146_2, P146_3⟩ := hQ146
        have N146 := Fr.app N140 N146q
        have ne_s_140_s_146 : s_140 ≠ s_146 := ne_new P140_0.lt fr146_s
        have ne_b_140_s_146 : b_140 ≠ s_146 := ne_new P140_3.lt fr146_s
        have g_s_146 : Z.heap.size ≤ s_146 := Nat.le_trans OK140.1 fr146_s
        have ne_s_140_b_146 : s_140 ≠ b_146 := ne_new P140_0.lt fr146_b
        have ne_b_140_b_146 : b_140 ≠ b_146 := ne_new P140_3.lt fr146_b
        have g_b_146 : Z.heap.size ≤ b_146 := Nat.le_trans OK140.1 fr146_b
        replace hKd := Nat.le_trans hKd K146.1
        have hSk : ∀ xq ∈ ([] : List Addr), Safe Z consts_1 ss.vm h140 xq := all0
        replace hC := hC.trans (CHr.keep K146 hSk hC.1)
        replace P140_0 := P140_0.keep K146
        replace P140_1 := P140_1.keep K146 nin0
        replace P140_2 := P140_2.keep K146 nin0
        replace P140_3 := P140_3.keep K146 nin0
        have OK146 := ext_keep OK140 K146 all0
        refine Go.astore X146 hx (hb hby at_85) rfl (l' := #[.val (.int pn), .val (.int pa), .val (.int pb), .val (.int pd), .val (.int pf), .val (.int 2), .val (.int cz), .val (.int cb), .val (.int cd), .val (.ref s_140), .val (.int 0), .val (.ref s_146), .unset, .unset]) rfl (q := 87) rfl ?_
        refine Go.aload X146 hx (hb hby at_87) rfl rfl (q := 89) rfl ?_
        have hk147 : ¬ ((cz.toInt8.toInt32) = (45 : Int32)) := own_b8q h_cz hc141
        refine Go.callSK X146 hx hZ hown hS hKd (own_EW hw) hC hKn (wd40 hw) (wd41 hw) (wd42 hw) (wd43 hw) (by decide) (cung l Z a0 hw s_140 b_140 (kb_140) cs au an ((2 : Int32)) ((cz.toInt8.toInt32)) ([(.int (cz.toInt8.toInt32)), (.int (cb.toInt8.toInt32))]) ([(.int 117), (.int 110), (.int 101), (.int 120), (.int 112), (.int 101), (.int 99), (.int 116), (.int 101), (.int 100), (.int 32), (.int 97), (.int 114), (.int 103), (.int 117), (.int 109), (.int 101), (.int 110), (.int 116), (.int 32), (.int (cz.toInt8.toInt32)), (.int (cb.toInt8.toInt32)), (.int 0)]) ([(.int 117), (.int 110), (.int 101), (.int 120), (.int 112), (.int 101), (.int 99), (.int 116), (.int 101), (.int 100), (.int 32), (.int 97), (.int 114), (.int 103), (.int 117), (.int 109), (.int 101), (.int 110), (.int 116), (.int 32), (.int (cz.toInt8.toInt32)), (.int (cb.toInt8.toInt32))]) h146 OK146 P140_0 P140_1 P140_2 P140_3 SCS SU SN hcs hlt (by decide) (by decide) rfl hk147 ⟨⟨by decide, by decide, by decide⟩, by decide, by decide, rfl, Nat.le_of_ble_eq_true rfl, rfl⟩ (by decide) ⟨⟨by decide, by decide⟩, by decide, rfl⟩) e146 (by rw [hml]; rfl) (hb hby at_89) (argsL := [(.ref s_140)]) (rest := []) (lenOf pd31 rfl) rfl rfl (W := 0) (Nat.le_refl _) (by decide) ?_
        intro v148 T148 L148 k148 X148 hS hKd hZ hown hR148 hQ148
        obtain ⟨h148, e148⟩ : ∃ z, T148.heap = z := ⟨_, rfl⟩
        rw [e148] at hQ148 hKd hR148
        obtain ⟨x_148, w_148, u_148, ku_148, rfl, N148q, K148, fr148_w, fr148_u, P148_0, P148_1, P148_2, P148_3, P148_4, P148_5⟩ := hQ148
        have N148 := Fr.app N146 N148q
        replace hC := hC.trans hR148
        have ne_s_140_w_148 : s_140 ≠ w_148 := ne_new P140_0.lt fr148_w
        have ne_b_140_w_148 : b_140 ≠ w_148 := ne_new P140_3.lt fr148_w
        have ne_s_146_w_148 : s_146 ≠ w_148 := ne_new P146_0.lt fr148_w
        have ne_b_146_w_148 : b_146 ≠ w_148 := ne_new P146_3.lt fr148_w
        have g_w_148 : Z.heap.size ≤ w_148 := Nat.le_trans OK146.1 fr148_w
        have ne_s_140_u_148 : s_140 ≠ u_148 := ne_new P140_0.lt fr148_u
        have ne_b_140_u_148 : b_140 ≠ u_148 := ne_new P140_3.lt fr148_u
        have ne_s_146_u_148 : s_146 ≠ u_148 := ne_new P146_0.lt fr148_u
        have ne_b_146_u_148 : b_146 ≠ u_148 := ne_new P146_3.lt fr148_u
        have g_u_148 : Z.heap.size ≤ u_148 := Nat.le_trans OK146.1 fr148_u
        replace P140_0 := P140_0.keep K148
        replace P140_1 := P140_1.keep K148 nin0
        replace P140_2 := P140_2.keep K148 nin0
        replace P140_3 := P140_3.keep K148 nin0
        replace P146_0 := P146_0.keep K148
        replace P146_1 := P146_1.keep K148 nin0
        replace P146_2 := P146_2.keep K148 nin0
        replace P146_3 := P146_3.keep K148 nin0
        have OK148 := ext_keep OK146 K148 all0
        refine Go.astore X148 hx (hb hby at_92) rfl (l' := #[.val (.int pn), .val (.int pa), .val (.int pb), .val (.int pd), .val (.int pf), .val (.int 2), .val (.int cz), .val (.int cb), .val (.int cd), .val (.ref s_140), .val (.int 0), .val (.ref s_146), .val (.ref x_148), .unset]) rfl (q := 94) rfl ?_
        refine Go.aload X148 hx (hb hby at_94) rfl rfl (q := 96) rfl ?_
        refine Go.ifnonnullYes X148 hx (hb hby at_96) (q := 101) (by decide) (by decide) ?_
        refine Go.aload X148 hx (hb hby at_101) rfl rfl (q := 103) rfl ?_
        refine Go.virtUp X148 hx hZ hown (wd238 hw) (wd239 hw) (wd240 hw) (wd242 hw) (wd241 hw) (wd199 hw) (wd243 hw) (by decide) (cgm l Z a0 hw x_148 w_148 h148 OK148 P148_1) e148 P148_0 (by rw [hml]; rfl) (hb hby at_103) (argsL := []) (rest := []) (lenOf pd27 rfl) rfl rfl (W := 0) (Nat.le_refl _) (by decide) ?_
        intro v149 T149 L149 X149 hQ149
        obtain ⟨rfl, N149q, e149⟩ := hQ149
        have N149 := Fr.app N148 N149q
        refine Go.astore X149 hx (hb hby at_106) rfl (l' := #[.val (.int pn), .val (.int pa), .val (.int pb), .val (.int pd), .val (.int pf), .val (.int 2), .val (.int cz), .val (.int cb), .val (.int cd), .val (.ref s_140), .val (.int 0), .val (.ref s_146), .val (.ref x_148), .val (.ref w_148)]) rfl (q := 108) rfl ?_
        refine Go.aload X149 hx (hb hby at_108) rfl rfl (q := 110) rfl ?_
        refine Go.ifnonnullYes X149 hx (hb hby at_110) (q := 115) (by decide) (by decide) ?_
        refine Go.aload X149 hx (hb hby at_115) rfl rfl (q := 117) rfl ?_
        refine Go.aload X149 hx (hb hby at_117) rfl rfl (q := 119) rfl ?_
        refine Go.virt X149 hx hZ hown (wd244 hw) (wd245 hw) (notFace_of_selects (args := #[]) (mvT hZ (wd247 hw))) (wd247 hw) (wd246 hw) (wd6 hw) (wd248 hw) (by decide) (cse l Z a0 hw w_148 s_146 cs u_148 b_146 (ku_148) (kb_146) ((22 : Int32)) ([(.int 117), (.int 110), (.int 101), (.int 120), (.int 112), (.int 101), (.int 99), (.int 116), (.int 101), (.int 100), (.int 32), (.int 97), (.int 114), (.int 103), (.int 117), (.int 109), (.int 101), (.int 110), (.int 116), (.int 32), (.int (cz.toInt8.toInt32)), (.int (cb.toInt8.toInt32))]) h148 OK148 P148_2 P146_0 P148_3 P146_1 P148_4 P146_2 P148_5 P146_3 (Ne.symm ne_s_146_w_148) SCS hcs ⟨by decide, by decide, rfl, (own_ja (own_ic (own_ic own_in)))⟩) e149 P148_2 (by rw [hml]; rfl) (hb hby at_119) (argsL := [(.ref s_146)]) (rest := []) (lenOf pd32 rfl) rfl rfl (W := 0) (Nat.le_refl _) (by decide) ?_
        intro v150 T150 L150 X150 hQ150
        obtain ⟨rfl, N150q, e150⟩ := hQ150
        have N150 := Fr.app N149 N150q
        exact Go.retIH X150 hx hS hKd hs0 hZ (own_EW hw) hC hret hlk (by simp) rfl (hb hby at_122) e150 (by decide) (by decide) ⟨rfl, N150⟩
    refine Go.iload X0 hx (hb hby at_13) rfl (q := 15) rfl ?_
    refine Go.iconst X0 hx (hb hby at_15) (r := (1 : Int32)) rfl (q := 16) rfl ?_
    refine Go.iand X0 hx (hb hby at_16) rfl (q := 17) rfl ?_
    by_cases hc151 : (pf &&& (1 : Int32)) = (0 : Int32)
    · refine Go.ifYes X0 hx (hb hby at_17) (Jvm.Free.XT.i0_eq_t hc151) (q := 24) (by decide) (by decide) ?_
      exact J24_135 _ h_ca
    · refine Go.ifNo X0 hx (hb hby at_17) (Jvm.Free.XT.i0_eq_f hc151) (q := 20) rfl ?_
      refine Go.bipush X0 hx (hb hby at_20) (r := (45 : Int32)) rfl (q := 22) rfl ?_
      refine Go.istore X0 hx (hb hby at_22) (l' := #[.val (.int pn), .val (.int pa), .val (.int pb), .val (.int pd), .val (.int pf), .val (.int 2), .val (.int 45), .unset, .unset, .unset, .unset, .unset, .unset, .unset]) rfl (q := 24) rfl ?_
      exact J24_135 _ own_b845
  · show Go pp ee below _ (s₁.setTop (mkF mm 3 #[.val (.int pn), .val (.int pa), .val (.int pb), .val (.int pd), .val (.int pf), .unset, .unset, .unset, .unset, .unset, .unset, .unset, .unset, .unset] [(.int 3)]))
    refine Go.istore X0 hx (hb hby at_3) (l' := #[.val (.int pn), .val (.int pa), .val (.int pb), .val (.int pd), .val (.int pf), .val (.int 3), .unset, .unset, .unset, .unset, .unset, .unset, .unset, .unset]) rfl (q := 5) rfl ?_
    refine Go.iloadN X0 hx (hb hby at_5) rfl (q := 6) rfl ?_
    refine Go.sipush X0 hx (hb hby at_6) (r := (255 : Int32)) rfl (q := 9) rfl ?_
    refine Go.iand X0 hx (hb hby at_9) rfl (q := 10) rfl ?_
    refine Go.i2c X0 hx (hb hby at_10) rfl (q := 11) rfl ?_
    have h_ca := own_b8 pa
    generalize ((pa &&& (255 : Int32)).toUInt32.toUInt16.toUInt32.toInt32) = ca at h_ca ⊢
    have hk152 : nar .char ca = ca := own_b8n h_ca
    have hk153 : ¬ ((255 : Int32) < ca) := own_b8x h_ca
    show Go pp ee below _ (s₁.setTop (mkF mm 11 #[.val (.int pn), .val (.int pa), .val (.int pb), .val (.int pd), .val (.int pf), .val (.int 3), .unset, .unset, .unset, .unset, .unset, .unset, .unset, .unset] [(.int ca)]))
    refine Go.istore X0 hx (hb hby at_11) (l' := #[.val (.int pn), .val (.int pa), .val (.int pb), .val (.int pd), .val (.int pf), .val (.int 3), .val (.int ca), .unset, .unset, .unset, .unset, .unset, .unset, .unset]) rfl (q := 13) rfl ?_
    have J24_154 : ∀ (cz : Int32), B8 cz → Go pp ee below (KKH Z consts_1 ss (Q_law0 Z pn pa pb pd pf cs au an h0) room_1.cells room_1.slots) (s₁.setTop (mkF mm 24 #[.val (.int pn), .val (.int pa), .val (.int pb), .val (.int pd), .val (.int pf), .val (.int 3), .val (.int cz), .unset, .unset, .unset, .unset, .unset, .unset, .unset] [])) := by
      intro cz h_cz
      refine Go.iloadN X0 hx (hb hby at_24) rfl (q := 25) rfl ?_
      refine Go.sipush X0 hx (hb hby at_25) (r := (255 : Int32)) rfl (q := 28) rfl ?_
      refine Go.iand X0 hx (hb hby at_28) rfl (q := 29) rfl ?_
      refine Go.i2c X0 hx (hb hby at_29) rfl (q := 30) rfl ?_
      have h_cb := own_b8 pb
      generalize ((pb &&& (255 : Int32)).toUInt32.toUInt16.toUInt32.toInt32) = cb at h_cb ⊢
      have hk155 : nar .char cb = cb := own_b8n h_cb
      have hk156 : ¬ ((255 : Int32) < cb) := own_b8x h_cb
      show Go pp ee below _ (s₁.setTop (mkF mm 30 #[.val (.int pn), .val (.int pa), .val (.int pb), .val (.int pd), .val (.int pf), .val (.int 3), .val (.int cz), .unset, .unset, .unset, .unset, .unset, .unset, .unset] [(.int cb)]))
      refine Go.istore X0 hx (hb hby at_30) (l' := #[.val (.int pn), .val (.int pa), .val (.int pb), .val (.int pd), .val (.int pf), .val (.int 3), .val (.int cz), .val (.int cb), .unset, .unset, .unset, .unset, .unset, .unset]) rfl (q := 32) rfl ?_
      refine Go.iloadN X0 hx (hb hby at_32) rfl (q := 33) rfl ?_
      refine Go.sipush X0 hx (hb hby at_33) (r := (255 : Int32)) rfl (q := 36) rfl ?_
      refine Go.iand X0 hx (hb hby at_36) rfl (q := 37) rfl ?_
      refine Go.i2c X0 hx (hb hby at_37) rfl (q := 38) rfl ?_
      have h_cd := own_b8 pd
      generalize ((pd &&& (255 : Int32)).toUInt32.toUInt16.toUInt32.toInt32) = cd at h_cd ⊢
      have hk157 : nar .char cd = cd := own_b8n h_cd
      have hk158 : ¬ ((255 : Int32) < cd) := own_b8x h_cd
      show Go pp ee below _ (s₁.setTop (mkF mm 38 #[.val (.int pn), .val (.int pa), .val (.int pb), .val (.int pd), .val (.int pf), .val (.int 3), .val (.int cz), .val (.int cb), .unset, .unset, .unset, .unset, .unset, .unset] [(.int cd)]))
      refine Go.istore X0 hx (hb hby at_38) (l' := #[.val (.int pn), .val (.int pa), .val (.int pb), .val (.int pd), .val (.int pf), .val (.int 3), .val (.int cz), .val (.int cb), .val (.int cd), .unset, .unset, .unset, .unset, .unset]) rfl (q := 40) rfl ?_
      refine Go.iload X0 hx (hb hby at_40) rfl (q := 42) rfl ?_
      refine Go.iload X0 hx (hb hby at_42) rfl (q := 44) rfl ?_
      refine Go.iload X0 hx (hb hby at_44) rfl (q := 46) rfl ?_
      refine Go.iload X0 hx (hb hby at_46) rfl (q := 48) rfl ?_
      refine Go.callS X0 hx hZ hown (wd0 hw) (wd1 hw) (wd2 hw) (wd3 hw) (by decide) (cmw3 l Z a0 hw cz cb cd cs h0 O0 SCS hcs (own_b8n h_cz) hk155 hk157 (own_b8x h_cz) hk156 hk158) e0 (by rw [hml]; rfl) (hb hby at_48) (argsL := [(.int 3), (.int cz), (.int cb), (.int cd)]) (rest := []) (lenOf pd29 rfl) rfl rfl (W := 0) (Nat.le_refl _) (by decide) ?_
      intro v159 T159 L159 X159 hQ159
      obtain ⟨h159, e159⟩ : ∃ z, T159.heap = z := ⟨_, rfl⟩
      rw [e159] at hQ159
      obtain ⟨s_159, b_159, kb_159, rfl, N159q, K159, fr159_s, fr159_b, P159_0, P159_1, P159_2, P159_3⟩ := hQ159
      have N159 := Fr.app N0 N159q
      have g_s_159 : Z.heap.size ≤ s_159 := Nat.le_trans O0.1 fr159_s
      have g_b_159 : Z.heap.size ≤ b_159 := Nat.le_trans O0.1 fr159_b
      replace hKd := Nat.le_trans hKd K159.1
      have hSk : ∀ xq ∈ ([] : List Addr), Safe Z consts_1 ss.vm h0 xq := all0
      replace hC := hC.trans (CHr.keep K159 hSk hC.1)
      have OK159 := ext_keep O0 K159 all0
      refine Go.astore X159 hx (hb hby at_51) rfl (l' := #[.val (.int pn), .val (.int pa), .val (.int pb), .val (.int pd), .val (.int pf), .val (.int 3), .val (.int cz), .val (.int cb), .val (.int cd), .val (.ref s_159), .unset, .unset, .unset, .unset]) rfl (q := 53) rfl ?_
      refine Go.iload X159 hx (hb hby at_53) rfl (q := 55) rfl ?_
      refine Go.ifNo X159 hx (hb hby at_55) (by decide) (q := 58) rfl ?_
      refine Go.iload X159 hx (hb hby at_58) rfl (q := 60) rfl ?_
      refine Go.bipush X159 hx (hb hby at_60) (r := (45 : Int32)) rfl (q := 62) rfl ?_
      by_cases hc160 : cz = (45 : Int32)
      · subst hc160
        refine Go.icmpNo X159 hx (hb hby at_62) (by decide) (q := 65) rfl ?_
        refine Go.iconst X159 hx (hb hby at_65) (r := (1 : Int32)) rfl (q := 66) rfl ?_
        refine Go.goto X159 hx (hb hby at_66) (q := 70) (by decide) (by decide) ?_
        refine Go.istore X159 hx (hb hby at_70) (l' := #[.val (.int pn), .val (.int pa), .val (.int pb), .val (.int pd), .val (.int pf), .val (.int 3), .val (.int 45), .val (.int cb), .val (.int cd), .val (.ref s_159), .val (.int 1), .unset, .unset, .unset]) rfl (q := 72) rfl ?_
        refine Go.iload X159 hx (hb hby at_72) rfl (q := 74) rfl ?_
        refine Go.iload X159 hx (hb hby at_74) rfl (q := 76) rfl ?_
        refine Go.iload X159 hx (hb hby at_76) rfl (q := 78) rfl ?_
        refine Go.iload X159 hx (hb hby at_78) rfl (q := 80) rfl ?_
        refine Go.iload X159 hx (hb hby at_80) rfl (q := 82) rfl ?_
        refine Go.callS X159 hx hZ hown (wd26 hw) (wd27 hw) (wd2 hw) (wd28 hw) (by decide) (cex13 l Z a0 hw ((45 : Int32)) cb cd cs h159 OK159 SCS hcs (own_b8n h_cz) hk155 hk157 (own_b8x h_cz) hk156 hk158) e159 (by rw [hml]; rfl) (hb hby at_82) (argsL := [(.int 1), (.int 3), (.int 45), (.int cb), (.int cd)]) (rest := []) (lenOf pd30 rfl) rfl rfl (W := 0) (Nat.le_refl _) (by decide) ?_
        intro v161 T161 L161 X161 hQ161
        obtain ⟨h161, e161⟩ : ∃ z, T161.heap = z := ⟨_, rfl⟩
        rw [e161] at hQ161
        obtain ⟨s_161, b_161, kb_161, rfl, N161q, K161, fr161_s, fr161_b, P161_0, P161_1, P161_2, P161_3⟩ := hQ161
        have N161 := Fr.app N159 N161q
        have ne_s_159_s_161 : s_159 ≠ s_161 := ne_new P159_0.lt fr161_s
        have ne_b_159_s_161 : b_159 ≠ s_161 := ne_new P159_3.lt fr161_s
        have g_s_161 : Z.heap.size ≤ s_161 := Nat.le_trans OK159.1 fr161_s
        have ne_s_159_b_161 : s_159 ≠ b_161 := ne_new P159_0.lt fr161_b
        have ne_b_159_b_161 : b_159 ≠ b_161 := ne_new P159_3.lt fr161_b
        have g_b_161 : Z.heap.size ≤ b_161 := Nat.le_trans OK159.1 fr161_b
        replace hKd := Nat.le_trans hKd K161.1
        have hSk : ∀ xq ∈ ([] : List Addr), Safe Z consts_1 ss.vm h159 xq := all0
        replace hC := hC.trans (CHr.keep K161 hSk hC.1)
        replace P159_0 := P159_0.keep K161
        replace P159_1 := P159_1.keep K161 nin0
        replace P159_2 := P159_2.keep K161 nin0
        replace P159_3 := P159_3.keep K161 nin0
        have OK161 := ext_keep OK159 K161 all0
        refine Go.astore X161 hx (hb hby at_85) rfl (l' := #[.val (.int pn), .val (.int pa), .val (.int pb), .val (.int pd), .val (.int pf), .val (.int 3), .val (.int 45), .val (.int cb), .val (.int cd), .val (.ref s_159), .val (.int 1), .val (.ref s_161), .unset, .unset]) rfl (q := 87) rfl ?_
        refine Go.aload X161 hx (hb hby at_87) rfl rfl (q := 89) rfl ?_
        refine Go.callSK X161 hx hZ hown hS hKd (own_EW hw) hC hKn (wd40 hw) (wd41 hw) (wd42 hw) (wd43 hw) (by decide) (cunF l Z a0 hw s_159 b_159 (kb_159) cs au an ((45 : Int32)) ([(.int 45), (.int (cb.toInt8.toInt32)), (.int (cd.toInt8.toInt32))]) ([(.int 117), (.int 110), (.int 107), (.int 110), (.int 111), (.int 119), (.int 110), (.int 32), (.int 102), (.int 108), (.int 97), (.int 103), (.int 32), (.int 45), (.int (cb.toInt8.toInt32)), (.int (cd.toInt8.toInt32))]) h161 OK161 P159_0 P159_1 P159_2 P159_3 SCS SU SN hcs hlt (by decide) (by decide) rfl rfl ⟨⟨by decide, by decide, by decide⟩, by decide, by decide, rfl, Nat.le_of_ble_eq_true rfl, rfl⟩ (by decide)) e161 (by rw [hml]; rfl) (hb hby at_89) (argsL := [(.ref s_159)]) (rest := []) (lenOf pd31 rfl) rfl rfl (W := 0) (Nat.le_refl _) (by decide) ?_
        intro v162 T162 L162 k162 X162 hS hKd hZ hown hR162 hQ162
        obtain ⟨h162, e162⟩ : ∃ z, T162.heap = z := ⟨_, rfl⟩
        rw [e162] at hQ162 hKd hR162
        obtain ⟨x_162, w_162, u_162, ku_162, rfl, N162q, K162, fr162_w, fr162_u, P162_0, P162_1, P162_2, P162_3, P162_4, P162_5⟩ := hQ162
        have N162 := Fr.app N161 N162q
        replace hC := hC.trans hR162
        have ne_s_159_w_162 : s_159 ≠ w_162 := ne_new P159_0.lt fr162_w
        have ne_b_159_w_162 : b_159 ≠ w_162 := ne_new P159_3.lt fr162_w
        have ne_s_161_w_162 : s_161 ≠ w_162 := ne_new P161_0.lt fr162_w
        have ne_b_161_w_162 : b_161 ≠ w_162 := ne_new P161_3.lt fr162_w
        have g_w_162 : Z.heap.size ≤ w_162 := Nat.le_trans OK161.1 fr162_w
        have ne_s_159_u_162 : s_159 ≠ u_162 := ne_new P159_0.lt fr162_u
        have ne_b_159_u_162 : b_159 ≠ u_162 := ne_new P159_3.lt fr162_u
        have ne_s_161_u_162 : s_161 ≠ u_162 := ne_new P161_0.lt fr162_u
        have ne_b_161_u_162 : b_161 ≠ u_162 := ne_new P161_3.lt fr162_u
        have g_u_162 : Z.heap.size ≤ u_162 := Nat.le_trans OK161.1 fr162_u
        replace P159_0 := P159_0.keep K162
        replace P159_1 := P159_1.keep K162 nin0
        replace P159_2 := P159_2.keep K162 nin0
        replace P159_3 := P159_3.keep K162 nin0
        replace P161_0 := P161_0.keep K162
        replace P161_1 := P161_1.keep K162 nin0
        replace P161_2 := P161_2.keep K162 nin0
        replace P161_3 := P161_3.keep K162 nin0
        have OK162 := ext_keep OK161 K162 all0
        refine Go.astore X162 hx (hb hby at_92) rfl (l' := #[.val (.int pn), .val (.int pa), .val (.int pb), .val (.int pd), .val (.int pf), .val (.int 3), .val (.int 45), .val (.int cb), .val (.int cd), .val (.ref s_159), .val (.int 1), .val (.ref s_161), .val (.ref x_162), .unset]) rfl (q := 94) rfl ?_
        refine Go.aload X162 hx (hb hby at_94) rfl rfl (q := 96) rfl ?_
        refine Go.ifnonnullYes X162 hx (hb hby at_96) (q := 101) (by decide) (by decide) ?_
        refine Go.aload X162 hx (hb hby at_101) rfl rfl (q := 103) rfl ?_
        refine Go.virtUp X162 hx hZ hown (wd238 hw) (wd239 hw) (wd240 hw) (wd242 hw) (wd241 hw) (wd199 hw) (wd243 hw) (by decide) (cgm l Z a0 hw x_162 w_162 h162 OK162 P162_1) e162 P162_0 (by rw [hml]; rfl) (hb hby at_103) (argsL := []) (rest := []) (lenOf pd27 rfl) rfl rfl (W := 0) (Nat.le_refl _) (by decide) ?_
        intro v163 T163 L163 X163 hQ163
        obtain ⟨rfl, N163q, e163⟩ := hQ163
        have N163 := Fr.app N162 N163q
        refine Go.astore X163 hx (hb hby at_106) rfl (l' := #[.val (.int pn), .val (.int pa), .val (.int pb), .val (.int pd), .val (.int pf), .val (.int 3), .val (.int 45), .val (.int cb), .val (.int cd), .val (.ref s_159), .val (.int 1), .val (.ref s_161), .val (.ref x_162), .val (.ref w_162)]) rfl (q := 108) rfl ?_
        refine Go.aload X163 hx (hb hby at_108) rfl rfl (q := 110) rfl ?_
        refine Go.ifnonnullYes X163 hx (hb hby at_110) (q := 115) (by decide) (by decide) ?_
        refine Go.aload X163 hx (hb hby at_115) rfl rfl (q := 117) rfl ?_
        refine Go.aload X163 hx (hb hby at_117) rfl rfl (q := 119) rfl ?_
        refine Go.virt X163 hx hZ hown (wd244 hw) (wd245 hw) (notFace_of_selects (args := #[]) (mvT hZ (wd247 hw))) (wd247 hw) (wd246 hw) (wd6 hw) (wd248 hw) (by decide) (cse l Z a0 hw w_162 s_161 cs u_162 b_161 (ku_162) (kb_161) ((16 : Int32)) ([(.int 117), (.int 110), (.int 107), (.int 110), (.int 111), (.int 119), (.int 110), (.int 32), (.int 102), (.int 108), (.int 97), (.int 103), (.int 32), (.int 45), (.int (cb.toInt8.toInt32)), (.int (cd.toInt8.toInt32))]) h162 OK162 P162_2 P161_0 P162_3 P161_1 P162_4 P161_2 P162_5 P161_3 (Ne.symm ne_s_161_w_162) SCS hcs ⟨by decide, by decide, rfl, (own_jf (own_ic (own_ic (own_ic own_in))))⟩) e163 P162_2 (by rw [hml]; rfl) (hb hby at_119) (argsL := [(.ref s_161)]) (rest := []) (lenOf pd32 rfl) rfl rfl (W := 0) (Nat.le_refl _) (by decide) ?_
        intro v164 T164 L164 X164 hQ164
        obtain ⟨rfl, N164q, e164⟩ := hQ164
        have N164 := Fr.app N163 N164q
        exact Go.retIH X164 hx hS hKd hs0 hZ (own_EW hw) hC hret hlk (by simp) rfl (hb hby at_122) e164 (by decide) (by decide) ⟨rfl, N164⟩
      · refine Go.icmpYes X159 hx (hb hby at_62) (Jvm.Free.XT.ii_ne_t hc160) (q := 69) (by decide) (by decide) ?_
        refine Go.iconst X159 hx (hb hby at_69) (r := (0 : Int32)) rfl (q := 70) rfl ?_
        refine Go.istore X159 hx (hb hby at_70) (l' := #[.val (.int pn), .val (.int pa), .val (.int pb), .val (.int pd), .val (.int pf), .val (.int 3), .val (.int cz), .val (.int cb), .val (.int cd), .val (.ref s_159), .val (.int 0), .unset, .unset, .unset]) rfl (q := 72) rfl ?_
        refine Go.iload X159 hx (hb hby at_72) rfl (q := 74) rfl ?_
        refine Go.iload X159 hx (hb hby at_74) rfl (q := 76) rfl ?_
        refine Go.iload X159 hx (hb hby at_76) rfl (q := 78) rfl ?_
        refine Go.iload X159 hx (hb hby at_78) rfl (q := 80) rfl ?_
        refine Go.iload X159 hx (hb hby at_80) rfl (q := 82) rfl ?_
        refine Go.callS X159 hx hZ hown (wd26 hw) (wd27 hw) (wd2 hw) (wd28 hw) (by decide) (cex03 l Z a0 hw cz cb cd cs h159 OK159 SCS hcs (own_b8n h_cz) hk155 hk157 (own_b8x h_cz) hk156 hk158) e159 (by rw [hml]; rfl) (hb hby at_82) (argsL := [(.int 0), (.int 3), (.int cz), (.int cb), (.int cd)]) (rest := []) (lenOf pd30 rfl) rfl rfl (W := 0) (Nat.le_refl _) (by decide) ?_
        intro v165 T165 L165 X165 hQ165
        obtain ⟨h165, e165⟩ : ∃ z, T165.heap = z := ⟨_, rfl⟩
        rw [e165] at hQ165
        obtain ⟨s_165, b_165, kb_165, rfl, N165q, K165, fr165_s, fr165_b, P165_0, P165_1, P165_2, P165_3⟩ := hQ165
        have N165 := Fr.app N159 N165q
        have ne_s_159_s_165 : s_159 ≠ s_165 := ne_new P159_0.lt fr165_s
        have ne_b_159_s_165 : b_159 ≠ s_165 := ne_new P159_3.lt fr165_s
        have g_s_165 : Z.heap.size ≤ s_165 := Nat.le_trans OK159.1 fr165_s
        have ne_s_159_b_165 : s_159 ≠ b_165 := ne_new P159_0.lt fr165_b
        have ne_b_159_b_165 : b_159 ≠ b_165 := ne_new P159_3.lt fr165_b
        have g_b_165 : Z.heap.size ≤ b_165 := Nat.le_trans OK159.1 fr165_b
        replace hKd := Nat.le_trans hKd K165.1
        have hSk : ∀ xq ∈ ([] : List Addr), Safe Z consts_1 ss.vm h159 xq := all0
        replace hC := hC.trans (CHr.keep K165 hSk hC.1)
        replace P159_0 := P159_0.keep K165
        replace P159_1 := P159_1.keep K165 nin0
        replace P159_2 := P159_2.keep K165 nin0
        replace P159_3 := P159_3.keep K165 nin0
        have OK165 := ext_keep OK159 K165 all0
        refine Go.astore X165 hx (hb hby at_85) rfl (l' := #[.val (.int pn), .val (.int pa), .val (.int pb), .val (.int pd), .val (.int pf), .val (.int 3), .val (.int cz), .val (.int cb), .val (.int cd), .val (.ref s_159), .val (.int 0), .val (.ref s_165), .unset, .unset]) rfl (q := 87) rfl ?_
        refine Go.aload X165 hx (hb hby at_87) rfl rfl (q := 89) rfl ?_
        have hk166 : ¬ ((cz.toInt8.toInt32) = (45 : Int32)) := own_b8q h_cz hc160
        refine Go.callSK X165 hx hZ hown hS hKd (own_EW hw) hC hKn (wd40 hw) (wd41 hw) (wd42 hw) (wd43 hw) (by decide) (cung l Z a0 hw s_159 b_159 (kb_159) cs au an ((3 : Int32)) ((cz.toInt8.toInt32)) ([(.int (cz.toInt8.toInt32)), (.int (cb.toInt8.toInt32)), (.int (cd.toInt8.toInt32))]) ([(.int 117), (.int 110), (.int 101), (.int 120), (.int 112), (.int 101), (.int 99), (.int 116), (.int 101), (.int 100), (.int 32), (.int 97), (.int 114), (.int 103), (.int 117), (.int 109), (.int 101), (.int 110), (.int 116), (.int 32), (.int (cz.toInt8.toInt32)), (.int (cb.toInt8.toInt32)), (.int (cd.toInt8.toInt32))]) ([(.int 117), (.int 110), (.int 101), (.int 120), (.int 112), (.int 101), (.int 99), (.int 116), (.int 101), (.int 100), (.int 32), (.int 97), (.int 114), (.int 103), (.int 117), (.int 109), (.int 101), (.int 110), (.int 116), (.int 32), (.int (cz.toInt8.toInt32)), (.int (cb.toInt8.toInt32)), (.int (cd.toInt8.toInt32))]) h165 OK165 P159_0 P159_1 P159_2 P159_3 SCS SU SN hcs hlt (by decide) (by decide) rfl hk166 ⟨⟨by decide, by decide, by decide⟩, by decide, by decide, rfl, Nat.le_of_ble_eq_true rfl, rfl⟩ (by decide) ⟨⟨by decide, by decide⟩, by decide, rfl⟩) e165 (by rw [hml]; rfl) (hb hby at_89) (argsL := [(.ref s_159)]) (rest := []) (lenOf pd31 rfl) rfl rfl (W := 0) (Nat.le_refl _) (by decide) ?_
        intro v167 T167 L167 k167 X167 hS hKd hZ hown hR167 hQ167
        obtain ⟨h167, e167⟩ : ∃ z, T167.heap = z := ⟨_, rfl⟩
        rw [e167] at hQ167 hKd hR167
        obtain ⟨x_167, w_167, u_167, ku_167, rfl, N167q, K167, fr167_w, fr167_u, P167_0, P167_1, P167_2, P167_3, P167_4, P167_5⟩ := hQ167
        have N167 := Fr.app N165 N167q
        replace hC := hC.trans hR167
        have ne_s_159_w_167 : s_159 ≠ w_167 := ne_new P159_0.lt fr167_w
        have ne_b_159_w_167 : b_159 ≠ w_167 := ne_new P159_3.lt fr167_w
        have ne_s_165_w_167 : s_165 ≠ w_167 := ne_new P165_0.lt fr167_w
        have ne_b_165_w_167 : b_165 ≠ w_167 := ne_new P165_3.lt fr167_w
        have g_w_167 : Z.heap.size ≤ w_167 := Nat.le_trans OK165.1 fr167_w
        have ne_s_159_u_167 : s_159 ≠ u_167 := ne_new P159_0.lt fr167_u
        have ne_b_159_u_167 : b_159 ≠ u_167 := ne_new P159_3.lt fr167_u
        have ne_s_165_u_167 : s_165 ≠ u_167 := ne_new P165_0.lt fr167_u
        have ne_b_165_u_167 : b_165 ≠ u_167 := ne_new P165_3.lt fr167_u
        have g_u_167 : Z.heap.size ≤ u_167 := Nat.le_trans OK165.1 fr167_u
        replace P159_0 := P159_0.keep K167
        replace P159_1 := P159_1.keep K167 nin0
        replace P159_2 := P159_2.keep K167 nin0
        replace P159_3 := P159_3.keep K167 nin0
        replace P165_0 := P165_0.keep K167
        replace P165_1 := P165_1.keep K167 nin0
        replace P165_2 := P165_2.keep K167 nin0
        replace P165_3 := P165_3.keep K167 nin0
        have OK167 := ext_keep OK165 K167 all0
        refine Go.astore X167 hx (hb hby at_92) rfl (l' := #[.val (.int pn), .val (.int pa), .val (.int pb), .val (.int pd), .val (.int pf), .val (.int 3), .val (.int cz), .val (.int cb), .val (.int cd), .val (.ref s_159), .val (.int 0), .val (.ref s_165), .val (.ref x_167), .unset]) rfl (q := 94) rfl ?_
        refine Go.aload X167 hx (hb hby at_94) rfl rfl (q := 96) rfl ?_
        refine Go.ifnonnullYes X167 hx (hb hby at_96) (q := 101) (by decide) (by decide) ?_
        refine Go.aload X167 hx (hb hby at_101) rfl rfl (q := 103) rfl ?_
        refine Go.virtUp X167 hx hZ hown (wd238 hw) (wd239 hw) (wd240 hw) (wd242 hw) (wd241 hw) (wd199 hw) (wd243 hw) (by decide) (cgm l Z a0 hw x_167 w_167 h167 OK167 P167_1) e167 P167_0 (by rw [hml]; rfl) (hb hby at_103) (argsL := []) (rest := []) (lenOf pd27 rfl) rfl rfl (W := 0) (Nat.le_refl _) (by decide) ?_
        intro v168 T168 L168 X168 hQ168
        obtain ⟨rfl, N168q, e168⟩ := hQ168
        have N168 := Fr.app N167 N168q
        refine Go.astore X168 hx (hb hby at_106) rfl (l' := #[.val (.int pn), .val (.int pa), .val (.int pb), .val (.int pd), .val (.int pf), .val (.int 3), .val (.int cz), .val (.int cb), .val (.int cd), .val (.ref s_159), .val (.int 0), .val (.ref s_165), .val (.ref x_167), .val (.ref w_167)]) rfl (q := 108) rfl ?_
        refine Go.aload X168 hx (hb hby at_108) rfl rfl (q := 110) rfl ?_
        refine Go.ifnonnullYes X168 hx (hb hby at_110) (q := 115) (by decide) (by decide) ?_
        refine Go.aload X168 hx (hb hby at_115) rfl rfl (q := 117) rfl ?_
        refine Go.aload X168 hx (hb hby at_117) rfl rfl (q := 119) rfl ?_
        refine Go.virt X168 hx hZ hown (wd244 hw) (wd245 hw) (notFace_of_selects (args := #[]) (mvT hZ (wd247 hw))) (wd247 hw) (wd246 hw) (wd6 hw) (wd248 hw) (by decide) (cse l Z a0 hw w_167 s_165 cs u_167 b_165 (ku_167) (kb_165) ((23 : Int32)) ([(.int 117), (.int 110), (.int 101), (.int 120), (.int 112), (.int 101), (.int 99), (.int 116), (.int 101), (.int 100), (.int 32), (.int 97), (.int 114), (.int 103), (.int 117), (.int 109), (.int 101), (.int 110), (.int 116), (.int 32), (.int (cz.toInt8.toInt32)), (.int (cb.toInt8.toInt32)), (.int (cd.toInt8.toInt32))]) h167 OK167 P167_2 P165_0 P167_3 P165_1 P167_4 P165_2 P167_5 P165_3 (Ne.symm ne_s_165_w_167) SCS hcs ⟨by decide, by decide, rfl, (own_ja (own_ic (own_ic (own_ic own_in))))⟩) e168 P167_2 (by rw [hml]; rfl) (hb hby at_119) (argsL := [(.ref s_165)]) (rest := []) (lenOf pd32 rfl) rfl rfl (W := 0) (Nat.le_refl _) (by decide) ?_
        intro v169 T169 L169 X169 hQ169
        obtain ⟨rfl, N169q, e169⟩ := hQ169
        have N169 := Fr.app N168 N169q
        exact Go.retIH X169 hx hS hKd hs0 hZ (own_EW hw) hC hret hlk (by simp) rfl (hb hby at_122) e169 (by decide) (by decide) ⟨rfl, N169⟩
    refine Go.iload X0 hx (hb hby at_13) rfl (q := 15) rfl ?_
    refine Go.iconst X0 hx (hb hby at_15) (r := (1 : Int32)) rfl (q := 16) rfl ?_
    refine Go.iand X0 hx (hb hby at_16) rfl (q := 17) rfl ?_
    by_cases hc170 : (pf &&& (1 : Int32)) = (0 : Int32)
    · refine Go.ifYes X0 hx (hb hby at_17) (Jvm.Free.XT.i0_eq_t hc170) (q := 24) (by decide) (by decide) ?_
      exact J24_154 _ h_ca
    · refine Go.ifNo X0 hx (hb hby at_17) (Jvm.Free.XT.i0_eq_f hc170) (q := 20) rfl ?_
      refine Go.bipush X0 hx (hb hby at_20) (r := (45 : Int32)) rfl (q := 22) rfl ?_
      refine Go.istore X0 hx (hb hby at_22) (l' := #[.val (.int pn), .val (.int pa), .val (.int pb), .val (.int pd), .val (.int pf), .val (.int 3), .val (.int 45), .unset, .unset, .unset, .unset, .unset, .unset, .unset]) rfl (q := 24) rfl ?_
      exact J24_154 _ own_b845
theorem comes_1 {Post : Tables → Env → Array Value → State → Outcome → State → Prop} (hpost : ∀ tb e args s v u, (limb_1_1.after args s (.returned v) u = true ∧ limb_1_2.after args s (.returned v) u = true ∧ True) → ReturnedEndW s (.returned v) u (Jvm.fieldLocs frame_1_writes args s ++ Jvm.arrayLocs frame_1_arrays args s ++ Jvm.staticLocs frame_1_statics s) 48 9984 → Post tb e args s (.returned v) u) :
    ArmFor flags0 classFile x code maxLocals ret World_1 tables_1 room_1 Calls_1 rest_1 Pre_1 Post := by
  intro l hfl _ _ p e ha hc hk s m args below hf hA hF happ hP
  obtain ⟨hcalls, hrest, hpre⟩ := hP
  obtain ⟨-, -, -, hnamed, -, -, -, hat⟩ := (Spec.applies_iff hf).mp happ
  obtain ⟨hg, hn⟩ := and_e (Cond.before_iff.mp (show (Jvm.Cond.and given_1 narrow_1).before args s = true from hpre))
  obtain ⟨ga1, gb1⟩ := and_e hg
  obtain ⟨ga2, gb2⟩ := and_e gb1
  obtain ⟨ga3, gb3⟩ := and_e gb2
  obtain ⟨ga4, gb4⟩ := and_e gb3
  obtain ⟨ga5, gb5⟩ := and_e gb4
  obtain ⟨w0, w1, w2, w3, w4, rfl⟩ : ∃ w0 w1 w2 w3 w4 : Value, args = #[w0, w1, w2, w3, w4] := by
    have hs : args.size = 5 := by simpa [Cond.value, given_1] using ga1
    obtain ⟨L⟩ := args
    match L, hs with
    | [w0, w1, w2, w3, w4], _ => exact ⟨w0, w1, w2, w3, w4, rfl⟩
  have hw := fun d (hd : d ∈ tables_1) => atoms_spec (ws := Jvm.Cond.code x code maxLocals ret :: tables_1) hat d (List.mem_cons_of_mem _ hd)
  have hfit : Fit s := fun {y c} hc i hi => by
    obtain ⟨ha, rfl⟩ := Array.getElem?_eq_some_iff.mp hc
    have q := List.all_eq_true.mp ((Array.all_eq_true_iff_forall_mem.mp hF) _ (Array.getElem_mem ha)) i (List.mem_range.mpr hi)
    simpa [Array.getElem?_eq_getElem hi] using q
  obtain ⟨hsets, hown0⟩ := atoms_of _ (rest_1_c_eq ▸ (show rest_1_c.before _ s = true from hrest))
  have hr0 := Cond.before_iff.mp hown0
  obtain ⟨i0, ei0⟩ := is_v ga2
  obtain rfl : w0 = (.int i0) := Option.some.inj ei0
  obtain ⟨i1, ei1⟩ := is_v ga3
  obtain rfl : w1 = (.int i1) := Option.some.inj ei1
  obtain ⟨i2, ei2⟩ := is_v ga4
  obtain rfl : w2 = (.int i2) := Option.some.inj ei2
  obtain ⟨i3, ei3⟩ := is_v ga5
  obtain rfl : w3 = (.int i3) := Option.some.inj ei3
  obtain ⟨i4, ei4⟩ := is_v gb5
  obtain rfl : w4 = (.int i4) := Option.some.inj ei4
  obtain ⟨cs, ecs, SCS⟩ := sta_int (hsets _ (List.mem_of_getElem? (i := 0) rfl)) (hsets _ (List.mem_of_getElem? (i := 1) rfl))
  have hcs := ne_int ecs (hsets _ (List.mem_of_getElem? (i := 2) rfl))
  have hcw : Jvm.Lit.compactW.before #[.int i0, .int i1, .int i2, .int i3, .int i4] s = true := (hsets _ (List.mem_of_getElem? (i := 2) rfl))
  have hlt : l.stackTraces = true := by rw [Launch.stackTraces, hfl]; decide +kernel
  obtain ⟨au, eau⟩ := arr_v (Cond.before_iff.mp (hsets _ (List.mem_of_getElem? (i := 17) rfl)))
  have SU := Sta.start eau (Or.inl (hsets _ (List.mem_of_getElem? (i := 15) rfl)))
  obtain ⟨an, ean⟩ := exa_v (Cond.before_iff.mp (hsets _ (List.mem_of_getElem? (i := 22) rfl)))
  have SN := Sta.start ean (Or.inl (hsets _ (List.mem_of_getElem? (i := 20) rfl)))
  have hCH := CHv.start (own_EW hw) (show ∀ p ∈ consts_1, Jvm.Lit.constHeld s p.1 p.2 from hcalls.2.2.1) hcw (wd19 hw) (wd5 hw)
  obtain ⟨n, o, h1, h2, h3, _, L, rfl, ⟨rfl, N⟩, -, hq⟩ := law0 l s _ hw i0 i1 i2 i3 i4 cs au an s.heap ⟨Nat.le_refl _, fun _ _ q => q⟩ SCS SU SN hcs hlt p e ha hc hk s m _ below hf ((Spec.applies_iff_loose hf).mp happ).1 ⟨rfl, State.Warmed39.refl s, rfl, hCH⟩ ⟨hcalls.2.1, hcalls.1⟩
  refine ⟨n, _, h1, h2, h3, hpost _ _ _ _ _ _ ⟨Cond.after_iff.mpr rfl, Cond.after_iff.mpr (eq_i res_at (Term.int_eval (1)) rfl), trivial⟩ ⟨hq.1, hq.2.1, hq.2.2.1, (hq.2.2.2.sift fun y hy => Or.inr (N y hy)).mono (by decide) (by decide)⟩⟩
theorem main_1_1 : Claimed_1_1 := comes_1 fun _ _ _ _ _ _ h hF => ⟨h.1, hF⟩
theorem main_1_2 : Claimed_1_2 := comes_1 fun _ _ _ _ _ _ h hF => ⟨h.2.1, hF⟩
end Jvm.Pilot.@@N@@
namespace Jvm.Pilot.@@N@@
open Jvm Jvm.ClassFile Sem Op Lib Jvm.Free Jvm.Stand Jvm.Pilot.@@N@@.Jvm.D
/-! MADE BY PROGRAM (witnessworld.py) out of the Statement's table words and the real class files: 42 classes; the members and pool entries that the words name. The judged class is class 1, her method 1. -/
namespace start1
open Jvm.ClassFile
def u (s : String) : CpInfo := .utf8 (stringToUtf16 s)
/-- a pool by its gaps: so many unusable entries, then the entry; so many at the end -/
def gap : Nat → List CpInfo → List CpInfo
  | 0, r => r
  | n + 1, r => .unusable :: gap n r
def poolList (es : List (Nat × CpInfo)) (last : Nat) : List CpInfo := es.foldr (fun e r => gap e.1 (e.2 :: r)) (gap last [])
def pool (es : List (Nat × CpInfo)) (last : Nat) : Array CpInfo := ⟨poolList es last⟩
def fileOf (pool : Array CpInfo) (this : Nat) (attrs : Array Attribute := #[]) (ms : Array MethodInfo := #[]) (fl : Nat := 33) (sup : Nat := 0) (ifs : Array Nat := #[]) (fds : Array FieldInfo := #[]) : ClassFile where
  minorVersion := 0
  majorVersion := 65
  constantPool := pool
  accessFlags := fl
  thisClass := this
  superClass := sup
  interfaces := ifs
  fields := fds
  methods := ms
  attributes := attrs
def plain (name : String) (sup : Option ClassId) : Class where
  name := name
  kind := .ordinary
  loader := none
  accessFlags := 33
  super := sup
  interfaces := #[]
  cf := none
  fields := #[]
  methods := #[]
  instanceTypes := #[]
  staticTypes := #[]
  resolved := #[]
  callSites := []
  init := .initialized
  statics := none
  mirror := none

def pool0 : Array CpInfo := pool [(5, u "<init>"), (0, u "()V"), (1, .class_ 10), (1, u "java/lang/Object"), (85, u "clone"), (0, u "()Ljava/lang/Object;")] 26

def k0c0 : Code := { maxStack := 0, maxLocals := 1, code := object_method_1_code, exceptionTable := #[], attributes := #[] }
def k0m0 : Method := { name := "<init>", desc := "()V", sig := { parameters := [], returnType := none }, accessFlags := 1, code := some k0c0 }
def k0m1 : Method := { name := "clone", desc := "()Ljava/lang/Object;", sig := { parameters := [], returnType := some (.object "java/lang/Object") }, accessFlags := 260, code := none }
/-- java/lang/Object -/
def k0 : Class := { plain "java/lang/Object" none with
  accessFlags := 33
  interfaces := #[]
  cf := some (fileOf pool0 8 #[] #[{ accessFlags := 1, nameIndex := 5, descriptorIndex := 6, attributes := #[] }, { accessFlags := 260, nameIndex := 96, descriptorIndex := 97, attributes := #[] }] 33 0 #[] #[])
  fields := #[]
  methods := #[k0m0, k0m1]
  instanceTypes := #[]
  staticTypes := #[]
  resolved := Array.replicate 124 none
  statics := none }

def pool1 : Array CpInfo := pool [(2, .class_ 4), (1, u "java/lang/Object"), (0, u "<init>"), (0, u "()V"), (0, .methodref 8 9), (0, .class_ 10), (0, .nameAndType 11 12), (0, u "com/example/loopd/loopd/FlagsUnexpectedPinLaw"), (0, u "makeWord"), (0, u "(ICCC)Ljava/lang/String;"), (0, .methodref 8 14), (0, .nameAndType 15 16), (0, u "expected"), (0, u "(ZICCC)Ljava/lang/String;"), (0, .methodref 18 19), (0, .class_ 20), (0, .nameAndType 21 22), (0, u "com/example/loopd/loopd/Flags"), (0, u "unexpected"), (0, u "(Ljava/lang/String;)Lcom/example/loopd/loopd/UsageException;"), (0, .methodref 24 25), (0, .class_ 26), (0, .nameAndType 27 28), (0, u "com/example/loopd/loopd/UsageException"), (0, u "getMessage"), (0, u "()Ljava/lang/String;"), (0, .methodref 30 31), (0, .class_ 32), (0, .nameAndType 33 34), (0, u "java/lang/String"), (0, u "equals"), (0, u "(Ljava/lang/Object;)Z"), (0, .methodref 30 36), (0, .nameAndType 5 37), (0, u "([C)V"), (2, u "law"), (0, u "(IIIII)Z")] 3

def k1m0 : Method := { name := "<init>", desc := "()V", sig := { parameters := [], returnType := none }, accessFlags := 2, code := none }
def k1c1 : Code := { maxStack := 5, maxLocals := 14, code := code, exceptionTable := #[], attributes := #[] }
def k1m1 : Method := { name := "law", desc := "(IIIII)Z", sig := { parameters := [.int, .int, .int, .int, .int], returnType := some .boolean }, accessFlags := 9, code := some k1c1 }
def k1c2 : Code := { maxStack := 6, maxLocals := 4, code := method_3_code, exceptionTable := #[], attributes := #[] }
def k1m2 : Method := { name := "makeWord", desc := "(ICCC)Ljava/lang/String;", sig := { parameters := [.int, .char, .char, .char], returnType := some (.object "java/lang/String") }, accessFlags := 10, code := some k1c2 }
def k1c3 : Code := { maxStack := 6, maxLocals := 5, code := method_4_code, exceptionTable := #[], attributes := #[] }
def k1m3 : Method := { name := "expected", desc := "(ZICCC)Ljava/lang/String;", sig := { parameters := [.boolean, .int, .char, .char, .char], returnType := some (.object "java/lang/String") }, accessFlags := 10, code := some k1c3 }
/-- com/example/loopd/loopd/FlagsUnexpectedPinLaw -/
def k1 : Class := { plain "com/example/loopd/loopd/FlagsUnexpectedPinLaw" (some 0) with
  accessFlags := 49
  interfaces := #[]
  cf := some (fileOf pool1 8 #[] #[{ accessFlags := 2, nameIndex := 5, descriptorIndex := 6, attributes := #[] }, { accessFlags := 9, nameIndex := 40, descriptorIndex := 41, attributes := #[] }, { accessFlags := 10, nameIndex := 11, descriptorIndex := 12, attributes := #[] }, { accessFlags := 10, nameIndex := 15, descriptorIndex := 16, attributes := #[] }] 49 2 #[] #[])
  fields := #[]
  methods := #[k1m0, k1m1, k1m2, k1m3]
  instanceTypes := #[]
  staticTypes := #[]
  resolved := Array.replicate 45 none
  statics := none }

def pool2 : Array CpInfo := pool [(1, .class_ 2), (0, u "java/io/Serializable"), (0, .class_ 4), (0, u "java/lang/Object")] 2

/-- java/io/Serializable -/
def k2 : Class := { plain "java/io/Serializable" (some 0) with
  accessFlags := 1537
  interfaces := #[]
  cf := some (fileOf pool2 1 #[] #[] 1537 3 #[] #[])
  fields := #[]
  methods := #[]
  instanceTypes := #[]
  staticTypes := #[]
  resolved := Array.replicate 7 none
  statics := none }

def pool3 : Array CpInfo := pool [(1, .class_ 2), (0, u "java/lang/Comparable"), (0, .class_ 4), (0, u "java/lang/Object")] 7

/-- java/lang/Comparable -/
def k3 : Class := { plain "java/lang/Comparable" (some 0) with
  accessFlags := 1537
  interfaces := #[]
  cf := some (fileOf pool3 1 #[] #[] 1537 3 #[] #[])
  fields := #[]
  methods := #[]
  instanceTypes := #[]
  staticTypes := #[]
  resolved := Array.replicate 12 none
  statics := none }

def pool4 : Array CpInfo := pool [(2, .class_ 4), (1, u "java/lang/CharSequence"), (42, .class_ 48), (0, u "java/lang/CharSequence$1CodePointIterator"), (10, .class_ 60), (0, u "java/lang/CharSequence$1CharIterator"), (5, .class_ 67), (0, u "java/lang/Object")] 63

/-- java/lang/CharSequence -/
def k4 : Class := { plain "java/lang/CharSequence" (some 0) with
  accessFlags := 1537
  interfaces := #[]
  cf := some (fileOf pool4 2 #[.nestMembers #[47, 59]] #[] 1537 66 #[] #[])
  fields := #[]
  methods := #[]
  instanceTypes := #[]
  staticTypes := #[]
  resolved := Array.replicate 131 none
  statics := none }

def pool5 : Array CpInfo := pool [(1, .class_ 2), (0, u "java/lang/constant/Constable"), (0, .class_ 4), (0, u "java/lang/Object")] 6

/-- java/lang/constant/Constable -/
def k5 : Class := { plain "java/lang/constant/Constable" (some 0) with
  accessFlags := 1537
  interfaces := #[]
  cf := some (fileOf pool5 1 #[] #[] 1537 3 #[] #[])
  fields := #[]
  methods := #[]
  instanceTypes := #[]
  staticTypes := #[]
  resolved := Array.replicate 11 none
  statics := none }

def pool6 : Array CpInfo := pool [(1, .class_ 2), (0, u "java/lang/constant/ConstantDesc"), (0, .class_ 4), (0, u "java/lang/Object")] 32

/-- java/lang/constant/ConstantDesc -/
def k6 : Class := { plain "java/lang/constant/ConstantDesc" (some 0) with
  accessFlags := 1537
  interfaces := #[]
  cf := some (fileOf pool6 1 #[] #[] 1537 3 #[] #[])
  fields := #[]
  methods := #[]
  instanceTypes := #[]
  staticTypes := #[]
  resolved := Array.replicate 37 none
  statics := none }

def pool7 : Array CpInfo := pool [(1, .methodref 2 3), (0, .class_ 4), (0, .nameAndType 5 6), (0, u "java/lang/Object"), (0, u "<init>"), (0, u "()V"), (0, .string 8), (0, u ""), (0, .fieldref 10 11), (0, .class_ 12), (0, .nameAndType 13 14), (0, u "java/lang/String"), (0, u "value"), (0, u "[B"), (0, .fieldref 10 16), (0, .nameAndType 17 18), (0, u "coder"), (0, u "B"), (2, u "hash"), (0, u "I"), (2, u "hashIsZero"), (0, u "Z"), (0, .methodref 10 28), (0, .nameAndType 5 29), (0, u "([CIILjava/lang/Void;)V"), (8, .fieldref 10 39), (0, .nameAndType 40 26), (0, u "COMPACT_STRINGS"), (1, .class_ 44), (1, u "java/lang/StringUTF16"), (0, u "compress"), (1, .methodref 42 48), (0, .nameAndType 49 50), (0, u "coderFromArrayLen"), (0, u "([BI)B"), (3, .methodref 55 56), (0, .class_ 57), (0, .nameAndType 58 59), (0, u "java/util/Arrays"), (0, u "copyOfRange"), (0, u "([BII)[B"), (47, .class_ 109), (1, u "java/lang/StringLatin1"), (32, u "()Z"), (34, .methodref 42 178), (0, .nameAndType 45 179), (0, u "([CII)[B"), (13, .class_ 195), (1, u "java/lang/System"), (16, .methodref 193 213), (0, .nameAndType 214 215), (0, u "arraycopy"), (0, u "(Ljava/lang/Object;ILjava/lang/Object;II)V"), (118, u "()I"), (0, .methodref 10 336), (0, .nameAndType 17 337), (0, u "()B"), (2, u "()[B"), (35, u "([BI[BII)I"), (112, .methodref 10 490), (0, .nameAndType 5 491), (0, u "(Ljava/lang/AbstractStringBuilder;Ljava/lang/Void;)V"), (1, .nameAndType 494 142), (0, u "isLatin1"), (10, .methodref 10 506), (0, .nameAndType 507 334), (0, u "length"), (24, u "getBytes"), (8, .methodref 107 542), (0, .nameAndType 543 544), (0, u "equals"), (0, u "([B[B)Z"), (4, .methodref 550 506), (0, .class_ 551), (0, u "java/lang/AbstractStringBuilder"), (0, .methodref 550 553), (0, .nameAndType 554 340), (0, u "getValue"), (4, .class_ 561), (1, u "jdk/internal/util/ArraysSupport"), (0, u "mismatch"), (10, u "(Ljava/lang/Object;)Z"), (1, .class_ 576), (0, u "java/lang/CharSequence"), (22, u "CASE_INSENSITIVE_ORDER"), (0, u "Ljava/util/Comparator;"), (6, .methodref 559 608), (0, .nameAndType 562 376), (15, .methodref 10 625), (0, .nameAndType 626 627), (0, u "startsWith"), (0, u "(Ljava/lang/String;I)Z"), (193, u "([BIB)V"), (188, u "([C)V"), (36, .methodref 550 493), (53, u "serialPersistentFields"), (0, u "[Ljava/io/ObjectStreamField;"), (0, .class_ 1104), (0, u "java/lang/String$CaseInsensitiveComparator"), (1, .class_ 1107), (0, u "java/io/Serializable"), (0, .class_ 1109), (0, u "java/lang/Comparable"), (0, .class_ 1111), (0, u "java/lang/constant/Constable"), (0, .class_ 1113), (0, u "java/lang/constant/ConstantDesc"), (2, u "serialVersionUID"), (0, u "J"), (3, u "REPL"), (0, u "C"), (2, u "LATIN1"), (1, u "UTF16"), (105, u "(Ljava/lang/StringBuilder;)V"), (23, u "(Ljava/lang/String;)Z")] 193

def k7m0 : Method := { name := "<init>", desc := "()V", sig := { parameters := [], returnType := none }, accessFlags := 1, code := none }
def k7c1 : Code := { maxStack := 5, maxLocals := 2, code := jdk_42_method_3_code, exceptionTable := #[], attributes := #[] }
def k7m1 : Method := { name := "<init>", desc := "([C)V", sig := { parameters := [(.array .char)], returnType := none }, accessFlags := 1, code := some k7c1 }
def k7c2 : Code := { maxStack := 3, maxLocals := 2, code := jdk_42_method_53_code, exceptionTable := #[], attributes := #[] }
def k7m2 : Method := { name := "<init>", desc := "(Ljava/lang/StringBuilder;)V", sig := { parameters := [(.object "java/lang/StringBuilder")], returnType := none }, accessFlags := 1, code := some k7c2 }
def k7c3 : Code := { maxStack := 2, maxLocals := 1, code := jdk_42_method_54_code, exceptionTable := #[], attributes := #[] }
def k7m3 : Method := { name := "length", desc := "()I", sig := { parameters := [], returnType := some .int }, accessFlags := 1, code := some k7c3 }
def k7c4 : Code := { maxStack := 2, maxLocals := 3, code := jdk_42_method_66_code, exceptionTable := #[], attributes := #[] }
def k7m4 : Method := { name := "equals", desc := "(Ljava/lang/Object;)Z", sig := { parameters := [(.object "java/lang/Object")], returnType := some .boolean }, accessFlags := 1, code := some k7c4 }
def k7c5 : Code := { maxStack := 5, maxLocals := 8, code := jdk_42_method_75_code, exceptionTable := #[], attributes := #[] }
def k7m5 : Method := { name := "startsWith", desc := "(Ljava/lang/String;I)Z", sig := { parameters := [(.object "java/lang/String"), .int], returnType := some .boolean }, accessFlags := 1, code := some k7c5 }
def k7c6 : Code := { maxStack := 3, maxLocals := 2, code := jdk_42_method_76_code, exceptionTable := #[], attributes := #[] }
def k7m6 : Method := { name := "startsWith", desc := "(Ljava/lang/String;)Z", sig := { parameters := [(.object "java/lang/String")], returnType := some .boolean }, accessFlags := 1, code := some k7c6 }
def k7c7 : Code := { maxStack := 5, maxLocals := 4, code := jdk_42_method_147_code, exceptionTable := #[], attributes := #[] }
def k7m7 : Method := { name := "getBytes", desc := "([BIB)V", sig := { parameters := [(.array .byte), .int, .byte], returnType := none }, accessFlags := 0, code := some k7c7 }
def k7c8 : Code := { maxStack := 4, maxLocals := 6, code := jdk_42_method_149_code, exceptionTable := #[], attributes := #[] }
def k7m8 : Method := { name := "<init>", desc := "([CIILjava/lang/Void;)V", sig := { parameters := [(.array .char), .int, .int, (.object "java/lang/Void")], returnType := none }, accessFlags := 2, code := some k7c8 }
def k7c9 : Code := { maxStack := 5, maxLocals := 5, code := jdk_42_method_150_code, exceptionTable := #[], attributes := #[] }
def k7m9 : Method := { name := "<init>", desc := "(Ljava/lang/AbstractStringBuilder;Ljava/lang/Void;)V", sig := { parameters := [(.object "java/lang/AbstractStringBuilder"), (.object "java/lang/Void")], returnType := none }, accessFlags := 0, code := some k7c9 }
def k7c10 : Code := { maxStack := 1, maxLocals := 1, code := jdk_42_method_152_code, exceptionTable := #[], attributes := #[] }
def k7m10 : Method := { name := "coder", desc := "()B", sig := { parameters := [], returnType := some .byte }, accessFlags := 0, code := some k7c10 }
/-- java/lang/String -/
def k7 : Class := { plain "java/lang/String" (some 0) with
  accessFlags := 49
  interfaces := #[2, 3, 4, 5, 6]
  cf := some (fileOf pool7 10 #[.nestMembers #[1103]] #[{ accessFlags := 1, nameIndex := 5, descriptorIndex := 6, attributes := #[] }, { accessFlags := 1, nameIndex := 5, descriptorIndex := 1010, attributes := #[] }, { accessFlags := 1, nameIndex := 5, descriptorIndex := 1233, attributes := #[] }, { accessFlags := 1, nameIndex := 507, descriptorIndex := 334, attributes := #[] }, { accessFlags := 1, nameIndex := 543, descriptorIndex := 573, attributes := #[] }, { accessFlags := 1, nameIndex := 626, descriptorIndex := 627, attributes := #[] }, { accessFlags := 1, nameIndex := 626, descriptorIndex := 1257, attributes := #[] }, { accessFlags := 0, nameIndex := 532, descriptorIndex := 821, attributes := #[] }, { accessFlags := 2, nameIndex := 5, descriptorIndex := 29, attributes := #[] }, { accessFlags := 0, nameIndex := 5, descriptorIndex := 491, attributes := #[] }, { accessFlags := 0, nameIndex := 17, descriptorIndex := 337, attributes := #[] }] 49 2 #[1106, 1108, 575, 1110, 1112] #[{ accessFlags := 18, nameIndex := 13, descriptorIndex := 14, attributes := #[] }, { accessFlags := 18, nameIndex := 17, descriptorIndex := 18, attributes := #[] }, { accessFlags := 2, nameIndex := 21, descriptorIndex := 22, attributes := #[] }, { accessFlags := 2, nameIndex := 25, descriptorIndex := 26, attributes := #[] }, { accessFlags := 26, nameIndex := 1116, descriptorIndex := 1117, attributes := #[] }, { accessFlags := 24, nameIndex := 40, descriptorIndex := 26, attributes := #[] }, { accessFlags := 26, nameIndex := 1101, descriptorIndex := 1102, attributes := #[] }, { accessFlags := 26, nameIndex := 1121, descriptorIndex := 1122, attributes := #[] }, { accessFlags := 25, nameIndex := 599, descriptorIndex := 600, attributes := #[] }, { accessFlags := 24, nameIndex := 1125, descriptorIndex := 18, attributes := #[] }, { accessFlags := 24, nameIndex := 1127, descriptorIndex := 18, attributes := #[] }])
  fields := #[{ name := "value", type := (.array .byte), accessFlags := 18, slot := 0, constantValue := 0 }, { name := "coder", type := .byte, accessFlags := 18, slot := 1, constantValue := 0 }, { name := "hash", type := .int, accessFlags := 2, slot := 2, constantValue := 0 }, { name := "hashIsZero", type := .boolean, accessFlags := 2, slot := 3, constantValue := 0 }, { name := "serialVersionUID", type := .long, accessFlags := 26, slot := 0, constantValue := 0 }, { name := "COMPACT_STRINGS", type := .boolean, accessFlags := 24, slot := 1, constantValue := 0 }, { name := "serialPersistentFields", type := (.array (.object "java/io/ObjectStreamField")), accessFlags := 26, slot := 2, constantValue := 0 }, { name := "REPL", type := .char, accessFlags := 26, slot := 3, constantValue := 0 }, { name := "CASE_INSENSITIVE_ORDER", type := (.object "java/util/Comparator"), accessFlags := 25, slot := 4, constantValue := 0 }, { name := "LATIN1", type := .byte, accessFlags := 24, slot := 5, constantValue := 0 }, { name := "UTF16", type := .byte, accessFlags := 24, slot := 6, constantValue := 0 }]
  methods := #[k7m0, k7m1, k7m2, k7m3, k7m4, k7m5, k7m6, k7m7, k7m8, k7m9, k7m10]
  instanceTypes := #[(.array .byte), .byte, .int, .boolean]
  staticTypes := #[.long, .boolean, (.array (.object "java/io/ObjectStreamField")), .char, (.object "java/util/Comparator"), .byte, .byte]
  resolved := Array.replicate 1451 none
  statics := some 0 }

def pool8 : Array CpInfo := pool [(6, .class_ 8), (1, u "java/lang/Object"), (0, u "<init>"), (0, u "()V"), (1, .class_ 14), (1, u "java/lang/StringUTF16"), (31, u "$assertionsDisabled"), (0, u "Z"), (13, u "HI_BYTE_SHIFT"), (0, u "I"), (2, u "LO_BYTE_SHIFT"), (49, .methodref 12 116), (0, .nameAndType 117 118), (0, u "compress"), (0, u "([CI[BII)I"), (3, u "([CII)[B"), (138, u "coderFromArrayLen"), (0, u "([BI)B"), (106, .class_ 371), (1, u "java/lang/StringUTF16$LinesSpliterator"), (58, u "MAX_LENGTH"), (196, .class_ 628), (0, u "java/lang/StringUTF16$CodePointsSpliterator"), (0, .class_ 630), (0, u "java/lang/StringUTF16$CharsSpliterator")] 4

def k8m0 : Method := { name := "<init>", desc := "()V", sig := { parameters := [], returnType := none }, accessFlags := 0, code := none }
def k8c1 : Code := { maxStack := 2, maxLocals := 2, code := jdk_52_method_15_code, exceptionTable := #[], attributes := #[] }
def k8m1 : Method := { name := "coderFromArrayLen", desc := "([BI)B", sig := { parameters := [(.array .byte), .int], returnType := some .byte }, accessFlags := 8, code := some k8c1 }
def k8c2 : Code := { maxStack := 5, maxLocals := 6, code := jdk_52_method_16_code, exceptionTable := #[], attributes := #[] }
def k8m2 : Method := { name := "compress", desc := "([CII)[B", sig := { parameters := [(.array .char), .int, .int], returnType := some (.array .byte) }, accessFlags := 9, code := some k8c2 }
def k8c3 : Code := { maxStack := 3, maxLocals := 7, code := jdk_52_method_21_code, exceptionTable := #[], attributes := #[] }
def k8m3 : Method := { name := "compress", desc := "([CI[BII)I", sig := { parameters := [(.array .char), .int, (.array .byte), .int, .int], returnType := some .int }, accessFlags := 9, code := some k8c3 }
/-- java/lang/StringUTF16 -/
def k8 : Class := { plain "java/lang/StringUTF16" (some 0) with
  accessFlags := 48
  interfaces := #[]
  cf := some (fileOf pool8 12 #[.nestMembers #[627, 629, 369]] #[{ accessFlags := 0, nameIndex := 9, descriptorIndex := 10, attributes := #[] }, { accessFlags := 8, nameIndex := 261, descriptorIndex := 262, attributes := #[] }, { accessFlags := 9, nameIndex := 117, descriptorIndex := 122, attributes := #[] }, { accessFlags := 9, nameIndex := 117, descriptorIndex := 118, attributes := #[] }] 48 6 #[] #[{ accessFlags := 26, nameIndex := 61, descriptorIndex := 62, attributes := #[] }, { accessFlags := 26, nameIndex := 65, descriptorIndex := 62, attributes := #[] }, { accessFlags := 24, nameIndex := 430, descriptorIndex := 62, attributes := #[] }, { accessFlags := 4120, nameIndex := 46, descriptorIndex := 47, attributes := #[] }])
  fields := #[{ name := "HI_BYTE_SHIFT", type := .int, accessFlags := 26, slot := 0, constantValue := 0 }, { name := "LO_BYTE_SHIFT", type := .int, accessFlags := 26, slot := 1, constantValue := 0 }, { name := "MAX_LENGTH", type := .int, accessFlags := 24, slot := 2, constantValue := 0 }, { name := "$assertionsDisabled", type := .boolean, accessFlags := 4120, slot := 3, constantValue := 0 }]
  methods := #[k8m0, k8m1, k8m2, k8m3]
  instanceTypes := #[]
  staticTypes := #[.int, .int, .int, .boolean]
  resolved := Array.replicate 635 none
  statics := none }

def pool9 : Array CpInfo := pool [(2, .class_ 4), (0, .nameAndType 5 6), (0, u "java/lang/Object"), (0, u "<init>"), (0, u "()V"), (6, .class_ 14), (0, u "com/example/loopd/loopd/UsageException"), (0, .class_ 16), (0, u "java/lang/StringBuilder"), (0, .methodref 15 3), (0, .methodref 15 19), (0, .nameAndType 20 21), (0, u "append"), (0, u "(Ljava/lang/String;)Ljava/lang/StringBuilder;"), (2, .methodref 15 25), (0, .nameAndType 26 27), (0, u "toString"), (0, u "()Ljava/lang/String;"), (0, .methodref 13 29), (0, .nameAndType 5 30), (0, u "(Ljava/lang/String;)V"), (4, .class_ 36), (0, u "java/lang/String"), (9, .class_ 48), (1, u "com/example/loopd/loopd/Flags"), (2, .string 52), (0, u "-"), (0, .methodref 35 54), (0, .nameAndType 55 56), (0, u "startsWith"), (0, u "(Ljava/lang/String;)Z"), (0, .string 58), (0, u "unknown flag "), (0, .string 60), (0, u "unexpected argument "), (21, u "unexpected"), (0, u "(Ljava/lang/String;)Lcom/example/loopd/loopd/UsageException;")] 2

def k9m0 : Method := { name := "<init>", desc := "()V", sig := { parameters := [], returnType := none }, accessFlags := 2, code := none }
def k9c1 : Code := { maxStack := 4, maxLocals := 1, code := prog_1_method_4_code, exceptionTable := #[], attributes := #[] }
def k9m1 : Method := { name := "unexpected", desc := "(Ljava/lang/String;)Lcom/example/loopd/loopd/UsageException;", sig := { parameters := [(.object "java/lang/String")], returnType := some (.object "com/example/loopd/loopd/UsageException") }, accessFlags := 8, code := some k9c1 }
/-- com/example/loopd/loopd/Flags -/
def k9 : Class := { plain "com/example/loopd/loopd/Flags" (some 0) with
  accessFlags := 48
  interfaces := #[]
  cf := some (fileOf pool9 46 #[] #[{ accessFlags := 2, nameIndex := 5, descriptorIndex := 6, attributes := #[] }, { accessFlags := 8, nameIndex := 82, descriptorIndex := 83, attributes := #[] }] 48 2 #[] #[])
  fields := #[]
  methods := #[k9m0, k9m1]
  instanceTypes := #[]
  staticTypes := #[]
  resolved := Array.replicate 86 none
  statics := none }

def pool10 : Array CpInfo := pool [(1, .methodref 2 3), (0, .class_ 4), (0, .nameAndType 5 6), (0, u "java/lang/Object"), (0, u "<init>"), (0, u "()V"), (0, .fieldref 8 9), (0, .class_ 10), (0, .nameAndType 11 12), (0, u "java/lang/Throwable"), (0, u "cause"), (0, u "Ljava/lang/Throwable;"), (0, .fieldref 8 14), (0, .nameAndType 15 16), (0, u "UNASSIGNED_STACK"), (0, u "[Ljava/lang/StackTraceElement;"), (0, .fieldref 8 18), (0, .nameAndType 19 16), (0, u "stackTrace"), (0, .fieldref 8 21), (0, .nameAndType 22 23), (0, u "SUPPRESSED_SENTINEL"), (0, u "Ljava/util/List;"), (0, .fieldref 8 25), (0, .nameAndType 26 23), (0, u "suppressedExceptions"), (0, .methodref 8 28), (0, .nameAndType 29 30), (0, u "fillInStackTrace"), (0, u "()Ljava/lang/Throwable;"), (0, .fieldref 8 32), (0, .nameAndType 33 34), (0, u "detailMessage"), (0, u "Ljava/lang/String;"), (3, u "()Ljava/lang/String;"), (2, u "getMessage"), (51, .class_ 94), (0, u "java/lang/Throwable$WrappedPrintStream"), (6, .class_ 103), (1, u "java/lang/Throwable$PrintStreamOrWriter"), (61, u "$assertionsDisabled"), (0, u "Z"), (26, .class_ 194), (0, u "java/lang/Throwable$WrappedPrintWriter"), (3, .fieldref 8 199), (0, .nameAndType 200 201), (0, u "backtrace"), (0, u "Ljava/lang/Object;"), (0, .methodref 8 203), (0, .nameAndType 29 204), (0, u "(I)Ljava/lang/Throwable;"), (6, u "depth"), (0, u "I"), (10, u "(Ljava/lang/String;)V"), (45, .class_ 271), (1, u "java/lang/Throwable$SentinelHolder"), (32, u "EMPTY_THROWABLE_ARRAY"), (0, u "[Ljava/lang/Throwable;"), (12, .class_ 319), (0, u "java/io/Serializable"), (0, u "serialVersionUID"), (0, u "J"), (5, u "NULL_CAUSE_MESSAGE"), (0, u "SELF_SUPPRESSION_MESSAGE"), (0, u "CAUSE_CAPTION"), (0, u "SUPPRESSED_CAPTION")] 73

def k10c0 : Code := { maxStack := 2, maxLocals := 1, code := jdk_78_method_1_code, exceptionTable := #[], attributes := #[] }
def k10m0 : Method := { name := "<init>", desc := "()V", sig := { parameters := [], returnType := none }, accessFlags := 1, code := some k10c0 }
def k10c1 : Code := { maxStack := 2, maxLocals := 2, code := jdk_78_method_2_code, exceptionTable := #[], attributes := #[] }
def k10m1 : Method := { name := "<init>", desc := "(Ljava/lang/String;)V", sig := { parameters := [(.object "java/lang/String")], returnType := none }, accessFlags := 1, code := some k10c1 }
def k10c2 : Code := { maxStack := 1, maxLocals := 1, code := jdk_78_method_6_code, exceptionTable := #[], attributes := #[] }
def k10m2 : Method := { name := "getMessage", desc := "()Ljava/lang/String;", sig := { parameters := [], returnType := some (.object "java/lang/String") }, accessFlags := 1, code := some k10c2 }
def k10c3 : Code := { maxStack := 2, maxLocals := 1, code := ⟨#[0x2a, 0xb4, 0x00, 0x11, 0xc7, 0x00, 0x0a, 0x2a, 0xb4, 0x00, 0xc6, 0xc6, 0x00, 0x10, 0x2a, 0x03, 0xb6, 0x00, 0xca, 0x57, 0x2a, 0xb2, 0x00, 0x0d, 0xb5, 0x00, 0x11, 0x2a, 0xb0]⟩, exceptionTable := #[], attributes := #[] }
def k10m3 : Method := { name := "fillInStackTrace", desc := "()Ljava/lang/Throwable;", sig := { parameters := [], returnType := some (.object "java/lang/Throwable") }, accessFlags := 33, code := some k10c3 }
def k10m4 : Method := { name := "fillInStackTrace", desc := "(I)Ljava/lang/Throwable;", sig := { parameters := [.int], returnType := some (.object "java/lang/Throwable") }, accessFlags := 258, code := none }
/-- java/lang/Throwable -/
def k10 : Class := { plain "java/lang/Throwable" (some 0) with
  accessFlags := 33
  interfaces := #[2]
  cf := some (fileOf pool10 8 #[.nestMembers #[193, 93, 101, 269]] #[{ accessFlags := 1, nameIndex := 5, descriptorIndex := 6, attributes := #[] }, { accessFlags := 1, nameIndex := 5, descriptorIndex := 223, attributes := #[] }, { accessFlags := 1, nameIndex := 41, descriptorIndex := 38, attributes := #[] }, { accessFlags := 33, nameIndex := 29, descriptorIndex := 30, attributes := #[] }, { accessFlags := 258, nameIndex := 29, descriptorIndex := 204, attributes := #[] }] 33 2 #[318] #[{ accessFlags := 26, nameIndex := 320, descriptorIndex := 321, attributes := #[] }, { accessFlags := 130, nameIndex := 200, descriptorIndex := 201, attributes := #[] }, { accessFlags := 2, nameIndex := 33, descriptorIndex := 34, attributes := #[] }, { accessFlags := 26, nameIndex := 15, descriptorIndex := 16, attributes := #[] }, { accessFlags := 2, nameIndex := 11, descriptorIndex := 12, attributes := #[] }, { accessFlags := 2, nameIndex := 19, descriptorIndex := 16, attributes := #[] }, { accessFlags := 130, nameIndex := 211, descriptorIndex := 212, attributes := #[] }, { accessFlags := 26, nameIndex := 22, descriptorIndex := 23, attributes := #[] }, { accessFlags := 2, nameIndex := 26, descriptorIndex := 23, attributes := #[] }, { accessFlags := 26, nameIndex := 327, descriptorIndex := 34, attributes := #[] }, { accessFlags := 26, nameIndex := 328, descriptorIndex := 34, attributes := #[] }, { accessFlags := 26, nameIndex := 329, descriptorIndex := 34, attributes := #[] }, { accessFlags := 26, nameIndex := 330, descriptorIndex := 34, attributes := #[] }, { accessFlags := 26, nameIndex := 304, descriptorIndex := 305, attributes := #[] }, { accessFlags := 4120, nameIndex := 165, descriptorIndex := 166, attributes := #[] }])
  fields := #[{ name := "serialVersionUID", type := .long, accessFlags := 26, slot := 0, constantValue := 0 }, { name := "backtrace", type := (.object "java/lang/Object"), accessFlags := 130, slot := 0, constantValue := 0 }, { name := "detailMessage", type := (.object "java/lang/String"), accessFlags := 2, slot := 1, constantValue := 0 }, { name := "UNASSIGNED_STACK", type := (.array (.object "java/lang/StackTraceElement")), accessFlags := 26, slot := 1, constantValue := 0 }, { name := "cause", type := (.object "java/lang/Throwable"), accessFlags := 2, slot := 2, constantValue := 0 }, { name := "stackTrace", type := (.array (.object "java/lang/StackTraceElement")), accessFlags := 2, slot := 3, constantValue := 0 }, { name := "depth", type := .int, accessFlags := 130, slot := 4, constantValue := 0 }, { name := "SUPPRESSED_SENTINEL", type := (.object "java/util/List"), accessFlags := 26, slot := 2, constantValue := 0 }, { name := "suppressedExceptions", type := (.object "java/util/List"), accessFlags := 2, slot := 5, constantValue := 0 }, { name := "NULL_CAUSE_MESSAGE", type := (.object "java/lang/String"), accessFlags := 26, slot := 3, constantValue := 0 }, { name := "SELF_SUPPRESSION_MESSAGE", type := (.object "java/lang/String"), accessFlags := 26, slot := 4, constantValue := 0 }, { name := "CAUSE_CAPTION", type := (.object "java/lang/String"), accessFlags := 26, slot := 5, constantValue := 0 }, { name := "SUPPRESSED_CAPTION", type := (.object "java/lang/String"), accessFlags := 26, slot := 6, constantValue := 0 }, { name := "EMPTY_THROWABLE_ARRAY", type := (.array (.object "java/lang/Throwable")), accessFlags := 26, slot := 7, constantValue := 0 }, { name := "$assertionsDisabled", type := .boolean, accessFlags := 4120, slot := 8, constantValue := 0 }]
  methods := #[k10m0, k10m1, k10m2, k10m3, k10m4]
  instanceTypes := #[(.object "java/lang/Object"), (.object "java/lang/String"), (.object "java/lang/Throwable"), (.array (.object "java/lang/StackTraceElement")), .int, (.object "java/util/List")]
  staticTypes := #[.long, (.array (.object "java/lang/StackTraceElement")), (.object "java/util/List"), (.object "java/lang/String"), (.object "java/lang/String"), (.object "java/lang/String"), (.object "java/lang/String"), (.array (.object "java/lang/Throwable")), .boolean]
  resolved := Array.replicate 404 none
  statics := some 1 }

def pool11 : Array CpInfo := pool [(2, .class_ 4), (1, u "java/lang/Throwable"), (0, u "<init>"), (0, u "()V"), (0, .methodref 2 8), (0, .nameAndType 5 9), (0, u "(Ljava/lang/String;)V"), (9, .class_ 20), (0, u "java/lang/Exception"), (0, u "serialVersionUID"), (0, u "J")] 17

def k11m0 : Method := { name := "<init>", desc := "()V", sig := { parameters := [], returnType := none }, accessFlags := 1, code := none }
def k11c1 : Code := { maxStack := 2, maxLocals := 2, code := jdk_59_method_2_code, exceptionTable := #[], attributes := #[] }
def k11m1 : Method := { name := "<init>", desc := "(Ljava/lang/String;)V", sig := { parameters := [(.object "java/lang/String")], returnType := none }, accessFlags := 1, code := some k11c1 }
/-- java/lang/Exception -/
def k11 : Class := { plain "java/lang/Exception" (some 10) with
  accessFlags := 33
  interfaces := #[]
  cf := some (fileOf pool11 19 #[] #[{ accessFlags := 1, nameIndex := 5, descriptorIndex := 6, attributes := #[] }, { accessFlags := 1, nameIndex := 5, descriptorIndex := 9, attributes := #[] }] 33 2 #[] #[{ accessFlags := 24, nameIndex := 21, descriptorIndex := 22, attributes := #[] }])
  fields := #[{ name := "serialVersionUID", type := .long, accessFlags := 24, slot := 0, constantValue := 0 }]
  methods := #[k11m0, k11m1]
  instanceTypes := #[(.object "java/lang/Object"), (.object "java/lang/String"), (.object "java/lang/Throwable"), (.array (.object "java/lang/StackTraceElement")), .int, (.object "java/util/List")]
  staticTypes := #[.long]
  resolved := Array.replicate 40 none
  statics := none }

def pool12 : Array CpInfo := pool [(1, .methodref 2 3), (0, .class_ 4), (0, .nameAndType 5 6), (0, u "java/lang/Exception"), (0, u "<init>"), (0, u "(Ljava/lang/String;)V"), (0, .class_ 8), (0, u "com/example/loopd/loopd/UsageException"), (0, u "serialVersionUID"), (0, u "J")] 7

def k12c0 : Code := { maxStack := 2, maxLocals := 2, code := prog_4_method_1_code, exceptionTable := #[], attributes := #[] }
def k12m0 : Method := { name := "<init>", desc := "(Ljava/lang/String;)V", sig := { parameters := [(.object "java/lang/String")], returnType := none }, accessFlags := 0, code := some k12c0 }
/-- com/example/loopd/loopd/UsageException -/
def k12 : Class := { plain "com/example/loopd/loopd/UsageException" (some 11) with
  accessFlags := 32
  interfaces := #[]
  cf := some (fileOf pool12 7 #[] #[{ accessFlags := 0, nameIndex := 5, descriptorIndex := 6, attributes := #[] }] 32 2 #[] #[{ accessFlags := 26, nameIndex := 9, descriptorIndex := 10, attributes := #[] }])
  fields := #[{ name := "serialVersionUID", type := .long, accessFlags := 26, slot := 0, constantValue := 0 }]
  methods := #[k12m0]
  instanceTypes := #[(.object "java/lang/Object"), (.object "java/lang/String"), (.object "java/lang/Throwable"), (.array (.object "java/lang/StackTraceElement")), .int, (.object "java/util/List")]
  staticTypes := #[.long]
  resolved := Array.replicate 18 none
  statics := none }

def pool13 : Array CpInfo := pool [(1, .class_ 2), (0, u "java/lang/Appendable"), (0, .class_ 4), (0, u "java/lang/Object")] 9

/-- java/lang/Appendable -/
def k13 : Class := { plain "java/lang/Appendable" (some 0) with
  accessFlags := 1537
  interfaces := #[]
  cf := some (fileOf pool13 1 #[] #[] 1537 3 #[] #[])
  fields := #[]
  methods := #[]
  instanceTypes := #[]
  staticTypes := #[]
  resolved := Array.replicate 14 none
  statics := none }

def pool14 : Array CpInfo := pool [(1, .class_ 2), (0, u "java/lang/String"), (0, .methodref 4 5), (0, .class_ 6), (0, .nameAndType 7 8), (0, u "java/lang/Object"), (0, u "<init>"), (0, u "()V"), (1, .class_ 12), (1, u "java/lang/AbstractStringBuilder"), (0, u "EMPTYVALUE"), (0, u "[B"), (0, .fieldref 10 16), (0, .nameAndType 17 14), (0, u "value"), (0, .fieldref 1 19), (0, .nameAndType 20 21), (0, u "COMPACT_STRINGS"), (0, u "Z"), (0, .fieldref 10 23), (0, .nameAndType 24 25), (0, u "coder"), (0, u "B"), (6, .methodref 1 33), (0, .nameAndType 34 35), (0, u "length"), (0, u "()I"), (3, .integer 2147483647), (0, .methodref 1 41), (0, .nameAndType 24 42), (0, u "()B"), (2, u "append"), (0, u "(Ljava/lang/String;)Ljava/lang/AbstractStringBuilder;"), (1, .class_ 49), (0, u "java/lang/CharSequence"), (19, u "(Ljava/lang/String;)V"), (5, u "maybeLatin1"), (3, .fieldref 10 80), (0, .nameAndType 81 82), (0, u "count"), (0, u "I"), (2, u "isLatin1"), (0, u "()Z"), (13, .methodref 10 101), (0, .nameAndType 102 103), (0, u "ensureCapacityInternal"), (0, u "(I)V"), (0, .methodref 10 105), (0, .nameAndType 106 107), (0, u "newCapacity"), (0, u "(I)I"), (0, .methodref 109 110), (0, .class_ 111), (0, .nameAndType 112 113), (0, u "java/util/Arrays"), (0, u "copyOf"), (0, u "([BI)[B"), (0, .methodref 115 116), (0, .class_ 117), (0, .nameAndType 118 119), (0, u "jdk/internal/util/ArraysSupport"), (0, u "newLength"), (0, u "(III)I"), (88, .methodref 10 209), (0, .nameAndType 210 211), (0, u "putStringAt"), (0, u "(ILjava/lang/String;)V"), (5, u "inflateIfNeededFor"), (2, .nameAndType 221 222), (0, u "getBytes"), (0, u "([BIB)V"), (174, .methodref 10 398), (0, .nameAndType 217 69), (0, .methodref 1 220), (3, u "()[B"), (40, .class_ 445), (0, u "java/lang/Appendable"), (106, u "getValue")] 56

def k14m0 : Method := { name := "<init>", desc := "()V", sig := { parameters := [], returnType := none }, accessFlags := 0, code := none }
def k14c1 : Code := { maxStack := 2, maxLocals := 2, code := jdk_68_method_2_code, exceptionTable := #[], attributes := #[] }
def k14m1 : Method := { name := "<init>", desc := "(I)V", sig := { parameters := [.int], returnType := none }, accessFlags := 0, code := some k14c1 }
def k14c2 : Code := { maxStack := 1, maxLocals := 1, code := jdk_68_method_6_code, exceptionTable := #[], attributes := #[] }
def k14m2 : Method := { name := "length", desc := "()I", sig := { parameters := [], returnType := some .int }, accessFlags := 1, code := some k14c2 }
def k14c3 : Code := { maxStack := 4, maxLocals := 3, code := jdk_68_method_9_code, exceptionTable := #[], attributes := #[] }
def k14m3 : Method := { name := "ensureCapacityInternal", desc := "(I)V", sig := { parameters := [.int], returnType := none }, accessFlags := 2, code := some k14c3 }
def k14c4 : Code := { maxStack := 5, maxLocals := 6, code := jdk_68_method_10_code, exceptionTable := #[], attributes := #[] }
def k14m4 : Method := { name := "newCapacity", desc := "(I)I", sig := { parameters := [.int], returnType := some .int }, accessFlags := 2, code := some k14c4 }
def k14c5 : Code := { maxStack := 3, maxLocals := 3, code := jdk_68_method_22_code, exceptionTable := #[], attributes := #[] }
def k14m5 : Method := { name := "append", desc := "(Ljava/lang/String;)Ljava/lang/AbstractStringBuilder;", sig := { parameters := [(.object "java/lang/String")], returnType := some (.object "java/lang/AbstractStringBuilder") }, accessFlags := 1, code := some k14c5 }
def k14c6 : Code := { maxStack := 1, maxLocals := 1, code := jdk_68_method_64_code, exceptionTable := #[], attributes := #[] }
def k14m6 : Method := { name := "getValue", desc := "()[B", sig := { parameters := [], returnType := some (.array .byte) }, accessFlags := 16, code := some k14c6 }
def k14c7 : Code := { maxStack := 1, maxLocals := 1, code := jdk_68_method_68_code, exceptionTable := #[], attributes := #[] }
def k14m7 : Method := { name := "isLatin1", desc := "()Z", sig := { parameters := [], returnType := some .boolean }, accessFlags := 16, code := some k14c7 }
def k14c8 : Code := { maxStack := 2, maxLocals := 2, code := jdk_68_method_71_code, exceptionTable := #[], attributes := #[] }
def k14m8 : Method := { name := "inflateIfNeededFor", desc := "(Ljava/lang/String;)V", sig := { parameters := [(.object "java/lang/String")], returnType := none }, accessFlags := 2, code := some k14c8 }
def k14c9 : Code := { maxStack := 4, maxLocals := 3, code := jdk_68_method_73_code, exceptionTable := #[], attributes := #[] }
def k14m9 : Method := { name := "putStringAt", desc := "(ILjava/lang/String;)V", sig := { parameters := [.int, (.object "java/lang/String")], returnType := none }, accessFlags := 2, code := some k14c9 }
/-- java/lang/AbstractStringBuilder -/
def k14 : Class := { plain "java/lang/AbstractStringBuilder" (some 0) with
  accessFlags := 1056
  interfaces := #[13, 4]
  cf := some (fileOf pool14 10 #[] #[{ accessFlags := 0, nameIndex := 7, descriptorIndex := 8, attributes := #[] }, { accessFlags := 0, nameIndex := 7, descriptorIndex := 103, attributes := #[] }, { accessFlags := 1, nameIndex := 34, descriptorIndex := 35, attributes := #[] }, { accessFlags := 2, nameIndex := 102, descriptorIndex := 103, attributes := #[] }, { accessFlags := 2, nameIndex := 106, descriptorIndex := 107, attributes := #[] }, { accessFlags := 1, nameIndex := 45, descriptorIndex := 46, attributes := #[] }, { accessFlags := 16, nameIndex := 552, descriptorIndex := 403, attributes := #[] }, { accessFlags := 16, nameIndex := 85, descriptorIndex := 86, attributes := #[] }, { accessFlags := 2, nameIndex := 217, descriptorIndex := 69, attributes := #[] }, { accessFlags := 2, nameIndex := 210, descriptorIndex := 211, attributes := #[] }] 1056 4 #[444, 48] #[{ accessFlags := 0, nameIndex := 17, descriptorIndex := 14, attributes := #[] }, { accessFlags := 0, nameIndex := 24, descriptorIndex := 25, attributes := #[] }, { accessFlags := 0, nameIndex := 75, descriptorIndex := 21, attributes := #[] }, { accessFlags := 0, nameIndex := 81, descriptorIndex := 82, attributes := #[] }, { accessFlags := 26, nameIndex := 13, descriptorIndex := 14, attributes := #[] }])
  fields := #[{ name := "value", type := (.array .byte), accessFlags := 0, slot := 0, constantValue := 0 }, { name := "coder", type := .byte, accessFlags := 0, slot := 1, constantValue := 0 }, { name := "maybeLatin1", type := .boolean, accessFlags := 0, slot := 2, constantValue := 0 }, { name := "count", type := .int, accessFlags := 0, slot := 3, constantValue := 0 }, { name := "EMPTYVALUE", type := (.array .byte), accessFlags := 26, slot := 0, constantValue := 0 }]
  methods := #[k14m0, k14m1, k14m2, k14m3, k14m4, k14m5, k14m6, k14m7, k14m8, k14m9]
  instanceTypes := #[(.array .byte), .byte, .boolean, .int]
  staticTypes := #[(.array .byte)]
  resolved := Array.replicate 609 none
  statics := none }

def pool15 : Array CpInfo := pool [(1, .methodref 2 3), (0, .class_ 4), (0, .nameAndType 5 6), (0, u "java/lang/AbstractStringBuilder"), (0, u "<init>"), (0, u "(I)V"), (11, .class_ 20), (1, u "java/lang/String"), (3, .class_ 26), (1, u "java/lang/StringBuilder"), (0, u "append"), (0, u "(Ljava/lang/String;)Ljava/lang/StringBuilder;"), (0, .methodref 2 30), (0, .nameAndType 27 31), (0, u "(Ljava/lang/String;)Ljava/lang/AbstractStringBuilder;"), (105, .methodref 18 138), (0, .nameAndType 5 139), (0, u "(Ljava/lang/StringBuilder;)V"), (5, u "()V"), (10, u "()I"), (186, .methodref 2 344), (0, .nameAndType 345 156), (0, u "length"), (3, .class_ 350), (0, u "java/lang/Appendable"), (0, .class_ 352), (0, u "java/io/Serializable"), (0, .class_ 354), (0, u "java/lang/Comparable"), (0, .class_ 356), (0, u "java/lang/CharSequence"), (0, u "serialVersionUID"), (0, u "J"), (40, u "toString"), (0, u "()Ljava/lang/String;")] 21

def k15c0 : Code := { maxStack := 2, maxLocals := 1, code := jdk_67_method_1_code, exceptionTable := #[], attributes := #[] }
def k15m0 : Method := { name := "<init>", desc := "()V", sig := { parameters := [], returnType := none }, accessFlags := 1, code := some k15c0 }
def k15c1 : Code := { maxStack := 2, maxLocals := 2, code := jdk_67_method_7_code, exceptionTable := #[], attributes := #[] }
def k15m1 : Method := { name := "append", desc := "(Ljava/lang/String;)Ljava/lang/StringBuilder;", sig := { parameters := [(.object "java/lang/String")], returnType := some (.object "java/lang/StringBuilder") }, accessFlags := 1, code := some k15c1 }
def k15c2 : Code := { maxStack := 3, maxLocals := 1, code := jdk_67_method_42_code, exceptionTable := #[], attributes := #[] }
def k15m2 : Method := { name := "toString", desc := "()Ljava/lang/String;", sig := { parameters := [], returnType := some (.object "java/lang/String") }, accessFlags := 1, code := some k15c2 }
def k15c3 : Code := { maxStack := 1, maxLocals := 1, code := jdk_67_method_93_code, exceptionTable := #[], attributes := #[] }
def k15m3 : Method := { name := "length", desc := "()I", sig := { parameters := [], returnType := some .int }, accessFlags := 4161, code := some k15c3 }
/-- java/lang/StringBuilder -/
def k15 : Class := { plain "java/lang/StringBuilder" (some 14) with
  accessFlags := 49
  interfaces := #[13, 2, 3, 4]
  cf := some (fileOf pool15 24 #[] #[{ accessFlags := 1, nameIndex := 5, descriptorIndex := 145, attributes := #[] }, { accessFlags := 1, nameIndex := 27, descriptorIndex := 28, attributes := #[] }, { accessFlags := 1, nameIndex := 399, descriptorIndex := 400, attributes := #[] }, { accessFlags := 4161, nameIndex := 345, descriptorIndex := 156, attributes := #[] }] 49 2 #[349, 351, 353, 355] #[{ accessFlags := 24, nameIndex := 357, descriptorIndex := 358, attributes := #[] }])
  fields := #[{ name := "serialVersionUID", type := .long, accessFlags := 24, slot := 0, constantValue := 0 }]
  methods := #[k15m0, k15m1, k15m2, k15m3]
  instanceTypes := #[(.array .byte), .byte, .boolean, .int]
  staticTypes := #[.long]
  resolved := Array.replicate 422 none
  statics := none }

def pool16 : Array CpInfo := pool [(9, u "<init>"), (6, .class_ 18), (1, u "java/lang/Object"), (0, u "()V"), (1, .class_ 23), (1, u "jdk/internal/util/ArraysSupport"), (0, u "LOG2_ARRAY_LONG_INDEX_SCALE"), (0, u "I"), (2, u "U"), (0, u "Ljdk/internal/misc/Unsafe;"), (8, u "BIG_ENDIAN"), (0, u "Z"), (8, u "LOG2_BYTE_BIT_SIZE"), (4, u "LOG2_ARRAY_INT_INDEX_SCALE"), (54, u "JLA"), (0, u "Ljdk/internal/access/JavaLangAccess;"), (11, u "LOG2_ARRAY_BOOLEAN_INDEX_SCALE"), (9, u "LOG2_ARRAY_BYTE_INDEX_SCALE"), (5, u "LOG2_ARRAY_CHAR_INDEX_SCALE"), (5, u "LOG2_ARRAY_SHORT_INDEX_SCALE"), (5, u "mismatch"), (12, u "LOG2_ARRAY_FLOAT_INDEX_SCALE"), (24, u "LOG2_ARRAY_DOUBLE_INDEX_SCALE"), (6, .methodref 195 196), (0, .class_ 197), (0, .nameAndType 198 199), (0, u "java/lang/Math"), (0, u "max"), (0, u "(II)I"), (0, .integer 2147483639), (76, u "T_BOOLEAN"), (2, u "T_CHAR"), (1, u "T_FLOAT"), (1, u "T_DOUBLE"), (1, u "T_BYTE"), (1, u "T_SHORT"), (1, u "T_INT"), (1, u "T_LONG"), (1, u "SOFT_MAX_ARRAY_LENGTH"), (42, u "([BI[BII)I"), (13, u "newLength"), (0, u "(III)I")] 25

def k16m0 : Method := { name := "<init>", desc := "()V", sig := { parameters := [], returnType := none }, accessFlags := 2, code := none }
def k16c1 : Code := { maxStack := 8, maxLocals := 8, code := jdk_48_method_14_code, exceptionTable := #[], attributes := #[] }
def k16m1 : Method := { name := "mismatch", desc := "([BI[BII)I", sig := { parameters := [(.array .byte), .int, (.array .byte), .int, .int], returnType := some .int }, accessFlags := 9, code := some k16c1 }
def k16c2 : Code := { maxStack := 3, maxLocals := 4, code := jdk_48_method_27_code, exceptionTable := #[], attributes := #[] }
def k16m2 : Method := { name := "newLength", desc := "(III)I", sig := { parameters := [.int, .int, .int], returnType := some .int }, accessFlags := 9, code := some k16c2 }
/-- jdk/internal/util/ArraysSupport -/
def k16 : Class := { plain "jdk/internal/util/ArraysSupport" (some 0) with
  accessFlags := 33
  interfaces := #[]
  cf := some (fileOf pool16 21 #[] #[{ accessFlags := 2, nameIndex := 9, descriptorIndex := 19, attributes := #[] }, { accessFlags := 9, nameIndex := 149, descriptorIndex := 337, attributes := #[] }, { accessFlags := 9, nameIndex := 351, descriptorIndex := 352, attributes := #[] }] 33 16 #[] #[{ accessFlags := 24, nameIndex := 28, descriptorIndex := 29, attributes := #[] }, { accessFlags := 26, nameIndex := 38, descriptorIndex := 39, attributes := #[] }, { accessFlags := 25, nameIndex := 121, descriptorIndex := 25, attributes := #[] }, { accessFlags := 25, nameIndex := 131, descriptorIndex := 25, attributes := #[] }, { accessFlags := 25, nameIndex := 137, descriptorIndex := 25, attributes := #[] }, { accessFlags := 25, nameIndex := 143, descriptorIndex := 25, attributes := #[] }, { accessFlags := 25, nameIndex := 53, descriptorIndex := 25, attributes := #[] }, { accessFlags := 25, nameIndex := 24, descriptorIndex := 25, attributes := #[] }, { accessFlags := 25, nameIndex := 162, descriptorIndex := 25, attributes := #[] }, { accessFlags := 25, nameIndex := 187, descriptorIndex := 25, attributes := #[] }, { accessFlags := 26, nameIndex := 48, descriptorIndex := 25, attributes := #[] }, { accessFlags := 25, nameIndex := 277, descriptorIndex := 25, attributes := #[] }, { accessFlags := 25, nameIndex := 280, descriptorIndex := 25, attributes := #[] }, { accessFlags := 25, nameIndex := 282, descriptorIndex := 25, attributes := #[] }, { accessFlags := 25, nameIndex := 284, descriptorIndex := 25, attributes := #[] }, { accessFlags := 25, nameIndex := 286, descriptorIndex := 25, attributes := #[] }, { accessFlags := 25, nameIndex := 288, descriptorIndex := 25, attributes := #[] }, { accessFlags := 25, nameIndex := 290, descriptorIndex := 25, attributes := #[] }, { accessFlags := 25, nameIndex := 292, descriptorIndex := 25, attributes := #[] }, { accessFlags := 26, nameIndex := 108, descriptorIndex := 109, attributes := #[] }, { accessFlags := 25, nameIndex := 294, descriptorIndex := 25, attributes := #[] }])
  fields := #[{ name := "U", type := (.object "jdk/internal/misc/Unsafe"), accessFlags := 24, slot := 0, constantValue := 0 }, { name := "BIG_ENDIAN", type := .boolean, accessFlags := 26, slot := 1, constantValue := 0 }, { name := "LOG2_ARRAY_BOOLEAN_INDEX_SCALE", type := .int, accessFlags := 25, slot := 2, constantValue := 0 }, { name := "LOG2_ARRAY_BYTE_INDEX_SCALE", type := .int, accessFlags := 25, slot := 3, constantValue := 0 }, { name := "LOG2_ARRAY_CHAR_INDEX_SCALE", type := .int, accessFlags := 25, slot := 4, constantValue := 0 }, { name := "LOG2_ARRAY_SHORT_INDEX_SCALE", type := .int, accessFlags := 25, slot := 5, constantValue := 0 }, { name := "LOG2_ARRAY_INT_INDEX_SCALE", type := .int, accessFlags := 25, slot := 6, constantValue := 0 }, { name := "LOG2_ARRAY_LONG_INDEX_SCALE", type := .int, accessFlags := 25, slot := 7, constantValue := 0 }, { name := "LOG2_ARRAY_FLOAT_INDEX_SCALE", type := .int, accessFlags := 25, slot := 8, constantValue := 0 }, { name := "LOG2_ARRAY_DOUBLE_INDEX_SCALE", type := .int, accessFlags := 25, slot := 9, constantValue := 0 }, { name := "LOG2_BYTE_BIT_SIZE", type := .int, accessFlags := 26, slot := 10, constantValue := 0 }, { name := "T_BOOLEAN", type := .int, accessFlags := 25, slot := 11, constantValue := 0 }, { name := "T_CHAR", type := .int, accessFlags := 25, slot := 12, constantValue := 0 }, { name := "T_FLOAT", type := .int, accessFlags := 25, slot := 13, constantValue := 0 }, { name := "T_DOUBLE", type := .int, accessFlags := 25, slot := 14, constantValue := 0 }, { name := "T_BYTE", type := .int, accessFlags := 25, slot := 15, constantValue := 0 }, { name := "T_SHORT", type := .int, accessFlags := 25, slot := 16, constantValue := 0 }, { name := "T_INT", type := .int, accessFlags := 25, slot := 17, constantValue := 0 }, { name := "T_LONG", type := .int, accessFlags := 25, slot := 18, constantValue := 0 }, { name := "JLA", type := (.object "jdk/internal/access/JavaLangAccess"), accessFlags := 26, slot := 19, constantValue := 0 }, { name := "SOFT_MAX_ARRAY_LENGTH", type := .int, accessFlags := 25, slot := 20, constantValue := 0 }]
  methods := #[k16m0, k16m1, k16m2]
  instanceTypes := #[]
  staticTypes := #[(.object "jdk/internal/misc/Unsafe"), .boolean, .int, .int, .int, .int, .int, .int, .int, .int, .int, .int, .int, .int, .int, .int, .int, .int, .int, (.object "jdk/internal/access/JavaLangAccess"), .int]
  resolved := Array.replicate 378 none
  statics := none }

def pool17 : Array CpInfo := pool [(1, .class_ 2), (0, u "java/lang/Math"), (1, .class_ 6), (1, u "java/lang/Object"), (0, u "<init>"), (0, u "()V"), (89, .class_ 100), (1, u "java/lang/Math$RandomNumberGeneratorHolder"), (71, u "negativeZeroFloatBits"), (0, u "J"), (2, u "negativeZeroDoubleBits"), (21, u "max"), (2, u "min"), (43, u "$assertionsDisabled"), (0, u "Z"), (88, u "(II)I"), (2, u "twoToTheDoubleScaleDown"), (0, u "D"), (4, u "twoToTheDoubleScaleUp"), (9, u "E"), (3, u "PI"), (2, u "TAU"), (2, u "DEGREES_TO_RADIANS"), (0, u "RADIANS_TO_DEGREES")] 94

def k17m0 : Method := { name := "<init>", desc := "()V", sig := { parameters := [], returnType := none }, accessFlags := 2, code := none }
def k17c1 : Code := { maxStack := 2, maxLocals := 2, code := jdk_29_method_65_code, exceptionTable := #[], attributes := #[] }
def k17m1 : Method := { name := "max", desc := "(II)I", sig := { parameters := [.int, .int], returnType := some .int }, accessFlags := 9, code := some k17c1 }
def k17c2 : Code := { maxStack := 2, maxLocals := 2, code := jdk_29_method_69_code, exceptionTable := #[], attributes := #[] }
def k17m2 : Method := { name := "min", desc := "(II)I", sig := { parameters := [.int, .int], returnType := some .int }, accessFlags := 9, code := some k17c2 }
/-- java/lang/Math -/
def k17 : Class := { plain "java/lang/Math" (some 0) with
  accessFlags := 49
  interfaces := #[]
  cf := some (fileOf pool17 1 #[.nestMembers #[98]] #[{ accessFlags := 2, nameIndex := 7, descriptorIndex := 8, attributes := #[] }, { accessFlags := 9, nameIndex := 198, descriptorIndex := 335, attributes := #[] }, { accessFlags := 9, nameIndex := 201, descriptorIndex := 335, attributes := #[] }] 49 4 #[] #[{ accessFlags := 25, nameIndex := 354, descriptorIndex := 339, attributes := #[] }, { accessFlags := 25, nameIndex := 358, descriptorIndex := 339, attributes := #[] }, { accessFlags := 25, nameIndex := 361, descriptorIndex := 339, attributes := #[] }, { accessFlags := 26, nameIndex := 364, descriptorIndex := 339, attributes := #[] }, { accessFlags := 26, nameIndex := 365, descriptorIndex := 339, attributes := #[] }, { accessFlags := 26, nameIndex := 172, descriptorIndex := 173, attributes := #[] }, { accessFlags := 26, nameIndex := 176, descriptorIndex := 173, attributes := #[] }, { accessFlags := 8, nameIndex := 344, descriptorIndex := 339, attributes := #[] }, { accessFlags := 8, nameIndex := 338, descriptorIndex := 339, attributes := #[] }, { accessFlags := 4120, nameIndex := 245, descriptorIndex := 246, attributes := #[] }])
  fields := #[{ name := "E", type := .double, accessFlags := 25, slot := 0, constantValue := 0 }, { name := "PI", type := .double, accessFlags := 25, slot := 1, constantValue := 0 }, { name := "TAU", type := .double, accessFlags := 25, slot := 2, constantValue := 0 }, { name := "DEGREES_TO_RADIANS", type := .double, accessFlags := 26, slot := 3, constantValue := 0 }, { name := "RADIANS_TO_DEGREES", type := .double, accessFlags := 26, slot := 4, constantValue := 0 }, { name := "negativeZeroFloatBits", type := .long, accessFlags := 26, slot := 5, constantValue := 0 }, { name := "negativeZeroDoubleBits", type := .long, accessFlags := 26, slot := 6, constantValue := 0 }, { name := "twoToTheDoubleScaleUp", type := .double, accessFlags := 8, slot := 7, constantValue := 0 }, { name := "twoToTheDoubleScaleDown", type := .double, accessFlags := 8, slot := 8, constantValue := 0 }, { name := "$assertionsDisabled", type := .boolean, accessFlags := 4120, slot := 9, constantValue := 0 }]
  methods := #[k17m0, k17m1, k17m2]
  instanceTypes := #[]
  staticTypes := #[.double, .double, .double, .double, .double, .long, .long, .double, .double, .boolean]
  resolved := Array.replicate 460 none
  statics := none }

def pool18 : Array CpInfo := pool [(2, .class_ 4), (1, u "java/lang/Object"), (0, u "<init>"), (0, u "()V"), (7, .class_ 16), (1, u "java/util/Arrays"), (57, .class_ 76), (1, u "java/util/Arrays$NaturalOrder"), (32, u "()Ljava/lang/Object;"), (3, .class_ 115), (1, u "java/util/Arrays$LegacyMergeSort"), (1, u "Z"), (10, .nameAndType 129 109), (0, u "clone"), (9, u "copyOfRange"), (10, .methodref 151 152), (0, .class_ 153), (0, .nameAndType 154 155), (0, u "java/lang/System"), (0, u "arraycopy"), (0, u "(Ljava/lang/Object;ILjava/lang/Object;II)V"), (146, u "copyOf"), (1, .methodref 305 306), (0, .class_ 307), (0, .nameAndType 308 309), (0, u "java/lang/Math"), (0, u "min"), (0, u "(II)I"), (0, .methodref 311 128), (0, .class_ 312), (0, u "[B"), (26, .methodref 14 340), (0, .nameAndType 341 342), (0, u "copyOfRangeByte"), (0, u "([BII)[B"), (0, .methodref 14 344), (0, .nameAndType 345 346), (0, u "checkLength"), (0, u "(II)V"), (28, .class_ 376), (0, u "java/util/Arrays$ArrayList"), (68, u "$assertionsDisabled"), (269, u "MIN_ARRAY_SORT_GRAN"), (0, u "I"), (2, u "INSERTIONSORT_THRESHOLD"), (149, u "([BI)[B"), (105, .class_ 976), (0, u "java/util/Arrays$ArrayItr")] 52

def k18m0 : Method := { name := "<init>", desc := "()V", sig := { parameters := [], returnType := none }, accessFlags := 2, code := none }
def k18c1 : Code := { maxStack := 6, maxLocals := 3, code := jdk_65_method_121_code, exceptionTable := #[], attributes := #[] }
def k18m1 : Method := { name := "copyOf", desc := "([BI)[B", sig := { parameters := [(.array .byte), .int], returnType := some (.array .byte) }, accessFlags := 9, code := some k18c1 }
def k18c2 : Code := { maxStack := 4, maxLocals := 2, code := jdk_65_method_131_code, exceptionTable := #[], attributes := #[] }
def k18m2 : Method := { name := "checkLength", desc := "(II)V", sig := { parameters := [.int, .int], returnType := none }, accessFlags := 10, code := some k18c2 }
def k18c3 : Code := { maxStack := 3, maxLocals := 3, code := jdk_65_method_132_code, exceptionTable := #[], attributes := #[] }
def k18m3 : Method := { name := "copyOfRange", desc := "([BII)[B", sig := { parameters := [(.array .byte), .int, .int], returnType := some (.array .byte) }, accessFlags := 9, code := some k18c3 }
def k18c4 : Code := { maxStack := 6, maxLocals := 5, code := jdk_65_method_133_code, exceptionTable := #[], attributes := #[] }
def k18m4 : Method := { name := "copyOfRangeByte", desc := "([BII)[B", sig := { parameters := [(.array .byte), .int, .int], returnType := some (.array .byte) }, accessFlags := 10, code := some k18c4 }
/-- java/util/Arrays -/
def k18 : Class := { plain "java/util/Arrays" (some 0) with
  accessFlags := 49
  interfaces := #[]
  cf := some (fileOf pool18 14 #[.nestMembers #[975, 375, 113, 74]] #[{ accessFlags := 2, nameIndex := 5, descriptorIndex := 6, attributes := #[] }, { accessFlags := 9, nameIndex := 302, descriptorIndex := 869, attributes := #[] }, { accessFlags := 10, nameIndex := 345, descriptorIndex := 346, attributes := #[] }, { accessFlags := 9, nameIndex := 139, descriptorIndex := 342, attributes := #[] }, { accessFlags := 10, nameIndex := 341, descriptorIndex := 342, attributes := #[] }] 49 2 #[] #[{ accessFlags := 26, nameIndex := 715, descriptorIndex := 716, attributes := #[] }, { accessFlags := 26, nameIndex := 719, descriptorIndex := 716, attributes := #[] }, { accessFlags := 4120, nameIndex := 445, descriptorIndex := 117, attributes := #[] }])
  fields := #[{ name := "MIN_ARRAY_SORT_GRAN", type := .int, accessFlags := 26, slot := 0, constantValue := 0 }, { name := "INSERTIONSORT_THRESHOLD", type := .int, accessFlags := 26, slot := 1, constantValue := 0 }, { name := "$assertionsDisabled", type := .boolean, accessFlags := 4120, slot := 2, constantValue := 0 }]
  methods := #[k18m0, k18m1, k18m2, k18m3, k18m4]
  instanceTypes := #[]
  staticTypes := #[.int, .int, .boolean]
  resolved := Array.replicate 1029 none
  statics := none }

def pool19 : Array CpInfo := pool [(2, .class_ 4), (1, u "java/lang/Object"), (0, u "<init>"), (0, u "()V"), (1, .class_ 10), (1, u "java/lang/System"), (0, u "allowSecurityManager"), (0, u "I"), (16, u "cons"), (0, u "Ljava/io/Console;"), (77, .class_ 110), (1, u "java/lang/System$CallersHolder"), (43, u "initialErrStream"), (0, u "Ljava/io/PrintStream;"), (19, u "security"), (0, u "Ljava/lang/SecurityManager;"), (31, .class_ 209), (0, u "java/lang/System$1"), (7, u "props"), (0, u "Ljava/util/Properties;"), (2, u "lineSeparator"), (0, u "Ljava/lang/String;"), (96, .class_ 321), (1, u "java/lang/System$LoggerFinder"), (5, .class_ 328), (0, u "java/lang/System$Logger"), (67, u "err"), (2, u "out"), (91, u "notSupportedJnuEncoding"), (15, u "in"), (17, u "initialIn"), (0, u "Ljava/io/InputStream;"), (35, u "bootLayer"), (0, u "Ljava/lang/ModuleLayer;"), (99, .class_ 664), (0, u "java/lang/System$2"), (9, u "NEVER"), (2, u "MAYBE"), (49, u "arraycopy"), (0, u "(Ljava/lang/Object;ILjava/lang/Object;II)V"), (72, .class_ 802), (0, u "java/lang/System$Logger$Level")] 31

def k19m0 : Method := { name := "<init>", desc := "()V", sig := { parameters := [], returnType := none }, accessFlags := 2, code := none }
def k19m1 : Method := { name := "arraycopy", desc := "(Ljava/lang/Object;ILjava/lang/Object;II)V", sig := { parameters := [(.object "java/lang/Object"), .int, (.object "java/lang/Object"), .int, .int], returnType := none }, accessFlags := 265, code := none }
/-- java/lang/System -/
def k19 : Class := { plain "java/lang/System" (some 0) with
  accessFlags := 49
  interfaces := #[]
  cf := some (fileOf pool19 8 #[.nestMembers #[319, 327, 801, 108, 663, 208]] #[{ accessFlags := 2, nameIndex := 5, descriptorIndex := 6, attributes := #[] }, { accessFlags := 265, nameIndex := 727, descriptorIndex := 728, attributes := #[] }] 49 2 #[] #[{ accessFlags := 25, nameIndex := 507, descriptorIndex := 526, attributes := #[] }, { accessFlags := 25, nameIndex := 399, descriptorIndex := 155, attributes := #[] }, { accessFlags := 25, nameIndex := 396, descriptorIndex := 155, attributes := #[] }, { accessFlags := 10, nameIndex := 525, descriptorIndex := 526, attributes := #[] }, { accessFlags := 26, nameIndex := 674, descriptorIndex := 12, attributes := #[] }, { accessFlags := 26, nameIndex := 677, descriptorIndex := 12, attributes := #[] }, { accessFlags := 10, nameIndex := 11, descriptorIndex := 12, attributes := #[] }, { accessFlags := 74, nameIndex := 175, descriptorIndex := 176, attributes := #[] }, { accessFlags := 10, nameIndex := 491, descriptorIndex := 222, attributes := #[] }, { accessFlags := 74, nameIndex := 29, descriptorIndex := 30, attributes := #[] }, { accessFlags := 74, nameIndex := 154, descriptorIndex := 155, attributes := #[] }, { accessFlags := 10, nameIndex := 217, descriptorIndex := 218, attributes := #[] }, { accessFlags := 10, nameIndex := 221, descriptorIndex := 222, attributes := #[] }, { accessFlags := 8, nameIndex := 562, descriptorIndex := 563, attributes := #[] }])
  fields := #[{ name := "in", type := (.object "java/io/InputStream"), accessFlags := 25, slot := 0, constantValue := 0 }, { name := "out", type := (.object "java/io/PrintStream"), accessFlags := 25, slot := 1, constantValue := 0 }, { name := "err", type := (.object "java/io/PrintStream"), accessFlags := 25, slot := 2, constantValue := 0 }, { name := "initialIn", type := (.object "java/io/InputStream"), accessFlags := 10, slot := 3, constantValue := 0 }, { name := "NEVER", type := .int, accessFlags := 26, slot := 4, constantValue := 0 }, { name := "MAYBE", type := .int, accessFlags := 26, slot := 5, constantValue := 0 }, { name := "allowSecurityManager", type := .int, accessFlags := 10, slot := 6, constantValue := 0 }, { name := "security", type := (.object "java/lang/SecurityManager"), accessFlags := 74, slot := 7, constantValue := 0 }, { name := "notSupportedJnuEncoding", type := (.object "java/lang/String"), accessFlags := 10, slot := 8, constantValue := 0 }, { name := "cons", type := (.object "java/io/Console"), accessFlags := 74, slot := 9, constantValue := 0 }, { name := "initialErrStream", type := (.object "java/io/PrintStream"), accessFlags := 74, slot := 10, constantValue := 0 }, { name := "props", type := (.object "java/util/Properties"), accessFlags := 10, slot := 11, constantValue := 0 }, { name := "lineSeparator", type := (.object "java/lang/String"), accessFlags := 10, slot := 12, constantValue := 0 }, { name := "bootLayer", type := (.object "java/lang/ModuleLayer"), accessFlags := 8, slot := 13, constantValue := 0 }]
  methods := #[k19m0, k19m1]
  instanceTypes := #[]
  staticTypes := #[(.object "java/io/InputStream"), (.object "java/io/PrintStream"), (.object "java/io/PrintStream"), (.object "java/io/InputStream"), .int, .int, .int, (.object "java/lang/SecurityManager"), (.object "java/lang/String"), (.object "java/io/Console"), (.object "java/io/PrintStream"), (.object "java/util/Properties"), (.object "java/lang/String"), (.object "java/lang/ModuleLayer")]
  resolved := Array.replicate 834 none
  statics := none }

def pool20 : Array CpInfo := pool [(4, .class_ 6), (1, u "java/lang/Object"), (0, u "<init>"), (0, u "()V"), (5, .class_ 16), (1, u "java/lang/StringLatin1"), (104, u "$assertionsDisabled"), (0, u "Z"), (98, .class_ 223), (1, u "java/lang/StringLatin1$LinesSpliterator"), (57, u "equals"), (0, u "([B[B)Z"), (107, .class_ 391), (0, u "java/lang/StringLatin1$CharsSpliterator")] 3

def k20m0 : Method := { name := "<init>", desc := "()V", sig := { parameters := [], returnType := none }, accessFlags := 0, code := none }
def k20c1 : Code := { maxStack := 3, maxLocals := 3, code := jdk_43_method_13_code, exceptionTable := #[], attributes := #[] }
def k20m1 : Method := { name := "equals", desc := "([B[B)Z", sig := { parameters := [(.array .byte), (.array .byte)], returnType := some .boolean }, accessFlags := 9, code := some k20c1 }
/-- java/lang/StringLatin1 -/
def k20 : Class := { plain "java/lang/StringLatin1" (some 0) with
  accessFlags := 48
  interfaces := #[]
  cf := some (fileOf pool20 14 #[.nestMembers #[390, 221]] #[{ accessFlags := 0, nameIndex := 7, descriptorIndex := 8, attributes := #[] }, { accessFlags := 9, nameIndex := 281, descriptorIndex := 282, attributes := #[] }] 48 4 #[] #[{ accessFlags := 4120, nameIndex := 121, descriptorIndex := 122, attributes := #[] }])
  fields := #[{ name := "$assertionsDisabled", type := .boolean, accessFlags := 4120, slot := 0, constantValue := 0 }]
  methods := #[k20m0, k20m1]
  instanceTypes := #[]
  staticTypes := #[.boolean]
  resolved := Array.replicate 395 none
  statics := none }

def pool21 : Array CpInfo := pool [(1, .class_ 2), (0, u "java/lang/Cloneable"), (0, .class_ 4), (0, u "java/lang/Object")] 2

/-- java/lang/Cloneable -/
def k21 : Class := { plain "java/lang/Cloneable" (some 0) with
  accessFlags := 1537
  interfaces := #[]
  cf := some (fileOf pool21 1 #[] #[] 1537 3 #[] #[])
  fields := #[]
  methods := #[]
  instanceTypes := #[]
  staticTypes := #[]
  resolved := Array.replicate 7 none
  statics := none }

def pool22 : Array CpInfo := pool [(2, .class_ 4), (1, u "java/lang/Object"), (0, u "<init>"), (0, u "()V"), (17, .class_ 26), (1, u "jdk/internal/util/Preconditions"), (28, .class_ 56), (0, u "jdk/internal/util/Preconditions$4"), (57, .class_ 115), (0, u "jdk/internal/util/Preconditions$1"), (7, u "SIOOBE_FORMATTER"), (0, u "Ljava/util/function/BiFunction;"), (0, .class_ 126), (0, u "jdk/internal/util/Preconditions$2"), (3, u "AIOOBE_FORMATTER"), (0, .class_ 132), (0, u "jdk/internal/util/Preconditions$3"), (3, u "IOOBE_FORMATTER")] 57

def k22m0 : Method := { name := "<init>", desc := "()V", sig := { parameters := [], returnType := none }, accessFlags := 1, code := none }
/-- jdk/internal/util/Preconditions -/
def k22 : Class := { plain "jdk/internal/util/Preconditions" (some 0) with
  accessFlags := 33
  interfaces := #[]
  cf := some (fileOf pool22 24 #[.nestMembers #[55, 131, 125, 114]] #[{ accessFlags := 1, nameIndex := 5, descriptorIndex := 6, attributes := #[] }] 33 2 #[] #[{ accessFlags := 25, nameIndex := 123, descriptorIndex := 124, attributes := #[] }, { accessFlags := 25, nameIndex := 130, descriptorIndex := 124, attributes := #[] }, { accessFlags := 25, nameIndex := 136, descriptorIndex := 124, attributes := #[] }])
  fields := #[{ name := "SIOOBE_FORMATTER", type := (.object "java/util/function/BiFunction"), accessFlags := 25, slot := 0, constantValue := 0 }, { name := "AIOOBE_FORMATTER", type := (.object "java/util/function/BiFunction"), accessFlags := 25, slot := 1, constantValue := 0 }, { name := "IOOBE_FORMATTER", type := (.object "java/util/function/BiFunction"), accessFlags := 25, slot := 2, constantValue := 0 }]
  methods := #[k22m0]
  instanceTypes := #[]
  staticTypes := #[(.object "java/util/function/BiFunction"), (.object "java/util/function/BiFunction"), (.object "java/util/function/BiFunction")]
  resolved := Array.replicate 194 none
  statics := some 2 }

def pool23 : Array CpInfo := pool [(2, .class_ 4), (1, u "java/lang/Object"), (0, u "<init>"), (0, u "()V"), (12, .class_ 20), (0, u "java/util/Collections"), (63, u "r"), (0, u "Ljava/util/Random;"), (80, .class_ 167), (0, u "java/util/Collections$UnmodifiableCollection"), (6, .class_ 175), (0, u "java/util/Collections$UnmodifiableSequencedCollection"), (6, .class_ 183), (0, u "java/util/Collections$UnmodifiableSet"), (6, .class_ 191), (0, u "java/util/Collections$UnmodifiableSequencedSet"), (6, .class_ 199), (0, u "java/util/Collections$UnmodifiableSortedSet"), (6, .class_ 207), (0, u "java/util/Collections$UnmodifiableNavigableSet"), (4, .class_ 213), (0, u "java/util/Collections$UnmodifiableList"), (1, .class_ 216), (0, u "java/util/Collections$UnmodifiableRandomAccessList"), (6, .class_ 224), (0, u "java/util/Collections$UnmodifiableMap"), (6, .class_ 232), (0, u "java/util/Collections$UnmodifiableSequencedMap"), (4, .class_ 238), (0, u "java/util/Collections$UnmodifiableSortedMap"), (6, .class_ 246), (0, u "java/util/Collections$UnmodifiableNavigableMap"), (3, .class_ 251), (0, u "java/util/Collections$SynchronizedCollection"), (4, .class_ 257), (0, u "java/util/Collections$SynchronizedSet"), (4, .class_ 263), (0, u "java/util/Collections$SynchronizedSortedSet"), (1, .class_ 266), (0, u "java/util/Collections$SynchronizedNavigableSet"), (1, .class_ 269), (0, u "java/util/Collections$SynchronizedRandomAccessList"), (1, .class_ 272), (0, u "java/util/Collections$SynchronizedList"), (5, .class_ 279), (0, u "java/util/Collections$SynchronizedMap"), (1, .class_ 282), (0, u "java/util/Collections$SynchronizedSortedMap"), (1, .class_ 285), (0, u "java/util/Collections$SynchronizedNavigableMap"), (1, .class_ 288), (0, u "java/util/Collections$CheckedCollection"), (11, .class_ 301), (0, u "java/util/Collections$CheckedQueue"), (3, .class_ 306), (0, u "java/util/Collections$CheckedSet"), (3, .class_ 311), (0, u "java/util/Collections$CheckedSortedSet"), (3, .class_ 316), (0, u "java/util/Collections$CheckedNavigableSet"), (3, .class_ 321), (0, u "java/util/Collections$CheckedRandomAccessList"), (3, .class_ 326), (0, u "java/util/Collections$CheckedList"), (1, .class_ 329), (0, u "java/util/Collections$CheckedMap"), (3, .class_ 334), (0, u "java/util/Collections$CheckedSortedMap"), (3, .class_ 339), (0, u "java/util/Collections$CheckedNavigableMap"), (4, .class_ 346), (1, u "java/util/Collections$EmptyIterator"), (3, .class_ 352), (1, u "java/util/Collections$EmptyListIterator"), (2, .class_ 357), (1, u "java/util/Collections$EmptyEnumeration"), (4, u "EMPTY_SET"), (0, u "Ljava/util/Set;"), (6, u "EMPTY_LIST"), (0, u "Ljava/util/List;"), (2, u "EMPTY_MAP"), (0, u "Ljava/util/Map;"), (4, .class_ 381), (0, u "java/util/Collections$SingletonSet"), (2, .class_ 385), (0, u "java/util/Collections$1"), (1, .class_ 388), (0, u "java/util/Collections$2"), (1, .class_ 391), (0, u "java/util/Collections$SingletonList"), (1, .class_ 394), (0, u "java/util/Collections$SingletonMap"), (22, .class_ 418), (0, u "java/util/Collections$CopiesList"), (4, .class_ 425), (1, u "java/util/Collections$ReverseComparator"), (8, .class_ 435), (0, u "java/util/Collections$ReverseComparator2"), (6, .class_ 443), (0, u "java/util/Collections$3"), (25, .class_ 470), (0, u "java/util/Collections$SetFromMap"), (2, .class_ 474), (0, u "java/util/Collections$SequencedSetFromMap"), (3, .class_ 479), (0, u "java/util/Collections$AsLIFOQueue"), (11, .class_ 492), (0, u "java/util/Collections$EmptySet"), (1, .class_ 495), (0, u "java/util/Collections$EmptyList"), (1, .class_ 498), (0, u "java/util/Collections$EmptyMap"), (1, u "BINARYSEARCH_THRESHOLD"), (0, u "I"), (2, u "REVERSE_THRESHOLD"), (1, u "SHUFFLE_THRESHOLD"), (1, u "FILL_THRESHOLD"), (1, u "ROTATE_THRESHOLD"), (1, u "COPY_THRESHOLD"), (1, u "REPLACEALL_THRESHOLD"), (1, u "INDEXOFSUBLIST_THRESHOLD"), (333, .class_ 851), (0, u "java/util/Collections$CheckedMap$CheckedEntrySet"), (0, .class_ 853), (0, u "java/util/Collections$CheckedMap$CheckedEntrySet$CheckedEntry"), (0, .class_ 855), (0, u "java/util/Collections$CheckedMap$CheckedEntrySet$1"), (0, .class_ 857), (0, u "java/util/Collections$CheckedList$1"), (0, .class_ 859), (0, u "java/util/Collections$CheckedCollection$1"), (0, .class_ 861), (0, u "java/util/Collections$UnmodifiableNavigableMap$EmptyNavigableMap"), (0, .class_ 863), (0, u "java/util/Collections$UnmodifiableMap$UnmodifiableEntrySet"), (0, .class_ 865), (0, u "java/util/Collections$UnmodifiableMap$UnmodifiableEntrySet$UnmodifiableEntry"), (0, .class_ 867), (0, u "java/util/Collections$UnmodifiableMap$UnmodifiableEntrySet$UnmodifiableEntrySetSpliterator"), (0, .class_ 869), (0, u "java/util/Collections$UnmodifiableMap$UnmodifiableEntrySet$1"), (0, .class_ 871), (0, u "java/util/Collections$UnmodifiableList$1"), (0, .class_ 873), (0, u "java/util/Collections$UnmodifiableNavigableSet$EmptyNavigableSet"), (0, .class_ 875), (0, u "java/util/Collections$UnmodifiableCollection$1")] 57

def k23m0 : Method := { name := "<init>", desc := "()V", sig := { parameters := [], returnType := none }, accessFlags := 2, code := none }
/-- java/util/Collections -/
def k23 : Class := { plain "java/util/Collections" (some 0) with
  accessFlags := 33
  interfaces := #[]
  cf := some (fileOf pool23 19 #[.nestMembers #[478, 473, 469, 434, 423, 417, 393, 390, 380, 497, 494, 491, 355, 350, 344, 338, 333, 328, 850, 852, 854, 320, 325, 856, 315, 310, 305, 300, 287, 858, 284, 281, 278, 268, 271, 265, 262, 256, 250, 245, 860, 237, 231, 223, 862, 864, 866, 868, 215, 212, 870, 206, 872, 198, 190, 182, 174, 166, 874, 442, 387, 384]] #[{ accessFlags := 2, nameIndex := 5, descriptorIndex := 6, attributes := #[] }] 33 2 #[] #[{ accessFlags := 26, nameIndex := 500, descriptorIndex := 501, attributes := #[] }, { accessFlags := 26, nameIndex := 504, descriptorIndex := 501, attributes := #[] }, { accessFlags := 26, nameIndex := 506, descriptorIndex := 501, attributes := #[] }, { accessFlags := 26, nameIndex := 508, descriptorIndex := 501, attributes := #[] }, { accessFlags := 26, nameIndex := 510, descriptorIndex := 501, attributes := #[] }, { accessFlags := 26, nameIndex := 512, descriptorIndex := 501, attributes := #[] }, { accessFlags := 26, nameIndex := 514, descriptorIndex := 501, attributes := #[] }, { accessFlags := 26, nameIndex := 516, descriptorIndex := 501, attributes := #[] }, { accessFlags := 10, nameIndex := 84, descriptorIndex := 85, attributes := #[] }, { accessFlags := 25, nameIndex := 362, descriptorIndex := 363, attributes := #[] }, { accessFlags := 25, nameIndex := 370, descriptorIndex := 371, attributes := #[] }, { accessFlags := 25, nameIndex := 374, descriptorIndex := 375, attributes := #[] }])
  fields := #[{ name := "BINARYSEARCH_THRESHOLD", type := .int, accessFlags := 26, slot := 0, constantValue := 0 }, { name := "REVERSE_THRESHOLD", type := .int, accessFlags := 26, slot := 1, constantValue := 0 }, { name := "SHUFFLE_THRESHOLD", type := .int, accessFlags := 26, slot := 2, constantValue := 0 }, { name := "FILL_THRESHOLD", type := .int, accessFlags := 26, slot := 3, constantValue := 0 }, { name := "ROTATE_THRESHOLD", type := .int, accessFlags := 26, slot := 4, constantValue := 0 }, { name := "COPY_THRESHOLD", type := .int, accessFlags := 26, slot := 5, constantValue := 0 }, { name := "REPLACEALL_THRESHOLD", type := .int, accessFlags := 26, slot := 6, constantValue := 0 }, { name := "INDEXOFSUBLIST_THRESHOLD", type := .int, accessFlags := 26, slot := 7, constantValue := 0 }, { name := "r", type := (.object "java/util/Random"), accessFlags := 10, slot := 8, constantValue := 0 }, { name := "EMPTY_SET", type := (.object "java/util/Set"), accessFlags := 25, slot := 9, constantValue := 0 }, { name := "EMPTY_LIST", type := (.object "java/util/List"), accessFlags := 25, slot := 10, constantValue := 0 }, { name := "EMPTY_MAP", type := (.object "java/util/Map"), accessFlags := 25, slot := 11, constantValue := 0 }]
  methods := #[k23m0]
  instanceTypes := #[]
  staticTypes := #[.int, .int, .int, .int, .int, .int, .int, .int, (.object "java/util/Random"), (.object "java/util/Set"), (.object "java/util/List"), (.object "java/util/Map")]
  resolved := Array.replicate 933 none
  statics := some 3 }

def pool24 : Array CpInfo := pool [(8, .class_ 10), (1, u "java/lang/Iterable"), (24, .class_ 36), (0, u "java/lang/Object")] 25

/-- java/lang/Iterable -/
def k24 : Class := { plain "java/lang/Iterable" (some 0) with
  accessFlags := 1537
  interfaces := #[]
  cf := some (fileOf pool24 8 #[] #[] 1537 35 #[] #[])
  fields := #[]
  methods := #[]
  instanceTypes := #[]
  staticTypes := #[]
  resolved := Array.replicate 62 none
  statics := none }

def pool25 : Array CpInfo := pool [(10, .class_ 12), (1, u "java/util/Collection"), (47, .class_ 61), (0, u "java/lang/Object"), (0, .class_ 63), (0, u "java/lang/Iterable")] 51

/-- java/util/Collection -/
def k25 : Class := { plain "java/util/Collection" (some 0) with
  accessFlags := 1537
  interfaces := #[24]
  cf := some (fileOf pool25 10 #[] #[] 1537 60 #[62] #[])
  fields := #[]
  methods := #[]
  instanceTypes := #[]
  staticTypes := #[]
  resolved := Array.replicate 115 none
  statics := none }

def pool26 : Array CpInfo := pool [(2, .class_ 4), (1, u "java/lang/Object"), (0, u "<init>"), (0, u "()V"), (1, .class_ 10), (1, u "java/util/AbstractCollection"), (66, .class_ 78), (0, u "java/util/Collection")] 81

def k26m0 : Method := { name := "<init>", desc := "()V", sig := { parameters := [], returnType := none }, accessFlags := 4, code := none }
/-- java/util/AbstractCollection -/
def k26 : Class := { plain "java/util/AbstractCollection" (some 0) with
  accessFlags := 1057
  interfaces := #[25]
  cf := some (fileOf pool26 8 #[] #[{ accessFlags := 4, nameIndex := 5, descriptorIndex := 6, attributes := #[] }] 1057 2 #[77] #[])
  fields := #[]
  methods := #[k26m0]
  instanceTypes := #[]
  staticTypes := #[]
  resolved := Array.replicate 160 none
  statics := none }

def pool27 : Array CpInfo := pool [(8, .class_ 10), (1, u "java/util/SequencedCollection"), (15, .class_ 27), (0, u "java/lang/Object"), (0, .class_ 29), (0, u "java/util/Collection")] 27

/-- java/util/SequencedCollection -/
def k27 : Class := { plain "java/util/SequencedCollection" (some 0) with
  accessFlags := 1537
  interfaces := #[25]
  cf := some (fileOf pool27 8 #[] #[] 1537 26 #[28] #[])
  fields := #[]
  methods := #[]
  instanceTypes := #[]
  staticTypes := #[]
  resolved := Array.replicate 57 none
  statics := none }

def pool28 : Array CpInfo := pool [(8, .class_ 10), (1, u "java/util/List"), (92, .class_ 104), (0, u "java/lang/Object"), (15, .class_ 121), (0, u "java/util/SequencedCollection")] 129

/-- java/util/List -/
def k28 : Class := { plain "java/util/List" (some 0) with
  accessFlags := 1537
  interfaces := #[27]
  cf := some (fileOf pool28 8 #[] #[] 1537 103 #[120] #[])
  fields := #[]
  methods := #[]
  instanceTypes := #[]
  staticTypes := #[]
  resolved := Array.replicate 251 none
  statics := none }

def pool29 : Array CpInfo := pool [(2, .class_ 4), (1, u "java/util/AbstractCollection"), (0, u "<init>"), (0, u "()V"), (1, .class_ 10), (1, u "java/util/AbstractList"), (0, u "modCount"), (0, u "I"), (64, .class_ 78), (0, u "java/util/AbstractList$Itr"), (3, .class_ 83), (0, u "java/util/AbstractList$ListItr"), (9, .class_ 94), (0, u "java/util/AbstractList$RandomAccessSubList"), (3, .class_ 99), (0, u "java/util/AbstractList$SubList"), (33, .class_ 134), (0, u "java/util/List"), (73, .class_ 209), (0, u "java/util/AbstractList$SubList$1"), (0, .class_ 211), (0, u "java/util/AbstractList$RandomAccessSpliterator")] 6

def k29m0 : Method := { name := "<init>", desc := "()V", sig := { parameters := [], returnType := none }, accessFlags := 4, code := none }
/-- java/util/AbstractList -/
def k29 : Class := { plain "java/util/AbstractList" (some 26) with
  accessFlags := 1057
  interfaces := #[28]
  cf := some (fileOf pool29 8 #[.nestMembers #[93, 98, 208, 210, 82, 77]] #[{ accessFlags := 4, nameIndex := 5, descriptorIndex := 6, attributes := #[] }] 1057 2 #[133] #[{ accessFlags := 132, nameIndex := 11, descriptorIndex := 12, attributes := #[] }])
  fields := #[{ name := "modCount", type := .int, accessFlags := 132, slot := 0, constantValue := 0 }]
  methods := #[k29m0]
  instanceTypes := #[.int]
  staticTypes := #[]
  resolved := Array.replicate 218 none
  statics := none }

def pool30 : Array CpInfo := pool [(1, .class_ 2), (0, u "java/util/RandomAccess"), (0, .class_ 4), (0, u "java/lang/Object")] 2

/-- java/util/RandomAccess -/
def k30 : Class := { plain "java/util/RandomAccess" (some 0) with
  accessFlags := 1537
  interfaces := #[]
  cf := some (fileOf pool30 1 #[] #[] 1537 3 #[] #[])
  fields := #[]
  methods := #[]
  instanceTypes := #[]
  staticTypes := #[]
  resolved := Array.replicate 7 none
  statics := none }

def pool31 : Array CpInfo := pool [(2, .class_ 4), (1, u "java/util/AbstractList"), (0, u "<init>"), (0, u "()V"), (1, .class_ 10), (1, u "java/util/Collections"), (54, .class_ 66), (0, u "java/util/Collections$EmptyList"), (0, .class_ 68), (0, u "java/util/RandomAccess"), (0, .class_ 70), (0, u "java/io/Serializable"), (0, u "serialVersionUID"), (0, u "J")] 77

def k31m0 : Method := { name := "<init>", desc := "()V", sig := { parameters := [], returnType := none }, accessFlags := 2, code := none }
/-- java/util/Collections$EmptyList -/
def k31 : Class := { plain "java/util/Collections$EmptyList" (some 29) with
  accessFlags := 32
  interfaces := #[30, 2]
  cf := some (fileOf pool31 65 #[.nestHost 8] #[{ accessFlags := 2, nameIndex := 5, descriptorIndex := 6, attributes := #[] }] 32 2 #[67, 69] #[{ accessFlags := 26, nameIndex := 71, descriptorIndex := 72, attributes := #[] }])
  fields := #[{ name := "serialVersionUID", type := .long, accessFlags := 26, slot := 0, constantValue := 0 }]
  methods := #[k31m0]
  instanceTypes := #[.int]
  staticTypes := #[.long]
  resolved := Array.replicate 150 none
  statics := none }

def pool32 : Array CpInfo := pool [(2, .class_ 4), (1, u "java/lang/StackTraceElement"), (0, u "<init>"), (2, .class_ 10), (1, u "java/lang/Object"), (0, u "()V"), (2, u "format"), (0, u "B"), (2, u "classLoaderName"), (0, u "Ljava/lang/String;"), (2, u "moduleName"), (2, u "moduleVersion"), (12, u "declaringClass"), (4, u "methodName"), (2, u "fileName"), (2, u "lineNumber"), (0, u "I"), (65, u "declaringClassObject"), (0, u "Ljava/lang/Class;"), (33, .class_ 153), (1, u "java/lang/StackTraceElement$HashedModules"), (17, .class_ 172), (0, u "java/io/Serializable"), (0, u "NATIVE_METHOD"), (1, u "UNKNOWN_SOURCE"), (2, u "BUILTIN_CLASS_LOADER"), (1, u "JDK_NON_UPGRADEABLE_MODULE"), (1, u "serialVersionUID"), (0, u "J")] 51

def k32m0 : Method := { name := "<init>", desc := "()V", sig := { parameters := [], returnType := none }, accessFlags := 2, code := none }
/-- java/lang/StackTraceElement -/
def k32 : Class := { plain "java/lang/StackTraceElement" (some 0) with
  accessFlags := 49
  interfaces := #[2]
  cf := some (fileOf pool32 2 #[.nestMembers #[151]] #[{ accessFlags := 2, nameIndex := 5, descriptorIndex := 11, attributes := #[] }] 49 8 #[171] #[{ accessFlags := 26, nameIndex := 173, descriptorIndex := 19, attributes := #[] }, { accessFlags := 26, nameIndex := 175, descriptorIndex := 19, attributes := #[] }, { accessFlags := 130, nameIndex := 116, descriptorIndex := 117, attributes := #[] }, { accessFlags := 2, nameIndex := 18, descriptorIndex := 19, attributes := #[] }, { accessFlags := 2, nameIndex := 22, descriptorIndex := 19, attributes := #[] }, { accessFlags := 2, nameIndex := 25, descriptorIndex := 19, attributes := #[] }, { accessFlags := 2, nameIndex := 38, descriptorIndex := 19, attributes := #[] }, { accessFlags := 2, nameIndex := 43, descriptorIndex := 19, attributes := #[] }, { accessFlags := 2, nameIndex := 46, descriptorIndex := 19, attributes := #[] }, { accessFlags := 2, nameIndex := 49, descriptorIndex := 50, attributes := #[] }, { accessFlags := 2, nameIndex := 14, descriptorIndex := 15, attributes := #[] }, { accessFlags := 26, nameIndex := 178, descriptorIndex := 15, attributes := #[] }, { accessFlags := 26, nameIndex := 180, descriptorIndex := 15, attributes := #[] }, { accessFlags := 26, nameIndex := 182, descriptorIndex := 183, attributes := #[] }])
  fields := #[{ name := "NATIVE_METHOD", type := (.object "java/lang/String"), accessFlags := 26, slot := 0, constantValue := 0 }, { name := "UNKNOWN_SOURCE", type := (.object "java/lang/String"), accessFlags := 26, slot := 1, constantValue := 0 }, { name := "declaringClassObject", type := (.object "java/lang/Class"), accessFlags := 130, slot := 0, constantValue := 0 }, { name := "classLoaderName", type := (.object "java/lang/String"), accessFlags := 2, slot := 1, constantValue := 0 }, { name := "moduleName", type := (.object "java/lang/String"), accessFlags := 2, slot := 2, constantValue := 0 }, { name := "moduleVersion", type := (.object "java/lang/String"), accessFlags := 2, slot := 3, constantValue := 0 }, { name := "declaringClass", type := (.object "java/lang/String"), accessFlags := 2, slot := 4, constantValue := 0 }, { name := "methodName", type := (.object "java/lang/String"), accessFlags := 2, slot := 5, constantValue := 0 }, { name := "fileName", type := (.object "java/lang/String"), accessFlags := 2, slot := 6, constantValue := 0 }, { name := "lineNumber", type := .int, accessFlags := 2, slot := 7, constantValue := 0 }, { name := "format", type := .byte, accessFlags := 2, slot := 8, constantValue := 0 }, { name := "BUILTIN_CLASS_LOADER", type := .byte, accessFlags := 26, slot := 2, constantValue := 0 }, { name := "JDK_NON_UPGRADEABLE_MODULE", type := .byte, accessFlags := 26, slot := 3, constantValue := 0 }, { name := "serialVersionUID", type := .long, accessFlags := 26, slot := 4, constantValue := 0 }]
  methods := #[k32m0]
  instanceTypes := #[(.object "java/lang/Class"), (.object "java/lang/String"), (.object "java/lang/String"), (.object "java/lang/String"), (.object "java/lang/String"), (.object "java/lang/String"), (.object "java/lang/String"), .int, .byte]
  staticTypes := #[(.object "java/lang/String"), (.object "java/lang/String"), .byte, .byte, .long]
  resolved := Array.replicate 235 none
  statics := none }

/-- the primitive byte -/
def k33 : Class := { plain "byte" none with kind := .primitive 'B', accessFlags := 0x411 }
/-- [B -/
def k34 : Class := { plain "[B" (some 0) with kind := .array 33 .byte, interfaces := #[21, 2], accessFlags := 1041 }

/-- the primitive char -/
def k35 : Class := { plain "char" none with kind := .primitive 'C', accessFlags := 0x411 }
/-- [C -/
def k36 : Class := { plain "[C" (some 0) with kind := .array 35 .char, interfaces := #[21, 2], accessFlags := 1041 }

/-- the primitive int -/
def k37 : Class := { plain "int" none with kind := .primitive 'I', accessFlags := 0x411 }
/-- [I -/
def k38 : Class := { plain "[I" (some 0) with kind := .array 37 .int, interfaces := #[21, 2], accessFlags := 1041 }

/-- [Ljava/lang/Object; -/
def k39 : Class := { plain "[Ljava/lang/Object;" (some 0) with kind := .array 0 (.object "java/lang/Object"), interfaces := #[21, 2], accessFlags := 1041 }

/-- [Ljava/lang/StackTraceElement; -/
def k40 : Class := { plain "[Ljava/lang/StackTraceElement;" (some 0) with kind := .array 32 (.object "java/lang/StackTraceElement"), interfaces := #[21, 2], accessFlags := 1041 }

/-- [Ljava/lang/Throwable; -/
def k41 : Class := { plain "[Ljava/lang/Throwable;" (some 0) with kind := .array 10 (.object "java/lang/Throwable"), interfaces := #[21, 2], accessFlags := 1041 }

def heap : Heap := #[{ cls := 7, slots := #[.long 0, .int 1, .null, .int 0, .null, .int 0, .int 0], vm := .statics 7 },
  { cls := 10, slots := #[.long 0, .ref 4, .ref 5, .null, .null, .null, .null, .ref 6, .int 1], vm := .statics 10 },
  { cls := 22, slots := #[.null, .null, .null], vm := .statics 22 },
  { cls := 23, slots := #[.int 0, .int 0, .int 0, .int 0, .int 0, .int 0, .int 0, .int 0, .null, .null, .ref 5, .null], vm := .statics 23 },
  { cls := 40, slots := #[], vm := .none },
  { cls := 31, slots := #[.int 0], vm := .none },
  { cls := 41, slots := #[], vm := .none }]
def classes : Array Class := #[k0, k1, k2, k3, k4, k5, k6, k7, k8, k9, k10, k11, k12, k13, k14, k15, k16, k17, k18, k19, k20, k21, k22, k23, k24, k25, k26, k27, k28, k29, k30, k31, k32, k33, k34, k35, k36, k37, k38, k39, k40, k41]
def interned : List (Array UInt16 × Addr) := []
def slotsUsed : Nat := 32
def theMethod : MethodId := ⟨1, 1⟩
def args0 : Array Value := #[.int 0, .int 0, .int 0, .int 0, .int 0]
def aboutOver (below : List Frame) : State where
  vm := { classes := classes, interned := interned.toArray }
  heap := heap
  slotsUsed := slotsUsed
  threads := #[{ frames := .invoking theMethod args0 :: below }]
def below0 : List Frame := [.native { method := ⟨0, 0⟩, args := #[] }]
def about1 : State := aboutOver below0
def p0 : Program := .bare "" "" ""
def e0 : Env := launch0.env 0 0 0
theorem w_frames : about1.frames = Frame.invoking theMethod args0 :: below0 := rfl
set_option maxRecDepth 65536 in
theorem w_args : argsFit about1.vm theMethod args0 = true := by decide +kernel
set_option maxRecDepth 65536 in
theorem w_heap : heapFits about1 = true := by decide +kernel
set_option maxRecDepth 65536 in
theorem w_runnable : about1.curStatus? = some .runnable := by decide +kernel
set_option maxRecDepth 65536 in
theorem w_alone : about1.alone = true := by decide +kernel
set_option maxRecDepth 65536 in
theorem w_named : about1.methodNamed? x = some theMethod := by decide +kernel
set_option maxRecDepth 65536 in
theorem w_hears : about1.hears theMethod below0 = true := by decide +kernel
set_option maxRecDepth 65536 in
theorem w_ripe : about1.ripe theMethod args0 below0 = true := by decide +kernel
theorem w_running : about1.status = .running := rfl
set_option maxRecDepth 65536 in
theorem w_room : about1.hasRoom e0.platform room_1 = true :=
  launch0.hasRoom_least _ room_1 (by decide +kernel) (by decide +kernel) (by decide +kernel) (by decide +kernel) (by decide +kernel) (by decide +kernel)
theorem allAtoms_all (ts : List Jvm.Cond) (a : Array Jvm.Value) (st : Jvm.State) : (allAtoms ts).before a st = ts.all (fun c => c.before a st) := by
  induction ts with
  | nil => rfl
  | cons c t ih =>
    show (Jvm.Cond.and c (allAtoms t)).before a st = _
    rw [Jvm.Cond.before_and, ih, List.all_cons]
def words1 : List Jvm.Cond := Jvm.Cond.code x code maxLocals ret :: tables_1
/-- a 'code' word, met by the world's own term for the bytes: nothing is compared byte by byte -/
theorem code_word {y : MethodName} {bytes : ByteArray} {mx : Nat} {rt : Option FieldType} {a : Array Value} {s : State} {m : MethodId} {meth : Method} {c : Code} (h1 : s.methodNamed? y = some m) (h2 : s.vm.method? m = some meth) (h3 : meth.code = some c) (h4 : c.code = bytes)
    (h5 : (c.maxLocals == mx && c.exceptionTable.isEmpty && decide (c.maxStack ≤ mostOperands) && decide (meth.sig.returnType = rt) && !meth.locks && decide (parseMethodDescriptor y.desc = some meth.sig)) = true) : (Jvm.Cond.code y bytes mx rt).before a s = true := by
  simp only [Bool.and_eq_true, beq_iff_eq, Bool.not_eq_true', decide_eq_true_eq] at h5
  obtain ⟨⟨⟨⟨⟨g1, g2⟩, g3⟩, g4⟩, g5⟩, g6⟩ := h5
  simp [Cond.before, Cond.holds, Cond.value, h1, h2, h3, h4, g1, g2, g3, g4, g5, g6]
def isCode : Jvm.Cond → Bool
  | .code _ _ _ _ => true
  | _ => false
theorem all_split {L : List Jvm.Cond} {P : Jvm.Cond → Bool} (h1 : L.all (fun c => isCode c || P c) = true) (h2 : ∀ c ∈ L.filter isCode, P c = true) : L.all P = true := by
  refine List.all_eq_true.mpr fun c hc => ?_
  have h := List.all_eq_true.mp h1 c hc
  rcases Bool.eq_false_or_eq_true (isCode c) with hi | hi
  · exact h2 c (List.mem_filter.mpr ⟨hc, hi⟩)
  · simpa [hi] using h
set_option maxRecDepth 65536 in
theorem w_c0 : (Jvm.Cond.code x code maxLocals ret).before args0 about1 = true := code_word (m := ⟨1, 1⟩) (meth := k1m1) (c := k1c1) (by decide +kernel) rfl rfl rfl (by decide +kernel)
set_option maxRecDepth 65536 in
theorem w_c1 : (Jvm.Cond.code ({ cls := "com/example/loopd/loopd/FlagsUnexpectedPinLaw", name := "makeWord", desc := "(ICCC)Ljava/lang/String;" } : Jvm.MethodName) method_3_code (4 : Nat) (Option.some (Jvm.ClassFile.FieldType.object "java/lang/String"))).before args0 about1 = true := code_word (m := ⟨1, 2⟩) (meth := k1m2) (c := k1c2) (by decide +kernel) rfl rfl rfl (by decide +kernel)
set_option maxRecDepth 65536 in
theorem w_c2 : (Jvm.Cond.code ({ cls := "java/lang/String", name := "<init>", desc := "([C)V" } : Jvm.MethodName) jdk_42_method_3_code (2 : Nat) (Option.none : Option Jvm.ClassFile.FieldType)).before args0 about1 = true := code_word (m := ⟨7, 1⟩) (meth := k7m1) (c := k7c1) (by decide +kernel) rfl rfl rfl (by decide +kernel)
set_option maxRecDepth 65536 in
theorem w_c3 : (Jvm.Cond.code ({ cls := "java/lang/String", name := "<init>", desc := "([CIILjava/lang/Void;)V" } : Jvm.MethodName) jdk_42_method_149_code (6 : Nat) (Option.none : Option Jvm.ClassFile.FieldType)).before args0 about1 = true := code_word (m := ⟨7, 8⟩) (meth := k7m8) (c := k7c8) (by decide +kernel) rfl rfl rfl (by decide +kernel)
set_option maxRecDepth 65536 in
theorem w_c4 : (Jvm.Cond.code ({ cls := "java/lang/Object", name := "<init>", desc := "()V" } : Jvm.MethodName) object_method_1_code (1 : Nat) (Option.none : Option Jvm.ClassFile.FieldType)).before args0 about1 = true := code_word (m := ⟨0, 0⟩) (meth := k0m0) (c := k0c0) (by decide +kernel) rfl rfl rfl (by decide +kernel)
set_option maxRecDepth 65536 in
theorem w_c5 : (Jvm.Cond.code ({ cls := "com/example/loopd/loopd/FlagsUnexpectedPinLaw", name := "expected", desc := "(ZICCC)Ljava/lang/String;" } : Jvm.MethodName) method_4_code (5 : Nat) (Option.some (Jvm.ClassFile.FieldType.object "java/lang/String"))).before args0 about1 = true := code_word (m := ⟨1, 3⟩) (meth := k1m3) (c := k1c3) (by decide +kernel) rfl rfl rfl (by decide +kernel)
set_option maxRecDepth 65536 in
theorem w_c6 : (Jvm.Cond.code ({ cls := "java/lang/StringUTF16", name := "compress", desc := "([CII)[B" } : Jvm.MethodName) jdk_52_method_16_code (6 : Nat) (Option.some (Jvm.ClassFile.FieldType.array Jvm.ClassFile.FieldType.byte))).before args0 about1 = true := code_word (m := ⟨8, 2⟩) (meth := k8m2) (c := k8c2) (by decide +kernel) rfl rfl rfl (by decide +kernel)
set_option maxRecDepth 65536 in
theorem w_c7 : (Jvm.Cond.code ({ cls := "java/lang/StringUTF16", name := "compress", desc := "([CI[BII)I" } : Jvm.MethodName) jdk_52_method_21_code (7 : Nat) (Option.some Jvm.ClassFile.FieldType.int)).before args0 about1 = true := code_word (m := ⟨8, 3⟩) (meth := k8m3) (c := k8c3) (by decide +kernel) rfl rfl rfl (by decide +kernel)
set_option maxRecDepth 65536 in
theorem w_c8 : (Jvm.Cond.code ({ cls := "java/lang/StringUTF16", name := "coderFromArrayLen", desc := "([BI)B" } : Jvm.MethodName) jdk_52_method_15_code (2 : Nat) (Option.some Jvm.ClassFile.FieldType.byte)).before args0 about1 = true := code_word (m := ⟨8, 1⟩) (meth := k8m1) (c := k8c1) (by decide +kernel) rfl rfl rfl (by decide +kernel)
set_option maxRecDepth 65536 in
theorem w_c9 : (Jvm.Cond.code ({ cls := "com/example/loopd/loopd/Flags", name := "unexpected", desc := "(Ljava/lang/String;)Lcom/example/loopd/loopd/UsageException;" } : Jvm.MethodName) prog_1_method_4_code (1 : Nat) (Option.some (Jvm.ClassFile.FieldType.object "com/example/loopd/loopd/UsageException"))).before args0 about1 = true := code_word (m := ⟨9, 1⟩) (meth := k9m1) (c := k9c1) (by decide +kernel) rfl rfl rfl (by decide +kernel)
set_option maxRecDepth 65536 in
theorem w_c10 : (Jvm.Cond.code ({ cls := "java/lang/String", name := "startsWith", desc := "(Ljava/lang/String;)Z" } : Jvm.MethodName) jdk_42_method_76_code (2 : Nat) (Option.some Jvm.ClassFile.FieldType.boolean)).before args0 about1 = true := code_word (m := ⟨7, 6⟩) (meth := k7m6) (c := k7c6) (by decide +kernel) rfl rfl rfl (by decide +kernel)
set_option maxRecDepth 65536 in
theorem w_c11 : (Jvm.Cond.code ({ cls := "java/lang/String", name := "startsWith", desc := "(Ljava/lang/String;I)Z" } : Jvm.MethodName) jdk_42_method_75_code (8 : Nat) (Option.some Jvm.ClassFile.FieldType.boolean)).before args0 about1 = true := code_word (m := ⟨7, 5⟩) (meth := k7m5) (c := k7c5) (by decide +kernel) rfl rfl rfl (by decide +kernel)
set_option maxRecDepth 65536 in
theorem w_c12 : (Jvm.Cond.code ({ cls := "java/lang/String", name := "length", desc := "()I" } : Jvm.MethodName) jdk_42_method_54_code (1 : Nat) (Option.some Jvm.ClassFile.FieldType.int)).before args0 about1 = true := code_word (m := ⟨7, 3⟩) (meth := k7m3) (c := k7c3) (by decide +kernel) rfl rfl rfl (by decide +kernel)
set_option maxRecDepth 65536 in
theorem w_c13 : (Jvm.Cond.code ({ cls := "java/lang/String", name := "coder", desc := "()B" } : Jvm.MethodName) jdk_42_method_152_code (1 : Nat) (Option.some Jvm.ClassFile.FieldType.byte)).before args0 about1 = true := code_word (m := ⟨7, 10⟩) (meth := k7m10) (c := k7c10) (by decide +kernel) rfl rfl rfl (by decide +kernel)
set_option maxRecDepth 65536 in
theorem w_c14 : (Jvm.Cond.code ({ cls := "java/lang/StringBuilder", name := "<init>", desc := "()V" } : Jvm.MethodName) jdk_67_method_1_code (1 : Nat) (Option.none : Option Jvm.ClassFile.FieldType)).before args0 about1 = true := code_word (m := ⟨15, 0⟩) (meth := k15m0) (c := k15c0) (by decide +kernel) rfl rfl rfl (by decide +kernel)
set_option maxRecDepth 65536 in
theorem w_c15 : (Jvm.Cond.code ({ cls := "java/lang/AbstractStringBuilder", name := "<init>", desc := "(I)V" } : Jvm.MethodName) jdk_68_method_2_code (2 : Nat) (Option.none : Option Jvm.ClassFile.FieldType)).before args0 about1 = true := code_word (m := ⟨14, 1⟩) (meth := k14m1) (c := k14c1) (by decide +kernel) rfl rfl rfl (by decide +kernel)
set_option maxRecDepth 65536 in
theorem w_c16 : (Jvm.Cond.code ({ cls := "java/lang/StringBuilder", name := "append", desc := "(Ljava/lang/String;)Ljava/lang/StringBuilder;" } : Jvm.MethodName) jdk_67_method_7_code (2 : Nat) (Option.some (Jvm.ClassFile.FieldType.object "java/lang/StringBuilder"))).before args0 about1 = true := code_word (m := ⟨15, 1⟩) (meth := k15m1) (c := k15c1) (by decide +kernel) rfl rfl rfl (by decide +kernel)
set_option maxRecDepth 65536 in
theorem w_c17 : (Jvm.Cond.code ({ cls := "java/lang/AbstractStringBuilder", name := "append", desc := "(Ljava/lang/String;)Ljava/lang/AbstractStringBuilder;" } : Jvm.MethodName) jdk_68_method_22_code (3 : Nat) (Option.some (Jvm.ClassFile.FieldType.object "java/lang/AbstractStringBuilder"))).before args0 about1 = true := code_word (m := ⟨14, 5⟩) (meth := k14m5) (c := k14c5) (by decide +kernel) rfl rfl rfl (by decide +kernel)
set_option maxRecDepth 65536 in
theorem w_c18 : (Jvm.Cond.code ({ cls := "java/lang/AbstractStringBuilder", name := "ensureCapacityInternal", desc := "(I)V" } : Jvm.MethodName) jdk_68_method_9_code (3 : Nat) (Option.none : Option Jvm.ClassFile.FieldType)).before args0 about1 = true := code_word (m := ⟨14, 3⟩) (meth := k14m3) (c := k14c3) (by decide +kernel) rfl rfl rfl (by decide +kernel)
set_option maxRecDepth 65536 in
theorem w_c19 : (Jvm.Cond.code ({ cls := "java/lang/AbstractStringBuilder", name := "newCapacity", desc := "(I)I" } : Jvm.MethodName) jdk_68_method_10_code (6 : Nat) (Option.some Jvm.ClassFile.FieldType.int)).before args0 about1 = true := code_word (m := ⟨14, 4⟩) (meth := k14m4) (c := k14c4) (by decide +kernel) rfl rfl rfl (by decide +kernel)
set_option maxRecDepth 65536 in
theorem w_c20 : (Jvm.Cond.code ({ cls := "jdk/internal/util/ArraysSupport", name := "newLength", desc := "(III)I" } : Jvm.MethodName) jdk_48_method_27_code (4 : Nat) (Option.some Jvm.ClassFile.FieldType.int)).before args0 about1 = true := code_word (m := ⟨16, 2⟩) (meth := k16m2) (c := k16c2) (by decide +kernel) rfl rfl rfl (by decide +kernel)
set_option maxRecDepth 65536 in
theorem w_c21 : (Jvm.Cond.code ({ cls := "java/lang/Math", name := "max", desc := "(II)I" } : Jvm.MethodName) jdk_29_method_65_code (2 : Nat) (Option.some Jvm.ClassFile.FieldType.int)).before args0 about1 = true := code_word (m := ⟨17, 1⟩) (meth := k17m1) (c := k17c1) (by decide +kernel) rfl rfl rfl (by decide +kernel)
set_option maxRecDepth 65536 in
theorem w_c22 : (Jvm.Cond.code ({ cls := "java/util/Arrays", name := "copyOf", desc := "([BI)[B" } : Jvm.MethodName) jdk_65_method_121_code (3 : Nat) (Option.some (Jvm.ClassFile.FieldType.array Jvm.ClassFile.FieldType.byte))).before args0 about1 = true := code_word (m := ⟨18, 1⟩) (meth := k18m1) (c := k18c1) (by decide +kernel) rfl rfl rfl (by decide +kernel)
set_option maxRecDepth 65536 in
theorem w_c23 : (Jvm.Cond.code ({ cls := "java/lang/Math", name := "min", desc := "(II)I" } : Jvm.MethodName) jdk_29_method_69_code (2 : Nat) (Option.some Jvm.ClassFile.FieldType.int)).before args0 about1 = true := code_word (m := ⟨17, 2⟩) (meth := k17m2) (c := k17c2) (by decide +kernel) rfl rfl rfl (by decide +kernel)
set_option maxRecDepth 65536 in
theorem w_c24 : (Jvm.Cond.code ({ cls := "java/lang/AbstractStringBuilder", name := "putStringAt", desc := "(ILjava/lang/String;)V" } : Jvm.MethodName) jdk_68_method_73_code (3 : Nat) (Option.none : Option Jvm.ClassFile.FieldType)).before args0 about1 = true := code_word (m := ⟨14, 9⟩) (meth := k14m9) (c := k14c9) (by decide +kernel) rfl rfl rfl (by decide +kernel)
set_option maxRecDepth 65536 in
theorem w_c25 : (Jvm.Cond.code ({ cls := "java/lang/AbstractStringBuilder", name := "inflateIfNeededFor", desc := "(Ljava/lang/String;)V" } : Jvm.MethodName) jdk_68_method_71_code (2 : Nat) (Option.none : Option Jvm.ClassFile.FieldType)).before args0 about1 = true := code_word (m := ⟨14, 8⟩) (meth := k14m8) (c := k14c8) (by decide +kernel) rfl rfl rfl (by decide +kernel)
set_option maxRecDepth 65536 in
theorem w_c26 : (Jvm.Cond.code ({ cls := "java/lang/String", name := "getBytes", desc := "([BIB)V" } : Jvm.MethodName) jdk_42_method_147_code (4 : Nat) (Option.none : Option Jvm.ClassFile.FieldType)).before args0 about1 = true := code_word (m := ⟨7, 7⟩) (meth := k7m7) (c := k7c7) (by decide +kernel) rfl rfl rfl (by decide +kernel)
set_option maxRecDepth 65536 in
theorem w_c27 : (Jvm.Cond.code ({ cls := "java/lang/StringBuilder", name := "toString", desc := "()Ljava/lang/String;" } : Jvm.MethodName) jdk_67_method_42_code (1 : Nat) (Option.some (Jvm.ClassFile.FieldType.object "java/lang/String"))).before args0 about1 = true := code_word (m := ⟨15, 2⟩) (meth := k15m2) (c := k15c2) (by decide +kernel) rfl rfl rfl (by decide +kernel)
set_option maxRecDepth 65536 in
theorem w_c28 : (Jvm.Cond.code ({ cls := "java/lang/String", name := "<init>", desc := "(Ljava/lang/StringBuilder;)V" } : Jvm.MethodName) jdk_42_method_53_code (2 : Nat) (Option.none : Option Jvm.ClassFile.FieldType)).before args0 about1 = true := code_word (m := ⟨7, 2⟩) (meth := k7m2) (c := k7c2) (by decide +kernel) rfl rfl rfl (by decide +kernel)
set_option maxRecDepth 65536 in
theorem w_c29 : (Jvm.Cond.code ({ cls := "java/lang/String", name := "<init>", desc := "(Ljava/lang/AbstractStringBuilder;Ljava/lang/Void;)V" } : Jvm.MethodName) jdk_42_method_150_code (5 : Nat) (Option.none : Option Jvm.ClassFile.FieldType)).before args0 about1 = true := code_word (m := ⟨7, 9⟩) (meth := k7m9) (c := k7c9) (by decide +kernel) rfl rfl rfl (by decide +kernel)
set_option maxRecDepth 65536 in
theorem w_c30 : (Jvm.Cond.code ({ cls := "java/lang/AbstractStringBuilder", name := "getValue", desc := "()[B" } : Jvm.MethodName) jdk_68_method_64_code (1 : Nat) (Option.some (Jvm.ClassFile.FieldType.array Jvm.ClassFile.FieldType.byte))).before args0 about1 = true := code_word (m := ⟨14, 6⟩) (meth := k14m6) (c := k14c6) (by decide +kernel) rfl rfl rfl (by decide +kernel)
set_option maxRecDepth 65536 in
theorem w_c31 : (Jvm.Cond.code ({ cls := "java/lang/StringBuilder", name := "length", desc := "()I" } : Jvm.MethodName) jdk_67_method_93_code (1 : Nat) (Option.some Jvm.ClassFile.FieldType.int)).before args0 about1 = true := code_word (m := ⟨15, 3⟩) (meth := k15m3) (c := k15c3) (by decide +kernel) rfl rfl rfl (by decide +kernel)
set_option maxRecDepth 65536 in
theorem w_c32 : (Jvm.Cond.code ({ cls := "java/lang/AbstractStringBuilder", name := "length", desc := "()I" } : Jvm.MethodName) jdk_68_method_6_code (1 : Nat) (Option.some Jvm.ClassFile.FieldType.int)).before args0 about1 = true := code_word (m := ⟨14, 2⟩) (meth := k14m2) (c := k14c2) (by decide +kernel) rfl rfl rfl (by decide +kernel)
set_option maxRecDepth 65536 in
theorem w_c33 : (Jvm.Cond.code ({ cls := "java/lang/AbstractStringBuilder", name := "isLatin1", desc := "()Z" } : Jvm.MethodName) jdk_68_method_68_code (1 : Nat) (Option.some Jvm.ClassFile.FieldType.boolean)).before args0 about1 = true := code_word (m := ⟨14, 7⟩) (meth := k14m7) (c := k14c7) (by decide +kernel) rfl rfl rfl (by decide +kernel)
set_option maxRecDepth 65536 in
theorem w_c34 : (Jvm.Cond.code ({ cls := "java/util/Arrays", name := "copyOfRange", desc := "([BII)[B" } : Jvm.MethodName) jdk_65_method_132_code (3 : Nat) (Option.some (Jvm.ClassFile.FieldType.array Jvm.ClassFile.FieldType.byte))).before args0 about1 = true := code_word (m := ⟨18, 3⟩) (meth := k18m3) (c := k18c3) (by decide +kernel) rfl rfl rfl (by decide +kernel)
set_option maxRecDepth 65536 in
theorem w_c35 : (Jvm.Cond.code ({ cls := "java/util/Arrays", name := "copyOfRangeByte", desc := "([BII)[B" } : Jvm.MethodName) jdk_65_method_133_code (5 : Nat) (Option.some (Jvm.ClassFile.FieldType.array Jvm.ClassFile.FieldType.byte))).before args0 about1 = true := code_word (m := ⟨18, 4⟩) (meth := k18m4) (c := k18c4) (by decide +kernel) rfl rfl rfl (by decide +kernel)
set_option maxRecDepth 65536 in
theorem w_c36 : (Jvm.Cond.code ({ cls := "java/util/Arrays", name := "checkLength", desc := "(II)V" } : Jvm.MethodName) jdk_65_method_131_code (2 : Nat) (Option.none : Option Jvm.ClassFile.FieldType)).before args0 about1 = true := code_word (m := ⟨18, 2⟩) (meth := k18m2) (c := k18c2) (by decide +kernel) rfl rfl rfl (by decide +kernel)
set_option maxRecDepth 65536 in
theorem w_c37 : (Jvm.Cond.code ({ cls := "com/example/loopd/loopd/UsageException", name := "<init>", desc := "(Ljava/lang/String;)V" } : Jvm.MethodName) prog_4_method_1_code (2 : Nat) (Option.none : Option Jvm.ClassFile.FieldType)).before args0 about1 = true := code_word (m := ⟨12, 0⟩) (meth := k12m0) (c := k12c0) (by decide +kernel) rfl rfl rfl (by decide +kernel)
set_option maxRecDepth 65536 in
theorem w_c38 : (Jvm.Cond.code ({ cls := "java/lang/Exception", name := "<init>", desc := "(Ljava/lang/String;)V" } : Jvm.MethodName) jdk_59_method_2_code (2 : Nat) (Option.none : Option Jvm.ClassFile.FieldType)).before args0 about1 = true := code_word (m := ⟨11, 1⟩) (meth := k11m1) (c := k11c1) (by decide +kernel) rfl rfl rfl (by decide +kernel)
set_option maxRecDepth 65536 in
theorem w_c39 : (Jvm.Cond.code ({ cls := "java/lang/Throwable", name := "<init>", desc := "(Ljava/lang/String;)V" } : Jvm.MethodName) jdk_78_method_2_code (2 : Nat) (Option.none : Option Jvm.ClassFile.FieldType)).before args0 about1 = true := code_word (m := ⟨10, 1⟩) (meth := k10m1) (c := k10c1) (by decide +kernel) rfl rfl rfl (by decide +kernel)
set_option maxRecDepth 65536 in
theorem w_c40 : (Jvm.Cond.code ({ cls := "java/lang/Throwable", name := "<init>", desc := "()V" } : Jvm.MethodName) jdk_78_method_1_code (1 : Nat) (Option.none : Option Jvm.ClassFile.FieldType)).before args0 about1 = true := code_word (m := ⟨10, 0⟩) (meth := k10m0) (c := k10c0) (by decide +kernel) rfl rfl rfl (by decide +kernel)
set_option maxRecDepth 65536 in
theorem w_c41 : (Jvm.Cond.code ({ cls := "java/lang/Throwable", name := "getMessage", desc := "()Ljava/lang/String;" } : Jvm.MethodName) jdk_78_method_6_code (1 : Nat) (Option.some (Jvm.ClassFile.FieldType.object "java/lang/String"))).before args0 about1 = true := code_word (m := ⟨10, 2⟩) (meth := k10m2) (c := k10c2) (by decide +kernel) rfl rfl rfl (by decide +kernel)
set_option maxRecDepth 65536 in
theorem w_c42 : (Jvm.Cond.code ({ cls := "java/lang/String", name := "equals", desc := "(Ljava/lang/Object;)Z" } : Jvm.MethodName) jdk_42_method_66_code (3 : Nat) (Option.some Jvm.ClassFile.FieldType.boolean)).before args0 about1 = true := code_word (m := ⟨7, 4⟩) (meth := k7m4) (c := k7c4) (by decide +kernel) rfl rfl rfl (by decide +kernel)
set_option maxRecDepth 65536 in
theorem w_c43 : (Jvm.Cond.code ({ cls := "java/lang/StringLatin1", name := "equals", desc := "([B[B)Z" } : Jvm.MethodName) jdk_43_method_13_code (3 : Nat) (Option.some Jvm.ClassFile.FieldType.boolean)).before args0 about1 = true := code_word (m := ⟨20, 1⟩) (meth := k20m1) (c := k20c1) (by decide +kernel) rfl rfl rfl (by decide +kernel)
set_option maxRecDepth 65536 in
theorem w_c44 : (Jvm.Cond.code ({ cls := "jdk/internal/util/ArraysSupport", name := "mismatch", desc := "([BI[BII)I" } : Jvm.MethodName) jdk_48_method_14_code (8 : Nat) (Option.some Jvm.ClassFile.FieldType.int)).before args0 about1 = true := code_word (m := ⟨16, 1⟩) (meth := k16m1) (c := k16c1) (by decide +kernel) rfl rfl rfl (by decide +kernel)
def codes1 : List Jvm.Cond := [Jvm.Cond.code x code maxLocals ret, Jvm.Cond.code ({ cls := "com/example/loopd/loopd/FlagsUnexpectedPinLaw", name := "makeWord", desc := "(ICCC)Ljava/lang/String;" } : Jvm.MethodName) method_3_code (4 : Nat) (Option.some (Jvm.ClassFile.FieldType.object "java/lang/String")), Jvm.Cond.code ({ cls := "java/lang/String", name := "<init>", desc := "([C)V" } : Jvm.MethodName) jdk_42_method_3_code (2 : Nat) (Option.none : Option Jvm.ClassFile.FieldType), Jvm.Cond.code ({ cls := "java/lang/String", name := "<init>", desc := "([CIILjava/lang/Void;)V" } : Jvm.MethodName) jdk_42_method_149_code (6 : Nat) (Option.none : Option Jvm.ClassFile.FieldType), Jvm.Cond.code ({ cls := "java/lang/Object", name := "<init>", desc := "()V" } : Jvm.MethodName) object_method_1_code (1 : Nat) (Option.none : Option Jvm.ClassFile.FieldType), Jvm.Cond.code ({ cls := "com/example/loopd/loopd/FlagsUnexpectedPinLaw", name := "expected", desc := "(ZICCC)Ljava/lang/String;" } : Jvm.MethodName) method_4_code (5 : Nat) (Option.some (Jvm.ClassFile.FieldType.object "java/lang/String")), Jvm.Cond.code ({ cls := "java/lang/StringUTF16", name := "compress", desc := "([CII)[B" } : Jvm.MethodName) jdk_52_method_16_code (6 : Nat) (Option.some (Jvm.ClassFile.FieldType.array Jvm.ClassFile.FieldType.byte)), Jvm.Cond.code ({ cls := "java/lang/StringUTF16", name := "compress", desc := "([CI[BII)I" } : Jvm.MethodName) jdk_52_method_21_code (7 : Nat) (Option.some Jvm.ClassFile.FieldType.int), Jvm.Cond.code ({ cls := "java/lang/StringUTF16", name := "coderFromArrayLen", desc := "([BI)B" } : Jvm.MethodName) jdk_52_method_15_code (2 : Nat) (Option.some Jvm.ClassFile.FieldType.byte), Jvm.Cond.code ({ cls := "com/example/loopd/loopd/Flags", name := "unexpected", desc := "(Ljava/lang/String;)Lcom/example/loopd/loopd/UsageException;" } : Jvm.MethodName) prog_1_method_4_code (1 : Nat) (Option.some (Jvm.ClassFile.FieldType.object "com/example/loopd/loopd/UsageException")), Jvm.Cond.code ({ cls := "java/lang/String", name := "startsWith", desc := "(Ljava/lang/String;)Z" } : Jvm.MethodName) jdk_42_method_76_code (2 : Nat) (Option.some Jvm.ClassFile.FieldType.boolean), Jvm.Cond.code ({ cls := "java/lang/String", name := "startsWith", desc := "(Ljava/lang/String;I)Z" } : Jvm.MethodName) jdk_42_method_75_code (8 : Nat) (Option.some Jvm.ClassFile.FieldType.boolean), Jvm.Cond.code ({ cls := "java/lang/String", name := "length", desc := "()I" } : Jvm.MethodName) jdk_42_method_54_code (1 : Nat) (Option.some Jvm.ClassFile.FieldType.int), Jvm.Cond.code ({ cls := "java/lang/String", name := "coder", desc := "()B" } : Jvm.MethodName) jdk_42_method_152_code (1 : Nat) (Option.some Jvm.ClassFile.FieldType.byte), Jvm.Cond.code ({ cls := "java/lang/StringBuilder", name := "<init>", desc := "()V" } : Jvm.MethodName) jdk_67_method_1_code (1 : Nat) (Option.none : Option Jvm.ClassFile.FieldType), Jvm.Cond.code ({ cls := "java/lang/AbstractStringBuilder", name := "<init>", desc := "(I)V" } : Jvm.MethodName) jdk_68_method_2_code (2 : Nat) (Option.none : Option Jvm.ClassFile.FieldType), Jvm.Cond.code ({ cls := "java/lang/StringBuilder", name := "append", desc := "(Ljava/lang/String;)Ljava/lang/StringBuilder;" } : Jvm.MethodName) jdk_67_method_7_code (2 : Nat) (Option.some (Jvm.ClassFile.FieldType.object "java/lang/StringBuilder")), Jvm.Cond.code ({ cls := "java/lang/AbstractStringBuilder", name := "append", desc := "(Ljava/lang/String;)Ljava/lang/AbstractStringBuilder;" } : Jvm.MethodName) jdk_68_method_22_code (3 : Nat) (Option.some (Jvm.ClassFile.FieldType.object "java/lang/AbstractStringBuilder")), Jvm.Cond.code ({ cls := "java/lang/AbstractStringBuilder", name := "ensureCapacityInternal", desc := "(I)V" } : Jvm.MethodName) jdk_68_method_9_code (3 : Nat) (Option.none : Option Jvm.ClassFile.FieldType), Jvm.Cond.code ({ cls := "java/lang/AbstractStringBuilder", name := "newCapacity", desc := "(I)I" } : Jvm.MethodName) jdk_68_method_10_code (6 : Nat) (Option.some Jvm.ClassFile.FieldType.int), Jvm.Cond.code ({ cls := "jdk/internal/util/ArraysSupport", name := "newLength", desc := "(III)I" } : Jvm.MethodName) jdk_48_method_27_code (4 : Nat) (Option.some Jvm.ClassFile.FieldType.int), Jvm.Cond.code ({ cls := "java/lang/Math", name := "max", desc := "(II)I" } : Jvm.MethodName) jdk_29_method_65_code (2 : Nat) (Option.some Jvm.ClassFile.FieldType.int), Jvm.Cond.code ({ cls := "java/util/Arrays", name := "copyOf", desc := "([BI)[B" } : Jvm.MethodName) jdk_65_method_121_code (3 : Nat) (Option.some (Jvm.ClassFile.FieldType.array Jvm.ClassFile.FieldType.byte)), Jvm.Cond.code ({ cls := "java/lang/Math", name := "min", desc := "(II)I" } : Jvm.MethodName) jdk_29_method_69_code (2 : Nat) (Option.some Jvm.ClassFile.FieldType.int), Jvm.Cond.code ({ cls := "java/lang/AbstractStringBuilder", name := "putStringAt", desc := "(ILjava/lang/String;)V" } : Jvm.MethodName) jdk_68_method_73_code (3 : Nat) (Option.none : Option Jvm.ClassFile.FieldType), Jvm.Cond.code ({ cls := "java/lang/AbstractStringBuilder", name := "inflateIfNeededFor", desc := "(Ljava/lang/String;)V" } : Jvm.MethodName) jdk_68_method_71_code (2 : Nat) (Option.none : Option Jvm.ClassFile.FieldType), Jvm.Cond.code ({ cls := "java/lang/String", name := "getBytes", desc := "([BIB)V" } : Jvm.MethodName) jdk_42_method_147_code (4 : Nat) (Option.none : Option Jvm.ClassFile.FieldType), Jvm.Cond.code ({ cls := "java/lang/StringBuilder", name := "toString", desc := "()Ljava/lang/String;" } : Jvm.MethodName) jdk_67_method_42_code (1 : Nat) (Option.some (Jvm.ClassFile.FieldType.object "java/lang/String")), Jvm.Cond.code ({ cls := "java/lang/String", name := "<init>", desc := "(Ljava/lang/StringBuilder;)V" } : Jvm.MethodName) jdk_42_method_53_code (2 : Nat) (Option.none : Option Jvm.ClassFile.FieldType), Jvm.Cond.code ({ cls := "java/lang/String", name := "<init>", desc := "(Ljava/lang/AbstractStringBuilder;Ljava/lang/Void;)V" } : Jvm.MethodName) jdk_42_method_150_code (5 : Nat) (Option.none : Option Jvm.ClassFile.FieldType), Jvm.Cond.code ({ cls := "java/lang/AbstractStringBuilder", name := "getValue", desc := "()[B" } : Jvm.MethodName) jdk_68_method_64_code (1 : Nat) (Option.some (Jvm.ClassFile.FieldType.array Jvm.ClassFile.FieldType.byte)), Jvm.Cond.code ({ cls := "java/lang/StringBuilder", name := "length", desc := "()I" } : Jvm.MethodName) jdk_67_method_93_code (1 : Nat) (Option.some Jvm.ClassFile.FieldType.int), Jvm.Cond.code ({ cls := "java/lang/AbstractStringBuilder", name := "length", desc := "()I" } : Jvm.MethodName) jdk_68_method_6_code (1 : Nat) (Option.some Jvm.ClassFile.FieldType.int), Jvm.Cond.code ({ cls := "java/lang/AbstractStringBuilder", name := "isLatin1", desc := "()Z" } : Jvm.MethodName) jdk_68_method_68_code (1 : Nat) (Option.some Jvm.ClassFile.FieldType.boolean), Jvm.Cond.code ({ cls := "java/util/Arrays", name := "copyOfRange", desc := "([BII)[B" } : Jvm.MethodName) jdk_65_method_132_code (3 : Nat) (Option.some (Jvm.ClassFile.FieldType.array Jvm.ClassFile.FieldType.byte)), Jvm.Cond.code ({ cls := "java/util/Arrays", name := "copyOfRangeByte", desc := "([BII)[B" } : Jvm.MethodName) jdk_65_method_133_code (5 : Nat) (Option.some (Jvm.ClassFile.FieldType.array Jvm.ClassFile.FieldType.byte)), Jvm.Cond.code ({ cls := "java/util/Arrays", name := "checkLength", desc := "(II)V" } : Jvm.MethodName) jdk_65_method_131_code (2 : Nat) (Option.none : Option Jvm.ClassFile.FieldType), Jvm.Cond.code ({ cls := "com/example/loopd/loopd/UsageException", name := "<init>", desc := "(Ljava/lang/String;)V" } : Jvm.MethodName) prog_4_method_1_code (2 : Nat) (Option.none : Option Jvm.ClassFile.FieldType), Jvm.Cond.code ({ cls := "java/lang/Exception", name := "<init>", desc := "(Ljava/lang/String;)V" } : Jvm.MethodName) jdk_59_method_2_code (2 : Nat) (Option.none : Option Jvm.ClassFile.FieldType), Jvm.Cond.code ({ cls := "java/lang/Throwable", name := "<init>", desc := "(Ljava/lang/String;)V" } : Jvm.MethodName) jdk_78_method_2_code (2 : Nat) (Option.none : Option Jvm.ClassFile.FieldType), Jvm.Cond.code ({ cls := "java/lang/Throwable", name := "<init>", desc := "()V" } : Jvm.MethodName) jdk_78_method_1_code (1 : Nat) (Option.none : Option Jvm.ClassFile.FieldType), Jvm.Cond.code ({ cls := "java/lang/Throwable", name := "getMessage", desc := "()Ljava/lang/String;" } : Jvm.MethodName) jdk_78_method_6_code (1 : Nat) (Option.some (Jvm.ClassFile.FieldType.object "java/lang/String")), Jvm.Cond.code ({ cls := "java/lang/String", name := "equals", desc := "(Ljava/lang/Object;)Z" } : Jvm.MethodName) jdk_42_method_66_code (3 : Nat) (Option.some Jvm.ClassFile.FieldType.boolean), Jvm.Cond.code ({ cls := "java/lang/StringLatin1", name := "equals", desc := "([B[B)Z" } : Jvm.MethodName) jdk_43_method_13_code (3 : Nat) (Option.some Jvm.ClassFile.FieldType.boolean), Jvm.Cond.code ({ cls := "jdk/internal/util/ArraysSupport", name := "mismatch", desc := "([BI[BII)I" } : Jvm.MethodName) jdk_48_method_14_code (8 : Nat) (Option.some Jvm.ClassFile.FieldType.int)]
set_option maxRecDepth 65536 in
theorem codes_eq : words1.filter isCode = codes1 := rfl
theorem w_codes : ∀ c ∈ words1.filter isCode, c.before args0 about1 = true := by
  rw [codes_eq]
  intro c hc
  simp only [codes1, List.mem_cons, List.not_mem_nil, or_false] at hc
  rcases hc with rfl | rfl | rfl | rfl | rfl | rfl | rfl | rfl | rfl | rfl | rfl | rfl | rfl | rfl | rfl | rfl | rfl | rfl | rfl | rfl | rfl | rfl | rfl | rfl | rfl | rfl | rfl | rfl | rfl | rfl | rfl | rfl | rfl | rfl | rfl | rfl | rfl | rfl | rfl | rfl | rfl | rfl | rfl | rfl | rfl
  · exact w_c0
  · exact w_c1
  · exact w_c2
  · exact w_c3
  · exact w_c4
  · exact w_c5
  · exact w_c6
  · exact w_c7
  · exact w_c8
  · exact w_c9
  · exact w_c10
  · exact w_c11
  · exact w_c12
  · exact w_c13
  · exact w_c14
  · exact w_c15
  · exact w_c16
  · exact w_c17
  · exact w_c18
  · exact w_c19
  · exact w_c20
  · exact w_c21
  · exact w_c22
  · exact w_c23
  · exact w_c24
  · exact w_c25
  · exact w_c26
  · exact w_c27
  · exact w_c28
  · exact w_c29
  · exact w_c30
  · exact w_c31
  · exact w_c32
  · exact w_c33
  · exact w_c34
  · exact w_c35
  · exact w_c36
  · exact w_c37
  · exact w_c38
  · exact w_c39
  · exact w_c40
  · exact w_c41
  · exact w_c42
  · exact w_c43
  · exact w_c44
set_option maxRecDepth 65536 in
theorem w_t1 : (words1.take 24).all (fun c => isCode c || c.before args0 about1) = true := by decide +kernel
set_option maxRecDepth 65536 in
theorem w_t2 : ((words1.drop 24).take 24).all (fun c => isCode c || c.before args0 about1) = true := by decide +kernel
set_option maxRecDepth 65536 in
theorem w_t3 : (((words1.drop 24).drop 24).take 24).all (fun c => isCode c || c.before args0 about1) = true := by decide +kernel
set_option maxRecDepth 65536 in
theorem w_t4 : ((((words1.drop 24).drop 24).drop 24).take 24).all (fun c => isCode c || c.before args0 about1) = true := by decide +kernel
set_option maxRecDepth 65536 in
theorem w_t5 : (((((words1.drop 24).drop 24).drop 24).drop 24).take 24).all (fun c => isCode c || c.before args0 about1) = true := by decide +kernel
set_option maxRecDepth 65536 in
theorem w_t6 : ((((((words1.drop 24).drop 24).drop 24).drop 24).drop 24).take 24).all (fun c => isCode c || c.before args0 about1) = true := by decide +kernel
set_option maxRecDepth 65536 in
theorem w_t7 : (((((((words1.drop 24).drop 24).drop 24).drop 24).drop 24).drop 24).take 24).all (fun c => isCode c || c.before args0 about1) = true := by decide +kernel
set_option maxRecDepth 65536 in
theorem w_t8 : ((((((((words1.drop 24).drop 24).drop 24).drop 24).drop 24).drop 24).drop 24).take 24).all (fun c => isCode c || c.before args0 about1) = true := by decide +kernel
set_option maxRecDepth 65536 in
theorem w_t9 : (((((((((words1.drop 24).drop 24).drop 24).drop 24).drop 24).drop 24).drop 24).drop 24).take 24).all (fun c => isCode c || c.before args0 about1) = true := by decide +kernel
set_option maxRecDepth 65536 in
theorem w_t10 : ((((((((((words1.drop 24).drop 24).drop 24).drop 24).drop 24).drop 24).drop 24).drop 24).drop 24).take 24).all (fun c => isCode c || c.before args0 about1) = true := by decide +kernel
set_option maxRecDepth 65536 in
theorem w_t11 : (((((((((((words1.drop 24).drop 24).drop 24).drop 24).drop 24).drop 24).drop 24).drop 24).drop 24).drop 24).take 24).all (fun c => isCode c || c.before args0 about1) = true := by decide +kernel
set_option maxRecDepth 65536 in
theorem w_t12 : (((((((((((words1.drop 24).drop 24).drop 24).drop 24).drop 24).drop 24).drop 24).drop 24).drop 24).drop 24).drop 24).all (fun c => isCode c || c.before args0 about1) = true := by decide +kernel
theorem w_tables : (allAtoms (Jvm.Cond.code x code maxLocals ret :: tables_1)).before args0 about1 = true := by
  rw [allAtoms_all]
  show words1.all (fun c => c.before args0 about1) = true
  refine all_split ?_ w_codes
  rw [← List.take_append_drop 24 words1, List.all_append, w_t1, ← List.take_append_drop 24 (words1.drop 24), List.all_append, w_t2, ← List.take_append_drop 24 ((words1.drop 24).drop 24), List.all_append, w_t3, ← List.take_append_drop 24 (((words1.drop 24).drop 24).drop 24), List.all_append, w_t4, ← List.take_append_drop 24 ((((words1.drop 24).drop 24).drop 24).drop 24), List.all_append, w_t5, ← List.take_append_drop 24 (((((words1.drop 24).drop 24).drop 24).drop 24).drop 24), List.all_append, w_t6, ← List.take_append_drop 24 ((((((words1.drop 24).drop 24).drop 24).drop 24).drop 24).drop 24), List.all_append, w_t7, ← List.take_append_drop 24 (((((((words1.drop 24).drop 24).drop 24).drop 24).drop 24).drop 24).drop 24), List.all_append, w_t8, ← List.take_append_drop 24 ((((((((words1.drop 24).drop 24).drop 24).drop 24).drop 24).drop 24).drop 24).drop 24), List.all_append, w_t9, ← List.take_append_drop 24 (((((((((words1.drop 24).drop 24).drop 24).drop 24).drop 24).drop 24).drop 24).drop 24).drop 24), List.all_append, w_t10, ← List.take_append_drop 24 ((((((((((words1.drop 24).drop 24).drop 24).drop 24).drop 24).drop 24).drop 24).drop 24).drop 24).drop 24), List.all_append, w_t11, w_t12]
  rfl
set_option maxRecDepth 65536 in
theorem w_rest : rest_1_c.before args0 about1 = true := by decide +kernel
set_option maxRecDepth 65536 in
theorem w_case : (Jvm.Cond.and given_1 narrow_1).before args0 about1 = true := by decide +kernel
set_option maxRecDepth 65536 in
theorem w_consts : constsHeld consts_1 about1 := Jvm.Lit.constsHeldB_iff.mp (by decide +kernel)
theorem w_applies : (headSpec (Jvm.Cond.code x code maxLocals ret :: tables_1) room_1).applies x e0.platform about1 = true :=
  (Spec.applies_iff w_frames).mpr ⟨w_running, w_runnable, w_alone, w_named, w_hears, w_ripe, w_room, w_tables⟩
theorem atStart : AtStart classFile x code maxLocals ret World_1 tables_1 room_1 Calls_1 rest_1 Pre_1 launch0 p0 e0 about1 theMethod args0 below0 :=
  ⟨lists_1, trivial, launch0.admits_env _ _ _, launch0.least_env, fairChoices_fair.cas, fairChoices_fair.clock, w_frames, w_args, w_heap, w_applies, ⟨(by decide +kernel : framesKnown about1 = true), ⟨(by decide +kernel : tablesKnown about1 = true), ⟨w_consts, trivial⟩⟩⟩, w_rest, w_case⟩
end start1
theorem witness_1 : WitnessClaimed_1 := ⟨start1.p0, start1.e0, start1.about1, start1.theMethod, start1.args0, start1.below0, start1.atStart⟩
end Jvm.Pilot.@@N@@
